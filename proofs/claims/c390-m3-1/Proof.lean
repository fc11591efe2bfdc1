import JvmDerived
import JvmDerived.Pilot.@@N@@Statement
import JvmDerived.Pilot.@@N@@Code
set_option linter.unusedVariables false
set_option linter.unusedSimpArgs false
namespace Jvm.RoadKit
open Sem ClassFile Op Lib Jvm.Stand Jvm.Free Jvm.LawKit
section New
variable {p : Program} {l : Launch} {e : Env} {R : Room} {s : State} {m : MethodId} {args : Array Value} {below : List Frame} {meth : Method} {c : Code} {T : State} {locs : List Loc} {cells slots : Nat}
theorem retI (X : Stand p l e R s m args below meth c T locs cells slots) (hx : p.tables.exec = Jvm.exec) {pc : Nat} {Ls : Array Slot} {z : Int32} {rest : List Value} (hret : meth.sig.returnType = some .int) (hd : decode c.code pc = .ok (.ireturn, 1)) {fs : List Frame}
    (hl : ∀ (f : JFrame) (acts : List Action), f.method = m → f.locked = none → f.entered = [] → (doReturn e (T.setTop f) acts (some (.int z))).1 = T.setFrames fs) : Steps p.tables e below (T.setTop (mkF m pc Ls (.int z :: rest))) (T.setFrames fs) :=
  retOut X hx hret rfl (Or.inl ⟨rfl, Or.inl rfl, z, rfl⟩) hd hl
end New
end Jvm.RoadKit
/- laws to paste: Road.chN, Road.codOf, shr0, shr1, pair_says, wide_lo, wide_hi (cut by pick.py; bodies as the Statement names them) -/
namespace Jvm.Pilot.@@N@@
namespace StrChars
open Jvm Sem ClassFile Op Lib Jvm.Stand Jvm.Free.XT Jvm.Free.ALB Jvm.Free.JM Jvm.Free
open Jvm.Lib.Cold (StaticIs)
/-- a char array whose places are chars -/
def Ch (a : Addr) (A : Cell) (U : State) : Prop := Arr .char a A U ∧ Typed .char A
theorem Ch.mv {a : Addr} {A : Cell} {U U' : State} (h : Ch a A U) (hal : U.vm.Alike U'.vm) (hh : U'.heap = U.heap) : Ch a A U' := ⟨h.1.mv hal hh, h.2⟩
theorem Ch.keep {a : Addr} {A : Cell} {U U' : State} (h : Ch a A U) (hal : U.vm.Alike U'.vm) (hk : U'.heap[a]? = some A) : Ch a A U' := ⟨h.1.keep hal hk, h.2⟩
/-- what place i of a char[]'s cell holds -/
def cv (A : Cell) (i : Nat) : Int32 := match A.slots[i]? with | some (.int x) => x | _ => 0
theorem Ch.get {a : Addr} {A : Cell} {U : State} (h : Ch a A U) {i : Nat} (hi : i < A.slots.size) : A.slots[i]? = some (.int (cv A i)) := by
  have e := Array.getElem?_eq_getElem hi
  have f := h.2 i _ e
  unfold cv; rw [e]
  generalize A.slots[i] = v at f
  cases v <;> simp [fits] at f ⊢
/-- the byte that i2b leaves of a char -/
def lo8 (x : Int32) : Int32 := x.toInt8.toInt32
theorem fits_lo8 (y : Int32) : fits .byte (.int (lo8 y)) = true := by
  have h1 := y.toInt8.le_toInt
  have h2 := y.toInt8.toInt_lt
  simp only [lo8, fits, Bool.and_eq_true, decide_eq_true_eq, Int32.le_iff_toInt_le, Int8.toInt_toInt32, show (-128 : Int32).toInt = -128 from by decide, show (127 : Int32).toInt = 127 from by decide]
  omega
/-- A' is A but that each place j of lo .. hi - 1 holds f j -/
def Laid (A A' : Cell) (lo hi : Nat) (f : Nat → Value) : Prop := A'.cls = A.cls ∧ A'.vm = A.vm ∧ A'.slots.size = A.slots.size ∧ ∀ i, A'.slots[i]? = if lo ≤ i ∧ i < hi then some (f i) else A.slots[i]?
theorem Laid.zero (A : Cell) (lo : Nat) (f : Nat → Value) : Laid A A lo (lo + 0) f := ⟨rfl, rfl, rfl, fun i => by rw [if_neg (by omega)]⟩
theorem Laid.step {A Ak : Cell} {lo k : Nat} {f : Nat → Value} {v : Value} (h : Laid A Ak lo k f) (hlo : lo ≤ k) (hk : k < Ak.slots.size) (hv : v = f k) : Laid A (Ak.setSlot k v) lo (k + 1) f := by
  refine ⟨h.1, h.2.1, by simpa [Cell.setSlot] using h.2.2.1, fun i => ?_⟩
  by_cases e : k = i
  · subst e; rw [Cell.slots_setSlot_self v hk, if_pos (by omega), hv]
  · rw [Cell.slots_setSlot_ne v e, h.2.2.2 i]
    by_cases q : lo ≤ i ∧ i < k
    · rw [if_pos q, if_pos (by omega)]
    · rw [if_neg q, if_neg (by omega)]
def U16 : String := "java/lang/StringUTF16"
namespace Cmp5
def yN : MethodName := ⟨"java/lang/StringUTF16", "compress", "([CI[BII)I"⟩
abbrev yB : ByteArray := jdk_52_method_21_code
theorem d0 : decode yB 0 = .ok (.iconst 0, 1) := by decide +kernel
theorem d1 : decode yB 1 = .ok (.istore 5, 2) := by decide +kernel
theorem d3 : decode yB 3 = .ok (.iload 5, 2) := by decide +kernel
theorem d5 : decode yB 5 = .ok (.iload 4, 2) := by decide +kernel
theorem d7 : decode yB 7 = .ok (.if_icmp (.ge) 37, 3) := by decide +kernel
theorem d10 : decode yB 10 = .ok (.aload_n 0, 1) := by decide +kernel
theorem d11 : decode yB 11 = .ok (.iload_n 1, 1) := by decide +kernel
theorem d12 : decode yB 12 = .ok (.caload, 1) := by decide +kernel
theorem d13 : decode yB 13 = .ok (.istore 6, 2) := by decide +kernel
theorem d15 : decode yB 15 = .ok (.iload 6, 2) := by decide +kernel
theorem d17 : decode yB 17 = .ok (.sipush 255, 3) := by decide +kernel
theorem d20 : decode yB 20 = .ok (.if_icmp (.le) 6, 3) := by decide +kernel
theorem d26 : decode yB 26 = .ok (.aload_n 2, 1) := by decide +kernel
theorem d27 : decode yB 27 = .ok (.iload_n 3, 1) := by decide +kernel
theorem d28 : decode yB 28 = .ok (.iload 6, 2) := by decide +kernel
theorem d30 : decode yB 30 = .ok (.i2b, 1) := by decide +kernel
theorem d31 : decode yB 31 = .ok (.bastore, 1) := by decide +kernel
theorem d32 : decode yB 32 = .ok (.iinc 1 1, 3) := by decide +kernel
theorem d35 : decode yB 35 = .ok (.iinc 3 1, 3) := by decide +kernel
theorem d38 : decode yB 38 = .ok (.iinc 5 1, 3) := by decide +kernel
theorem d41 : decode yB 41 = .ok (.goto (-38), 3) := by decide +kernel
theorem d44 : decode yB 44 = .ok (.iload 4, 2) := by decide +kernel
theorem d46 : decode yB 46 = .ok (.ireturn, 1) := by decide +kernel
def site : List Cond := []
def tab : Cond := tabOf yN yB 7 (some .int) site
def P (b : Addr) (A : Cell) (d : Addr) (B : Cell) (o q len : Nat) (args : Array Value) (s : State) : Prop := args = #[.ref b, .int (Int32.ofNat o), .ref d, .int (Int32.ofNat q), .int (Int32.ofNat len)] ∧ Ch b A s ∧ Arr .byte d B s ∧ b ≠ d ∧ o + len ≤ A.slots.size ∧ q + len ≤ B.slots.size ∧ ∀ i, i < len → ¬ 255 < cv A (o + i)
def E (b : Addr) (A : Cell) (d : Addr) (B : Cell) (o q len : Nat) (r : Option Value) (s u : State) : Prop := r = some (.int (Int32.ofNat len)) ∧ ∃ B', Put d B' s u ∧ Laid B B' q (q + len) (fun j => Value.int (lo8 (cv A (o + (j - q)))))
/-- no char of the range above 255: len; the places written hold each char's low byte -/
theorem law (l : Launch) (b : Addr) (A : Cell) (d : Addr) (B : Cell) (o q len : Nat) : Law l yN 5 5 0 0 yB 7 (some .int) site (P b A d B o q len) (E b A d B o q len) (copyLocs d q len) 0 0 := by
  refine Law.of_walk (plainFor_of_name (by decide +kernel)) (by decide +kernel) (by decide +kernel) (by decide) (fun _ _ h => by rw [h.1]; rfl) (fun _ U U' hal hh h => ⟨h.1, h.2.1.mv hal hh, h.2.2.1.mv hal hh, h.2.2.2⟩) (fun r U U' V V' h1 hal h2 h => ⟨h.1, h.2.elim fun B' q => ⟨B', q.1.mv h1 h2, q.2⟩⟩) ?_
  intro p e s m args below meth c s₁ X0 hexec hbytes hml hret hlk hnm hown hh0 W hP
  obtain ⟨rfl, hA, hB, hne, l1, l2, hp⟩ := hP
  have c1 : Steps p.tables e below (s₁.setTop (entryFrame m #[.ref b, .int (Int32.ofNat o), .ref d, .int (Int32.ofNat q), .int (Int32.ofNat len)] 7)) (s₁.setTop (mkF m 0 #[.val (.ref b), .val (.int (Int32.ofNat o)), .val (.ref d), .val (.int (Int32.ofNat q)), .val (.int (Int32.ofNat len)), .unset, .unset] [])) := entry rfl
  have hA0 := hA.1.mv X0.warmed.alike hh0
  have hB0 := hB.mv X0.warmed.alike hh0
  have a31 := hA.1.2.2.2
  have c2 : Steps p.tables e below (s₁.setTop (entryFrame m #[.ref b, .int (Int32.ofNat o), .ref d, .int (Int32.ofNat q), .int (Int32.ofNat len)] 7)) (s₁.setTop (mkF m 3 #[.val (.ref b), .val (.int (Int32.ofNat o)), .val (.ref d), .val (.int (Int32.ofNat q)), .val (.int (Int32.ofNat len)), .val (.int 0), .unset] [])) := c1.trans (by
    refine iconstV X0.here hexec rfl 0 (hb hbytes d0) (by decide) ?_
    refine XS.istore X0.here hexec rfl (hb hbytes d1) rfl rfl ?_
    exact Steps.refl _)
  have loop : ∀ (r i : Nat), i + r = len → ∀ (z : Slot), (z = .unset ∨ ∃ w, z = .val w ∧ w.category = 1) → ∀ (Tl : State) (Bk : Cell), Stand p l e { frames := 0, locals := 0, cells := 0, slots := 0 } s m #[.ref b, .int (Int32.ofNat o), .ref d, .int (Int32.ofNat q), .int (Int32.ofNat len)] below meth c Tl ([] ++ copyLocs d q i) 0 0 → Put d Bk s₁ Tl → Laid B Bk q (q + i) (fun j => Value.int (lo8 (cv A (o + (j - q))))) →
      Steps p.tables e below (s₁.setTop (entryFrame m #[.ref b, .int (Int32.ofNat o), .ref d, .int (Int32.ofNat q), .int (Int32.ofNat len)] 7)) (Tl.setTop (mkF m 3 #[.val (.ref b), .val (.int (Int32.ofNat (o + i))), .val (.ref d), .val (.int (Int32.ofNat (q + i))), .val (.int (Int32.ofNat len)), .val (.int (Int32.ofNat i)), z] [])) → ∃ (T' : State) (B' : Cell) (z' : Slot), Stand p l e { frames := 0, locals := 0, cells := 0, slots := 0 } s m #[.ref b, .int (Int32.ofNat o), .ref d, .int (Int32.ofNat q), .int (Int32.ofNat len)] below meth c T' ([] ++ copyLocs d q len) 0 0 ∧ Put d B' s₁ T' ∧ Laid B B' q (q + len) (fun j => Value.int (lo8 (cv A (o + (j - q))))) ∧
      Steps p.tables e below (s₁.setTop (entryFrame m #[.ref b, .int (Int32.ofNat o), .ref d, .int (Int32.ofNat q), .int (Int32.ofNat len)] 7)) (T'.setTop (mkF m 3 #[.val (.ref b), .val (.int (Int32.ofNat (o + len))), .val (.ref d), .val (.int (Int32.ofNat (q + len))), .val (.int (Int32.ofNat len)), .val (.int (Int32.ofNat len)), z'] [])) := by
    intro r
    induction r with
    | zero =>
      intro i hi z hz Tl Bk Xl pl fl cl
      have hil : i = len := by omega
      rw [hil] at Xl fl cl
      exact ⟨Tl, Bk, z, Xl, pl, fl, cl⟩
    | succ r ih =>
      intro i hi z hz Tl Bk Xl pl fl cl
      have all := X0.warmed.alike.symm.trans Xl.warmed.alike
      have hAl := hA0.keep all (pl.other hne hA0.1)
      have hBk := hB0.like all pl.1 fl.1 fl.2.1 fl.2.2.1
      have hlt : q + i < Bk.slots.size := by rw [fl.2.2.1]; omega
      have c3 : Steps p.tables e below (s₁.setTop (entryFrame m #[.ref b, .int (Int32.ofNat o), .ref d, .int (Int32.ofNat q), .int (Int32.ofNat len)] 7)) (Tl.setTop (mkF m 12 #[.val (.ref b), .val (.int (Int32.ofNat (o + i))), .val (.ref d), .val (.int (Int32.ofNat (q + i))), .val (.int (Int32.ofNat len)), .val (.int (Int32.ofNat i)), z] [.int (Int32.ofNat (o + i)), .ref b])) := cl.trans (by
        refine XS.iload Xl.here hexec rfl (hb hbytes d3) rfl ?_
        refine XS.iload Xl.here hexec rfl (hb hbytes d5) rfl ?_
        refine XS.icmpNo Xl.here hexec rfl (hb hbytes d7) rfl (ii_ge_f (lt32 (by omega) (by omega))) ?_
        refine XS.aloadN Xl.here hexec rfl (hb hbytes d10) rfl rfl ?_
        refine XS.iloadN Xl.here hexec rfl (hb hbytes d11) rfl ?_
        exact Steps.refl _)
      have c4 : Steps p.tables e below (s₁.setTop (entryFrame m #[.ref b, .int (Int32.ofNat o), .ref d, .int (Int32.ofNat q), .int (Int32.ofNat len)] 7)) (Tl.setTop (mkF m 13 #[.val (.ref b), .val (.int (Int32.ofNat (o + i))), .val (.ref d), .val (.int (Int32.ofNat (q + i))), .val (.int (Int32.ofNat len)), .val (.int (Int32.ofNat i)), z] [.int (cv A (o + i))])) := c3.trans (by
        refine Xl.aget hexec hAl rfl (hA.get (i := o + i) (by omega)) rfl rfl (hb hbytes d12) ?_
        exact Steps.refl _)
      have c5 : Steps p.tables e below (s₁.setTop (entryFrame m #[.ref b, .int (Int32.ofNat o), .ref d, .int (Int32.ofNat q), .int (Int32.ofNat len)] 7)) (Tl.setTop (mkF m 15 #[.val (.ref b), .val (.int (Int32.ofNat (o + i))), .val (.ref d), .val (.int (Int32.ofNat (q + i))), .val (.int (Int32.ofNat len)), .val (.int (Int32.ofNat i)), .val (.int (cv A (o + i)))] [])) := c4.trans (by
        refine XS.istoreS Xl.here hexec rfl (hb hbytes d13) rfl rfl hz ?_
        exact Steps.refl _)
      have c6 : Steps p.tables e below (s₁.setTop (entryFrame m #[.ref b, .int (Int32.ofNat o), .ref d, .int (Int32.ofNat q), .int (Int32.ofNat len)] 7)) (Tl.setTop (mkF m 31 #[.val (.ref b), .val (.int (Int32.ofNat (o + i))), .val (.ref d), .val (.int (Int32.ofNat (q + i))), .val (.int (Int32.ofNat len)), .val (.int (Int32.ofNat i)), .val (.int (cv A (o + i)))] [.int (lo8 (cv A (o + i))), .int (Int32.ofNat (q + i)), .ref d])) := c5.trans (by
        refine XS.iload Xl.here hexec rfl (hb hbytes d15) rfl ?_
        refine sipushV Xl.here hexec rfl 255 (hb hbytes d17) (by decide) ?_
        refine XS.icmpYes Xl.here hexec rfl (pc0 := 20) rfl (hb hbytes d20) rfl (ii_le_t (hp i (by omega))) (by decide) rfl ?_
        refine XS.aloadN Xl.here hexec rfl (hb hbytes d26) rfl rfl ?_
        refine XS.iloadN Xl.here hexec rfl (hb hbytes d27) rfl ?_
        refine XS.iload Xl.here hexec rfl (hb hbytes d28) rfl ?_
        refine i2b Xl.here hexec rfl (hb hbytes d30) rfl ?_
        exact Steps.refl _)
      obtain ⟨T7, X7, p7, st7⟩ := Xl.aput hexec hBk rfl hlt rfl (fits_lo8 (cv A (o + i))) (g := (mkF m 31 #[.val (.ref b), .val (.int (Int32.ofNat (o + i))), .val (.ref d), .val (.int (Int32.ofNat (q + i))), .val (.int (Int32.ofNat len)), .val (.int (Int32.ofNat i)), .val (.int (cv A (o + i)))] [.int (lo8 (cv A (o + i))), .int (Int32.ofNat (q + i)), .ref d])) rfl (rest := []) rfl (hb hbytes d31)
      have c8 : Steps p.tables e below (s₁.setTop (entryFrame m #[.ref b, .int (Int32.ofNat o), .ref d, .int (Int32.ofNat q), .int (Int32.ofNat len)] 7)) (T7.setTop (mkF m 32 #[.val (.ref b), .val (.int (Int32.ofNat (o + i))), .val (.ref d), .val (.int (Int32.ofNat (q + i))), .val (.int (Int32.ofNat len)), .val (.int (Int32.ofNat i)), .val (.int (cv A (o + i)))] [])) := c6.trans (st7 _ (Steps.refl _))
      have c9 : Steps p.tables e below (s₁.setTop (entryFrame m #[.ref b, .int (Int32.ofNat o), .ref d, .int (Int32.ofNat q), .int (Int32.ofNat len)] 7)) (T7.setTop (mkF m 3 #[.val (.ref b), .val (.int (Int32.ofNat (o + i) + 1)), .val (.ref d), .val (.int (Int32.ofNat (q + i) + 1)), .val (.int (Int32.ofNat len)), .val (.int (Int32.ofNat i + 1)), .val (.int (cv A (o + i)))] [])) := c8.trans (by
        refine iincV X7.here hexec rfl 1 (hb hbytes d32) (by decide) rfl rfl ?_
        refine iincV X7.here hexec rfl 1 (hb hbytes d35) (by decide) rfl rfl ?_
        refine iincV X7.here hexec rfl 1 (hb hbytes d38) (by decide) rfl rfl ?_
        refine XS.goto X7.here hexec rfl (pc0 := 41) rfl (hb hbytes d41) (by decide) rfl ?_
        exact Steps.refl _)
      have c10 : Steps p.tables e below (s₁.setTop (entryFrame m #[.ref b, .int (Int32.ofNat o), .ref d, .int (Int32.ofNat q), .int (Int32.ofNat len)] 7)) (T7.setTop (mkF m 3 #[.val (.ref b), .val (.int (Int32.ofNat (o + (i + 1)))), .val (.ref d), .val (.int (Int32.ofNat (q + (i + 1)))), .val (.int (Int32.ofNat len)), .val (.int (Int32.ofNat (i + 1))), .val (.int (cv A (o + i)))] [])) := by
        have := c9
        rw [succ32, succ32, succ32] at this
        exact this
      exact ih (i + 1) (by omega) _ (Or.inr ⟨_, rfl, rfl⟩) T7 _ (by rw [copyLocs_step, ← List.append_assoc]; exact X7) (pl.trans p7) (fl.step (by omega) hlt (by simp)) c10
  obtain ⟨T9, B9, z9, X9, p9, f9, g9⟩ := loop len 0 (by omega) .unset (Or.inl rfl) s₁ B (by simpa [copyLocs] using X0) ⟨hB0.1, fun _ _ => rfl, rfl⟩ (Laid.zero _ _ _) c2
  have c11 : Steps p.tables e below (s₁.setTop (entryFrame m #[.ref b, .int (Int32.ofNat o), .ref d, .int (Int32.ofNat q), .int (Int32.ofNat len)] 7)) (T9.setTop (mkF m 46 #[.val (.ref b), .val (.int (Int32.ofNat (o + len))), .val (.ref d), .val (.int (Int32.ofNat (q + len))), .val (.int (Int32.ofNat len)), .val (.int (Int32.ofNat len)), z9] [.int (Int32.ofNat len)])) := g9.trans (by
    refine XS.iload X9.here hexec rfl (hb hbytes d3) rfl ?_
    refine XS.iload X9.here hexec rfl (hb hbytes d5) rfl ?_
    refine XS.icmpYes X9.here hexec rfl (pc0 := 7) rfl (hb hbytes d7) rfl (ii_ge_t (nlt32 (by omega) (Nat.le_refl _))) (by decide) rfl ?_
    refine XS.iload X9.here hexec rfl (hb hbytes d44) rfl ?_
    exact Steps.refl _)
  exact ⟨T9, some (.int (Int32.ofNat len)), _, _, _, X9, by simp, rfl, rfl, (fun h => by cases h), ⟨rfl, B9, p9.from hh0, f9⟩, fun fs hl => c11.trans (X9.ireturnOut hexec hret rfl (Or.inl rfl) (hb hbytes d46) hl)⟩
end Cmp5
namespace Cmp3
def yN : MethodName := ⟨"java/lang/StringUTF16", "compress", "([CII)[B"⟩
abbrev yB : ByteArray := jdk_52_method_16_code
theorem d0 : decode yB 0 = .ok (.iload_n 2, 1) := by decide +kernel
theorem d1 : decode yB 1 = .ok (.newarray .byte, 2) := by decide +kernel
theorem d3 : decode yB 3 = .ok (.astore_n 3, 1) := by decide +kernel
theorem d4 : decode yB 4 = .ok (.aload_n 0, 1) := by decide +kernel
theorem d5 : decode yB 5 = .ok (.iload_n 1, 1) := by decide +kernel
theorem d6 : decode yB 6 = .ok (.aload_n 3, 1) := by decide +kernel
theorem d7 : decode yB 7 = .ok (.iconst 0, 1) := by decide +kernel
theorem d8 : decode yB 8 = .ok (.iload_n 2, 1) := by decide +kernel
theorem d9 : decode yB 9 = .ok (.invokestatic 115, 3) := by decide +kernel
theorem d12 : decode yB 12 = .ok (.istore 4, 2) := by decide +kernel
theorem d14 : decode yB 14 = .ok (.iload 4, 2) := by decide +kernel
theorem d16 : decode yB 16 = .ok (.iload_n 2, 1) := by decide +kernel
theorem d17 : decode yB 17 = .ok (.if_icmp (.eq) 40, 3) := by decide +kernel
theorem d57 : decode yB 57 = .ok (.aload_n 3, 1) := by decide +kernel
theorem d58 : decode yB 58 = .ok (.areturn, 1) := by decide +kernel
def site : List Cond := [.arrayClass .byte, Cmp5.tab] ++ staticW U16 115 Cmp5.yN
def tab : Cond := tabOf yN yB 6 (some (.array .byte)) site
def P (b : Addr) (A : Cell) (o len : Nat) (args : Array Value) (s : State) : Prop := args = #[.ref b, .int (Int32.ofNat o), .int (Int32.ofNat len)] ∧ Ch b A s ∧ o + len ≤ A.slots.size ∧ len ≤ 536870912 ∧ ∀ i, i < len → ¬ 255 < cv A (o + i)
def E (b : Addr) (A : Cell) (o len : Nat) (r : Option Value) (s u : State) : Prop := NewArr .byte "[B" len (fun j => .int (lo8 (cv A (o + j)))) r s u ∧ u.heap.size = s.heap.size + 1
/-- no char of the range above 255: a new byte[] of their low bytes -/
theorem law (l : Launch) (b : Addr) (A : Cell) (o len : Nat) : Law l yN 3 3 1 18 yB 6 (some (.array .byte)) site (P b A o len) (E b A o len) [] 1 len := by
  refine Law.of_walk (plainFor_of_name (by decide +kernel)) (by decide +kernel) (by decide +kernel) (by decide) (fun _ _ h => by rw [h.1]; rfl) (fun _ U U' hal hh h => ⟨h.1, h.2.1.mv hal hh, h.2.2⟩) (fun r U U' V V' h1 hal h2 h => ⟨NewArr.mv r U U' V V' h1 hal h2 h.1, by rw [h1, h2]; exact h.2⟩) ?_
  intro p e s m args below meth c s₁ X0 hexec hbytes hml hret hlk hnm hown hh0 W hP
  obtain ⟨rfl, hA, l1, l2, hp⟩ := hP
  have a31 := hA.1.2.2.2
  have c1 : Steps p.tables e below (s₁.setTop (entryFrame m #[.ref b, .int (Int32.ofNat o), .int (Int32.ofNat len)] 6)) (s₁.setTop (mkF m 0 #[.val (.ref b), .val (.int (Int32.ofNat o)), .val (.int (Int32.ofNat len)), .unset, .unset, .unset] [])) := entry rfl
  have c2 : Steps p.tables e below (s₁.setTop (entryFrame m #[.ref b, .int (Int32.ofNat o), .int (Int32.ofNat len)] 6)) (s₁.setTop (mkF m 1 #[.val (.ref b), .val (.int (Int32.ofNat o)), .val (.int (Int32.ofNat len)), .unset, .unset, .unset] [.int (Int32.ofNat len)])) := c1.trans (by
    refine XS.iloadN X0.here hexec rfl (hb hbytes d0) rfl ?_
    exact Steps.refl _)
  obtain ⟨T3, B3, X3, ba3, bs3, bv3, bh3, bf3, st3⟩ := X0.anew hexec (atype := .byte) (wk W (.arrayClass .byte)) rfl (by show len * 1 ≤ _; omega) (by omega) (g := (mkF m 1 #[.val (.ref b), .val (.int (Int32.ofNat o)), .val (.int (Int32.ofNat len)), .unset, .unset, .unset] [.int (Int32.ofNat len)])) rfl (hb hbytes d1) (rest := []) rfl (Nat.le_refl _) (by show 0 + len ≤ len; omega)
  rw [hh0] at ba3 st3
  have kp3 : XT.Kept s T3 := (XT.Kept.of_eq hh0).push bh3
  have hA3 := hA.keep X3.warmed.alike (kp3 _ _ hA.1.1)
  have hne : b ≠ s.heap.size := hA.1.ne
  have c4 : Steps p.tables e below (s₁.setTop (entryFrame m #[.ref b, .int (Int32.ofNat o), .int (Int32.ofNat len)] 6)) (T3.setTop (mkF m 3 #[.val (.ref b), .val (.int (Int32.ofNat o)), .val (.int (Int32.ofNat len)), .unset, .unset, .unset] [.ref s.heap.size])) := c2.trans (st3 _ (Steps.refl _))
  have c5 : Steps p.tables e below (s₁.setTop (entryFrame m #[.ref b, .int (Int32.ofNat o), .int (Int32.ofNat len)] 6)) (T3.setTop (mkF m 9 #[.val (.ref b), .val (.int (Int32.ofNat o)), .val (.int (Int32.ofNat len)), .val (.ref s.heap.size), .unset, .unset] [.int (Int32.ofNat len), .int 0, .ref s.heap.size, .int (Int32.ofNat o), .ref b])) := c4.trans (by
    refine XS.astoreN X3.here hexec rfl (hb hbytes d3) rfl rfl rfl ?_
    refine XS.aloadN X3.here hexec rfl (hb hbytes d4) rfl rfl ?_
    refine XS.iloadN X3.here hexec rfl (hb hbytes d5) rfl ?_
    refine XS.aloadN X3.here hexec rfl (hb hbytes d6) rfl rfl ?_
    refine iconstV X3.here hexec rfl 0 (hb hbytes d7) (by decide) ?_
    refine XS.iloadN X3.here hexec rfl (hb hbytes d8) rfl ?_
    exact Steps.refl _)
  obtain ⟨v6, T6, X6, E6, g6⟩ := X3.callS hexec (Cmp5.law l b A s.heap.size B3 o 0 len) hown (wks W (staticW U16 115 Cmp5.yN)) (wk W Cmp5.tab) (W := 0) (Nat.le_of_ble_eq_true rfl) (Nat.le_of_ble_eq_true rfl) (Nat.le_refl _) (by show 0 + len + 0 ≤ len; omega) (g := (mkF m 9 #[.val (.ref b), .val (.int (Int32.ofNat o)), .val (.int (Int32.ofNat len)), .val (.ref s.heap.size), .unset, .unset] [.int (Int32.ofNat len), .int (Int32.ofNat 0), .ref s.heap.size, .int (Int32.ofNat o), .ref b])) rfl (by rw [hml]; rfl) c5 (argsL := [.ref b, .int (Int32.ofNat o), .ref s.heap.size, .int (Int32.ofNat 0), .int (Int32.ofNat len)]) (rest := []) rfl rfl (by show 2 * 0 + 0 ≤ _; decide) (hb hbytes d9) (⟨rfl, hA3, ba3, hne, l1, by rw [bs3]; simp, hp⟩)
  obtain ⟨rfl, B6, p6, f6⟩ := E6
  have c7 : Steps p.tables e below (s₁.setTop (entryFrame m #[.ref b, .int (Int32.ofNat o), .int (Int32.ofNat len)] 6)) (T6.setTop (mkF m 12 #[.val (.ref b), .val (.int (Int32.ofNat o)), .val (.int (Int32.ofNat len)), .val (.ref s.heap.size), .unset, .unset] [.int (Int32.ofNat len)])) := g6
  have c8 : Steps p.tables e below (s₁.setTop (entryFrame m #[.ref b, .int (Int32.ofNat o), .int (Int32.ofNat len)] 6)) (T6.setTop (mkF m 58 #[.val (.ref b), .val (.int (Int32.ofNat o)), .val (.int (Int32.ofNat len)), .val (.ref s.heap.size), .val (.int (Int32.ofNat len)), .unset] [.ref s.heap.size])) := c7.trans (by
    refine XS.istore X6.here hexec rfl (hb hbytes d12) rfl rfl ?_
    refine XS.iload X6.here hexec rfl (hb hbytes d14) rfl ?_
    refine XS.iloadN X6.here hexec rfl (hb hbytes d16) rfl ?_
    refine XS.icmpYes X6.here hexec rfl (pc0 := 17) rfl (hb hbytes d17) rfl (ii_eq_t rfl) (by decide) rfl ?_
    refine XS.aloadN X6.here hexec rfl (hb hbytes d57) rfl rfl ?_
    exact Steps.refl _)
  have X8 := X6.wide (L' := []) (cells' := 1) (slots' := len) (fun x hx hlt => by
    simp only [List.nil_append, copyLocs, List.mem_map, List.mem_range] at hx
    obtain ⟨i, -, rfl⟩ := hx
    exact absurd hlt (Nat.lt_irrefl _)) (Nat.le_refl _) (by omega)
  exact ⟨T6, some (.ref s.heap.size), _, _, _, X8, rfl, rfl, rfl, (fun h => by cases h), ⟨⟨rfl, B6, ba3.like (X3.warmed.alike.symm.trans X6.warmed.alike) p6.1 f6.1 f6.2.1 f6.2.2.1, f6.2.1.trans bv3, by rw [X6.warmed.alike.findClass, f6.1]; exact bf3, by rw [f6.2.2.1, bs3]; simp, fun j hj => by rw [f6.2.2.2 j, if_pos (by omega)]; rfl, kp3.put p6 (Nat.le_refl _)⟩, by rw [p6.2.2, bh3, hh0]; simp⟩, fun fs hl => c8.trans (X8.areturnOut hexec rfl hret rfl (hb hbytes d58) hl)⟩
end Cmp3
namespace CodL
def yN : MethodName := ⟨"java/lang/StringUTF16", "coderFromArrayLen", "([BI)B"⟩
abbrev yB : ByteArray := jdk_52_method_15_code
theorem d0 : decode yB 0 = .ok (.iload_n 1, 1) := by decide +kernel
theorem d1 : decode yB 1 = .ok (.aload_n 0, 1) := by decide +kernel
theorem d2 : decode yB 2 = .ok (.arraylength, 1) := by decide +kernel
theorem d3 : decode yB 3 = .ok (.isub, 1) := by decide +kernel
theorem d4 : decode yB 4 = .ok (.bipush 31, 2) := by decide +kernel
theorem d6 : decode yB 6 = .ok (.iushr, 1) := by decide +kernel
theorem d7 : decode yB 7 = .ok (.i2b, 1) := by decide +kernel
theorem d8 : decode yB 8 = .ok (.ireturn, 1) := by decide +kernel
def site : List Cond := []
def tab : Cond := tabOf yN yB 2 (some .byte) site
def P (d : Addr) (B : Cell) (args : Array Value) (s : State) : Prop := args = #[.ref d, .int (Int32.ofNat B.slots.size)] ∧ Arr .byte d B s
def E (r : Option Value) (s u : State) : Prop := XT.PureE (some (.int 0)) r s u
/-- an array as long as the number of chars: LATIN1 -/
theorem law (l : Launch) (d : Addr) (B : Cell) : Law l yN 2 2 0 0 yB 2 (some .byte) site (P d B) E [] 0 0 := by
  refine Law.of_walk (plainFor_of_name (by decide +kernel)) (by decide +kernel) (by decide +kernel) (by decide) (fun _ _ h => by rw [h.1]; rfl) (fun _ U U' hal hh h => ⟨h.1, h.2.mv hal hh⟩) (fun r U U' V V' h1 hal h2 h => XT.PureE.mv r U U' V V' h1 hal h2 h) ?_
  intro p e s m args below meth c s₁ X0 hexec hbytes hml hret hlk hnm hown hh0 W hP
  obtain ⟨rfl, hB⟩ := hP
  have hB0 := hB.mv X0.warmed.alike hh0
  have c1 : Steps p.tables e below (s₁.setTop (entryFrame m #[.ref d, .int (Int32.ofNat B.slots.size)] 2)) (s₁.setTop (mkF m 0 #[.val (.ref d), .val (.int (Int32.ofNat B.slots.size))] [])) := entry rfl
  have c2 : Steps p.tables e below (s₁.setTop (entryFrame m #[.ref d, .int (Int32.ofNat B.slots.size)] 2)) (s₁.setTop (mkF m 2 #[.val (.ref d), .val (.int (Int32.ofNat B.slots.size))] [.ref d, .int (Int32.ofNat B.slots.size)])) := c1.trans (by
    refine XS.iloadN X0.here hexec rfl (hb hbytes d0) rfl ?_
    refine XS.aloadN X0.here hexec rfl (hb hbytes d1) rfl rfl ?_
    exact Steps.refl _)
  have c3 : Steps p.tables e below (s₁.setTop (entryFrame m #[.ref d, .int (Int32.ofNat B.slots.size)] 2)) (s₁.setTop (mkF m 8 #[.val (.ref d), .val (.int (Int32.ofNat B.slots.size))] [.int (lo8 (ushr (Int32.ofNat B.slots.size - Int32.ofNat B.slots.size) 31))])) := c2.trans (by
    refine X0.alen hexec hB0 rfl rfl (hb hbytes d2) ?_
    refine XS.isub X0.here hexec rfl (hb hbytes d3) rfl ?_
    refine bipushV X0.here hexec rfl 31 (hb hbytes d4) (by decide) ?_
    refine iushr X0.here hexec rfl (hb hbytes d6) rfl ?_
    refine i2b X0.here hexec rfl (hb hbytes d7) rfl ?_
    exact Steps.refl _)
  have e0 : lo8 (ushr (Int32.ofNat B.slots.size - Int32.ofNat B.slots.size) 31) = 0 := by rw [Int32.sub_self]; decide
  rw [e0] at c3
  exact ⟨s₁, some (.int 0), _, _, _, X0, rfl, rfl, rfl, (fun h => by cases h), ⟨rfl, hh0⟩, fun fs hl => c3.trans (X0.ireturnOut hexec hret rfl (Or.inr (Or.inr (Or.inl rfl))) (hb hbytes d8) hl)⟩
end CodL
/-- the String at a is Latin-1 over a new byte[] (the heap's one new cell): the low bytes of the len chars of A from o on; every cell but a is kept -/
def Got (a : Addr) (D : Cell) (fV fC : Field) (A : Cell) (o len : Nat) (r : Option Value) (s u : State) : Prop := r = none ∧ ∃ D' V : Cell, Blank "java/lang/String" a D' u ∧ Same D D' [fV.slot, fC.slot] ∧ D'.slots[fV.slot]? = some (.ref s.heap.size) ∧ D'.slots[fC.slot]? = some (.int 0) ∧ Arr .byte s.heap.size V u ∧ V.vm = .none ∧ u.vm.findClass "[B" = some V.cls ∧ V.slots.size = len ∧ (∀ j, j < len → V.slots[j]? = some (.int (lo8 (cv A (o + j))))) ∧ (∀ (y : Addr) (c : Cell), y ≠ a → s.heap[y]? = some c → u.heap[y]? = some c) ∧ u.heap.size = s.heap.size + 1
theorem Got.mv {a : Addr} {D A : Cell} {fV fC : Field} {o len : Nat} : ∀ r (U U' V V' : State), U'.heap = U.heap → V.vm.Alike V'.vm → V'.heap = V.heap → Got a D fV fC A o len r U V → Got a D fV fC A o len r U' V' :=
  fun r U U' V V' h1 hal h2 ⟨e0, D', X, a1, a2, a3, a4, a5, a6, a7, a8, a9, a10, a11⟩ => ⟨e0, D', X, a1.mv hal h2, a2, by rw [h1]; exact a3, a4, by rw [h1]; exact a5.mv hal h2, a6, by rw [hal.findClass]; exact a7, a8, a9, by rw [h1, h2]; exact a10, by rw [h1, h2]; exact a11⟩
namespace New4
def yN : MethodName := ⟨"java/lang/String", "<init>", "([CIILjava/lang/Void;)V"⟩
abbrev yB : ByteArray := jdk_42_method_149_code
theorem d0 : decode yB 0 = .ok (.aload_n 0, 1) := by decide +kernel
theorem d1 : decode yB 1 = .ok (.invokespecial 1, 3) := by decide +kernel
theorem d4 : decode yB 4 = .ok (.iload_n 3, 1) := by decide +kernel
theorem d5 : decode yB 5 = .ok (.ifCond (.ne) 22, 3) := by decide +kernel
theorem d27 : decode yB 27 = .ok (.getstatic 38, 3) := by decide +kernel
theorem d30 : decode yB 30 = .ok (.ifCond (.eq) 28, 3) := by decide +kernel
theorem d33 : decode yB 33 = .ok (.aload_n 1, 1) := by decide +kernel
theorem d34 : decode yB 34 = .ok (.iload_n 2, 1) := by decide +kernel
theorem d35 : decode yB 35 = .ok (.iload_n 3, 1) := by decide +kernel
theorem d36 : decode yB 36 = .ok (.invokestatic 177, 3) := by decide +kernel
theorem d39 : decode yB 39 = .ok (.astore 5, 2) := by decide +kernel
theorem d41 : decode yB 41 = .ok (.aload_n 0, 1) := by decide +kernel
theorem d42 : decode yB 42 = .ok (.aload 5, 2) := by decide +kernel
theorem d44 : decode yB 44 = .ok (.iload_n 3, 1) := by decide +kernel
theorem d45 : decode yB 45 = .ok (.invokestatic 47, 3) := by decide +kernel
theorem d48 : decode yB 48 = .ok (.putfield 15, 3) := by decide +kernel
theorem d51 : decode yB 51 = .ok (.aload_n 0, 1) := by decide +kernel
theorem d52 : decode yB 52 = .ok (.aload 5, 2) := by decide +kernel
theorem d54 : decode yB 54 = .ok (.putfield 9, 3) := by decide +kernel
theorem d57 : decode yB 57 = .ok (.return_, 1) := by decide +kernel
def site : List Cond := [.fieldLink "java/lang/String" 38 "java/lang/String" "COMPACT_STRINGS" "Z", Cmp3.tab, CodL.tab, .laysFinal "java/lang/String" "java/lang/String" "value" "[B", .fieldLink "java/lang/String" 9 "java/lang/String" "value" "[B", .laysFinal "java/lang/String" "java/lang/String" "coder" "B", .fieldLink "java/lang/String" 15 "java/lang/String" "coder" "B"] ++ objW "java/lang/String" 1 ++ staticW "java/lang/String" 177 Cmp3.yN ++ staticW "java/lang/String" 47 CodL.yN
def tab : Cond := tabOf yN yB 6 none site
def P (a : Addr) (D : Cell) (fV fC : Field) (b : Addr) (A : Cell) (z : Int32) (o len : Nat) (args : Array Value) (s : State) : Prop := args = #[.ref a, .ref b, .int (Int32.ofNat o), .int (Int32.ofNat len), .null] ∧ Blank "java/lang/String" a D s ∧ Found "java/lang/String" "value" "[B" fV s ∧ Found "java/lang/String" "coder" "B" fC s ∧ Ch b A s ∧ StaticIs s "java/lang/String" "COMPACT_STRINGS" "Z" (.int z) ∧ ¬ z = 0 ∧ 0 < len ∧ o + len ≤ A.slots.size ∧ len ≤ 536870912 ∧ ∀ i, i < len → ¬ 255 < cv A (o + i)
def E (a : Addr) (D : Cell) (fV fC : Field) (A : Cell) (o len : Nat) (r : Option Value) (s u : State) : Prop := Got a D fV fC A o len r s u
/-- len > 0, no char of the range above 255: a Latin-1 String of their low bytes -/
theorem law (l : Launch) (a : Addr) (D : Cell) (fV fC : Field) (b : Addr) (A : Cell) (z : Int32) (o len : Nat) : Law l yN 5 4 2 35 yB 6 none site (P a D fV fC b A z o len) (E a D fV fC A o len) [⟨a, fC.slot⟩, ⟨a, fV.slot⟩] 1 len := by
  refine Law.of_walk (plainFor_of_name (by decide +kernel)) (by decide +kernel) (by decide +kernel) (by decide) (fun _ _ h => by rw [h.1]; rfl) (fun _ U U' hal hh h => ⟨h.1, h.2.1.mv hal hh, h.2.2.1.al hal, h.2.2.2.1.al hal, h.2.2.2.2.1.mv hal hh, h.2.2.2.2.2.1.there hal hh, h.2.2.2.2.2.2⟩) (fun r U U' V V' h1 hal h2 h => Got.mv r U U' V V' h1 hal h2 h) ?_
  intro p e s m args below meth c s₁ X0 hexec hbytes hml hret hlk hnm hown hh0 W hP
  obtain ⟨rfl, hB, f1, f2, hA, s1, hz, l0, l1, l2, hp⟩ := hP
  have a31 := hA.1.2.2.2
  have c1 : Steps p.tables e below (s₁.setTop (entryFrame m #[.ref a, .ref b, .int (Int32.ofNat o), .int (Int32.ofNat len), .null] 6)) (s₁.setTop (mkF m 0 #[.val (.ref a), .val (.ref b), .val (.int (Int32.ofNat o)), .val (.int (Int32.ofNat len)), .val .null, .unset] [])) := entry rfl
  have c2 : Steps p.tables e below (s₁.setTop (entryFrame m #[.ref a, .ref b, .int (Int32.ofNat o), .int (Int32.ofNat len), .null] 6)) (s₁.setTop (mkF m 1 #[.val (.ref a), .val (.ref b), .val (.int (Int32.ofNat o)), .val (.int (Int32.ofNat len)), .val .null, .unset] [.ref a])) := c1.trans (by
    refine XS.aloadN X0.here hexec rfl (hb hbytes d0) rfl rfl ?_
    exact Steps.refl _)
  obtain ⟨T3, X3, q3, st3⟩ := X0.oinit hexec hown (wks W (objW "java/lang/String" 1)) (g := (mkF m 1 #[.val (.ref a), .val (.ref b), .val (.int (Int32.ofNat o)), .val (.int (Int32.ofNat len)), .val .null, .unset] [.ref a])) rfl (by rw [hml]; rfl) (rest := []) rfl (hb hbytes d1) (W := 0) (by show 2 * 0 + 0 ≤ _; decide) (Nat.le_of_ble_eq_true rfl) (Nat.le_of_ble_eq_true rfl)
  have hh3 := q3.trans hh0
  have c4 : Steps p.tables e below (s₁.setTop (entryFrame m #[.ref a, .ref b, .int (Int32.ofNat o), .int (Int32.ofNat len), .null] 6)) (T3.setTop (mkF m 27 #[.val (.ref a), .val (.ref b), .val (.int (Int32.ofNat o)), .val (.int (Int32.ofNat len)), .val .null, .unset] [])) := (c2.trans (st3 _ (Steps.refl _))).trans (by
    refine XS.iloadN X3.here hexec rfl (hb hbytes d4) rfl ?_
    refine XS.ifYes X3.here hexec rfl (pc0 := 5) rfl (hb hbytes d5) rfl (i0_ne_t (nz32 (by omega) l0)) (by decide) rfl ?_
    exact Steps.refl _)
  obtain ⟨T5, X5, q5, st5⟩ := X3.sget hexec hown (wk W (.fieldLink "java/lang/String" 38 "java/lang/String" "COMPACT_STRINGS" "Z")) s1 (fun _ _ h => by rw [hh3]; exact h) (g := (mkF m 27 #[.val (.ref a), .val (.ref b), .val (.int (Int32.ofNat o)), .val (.int (Int32.ofNat len)), .val .null, .unset] [])) rfl (hb hbytes d27)
  have hh5 := q5.trans hh3
  have c6 : Steps p.tables e below (s₁.setTop (entryFrame m #[.ref a, .ref b, .int (Int32.ofNat o), .int (Int32.ofNat len), .null] 6)) (T5.setTop (mkF m 30 #[.val (.ref a), .val (.ref b), .val (.int (Int32.ofNat o)), .val (.int (Int32.ofNat len)), .val .null, .unset] [.int z])) := c4.trans (st5 _ (Steps.refl _))
  have c7 : Steps p.tables e below (s₁.setTop (entryFrame m #[.ref a, .ref b, .int (Int32.ofNat o), .int (Int32.ofNat len), .null] 6)) (T5.setTop (mkF m 36 #[.val (.ref a), .val (.ref b), .val (.int (Int32.ofNat o)), .val (.int (Int32.ofNat len)), .val .null, .unset] [.int (Int32.ofNat len), .int (Int32.ofNat o), .ref b])) := c6.trans (by
    refine XS.ifNo X5.here hexec rfl (hb hbytes d30) rfl (i0_eq_f hz) ?_
    refine XS.aloadN X5.here hexec rfl (hb hbytes d33) rfl rfl ?_
    refine XS.iloadN X5.here hexec rfl (hb hbytes d34) rfl ?_
    refine XS.iloadN X5.here hexec rfl (hb hbytes d35) rfl ?_
    exact Steps.refl _)
  obtain ⟨v8, T8, X8, E8, g8⟩ := X5.callS hexec (Cmp3.law l b A o len) hown (wks W (staticW "java/lang/String" 177 Cmp3.yN)) (wk W Cmp3.tab) (W := 0) (Nat.le_of_ble_eq_true rfl) (Nat.le_of_ble_eq_true rfl) (Nat.le_refl _) (by show 0 + len ≤ len; omega) (g := (mkF m 36 #[.val (.ref a), .val (.ref b), .val (.int (Int32.ofNat o)), .val (.int (Int32.ofNat len)), .val .null, .unset] [.int (Int32.ofNat len), .int (Int32.ofNat o), .ref b])) rfl (by rw [hml]; rfl) c7 (argsL := [.ref b, .int (Int32.ofNat o), .int (Int32.ofNat len)]) (rest := []) rfl rfl (by show 2 * 0 + 0 ≤ _; decide) (hb hbytes d36) (⟨rfl, hA.mv X5.warmed.alike hh5, l1, l2, hp⟩)
  obtain ⟨e8, z8⟩ := E8
  obtain ⟨rfl, N, n1, n2, n3, n4, n5, n6⟩ := NewArr.mv _ T5 s _ _ hh5.symm (Vm.Alike.refl _) rfl e8
  rw [hh5] at z8
  have hB1 := hB.keep X8.warmed.alike (n6 _ _ hB.1)
  have hne : s.heap.size ≠ a := (Nat.ne_of_lt (Array.getElem?_eq_some_iff.mp hB.1).1).symm
  have c9 : Steps p.tables e below (s₁.setTop (entryFrame m #[.ref a, .ref b, .int (Int32.ofNat o), .int (Int32.ofNat len), .null] 6)) (T8.setTop (mkF m 39 #[.val (.ref a), .val (.ref b), .val (.int (Int32.ofNat o)), .val (.int (Int32.ofNat len)), .val .null, .unset] [.ref s.heap.size])) := g8
  have c10 : Steps p.tables e below (s₁.setTop (entryFrame m #[.ref a, .ref b, .int (Int32.ofNat o), .int (Int32.ofNat len), .null] 6)) (T8.setTop (mkF m 45 #[.val (.ref a), .val (.ref b), .val (.int (Int32.ofNat o)), .val (.int (Int32.ofNat len)), .val .null, .val (.ref s.heap.size)] [.int (Int32.ofNat N.slots.size), .ref s.heap.size, .ref a])) := by
    have hc : Steps p.tables e below (s₁.setTop (entryFrame m #[.ref a, .ref b, .int (Int32.ofNat o), .int (Int32.ofNat len), .null] 6)) (T8.setTop (mkF m 45 #[.val (.ref a), .val (.ref b), .val (.int (Int32.ofNat o)), .val (.int (Int32.ofNat len)), .val .null, .val (.ref s.heap.size)] [.int (Int32.ofNat len), .ref s.heap.size, .ref a])) := c9.trans (by
      refine XS.astore X8.here hexec rfl (hb hbytes d39) rfl rfl rfl ?_
      refine XS.aloadN X8.here hexec rfl (hb hbytes d41) rfl rfl ?_
      refine XS.aload X8.here hexec rfl (hb hbytes d42) rfl rfl ?_
      refine XS.iloadN X8.here hexec rfl (hb hbytes d44) rfl ?_
      exact Steps.refl _)
    rw [n4]; exact hc
  obtain ⟨v11, T11, X11, E11, g11⟩ := X8.callS hexec (CodL.law l s.heap.size N) hown (wks W (staticW "java/lang/String" 47 CodL.yN)) (wk W CodL.tab) (W := 1) (Nat.le_of_ble_eq_true rfl) (Nat.le_of_ble_eq_true rfl) (Nat.le_refl _) (by show 0 + len + 0 ≤ len; omega) (g := (mkF m 45 #[.val (.ref a), .val (.ref b), .val (.int (Int32.ofNat o)), .val (.int (Int32.ofNat len)), .val .null, .val (.ref s.heap.size)] [.int (Int32.ofNat N.slots.size), .ref s.heap.size, .ref a])) rfl (by rw [hml]; rfl) c10 (argsL := [.ref s.heap.size, .int (Int32.ofNat N.slots.size)]) (rest := [.ref a]) rfl rfl (by show 2 * 0 + (1 + 0) ≤ _; decide) (hb hbytes d45) (⟨rfl, n1⟩)
  obtain ⟨rfl, q11⟩ := E11
  have hB11 := hB1.mv (X8.warmed.alike.symm.trans X11.warmed.alike) q11
  have c12 : Steps p.tables e below (s₁.setTop (entryFrame m #[.ref a, .ref b, .int (Int32.ofNat o), .int (Int32.ofNat len), .null] 6)) (T11.setTop (mkF m 48 #[.val (.ref a), .val (.ref b), .val (.int (Int32.ofNat o)), .val (.int (Int32.ofNat len)), .val .null, .val (.ref s.heap.size)] [.int 0, .ref a])) := g11
  obtain ⟨T13, X13, p13, bl13, sl13, st13⟩ := X11.finit hexec hown (wk W (.fieldLink "java/lang/String" 15 "java/lang/String" "coder" "B")) (Or.inr ⟨_, (wk W (.laysFinal "java/lang/String" "java/lang/String" "coder" "B"))⟩) (Or.inl ⟨rfl, hnm⟩) f2 (Or.inl rfl) hB11 (t := .byte) (by decide +kernel) rfl (g := (mkF m 48 #[.val (.ref a), .val (.ref b), .val (.int (Int32.ofNat o)), .val (.int (Int32.ofNat len)), .val .null, .val (.ref s.heap.size)] [.int 0, .ref a])) rfl (rest := []) rfl (hb hbytes d48)
  have c14 : Steps p.tables e below (s₁.setTop (entryFrame m #[.ref a, .ref b, .int (Int32.ofNat o), .int (Int32.ofNat len), .null] 6)) (T13.setTop (mkF m 54 #[.val (.ref a), .val (.ref b), .val (.int (Int32.ofNat o)), .val (.int (Int32.ofNat len)), .val .null, .val (.ref s.heap.size)] [.ref s.heap.size, .ref a])) := (c12.trans (st13 _ (Steps.refl _))).trans (by
    refine XS.aloadN X13.here hexec rfl (hb hbytes d51) rfl rfl ?_
    refine XS.aload X13.here hexec rfl (hb hbytes d52) rfl rfl ?_
    exact Steps.refl _)
  obtain ⟨T15, X15, p15, bl15, sl15, st15⟩ := X13.finit hexec hown (wk W (.fieldLink "java/lang/String" 9 "java/lang/String" "value" "[B")) (Or.inr ⟨_, (wk W (.laysFinal "java/lang/String" "java/lang/String" "value" "[B"))⟩) (Or.inl ⟨rfl, hnm⟩) f1 (Or.inl rfl) bl13 (t := (.array .byte)) (by decide +kernel) rfl (g := (mkF m 54 #[.val (.ref a), .val (.ref b), .val (.int (Int32.ofNat o)), .val (.int (Int32.ofNat len)), .val .null, .val (.ref s.heap.size)] [.ref s.heap.size, .ref a])) rfl (rest := []) rfl (hb hbytes d54)
  have c16 : Steps p.tables e below (s₁.setTop (entryFrame m #[.ref a, .ref b, .int (Int32.ofNat o), .int (Int32.ofNat len), .null] 6)) (T15.setTop (mkF m 57 #[.val (.ref a), .val (.ref b), .val (.int (Int32.ofNat o)), .val (.int (Int32.ofNat len)), .val .null, .val (.ref s.heap.size)] [])) := c14.trans (st15 _ (Steps.refl _))
  have ap := apart (Or.inr ⟨_, (wk W (.laysFinal "java/lang/String" "java/lang/String" "value" "[B"))⟩) (Or.inr ⟨_, (wk W (.laysFinal "java/lang/String" "java/lang/String" "coder" "B"))⟩) f1 f2 (t₁ := .array .byte) (t₂ := .byte) (by decide +kernel) (by decide +kernel) (by decide)
  have al := X8.warmed.alike.symm.trans X15.warmed.alike
  have n7 : T11.heap[s.heap.size]? = some N := by rw [q11]; exact n1.1
  exact ⟨T15, none, _, _, _, X15, by simp, rfl, by omega, (fun _ => rfl), ⟨rfl, _, N, bl15, ((Same.refl D _).set _ (by simp)).set _ (by simp), sl15, (Cell.slots_setSlot_ne _ ap).trans sl13, n1.keep al (p15.other hne (p13.other hne n7)), n2, by rw [al.findClass]; exact n3, n4, n5, fun y c h1 h2 => p15.other h1 (p13.other h1 (by rw [q11]; exact n6 y c h2)), by rw [p15.2.2, p13.2.2, q11]; exact z8⟩, fun fs hl => c16.trans (X15.returnOut hexec hret (hb hbytes d57) hl)⟩
end New4
namespace New1
def yN : MethodName := ⟨"java/lang/String", "<init>", "([C)V"⟩
abbrev yB : ByteArray := jdk_42_method_3_code
theorem d0 : decode yB 0 = .ok (.aload_n 0, 1) := by decide +kernel
theorem d1 : decode yB 1 = .ok (.aload_n 1, 1) := by decide +kernel
theorem d2 : decode yB 2 = .ok (.iconst 0, 1) := by decide +kernel
theorem d3 : decode yB 3 = .ok (.aload_n 1, 1) := by decide +kernel
theorem d4 : decode yB 4 = .ok (.arraylength, 1) := by decide +kernel
theorem d5 : decode yB 5 = .ok (.aconst_null, 1) := by decide +kernel
theorem d6 : decode yB 6 = .ok (.invokespecial 27, 3) := by decide +kernel
theorem d9 : decode yB 9 = .ok (.return_, 1) := by decide +kernel
def site : List Cond := [New4.tab] ++ initW "java/lang/String" 27 New4.yN
def tab : Cond := tabOf yN yB 2 none site
def P (a : Addr) (D : Cell) (fV fC : Field) (b : Addr) (A : Cell) (z : Int32) (args : Array Value) (s : State) : Prop := args = #[.ref a, .ref b] ∧ Blank "java/lang/String" a D s ∧ Found "java/lang/String" "value" "[B" fV s ∧ Found "java/lang/String" "coder" "B" fC s ∧ Ch b A s ∧ StaticIs s "java/lang/String" "COMPACT_STRINGS" "Z" (.int z) ∧ ¬ z = 0 ∧ 0 < A.slots.size ∧ A.slots.size ≤ 536870912 ∧ ∀ i, i < A.slots.size → ¬ 255 < cv A i
def E (a : Addr) (D : Cell) (fV fC : Field) (A : Cell) (r : Option Value) (s u : State) : Prop := Got a D fV fC A 0 A.slots.size r s u
/-- new String(chars), not empty, no char above 255: a Latin-1 String of their low bytes -/
theorem law (l : Launch) (a : Addr) (D : Cell) (fV fC : Field) (b : Addr) (A : Cell) (z : Int32) : Law l yN 2 1 3 52 yB 2 none site (P a D fV fC b A z) (E a D fV fC A) [⟨a, fC.slot⟩, ⟨a, fV.slot⟩] 1 A.slots.size := by
  refine Law.of_walk (plainFor_of_name (by decide +kernel)) (by decide +kernel) (by decide +kernel) (by decide) (fun _ _ h => by rw [h.1]; rfl) (fun _ U U' hal hh h => ⟨h.1, h.2.1.mv hal hh, h.2.2.1.al hal, h.2.2.2.1.al hal, h.2.2.2.2.1.mv hal hh, h.2.2.2.2.2.1.there hal hh, h.2.2.2.2.2.2⟩) (fun r U U' V V' h1 hal h2 h => Got.mv r U U' V V' h1 hal h2 h) ?_
  intro p e s m args below meth c s₁ X0 hexec hbytes hml hret hlk hnm hown hh0 W hP
  obtain ⟨rfl, hB, f1, f2, hA, s1, hz, l0, l2, hp⟩ := hP
  have c1 : Steps p.tables e below (s₁.setTop (entryFrame m #[.ref a, .ref b] 2)) (s₁.setTop (mkF m 0 #[.val (.ref a), .val (.ref b)] [])) := entry rfl
  have c2 : Steps p.tables e below (s₁.setTop (entryFrame m #[.ref a, .ref b] 2)) (s₁.setTop (mkF m 6 #[.val (.ref a), .val (.ref b)] [.null, .int (Int32.ofNat A.slots.size), .int 0, .ref b, .ref a])) := c1.trans (by
    refine XS.aloadN X0.here hexec rfl (hb hbytes d0) rfl rfl ?_
    refine XS.aloadN X0.here hexec rfl (hb hbytes d1) rfl rfl ?_
    refine iconstV X0.here hexec rfl 0 (hb hbytes d2) (by decide) ?_
    refine XS.aloadN X0.here hexec rfl (hb hbytes d3) rfl rfl ?_
    refine X0.alen hexec (hA.1.mv X0.warmed.alike hh0) rfl rfl (hb hbytes d4) ?_
    refine XS.aconstNull X0.here hexec rfl (hb hbytes d5) ?_
    exact Steps.refl _)
  obtain ⟨v3, T3, X3, E3, g3⟩ := X0.callN hexec (New4.law l a D fV fC b A z 0 A.slots.size) rfl hown (wks W (initW "java/lang/String" 27 New4.yN)) (W New4.tab (by simp only [site, List.mem_cons, List.mem_append, true_or, or_true])) (W := 0) (Nat.le_of_ble_eq_true rfl) (Nat.le_of_ble_eq_true rfl) (Nat.le_refl _) (by show 0 + A.slots.size ≤ A.slots.size; omega) (g := (mkF m 6 #[.val (.ref a), .val (.ref b)] [.null, .int (Int32.ofNat A.slots.size), .int (Int32.ofNat 0), .ref b, .ref a])) rfl (by rw [hml]; rfl) c2 (argsL := [.ref b, .int (Int32.ofNat 0), .int (Int32.ofNat A.slots.size), .null]) (rest := []) rfl rfl (by show 2 * 0 + 0 ≤ _; decide) (hb hbytes d6) (⟨rfl, hB.mv X0.warmed.alike hh0, f1.al X0.warmed.alike, f2.al X0.warmed.alike, hA.mv X0.warmed.alike hh0, s1.there X0.warmed.alike hh0, hz, l0, by omega, l2, fun i hi => by rw [Nat.zero_add]; exact hp i hi⟩)
  have e0 := Got.mv _ s₁ s _ _ hh0.symm (Vm.Alike.refl _) rfl E3
  obtain rfl := e0.1
  have c4 : Steps p.tables e below (s₁.setTop (entryFrame m #[.ref a, .ref b] 2)) (T3.setTop (mkF m 9 #[.val (.ref a), .val (.ref b)] [])) := g3
  exact ⟨T3, none, _, _, _, X3, by simp, rfl, by omega, (fun _ => rfl), e0, fun fs hl => c4.trans (X3.returnOut hexec hret (hb hbytes d9) hl)⟩
theorem pays {l : Launch} {R : Room} {p : Program} {e : Env} {below : List Frame} {s : State} {sargs : Array Value} {len W : Nat} (a : Addr) (D : Cell) (fV fC : Field) (b : Addr) (A : Cell) (z : Int32) (htab : tab.before sargs s = true) (hfr : 4 ≤ R.frames) (hlo : W + 65 ≤ R.locals) :
    Back l R p e below s sargs yN len W (fun A₁ a₁ => A₁.cells + 1 ≤ R.cells ∧ A₁.slots + A.slots.size ≤ R.slots ∧ P a D fV fC b A z a₁ A₁.U) (fun A₁ _ v₁ B₁ => E a D fV fC A v₁ A₁.U B₁.U ∧ B₁.locs = A₁.locs ++ [⟨a, fC.slot⟩, ⟨a, fV.slot⟩] ∧ B₁.cells = A₁.cells + 1 ∧ B₁.slots = A₁.slots + A.slots.size) :=
  (law l a D fV fC b A z).pays htab hfr (by omega)
end New1
/-- the byte, read back as charAt reads it, is the char -/
theorem lo8_mask {x : Int32} (h0 : ¬ x < 0) (h1 : ¬ 255 < x) : lo8 x &&& 255 = x := by
  have t : ∀ k : Fin 256, lo8 (Int32.ofNat k.val) &&& 255 = Int32.ofNat k.val := by decide +kernel
  rw [Int32.lt_iff_toInt_lt] at h0 h1
  have e0 : (0 : Int32).toInt = 0 := rfl
  have e1 : (255 : Int32).toInt = 255 := rfl
  obtain ⟨k, hk⟩ : ∃ k : Nat, x.toInt = k := ⟨x.toInt.toNat, by omega⟩
  have hx : x = Int32.ofNat k := Int32.toInt_inj.mp (by rw [hk, Int32.toInt_ofNat_small (by omega)])
  rw [hx]
  exact t ⟨k, by omega⟩
end StrChars
namespace StrChars.Road
open Jvm Sem ClassFile Op Lib Jvm.Stand Jvm.Free Jvm.Free.XT
open Jvm.Lib.Cold (StaticIs)
abbrev ST : String := "java/lang/String"
/-- every table word that New1's law asks, flat -/
abbrev words : List Jvm.Cond := [.code New1.yN New1.yB 2 none, .initialized ST, .methodLink ST 27 New4.yN, .instanceMethod New4.yN,
  .code New4.yN New4.yB 6 none, .fieldLink ST 38 ST "COMPACT_STRINGS" "Z", .laysFinal ST ST "value" "[B", .fieldLink ST 9 ST "value" "[B", .laysFinal ST ST "coder" "B", .fieldLink ST 15 ST "coder" "B",
  .methodLink ST 1 Lib.objectInit, .instanceMethod Lib.objectInit, .code Lib.objectInit ⟨#[0xb1]⟩ 1 none, .methodLink ST 177 Cmp3.yN, .static Cmp3.yN, .methodLink ST 47 CodL.yN, .static CodL.yN,
  .code Cmp3.yN Cmp3.yB 6 (some (.array .byte)), .initialized U16, .arrayClass .byte, .methodLink U16 115 Cmp5.yN, .static Cmp5.yN, .code Cmp5.yN Cmp5.yB 7 (some .int), .code CodL.yN CodL.yB 2 (some .byte)]
theorem tab_of {a : Array Value} {s : State} (h : ∀ w ∈ words, w.before a s = true) : New1.tab.before a s = true := by
  have h5 : Cmp5.tab.before a s = true := unparts (wk h (.code Cmp5.yN Cmp5.yB 7 (some .int))) (wks h (.initialized Cmp5.yN.cls :: Cmp5.site))
  have hc : CodL.tab.before a s = true := unparts (wk h (.code CodL.yN CodL.yB 2 (some .byte))) (wks h (.initialized CodL.yN.cls :: CodL.site))
  have q5 : ∀ w ∈ Cmp5.tab :: words, w.before a s = true := fun w hw => (List.mem_cons.mp hw).elim (fun e => e ▸ h5) (h w)
  have h3 : Cmp3.tab.before a s = true := unparts (wk q5 (.code Cmp3.yN Cmp3.yB 6 (some (.array .byte)))) (wks q5 (.initialized Cmp3.yN.cls :: Cmp3.site))
  have q3 : ∀ w ∈ Cmp3.tab :: CodL.tab :: words, w.before a s = true := fun w hw => (List.mem_cons.mp hw).elim (fun e => e ▸ h3) fun hw => (List.mem_cons.mp hw).elim (fun e => e ▸ hc) (h w)
  have h4 : New4.tab.before a s = true := unparts (wk q3 (.code New4.yN New4.yB 6 none)) (wks q3 (.initialized New4.yN.cls :: New4.site))
  have q4 : ∀ w ∈ New4.tab :: words, w.before a s = true := fun w hw => (List.mem_cons.mp hw).elim (fun e => e ▸ h4) (h w)
  exact unparts (wk q4 (.code New1.yN New1.yB 2 none)) (wks q4 (.initialized New1.yN.cls :: New1.site))
/-- the words ride from the start Z to the walk's own state -/
theorem moved {Z s : State} {a0 args : Array Value} (hZ : Z.Warmed39 s.vm) (hw : ∀ d ∈ words, d.before a0 Z = true) : ∀ d ∈ words, d.before args s = true := fun d hd => by
  have q := hw d hd
  have t : ∀ d ∈ words, d = .arrayClass .byte ∨ (d.onTables && d.keepsFace) = true := by decide +kernel
  rcases t d hd with rfl | t
  · exact RoadKit.mvA hZ q
  · exact RoadKit.mv hZ q t
/-- WHAT COMES BACK, over the tables of the start Z: h the heap at the call, h' behind it -/
def Q (Z : State) (x : Addr) (A : Cell) (h : Heap) (v : Option Value) (h' : Heap) (L : List Loc) : Prop := v = none ∧ (∀ y ∈ L, y.base = x) ∧ RoadKit.Keep h h' [x] ∧ h'.size = h.size + 1 ∧ RoadKit.Exa Z h' x ST ∧ RoadKit.Fld Z h' x ST "value" "[B" (.ref h.size) ∧ RoadKit.Fld Z h' x ST "coder" "B" (.int 0) ∧
  (∃ V : Cell, RoadKit.Arr Z h' h.size V .byte ∧ V.vm = .none ∧ Z.vm.findClass "[B" = some V.cls ∧ V.slots.size = A.slots.size ∧ ∀ j, j < A.slots.size → V.slots[j]? = some (.int (lo8 (cv A j)))) ∧
  ∀ (O n d : String) (w : Value), RoadKit.Fld Z h x O n d w → RoadKit.slotOf Z O n d ≠ RoadKit.slotOf Z ST "value" "[B" → RoadKit.slotOf Z O n d ≠ RoadKit.slotOf Z ST "coder" "B" → RoadKit.Fld Z h' x O n d w
/-- **new String(chars) AT A CALL, IN THE ROAD'S FORM**: for specialBack behind newO: x the fresh String, b the char[] with the cell A -/
theorem back {p : Program} {l : Launch} {e : Env} {R : Room} {s : State} {args : Array Value} {below : List Frame} {len W : Nat} {Z : State} {a0 : Array Value} {h : Heap} (hZ : Z.Warmed39 s.vm) (hw : ∀ d ∈ words, d.before a0 Z = true) {kI : Nat} (wi : (Jvm.Cond.instantiable ST kI).before a0 Z = true)
    {x b : Addr} {A : Cell} {z : Int32} {v0 c0 : Value} (E : RoadKit.Exa Z h x ST) (V : RoadKit.Fld Z h x ST "value" "[B" v0) (C : RoadKit.Fld Z h x ST "coder" "B" c0) (K : RoadKit.Arr Z h b A .char) (hty : Typed .char A) (S : RoadKit.Sta Z h ST "COMPACT_STRINGS" "Z" (.int z)) (hz : ¬ z = 0)
    (l0 : 0 < A.slots.size) (l2 : A.slots.size ≤ 536870912) (hp : ∀ i, i < A.slots.size → ¬ 255 < cv A i) (hfr : 4 ≤ R.frames) (hlo : W + 65 ≤ R.locals) :
    Back l R p e below s args New1.yN len W (fun P a => a = #[.ref x, .ref b] ∧ P.U.heap = h ∧ P.cells + 1 ≤ R.cells ∧ P.slots + A.slots.size ≤ R.slots)
      (fun P _ v B => ∃ L, Q Z x A h v B.U.heap L ∧ B.locs = P.locs ++ L ∧ B.cells = P.cells + 1 ∧ B.slots = P.slots + A.slots.size) := by
  intro m meth c P g ig mk a X hg hsize hdg hW hn hp'
  obtain ⟨rfl, rfl, r1, r2⟩ := hp'
  have al : Z.vm.Alike P.U.vm := hZ.alike.trans X.warmed.alike
  obtain ⟨D, cfV, kV, iV, fV, hD, gV, stV, knV, obV, asV, slV⟩ := id V
  obtain ⟨D', cfC, kC, iC, fC, hD', gC, stC, -, -, asC, slC⟩ := id C
  cases hD.symm.trans hD'
  obtain ⟨D2, kD, e1, e2, e3, e4, e5⟩ := id E
  cases hD.symm.trans e1
  obtain ⟨c2, k2, i1, i2, i3, -⟩ := Cond.instantiable_spec wi
  cases e2.symm.trans i1
  cases e3.symm.trans i2
  obtain ⟨kU, u1, u2⟩ := al.2.2 _ _ e3
  have hB : Blank ST x D P.U := ⟨hD, ⟨knV, fun q hq => by rw [hq] at obV; cases obV⟩, by rw [al.findClass]; exact e2, kU, u1, by rw [u2]; exact i3, by rw [u2]; exact e5 i3⟩
  have F1 : Found ST "value" "[B" fV P.U := ⟨SBG.found_only al ⟨cfV, kV, iV, gV⟩, stV⟩
  have F2 : Found ST "coder" "B" fC P.U := ⟨SBG.found_only al ⟨cfC, kC, iC, gC⟩, stC⟩
  have hA : Ch b A P.U := ⟨⟨K.1, State.isArrayOf_alike al K.2.1, K.2.2, by omega⟩, hty⟩
  have hS : StaticIs P.U ST "COMPACT_STRINGS" "Z" (.int z) := by
    obtain ⟨cfS, iS, kS, fS, st, cS, t1, t2, t3, t4, t5, t6, t7⟩ := S
    exact StaticIs.there (s := { Z with heap := P.U.heap }) ⟨cfS, iS, kS, fS, st, cS, t1, t2, t3, t4, t5, (fun q => by rw [q] at t6; cases t6), t7⟩ al rfl
  obtain ⟨v, B, X', ⟨⟨hv, E', V', q1, q2, q3, q4, q5, q6, q7, q8, q9, q10, q11⟩, hl, hc, hs⟩, st⟩ := New1.pays x D fV fC b A z (tab_of (moved hZ hw)) hfr hlo m meth c P g ig mk _ X hg hsize hdg hW hn ⟨r1, r2, rfl, hB, F1, F2, hA, hS, hz, l0, l2, hp⟩
  have al' : Z.vm.Alike B.U.vm := hZ.alike.trans X'.warmed.alike
  have hsz : E'.slots.size = D.slots.size := by
    obtain ⟨-, -, -, kB, w1, w2, w3⟩ := q1
    obtain ⟨kB', y1, y2⟩ := al'.2.2 _ _ e3
    rw [q2.2.1] at w1
    cases w1.symm.trans y1
    rw [w3, e5 i3, y2]
  refine ⟨v, B, X', ⟨_, ⟨hv, ?_, ⟨by omega, fun y cy hy hn' => q10 y cy (by simpa using hn') hy, fun y cy hy => ?_⟩, q11, ⟨E', _, q1.1, by rw [q2.2.1]; exact e2, by rw [q2.2.1]; exact e3, by rw [q2.1]; exact obV, fun _ => by rw [hsz]; exact e5 i3⟩,
    ⟨E', cfV, kV, iV, fV, q1.1, gV, stV, by rw [q2.1]; exact knV, by rw [q2.1]; exact obV, by rw [q2.2.1]; exact asV, q3⟩, ⟨E', cfC, kC, iC, fC, q1.1, gC, stC, by rw [q2.1]; exact knV, by rw [q2.1]; exact obV, by rw [q2.2.1]; exact asC, q4⟩,
    ⟨V', ⟨q5.1, State.isArrayOf_alike al'.symm q5.2.1, q5.2.2.1⟩, q6, by rw [← al'.findClass]; exact q7, q8, fun j hj => by have := q9 j hj; rwa [Nat.zero_add] at this⟩, fun O n d w F n1 n2 => ?_⟩, hl, hc, hs⟩, st⟩
  · intro y hy
    simp only [List.mem_cons, List.not_mem_nil, or_false] at hy
    rcases hy with rfl | rfl <;> rfl
  · by_cases q : y = x
    · subst q
      cases hD.symm.trans hy
      exact ⟨E', q1.1, q2.2.1, q2.1, hsz⟩
    · exact ⟨cy, q10 y cy q hy, rfl, rfl, rfl⟩
  · obtain ⟨D3, cf, k, i, f, g1, g2, g3, g4, g5, g6, g7⟩ := F
    cases hD.symm.trans g1
    simp only [RoadKit.slotOf, g2, gV, gC, Option.map_some, Option.getD_some] at n1 n2
    exact ⟨E', cf, k, i, f, q1.1, g2, g3, by rw [q2.1]; exact g4, by rw [q2.1]; exact g5, by rw [q2.2.1]; exact g6, by rw [q2.2.2 f.slot (by simp [n1, n2])]; exact g7⟩
end StrChars.Road
namespace StrChars.Road
open Jvm Sem ClassFile Op Lib Jvm.Stand Jvm.Free Jvm.Free.XT
/-- WHAT COMES BACK, the byte[] as a list of values -/
def QA (Z : State) (x : Addr) (zn : Int32) (cs : List Int32) (h : Heap) (v : Option Value) (h' : Heap) (L : List Loc) : Prop := v = none ∧ (∀ y ∈ L, y.base = x) ∧ RoadKit.Keep h h' [x] ∧ h'.size = h.size + 1 ∧ RoadKit.Exa Z h' x ST ∧ RoadKit.Fld Z h' x ST "value" "[B" (.ref h.size) ∧ RoadKit.Fld Z h' x ST "coder" "B" (.int 0) ∧
  (∃ kb, Z.vm.findClass "[B" = some kb ∧ RoadKit.Arv Z h' h.size kb .byte zn (cs.map fun c => .int (lo8 c)) (.int 0)) ∧
  ∀ (O n d : String) (w : Value), RoadKit.Fld Z h x O n d w → RoadKit.slotOf Z O n d ≠ RoadKit.slotOf Z ST "value" "[B" → RoadKit.slotOf Z O n d ≠ RoadKit.slotOf Z ST "coder" "B" → RoadKit.Fld Z h' x O n d w
/-- **new String(chars) AT A CALL, THE ARRAYS AS LISTS**: the char[] at b holds cs, not empty, no char above 255 -/
theorem backArv {p : Program} {l : Launch} {e : Env} {R : Room} {s : State} {args : Array Value} {below : List Frame} {len W : Nat} {Z : State} {a0 : Array Value} {h : Heap} (hZ : Z.Warmed39 s.vm) (hw : ∀ d ∈ words, d.before a0 Z = true) {kI : Nat} (wi : (Jvm.Cond.instantiable ST kI).before a0 Z = true)
    {x b : Addr} {k : ClassId} {zn z : Int32} {cs : List Int32} {dv v0 c0 : Value} (E : RoadKit.Exa Z h x ST) (V : RoadKit.Fld Z h x ST "value" "[B" v0) (C : RoadKit.Fld Z h x ST "coder" "B" c0) (K : RoadKit.Arv Z h b k .char zn (cs.map Value.int) dv) (S : RoadKit.Sta Z h ST "COMPACT_STRINGS" "Z" (.int z)) (hz : ¬ z = 0)
    (hlen : zn.toNatClampNeg = cs.length) (h0 : 0 < cs.length) (hbig : cs.length ≤ 536870912) (hall : ∀ c ∈ cs, ¬ 255 < c) (hfr : 4 ≤ R.frames) (hlo : W + 65 ≤ R.locals) :
    Back l R p e below s args New1.yN len W (fun P a => a = #[.ref x, .ref b] ∧ P.U.heap = h ∧ P.cells + 1 ≤ R.cells ∧ P.slots + cs.length ≤ R.slots)
      (fun P _ v B => ∃ L, QA Z x zn cs h v B.U.heap L ∧ B.locs = P.locs ++ L ∧ B.cells = P.cells + 1 ∧ B.slots = P.slots + cs.length) := by
  obtain ⟨A, K1, K2, K3, K4, K5, K6⟩ := K
  have e : A.slots.size = cs.length := K3.trans hlen
  have hat : ∀ (i : Nat) (hi : i < cs.length), A.slots[i]? = some (.int cs[i]) := fun i hi => by rw [K5 i (by omega)]; simp [List.getD_eq_getElem?_getD, hi]
  have hcv : ∀ (i : Nat) (hi : i < cs.length), cv A i = cs[i] := fun i hi => by unfold cv; rw [hat i hi]
  have hty : Typed .char A := fun i v hv => by
    have hi : i < A.slots.size := (Array.getElem?_eq_some_iff.mp hv).1
    have q := K5 i hi
    rw [hv] at q
    rw [Option.some.inj q]
    exact K6 i hi
  refine Back.mono (back hZ hw wi E V C K1 hty S hz (by omega) (by omega) (fun i hi => by rw [hcv i (by omega)]; exact hall _ (List.getElem_mem _)) hfr hlo) (fun P a hp => ⟨hp.1, hp.2.1, hp.2.2.1, by rw [e]; exact hp.2.2.2⟩) (fun P a v B hp hq => ?_)
  obtain ⟨L, ⟨q1, q2, q3, q4, q5, q6, q7, ⟨V', v1, v2, v3, v4, v5⟩, q9⟩, hl, hc, hs⟩ := hq
  refine ⟨L, ⟨q1, q2, q3, q4, q5, q6, q7, ⟨V'.cls, v3, V', v1, rfl, by rw [v4, e, hlen], K4, fun i hi => ?_, fun i hi => ?_⟩, q9⟩, hl, hc, by rw [hs, e]⟩
  · have hi' : i < cs.length := by omega
    rw [v5 i (by omega), hcv i hi']; simp [List.getD_eq_getElem?_getD, hi']
  · have hi' : i < cs.length := by omega
    simp only [List.getD_eq_getElem?_getD, List.getElem?_map, List.getElem?_eq_getElem hi', Option.map_some, Option.getD_some]
    exact fits_lo8 _
end StrChars.Road
namespace StrChars.Road
open Jvm Sem ClassFile Op Lib Jvm.Stand Jvm.Free Jvm.Free.XT
/-- WHAT COMES BACK, in the writer's own shape -/
def QV (Z : State) (x : Addr) (N : Int32) (bs : List Int32) (h : Heap) (n0 : Nat) (v : Option Value) (h' : Heap) (L : List Loc) : Prop := v = none ∧ RoadKit.Fr n0 L ∧ RoadKit.Keep h h' [x] ∧ RoadKit.Exa Z h' x ST ∧ RoadKit.Fld Z h' x ST "coder" "B" (.int 0) ∧
  ∃ (t : Addr) (kb : ClassId), n0 ≤ t ∧ h.size ≤ t ∧ ¬ t = x ∧ RoadKit.Fld Z h' x ST "value" "[B" (.ref t) ∧ RoadKit.Arv Z h' t kb .byte N (bs.map Value.int) (.int 0)
/-- **new String(chars) AT A CALL, FOR THE WRITER**: a char[] of n known ints, each 0 to 255 -/
theorem backV {p : Program} {l : Launch} {e : Env} {R : Room} {s : State} {args : Array Value} {below : List Frame} {len W : Nat} {Z : State} {a0 : Array Value} {h : Heap} (hZ : Z.Warmed39 s.vm) (hw : ∀ d ∈ words, d.before a0 Z = true) {kI : Nat} (wi : (Jvm.Cond.instantiable ST kI).before a0 Z = true)
    {x b : Addr} {kC : ClassId} {cs bs : List Int32} {d v0 c0 : Value} {z N : Int32} {n n0 : Nat} (hx0 : n0 ≤ x) (hh0 : n0 ≤ h.size) (E : RoadKit.Exa Z h x ST) (V : RoadKit.Fld Z h x ST "value" "[B" v0) (C : RoadKit.Fld Z h x ST "coder" "B" c0) (K : RoadKit.Arv Z h b kC .char N (cs.map Value.int) d) (S : RoadKit.Sta Z h ST "COMPACT_STRINGS" "Z" (.int z)) (hz : ¬ z = 0)
    (hn : cs.length = n) (hN : N = Int32.ofNat n) (l0 : 0 < n) (l2 : n ≤ 4000) (hp : ∀ c ∈ cs, ¬ c < 0 ∧ ¬ (255 : Int32) < c) (hb : bs = cs.map (fun c => c.toInt8.toInt32)) (hfr : 4 ≤ R.frames) (hlo : W + 65 ≤ R.locals) :
    Back l R p e below s args (⟨"java/lang/String", "<init>", "([C)V"⟩ : MethodName) len W (fun P a => a = #[.ref x, .ref b] ∧ P.U.heap = h ∧ P.cells + 1 ≤ R.cells ∧ P.slots + n ≤ R.slots)
      (fun P _ v B => ∃ L, QV Z x N bs h n0 v B.U.heap L ∧ B.locs = P.locs ++ L ∧ B.cells = P.cells + 1 ∧ B.slots = P.slots + n) := by
  subst hn hN hb
  refine Back.mono (backArv hZ hw wi E V C K S hz (n32 (by omega)) l0 (by omega) (fun c hc => (hp c hc).2) hfr hlo) (fun P a hp => hp) (fun P a v B hp hq => ?_)
  obtain ⟨L, ⟨q1, q2, q3, q4, q5, q6, q7, ⟨kb, v1, v2⟩, q9⟩, hl, hc, hs⟩ := hq
  exact ⟨L, ⟨q1, fun y hy => by rw [q2 y hy]; exact hx0, q3, q5, q7, h.size, kb, hh0, Nat.le_refl _, Nat.ne_of_gt E.lt, q6, by rw [List.map_map]; exact v2⟩, hl, hc, hs⟩
end StrChars.Road
namespace StrChars
open Jvm Sem ClassFile Op Lib Jvm.Stand Jvm.Free.XT Jvm.Free.ALB Jvm.Free.JM Jvm.Free
open Jvm.Lib.Cold (StaticIs)
def hi8 (x : Int32) : Int32 := lo8 (x >>> ((8 : Int32) &&& 31))
/-- what StringUTF16.getChar makes of two bytes -/
def pairCh (u v : Int32) : Int32 := (((u &&& 255) <<< ((0 : Int32) &&& 31)) ||| ((v &&& 255) <<< ((8 : Int32) &&& 31))).toUInt32.toUInt16.toUInt32.toInt32
theorem shr0 (c : Int32) : c >>> ((0 : Int32) &&& 31) = c := by
  have e : ((0 : Int32) &&& 31) = 0 := by decide
  rw [e]
  apply Int32.toBitVec_inj.mp
  rw [Int32.toBitVec_shiftRight]
  have e1 : ((0 : Int32).toBitVec.smod 32) = 0#32 := by decide
  rw [e1, BitVec.sshiftRight_eq']
  exact BitVec.sshiftRight_zero
theorem lo8_and (x : Int32) : (lo8 x &&& 255).toBitVec.toNat = x.toBitVec.toNat % 256 := by
  have h : (lo8 x).toBitVec = (x.toBitVec.signExtend 8).signExtend 32 := by rw [lo8, Int8.toBitVec_toInt32, Int32.toBitVec_toInt8]
  rw [Int32.toBitVec_and, BitVec.toNat_and, h]
  have e : ((x.toBitVec.signExtend 8).signExtend 32).toNat % 256 = x.toBitVec.toNat % 256 := by
    rw [BitVec.toNat_signExtend]
    have hlt := x.toBitVec.isLt
    simp only [BitVec.toNat_setWidth, BitVec.toNat_signExtend]
    split <;> split <;> omega
  rw [← e]
  exact Nat.and_two_pow_sub_one_eq_mod _ 8
theorem pair_says {c : Int32} (h0 : ¬ c < 0) (h1 : ¬ 65535 < c) : pairCh (lo8 c) (hi8 c) = c := by
  rw [Int32.lt_iff_toInt_lt] at h0 h1
  have e0 : (0 : Int32).toInt = 0 := rfl
  have e1 : (65535 : Int32).toInt = 65535 := rfl
  have hc : c.toInt = c.toBitVec.toNat := by
    have := c.toBitVec.isLt
    have e : c.toInt = c.toBitVec.toInt := rfl
    rw [e] at h0 h1
    rw [e]
    rw [BitVec.toInt_eq_toNat_cond] at h0 h1 ⊢
    split at h0 <;> split <;> omega
  have hn : c.toBitVec.toNat < 65536 := by omega
  have a1 := lo8_and c
  have a2 : (hi8 c &&& 255).toBitVec.toNat = c.toBitVec.toNat / 256 := by
    rw [hi8, lo8_and]
    have e : ((8 : Int32) &&& 31) = 8 := by decide
    rw [e, Int32.toBitVec_shiftRight]
    have e2 : ((8 : Int32).toBitVec.smod 32) = 8#32 := by decide
    rw [e2, BitVec.sshiftRight_eq', BitVec.toNat_sshiftRight_of_msb_false (by rw [BitVec.msb_eq_false_iff_two_mul_lt]; omega)]
    show c.toBitVec.toNat >>> 8 % 256 = _
    rw [Nat.shiftRight_eq_div_pow]
    omega
  unfold pairCh
  apply Int32.toBitVec_inj.mp
  apply BitVec.eq_of_toNat_eq
  have f0 : ((0 : Int32) &&& 31) = 0 := by decide
  have f8 : ((8 : Int32) &&& 31) = 8 := by decide
  rw [f0, f8]
  have g : (((lo8 c &&& 255) <<< (0 : Int32)) ||| ((hi8 c &&& 255) <<< (8 : Int32))).toBitVec.toNat = c.toBitVec.toNat := by
    rw [Int32.toBitVec_or, Int32.toBitVec_shiftLeft, Int32.toBitVec_shiftLeft]
    have s0 : ((0 : Int32).toBitVec.smod 32) = 0#32 := by decide
    have s8 : ((8 : Int32).toBitVec.smod 32) = 8#32 := by decide
    rw [s0, s8, BitVec.toNat_or]
    simp only [BitVec.shiftLeft_eq', BitVec.toNat_shiftLeft, a1, a2]
    show (c.toBitVec.toNat % 256) <<< 0 % 2 ^ 32 ||| (c.toBitVec.toNat / 256) <<< 8 % 2 ^ 32 = _
    rw [Nat.shiftLeft_zero, Nat.mod_eq_of_lt (show c.toBitVec.toNat % 256 < 2 ^ 32 by omega), Nat.mod_eq_of_lt (show (c.toBitVec.toNat / 256) <<< 8 < 2 ^ 32 by rw [Nat.shiftLeft_eq]; omega), Nat.or_comm, ← Nat.shiftLeft_add_eq_or_of_lt (by omega), Nat.shiftLeft_eq]
    omega
  show BitVec.toNat (((((lo8 c &&& 255) <<< (0 : Int32)) ||| ((hi8 c &&& 255) <<< (8 : Int32))).toBitVec.setWidth 16).setWidth 32) = _
  rw [BitVec.toNat_setWidth, BitVec.toNat_setWidth, g]
  omega
end StrChars
namespace StrChars
open Jvm Sem ClassFile Op Lib Jvm.Stand Jvm.Free.XT Jvm.Free.ALB Jvm.Free.JM Jvm.Free
open Jvm.Lib.Cold (StaticIs)
theorem shr1 {n : Nat} (h : 2 * n < 2 ^ 31) : Int32.ofNat (2 * n) >>> ((1 : Int32) &&& 31) = Int32.ofNat n := by
  have e : ((1 : Int32) &&& 31) = 1 := by decide
  rw [e]
  apply Int32.toBitVec_inj.mp
  rw [Int32.toBitVec_shiftRight]
  have e1 : ((1 : Int32).toBitVec.smod 32) = 1#32 := by decide
  have hm : (BitVec.ofNat 32 (2 * n)).toNat = 2 * n := by rw [BitVec.toNat_ofNat, Nat.mod_eq_of_lt (by omega)]
  rw [e1, BitVec.sshiftRight_eq']
  apply BitVec.eq_of_toNat_eq
  show ((BitVec.ofNat 32 (2 * n)).sshiftRight 1).toNat = (BitVec.ofNat 32 n).toNat
  rw [BitVec.toNat_sshiftRight_of_msb_false (by rw [BitVec.msb_eq_false_iff_two_mul_lt, hm]; omega), hm, BitVec.toNat_ofNat, Nat.shiftRight_eq_div_pow]
  omega
/-- charAt's cast of a byte read back -/
def chr8 (u : Int32) : Int32 := (u &&& 255).toUInt32.toUInt16.toUInt32.toInt32
theorem chr8_lo8 {c : Int32} (h0 : ¬ c < 0) (h1 : ¬ 255 < c) : chr8 (lo8 c) = c := by
  have t : ∀ k : Fin 256, (Int32.ofNat k.val).toUInt32.toUInt16.toUInt32.toInt32 = Int32.ofNat k.val := by decide +kernel
  unfold chr8
  rw [lo8_mask h0 h1]
  rw [Int32.lt_iff_toInt_lt] at h0 h1
  have e0 : (0 : Int32).toInt = 0 := rfl
  have e1 : (255 : Int32).toInt = 255 := rfl
  obtain ⟨k, hk⟩ : ∃ k : Nat, c.toInt = k := ⟨c.toInt.toNat, by omega⟩
  have hx : c = Int32.ofNat k := Int32.toInt_inj.mp (by rw [hk, Int32.toInt_ofNat_small (by omega)])
  rw [hx]
  exact t ⟨k, by omega⟩
theorem narrow_ch {c : Int32} (h0 : ¬ c < 0) (h1 : ¬ 65535 < c) : narrow .char (.int c) = .int c := by
  have q : narrow .char (.int (pairCh (lo8 c) (hi8 c))) = .int (pairCh (lo8 c) (hi8 c)) := narrow_c _
  rwa [pair_says h0 h1] at q
/-- the array's cell V codes the n chars f 0 .. f (n - 1) by the coder cd, as the JDK does: coder 1 just where some char is above 255 -/
def Cod (cd : Int32) (n : Nat) (f : Nat → Int32) (V : Cell) : Prop := (cd = 0 ∧ V.slots.size = n ∧ ∀ j, j < n → V.slots[j]? = some (.int (lo8 (f j))) ∧ ¬ 255 < f j) ∨ (cd = 1 ∧ V.slots.size = 2 * n ∧ (∀ j, j < n → V.slots[2 * j]? = some (.int (lo8 (f j))) ∧ V.slots[2 * j + 1]? = some (.int (hi8 (f j)))) ∧ ∃ j, j < n ∧ 255 < f j)
theorem Cod.cd {cd : Int32} {n : Nat} {f : Nat → Int32} {V : Cell} (h : Cod cd n f V) : cd = 0 ∨ cd = 1 := h.imp (fun q => q.1) fun q => q.1
/-- **x is a String of the n chars f 0 .. f (n - 1)**, Latin-1 or UTF-16; its array at t has the cell V -/
def Txt (x t : Addr) (V : Cell) (cd : Int32) (n : Nat) (f : Nat → Int32) (U : State) : Prop := Exact "java/lang/String" x U ∧ Has x "java/lang/String" "value" "[B" (.ref t) U ∧ Has x "java/lang/String" "coder" "B" (.int cd) U ∧ XT.Arr .byte t V U ∧ Cod cd n f V ∧ ∀ j, j < n → ¬ f j < 0 ∧ ¬ 65535 < f j
theorem Txt.mv {x t : Addr} {V : Cell} {cd : Int32} {n : Nat} {f : Nat → Int32} {U U' : State} (h : Txt x t V cd n f U) (hal : U.vm.Alike U'.vm) (hh : U'.heap = U.heap) : Txt x t V cd n f U' := ⟨h.1.mv hal hh, h.2.1.mv hal hh, h.2.2.1.mv hal hh, h.2.2.2.1.mv hal hh, h.2.2.2.2⟩
namespace IsL
def yN : MethodName := ⟨"java/lang/String", "isLatin1", "()Z"⟩
abbrev yB : ByteArray := jdk_42_method_154_code
theorem d0 : decode yB 0 = .ok (.getstatic 38, 3) := by decide +kernel
theorem d3 : decode yB 3 = .ok (.ifCond (.eq) 14, 3) := by decide +kernel
theorem d6 : decode yB 6 = .ok (.aload_n 0, 1) := by decide +kernel
theorem d7 : decode yB 7 = .ok (.getfield 15, 3) := by decide +kernel
theorem d10 : decode yB 10 = .ok (.ifCond (.ne) 7, 3) := by decide +kernel
theorem d13 : decode yB 13 = .ok (.iconst 1, 1) := by decide +kernel
theorem d14 : decode yB 14 = .ok (.goto 4, 3) := by decide +kernel
theorem d17 : decode yB 17 = .ok (.iconst 0, 1) := by decide +kernel
theorem d18 : decode yB 18 = .ok (.ireturn, 1) := by decide +kernel
def site : List Cond := [.fieldLink "java/lang/String" 38 "java/lang/String" "COMPACT_STRINGS" "Z", .fieldLink "java/lang/String" 15 "java/lang/String" "coder" "B"]
def tab : Cond := tabOf yN yB 1 (some .boolean) site
def P (x : Addr) (cd z : Int32) (args : Array Value) (s : State) : Prop := args = #[.ref x] ∧ Has x "java/lang/String" "coder" "B" (.int cd) s ∧ (cd = 0 ∨ cd = 1) ∧ StaticIs s "java/lang/String" "COMPACT_STRINGS" "Z" (.int z) ∧ ¬ z = 0
def E (cd : Int32) (r : Option Value) (s u : State) : Prop := XT.PureE (some (.int (1 - cd))) r s u
theorem law (l : Launch) (x : Addr) (cd z : Int32) : Law l yN 1 0 0 0 yB 1 (some .boolean) site (P x cd z) (E cd) [] 0 0 := by
  refine Law.of_walk (plainFor_of_name (by decide +kernel)) (by decide +kernel) (by decide +kernel) (by decide) (fun _ _ h => by rw [h.1]; rfl) (fun _ U U' hal hh h => ⟨h.1, h.2.1.mv hal hh, h.2.2.1, h.2.2.2.1.there hal hh, h.2.2.2.2⟩) (fun r U U' V V' h1 hal h2 h => XT.PureE.mv r U U' V V' h1 hal h2 h) ?_
  intro p e s m args below meth c s₁ X0 hexec hbytes hml hret hlk hnm hown hh0 W hP
  obtain ⟨rfl, hx, hc, s1, hz⟩ := hP
  have c1 : Steps p.tables e below (s₁.setTop (entryFrame m #[.ref x] 1)) (s₁.setTop (mkF m 0 #[.val (.ref x)] [])) := entry rfl
  obtain ⟨T2, X2, q2, st2⟩ := X0.sget hexec hown (wk W (.fieldLink "java/lang/String" 38 "java/lang/String" "COMPACT_STRINGS" "Z")) s1 (fun _ _ h => by rw [hh0]; exact h) (g := (mkF m 0 #[.val (.ref x)] [])) rfl (hb hbytes d0)
  have hh2 := q2.trans hh0
  have c3 : Steps p.tables e below (s₁.setTop (entryFrame m #[.ref x] 1)) (T2.setTop (mkF m 7 #[.val (.ref x)] [.ref x])) := (c1.trans (st2 _ (Steps.refl _))).trans (by
    refine XS.ifNo X2.here hexec rfl (hb hbytes d3) rfl (i0_eq_f hz) ?_
    refine XS.aloadN X2.here hexec rfl (hb hbytes d6) rfl rfl ?_
    exact Steps.refl _)
  obtain ⟨T4, X4, q4, st4⟩ := X2.hget hexec hown (wk W (.fieldLink "java/lang/String" 15 "java/lang/String" "coder" "B")) (hx.mv X2.warmed.alike hh2) (g := (mkF m 7 #[.val (.ref x)] [.ref x])) rfl (rest := []) rfl (hb hbytes d7)
  have c5 : Steps p.tables e below (s₁.setTop (entryFrame m #[.ref x] 1)) (T4.setTop (mkF m 10 #[.val (.ref x)] [.int cd])) := c3.trans (st4 _ (Steps.refl _))
  have c6 : Steps p.tables e below (s₁.setTop (entryFrame m #[.ref x] 1)) (T4.setTop (mkF m 18 #[.val (.ref x)] [.int (1 - cd)])) := by
    rcases hc with rfl | rfl
    · exact c5.trans (by
        refine XS.ifNo X4.here hexec rfl (hb hbytes d10) rfl (i0_ne_f rfl) ?_
        refine iconstV X4.here hexec rfl 1 (hb hbytes d13) (by decide) ?_
        refine XS.goto X4.here hexec rfl (pc0 := 14) rfl (hb hbytes d14) (by decide) rfl ?_
        exact Steps.refl _)
    · exact c5.trans (by
        refine XS.ifYes X4.here hexec rfl (pc0 := 10) rfl (hb hbytes d10) rfl (i0_ne_t (by decide)) (by decide) rfl ?_
        refine iconstV X4.here hexec rfl 0 (hb hbytes d17) (by decide) ?_
        exact Steps.refl _)
  exact ⟨T4, some (.int (1 - cd)), _, _, _, X4, rfl, rfl, rfl, (fun h => by cases h), ⟨rfl, q4.trans hh2⟩, fun fs hl => c6.trans (X4.ireturnOut hexec hret (by rcases hc with rfl | rfl <;> rfl) (Or.inr (Or.inl rfl)) (hb hbytes d18) hl)⟩
end IsL
namespace LChA
def yN : MethodName := ⟨"java/lang/StringLatin1", "charAt", "([BI)C"⟩
abbrev yB : ByteArray := jdk_43_method_2_code
theorem d0 : decode yB 0 = .ok (.iload_n 1, 1) := by decide +kernel
theorem d1 : decode yB 1 = .ok (.aload_n 0, 1) := by decide +kernel
theorem d2 : decode yB 2 = .ok (.arraylength, 1) := by decide +kernel
theorem d3 : decode yB 3 = .ok (.invokestatic 9, 3) := by decide +kernel
theorem d6 : decode yB 6 = .ok (.aload_n 0, 1) := by decide +kernel
theorem d7 : decode yB 7 = .ok (.iload_n 1, 1) := by decide +kernel
theorem d8 : decode yB 8 = .ok (.baload, 1) := by decide +kernel
theorem d9 : decode yB 9 = .ok (.sipush 255, 3) := by decide +kernel
theorem d12 : decode yB 12 = .ok (.iand, 1) := by decide +kernel
theorem d13 : decode yB 13 = .ok (.i2c, 1) := by decide +kernel
theorem d14 : decode yB 14 = .ok (.ireturn, 1) := by decide +kernel
def site : List Cond := [JO.Str_checkIndex.tab] ++ staticW "java/lang/StringLatin1" 9 JO.Str_checkIndex.yN
def tab : Cond := tabOf yN yB 2 (some .char) site
def P (t : Addr) (V : Cell) (i : Nat) (u : Int32) (fm : Value) (args : Array Value) (s : State) : Prop := args = #[.ref t, .int (Int32.ofNat i)] ∧ XT.Arr .byte t V s ∧ V.slots[i]? = some (.int u) ∧ (StaticIs s "jdk/internal/util/Preconditions" "SIOOBE_FORMATTER" "Ljava/util/function/BiFunction;" fm ∧ fm.isRef = true)
def E (u : Int32) (r : Option Value) (s w : State) : Prop := XT.PureE (some (.int (chr8 u))) r s w
theorem law (l : Launch) (t : Addr) (V : Cell) (i : Nat) (u : Int32) (fm : Value) : Law l yN 2 2 2 27 yB 2 (some .char) site (P t V i u fm) (E u) [] 0 0 := by
  refine Law.of_walk (plainFor_of_name (by decide +kernel)) (by decide +kernel) (by decide +kernel) (by decide) (fun _ _ h => by rw [h.1]; rfl) (fun _ U U' hal hh h => ⟨h.1, h.2.1.mv hal hh, h.2.2.1, h.2.2.2.1.there hal hh, h.2.2.2.2⟩) (fun r U U' V V' h1 hal h2 h => XT.PureE.mv r U U' V V' h1 hal h2 h) ?_
  intro p e s m args below meth c s₁ X0 hexec hbytes hml hret hlk hnm hown hh0 W hP
  obtain ⟨rfl, hV, hu, s1, rf⟩ := hP
  have v31 := hV.2.2.2
  have hi : i < V.slots.size := (Array.getElem?_eq_some_iff.mp hu).1
  have c1 : Steps p.tables e below (s₁.setTop (entryFrame m #[.ref t, .int (Int32.ofNat i)] 2)) (s₁.setTop (mkF m 0 #[.val (.ref t), .val (.int (Int32.ofNat i))] [])) := entry rfl
  have c2 : Steps p.tables e below (s₁.setTop (entryFrame m #[.ref t, .int (Int32.ofNat i)] 2)) (s₁.setTop (mkF m 3 #[.val (.ref t), .val (.int (Int32.ofNat i))] [.int (Int32.ofNat V.slots.size), .int (Int32.ofNat i)])) := c1.trans (by
    refine XS.iloadN X0.here hexec rfl (hb hbytes d0) rfl ?_
    refine XS.aloadN X0.here hexec rfl (hb hbytes d1) rfl rfl ?_
    refine X0.alen hexec (hV.mv X0.warmed.alike hh0) rfl rfl (hb hbytes d2) ?_
    exact Steps.refl _)
  obtain ⟨v3, T3, X3, E3, g3⟩ := X0.callS hexec (JO.Str_checkIndex.law l (Int32.ofNat i) (Int32.ofNat V.slots.size) fm) hown (wks W (staticW "java/lang/StringLatin1" 9 JO.Str_checkIndex.yN)) (wk W JO.Str_checkIndex.tab) (W := 0) (Nat.le_of_ble_eq_true rfl) (Nat.le_of_ble_eq_true rfl) (Nat.le_refl _) (Nat.le_refl _) (g := (mkF m 3 #[.val (.ref t), .val (.int (Int32.ofNat i))] [.int (Int32.ofNat V.slots.size), .int (Int32.ofNat i)])) rfl (by rw [hml]; rfl) c2 (argsL := [.int (Int32.ofNat i), .int (Int32.ofNat V.slots.size)]) (rest := []) rfl rfl (by show 2 * 0 + 0 ≤ _; decide) (hb hbytes d3) (⟨rfl, rf, s1.there X0.warmed.alike hh0, Int32.ofNat_not_neg (by omega), lt32 v31 hi⟩)
  obtain ⟨rfl, q3⟩ := E3
  have hh3 := q3.trans hh0
  have c4 : Steps p.tables e below (s₁.setTop (entryFrame m #[.ref t, .int (Int32.ofNat i)] 2)) (T3.setTop (mkF m 14 #[.val (.ref t), .val (.int (Int32.ofNat i))] [.int (chr8 u)])) := Steps.trans g3 (by
    refine XS.aloadN X3.here hexec rfl (hb hbytes d6) rfl rfl ?_
    refine XS.iloadN X3.here hexec rfl (hb hbytes d7) rfl ?_
    refine X3.aget hexec (hV.mv X3.warmed.alike hh3) rfl hu rfl rfl (hb hbytes d8) ?_
    refine sipushV X3.here hexec rfl 255 (hb hbytes d9) (by decide) ?_
    refine XS.iand X3.here hexec rfl (hb hbytes d12) rfl ?_
    refine i2c X3.here hexec rfl (hb hbytes d13) rfl ?_
    exact Steps.refl _)
  exact ⟨T3, some (.int (chr8 u)), _, _, _, X3, rfl, rfl, rfl, (fun h => by cases h), ⟨rfl, hh3⟩, fun fs hl => c4.trans (X3.ireturnOut hexec hret (narrow_c _) (Or.inr (Or.inr (Or.inr (Or.inl rfl)))) (hb hbytes d14) hl)⟩
end LChA
end StrChars
namespace StrChars.Road
open Jvm Sem ClassFile Op Lib Jvm.Stand Jvm.Free Jvm.Free.XT
open Jvm.Lib.Cold (StaticIs)
theorem consq {a : Array Value} {s : State} {c : Jvm.Cond} {L : List Jvm.Cond} (h0 : c.before a s = true) (h : ∀ w ∈ L, w.before a s = true) : ∀ w ∈ c :: L, w.before a s = true := fun w hw => (List.mem_cons.mp hw).elim (fun e => e ▸ h0) (h w)
/-- the bytes of the chars cs, low before high -/
def wideBytes : List Int32 → List Value
  | [] => []
  | c :: cs => .int (lo8 c) :: .int (hi8 c) :: wideBytes cs
theorem wide_lo (d : Value) : ∀ (cs : List Int32) (j : Nat), j < cs.length → (wideBytes cs).getD (2 * j) d = .int (lo8 (cs.getD j 0))
  | [], j, h => absurd h (Nat.not_lt_zero j)
  | c :: cs, 0, _ => rfl
  | c :: cs, j + 1, h => by
    have q := wide_lo d cs j (by simpa using h)
    rw [show 2 * (j + 1) = 2 * j + 1 + 1 from by omega]
    simpa [wideBytes] using q
theorem wide_hi (d : Value) : ∀ (cs : List Int32) (j : Nat), j < cs.length → (wideBytes cs).getD (2 * j + 1) d = .int (hi8 (cs.getD j 0))
  | [], j, h => absurd h (Nat.not_lt_zero j)
  | c :: cs, 0, _ => rfl
  | c :: cs, j + 1, h => by
    have q := wide_hi d cs j (by simpa using h)
    rw [show 2 * (j + 1) + 1 = 2 * j + 1 + 1 + 1 from by omega]
    simpa [wideBytes] using q
theorem low_at (d : Value) (cs : List Int32) (j : Nat) (h : j < cs.length) : (cs.map fun c => Value.int (lo8 c)).getD j d = .int (lo8 (cs.getD j 0)) := by
  simp [List.getD_eq_getElem?_getD, h]
/-- an array of N2 bytes vs codes the chars cs by the coder cd -/
def CodA (cs : List Int32) (cd N2 : Int32) (vs : List Value) : Prop := (cd = 0 ∧ N2 = Int32.ofNat cs.length ∧ vs = (cs.map fun c => Value.int (lo8 c)) ∧ ∀ c ∈ cs, ¬ 255 < c) ∨ (cd = 1 ∧ N2 = Int32.ofNat (2 * cs.length) ∧ vs = wideBytes cs ∧ ∃ c ∈ cs, 255 < c)
theorem CodA.cod {cs : List Int32} {cd N2 : Int32} {vs : List Value} {V : Cell} (h : CodA cs cd N2 vs) (hn : 2 * cs.length < 2 ^ 31) (hs : V.slots.size = N2.toNatClampNeg) (hv : RoadKit.Has V vs (.int 0)) : Cod cd cs.length (fun j => cs.getD j 0) V := by
  rcases h with ⟨rfl, rfl, rfl, h⟩ | ⟨rfl, rfl, rfl, c, hc, hw⟩
  · rw [n32 (by omega)] at hs
    exact Or.inl ⟨rfl, hs, fun j hj => ⟨by rw [hv j (by omega), low_at _ _ _ hj], by
      have e : cs.getD j 0 = cs[j] := by simp [List.getD_eq_getElem?_getD, hj]
      show ¬ 255 < cs.getD j 0
      rw [e]; exact h _ (List.getElem_mem _)⟩⟩
  · rw [n32 (by omega)] at hs
    obtain ⟨j, hj, rfl⟩ := List.getElem_of_mem hc
    exact Or.inr ⟨rfl, hs, fun j hj => ⟨by rw [hv _ (by omega), wide_lo _ _ _ hj], by rw [hv _ (by omega), wide_hi _ _ _ hj]⟩, j, hj, by
      have e : cs.getD j 0 = cs[j] := by simp [List.getD_eq_getElem?_getD, hj]
      show 255 < cs.getD j 0
      rw [e]; exact hw⟩
/-- an object of exactly java/lang/String, its two fields found: as the laws ask it -/
theorem strObj {Z U : State} {a0 : Array Value} {kI : Nat} (wi : (Jvm.Cond.instantiable ST kI).before a0 Z = true) (al : Z.vm.Alike U.vm) {x : Addr} {v0 c0 : Value} (E : RoadKit.Exa Z U.heap x ST) (V : RoadKit.Fld Z U.heap x ST "value" "[B" v0) (C : RoadKit.Fld Z U.heap x ST "coder" "B" c0) :
    ∃ (D : Cell) (fV fC : Field), Blank ST x D U ∧ Found ST "value" "[B" fV U ∧ Found ST "coder" "B" fC U ∧ D.slots[fV.slot]? = some v0 ∧ D.slots[fC.slot]? = some c0 ∧ RoadKit.slotOf Z ST "value" "[B" = fV.slot ∧ RoadKit.slotOf Z ST "coder" "B" = fC.slot := by
  obtain ⟨D, cfV, kV, iV, fV, hD, gV, stV, knV, obV, asV, slV⟩ := V
  obtain ⟨D', cfC, kC, iC, fC, hD', gC, stC, -, -, asC, slC⟩ := C
  cases hD.symm.trans hD'
  obtain ⟨D2, kD, e1, e2, e3, e4, e5⟩ := E
  cases hD.symm.trans e1
  obtain ⟨c2, k2, i1, i2, i3, -⟩ := Cond.instantiable_spec wi
  cases e2.symm.trans i1
  cases e3.symm.trans i2
  obtain ⟨kU, u1, u2⟩ := al.2.2 _ _ e3
  exact ⟨D, fV, fC, ⟨hD, ⟨knV, fun q hq => by rw [hq] at obV; cases obV⟩, by rw [al.findClass]; exact e2, kU, u1, by rw [u2]; exact i3, by rw [u2]; exact e5 i3⟩, ⟨SBG.found_only al ⟨cfV, kV, iV, gV⟩, stV⟩, ⟨SBG.found_only al ⟨cfC, kC, iC, gC⟩, stC⟩, slV, slC, by simp [RoadKit.slotOf, gV], by simp [RoadKit.slotOf, gC]⟩
theorem sta_is {Z U : State} (al : Z.vm.Alike U.vm) {C n d : String} {v : Value} (S : RoadKit.Sta Z U.heap C n d v) : StaticIs U C n d v := by
  obtain ⟨cfS, iS, kS, fS, st, cS, t1, t2, t3, t4, t5, t6, t7⟩ := S
  exact StaticIs.there (s := { Z with heap := U.heap }) ⟨cfS, iS, kS, fS, st, cS, t1, t2, t3, t4, t5, (fun q => by rw [q] at t6; cases t6), t7⟩ al rfl
end StrChars.Road
namespace StrChars.Road
open Jvm Sem ClassFile Op Lib Jvm.Stand Jvm.Free Jvm.Free.XT
open Jvm.Lib.Cold (StaticIs)
/-- the road's facts of a String, as the laws ask it -/
theorem txt_of {Z U : State} {a0 : Array Value} {kI : Nat} (wi : (Jvm.Cond.instantiable ST kI).before a0 Z = true) (al : Z.vm.Alike U.vm) {x t : Addr} {kb : ClassId} {cs : List Int32} {cd N2 : Int32} {vs : List Value} (E : RoadKit.Exa Z U.heap x ST) (V : RoadKit.Fld Z U.heap x ST "value" "[B" (.ref t)) (C : RoadKit.Fld Z U.heap x ST "coder" "B" (.int cd)) (K : RoadKit.Arv Z U.heap t kb .byte N2 vs (.int 0)) (hc : CodA cs cd N2 vs) (hb : ∀ c ∈ cs, ¬ c < 0 ∧ ¬ (65535 : Int32) < c) (l2 : cs.length ≤ 4000) :
    ∃ A, Txt x t A cd cs.length (fun j => cs.getD j 0) U := by
  obtain ⟨A, K1, K2, K3, K4, K5, K6⟩ := K
  have hcod := hc.cod (by omega) K3 K5
  obtain ⟨D, fV, fC, hB, F1, F2, g1, g2, -, -⟩ := strObj wi al E V C
  exact ⟨A, ⟨_, hB.2.2.1, D, hB.1, rfl, by cases q : D.vm <;> first | rfl | exact absurd q (hB.2.1.2 _)⟩, Has.of hB F1 g1, Has.of hB F2 g2, ⟨K1.1, State.isArrayOf_alike al K1.2.1, K1.2.2, by rcases hcod with ⟨-, q, -⟩ | ⟨-, q, -⟩ <;> omega⟩, hcod, fun j hj => by
    have e : cs.getD j 0 = cs[j] := by simp [List.getD_eq_getElem?_getD, hj]
    show ¬ cs.getD j 0 < 0 ∧ ¬ 65535 < cs.getD j 0
    rw [e]; exact hb _ (List.getElem_mem _)⟩
end StrChars.Road
namespace StrChars
open Jvm Sem ClassFile Op Lib Jvm.Stand Jvm.Free.XT Jvm.Free.ALB Jvm.Free.JM Jvm.Free
open Jvm.Lib.Cold (StaticIs)
namespace ChN
def yN : MethodName := ⟨"java/lang/String", "charAt", "(I)C"⟩
abbrev yB : ByteArray := jdk_42_method_56_code
theorem d0 : decode yB 0 = .ok (.aload_n 0, 1) := by decide +kernel
theorem d1 : decode yB 1 = .ok (.invokevirtual 492, 3) := by decide +kernel
theorem d4 : decode yB 4 = .ok (.ifCond (.eq) 12, 3) := by decide +kernel
theorem d7 : decode yB 7 = .ok (.aload_n 0, 1) := by decide +kernel
theorem d8 : decode yB 8 = .ok (.getfield 9, 3) := by decide +kernel
theorem d11 : decode yB 11 = .ok (.iload_n 1, 1) := by decide +kernel
theorem d12 : decode yB 12 = .ok (.invokestatic 495, 3) := by decide +kernel
theorem d15 : decode yB 15 = .ok (.ireturn, 1) := by decide +kernel
def site : List Cond := [.fieldLink "java/lang/String" 9 "java/lang/String" "value" "[B", IsL.tab, LChA.tab] ++ virtW "java/lang/String" 492 "java/lang/String" IsL.yN IsL.yN ++ staticW "java/lang/String" 495 LChA.yN
def tab : Cond := tabOf yN yB 2 (some .char) site
def P (x t : Addr) (V : Cell) (n : Nat) (f : Nat → Int32) (z : Int32) (fm : Value) (i : Nat) (args : Array Value) (s : State) : Prop := args = #[.ref x, .int (Int32.ofNat i)] ∧ Txt x t V 0 n f s ∧ i < n ∧ StaticIs s "java/lang/String" "COMPACT_STRINGS" "Z" (.int z) ∧ ¬ z = 0 ∧ StaticIs s "jdk/internal/util/Preconditions" "SIOOBE_FORMATTER" "Ljava/util/function/BiFunction;" fm ∧ fm.isRef = true
def E (f : Nat → Int32) (i : Nat) (r : Option Value) (s u : State) : Prop := XT.PureE (some (.int (f i))) r s u
/-- charAt(i) of a Latin-1 String of n chars, i < n: f i -/
theorem law (l : Launch) (x t : Addr) (V : Cell) (n : Nat) (f : Nat → Int32) (z : Int32) (fm : Value) (i : Nat) : Law l yN 2 1 3 40 yB 2 (some .char) site (P x t V n f z fm i) (E f i) [] 0 0 := by
  refine Law.of_walk (plainFor_of_name (by decide +kernel)) (by decide +kernel) (by decide +kernel) (by decide) (fun _ _ h => by rw [h.1]; rfl) (fun _ U U' hal hh h => ⟨h.1, h.2.1.mv hal hh, h.2.2.1, h.2.2.2.1.there hal hh, h.2.2.2.2.1, h.2.2.2.2.2.1.there hal hh, h.2.2.2.2.2.2⟩) (fun r U U' V V' h1 hal h2 h => XT.PureE.mv r U U' V V' h1 hal h2 h) ?_
  intro p e s m args below meth c s₁ X0 hexec hbytes hml hret hlk hnm hown hh0 W hP
  obtain ⟨rfl, hx, hi, s1, hz, s3, rf⟩ := hP
  have v31 := hx.2.2.2.1.2.2.2
  have hr := hx.2.2.2.2.2 i hi
  have hx0 := hx.mv X0.warmed.alike hh0
  have c1 : Steps p.tables e below (s₁.setTop (entryFrame m #[.ref x, .int (Int32.ofNat i)] 2)) (s₁.setTop (mkF m 1 #[.val (.ref x), .val (.int (Int32.ofNat i))] [.ref x])) := Steps.trans (entry rfl) (by
    show Steps p.tables e below (s₁.setTop (mkF m 0 #[.val (.ref x), .val (.int (Int32.ofNat i))] [])) _
    refine XS.aloadN X0.here hexec rfl (hb hbytes d0) rfl rfl ?_
    exact Steps.refl _)
  obtain ⟨v2, T2, X2, E2, g2⟩ := X0.callV hexec (IsL.law l x 0 z) hown (wks W (virtW "java/lang/String" 492 "java/lang/String" IsL.yN IsL.yN)) rfl (by decide) (wk W IsL.tab) (W := 0) (Nat.le_of_ble_eq_true rfl) (Nat.le_of_ble_eq_true rfl) (Nat.le_refl _) (Nat.le_refl _) (hx0.1.fc X0.warmed.alike) hx0.1.is (g := (mkF m 1 #[.val (.ref x), .val (.int (Int32.ofNat i))] [.ref x])) rfl (by rw [hml]; rfl) c1 (argsL := []) (rest := []) rfl rfl (by show 2 * 0 + 0 ≤ _; decide) (hb hbytes d1) (⟨rfl, hx0.2.2.1, hx.2.2.2.2.1.cd, s1.there X0.warmed.alike hh0, hz⟩)
  obtain ⟨rfl, q2⟩ := E2
  have hh2 := q2.trans hh0
  have hx2 := hx.mv X2.warmed.alike hh2
  obtain ⟨-, k1, k2⟩ | ⟨k0, -⟩ := hx.2.2.2.2.1
  · have c3 : Steps p.tables e below (s₁.setTop (entryFrame m #[.ref x, .int (Int32.ofNat i)] 2)) (T2.setTop (mkF m 8 #[.val (.ref x), .val (.int (Int32.ofNat i))] [.ref x])) := Steps.trans g2 (by
      refine XS.ifNo X2.here hexec rfl (hb hbytes d4) rfl (i0_eq_f (by decide)) ?_
      refine XS.aloadN X2.here hexec rfl (hb hbytes d7) rfl rfl ?_
      exact Steps.refl _)
    obtain ⟨T4, X4, q4, st4⟩ := X2.hget hexec hown (wk W (.fieldLink "java/lang/String" 9 "java/lang/String" "value" "[B")) hx2.2.1 (g := (mkF m 8 #[.val (.ref x), .val (.int (Int32.ofNat i))] [.ref x])) rfl (rest := []) rfl (hb hbytes d8)
    have hh4 := q4.trans hh2
    have c5 : Steps p.tables e below (s₁.setTop (entryFrame m #[.ref x, .int (Int32.ofNat i)] 2)) (T4.setTop (mkF m 12 #[.val (.ref x), .val (.int (Int32.ofNat i))] [.int (Int32.ofNat i), .ref t])) := (c3.trans (st4 _ (Steps.refl _))).trans (by
      refine XS.iloadN X4.here hexec rfl (hb hbytes d11) rfl ?_
      exact Steps.refl _)
    obtain ⟨v6, T6, X6, E6, g6⟩ := X4.callS hexec (LChA.law l t V i (lo8 (f i)) fm) hown (wks W (staticW "java/lang/String" 495 LChA.yN)) (wk W LChA.tab) (W := 0) (Nat.le_of_ble_eq_true rfl) (Nat.le_of_ble_eq_true rfl) (Nat.le_refl _) (Nat.le_refl _) (g := (mkF m 12 #[.val (.ref x), .val (.int (Int32.ofNat i))] [.int (Int32.ofNat i), .ref t])) rfl (by rw [hml]; rfl) c5 (argsL := [.ref t, .int (Int32.ofNat i)]) (rest := []) rfl rfl (by show 2 * 0 + 0 ≤ _; decide) (hb hbytes d12) (⟨rfl, hx.2.2.2.1.mv X4.warmed.alike hh4, (k2 i hi).1, s3.there X4.warmed.alike hh4, rf⟩)
    obtain ⟨rfl, q6⟩ := E6
    rw [chr8_lo8 hr.1 (k2 i hi).2] at g6
    exact ⟨T6, some (.int (f i)), _, _, _, X6, rfl, rfl, rfl, (fun h => by cases h), ⟨rfl, q6.trans hh4⟩, fun fs hl => Steps.trans g6 (X6.ireturnOut hexec hret (narrow_ch hr.1 hr.2) (Or.inr (Or.inr (Or.inr (Or.inl rfl)))) (hb hbytes d15) hl)⟩
  · exact absurd k0 (by decide)
theorem pays {l : Launch} {R : Room} {p : Program} {e : Env} {below : List Frame} {s : State} {sargs : Array Value} {len W : Nat} (x t : Addr) (V : Cell) (n : Nat) (f : Nat → Int32) (z : Int32) (fm : Value) (i : Nat) (htab : tab.before sargs s = true) (hfr : 4 ≤ R.frames) (hlo : W + 53 ≤ R.locals) :
    Back l R p e below s sargs yN len W (fun A₁ a₁ => A₁.cells + 0 ≤ R.cells ∧ A₁.slots + 0 ≤ R.slots ∧ P x t V n f z fm i a₁ A₁.U) (fun A₁ _ v₁ B₁ => E f i v₁ A₁.U B₁.U ∧ B₁.locs = A₁.locs ++ [] ∧ B₁.cells = A₁.cells + 0 ∧ B₁.slots = A₁.slots + 0) :=
  (law l x t V n f z fm i).pays htab hfr (by omega)
end ChN
end StrChars
namespace StrChars.Road
open Jvm Sem ClassFile Op Lib Jvm.Stand Jvm.Free Jvm.Free.XT
open Jvm.Lib.Cold (StaticIs)
/-- the words of String.charAt(int), the Latin-1 road alone -/
abbrev wordsChN : List Jvm.Cond := [.code ChN.yN ChN.yB 2 (some .char), .initialized ST, .fieldLink ST 9 ST "value" "[B", .fieldLink ST 38 ST "COMPACT_STRINGS" "Z", .fieldLink ST 15 ST "coder" "B", .code IsL.yN IsL.yB 1 (some .boolean), .methodLink ST 492 IsL.yN, .declares IsL.yN, .selects ST IsL.yN IsL.yN, .instanceMethod IsL.yN,
  .methodLink ST 495 LChA.yN, .static LChA.yN, .code LChA.yN LChA.yB 2 (some .char), .initialized "java/lang/StringLatin1", .methodLink "java/lang/StringLatin1" 9 JO.Str_checkIndex.yN, .static JO.Str_checkIndex.yN, .code JO.Str_checkIndex.yN JO.Str_checkIndex.yB 2 none,
  .fieldLink ST 1053 "jdk/internal/util/Preconditions" "SIOOBE_FORMATTER" "Ljava/util/function/BiFunction;", .methodLink ST 1059 JC.PreCheck.yN, .static JC.PreCheck.yN, .code JC.PreCheck.yN JC.PreCheck.yB 3 (some .int), .initialized "jdk/internal/util/Preconditions"]
theorem tabChN_of {a : Array Value} {s : State} (h : ∀ w ∈ wordsChN, w.before a s = true) : ChN.tab.before a s = true := by
  have hp : JC.PreCheck.tab.before a s = true := unparts (wk h (.code JC.PreCheck.yN JC.PreCheck.yB 3 (some .int))) (wks h (.initialized JC.PreCheck.yN.cls :: JC.PreCheck.site))
  have qk := consq hp h
  have hk : JO.Str_checkIndex.tab.before a s = true := unparts (wk qk (.code JO.Str_checkIndex.yN JO.Str_checkIndex.yB 2 none)) (wks qk (.initialized JO.Str_checkIndex.yN.cls :: JO.Str_checkIndex.site))
  have ql := consq hk h
  have hl : LChA.tab.before a s = true := unparts (wk ql (.code LChA.yN LChA.yB 2 (some .char))) (wks ql (.initialized LChA.yN.cls :: LChA.site))
  have hi : IsL.tab.before a s = true := unparts (wk h (.code IsL.yN IsL.yB 1 (some .boolean))) (wks h (.initialized IsL.yN.cls :: IsL.site))
  have q := consq hi (consq hl h)
  exact unparts (wk q (.code ChN.yN ChN.yB 2 (some .char))) (wks q (.initialized ChN.yN.cls :: ChN.site))
theorem movedChN {Z s : State} {a0 args : Array Value} (hZ : Z.Warmed39 s.vm) (hw : ∀ d ∈ wordsChN, d.before a0 Z = true) : ∀ d ∈ wordsChN, d.before args s = true := fun d hd => by
  have t : ∀ d ∈ wordsChN, (d.onTables && d.keepsFace) = true := by decide +kernel
  exact RoadKit.mv hZ (hw d hd) (t d hd)
/-- **charAt(i) OF A LATIN-1 STRING**, i < n: the char -/
theorem chN {p : Program} {l : Launch} {e : Env} {R : Room} {s : State} {args : Array Value} {below : List Frame} {len W : Nat} {Z : State} {a0 : Array Value} {h : Heap} (hZ : Z.Warmed39 s.vm) (hw : ∀ d ∈ wordsChN, d.before a0 Z = true) {kI : Nat} (wi : (Jvm.Cond.instantiable ST kI).before a0 Z = true)
    {x t : Addr} {kb : ClassId} {cs : List Int32} {N2 z : Int32} {vs : List Value} {fm : Value} {i : Nat} {j : Int32} (E : RoadKit.Exa Z h x ST) (V : RoadKit.Fld Z h x ST "value" "[B" (.ref t)) (C : RoadKit.Fld Z h x ST "coder" "B" (.int 0)) (K : RoadKit.Arv Z h t kb .byte N2 vs (.int 0)) (hc : CodA cs 0 N2 vs) (hb : ∀ c ∈ cs, ¬ c < 0 ∧ ¬ (65535 : Int32) < c)
    (S : RoadKit.Sta Z h ST "COMPACT_STRINGS" "Z" (.int z)) (hz : ¬ z = 0) (F : RoadKit.Sta Z h "jdk/internal/util/Preconditions" "SIOOBE_FORMATTER" "Ljava/util/function/BiFunction;" fm) (rf : fm.isRef = true) (l2 : cs.length ≤ 4000) (hi : i < cs.length) (hj : j = Int32.ofNat i) (hfr : 4 ≤ R.frames) (hlo : W + 53 ≤ R.locals) :
    Back l R p e below s args (⟨"java/lang/String", "charAt", "(I)C"⟩ : MethodName) len W (fun P a => a = #[.ref x, .int j] ∧ P.U.heap = h ∧ P.cells + 0 ≤ R.cells ∧ P.slots + 0 ≤ R.slots)
      (fun P _ v B => ∃ L, (v = some (.int (cs.getD i 0)) ∧ L = [] ∧ B.U.heap = h) ∧ B.locs = P.locs ++ L ∧ B.cells = P.cells + 0 ∧ B.slots = P.slots + 0) := by
  subst hj
  intro m meth c P g ig mk a X hg hsize hdg hW hn hp'
  obtain ⟨rfl, rfl, r1, r2⟩ := hp'
  have al : Z.vm.Alike P.U.vm := hZ.alike.trans X.warmed.alike
  obtain ⟨A, hx⟩ := txt_of wi al E V C K hc hb l2
  obtain ⟨v, B, X', ⟨⟨hv, hh⟩, hl, hk, hs⟩, st⟩ := ChN.pays x t A cs.length (fun j => cs.getD j 0) z fm i (tabChN_of (movedChN hZ hw)) hfr hlo m meth c P g ig mk _ X hg hsize hdg hW hn ⟨r1, r2, rfl, hx, hi, sta_is al S, hz, sta_is al F, rf⟩
  exact ⟨v, B, X', ⟨[], ⟨hv, rfl, hh⟩, hl, hk, hs⟩, st⟩
/-- what backV says of its String, as the contracts of this text ask it: cs's low bytes, coder 0 -/
theorem codOf {cs : List Int32} {n : Nat} (hn : cs.length = n) (hb : ∀ c ∈ cs, ¬ 255 < c) : CodA cs 0 (Int32.ofNat n) ((cs.map lo8).map Value.int) := Or.inl ⟨rfl, by rw [hn], by simp [List.map_map, Function.comp_def], hb⟩
end StrChars.Road
end Jvm.Pilot.@@N@@
namespace Jvm.Pilot.@@N@@
def own_ushr (x y : Int32) : Int32 := (x.toUInt32 >>> (y &&& 31).toUInt32).toInt32
def own_ushrL (x : Int64) (y : Int32) : Int64 := (x.toUInt64 >>> (y &&& 0x3f).toInt64.toUInt64).toInt64
def own_cmpL (x y : Int64) : Int32 := if x > y then 1 else if x = y then 0 else -1
open Jvm Jvm.ClassFile Sem Op Lib Jvm.Free Jvm.Stand Jvm.LawKit Jvm.RoadKit Bundle Jvm.Pilot.@@N@@.Jvm.D
theorem own_rem_eq (x y : Int32) : x - x / y * y = x % y := by
  apply Int32.toInt_inj.mp
  have h := Int.tmod_add_mul_tdiv x.toInt y.toInt
  have e : (x % y).toInt = (x % y).toInt.bmod (2 ^ 32) := (Int.bmod_eq_of_le (Int32.le_toInt _) (Int32.toInt_lt _)).symm
  rw [e, Int32.toInt_sub, Int32.toInt_mul, Int32.toInt_div, Int32.toInt_mod, Int.sub_bmod_bmod, Int.sub_bmod, Int.bmod_mul_bmod, ← Int.sub_bmod]
  congr 1
  rw [Int.mul_comm (x.toInt.tdiv y.toInt)]
  omega
theorem own_W {a0 : Array Value} {Z : State} (hw : ∀ d ∈ tables_1, d.before a0 Z = true) (i : Nat) {d : Jvm.Cond} (h : tables_1[i]? = some d) : d.before a0 Z = true := hw d (List.mem_of_getElem? h)
theorem own_small (x : Int32) (h : x.toBitVec.toNat < 256) : nar .char (x.toUInt32.toUInt16.toUInt32.toInt32) = x ∧ ¬ x < 0 ∧ ¬ (255 : Int32) < x := by
  have t : ∀ k : Fin 256, nar .char ((Int32.ofNat k.val).toUInt32.toUInt16.toUInt32.toInt32) = Int32.ofNat k.val ∧ ¬ Int32.ofNat k.val < 0 ∧ ¬ (255 : Int32) < Int32.ofNat k.val := by decide +kernel
  have e : x = Int32.ofNat x.toBitVec.toNat := by
    apply Int32.toBitVec_inj.mp
    show _ = BitVec.ofNat 32 _
    rw [BitVec.ofNat_toNat]; simp
  rw [e]
  exact t ⟨_, h⟩
theorem own_andlt (x y : Int32) {k : Nat} (h : y.toBitVec.toNat < k) : (x &&& y).toBitVec.toNat < k := by
  rw [Int32.toBitVec_and, BitVec.toNat_and]
  exact Nat.lt_of_le_of_lt Nat.and_le_right h
theorem own_xorlt (x y : Int32) (hx : x.toBitVec.toNat < 2 ^ 8) (hy : y.toBitVec.toNat < 2 ^ 8) : (x ^^^ y).toBitVec.toNat < 256 := by
  rw [Int32.toBitVec_xor, BitVec.toNat_xor]
  exact Nat.xor_lt_two_pow hx hy
theorem own_narb (y : Int32) : nar .byte (StrChars.lo8 y) = StrChars.lo8 y := by
  show (y.toInt8.toInt32).toInt8.toInt32 = y.toInt8.toInt32
  simp
theorem own_charnat (c : Int32) (h0 : ¬ c < 0) (h1 : ¬ (65535 : Int32) < c) : c.toBitVec.toNat < 65536 := by
  rw [Int32.lt_iff_toInt_lt] at h0 h1
  have e0 : (0 : Int32).toInt = 0 := rfl
  have e1 : (65535 : Int32).toInt = 65535 := rfl
  have e2 : c.toInt = c.toBitVec.toInt := rfl
  rw [e0, e2] at h0; rw [e1, e2] at h1
  have := BitVec.toInt_eq_toNat_cond c.toBitVec
  have := c.toBitVec.isLt
  split at * <;> omega
theorem own_narc (c : Int32) (h0 : ¬ c < 0) (h1 : ¬ (65535 : Int32) < c) : nar .char c = c := by
  have h := own_charnat c h0 h1
  apply Int32.toBitVec_inj.mp
  apply BitVec.eq_of_toNat_eq
  show (c.toUInt32.toUInt16.toUInt32).toNat = c.toUInt32.toNat
  have e : c.toUInt32.toNat = c.toBitVec.toNat := rfl
  simp only [UInt16.toNat_toUInt32, UInt32.toNat_toUInt16]
  rw [e]; omega
/-- x is a String of the chars cs at h, its two cells below k -/
def StrB (Z : State) (h : Heap) (k : Nat) (a : Addr) (cs : List Int32) : Prop := a < k ∧ Exa Z h a "java/lang/String" ∧ ∃ (t : Addr) (kb : ClassId) (cd N2 : Int32) (vs : List Value), t < k ∧ Fld Z h a "java/lang/String" "value" "[B" (.ref t) ∧ Fld Z h a "java/lang/String" "coder" "B" (.int cd) ∧ Arv Z h t kb .byte N2 vs (.int 0) ∧ StrChars.Road.CodA cs cd N2 vs ∧ (∀ c ∈ cs, ¬ c < 0 ∧ ¬ (65535 : Int32) < c) ∧ cs.length ≤ 4000
theorem StrB.ext {Z : State} {h h' : Heap} {k : Nat} {a : Addr} {cs : List Int32} (F : StrB Z h k a cs) (E : Ext h h') : StrB Z h' k a cs := by
  obtain ⟨a1, a2, t, kb, cd, N2, vs, b1, b2, b3, b4, r⟩ := F
  exact ⟨a1, a2.ext E, t, kb, cd, N2, vs, b1, b2.ext E, b3.ext E, b4.ext E, r⟩
theorem own_notin {x : Addr} {k : Nat} {ws : List Addr} (h : x < k) (q : ∀ y ∈ ws, k ≤ y) : x ∉ ws := fun z => absurd h (Nat.not_lt.mpr (q x z))
theorem StrB.keep {Z : State} {h h' : Heap} {k : Nat} {a : Addr} {cs : List Int32} {ws : List Addr} (F : StrB Z h k a cs) (K : Keep h h' ws) (q : ∀ x ∈ ws, k ≤ x) : StrB Z h' k a cs := by
  obtain ⟨a1, a2, t, kb, cd, N2, vs, b1, b2, b3, b4, r⟩ := F
  exact ⟨a1, a2.keep K, t, kb, cd, N2, vs, b1, b2.keep K (own_notin a1 q), b3.keep K (own_notin a1 q), b4.keep K (own_notin b1 q), r⟩
theorem StrB.wr {Z : State} {h h' : Heap} {k : Nat} {a x : Addr} {cs : List Int32} {sl : Nat} {v : Value} (F : StrB Z h k a cs) (W : Wr h h' x sl v) (q : k ≤ x) : StrB Z h' k a cs := F.keep (Keep.of_wr W) (allS q all0)
theorem StrB.now {Z : State} {h : Heap} {k : Nat} {a : Addr} {cs : List Int32} (F : StrB Z h k a cs) : StrB Z h h.size a cs := by
  obtain ⟨a1, a2, t, kb, cd, N2, vs, b1, b2, b3, b4, r⟩ := F
  exact ⟨a2.lt, a2, t, kb, cd, N2, vs, b4.lt, b2, b3, b4, r⟩
theorem StrB.exa {Z : State} {h : Heap} {k : Nat} {a : Addr} {cs : List Int32} (F : StrB Z h k a cs) : Exa Z h a "java/lang/String" := F.2.1
theorem own_pn_6 : plainName "jdk/internal/util/Preconditions" = true := by decide +kernel
theorem own_d1_0 : decode jdk_41_method_11_code 0 = .ok (.iload_n 0, 1) := by decide +kernel
theorem own_d1_1 : decode jdk_41_method_11_code 1 = .ok (.ifCond .lt 8, 3) := by decide +kernel
theorem own_d1_4 : decode jdk_41_method_11_code 4 = .ok (.iload_n 0, 1) := by decide +kernel
theorem own_d1_5 : decode jdk_41_method_11_code 5 = .ok (.iload_n 1, 1) := by decide +kernel
theorem own_d1_6 : decode jdk_41_method_11_code 6 = .ok (.if_icmp .lt 10, 3) := by decide +kernel
theorem own_d1_16 : decode jdk_41_method_11_code 16 = .ok (.iload_n 0, 1) := by decide +kernel
theorem own_d1_17 : decode jdk_41_method_11_code 17 = .ok (.ireturn, 1) := by decide +kernel
theorem own_ef_pcN (m : MethodId) (x0 : Int32) (x1 : Int32) : entryFrame m #[(.int x0), (.int x1), .null] 3 = mkF m 0 #[iv x0, iv x1, .val .null] [] := by first | (simp [entryFrame, mkF, argsToLocals, Value.category]; done) | rfl
def Q_pcN (Z : State) (i1 n1 : Int32) (h0 : Heap) (n0 : Nat) (v : Option Value) (h : Heap) (L : List Loc) : Prop := v = some (.int i1) ∧ Fr n0 L ∧ h = h0
set_option maxRecDepth 65536 in
set_option maxHeartbeats 40000000 in
theorem rm_pcN (l : Launch) (Z : State) (a0 : Array Value) (hw : ∀ d ∈ tables_1, d.before a0 Z = true) (ws : List Jvm.Cond) (i1 n1 : Int32) (h0 : Heap) (n0 : Nat) (Z0 : n0 ≤ h0.size) (hi : ¬ i1 < 0) (hn : i1 < n1) :
    MetFree l (⟨"jdk/internal/util/Preconditions", "checkIndex", "(IILjava/util/function/BiFunction;)I"⟩ : MethodName) (head1 (Jvm.Cond.code (⟨"jdk/internal/util/Preconditions", "checkIndex", "(IILjava/util/function/BiFunction;)I"⟩ : MethodName) jdk_41_method_11_code 3 (some .int) :: ws) ({ frames := 0, cells := 0, slots := 0, locals := 0 } : Room)) (fun a U => a = #[(.int i1), (.int n1), .null] ∧ Z.Warmed39 U.vm ∧ U.heap = h0) (fun _ _ _ _ _ => True) (fun _ U o U' => ∃ v L, o = .returned v ∧ Q_pcN Z i1 n1 h0 n0 v U'.heap L ∧ FrameEnd U o U' L ({ frames := 0, cells := 0, slots := 0, locals := 0 } : Room).cells ({ frames := 0, cells := 0, slots := 0, locals := 0 } : Room).slots) := by
  refine MetFree.of_bodySF (plainFor_of_name own_pn_6) hisR ?_
  intro p e s m args below meth c s₁ Bd hml0 hP hK
  obtain ⟨rfl, hZ, hh⟩ := hP
  have hx := Bd.exec
  have hby := Bd.bytes
  have hml : c.maxLocals = 3 := hml0
  have hown : s.vm.findClass "jdk/internal/util/Preconditions" = some m.cls := findClass_of_methodNamed Bd.named
  have hnm := (name_of_methodNamed Bd.named Bd.method).1
  have W := own_W hw
  have X0 : Stand p l e ({ frames := 0, cells := 0, slots := 0, locals := 0 } : Room) s m #[(.int i1), (.int n1), .null] below meth c s₁ [] 0 0 := Stand.of_body Bd
  have e0 : s₁.heap = h0 := by rw [← hh, Bd.state]; rfl
  have N0 := Fr.nil n0
  have pre0 : ∀ tq, Steps p.tables e below (s₁.setTop (mkF m 0 #[iv i1, iv n1, .val .null] [])) tq → Steps p.tables e below (s₁.setTop (entryFrame m #[(.int i1), (.int n1), .null] 3)) tq := fun tq k => castTop (own_ef_pcN m i1 n1) k
  obtain ⟨fs, hr, hrun, hended, hW, hsame⟩ := X0.leave (v := some (.int i1)) (fun h => by rw [Bd.returns] at h; cases h)
  refine ⟨_, _, pre0 _ (?_), hrun, hended, _, _, rfl, ?_, ⟨_, rfl⟩, hW, hsame.mono (by decide) (by decide)⟩
  · show Steps p.tables e below (s₁.setTop (mkF m 0 #[iv i1, iv n1, .val .null] [])) _
    refine XS.iloadN X0.here hx rfl (hb hby own_d1_0) rfl ?_
    show Steps _ _ _ (s₁.setTop (mkF m 1 _ [.int i1])) _
    refine XS.ifNo X0.here hx rfl (hb hby own_d1_1) rfl ((if0 _ _).trans (flt (hi : ¬ (i1 < (0 : Int32)))).1) ?_
    show Steps _ _ _ (s₁.setTop (mkF m 4 _ [])) _
    refine XS.iloadN X0.here hx rfl (hb hby own_d1_4) rfl ?_
    show Steps _ _ _ (s₁.setTop (mkF m 5 _ [.int i1])) _
    refine XS.iloadN X0.here hx rfl (hb hby own_d1_5) rfl ?_
    show Steps _ _ _ (s₁.setTop (mkF m 6 _ [.int n1, .int i1])) _
    refine XS.icmpYes X0.here hx rfl (pc0 := 6) (pc' := 16) rfl (hb hby own_d1_6) rfl (tlt (hn : i1 < n1)).1 (by decide) (by decide) ?_
    show Steps _ _ _ (s₁.setTop (mkF m 16 _ [])) _
    refine XS.iloadN X0.here hx rfl (hb hby own_d1_16) rfl ?_
    show Steps _ _ _ (s₁.setTop (mkF m 17 _ [.int i1])) _
    exact retI X0 hx Bd.returns (hb hby own_d1_17) hr
  · show Q_pcN Z i1 n1 h0 n0 _ s₁.heap _
    rw [e0]
    exact ⟨rfl, N0, rfl⟩
theorem own_ef_pcR (m : MethodId) (x0 : Int32) (x1 : Int32) (x2 : Addr) : entryFrame m #[(.int x0), (.int x1), (.ref x2)] 3 = mkF m 0 #[iv x0, iv x1, rv x2] [] := by first | (simp [entryFrame, mkF, argsToLocals, Value.category]; done) | rfl
def Q_pcR (Z : State) (i1 n1 : Int32) (f1 : Addr) (h0 : Heap) (n0 : Nat) (v : Option Value) (h : Heap) (L : List Loc) : Prop := v = some (.int i1) ∧ Fr n0 L ∧ h = h0
set_option maxRecDepth 65536 in
set_option maxHeartbeats 40000000 in
theorem rm_pcR (l : Launch) (Z : State) (a0 : Array Value) (hw : ∀ d ∈ tables_1, d.before a0 Z = true) (ws : List Jvm.Cond) (i1 n1 : Int32) (f1 : Addr) (h0 : Heap) (n0 : Nat) (Z0 : n0 ≤ h0.size) (hi : ¬ i1 < 0) (hn : i1 < n1) :
    MetFree l (⟨"jdk/internal/util/Preconditions", "checkIndex", "(IILjava/util/function/BiFunction;)I"⟩ : MethodName) (head1 (Jvm.Cond.code (⟨"jdk/internal/util/Preconditions", "checkIndex", "(IILjava/util/function/BiFunction;)I"⟩ : MethodName) jdk_41_method_11_code 3 (some .int) :: ws) ({ frames := 0, cells := 0, slots := 0, locals := 0 } : Room)) (fun a U => a = #[(.int i1), (.int n1), (.ref f1)] ∧ Z.Warmed39 U.vm ∧ U.heap = h0) (fun _ _ _ _ _ => True) (fun _ U o U' => ∃ v L, o = .returned v ∧ Q_pcR Z i1 n1 f1 h0 n0 v U'.heap L ∧ FrameEnd U o U' L ({ frames := 0, cells := 0, slots := 0, locals := 0 } : Room).cells ({ frames := 0, cells := 0, slots := 0, locals := 0 } : Room).slots) := by
  refine MetFree.of_bodySF (plainFor_of_name own_pn_6) hisR ?_
  intro p e s m args below meth c s₁ Bd hml0 hP hK
  obtain ⟨rfl, hZ, hh⟩ := hP
  have hx := Bd.exec
  have hby := Bd.bytes
  have hml : c.maxLocals = 3 := hml0
  have hown : s.vm.findClass "jdk/internal/util/Preconditions" = some m.cls := findClass_of_methodNamed Bd.named
  have hnm := (name_of_methodNamed Bd.named Bd.method).1
  have W := own_W hw
  have X0 : Stand p l e ({ frames := 0, cells := 0, slots := 0, locals := 0 } : Room) s m #[(.int i1), (.int n1), (.ref f1)] below meth c s₁ [] 0 0 := Stand.of_body Bd
  have e0 : s₁.heap = h0 := by rw [← hh, Bd.state]; rfl
  have N0 := Fr.nil n0
  have pre0 : ∀ tq, Steps p.tables e below (s₁.setTop (mkF m 0 #[iv i1, iv n1, rv f1] [])) tq → Steps p.tables e below (s₁.setTop (entryFrame m #[(.int i1), (.int n1), (.ref f1)] 3)) tq := fun tq k => castTop (own_ef_pcR m i1 n1 f1) k
  obtain ⟨fs, hr, hrun, hended, hW, hsame⟩ := X0.leave (v := some (.int i1)) (fun h => by rw [Bd.returns] at h; cases h)
  refine ⟨_, _, pre0 _ (?_), hrun, hended, _, _, rfl, ?_, ⟨_, rfl⟩, hW, hsame.mono (by decide) (by decide)⟩
  · show Steps p.tables e below (s₁.setTop (mkF m 0 #[iv i1, iv n1, rv f1] [])) _
    refine XS.iloadN X0.here hx rfl (hb hby own_d1_0) rfl ?_
    show Steps _ _ _ (s₁.setTop (mkF m 1 _ [.int i1])) _
    refine XS.ifNo X0.here hx rfl (hb hby own_d1_1) rfl ((if0 _ _).trans (flt (hi : ¬ (i1 < (0 : Int32)))).1) ?_
    show Steps _ _ _ (s₁.setTop (mkF m 4 _ [])) _
    refine XS.iloadN X0.here hx rfl (hb hby own_d1_4) rfl ?_
    show Steps _ _ _ (s₁.setTop (mkF m 5 _ [.int i1])) _
    refine XS.iloadN X0.here hx rfl (hb hby own_d1_5) rfl ?_
    show Steps _ _ _ (s₁.setTop (mkF m 6 _ [.int n1, .int i1])) _
    refine XS.icmpYes X0.here hx rfl (pc0 := 6) (pc' := 16) rfl (hb hby own_d1_6) rfl (tlt (hn : i1 < n1)).1 (by decide) (by decide) ?_
    show Steps _ _ _ (s₁.setTop (mkF m 16 _ [])) _
    refine XS.iloadN X0.here hx rfl (hb hby own_d1_16) rfl ?_
    show Steps _ _ _ (s₁.setTop (mkF m 17 _ [.int i1])) _
    exact retI X0 hx Bd.returns (hb hby own_d1_17) hr
  · show Q_pcR Z i1 n1 f1 h0 n0 _ s₁.heap _
    rw [e0]
    exact ⟨rfl, N0, rfl⟩
theorem own_pn_3 : plainName "java/lang/String" = true := by decide +kernel
theorem own_d4_0 : decode jdk_42_method_155_code 0 = .ok (.iload_n 0, 1) := by decide +kernel
theorem own_d4_1 : decode jdk_42_method_155_code 1 = .ok (.iload_n 1, 1) := by decide +kernel
theorem own_d4_2 : decode jdk_42_method_155_code 2 = .ok (.getstatic 1053, 3) := by decide +kernel
theorem own_d4_5 : decode jdk_42_method_155_code 5 = .ok (.invokestatic 1059, 3) := by decide +kernel
theorem own_pd_12 : parseMethodDescriptor "(IILjava/util/function/BiFunction;)I" = some ⟨[.int, .int, (.object "java/util/function/BiFunction")], some .int⟩ := by decide +kernel
theorem own_d4_8 : decode jdk_42_method_155_code 8 = .ok (.pop, 1) := by decide +kernel
theorem own_d4_9 : decode jdk_42_method_155_code 9 = .ok (.return_, 1) := by decide +kernel
theorem own_ef_sci (m : MethodId) (x0 : Int32) (x1 : Int32) : entryFrame m #[(.int x0), (.int x1)] 2 = mkF m 0 #[iv x0, iv x1] [] := by first | (simp [entryFrame, mkF, argsToLocals, Value.category]; done) | rfl
def Q_sci (Z : State) (i1 n1 : Int32) (G3 : Value) (h0 : Heap) (n0 : Nat) (v : Option Value) (h : Heap) (L : List Loc) : Prop := v = none ∧ Fr n0 L ∧ h = h0
set_option maxRecDepth 65536 in
set_option maxHeartbeats 40000000 in
theorem rm_sci (l : Launch) (Z : State) (a0 : Array Value) (hw : ∀ d ∈ tables_1, d.before a0 Z = true) (ws : List Jvm.Cond) (i1 n1 : Int32) (G3 : Value) (h0 : Heap) (n0 : Nat) (Z0 : n0 ≤ h0.size) (X00 : Old Z n0 h0) (hi : ¬ i1 < 0) (hn : i1 < n1) (O4 : Sta Z Z.heap "jdk/internal/util/Preconditions" "SIOOBE_FORMATTER" "Ljava/util/function/BiFunction;" G3) (rG3 : G3.isRef = true) :
    MetFree l (⟨"java/lang/String", "checkIndex", "(II)V"⟩ : MethodName) (head1 (Jvm.Cond.code (⟨"java/lang/String", "checkIndex", "(II)V"⟩ : MethodName) jdk_42_method_155_code 2 none :: ws) ({ frames := 1, cells := 0, slots := 0, locals := 16 } : Room)) (fun a U => a = #[(.int i1), (.int n1)] ∧ Z.Warmed39 U.vm ∧ U.heap = h0) (fun _ _ _ _ _ => True) (fun _ U o U' => ∃ v L, o = .returned v ∧ Q_sci Z i1 n1 G3 h0 n0 v U'.heap L ∧ FrameEnd U o U' L ({ frames := 1, cells := 0, slots := 0, locals := 16 } : Room).cells ({ frames := 1, cells := 0, slots := 0, locals := 16 } : Room).slots) := by
  refine MetFree.of_bodySF (plainFor_of_name own_pn_3) hisR ?_
  intro p e s m args below meth c s₁ Bd hml0 hP hK
  obtain ⟨rfl, hZ, hh⟩ := hP
  have hx := Bd.exec
  have hby := Bd.bytes
  have hml : c.maxLocals = 2 := hml0
  have hown : s.vm.findClass "java/lang/String" = some m.cls := findClass_of_methodNamed Bd.named
  have hnm := (name_of_methodNamed Bd.named Bd.method).1
  have W := own_W hw
  have X0 : Stand p l e ({ frames := 1, cells := 0, slots := 0, locals := 16 } : Room) s m #[(.int i1), (.int n1)] below meth c s₁ [] 0 0 := Stand.of_body Bd
  have e0 : s₁.heap = h0 := by rw [← hh, Bd.state]; rfl
  have N0 := Fr.nil n0
  have pre0 : ∀ tq, Steps p.tables e below (s₁.setTop (mkF m 0 #[iv i1, iv n1] [])) tq → Steps p.tables e below (s₁.setTop (entryFrame m #[(.int i1), (.int n1)] 2)) tq := fun tq k => castTop (own_ef_sci m i1 n1) k
  rcases ref_cases rG3 with rfl | ⟨f1, rfl⟩
  · obtain ⟨T1, X1, e1, st1⟩ := getS2 X0 hx hZ hown (host := "") (Or.inl (W 61 rfl)) Via.refl e0 (O4.ext X00.2) (g := (mkF m 2 #[iv i1, iv n1] [.int n1, .int i1])) rfl (hb hby own_d4_2)
    obtain ⟨_, _, ⟨T2, L2, k2, n2⟩, -, X2, ⟨Lc2, hQ2, l2, y2, z2⟩, st2⟩ := Jvm.LawKit.callS X1 hx (y := (⟨"jdk/internal/util/Preconditions", "checkIndex", "(IILjava/util/function/BiFunction;)I"⟩ : MethodName)) hown (mvT hZ (W 63 rfl)) (mvT hZ (W 64 rfl)) (mvT hZ (W 62 rfl)) (mvT hZ (W 65 rfl)) (by decide) (backOf (W := 0) (rm_pcN l Z a0 hw [] i1 n1 h0 n0 Z0 hi hn) hZ (W 65 rfl) (W 62 rfl) (by decide) (by decide)) (g := (mkF m 5 #[iv i1, iv n1] [.null, .int n1, .int i1])) rfl (by rw [hml]; rfl) (argsL := [.int i1, .int n1, .null]) (rest := []) (lenOf own_pd_12 rfl) rfl (by show 2 * 0 + _ ≤ _; exact Nat.le_of_eq rfl) (hb hby own_d4_5) (fun _ _ => ⟨rfl, e1, (by decide : 0 + 0 ≤ _), (by decide : 0 + 0 ≤ _)⟩)
    dsimp only [Pt.U, Pt.locs, Pt.cells, Pt.slots] at X2 l2 y2 z2 st2 hQ2
    subst l2 y2 z2
    obtain ⟨rfl, Nq2, e2⟩ := hQ2
    have N2 := Fr.app N0 Nq2
    obtain ⟨fs, hr, hrun, hended, hW, hsame⟩ := X2.leave (v := none) (fun _ => rfl)
    refine ⟨_, _, pre0 _ (?_), hrun, hended, _, _, rfl, ?_, ⟨_, rfl⟩, hW, hsame.mono (by decide) (by decide)⟩
    · show Steps p.tables e below (s₁.setTop (mkF m 0 #[iv i1, iv n1] [])) _
      refine XS.iloadN X0.here hx rfl (hb hby own_d4_0) rfl ?_
      show Steps _ _ _ (s₁.setTop (mkF m 1 _ [.int i1])) _
      refine XS.iloadN X0.here hx rfl (hb hby own_d4_1) rfl ?_
      show Steps _ _ _ (s₁.setTop (mkF m 2 _ [.int n1, .int i1])) _
      refine st1 _ ?_
      show Steps p.tables e below (T1.setTop (mkF m 5 #[iv i1, iv n1] [.null, .int n1, .int i1])) _
      refine st2 _ ?_
      show Steps p.tables e below (T2.setTop (mkF m 8 #[iv i1, iv n1] [.int i1])) _
      refine XS.pop X2.here hx rfl (hb hby own_d4_8) rfl rfl ?_
      show Steps _ _ _ (T2.setTop (mkF m 9 _ [])) _
      exact X2.returnOut hx Bd.returns (hb hby own_d4_9) hr
    · show Q_sci Z i1 n1 _ h0 n0 _ T2.heap _
      rw [e2]
      exact ⟨rfl, N2, rfl⟩
  · obtain ⟨T3, X3, e3, st3⟩ := getS2 X0 hx hZ hown (host := "") (Or.inl (W 61 rfl)) Via.refl e0 (O4.ext X00.2) (g := (mkF m 2 #[iv i1, iv n1] [.int n1, .int i1])) rfl (hb hby own_d4_2)
    obtain ⟨_, _, ⟨T4, L4, k4, n4⟩, -, X4, ⟨Lc4, hQ4, l4, y4, z4⟩, st4⟩ := Jvm.LawKit.callS X3 hx (y := (⟨"jdk/internal/util/Preconditions", "checkIndex", "(IILjava/util/function/BiFunction;)I"⟩ : MethodName)) hown (mvT hZ (W 63 rfl)) (mvT hZ (W 64 rfl)) (mvT hZ (W 62 rfl)) (mvT hZ (W 65 rfl)) (by decide) (backOf (W := 0) (rm_pcR l Z a0 hw [] i1 n1 f1 h0 n0 Z0 hi hn) hZ (W 65 rfl) (W 62 rfl) (by decide) (by decide)) (g := (mkF m 5 #[iv i1, iv n1] [.ref f1, .int n1, .int i1])) rfl (by rw [hml]; rfl) (argsL := [.int i1, .int n1, .ref f1]) (rest := []) (lenOf own_pd_12 rfl) rfl (by show 2 * 0 + _ ≤ _; exact Nat.le_of_eq rfl) (hb hby own_d4_5) (fun _ _ => ⟨rfl, e3, (by decide : 0 + 0 ≤ _), (by decide : 0 + 0 ≤ _)⟩)
    dsimp only [Pt.U, Pt.locs, Pt.cells, Pt.slots] at X4 l4 y4 z4 st4 hQ4
    subst l4 y4 z4
    obtain ⟨rfl, Nq4, e4⟩ := hQ4
    have N4 := Fr.app N0 Nq4
    obtain ⟨fs, hr, hrun, hended, hW, hsame⟩ := X4.leave (v := none) (fun _ => rfl)
    refine ⟨_, _, pre0 _ (?_), hrun, hended, _, _, rfl, ?_, ⟨_, rfl⟩, hW, hsame.mono (by decide) (by decide)⟩
    · show Steps p.tables e below (s₁.setTop (mkF m 0 #[iv i1, iv n1] [])) _
      refine XS.iloadN X0.here hx rfl (hb hby own_d4_0) rfl ?_
      show Steps _ _ _ (s₁.setTop (mkF m 1 _ [.int i1])) _
      refine XS.iloadN X0.here hx rfl (hb hby own_d4_1) rfl ?_
      show Steps _ _ _ (s₁.setTop (mkF m 2 _ [.int n1, .int i1])) _
      refine st3 _ ?_
      show Steps p.tables e below (T3.setTop (mkF m 5 #[iv i1, iv n1] [.ref f1, .int n1, .int i1])) _
      refine st4 _ ?_
      show Steps p.tables e below (T4.setTop (mkF m 8 #[iv i1, iv n1] [.int i1])) _
      refine XS.pop X4.here hx rfl (hb hby own_d4_8) rfl rfl ?_
      show Steps _ _ _ (T4.setTop (mkF m 9 _ [])) _
      exact X4.returnOut hx Bd.returns (hb hby own_d4_9) hr
    · show Q_sci Z i1 n1 _ h0 n0 _ T4.heap _
      rw [e4]
      exact ⟨rfl, N4, rfl⟩
theorem own_pn_5 : plainName "java/lang/StringUTF16" = true := by decide +kernel
theorem own_d16_0 : decode jdk_52_method_6_code 0 = .ok (.aload_n 0, 1) := by decide +kernel
theorem own_d16_1 : decode jdk_52_method_6_code 1 = .ok (.arraylength, 1) := by decide +kernel
theorem own_d16_2 : decode jdk_52_method_6_code 2 = .ok (.iconst 1, 1) := by decide +kernel
theorem own_d16_3 : decode jdk_52_method_6_code 3 = .ok (.ishr, 1) := by decide +kernel
theorem own_d16_4 : decode jdk_52_method_6_code 4 = .ok (.ireturn, 1) := by decide +kernel
theorem own_ef_ulen (m : MethodId) (x0 : Addr) : entryFrame m #[(.ref x0)] 1 = mkF m 0 #[rv x0] [] := by first | (simp [entryFrame, mkF, argsToLocals, Value.category]; done) | rfl
def Q_ulen (Z : State) (t1 : Addr) (kb : ClassId) (N2 n1 : Int32) (vs : List Value) (h0 : Heap) (n0 : Nat) (v : Option Value) (h : Heap) (L : List Loc) : Prop := v = some (.int n1) ∧ Fr n0 L ∧ h = h0
set_option maxRecDepth 65536 in
set_option maxHeartbeats 40000000 in
theorem rm_ulen (l : Launch) (Z : State) (a0 : Array Value) (hw : ∀ d ∈ tables_1, d.before a0 Z = true) (ws : List Jvm.Cond) (t1 : Addr) (kb : ClassId) (N2 n1 : Int32) (vs : List Value) (h0 : Heap) (n0 : Nat) (Z0 : n0 ≤ h0.size) (V1 : Arv Z h0 t1 kb .byte N2 vs (.int 0)) (hN : N2 >>> ((1 : Int32) &&& 31) = n1) :
    MetFree l (⟨"java/lang/StringUTF16", "length", "([B)I"⟩ : MethodName) (head1 (Jvm.Cond.code (⟨"java/lang/StringUTF16", "length", "([B)I"⟩ : MethodName) jdk_52_method_6_code 1 (some .int) :: ws) ({ frames := 0, cells := 0, slots := 0, locals := 0 } : Room)) (fun a U => a = #[(.ref t1)] ∧ Z.Warmed39 U.vm ∧ U.heap = h0) (fun _ _ _ _ _ => True) (fun _ U o U' => ∃ v L, o = .returned v ∧ Q_ulen Z t1 kb N2 n1 vs h0 n0 v U'.heap L ∧ FrameEnd U o U' L ({ frames := 0, cells := 0, slots := 0, locals := 0 } : Room).cells ({ frames := 0, cells := 0, slots := 0, locals := 0 } : Room).slots) := by
  refine MetFree.of_bodySF (plainFor_of_name own_pn_5) hisR ?_
  intro p e s m args below meth c s₁ Bd hml0 hP hK
  obtain ⟨rfl, hZ, hh⟩ := hP
  have hx := Bd.exec
  have hby := Bd.bytes
  have hml : c.maxLocals = 1 := hml0
  have hown : s.vm.findClass "java/lang/StringUTF16" = some m.cls := findClass_of_methodNamed Bd.named
  have hnm := (name_of_methodNamed Bd.named Bd.method).1
  have W := own_W hw
  have X0 : Stand p l e ({ frames := 0, cells := 0, slots := 0, locals := 0 } : Room) s m #[(.ref t1)] below meth c s₁ [] 0 0 := Stand.of_body Bd
  have e0 : s₁.heap = h0 := by rw [← hh, Bd.state]; rfl
  have N0 := Fr.nil n0
  have pre0 : ∀ tq, Steps p.tables e below (s₁.setTop (mkF m 0 #[rv t1] [])) tq → Steps p.tables e below (s₁.setTop (entryFrame m #[(.ref t1)] 1)) tq := fun tq k => castTop (own_ef_ulen m t1) k
  obtain ⟨cl5, Ar5, aq5, aS5, aN5, aH5, aG5⟩ := id V1
  obtain ⟨fs, hr, hrun, hended, hW, hsame⟩ := X0.leave (v := some (.int n1)) (fun h => by rw [Bd.returns] at h; cases h)
  refine ⟨_, _, pre0 _ (?_), hrun, hended, _, _, rfl, ?_, ⟨_, rfl⟩, hW, hsame.mono (by decide) (by decide)⟩
  · show Steps p.tables e below (s₁.setTop (mkF m 0 #[rv t1] [])) _
    refine XS.aloadN X0.here hx rfl (hb hby own_d16_0) rfl rfl ?_
    show Steps _ _ _ (s₁.setTop (mkF m 1 _ [.ref t1])) _
    refine X0.arraylength hx (by rw [e0]; exact Ar5.1) (State.isArrayOf_alike hZ.alike Ar5.2.1) (g := (mkF m 1 #[rv t1] [.ref t1])) rfl rfl (hb hby own_d16_1) _ ?_
    rw [len_of aS5 aN5]
    show Steps p.tables e below (s₁.setTop (mkF m 2 #[rv t1] [.int N2])) _
    refine XS.iconst X0.here hx rfl (hb hby own_d16_2) ?_
    show Steps _ _ _ (s₁.setTop (mkF m 3 _ [.int 1, .int N2])) _
    refine XS.ishr X0.here hx rfl (hb hby own_d16_3) rfl ?_
    rw [hN]
    show Steps p.tables e below (s₁.setTop (mkF m 4 #[rv t1] [.int n1])) _
    exact retI X0 hx Bd.returns (hb hby own_d16_4) hr
  · show Q_ulen Z t1 kb N2 n1 vs h0 n0 _ s₁.heap _
    rw [e0]
    exact ⟨rfl, N0, rfl⟩
theorem own_d18_0 : decode jdk_52_method_91_code 0 = .ok (.iload_n 0, 1) := by decide +kernel
theorem own_d18_1 : decode jdk_52_method_91_code 1 = .ok (.aload_n 1, 1) := by decide +kernel
theorem own_d18_2 : decode jdk_52_method_91_code 2 = .ok (.invokestatic 48, 3) := by decide +kernel
theorem own_pd_17 : parseMethodDescriptor "([B)I" = some ⟨[(.array .byte)], some .int⟩ := by decide +kernel
theorem own_d18_5 : decode jdk_52_method_91_code 5 = .ok (.invokestatic 414, 3) := by decide +kernel
theorem own_pd_11 : parseMethodDescriptor "(II)V" = some ⟨[.int, .int], none⟩ := by decide +kernel
theorem own_d18_8 : decode jdk_52_method_91_code 8 = .ok (.return_, 1) := by decide +kernel
theorem own_ef_uci (m : MethodId) (x0 : Int32) (x1 : Addr) : entryFrame m #[(.int x0), (.ref x1)] 2 = mkF m 0 #[iv x0, rv x1] [] := by first | (simp [entryFrame, mkF, argsToLocals, Value.category]; done) | rfl
def Q_uci (Z : State) (i1 : Int32) (t1 : Addr) (kb : ClassId) (N2 n1 : Int32) (vs : List Value) (G3 : Value) (h0 : Heap) (n0 : Nat) (v : Option Value) (h : Heap) (L : List Loc) : Prop := v = none ∧ Fr n0 L ∧ h = h0
set_option maxRecDepth 65536 in
set_option maxHeartbeats 40000000 in
theorem rm_uci (l : Launch) (Z : State) (a0 : Array Value) (hw : ∀ d ∈ tables_1, d.before a0 Z = true) (ws : List Jvm.Cond) (i1 : Int32) (t1 : Addr) (kb : ClassId) (N2 n1 : Int32) (vs : List Value) (G3 : Value) (h0 : Heap) (n0 : Nat) (Z0 : n0 ≤ h0.size) (X00 : Old Z n0 h0) (V1 : Arv Z h0 t1 kb .byte N2 vs (.int 0)) (hN : N2 >>> ((1 : Int32) &&& 31) = n1) (hi : ¬ i1 < 0) (hn : i1 < n1) (O4 : Sta Z Z.heap "jdk/internal/util/Preconditions" "SIOOBE_FORMATTER" "Ljava/util/function/BiFunction;" G3) (rG3 : G3.isRef = true) :
    MetFree l (⟨"java/lang/StringUTF16", "checkIndex", "(I[B)V"⟩ : MethodName) (head1 (Jvm.Cond.code (⟨"java/lang/StringUTF16", "checkIndex", "(I[B)V"⟩ : MethodName) jdk_52_method_91_code 2 none :: ws) ({ frames := 2, cells := 0, slots := 0, locals := 40 } : Room)) (fun a U => a = #[(.int i1), (.ref t1)] ∧ Z.Warmed39 U.vm ∧ U.heap = h0) (fun _ _ _ _ _ => True) (fun _ U o U' => ∃ v L, o = .returned v ∧ Q_uci Z i1 t1 kb N2 n1 vs G3 h0 n0 v U'.heap L ∧ FrameEnd U o U' L ({ frames := 2, cells := 0, slots := 0, locals := 40 } : Room).cells ({ frames := 2, cells := 0, slots := 0, locals := 40 } : Room).slots) := by
  refine MetFree.of_bodySF (plainFor_of_name own_pn_5) hisR ?_
  intro p e s m args below meth c s₁ Bd hml0 hP hK
  obtain ⟨rfl, hZ, hh⟩ := hP
  have hx := Bd.exec
  have hby := Bd.bytes
  have hml : c.maxLocals = 2 := hml0
  have hown : s.vm.findClass "java/lang/StringUTF16" = some m.cls := findClass_of_methodNamed Bd.named
  have hnm := (name_of_methodNamed Bd.named Bd.method).1
  have W := own_W hw
  have X0 : Stand p l e ({ frames := 2, cells := 0, slots := 0, locals := 40 } : Room) s m #[(.int i1), (.ref t1)] below meth c s₁ [] 0 0 := Stand.of_body Bd
  have e0 : s₁.heap = h0 := by rw [← hh, Bd.state]; rfl
  have N0 := Fr.nil n0
  have pre0 : ∀ tq, Steps p.tables e below (s₁.setTop (mkF m 0 #[iv i1, rv t1] [])) tq → Steps p.tables e below (s₁.setTop (entryFrame m #[(.int i1), (.ref t1)] 2)) tq := fun tq k => castTop (own_ef_uci m i1 t1) k
  obtain ⟨_, _, ⟨T6, L6, k6, n6⟩, -, X6, ⟨Lc6, hQ6, l6, y6, z6⟩, st6⟩ := Jvm.LawKit.callS X0 hx (y := (⟨"java/lang/StringUTF16", "length", "([B)I"⟩ : MethodName)) hown (mvT hZ (W 91 rfl)) (mvT hZ (W 92 rfl)) (mvT hZ (W 23 rfl)) (mvT hZ (W 93 rfl)) (by decide) (backOf (W := 1) (rm_ulen l Z a0 hw [] t1 kb N2 n1 vs h0 n0 Z0 V1 hN) hZ (W 93 rfl) (W 23 rfl) (by decide) (by decide)) (g := (mkF m 2 #[iv i1, rv t1] [.ref t1, .int i1])) rfl (by rw [hml]; rfl) (argsL := [.ref t1]) (rest := [.int i1]) (lenOf own_pd_17 rfl) rfl (by show 2 * 0 + _ ≤ _; exact Nat.le_of_eq rfl) (hb hby own_d18_2) (fun _ _ => ⟨rfl, e0, (by decide : 0 + 0 ≤ _), (by decide : 0 + 0 ≤ _)⟩)
  dsimp only [Pt.U, Pt.locs, Pt.cells, Pt.slots] at X6 l6 y6 z6 st6 hQ6
  subst l6 y6 z6
  obtain ⟨rfl, Nq6, e6⟩ := hQ6
  have N6 := Fr.app N0 Nq6
  obtain ⟨_, _, ⟨T7, L7, k7, n7⟩, -, X7, ⟨Lc7, hQ7, l7, y7, z7⟩, st7⟩ := Jvm.LawKit.callS X6 hx (y := (⟨"java/lang/String", "checkIndex", "(II)V"⟩ : MethodName)) hown (mvT hZ (W 94 rfl)) (mvT hZ (W 59 rfl)) (mvT hZ (W 9 rfl)) (mvT hZ (W 60 rfl)) (by decide) (backOf (W := 0) (rm_sci l Z a0 hw [] i1 n1 G3 h0 n0 Z0 X00 hi hn O4 rG3) hZ (W 60 rfl) (W 9 rfl) (by decide) (by decide)) (g := (mkF m 5 #[iv i1, rv t1] [.int n1, .int i1])) rfl (by rw [hml]; rfl) (argsL := [.int i1, .int n1]) (rest := []) (lenOf own_pd_11 rfl) rfl (by show 2 * 0 + _ ≤ _; exact Nat.le_of_eq rfl) (hb hby own_d18_5) (fun _ _ => ⟨rfl, e6, (by decide : 0 + 0 ≤ _), (by decide : 0 + 0 ≤ _)⟩)
  dsimp only [Pt.U, Pt.locs, Pt.cells, Pt.slots] at X7 l7 y7 z7 st7 hQ7
  subst l7 y7 z7
  obtain ⟨rfl, Nq7, e7⟩ := hQ7
  have N7 := Fr.app N6 Nq7
  obtain ⟨fs, hr, hrun, hended, hW, hsame⟩ := X7.leave (v := none) (fun _ => rfl)
  refine ⟨_, _, pre0 _ (?_), hrun, hended, _, _, rfl, ?_, ⟨_, rfl⟩, hW, hsame.mono (by decide) (by decide)⟩
  · show Steps p.tables e below (s₁.setTop (mkF m 0 #[iv i1, rv t1] [])) _
    refine XS.iloadN X0.here hx rfl (hb hby own_d18_0) rfl ?_
    show Steps _ _ _ (s₁.setTop (mkF m 1 _ [.int i1])) _
    refine XS.aloadN X0.here hx rfl (hb hby own_d18_1) rfl rfl ?_
    show Steps _ _ _ (s₁.setTop (mkF m 2 _ [.ref t1, .int i1])) _
    refine st6 _ ?_
    show Steps p.tables e below (T6.setTop (mkF m 5 #[iv i1, rv t1] [.int n1, .int i1])) _
    refine st7 _ ?_
    show Steps p.tables e below (T7.setTop (mkF m 8 #[iv i1, rv t1] [])) _
    exact X7.returnOut hx Bd.returns (hb hby own_d18_8) hr
  · show Q_uci Z i1 t1 kb N2 n1 vs G3 h0 n0 _ T7.heap _
    rw [e7]
    exact ⟨rfl, N7, rfl⟩
theorem own_d15_0 : decode jdk_52_method_5_code 0 = .ok (.getstatic 44, 3) := by decide +kernel
theorem own_d15_3 : decode jdk_52_method_5_code 3 = .ok (.ifCond .ne 25, 3) := by decide +kernel
theorem own_d15_28 : decode jdk_52_method_5_code 28 = .ok (.iload_n 1, 1) := by decide +kernel
theorem own_d15_29 : decode jdk_52_method_5_code 29 = .ok (.iconst 1, 1) := by decide +kernel
theorem own_d15_30 : decode jdk_52_method_5_code 30 = .ok (.ishl, 1) := by decide +kernel
theorem own_d15_31 : decode jdk_52_method_5_code 31 = .ok (.istore_n 1, 1) := by decide +kernel
theorem own_d15_32 : decode jdk_52_method_5_code 32 = .ok (.aload_n 0, 1) := by decide +kernel
theorem own_d15_33 : decode jdk_52_method_5_code 33 = .ok (.iload_n 1, 1) := by decide +kernel
theorem own_d15_34 : decode jdk_52_method_5_code 34 = .ok (.iinc 1 1, 3) := by decide +kernel
theorem own_d15_37 : decode jdk_52_method_5_code 37 = .ok (.baload, 1) := by decide +kernel
theorem own_d15_38 : decode jdk_52_method_5_code 38 = .ok (.sipush 255, 3) := by decide +kernel
theorem own_d15_41 : decode jdk_52_method_5_code 41 = .ok (.iand, 1) := by decide +kernel
theorem own_d15_42 : decode jdk_52_method_5_code 42 = .ok (.getstatic 59, 3) := by decide +kernel
theorem own_d15_45 : decode jdk_52_method_5_code 45 = .ok (.ishl, 1) := by decide +kernel
theorem own_d15_46 : decode jdk_52_method_5_code 46 = .ok (.aload_n 0, 1) := by decide +kernel
theorem own_d15_47 : decode jdk_52_method_5_code 47 = .ok (.iload_n 1, 1) := by decide +kernel
theorem own_d15_48 : decode jdk_52_method_5_code 48 = .ok (.baload, 1) := by decide +kernel
theorem own_d15_49 : decode jdk_52_method_5_code 49 = .ok (.sipush 255, 3) := by decide +kernel
theorem own_d15_52 : decode jdk_52_method_5_code 52 = .ok (.iand, 1) := by decide +kernel
theorem own_d15_53 : decode jdk_52_method_5_code 53 = .ok (.getstatic 63, 3) := by decide +kernel
theorem own_d15_56 : decode jdk_52_method_5_code 56 = .ok (.ishl, 1) := by decide +kernel
theorem own_d15_57 : decode jdk_52_method_5_code 57 = .ok (.ior, 1) := by decide +kernel
theorem own_d15_58 : decode jdk_52_method_5_code 58 = .ok (.i2c, 1) := by decide +kernel
theorem own_d15_59 : decode jdk_52_method_5_code 59 = .ok (.ireturn, 1) := by decide +kernel
theorem own_ef_uget (m : MethodId) (x0 : Addr) (x1 : Int32) : entryFrame m #[(.ref x0), (.int x1)] 2 = mkF m 0 #[rv x0, iv x1] [] := by first | (simp [entryFrame, mkF, argsToLocals, Value.category]; done) | rfl
def Q_uget (Z : State) (t1 : Addr) (i1 i2 i3 : Int32) (kb : ClassId) (N2 c1 : Int32) (vs : List Value) (h0 : Heap) (n0 : Nat) (v : Option Value) (h : Heap) (L : List Loc) : Prop := v = some (.int c1) ∧ Fr n0 L ∧ h = h0
set_option maxRecDepth 65536 in
set_option maxHeartbeats 40000000 in
theorem rm_uget (l : Launch) (Z : State) (a0 : Array Value) (hw : ∀ d ∈ tables_1, d.before a0 Z = true) (ws : List Jvm.Cond) (t1 : Addr) (i1 i2 i3 : Int32) (kb : ClassId) (N2 c1 : Int32) (vs : List Value) (h0 : Heap) (n0 : Nat) (Z0 : n0 ≤ h0.size) (X00 : Old Z n0 h0) (V1 : Arv Z h0 t1 kb .byte N2 vs (.int 0)) (e2 : i1 <<< ((1 : Int32) &&& 31) = i2) (e3 : i2 + 1 = i3) (b2 : ¬ i2 < 0 ∧ i2 < N2) (b3 : ¬ i3 < 0 ∧ i3 < N2) (v2 : vs.getD i2.toNatClampNeg (.int 0) = .int (StrChars.lo8 c1)) (v3 : vs.getD i3.toNatClampNeg (.int 0) = .int (StrChars.hi8 c1)) (hc : ¬ c1 < 0 ∧ ¬ (65535 : Int32) < c1) (OA : Sta Z Z.heap "java/lang/StringUTF16" "$assertionsDisabled" "Z" (.int (1 : Int32))) (OH : Sta Z Z.heap "java/lang/StringUTF16" "HI_BYTE_SHIFT" "I" (.int (0 : Int32))) (OL : Sta Z Z.heap "java/lang/StringUTF16" "LO_BYTE_SHIFT" "I" (.int (8 : Int32))) :
    MetFree l (⟨"java/lang/StringUTF16", "getChar", "([BI)C"⟩ : MethodName) (head1 (Jvm.Cond.code (⟨"java/lang/StringUTF16", "getChar", "([BI)C"⟩ : MethodName) jdk_52_method_5_code 2 (some .char) :: ws) ({ frames := 0, cells := 0, slots := 0, locals := 0 } : Room)) (fun a U => a = #[(.ref t1), (.int i1)] ∧ Z.Warmed39 U.vm ∧ U.heap = h0) (fun _ _ _ _ _ => True) (fun _ U o U' => ∃ v L, o = .returned v ∧ Q_uget Z t1 i1 i2 i3 kb N2 c1 vs h0 n0 v U'.heap L ∧ FrameEnd U o U' L ({ frames := 0, cells := 0, slots := 0, locals := 0 } : Room).cells ({ frames := 0, cells := 0, slots := 0, locals := 0 } : Room).slots) := by
  refine MetFree.of_bodySF (plainFor_of_name own_pn_5) hisR ?_
  intro p e s m args below meth c s₁ Bd hml0 hP hK
  obtain ⟨rfl, hZ, hh⟩ := hP
  have hx := Bd.exec
  have hby := Bd.bytes
  have hml : c.maxLocals = 2 := hml0
  have hown : s.vm.findClass "java/lang/StringUTF16" = some m.cls := findClass_of_methodNamed Bd.named
  have hnm := (name_of_methodNamed Bd.named Bd.method).1
  have W := own_W hw
  have X0 : Stand p l e ({ frames := 0, cells := 0, slots := 0, locals := 0 } : Room) s m #[(.ref t1), (.int i1)] below meth c s₁ [] 0 0 := Stand.of_body Bd
  have e0 : s₁.heap = h0 := by rw [← hh, Bd.state]; rfl
  have N0 := Fr.nil n0
  have pre0 : ∀ tq, Steps p.tables e below (s₁.setTop (mkF m 0 #[rv t1, iv i1] [])) tq → Steps p.tables e below (s₁.setTop (entryFrame m #[(.ref t1), (.int i1)] 2)) tq := fun tq k => castTop (own_ef_uget m t1 i1) k
  obtain ⟨cl8, Ar8, aq8, aS8, aN8, aH8, aG8⟩ := id V1
  have hi2 := inb_of aS8 b2
  have hi3 := inb_of aS8 b3
  have ha2 := Has.at aH8 hi2 v2
  have ha3 := Has.at aH8 hi3 v3
  obtain ⟨T9, X9, e9, st9⟩ := getS2 X0 hx hZ hown (host := "") (Or.inl (W 79 rfl)) Via.refl e0 (OA.ext X00.2) (g := (mkF m 0 #[rv t1, iv i1] [])) rfl (hb hby own_d15_0)
  obtain ⟨T10, X10, e10, st10⟩ := getS2 X9 hx hZ hown (host := "") (Or.inl (W 80 rfl)) Via.refl e9 (OH.ext X00.2) (g := (mkF m 42 #[rv t1, iv i3] [.int ((StrChars.lo8 c1) &&& (255 : Int32))])) rfl (hb hby own_d15_42)
  obtain ⟨T11, X11, e11, st11⟩ := getS2 X10 hx hZ hown (host := "") (Or.inl (W 81 rfl)) Via.refl e10 (OL.ext X00.2) (g := (mkF m 53 #[rv t1, iv i3] [.int ((StrChars.hi8 c1) &&& (255 : Int32)), .int (((StrChars.lo8 c1) &&& (255 : Int32)) <<< ((0 : Int32) &&& 31))])) rfl (hb hby own_d15_53)
  obtain ⟨fs, hr, hrun, hended, hW, hsame⟩ := X11.leave (v := some (.int (nar .char c1))) (fun h => by rw [Bd.returns] at h; cases h)
  refine ⟨_, _, pre0 _ (?_), hrun, hended, _, _, rfl, ?_, ⟨_, rfl⟩, hW, hsame.mono (by decide) (by decide)⟩
  · show Steps p.tables e below (s₁.setTop (mkF m 0 #[rv t1, iv i1] [])) _
    refine st9 _ ?_
    show Steps p.tables e below (T9.setTop (mkF m 3 #[rv t1, iv i1] [.int 1])) _
    refine XS.ifYes X9.here hx rfl (pc0 := 3) (pc' := 28) rfl (hb hby own_d15_3) rfl ((if0 _ _).trans (feq ((by decide) : ¬ ((1 : Int32) = (0 : Int32)))).2) (by decide) (by decide) ?_
    show Steps _ _ _ (T9.setTop (mkF m 28 _ [])) _
    refine XS.iloadN X9.here hx rfl (hb hby own_d15_28) rfl ?_
    show Steps _ _ _ (T9.setTop (mkF m 29 _ [.int i1])) _
    refine XS.iconst X9.here hx rfl (hb hby own_d15_29) ?_
    show Steps _ _ _ (T9.setTop (mkF m 30 _ [.int 1, .int i1])) _
    refine XS.ishl X9.here hx rfl (hb hby own_d15_30) rfl ?_
    rw [e2]
    show Steps p.tables e below (T9.setTop (mkF m 31 #[rv t1, iv i1] [.int i2])) _
    refine XS.istoreN X9.here hx rfl (hb hby own_d15_31) rfl (l' := #[rv t1, iv i2]) rfl ?_
    show Steps _ _ _ (T9.setTop (mkF m 32 _ [])) _
    refine XS.aloadN X9.here hx rfl (hb hby own_d15_32) rfl rfl ?_
    show Steps _ _ _ (T9.setTop (mkF m 33 _ [.ref t1])) _
    refine XS.iloadN X9.here hx rfl (hb hby own_d15_33) rfl ?_
    show Steps _ _ _ (T9.setTop (mkF m 34 _ [.int i2, .ref t1])) _
    refine XS.iinc X9.here hx rfl (hb hby own_d15_34) rfl (l' := #[rv t1, iv i3]) (by rw [show i2 + Int32.ofInt 1 = i3 from e3]; rfl) ?_
    show Steps _ _ _ (T9.setTop (mkF m 37 _ [.int i2, .ref t1])) _
    refine X9.baloadBytes hx (j := i2) (v := (.int (StrChars.lo8 c1))) (by rw [e9]; exact Ar8.1) (State.isArrayOf_alike hZ.alike Ar8.2.1) Ar8.2.2 hi2 ha2 (g := (mkF m 37 #[rv t1, iv i3] [.int i2, .ref t1])) rfl rfl (hb hby own_d15_37) _ ?_
    show Steps p.tables e below (T9.setTop (mkF m 38 #[rv t1, iv i3] [.int (StrChars.lo8 c1)])) _
    refine XS.sipush X9.here hx rfl (hb hby own_d15_38) ?_
    show Steps _ _ _ (T9.setTop (mkF m 41 _ [.int 255, .int (StrChars.lo8 c1)])) _
    refine XS.iand X9.here hx rfl (hb hby own_d15_41) rfl ?_
    show Steps _ _ _ (T9.setTop (mkF m 42 _ [.int ((StrChars.lo8 c1) &&& (255 : Int32))])) _
    refine st10 _ ?_
    show Steps p.tables e below (T10.setTop (mkF m 45 #[rv t1, iv i3] [.int 0, .int ((StrChars.lo8 c1) &&& (255 : Int32))])) _
    refine XS.ishl X10.here hx rfl (hb hby own_d15_45) rfl ?_
    show Steps _ _ _ (T10.setTop (mkF m 46 _ [.int (((StrChars.lo8 c1) &&& (255 : Int32)) <<< ((0 : Int32) &&& 31))])) _
    refine XS.aloadN X10.here hx rfl (hb hby own_d15_46) rfl rfl ?_
    show Steps _ _ _ (T10.setTop (mkF m 47 _ [.ref t1, .int (((StrChars.lo8 c1) &&& (255 : Int32)) <<< ((0 : Int32) &&& 31))])) _
    refine XS.iloadN X10.here hx rfl (hb hby own_d15_47) rfl ?_
    show Steps _ _ _ (T10.setTop (mkF m 48 _ [.int i3, .ref t1, .int (((StrChars.lo8 c1) &&& (255 : Int32)) <<< ((0 : Int32) &&& 31))])) _
    refine X10.baloadBytes hx (j := i3) (v := (.int (StrChars.hi8 c1))) (by rw [e10]; exact Ar8.1) (State.isArrayOf_alike hZ.alike Ar8.2.1) Ar8.2.2 hi3 ha3 (g := (mkF m 48 #[rv t1, iv i3] [.int i3, .ref t1, .int (((StrChars.lo8 c1) &&& (255 : Int32)) <<< ((0 : Int32) &&& 31))])) rfl rfl (hb hby own_d15_48) _ ?_
    show Steps p.tables e below (T10.setTop (mkF m 49 #[rv t1, iv i3] [.int (StrChars.hi8 c1), .int (((StrChars.lo8 c1) &&& (255 : Int32)) <<< ((0 : Int32) &&& 31))])) _
    refine XS.sipush X10.here hx rfl (hb hby own_d15_49) ?_
    show Steps _ _ _ (T10.setTop (mkF m 52 _ [.int 255, .int (StrChars.hi8 c1), .int (((StrChars.lo8 c1) &&& (255 : Int32)) <<< ((0 : Int32) &&& 31))])) _
    refine XS.iand X10.here hx rfl (hb hby own_d15_52) rfl ?_
    show Steps _ _ _ (T10.setTop (mkF m 53 _ [.int ((StrChars.hi8 c1) &&& (255 : Int32)), .int (((StrChars.lo8 c1) &&& (255 : Int32)) <<< ((0 : Int32) &&& 31))])) _
    refine st11 _ ?_
    show Steps p.tables e below (T11.setTop (mkF m 56 #[rv t1, iv i3] [.int 8, .int ((StrChars.hi8 c1) &&& (255 : Int32)), .int (((StrChars.lo8 c1) &&& (255 : Int32)) <<< ((0 : Int32) &&& 31))])) _
    refine XS.ishl X11.here hx rfl (hb hby own_d15_56) rfl ?_
    show Steps _ _ _ (T11.setTop (mkF m 57 _ [.int (((StrChars.hi8 c1) &&& (255 : Int32)) <<< ((8 : Int32) &&& 31)), .int (((StrChars.lo8 c1) &&& (255 : Int32)) <<< ((0 : Int32) &&& 31))])) _
    refine XS.ior X11.here hx rfl (hb hby own_d15_57) rfl ?_
    show Steps _ _ _ (T11.setTop (mkF m 58 _ [.int ((((StrChars.lo8 c1) &&& (255 : Int32)) <<< ((0 : Int32) &&& 31)) ||| (((StrChars.hi8 c1) &&& (255 : Int32)) <<< ((8 : Int32) &&& 31)))])) _
    refine XS.i2c X11.here hx rfl (hb hby own_d15_58) rfl ?_
    rw [show (((StrChars.lo8 c1 &&& (255 : Int32)) <<< ((0 : Int32) &&& 31)) ||| ((StrChars.hi8 c1 &&& (255 : Int32)) <<< ((8 : Int32) &&& 31))).toUInt32.toUInt16.toUInt32.toInt32 = c1 from StrChars.pair_says hc.1 hc.2]
    show Steps p.tables e below (T11.setTop (mkF m 59 #[rv t1, iv i3] [.int c1])) _
    exact retN X11 hx (t := .char) Bd.returns (by simp) (hb hby own_d15_59) hr
  · show Q_uget Z t1 i1 i2 i3 kb N2 c1 vs h0 n0 _ T11.heap _
    rw [e11]
    exact ⟨by rw [own_narc c1 hc.1 hc.2], N0, rfl⟩
theorem own_d17_0 : decode jdk_52_method_83_code 0 = .ok (.iload_n 1, 1) := by decide +kernel
theorem own_d17_1 : decode jdk_52_method_83_code 1 = .ok (.aload_n 0, 1) := by decide +kernel
theorem own_d17_2 : decode jdk_52_method_83_code 2 = .ok (.invokestatic 67, 3) := by decide +kernel
theorem own_pd_16 : parseMethodDescriptor "(I[B)V" = some ⟨[.int, (.array .byte)], none⟩ := by decide +kernel
theorem own_d17_5 : decode jdk_52_method_83_code 5 = .ok (.aload_n 0, 1) := by decide +kernel
theorem own_d17_6 : decode jdk_52_method_83_code 6 = .ok (.iload_n 1, 1) := by decide +kernel
theorem own_d17_7 : decode jdk_52_method_83_code 7 = .ok (.invokestatic 71, 3) := by decide +kernel
theorem own_pd_10 : parseMethodDescriptor "([BI)C" = some ⟨[(.array .byte), .int], some .char⟩ := by decide +kernel
theorem own_d17_10 : decode jdk_52_method_83_code 10 = .ok (.ireturn, 1) := by decide +kernel
theorem own_ef_uch (m : MethodId) (x0 : Addr) (x1 : Int32) : entryFrame m #[(.ref x0), (.int x1)] 2 = mkF m 0 #[rv x0, iv x1] [] := by first | (simp [entryFrame, mkF, argsToLocals, Value.category]; done) | rfl
def Q_uch (Z : State) (t1 : Addr) (i1 i2 i3 : Int32) (kb : ClassId) (N2 n1 c1 : Int32) (vs : List Value) (G3 : Value) (h0 : Heap) (n0 : Nat) (v : Option Value) (h : Heap) (L : List Loc) : Prop := v = some (.int c1) ∧ Fr n0 L ∧ h = h0
set_option maxRecDepth 65536 in
set_option maxHeartbeats 40000000 in
theorem rm_uch (l : Launch) (Z : State) (a0 : Array Value) (hw : ∀ d ∈ tables_1, d.before a0 Z = true) (ws : List Jvm.Cond) (t1 : Addr) (i1 i2 i3 : Int32) (kb : ClassId) (N2 n1 c1 : Int32) (vs : List Value) (G3 : Value) (h0 : Heap) (n0 : Nat) (Z0 : n0 ≤ h0.size) (X00 : Old Z n0 h0) (V1 : Arv Z h0 t1 kb .byte N2 vs (.int 0)) (hN : N2 >>> ((1 : Int32) &&& 31) = n1) (hi : ¬ i1 < 0) (hn : i1 < n1) (e2 : i1 <<< ((1 : Int32) &&& 31) = i2) (e3 : i2 + 1 = i3) (b2 : ¬ i2 < 0 ∧ i2 < N2) (b3 : ¬ i3 < 0 ∧ i3 < N2) (v2 : vs.getD i2.toNatClampNeg (.int 0) = .int (StrChars.lo8 c1)) (v3 : vs.getD i3.toNatClampNeg (.int 0) = .int (StrChars.hi8 c1)) (hc : ¬ c1 < 0 ∧ ¬ (65535 : Int32) < c1) (O4 : Sta Z Z.heap "jdk/internal/util/Preconditions" "SIOOBE_FORMATTER" "Ljava/util/function/BiFunction;" G3) (rG3 : G3.isRef = true) (OA : Sta Z Z.heap "java/lang/StringUTF16" "$assertionsDisabled" "Z" (.int (1 : Int32))) (OH : Sta Z Z.heap "java/lang/StringUTF16" "HI_BYTE_SHIFT" "I" (.int (0 : Int32))) (OL : Sta Z Z.heap "java/lang/StringUTF16" "LO_BYTE_SHIFT" "I" (.int (8 : Int32))) :
    MetFree l (⟨"java/lang/StringUTF16", "charAt", "([BI)C"⟩ : MethodName) (head1 (Jvm.Cond.code (⟨"java/lang/StringUTF16", "charAt", "([BI)C"⟩ : MethodName) jdk_52_method_83_code 2 (some .char) :: ws) ({ frames := 3, cells := 0, slots := 0, locals := 60 } : Room)) (fun a U => a = #[(.ref t1), (.int i1)] ∧ Z.Warmed39 U.vm ∧ U.heap = h0) (fun _ _ _ _ _ => True) (fun _ U o U' => ∃ v L, o = .returned v ∧ Q_uch Z t1 i1 i2 i3 kb N2 n1 c1 vs G3 h0 n0 v U'.heap L ∧ FrameEnd U o U' L ({ frames := 3, cells := 0, slots := 0, locals := 60 } : Room).cells ({ frames := 3, cells := 0, slots := 0, locals := 60 } : Room).slots) := by
  refine MetFree.of_bodySF (plainFor_of_name own_pn_5) hisR ?_
  intro p e s m args below meth c s₁ Bd hml0 hP hK
  obtain ⟨rfl, hZ, hh⟩ := hP
  have hx := Bd.exec
  have hby := Bd.bytes
  have hml : c.maxLocals = 2 := hml0
  have hown : s.vm.findClass "java/lang/StringUTF16" = some m.cls := findClass_of_methodNamed Bd.named
  have hnm := (name_of_methodNamed Bd.named Bd.method).1
  have W := own_W hw
  have X0 : Stand p l e ({ frames := 3, cells := 0, slots := 0, locals := 60 } : Room) s m #[(.ref t1), (.int i1)] below meth c s₁ [] 0 0 := Stand.of_body Bd
  have e0 : s₁.heap = h0 := by rw [← hh, Bd.state]; rfl
  have N0 := Fr.nil n0
  have pre0 : ∀ tq, Steps p.tables e below (s₁.setTop (mkF m 0 #[rv t1, iv i1] [])) tq → Steps p.tables e below (s₁.setTop (entryFrame m #[(.ref t1), (.int i1)] 2)) tq := fun tq k => castTop (own_ef_uch m t1 i1) k
  obtain ⟨_, _, ⟨T12, L12, k12, n12⟩, -, X12, ⟨Lc12, hQ12, l12, y12, z12⟩, st12⟩ := Jvm.LawKit.callS X0 hx (y := (⟨"java/lang/StringUTF16", "checkIndex", "(I[B)V"⟩ : MethodName)) hown (mvT hZ (W 88 rfl)) (mvT hZ (W 89 rfl)) (mvT hZ (W 23 rfl)) (mvT hZ (W 90 rfl)) (by decide) (backOf (W := 0) (rm_uci l Z a0 hw [] i1 t1 kb N2 n1 vs G3 h0 n0 Z0 X00 V1 hN hi hn O4 rG3) hZ (W 90 rfl) (W 23 rfl) (by decide) (by decide)) (g := (mkF m 2 #[rv t1, iv i1] [.ref t1, .int i1])) rfl (by rw [hml]; rfl) (argsL := [.int i1, .ref t1]) (rest := []) (lenOf own_pd_16 rfl) rfl (by show 2 * 0 + _ ≤ _; exact Nat.le_of_eq rfl) (hb hby own_d17_2) (fun _ _ => ⟨rfl, e0, (by decide : 0 + 0 ≤ _), (by decide : 0 + 0 ≤ _)⟩)
  dsimp only [Pt.U, Pt.locs, Pt.cells, Pt.slots] at X12 l12 y12 z12 st12 hQ12
  subst l12 y12 z12
  obtain ⟨rfl, Nq12, e12⟩ := hQ12
  have N12 := Fr.app N0 Nq12
  obtain ⟨_, _, ⟨T13, L13, k13, n13⟩, -, X13, ⟨Lc13, hQ13, l13, y13, z13⟩, st13⟩ := Jvm.LawKit.callS X12 hx (y := (⟨"java/lang/StringUTF16", "getChar", "([BI)C"⟩ : MethodName)) hown (mvT hZ (W 82 rfl)) (mvT hZ (W 83 rfl)) (mvT hZ (W 23 rfl)) (mvT hZ (W 84 rfl)) (by decide) (backOf (W := 0) (rm_uget l Z a0 hw [] t1 i1 i2 i3 kb N2 c1 vs h0 n0 Z0 X00 V1 e2 e3 b2 b3 v2 v3 hc OA OH OL) hZ (W 84 rfl) (W 23 rfl) (by decide) (by decide)) (g := (mkF m 7 #[rv t1, iv i1] [.int i1, .ref t1])) rfl (by rw [hml]; rfl) (argsL := [.ref t1, .int i1]) (rest := []) (lenOf own_pd_10 rfl) rfl (by show 2 * 0 + _ ≤ _; exact Nat.le_of_eq rfl) (hb hby own_d17_7) (fun _ _ => ⟨rfl, e12, (by decide : 0 + 0 ≤ _), (by decide : 0 + 0 ≤ _)⟩)
  dsimp only [Pt.U, Pt.locs, Pt.cells, Pt.slots] at X13 l13 y13 z13 st13 hQ13
  subst l13 y13 z13
  obtain ⟨rfl, Nq13, e13⟩ := hQ13
  have N13 := Fr.app N12 Nq13
  obtain ⟨fs, hr, hrun, hended, hW, hsame⟩ := X13.leave (v := some (.int (nar .char c1))) (fun h => by rw [Bd.returns] at h; cases h)
  refine ⟨_, _, pre0 _ (?_), hrun, hended, _, _, rfl, ?_, ⟨_, rfl⟩, hW, hsame.mono (by decide) (by decide)⟩
  · show Steps p.tables e below (s₁.setTop (mkF m 0 #[rv t1, iv i1] [])) _
    refine XS.iloadN X0.here hx rfl (hb hby own_d17_0) rfl ?_
    show Steps _ _ _ (s₁.setTop (mkF m 1 _ [.int i1])) _
    refine XS.aloadN X0.here hx rfl (hb hby own_d17_1) rfl rfl ?_
    show Steps _ _ _ (s₁.setTop (mkF m 2 _ [.ref t1, .int i1])) _
    refine st12 _ ?_
    show Steps p.tables e below (T12.setTop (mkF m 5 #[rv t1, iv i1] [])) _
    refine XS.aloadN X12.here hx rfl (hb hby own_d17_5) rfl rfl ?_
    show Steps _ _ _ (T12.setTop (mkF m 6 _ [.ref t1])) _
    refine XS.iloadN X12.here hx rfl (hb hby own_d17_6) rfl ?_
    show Steps _ _ _ (T12.setTop (mkF m 7 _ [.int i1, .ref t1])) _
    refine st13 _ ?_
    show Steps p.tables e below (T13.setTop (mkF m 10 #[rv t1, iv i1] [.int c1])) _
    exact retN X13 hx (t := .char) Bd.returns (by simp) (hb hby own_d17_10) hr
  · show Q_uch Z t1 i1 i2 i3 kb N2 n1 c1 vs G3 h0 n0 _ T13.heap _
    rw [e13]
    exact ⟨by rw [own_narc c1 hc.1 hc.2], N13, rfl⟩
theorem own_d14_0 : decode jdk_52_method_4_code 0 = .ok (.getstatic 44, 3) := by decide +kernel
theorem own_d14_3 : decode jdk_52_method_4_code 3 = .ok (.ifCond .ne 25, 3) := by decide +kernel
theorem own_d14_28 : decode jdk_52_method_4_code 28 = .ok (.iload_n 1, 1) := by decide +kernel
theorem own_d14_29 : decode jdk_52_method_4_code 29 = .ok (.iconst 1, 1) := by decide +kernel
theorem own_d14_30 : decode jdk_52_method_4_code 30 = .ok (.ishl, 1) := by decide +kernel
theorem own_d14_31 : decode jdk_52_method_4_code 31 = .ok (.istore_n 1, 1) := by decide +kernel
theorem own_d14_32 : decode jdk_52_method_4_code 32 = .ok (.aload_n 0, 1) := by decide +kernel
theorem own_d14_33 : decode jdk_52_method_4_code 33 = .ok (.iload_n 1, 1) := by decide +kernel
theorem own_d14_34 : decode jdk_52_method_4_code 34 = .ok (.iinc 1 1, 3) := by decide +kernel
theorem own_d14_37 : decode jdk_52_method_4_code 37 = .ok (.iload_n 2, 1) := by decide +kernel
theorem own_d14_38 : decode jdk_52_method_4_code 38 = .ok (.getstatic 59, 3) := by decide +kernel
theorem own_d14_41 : decode jdk_52_method_4_code 41 = .ok (.ishr, 1) := by decide +kernel
theorem own_d14_42 : decode jdk_52_method_4_code 42 = .ok (.i2b, 1) := by decide +kernel
theorem own_d14_43 : decode jdk_52_method_4_code 43 = .ok (.bastore, 1) := by decide +kernel
theorem own_d14_44 : decode jdk_52_method_4_code 44 = .ok (.aload_n 0, 1) := by decide +kernel
theorem own_d14_45 : decode jdk_52_method_4_code 45 = .ok (.iload_n 1, 1) := by decide +kernel
theorem own_d14_46 : decode jdk_52_method_4_code 46 = .ok (.iload_n 2, 1) := by decide +kernel
theorem own_d14_47 : decode jdk_52_method_4_code 47 = .ok (.getstatic 63, 3) := by decide +kernel
theorem own_d14_50 : decode jdk_52_method_4_code 50 = .ok (.ishr, 1) := by decide +kernel
theorem own_d14_51 : decode jdk_52_method_4_code 51 = .ok (.i2b, 1) := by decide +kernel
theorem own_d14_52 : decode jdk_52_method_4_code 52 = .ok (.bastore, 1) := by decide +kernel
theorem own_d14_53 : decode jdk_52_method_4_code 53 = .ok (.return_, 1) := by decide +kernel
theorem own_ef_uput (m : MethodId) (x0 : Addr) (x1 : Int32) (x2 : Int32) : entryFrame m #[(.ref x0), (.int x1), (.int x2)] 3 = mkF m 0 #[rv x0, iv x1, iv x2] [] := by first | (simp [entryFrame, mkF, argsToLocals, Value.category]; done) | rfl
def Q_uput (Z : State) (t1 : Addr) (i1 i2 i3 : Int32) (kb : ClassId) (N2 c1 : Int32) (vs : List Value) (h0 : Heap) (n0 : Nat) (v : Option Value) (h : Heap) (L : List Loc) : Prop := v = none ∧ Fr n0 L ∧ Keep h0 h [t1] ∧ Arv Z h t1 kb .byte N2 ((vs.set i2.toNatClampNeg (.int (StrChars.lo8 c1))).set i3.toNatClampNeg (.int (StrChars.hi8 c1))) (.int 0)
set_option maxRecDepth 65536 in
set_option maxHeartbeats 40000000 in
theorem rm_uput (l : Launch) (Z : State) (a0 : Array Value) (hw : ∀ d ∈ tables_1, d.before a0 Z = true) (ws : List Jvm.Cond) (t1 : Addr) (i1 i2 i3 : Int32) (kb : ClassId) (N2 c1 : Int32) (vs : List Value) (h0 : Heap) (n0 : Nat) (Z0 : n0 ≤ h0.size) (X00 : Old Z n0 h0) (V1 : Arv Z h0 t1 kb .byte N2 vs (.int 0)) (g1 : n0 ≤ t1) (e2 : i1 <<< ((1 : Int32) &&& 31) = i2) (e3 : i2 + 1 = i3) (b2 : ¬ i2 < 0 ∧ i2 < N2) (b3 : ¬ i3 < 0 ∧ i3 < N2) (l2 : i2.toNatClampNeg < vs.length) (l3 : i3.toNatClampNeg < vs.length) (OA : Sta Z Z.heap "java/lang/StringUTF16" "$assertionsDisabled" "Z" (.int (1 : Int32))) (OH : Sta Z Z.heap "java/lang/StringUTF16" "HI_BYTE_SHIFT" "I" (.int (0 : Int32))) (OL : Sta Z Z.heap "java/lang/StringUTF16" "LO_BYTE_SHIFT" "I" (.int (8 : Int32))) :
    MetFree l (⟨"java/lang/StringUTF16", "putChar", "([BII)V"⟩ : MethodName) (head1 (Jvm.Cond.code (⟨"java/lang/StringUTF16", "putChar", "([BII)V"⟩ : MethodName) jdk_52_method_4_code 3 none :: ws) ({ frames := 0, cells := 0, slots := 0, locals := 0 } : Room)) (fun a U => a = #[(.ref t1), (.int i1), (.int c1)] ∧ Z.Warmed39 U.vm ∧ U.heap = h0) (fun _ _ _ _ _ => True) (fun _ U o U' => ∃ v L, o = .returned v ∧ Q_uput Z t1 i1 i2 i3 kb N2 c1 vs h0 n0 v U'.heap L ∧ FrameEnd U o U' L ({ frames := 0, cells := 0, slots := 0, locals := 0 } : Room).cells ({ frames := 0, cells := 0, slots := 0, locals := 0 } : Room).slots) := by
  refine MetFree.of_bodySF (plainFor_of_name own_pn_5) hisR ?_
  intro p e s m args below meth c s₁ Bd hml0 hP hK
  obtain ⟨rfl, hZ, hh⟩ := hP
  have hx := Bd.exec
  have hby := Bd.bytes
  have hml : c.maxLocals = 3 := hml0
  have hown : s.vm.findClass "java/lang/StringUTF16" = some m.cls := findClass_of_methodNamed Bd.named
  have hnm := (name_of_methodNamed Bd.named Bd.method).1
  have W := own_W hw
  have X0 : Stand p l e ({ frames := 0, cells := 0, slots := 0, locals := 0 } : Room) s m #[(.ref t1), (.int i1), (.int c1)] below meth c s₁ [] 0 0 := Stand.of_body Bd
  have e0 : s₁.heap = h0 := by rw [← hh, Bd.state]; rfl
  have N0 := Fr.nil n0
  have pre0 : ∀ tq, Steps p.tables e below (s₁.setTop (mkF m 0 #[rv t1, iv i1, iv c1] [])) tq → Steps p.tables e below (s₁.setTop (entryFrame m #[(.ref t1), (.int i1), (.int c1)] 3)) tq := fun tq k => castTop (own_ef_uput m t1 i1 c1) k
  have K14 : Keep h0 h0 [t1] := Keep.refl h0 [t1]
  obtain ⟨T15, X15, e15, st15⟩ := getS2 X0 hx hZ hown (host := "") (Or.inl (W 79 rfl)) Via.refl e0 (OA.ext X00.2) (g := (mkF m 0 #[rv t1, iv i1, iv c1] [])) rfl (hb hby own_d14_0)
  obtain ⟨T16, X16, e16, st16⟩ := getS2 X15 hx hZ hown (host := "") (Or.inl (W 80 rfl)) Via.refl e15 (OH.ext X00.2) (g := (mkF m 38 #[rv t1, iv i3, iv c1] [.int c1, .int i2, .ref t1])) rfl (hb hby own_d14_38)
  obtain ⟨cl17, Ar17, aq17, aS17, aN17, aH17, aG17⟩ := id V1
  obtain ⟨T18, h18, X18, e18, W18, st18⟩ := stB X16 hx hZ e16 Ar17 (j := i2) (inb_of aS17 b2) (g := (mkF m 43 #[rv t1, iv i3, iv c1] [.int ((c1 >>> ((0 : Int32) &&& 31)).toInt8.toInt32), .int i2, .ref t1])) rfl rfl (hb hby own_d14_43)
  have N18 := Fr.snoc X18 N0 g1
  have V18 := Arv.set Ar17 aq17 aS17 aN17 aH17 aG17 (fits_nar_byte _) W18 _ rfl l2
  rw [show Value.int ((((c1 >>> ((0 : Int32) &&& 31)).toInt8.toInt32)).toInt8.toInt32) = .int (StrChars.lo8 c1) from congrArg Value.int ((own_narb _).trans (congrArg StrChars.lo8 (StrChars.shr0 c1)))] at V18
  have Z19 : n0 ≤ h18.size := Nat.le_trans Z0 (Keep.of_wr W18).1
  have O20 : Old Z n0 h18 := X00.wr W18 g1
  have K21 : Keep h0 h18 [t1] := K14.wr W18 (Or.inl (List.mem_of_getElem? (i := 0) rfl))
  obtain ⟨T22, X22, e22, st22⟩ := getS2 X18 hx hZ hown (host := "") (Or.inl (W 81 rfl)) Via.refl e18 (OL.ext O20.2) (g := (mkF m 47 #[rv t1, iv i3, iv c1] [.int c1, .int i3, .ref t1])) rfl (hb hby own_d14_47)
  obtain ⟨cl23, Ar23, aq23, aS23, aN23, aH23, aG23⟩ := id V18
  obtain ⟨T24, h24, X24, e24, W24, st24⟩ := stB X22 hx hZ e22 Ar23 (j := i3) (inb_of aS23 b3) (g := (mkF m 52 #[rv t1, iv i3, iv c1] [.int ((c1 >>> ((8 : Int32) &&& 31)).toInt8.toInt32), .int i3, .ref t1])) rfl rfl (hb hby own_d14_52)
  have N24 := Fr.snoc X24 N18 g1
  have V24 := Arv.set Ar23 aq23 aS23 aN23 aH23 aG23 (fits_nar_byte _) W24 _ rfl (by rw [List.length_set]; exact l3)
  rw [show Value.int ((((c1 >>> ((8 : Int32) &&& 31)).toInt8.toInt32)).toInt8.toInt32) = .int (StrChars.hi8 c1) from congrArg Value.int (own_narb _)] at V24
  have Z25 : n0 ≤ h24.size := Nat.le_trans Z19 (Keep.of_wr W24).1
  have O26 : Old Z n0 h24 := O20.wr W24 g1
  have K27 : Keep h0 h24 [t1] := K21.wr W24 (Or.inl (List.mem_of_getElem? (i := 0) rfl))
  obtain ⟨fs, hr, hrun, hended, hW, hsame⟩ := X24.leave (v := none) (fun _ => rfl)
  refine ⟨_, _, pre0 _ (?_), hrun, hended, _, _, rfl, ?_, ⟨_, rfl⟩, hW, hsame.mono (by decide) (by decide)⟩
  · show Steps p.tables e below (s₁.setTop (mkF m 0 #[rv t1, iv i1, iv c1] [])) _
    refine st15 _ ?_
    show Steps p.tables e below (T15.setTop (mkF m 3 #[rv t1, iv i1, iv c1] [.int 1])) _
    refine XS.ifYes X15.here hx rfl (pc0 := 3) (pc' := 28) rfl (hb hby own_d14_3) rfl ((if0 _ _).trans (feq ((by decide) : ¬ ((1 : Int32) = (0 : Int32)))).2) (by decide) (by decide) ?_
    show Steps _ _ _ (T15.setTop (mkF m 28 _ [])) _
    refine XS.iloadN X15.here hx rfl (hb hby own_d14_28) rfl ?_
    show Steps _ _ _ (T15.setTop (mkF m 29 _ [.int i1])) _
    refine XS.iconst X15.here hx rfl (hb hby own_d14_29) ?_
    show Steps _ _ _ (T15.setTop (mkF m 30 _ [.int 1, .int i1])) _
    refine XS.ishl X15.here hx rfl (hb hby own_d14_30) rfl ?_
    rw [e2]
    show Steps p.tables e below (T15.setTop (mkF m 31 #[rv t1, iv i1, iv c1] [.int i2])) _
    refine XS.istoreN X15.here hx rfl (hb hby own_d14_31) rfl (l' := #[rv t1, iv i2, iv c1]) rfl ?_
    show Steps _ _ _ (T15.setTop (mkF m 32 _ [])) _
    refine XS.aloadN X15.here hx rfl (hb hby own_d14_32) rfl rfl ?_
    show Steps _ _ _ (T15.setTop (mkF m 33 _ [.ref t1])) _
    refine XS.iloadN X15.here hx rfl (hb hby own_d14_33) rfl ?_
    show Steps _ _ _ (T15.setTop (mkF m 34 _ [.int i2, .ref t1])) _
    refine XS.iinc X15.here hx rfl (hb hby own_d14_34) rfl (l' := #[rv t1, iv i3, iv c1]) (by rw [show i2 + Int32.ofInt 1 = i3 from e3]; rfl) ?_
    show Steps _ _ _ (T15.setTop (mkF m 37 _ [.int i2, .ref t1])) _
    refine XS.iloadN X15.here hx rfl (hb hby own_d14_37) rfl ?_
    show Steps _ _ _ (T15.setTop (mkF m 38 _ [.int c1, .int i2, .ref t1])) _
    refine st16 _ ?_
    show Steps p.tables e below (T16.setTop (mkF m 41 #[rv t1, iv i3, iv c1] [.int 0, .int c1, .int i2, .ref t1])) _
    refine XS.ishr X16.here hx rfl (hb hby own_d14_41) rfl ?_
    show Steps _ _ _ (T16.setTop (mkF m 42 _ [.int (c1 >>> ((0 : Int32) &&& 31)), .int i2, .ref t1])) _
    refine XS.i2b X16.here hx rfl (hb hby own_d14_42) rfl ?_
    show Steps _ _ _ (T16.setTop (mkF m 43 _ [.int ((c1 >>> ((0 : Int32) &&& 31)).toInt8.toInt32), .int i2, .ref t1])) _
    refine st18 _ ?_
    show Steps p.tables e below (T18.setTop (mkF m 44 #[rv t1, iv i3, iv c1] [])) _
    refine XS.aloadN X18.here hx rfl (hb hby own_d14_44) rfl rfl ?_
    show Steps _ _ _ (T18.setTop (mkF m 45 _ [.ref t1])) _
    refine XS.iloadN X18.here hx rfl (hb hby own_d14_45) rfl ?_
    show Steps _ _ _ (T18.setTop (mkF m 46 _ [.int i3, .ref t1])) _
    refine XS.iloadN X18.here hx rfl (hb hby own_d14_46) rfl ?_
    show Steps _ _ _ (T18.setTop (mkF m 47 _ [.int c1, .int i3, .ref t1])) _
    refine st22 _ ?_
    show Steps p.tables e below (T22.setTop (mkF m 50 #[rv t1, iv i3, iv c1] [.int 8, .int c1, .int i3, .ref t1])) _
    refine XS.ishr X22.here hx rfl (hb hby own_d14_50) rfl ?_
    show Steps _ _ _ (T22.setTop (mkF m 51 _ [.int (c1 >>> ((8 : Int32) &&& 31)), .int i3, .ref t1])) _
    refine XS.i2b X22.here hx rfl (hb hby own_d14_51) rfl ?_
    show Steps _ _ _ (T22.setTop (mkF m 52 _ [.int ((c1 >>> ((8 : Int32) &&& 31)).toInt8.toInt32), .int i3, .ref t1])) _
    refine st24 _ ?_
    show Steps p.tables e below (T24.setTop (mkF m 53 #[rv t1, iv i3, iv c1] [])) _
    exact X24.returnOut hx Bd.returns (hb hby own_d14_53) hr
  · show Q_uput Z t1 i1 i2 i3 kb N2 c1 vs h0 n0 _ T24.heap _
    rw [e24]
    exact ⟨rfl, N24, K27, V24⟩
theorem own_d13_0 : decode jdk_52_method_3_code 0 = .ok (.iload_n 0, 1) := by decide +kernel
theorem own_d13_1 : decode jdk_52_method_3_code 1 = .ok (.ifCond .ge 11, 3) := by decide +kernel
theorem own_d13_12 : decode jdk_52_method_3_code 12 = .ok (.iload_n 0, 1) := by decide +kernel
theorem own_d13_13 : decode jdk_52_method_3_code 13 = .ok (.ldc 20, 2) := by decide +kernel
theorem own_d13_15 : decode jdk_52_method_3_code 15 = .ok (.if_icmp .lt 40, 3) := by decide +kernel
theorem own_d13_55 : decode jdk_52_method_3_code 55 = .ok (.iload_n 0, 1) := by decide +kernel
theorem own_d13_56 : decode jdk_52_method_3_code 56 = .ok (.iconst 1, 1) := by decide +kernel
theorem own_d13_57 : decode jdk_52_method_3_code 57 = .ok (.ishl, 1) := by decide +kernel
theorem own_d13_58 : decode jdk_52_method_3_code 58 = .ok (.ireturn, 1) := by decide +kernel
theorem own_ef_unbl (m : MethodId) (x0 : Int32) : entryFrame m #[(.int x0)] 1 = mkF m 0 #[iv x0] [] := by first | (simp [entryFrame, mkF, argsToLocals, Value.category]; done) | rfl
def Q_unbl (Z : State) (n1 N2 : Int32) (h0 : Heap) (n0 : Nat) (v : Option Value) (h : Heap) (L : List Loc) : Prop := v = some (.int N2) ∧ Fr n0 L ∧ h = h0
set_option maxRecDepth 65536 in
set_option maxHeartbeats 40000000 in
theorem rm_unbl (l : Launch) (Z : State) (a0 : Array Value) (hw : ∀ d ∈ tables_1, d.before a0 Z = true) (ws : List Jvm.Cond) (n1 N2 : Int32) (h0 : Heap) (n0 : Nat) (Z0 : n0 ≤ h0.size) (hn : ¬ n1 < 0) (hbn : n1 < (1073741823 : Int32)) (hN : n1 <<< ((1 : Int32) &&& 31) = N2) :
    MetFree l (⟨"java/lang/StringUTF16", "newBytesLength", "(I)I"⟩ : MethodName) (head1 (Jvm.Cond.code (⟨"java/lang/StringUTF16", "newBytesLength", "(I)I"⟩ : MethodName) jdk_52_method_3_code 1 (some .int) :: ws) ({ frames := 0, cells := 0, slots := 0, locals := 0 } : Room)) (fun a U => a = #[(.int n1)] ∧ Z.Warmed39 U.vm ∧ U.heap = h0) (fun _ _ _ _ _ => True) (fun _ U o U' => ∃ v L, o = .returned v ∧ Q_unbl Z n1 N2 h0 n0 v U'.heap L ∧ FrameEnd U o U' L ({ frames := 0, cells := 0, slots := 0, locals := 0 } : Room).cells ({ frames := 0, cells := 0, slots := 0, locals := 0 } : Room).slots) := by
  refine MetFree.of_bodySF (plainFor_of_name own_pn_5) hisR ?_
  intro p e s m args below meth c s₁ Bd hml0 hP hK
  obtain ⟨rfl, hZ, hh⟩ := hP
  have hx := Bd.exec
  have hby := Bd.bytes
  have hml : c.maxLocals = 1 := hml0
  have hown : s.vm.findClass "java/lang/StringUTF16" = some m.cls := findClass_of_methodNamed Bd.named
  have hnm := (name_of_methodNamed Bd.named Bd.method).1
  have W := own_W hw
  have X0 : Stand p l e ({ frames := 0, cells := 0, slots := 0, locals := 0 } : Room) s m #[(.int n1)] below meth c s₁ [] 0 0 := Stand.of_body Bd
  have e0 : s₁.heap = h0 := by rw [← hh, Bd.state]; rfl
  have N0 := Fr.nil n0
  have pre0 : ∀ tq, Steps p.tables e below (s₁.setTop (mkF m 0 #[iv n1] [])) tq → Steps p.tables e below (s₁.setTop (entryFrame m #[(.int n1)] 1)) tq := fun tq k => castTop (own_ef_unbl m n1) k
  obtain ⟨fs, hr, hrun, hended, hW, hsame⟩ := X0.leave (v := some (.int N2)) (fun h => by rw [Bd.returns] at h; cases h)
  refine ⟨_, _, pre0 _ (?_), hrun, hended, _, _, rfl, ?_, ⟨_, rfl⟩, hW, hsame.mono (by decide) (by decide)⟩
  · show Steps p.tables e below (s₁.setTop (mkF m 0 #[iv n1] [])) _
    refine XS.iloadN X0.here hx rfl (hb hby own_d13_0) rfl ?_
    show Steps _ _ _ (s₁.setTop (mkF m 1 _ [.int n1])) _
    refine XS.ifYes X0.here hx rfl (pc0 := 1) (pc' := 12) rfl (hb hby own_d13_1) rfl ((if0 _ _).trans (flt (hn : ¬ (n1 < (0 : Int32)))).2.1) (by decide) (by decide) ?_
    show Steps _ _ _ (s₁.setTop (mkF m 12 _ [])) _
    refine XS.iloadN X0.here hx rfl (hb hby own_d13_12) rfl ?_
    show Steps _ _ _ (s₁.setTop (mkF m 13 _ [.int n1])) _
    refine Jvm.Stand.ldcI X0 hx hown (mvT hZ (W 75 rfl)) rfl (hb hby own_d13_13) ?_
    show Steps _ _ _ (s₁.setTop (mkF m 15 _ [.int 1073741823, .int n1])) _
    refine XS.icmpYes X0.here hx rfl (pc0 := 15) (pc' := 55) rfl (hb hby own_d13_15) rfl (tlt (hbn : n1 < (1073741823 : Int32))).1 (by decide) (by decide) ?_
    show Steps _ _ _ (s₁.setTop (mkF m 55 _ [])) _
    refine XS.iloadN X0.here hx rfl (hb hby own_d13_55) rfl ?_
    show Steps _ _ _ (s₁.setTop (mkF m 56 _ [.int n1])) _
    refine XS.iconst X0.here hx rfl (hb hby own_d13_56) ?_
    show Steps _ _ _ (s₁.setTop (mkF m 57 _ [.int 1, .int n1])) _
    refine XS.ishl X0.here hx rfl (hb hby own_d13_57) rfl ?_
    rw [hN]
    show Steps p.tables e below (s₁.setTop (mkF m 58 #[iv n1] [.int N2])) _
    exact retI X0 hx Bd.returns (hb hby own_d13_58) hr
  · show Q_unbl Z n1 N2 h0 n0 _ s₁.heap _
    rw [e0]
    exact ⟨rfl, N0, rfl⟩
theorem own_ofNat2 {n : Nat} (h : 2 * n < 2147483648) : Int32.ofNat n <<< ((1 : Int32) &&& 31) = Int32.ofNat (2 * n) := by
  rw [show ((1 : Int32) &&& 31) = 1 from rfl]
  apply Int32.toBitVec_inj.mp
  rw [Int32.toBitVec_shiftLeft]
  show (BitVec.ofNat 32 n) <<< (((1 : Int32).toBitVec).smod 32) = BitVec.ofNat 32 (2 * n)
  rw [show ((1 : Int32).toBitVec).smod 32 = 1#32 from by decide]
  apply BitVec.eq_of_toNat_eq
  simp [BitVec.toNat_shiftLeft, Nat.shiftLeft_eq, Nat.mul_comm]
theorem own_n32 {n : Nat} (hn : n < 2147483648) : (Int32.ofNat n).toNatClampNeg = n := by
  rw [Int32.toNatClampNeg, Int32.toInt_ofNat_of_lt (by omega)]; rfl
theorem own_nn {n : Nat} (hn : n < 2147483648) : ¬ Int32.ofNat n < 0 := by
  rw [Int32.lt_iff_toInt_lt, Int32.toInt_ofNat_of_lt (by omega), show (0 : Int32).toInt = 0 from rfl]; omega
theorem own_ltI {i n : Nat} (hi : i < 2147483648) (hn : n < 2147483648) : Int32.ofNat i < Int32.ofNat n ↔ i < n := by
  rw [Int32.lt_iff_toInt_lt, Int32.toInt_ofNat_of_lt (by omega), Int32.toInt_ofNat_of_lt (by omega)]; omega
theorem own_one (i : Nat) : Int32.ofNat i + (1 : Int32) = Int32.ofNat (i + 1) := (Int32.ofNat_add i 1).symm

def own_lows (cs : List Int32) : List Value := cs.map fun c => .int (StrChars.lo8 c)
theorem own_take1 (cs : List Int32) {i : Nat} (h : i < cs.length) : cs.take (i + 1) = cs.take i ++ [cs.getD i 0] := by
  rw [List.take_add_one, List.getElem?_eq_getElem h]
  simp [List.getD_eq_getElem?_getD, h]
theorem own_lows_len (cs : List Int32) {i : Nat} (h : i ≤ cs.length) : (own_lows (cs.take i)).length = i := by
  simp [own_lows]; omega
theorem own_lows_next (cs : List Int32) {i : Nat} (h : i < cs.length) : (own_lows (cs.take i) ++ List.replicate 1 (Value.int (0 : Int32))).set i (.int (StrChars.lo8 (cs.getD i 0))) = own_lows (cs.take (i + 1)) := by
  have hl := own_lows_len cs (Nat.le_of_lt h)
  rw [List.set_append, if_neg (by omega), hl, Nat.sub_self, own_take1 cs h]
  simp [own_lows]
theorem own_wide_len : ∀ cs : List Int32, (StrChars.Road.wideBytes cs).length = 2 * cs.length
  | [] => rfl
  | c :: cs => by simp only [StrChars.Road.wideBytes, List.length_cons, own_wide_len cs]; omega
theorem own_wide_app : ∀ (as bs : List Int32), StrChars.Road.wideBytes (as ++ bs) = StrChars.Road.wideBytes as ++ StrChars.Road.wideBytes bs
  | [], bs => rfl
  | a :: as, bs => by simp only [List.cons_append, StrChars.Road.wideBytes, own_wide_app as bs]
theorem own_wide_next (cs : List Int32) {i : Nat} (h : i < cs.length) : ((StrChars.Road.wideBytes (cs.take i) ++ List.replicate 2 (Value.int (0 : Int32))).set (2 * i) (.int (StrChars.lo8 (cs.getD i 0)))).set (2 * i + 1) (.int (StrChars.hi8 (cs.getD i 0))) = StrChars.Road.wideBytes (cs.take (i + 1)) := by
  have hl : (StrChars.Road.wideBytes (cs.take i)).length = 2 * i := by rw [own_wide_len, List.length_take]; omega
  rw [own_take1 cs h, own_wide_app, List.set_append, if_neg (by omega), List.set_append, if_neg (by omega), hl, Nat.sub_self, show 2 * i + 1 - 2 * i = 1 by omega]
  rfl
theorem own_getc (cs : List Int32) {i : Nat} (h : i < cs.length) : (cs.map Value.int).getD i (.int 0) = .int (cs.getD i 0) := by
  simp [List.getD_eq_getElem?_getD, h]
theorem own_gmem (cs : List Int32) {i : Nat} (h : i < cs.length) : cs.getD i 0 ∈ cs := by
  have e : cs.getD i 0 = cs[i] := by simp [List.getD_eq_getElem?_getD, h]
  rw [e]; exact List.getElem_mem h
theorem own_four {n : Nat} (h0 : 0 < n) (h : n ≤ 4) : n = 1 ∨ n = 2 ∨ n = 3 ∨ n = 4 := by omega
theorem own_cfl {n : Nat} (h0 : 0 < n) (h : n ≤ 4) : nar .byte ((own_ushr (Int32.ofNat n - Int32.ofNat n) (31 : Int32)).toInt8.toInt32) = 0 := by rcases own_four h0 h with rfl | rfl | rfl | rfl <;> decide
theorem own_cfw {n : Nat} (h0 : 0 < n) (h : n ≤ 4) : nar .byte ((own_ushr (Int32.ofNat n - Int32.ofNat (2 * n)) (31 : Int32)).toInt8.toInt32) = 1 := by rcases own_four h0 h with rfl | rfl | rfl | rfl <;> decide
theorem own_nz {n : Nat} (h0 : 0 < n) (h : n ≤ 4) : ¬ (Int32.ofNat n = (0 : Int32)) := by rcases own_four h0 h with rfl | rfl | rfl | rfl <;> decide
theorem own_ofNat_inj {a b : Nat} (ha : a < 2147483648) (hb : b < 2147483648) (h : Int32.ofNat a = Int32.ofNat b) : a = b := by
  have := congrArg Int32.toInt h
  rw [Int32.toInt_ofNat_of_lt (by omega), Int32.toInt_ofNat_of_lt (by omega)] at this; omega
theorem own_st6 {z0 z1 z2 z3 z4 z5 : Value} {s6 : Slot} {v : Int32} (h : One s6) : storeLocals #[.val z0, .val z1, .val z2, .val z3, .val z4, .val z5, s6] 6 (.int v) = some #[.val z0, .val z1, .val z2, .val z3, .val z4, .val z5, .val (.int v)] := by
  rcases h with rfl | ⟨w, rfl, hw⟩
  · rfl
  · cases w <;> first | rfl | (simp [Value.category] at hw)

theorem own_d12_0 : decode jdk_52_method_2_code 0 = .ok (.iload_n 0, 1) := by decide +kernel
theorem own_d12_1 : decode jdk_52_method_2_code 1 = .ok (.invokestatic 11, 3) := by decide +kernel
theorem own_pd_14 : parseMethodDescriptor "(I)I" = some ⟨[.int], some .int⟩ := by decide +kernel
theorem own_d12_4 : decode jdk_52_method_2_code 4 = .ok (.newarray .byte, 2) := by decide +kernel
theorem own_d12_6 : decode jdk_52_method_2_code 6 = .ok (.areturn, 1) := by decide +kernel
theorem own_ef_unbf (m : MethodId) (x0 : Int32) : entryFrame m #[(.int x0)] 1 = mkF m 0 #[iv x0] [] := by first | (simp [entryFrame, mkF, argsToLocals, Value.category]; done) | rfl
def Q_unbf (Z : State) (cs : List Int32) (h0 : Heap) (n0 : Nat) (v : Option Value) (h : Heap) (L : List Loc) : Prop := ∃ b kb, v = some (.ref b) ∧ Fr n0 L ∧ Keep h0 h [] ∧ h0.size ≤ b ∧ Arv Z h b kb .byte (Int32.ofNat (2 * cs.length)) [] (.int 0)
set_option maxRecDepth 65536 in
set_option maxHeartbeats 40000000 in
theorem rm_unbf (l : Launch) (Z : State) (a0 : Array Value) (hw : ∀ d ∈ tables_1, d.before a0 Z = true) (ws : List Jvm.Cond) (cs : List Int32) (h0 : Heap) (n0 : Nat) (Z0 : n0 ≤ h0.size) (hn0 : 0 < cs.length) (hn4 : cs.length ≤ 4)  :
    MetFree l (⟨"java/lang/StringUTF16", "newBytesFor", "(I)[B"⟩ : MethodName) (head1 (Jvm.Cond.code (⟨"java/lang/StringUTF16", "newBytesFor", "(I)[B"⟩ : MethodName) jdk_52_method_2_code 1 (some (.array .byte)) :: ws) ({ frames := 1, cells := 1, slots := 8, locals := 12 } : Room)) (fun a U => a = #[(.int (Int32.ofNat cs.length))] ∧ Z.Warmed39 U.vm ∧ U.heap = h0) (fun _ _ _ _ _ => True) (fun _ U o U' => ∃ v L, o = .returned v ∧ Q_unbf Z cs h0 n0 v U'.heap L ∧ FrameEnd U o U' L ({ frames := 1, cells := 1, slots := 8, locals := 12 } : Room).cells ({ frames := 1, cells := 1, slots := 8, locals := 12 } : Room).slots) := by
  refine MetFree.of_bodySF (plainFor_of_name own_pn_5) hisR ?_
  intro p e s m args below meth c s₁ Bd hml0 hP hK
  obtain ⟨rfl, hZ, hh⟩ := hP
  have hx := Bd.exec
  have hby := Bd.bytes
  have hml : c.maxLocals = 1 := hml0
  have hown : s.vm.findClass "java/lang/StringUTF16" = some m.cls := findClass_of_methodNamed Bd.named
  have hnm := (name_of_methodNamed Bd.named Bd.method).1
  have W := own_W hw
  have X0 : Stand p l e ({ frames := 1, cells := 1, slots := 8, locals := 12 } : Room) s m #[(.int (Int32.ofNat cs.length))] below meth c s₁ [] 0 0 := Stand.of_body Bd
  have e0 : s₁.heap = h0 := by rw [← hh, Bd.state]; rfl
  have N0 := Fr.nil n0
  have pre0 : ∀ tq, Steps p.tables e below (s₁.setTop (mkF m 0 #[iv (Int32.ofNat cs.length)] [])) tq → Steps p.tables e below (s₁.setTop (entryFrame m #[(.int (Int32.ofNat cs.length))] 1)) tq := fun tq k => castTop (own_ef_unbf m (Int32.ofNat cs.length)) k
  have K28 : Keep h0 h0 [] := Keep.refl h0 []
  obtain ⟨_, _, ⟨T29, L29, k29, n29⟩, -, X29, ⟨Lc29, hQ29, l29, y29, z29⟩, st29⟩ := Jvm.LawKit.callS X0 hx (y := (⟨"java/lang/StringUTF16", "newBytesLength", "(I)I"⟩ : MethodName)) hown (mvT hZ (W 72 rfl)) (mvT hZ (W 73 rfl)) (mvT hZ (W 23 rfl)) (mvT hZ (W 74 rfl)) (by decide) (backOf (W := 0) (rm_unbl l Z a0 hw [] (Int32.ofNat cs.length) (Int32.ofNat (2 * cs.length)) h0 n0 Z0 (own_nn (by omega)) ((own_ltI (n := 1073741823) (by omega) (by omega)).mpr (by omega)) (own_ofNat2 (by omega))) hZ (W 74 rfl) (W 23 rfl) (by decide) (by decide)) (g := (mkF m 1 #[iv (Int32.ofNat cs.length)] [.int (Int32.ofNat cs.length)])) rfl (by rw [hml]; rfl) (argsL := [.int (Int32.ofNat cs.length)]) (rest := []) (lenOf own_pd_14 rfl) rfl (by show 2 * 0 + _ ≤ _; exact Nat.le_of_eq rfl) (hb hby own_d12_1) (fun _ _ => ⟨rfl, e0, (by decide : 0 + 0 ≤ _), (by decide : 0 + 0 ≤ _)⟩)
  dsimp only [Pt.U, Pt.locs, Pt.cells, Pt.slots] at X29 l29 y29 z29 st29 hQ29
  subst l29 y29 z29
  obtain ⟨rfl, Nq29, e29⟩ := hQ29
  have N29 := Fr.app N0 Nq29
  obtain ⟨T30, h30, k30, X30, e30, E30, A30, st30⟩ := newP X29 hx hZ (W 25 rfl) e29 (g := (mkF m 4 #[iv (Int32.ofNat cs.length)] [.int (Int32.ofNat (2 * cs.length))])) rfl (hb hby own_d12_4) rfl (own_nn (by omega)) (cap := 8) (by rw [own_n32 (by omega)]; omega) (by decide) (by decide) (by decide)
  obtain ⟨b30, g30⟩ : ∃ z, z = h0.size := ⟨_, rfl⟩
  rw [← g30] at A30 st30
  have g31 : n0 ≤ b30 := Nat.le_trans Z0 (Nat.le_of_eq g30.symm)
  have g32 : h0.size ≤ b30 := Nat.le_trans K28.1 (Nat.le_of_eq g30.symm)
  have Z33 : n0 ≤ h30.size := Nat.le_trans Z0 E30.1
  have K34 : Keep h0 h30 [] := K28.ext E30
  have V30 : Arv Z h30 b30 k30 .byte (Int32.ofNat (2 * cs.length)) [] (.int (0 : Int32)) := Arv.new A30 (own_nn (by omega))
  obtain ⟨fs, hr, hrun, hended, hW, hsame⟩ := X30.leave (v := some (.ref b30)) (fun h => by rw [Bd.returns] at h; cases h)
  refine ⟨_, _, pre0 _ (?_), hrun, hended, _, _, rfl, ?_, ⟨_, rfl⟩, hW, hsame.mono (by decide) (by decide)⟩
  · show Steps p.tables e below (s₁.setTop (mkF m 0 #[iv (Int32.ofNat cs.length)] [])) _
    refine XS.iloadN X0.here hx rfl (hb hby own_d12_0) rfl ?_
    show Steps _ _ _ (s₁.setTop (mkF m 1 _ [.int (Int32.ofNat cs.length)])) _
    refine st29 _ ?_
    show Steps p.tables e below (T29.setTop (mkF m 4 #[iv (Int32.ofNat cs.length)] [.int (Int32.ofNat (2 * cs.length))])) _
    refine st30 _ ?_
    show Steps p.tables e below (T30.setTop (mkF m 6 #[iv (Int32.ofNat cs.length)] [.ref b30])) _
    exact retOut X30 hx Bd.returns rfl (Or.inr (Or.inr (Or.inr (Or.inr ⟨rfl, rfl, rfl⟩)))) (hb hby own_d12_6) hr
  · show Q_unbf Z cs h0 n0 _ T30.heap _
    rw [e30]
    exact ⟨b30, k30, rfl, N29, K34, g32, V30⟩
theorem own_d8_0 : decode jdk_52_method_14_code 0 = .ok (.iload_n 2, 1) := by decide +kernel
theorem own_d8_1 : decode jdk_52_method_14_code 1 = .ok (.invokestatic 107, 3) := by decide +kernel
theorem own_pd_13 : parseMethodDescriptor "(I)[B" = some ⟨[.int], some (.array .byte)⟩ := by decide +kernel
theorem own_d8_4 : decode jdk_52_method_14_code 4 = .ok (.astore_n 3, 1) := by decide +kernel
theorem own_d8_5 : decode jdk_52_method_14_code 5 = .ok (.iconst 0, 1) := by decide +kernel
theorem own_d8_6 : decode jdk_52_method_14_code 6 = .ok (.istore 4, 2) := by decide +kernel
theorem own_d8_8 : decode jdk_52_method_14_code 8 = .ok (.iload 4, 2) := by decide +kernel
theorem own_d8_10 : decode jdk_52_method_14_code 10 = .ok (.iload_n 2, 1) := by decide +kernel
theorem own_d8_11 : decode jdk_52_method_14_code 11 = .ok (.if_icmp .ge 21, 3) := by decide +kernel
theorem own_d8_14 : decode jdk_52_method_14_code 14 = .ok (.aload_n 3, 1) := by decide +kernel
theorem own_d8_15 : decode jdk_52_method_14_code 15 = .ok (.iload 4, 2) := by decide +kernel
theorem own_d8_17 : decode jdk_52_method_14_code 17 = .ok (.aload_n 0, 1) := by decide +kernel
theorem own_d8_18 : decode jdk_52_method_14_code 18 = .ok (.iload_n 1, 1) := by decide +kernel
theorem own_d8_19 : decode jdk_52_method_14_code 19 = .ok (.caload, 1) := by decide +kernel
theorem own_d8_20 : decode jdk_52_method_14_code 20 = .ok (.invokestatic 111, 3) := by decide +kernel
theorem own_pd_15 : parseMethodDescriptor "([BII)V" = some ⟨[(.array .byte), .int, .int], none⟩ := by decide +kernel
theorem own_d8_23 : decode jdk_52_method_14_code 23 = .ok (.iinc 1 1, 3) := by decide +kernel
theorem own_d8_26 : decode jdk_52_method_14_code 26 = .ok (.iinc 4 1, 3) := by decide +kernel
theorem own_d8_29 : decode jdk_52_method_14_code 29 = .ok (.goto (-21), 3) := by decide +kernel
theorem own_d8_32 : decode jdk_52_method_14_code 32 = .ok (.aload_n 3, 1) := by decide +kernel
theorem own_d8_33 : decode jdk_52_method_14_code 33 = .ok (.areturn, 1) := by decide +kernel
theorem own_ef_utb (m : MethodId) (x0 : Addr) (x1 : Int32) (x2 : Int32) : entryFrame m #[(.ref x0), (.int x1), (.int x2)] 5 = mkF m 0 #[rv x0, iv x1, iv x2, .unset, .unset] [] := by first | (simp [entryFrame, mkF, argsToLocals, Value.category]; done) | rfl
def Q_utb (Z : State) (b1 : Addr) (kc : ClassId) (cs : List Int32) (h0 : Heap) (n0 : Nat) (v : Option Value) (h : Heap) (L : List Loc) : Prop := ∃ b kb, v = some (.ref b) ∧ Fr n0 L ∧ Keep h0 h [] ∧ h0.size ≤ b ∧ Arv Z h b kb .byte (Int32.ofNat (2 * cs.length)) (StrChars.Road.wideBytes cs) (.int 0)
set_option maxRecDepth 65536 in
set_option maxHeartbeats 40000000 in
theorem rm_utb (l : Launch) (Z : State) (a0 : Array Value) (hw : ∀ d ∈ tables_1, d.before a0 Z = true) (ws : List Jvm.Cond) (b1 : Addr) (kc : ClassId) (cs : List Int32) (h0 : Heap) (n0 : Nat) (Z0 : n0 ≤ h0.size) (X00 : Old Z n0 h0) (V1 : Arv Z h0 b1 kc .char (Int32.ofNat cs.length) (cs.map Value.int) (.int 0)) (hn0 : 0 < cs.length) (hn4 : cs.length ≤ 4) (OA : Sta Z Z.heap "java/lang/StringUTF16" "$assertionsDisabled" "Z" (.int (1 : Int32))) (OH : Sta Z Z.heap "java/lang/StringUTF16" "HI_BYTE_SHIFT" "I" (.int (0 : Int32))) (OL : Sta Z Z.heap "java/lang/StringUTF16" "LO_BYTE_SHIFT" "I" (.int (8 : Int32))) :
    MetFree l (⟨"java/lang/StringUTF16", "toBytes", "([CII)[B"⟩ : MethodName) (head1 (Jvm.Cond.code (⟨"java/lang/StringUTF16", "toBytes", "([CII)[B"⟩ : MethodName) jdk_52_method_14_code 5 (some (.array .byte)) :: ws) ({ frames := 2, cells := 1, slots := 8, locals := 24 } : Room)) (fun a U => a = #[(.ref b1), (.int (0 : Int32)), (.int (Int32.ofNat cs.length))] ∧ Z.Warmed39 U.vm ∧ U.heap = h0) (fun _ _ _ _ _ => True) (fun _ U o U' => ∃ v L, o = .returned v ∧ Q_utb Z b1 kc cs h0 n0 v U'.heap L ∧ FrameEnd U o U' L ({ frames := 2, cells := 1, slots := 8, locals := 24 } : Room).cells ({ frames := 2, cells := 1, slots := 8, locals := 24 } : Room).slots) := by
  refine MetFree.of_bodySF (plainFor_of_name own_pn_5) hisR ?_
  intro p e s m args below meth c s₁ Bd hml0 hP hK
  obtain ⟨rfl, hZ, hh⟩ := hP
  have hx := Bd.exec
  have hby := Bd.bytes
  have hml : c.maxLocals = 5 := hml0
  have hown : s.vm.findClass "java/lang/StringUTF16" = some m.cls := findClass_of_methodNamed Bd.named
  have hnm := (name_of_methodNamed Bd.named Bd.method).1
  have W := own_W hw
  have X0 : Stand p l e ({ frames := 2, cells := 1, slots := 8, locals := 24 } : Room) s m #[(.ref b1), (.int (0 : Int32)), (.int (Int32.ofNat cs.length))] below meth c s₁ [] 0 0 := Stand.of_body Bd
  have e0 : s₁.heap = h0 := by rw [← hh, Bd.state]; rfl
  have N0 := Fr.nil n0
  have pre0 : ∀ tq, Steps p.tables e below (s₁.setTop (mkF m 0 #[rv b1, iv 0, iv (Int32.ofNat cs.length), .unset, .unset] [])) tq → Steps p.tables e below (s₁.setTop (entryFrame m #[(.ref b1), (.int (0 : Int32)), (.int (Int32.ofNat cs.length))] 5)) tq := fun tq k => castTop (own_ef_utb m b1 (0 : Int32) (Int32.ofNat cs.length)) k
  have K35 : Keep h0 h0 [] := Keep.refl h0 []
  obtain ⟨_, _, ⟨T36, L36, k36, n36⟩, -, X36, ⟨Lc36, hQ36, l36, y36, z36⟩, st36⟩ := Jvm.LawKit.callS X0 hx (y := (⟨"java/lang/StringUTF16", "newBytesFor", "(I)[B"⟩ : MethodName)) hown (mvT hZ (W 69 rfl)) (mvT hZ (W 70 rfl)) (mvT hZ (W 23 rfl)) (mvT hZ (W 71 rfl)) (by decide) (backOf (W := 0) (rm_unbf l Z a0 hw [] cs h0 n0 Z0 hn0 hn4) hZ (W 71 rfl) (W 23 rfl) (by decide) (by decide)) (g := (mkF m 1 #[rv b1, iv 0, iv (Int32.ofNat cs.length), .unset, .unset] [.int (Int32.ofNat cs.length)])) rfl (by rw [hml]; rfl) (argsL := [.int (Int32.ofNat cs.length)]) (rest := []) (lenOf own_pd_13 rfl) rfl (by show 2 * 0 + _ ≤ _; exact Nat.le_of_eq rfl) (hb hby own_d8_1) (fun _ _ => ⟨rfl, e0, (by decide : 0 + 1 ≤ _), (by decide : 0 + 8 ≤ _)⟩)
  dsimp only [Pt.U, Pt.locs, Pt.cells, Pt.slots] at X36 l36 y36 z36 st36 hQ36
  subst l36 y36 z36
  obtain ⟨b36, kb36, hv36, Nq36, K36, sb36, V36⟩ := hQ36
  subst hv36
  have N36 := Fr.app N0 Nq36
  have g37 : n0 ≤ b36 := Nat.le_trans Z0 sb36
  have g38 : h0.size ≤ b36 := Nat.le_trans K35.1 sb36
  have Z39 : n0 ≤ T36.heap.size := Nat.le_trans Z0 K36.1
  have O40 : Old Z n0 T36.heap := X00.keep K36 all0
  have K41 : Keep h0 T36.heap [] := K35.trans K36 all0
  have G42 : ∀ tq, Steps p.tables e below (T36.setTop (mkF m 8 #[rv b1, iv 0, iv (Int32.ofNat cs.length), rv b36, iv 0] [])) tq → Steps p.tables e below (s₁.setTop (mkF m 0 #[rv b1, iv 0, iv (Int32.ofNat cs.length), .unset, .unset] [])) tq := by
    intro tq kk
    show Steps p.tables e below (s₁.setTop (mkF m 0 #[rv b1, iv 0, iv (Int32.ofNat cs.length), .unset, .unset] [])) _
    refine XS.iloadN X0.here hx rfl (hb hby own_d8_0) rfl ?_
    show Steps _ _ _ (s₁.setTop (mkF m 1 _ [.int (Int32.ofNat cs.length)])) _
    refine st36 _ ?_
    show Steps p.tables e below (T36.setTop (mkF m 4 #[rv b1, iv 0, iv (Int32.ofNat cs.length), .unset, .unset] [.ref b36])) _
    refine XS.astoreN X36.here hx rfl (hb hby own_d8_4) rfl rfl (l' := #[rv b1, iv 0, iv (Int32.ofNat cs.length), rv b36, .unset]) rfl ?_
    show Steps _ _ _ (T36.setTop (mkF m 5 _ [])) _
    refine XS.iconst X36.here hx rfl (hb hby own_d8_5) ?_
    show Steps _ _ _ (T36.setTop (mkF m 6 _ [.int 0])) _
    refine XS.istore X36.here hx rfl (hb hby own_d8_6) rfl (l' := #[rv b1, iv 0, iv (Int32.ofNat cs.length), rv b36, iv 0]) rfl ?_
    exact kk
  have f43 := (V1.keep K36 nin0)
  have hne : b1 ≠ b36 := (Nat.ne_of_lt (Nat.lt_of_lt_of_le V1.lt sb36))
  have loop : ∀ (k i : Nat) (T : State) (locs : List Loc) (h : Heap), i + k = cs.length → Stand p l e ({ frames := 2, cells := 1, slots := 8, locals := 24 } : Room) s m #[(.ref b1), (.int (0 : Int32)), (.int (Int32.ofNat cs.length))] below meth c T locs 1 8 → T.heap = h → Fr n0 locs → n0 ≤ h.size → Old Z n0 h → Keep T36.heap h [b36] → Arv Z h b36 kb36 .byte (Int32.ofNat (2 * cs.length)) (StrChars.Road.wideBytes (cs.take i)) (.int 0) →
      ∃ (T' : State) (locs' : List Loc) (h' : Heap), Stand p l e ({ frames := 2, cells := 1, slots := 8, locals := 24 } : Room) s m #[(.ref b1), (.int (0 : Int32)), (.int (Int32.ofNat cs.length))] below meth c T' locs' 1 8 ∧ T'.heap = h' ∧ Fr n0 locs' ∧ Keep T36.heap h' [b36] ∧ Arv Z h' b36 kb36 .byte (Int32.ofNat (2 * cs.length)) (StrChars.Road.wideBytes cs) (.int 0) ∧ (∀ tgt, Steps p.tables e below (T'.setTop (mkF m 32 #[rv b1, iv (Int32.ofNat cs.length), iv (Int32.ofNat cs.length), rv b36, iv (Int32.ofNat cs.length)] [])) tgt → Steps p.tables e below (T.setTop (mkF m 8 #[rv b1, iv (Int32.ofNat i), iv (Int32.ofNat cs.length), rv b36, iv (Int32.ofNat i)] [])) tgt) := by
    intro k
    induction k with
    | zero =>
      intro i T locs h hi XT eT NT ZT OT KT VT
      have hii : i = cs.length := by omega
      subst hii
      rw [List.take_length] at VT
      have G44 : ∀ tq, Steps p.tables e below (T.setTop (mkF m 32 #[rv b1, iv (Int32.ofNat cs.length), iv (Int32.ofNat cs.length), rv b36, iv (Int32.ofNat cs.length)] [])) tq → Steps p.tables e below (T.setTop (mkF m 8 #[rv b1, iv (Int32.ofNat cs.length), iv (Int32.ofNat cs.length), rv b36, iv (Int32.ofNat cs.length)] [])) tq := by
        intro tq kk
        show Steps p.tables e below (T.setTop (mkF m 8 #[rv b1, iv (Int32.ofNat cs.length), iv (Int32.ofNat cs.length), rv b36, iv (Int32.ofNat cs.length)] [])) _
        refine XS.iload XT.here hx rfl (hb hby own_d8_8) rfl ?_
        show Steps _ _ _ (T.setTop (mkF m 10 _ [.int (Int32.ofNat cs.length)])) _
        refine XS.iloadN XT.here hx rfl (hb hby own_d8_10) rfl ?_
        show Steps _ _ _ (T.setTop (mkF m 11 _ [.int (Int32.ofNat cs.length), .int (Int32.ofNat cs.length)])) _
        refine XS.icmpYes XT.here hx rfl (pc0 := 11) (pc' := 32) rfl (hb hby own_d8_11) rfl (flt (Int32.lt_irrefl : ¬ ((Int32.ofNat cs.length) < (Int32.ofNat cs.length)))).2.1 (by decide) (by decide) ?_
        exact kk
      exact ⟨T, locs, h, XT, eT, NT, KT, VT, fun tgt kk => G44 _ kk⟩
    | succ k ih =>
      intro i T locs h hi XT eT NT ZT OT KT VT
      have hil : i < cs.length := by omega
      have hit : Int32.ofNat i < (Int32.ofNat cs.length) := (own_ltI (by omega) (by omega)).mpr hil
      have VC := f43.keep KT (ninS hne nin0)
      obtain ⟨cl45, Ar45, aq45, aS45, aN45, aH45, aG45⟩ := id VC
      have hin := inb_of aS45 ⟨own_nn (n := i) (by omega), hit⟩
      have hat := Has.at aH45 hin (show (cs.map Value.int).getD (Int32.ofNat i).toNatClampNeg (.int 0) = .int (cs.getD i 0) by rw [own_n32 (by omega)]; exact own_getc cs hil)
      have VP := VT.pad (pad_rep _ (.int (0 : Int32)) 2)
      obtain ⟨_, _, ⟨T46, L46, k46, n46⟩, -, X46, ⟨Lc46, hQ46, l46, y46, z46⟩, st46⟩ := Jvm.LawKit.callS XT hx (y := (⟨"java/lang/StringUTF16", "putChar", "([BII)V"⟩ : MethodName)) hown (mvT hZ (W 76 rfl)) (mvT hZ (W 77 rfl)) (mvT hZ (W 23 rfl)) (mvT hZ (W 78 rfl)) (by decide) (backOf (W := 0) (rm_uput l Z a0 hw [] b36 (Int32.ofNat i) (Int32.ofNat (2 * i)) (Int32.ofNat (2 * i + 1)) kb36 (Int32.ofNat (2 * cs.length)) (cs.getD i 0) _ h n0 ZT OT VP g37 (own_ofNat2 (by omega)) (own_one _) ⟨own_nn (by omega), (own_ltI (by omega) (by omega)).mpr (by omega)⟩ ⟨own_nn (by omega), (own_ltI (by omega) (by omega)).mpr (by omega)⟩ (by rw [own_n32 (by omega), List.length_append, own_wide_len, List.length_take, List.length_replicate]; omega) (by rw [own_n32 (by omega), List.length_append, own_wide_len, List.length_take, List.length_replicate]; omega) OA OH OL) hZ (W 78 rfl) (W 23 rfl) (by decide) (by decide)) (g := (mkF m 20 #[rv b1, iv (Int32.ofNat i), iv (Int32.ofNat cs.length), rv b36, iv (Int32.ofNat i)] [.int (cs.getD i 0), .int (Int32.ofNat i), .ref b36])) rfl (by rw [hml]; rfl) (argsL := [.ref b36, .int (Int32.ofNat i), .int (cs.getD i 0)]) (rest := []) (lenOf own_pd_15 rfl) rfl (by show 2 * 0 + _ ≤ _; exact Nat.le_of_eq rfl) (hb hby own_d8_20) (fun _ _ => ⟨rfl, eT, (by decide : 1 + 0 ≤ _), (by decide : 8 + 0 ≤ _)⟩)
      dsimp only [Pt.U, Pt.locs, Pt.cells, Pt.slots] at X46 l46 y46 z46 st46 hQ46
      subst l46 y46 z46
      obtain ⟨rfl, Nq46, K46, Vx46⟩ := hQ46
      have N46 := Fr.app NT Nq46
      rw [own_n32 (by omega), own_n32 (by omega), own_wide_next cs hil] at Vx46
      have Z47 : n0 ≤ T46.heap.size := Nat.le_trans ZT K46.1
      have O48 : Old Z n0 T46.heap := OT.keep K46 (allS g37 all0)
      have G49 : ∀ tq, Steps p.tables e below (T46.setTop (mkF m 8 #[rv b1, iv (Int32.ofNat (i + 1)), iv (Int32.ofNat cs.length), rv b36, iv (Int32.ofNat (i + 1))] [])) tq → Steps p.tables e below (T.setTop (mkF m 8 #[rv b1, iv (Int32.ofNat i), iv (Int32.ofNat cs.length), rv b36, iv (Int32.ofNat i)] [])) tq := by
        intro tq kk
        show Steps p.tables e below (T.setTop (mkF m 8 #[rv b1, iv (Int32.ofNat i), iv (Int32.ofNat cs.length), rv b36, iv (Int32.ofNat i)] [])) _
        refine XS.iload XT.here hx rfl (hb hby own_d8_8) rfl ?_
        show Steps _ _ _ (T.setTop (mkF m 10 _ [.int (Int32.ofNat i)])) _
        refine XS.iloadN XT.here hx rfl (hb hby own_d8_10) rfl ?_
        show Steps _ _ _ (T.setTop (mkF m 11 _ [.int (Int32.ofNat cs.length), .int (Int32.ofNat i)])) _
        refine XS.icmpNo XT.here hx rfl (hb hby own_d8_11) rfl (tlt (hit : (Int32.ofNat i) < (Int32.ofNat cs.length))).2.1 ?_
        show Steps _ _ _ (T.setTop (mkF m 14 _ [])) _
        refine XS.aloadN XT.here hx rfl (hb hby own_d8_14) rfl rfl ?_
        show Steps _ _ _ (T.setTop (mkF m 15 _ [.ref b36])) _
        refine XS.iload XT.here hx rfl (hb hby own_d8_15) rfl ?_
        show Steps _ _ _ (T.setTop (mkF m 17 _ [.int (Int32.ofNat i), .ref b36])) _
        refine XS.aloadN XT.here hx rfl (hb hby own_d8_17) rfl rfl ?_
        show Steps _ _ _ (T.setTop (mkF m 18 _ [.ref b1, .int (Int32.ofNat i), .ref b36])) _
        refine XS.iloadN XT.here hx rfl (hb hby own_d8_18) rfl ?_
        show Steps _ _ _ (T.setTop (mkF m 19 _ [.int (Int32.ofNat i), .ref b1, .int (Int32.ofNat i), .ref b36])) _
        refine XT.caload hx (j := (Int32.ofNat i)) (v := (.int (cs.getD i 0))) (by rw [eT]; exact Ar45.1) (State.isArrayOf_alike hZ.alike Ar45.2.1) Ar45.2.2 hin hat (g := (mkF m 19 #[rv b1, iv (Int32.ofNat i), iv (Int32.ofNat cs.length), rv b36, iv (Int32.ofNat i)] [.int (Int32.ofNat i), .ref b1, .int (Int32.ofNat i), .ref b36])) rfl rfl (hb hby own_d8_19) _ ?_
        show Steps p.tables e below (T.setTop (mkF m 20 #[rv b1, iv (Int32.ofNat i), iv (Int32.ofNat cs.length), rv b36, iv (Int32.ofNat i)] [.int (cs.getD i 0), .int (Int32.ofNat i), .ref b36])) _
        refine st46 _ ?_
        show Steps p.tables e below (T46.setTop (mkF m 23 #[rv b1, iv (Int32.ofNat i), iv (Int32.ofNat cs.length), rv b36, iv (Int32.ofNat i)] [])) _
        refine XS.iinc X46.here hx rfl (hb hby own_d8_23) rfl (l' := #[rv b1, iv (Int32.ofNat (i + 1)), iv (Int32.ofNat cs.length), rv b36, iv (Int32.ofNat i)]) (by rw [show Int32.ofNat i + Int32.ofInt 1 = Int32.ofNat (i + 1) from own_one i]; rfl) ?_
        show Steps _ _ _ (T46.setTop (mkF m 26 _ [])) _
        refine XS.iinc X46.here hx rfl (hb hby own_d8_26) rfl (l' := #[rv b1, iv (Int32.ofNat (i + 1)), iv (Int32.ofNat cs.length), rv b36, iv (Int32.ofNat (i + 1))]) (by rw [show Int32.ofNat i + Int32.ofInt 1 = Int32.ofNat (i + 1) from own_one i]; rfl) ?_
        show Steps _ _ _ (T46.setTop (mkF m 29 _ [])) _
        refine XS.goto X46.here hx rfl (pc0 := 29) (pc' := 8) rfl (hb hby own_d8_29) (by decide) (by decide) ?_
        exact kk
      obtain ⟨T', locs', h', XA, eA, NA, KA, VA, GA⟩ := ih (i + 1) T46 _ T46.heap (by omega) X46 rfl N46 Z47 O48 (KT.trans K46 (allS (Or.inl (by simp)) all0)) Vx46
      exact ⟨T', locs', h', XA, eA, NA, KA, VA, fun tgt kk => G49 _ (GA _ kk)⟩
  obtain ⟨T9, locs9, h9, X9, e9, N9, K9, V9, G9⟩ := loop cs.length 0 T36 _ T36.heap (by omega) X36 rfl N36 Z39 O40 (Keep.refl _ _) V36
  have KF : Keep h0 h9 [] := K41.trans K9 (allS (Or.inr g38) all0)
  obtain ⟨fs, hr, hrun, hended, hW, hsame⟩ := X9.leave (v := some (.ref b36)) (fun h => by rw [Bd.returns] at h; cases h)
  refine ⟨_, _, pre0 _ (G42 _ (G9 _ (?_))), hrun, hended, _, _, rfl, ?_, ⟨_, rfl⟩, hW, hsame.mono (by decide) (by decide)⟩
  · show Steps p.tables e below (T9.setTop (mkF m 32 #[rv b1, iv (Int32.ofNat cs.length), iv (Int32.ofNat cs.length), rv b36, iv (Int32.ofNat cs.length)] [])) _
    refine XS.aloadN X9.here hx rfl (hb hby own_d8_32) rfl rfl ?_
    show Steps _ _ _ (T9.setTop (mkF m 33 _ [.ref b36])) _
    exact retOut X9 hx Bd.returns rfl (Or.inr (Or.inr (Or.inr (Or.inr ⟨rfl, rfl, rfl⟩)))) (hb hby own_d8_33) hr
  · show Q_utb Z b1 kc cs h0 n0 _ T9.heap _
    rw [e9]
    exact ⟨b36, kb36, rfl, N9, KF, g38, V9⟩
theorem own_d11_0 : decode jdk_52_method_21_code 0 = .ok (.iconst 0, 1) := by decide +kernel
theorem own_d11_1 : decode jdk_52_method_21_code 1 = .ok (.istore 5, 2) := by decide +kernel
theorem own_d11_3 : decode jdk_52_method_21_code 3 = .ok (.iload 5, 2) := by decide +kernel
theorem own_d11_5 : decode jdk_52_method_21_code 5 = .ok (.iload 4, 2) := by decide +kernel
theorem own_d11_7 : decode jdk_52_method_21_code 7 = .ok (.if_icmp .ge 37, 3) := by decide +kernel
theorem own_d11_10 : decode jdk_52_method_21_code 10 = .ok (.aload_n 0, 1) := by decide +kernel
theorem own_d11_11 : decode jdk_52_method_21_code 11 = .ok (.iload_n 1, 1) := by decide +kernel
theorem own_d11_12 : decode jdk_52_method_21_code 12 = .ok (.caload, 1) := by decide +kernel
theorem own_d11_13 : decode jdk_52_method_21_code 13 = .ok (.istore 6, 2) := by decide +kernel
theorem own_d11_15 : decode jdk_52_method_21_code 15 = .ok (.iload 6, 2) := by decide +kernel
theorem own_d11_17 : decode jdk_52_method_21_code 17 = .ok (.sipush 255, 3) := by decide +kernel
theorem own_d11_20 : decode jdk_52_method_21_code 20 = .ok (.if_icmp .le 6, 3) := by decide +kernel
theorem own_d11_26 : decode jdk_52_method_21_code 26 = .ok (.aload_n 2, 1) := by decide +kernel
theorem own_d11_27 : decode jdk_52_method_21_code 27 = .ok (.iload_n 3, 1) := by decide +kernel
theorem own_d11_28 : decode jdk_52_method_21_code 28 = .ok (.iload 6, 2) := by decide +kernel
theorem own_d11_30 : decode jdk_52_method_21_code 30 = .ok (.i2b, 1) := by decide +kernel
theorem own_d11_31 : decode jdk_52_method_21_code 31 = .ok (.bastore, 1) := by decide +kernel
theorem own_d11_32 : decode jdk_52_method_21_code 32 = .ok (.iinc 1 1, 3) := by decide +kernel
theorem own_d11_35 : decode jdk_52_method_21_code 35 = .ok (.iinc 3 1, 3) := by decide +kernel
theorem own_d11_38 : decode jdk_52_method_21_code 38 = .ok (.iinc 5 1, 3) := by decide +kernel
theorem own_d11_41 : decode jdk_52_method_21_code 41 = .ok (.goto (-38), 3) := by decide +kernel
theorem own_d11_44 : decode jdk_52_method_21_code 44 = .ok (.iload 4, 2) := by decide +kernel
theorem own_d11_46 : decode jdk_52_method_21_code 46 = .ok (.ireturn, 1) := by decide +kernel
theorem own_d11_23 : decode jdk_52_method_21_code 23 = .ok (.iload 5, 2) := by decide +kernel
theorem own_d11_25 : decode jdk_52_method_21_code 25 = .ok (.ireturn, 1) := by decide +kernel
theorem own_ef_ucl (m : MethodId) (x0 : Addr) (x1 : Int32) (x2 : Addr) (x3 : Int32) (x4 : Int32) : entryFrame m #[(.ref x0), (.int x1), (.ref x2), (.int x3), (.int x4)] 7 = mkF m 0 #[rv x0, iv x1, rv x2, iv x3, iv x4, .unset, .unset] [] := by first | (simp [entryFrame, mkF, argsToLocals, Value.category]; done) | rfl
def Q_ucl (Z : State) (b1 d1 : Addr) (kc kd : ClassId) (cs : List Int32) (h0 : Heap) (n0 : Nat) (v : Option Value) (h : Heap) (L : List Loc) : Prop := Fr n0 L ∧ Keep h0 h [d1] ∧ ((v = some (.int (Int32.ofNat cs.length)) ∧ (∀ c ∈ cs, ¬ (255 : Int32) < c) ∧ Arv Z h d1 kd .byte (Int32.ofNat cs.length) (own_lows cs) (.int 0)) ∨ (∃ i, v = some (.int (Int32.ofNat i)) ∧ i < cs.length ∧ (255 : Int32) < cs.getD i 0))
set_option maxRecDepth 65536 in
set_option maxHeartbeats 40000000 in
theorem rm_ucl (l : Launch) (Z : State) (a0 : Array Value) (hw : ∀ d ∈ tables_1, d.before a0 Z = true) (ws : List Jvm.Cond) (b1 d1 : Addr) (kc kd : ClassId) (cs : List Int32) (h0 : Heap) (n0 : Nat) (Z0 : n0 ≤ h0.size) (V1 : Arv Z h0 b1 kc .char (Int32.ofNat cs.length) (cs.map Value.int) (.int 0)) (V2 : Arv Z h0 d1 kd .byte (Int32.ofNat cs.length) [] (.int 0)) (hne : b1 ≠ d1) (g1 : n0 ≤ d1) (hn0 : 0 < cs.length) (hn4 : cs.length ≤ 4)  :
    MetFree l (⟨"java/lang/StringUTF16", "compress", "([CI[BII)I"⟩ : MethodName) (head1 (Jvm.Cond.code (⟨"java/lang/StringUTF16", "compress", "([CI[BII)I"⟩ : MethodName) jdk_52_method_21_code 7 (some .int) :: ws) ({ frames := 0, cells := 0, slots := 0, locals := 0 } : Room)) (fun a U => a = #[(.ref b1), (.int (0 : Int32)), (.ref d1), (.int (0 : Int32)), (.int (Int32.ofNat cs.length))] ∧ Z.Warmed39 U.vm ∧ U.heap = h0) (fun _ _ _ _ _ => True) (fun _ U o U' => ∃ v L, o = .returned v ∧ Q_ucl Z b1 d1 kc kd cs h0 n0 v U'.heap L ∧ FrameEnd U o U' L ({ frames := 0, cells := 0, slots := 0, locals := 0 } : Room).cells ({ frames := 0, cells := 0, slots := 0, locals := 0 } : Room).slots) := by
  refine MetFree.of_bodySF (plainFor_of_name own_pn_5) hisR ?_
  intro p e s m args below meth c s₁ Bd hml0 hP hK
  obtain ⟨rfl, hZ, hh⟩ := hP
  have hx := Bd.exec
  have hby := Bd.bytes
  have hml : c.maxLocals = 7 := hml0
  have hown : s.vm.findClass "java/lang/StringUTF16" = some m.cls := findClass_of_methodNamed Bd.named
  have hnm := (name_of_methodNamed Bd.named Bd.method).1
  have W := own_W hw
  have X0 : Stand p l e ({ frames := 0, cells := 0, slots := 0, locals := 0 } : Room) s m #[(.ref b1), (.int (0 : Int32)), (.ref d1), (.int (0 : Int32)), (.int (Int32.ofNat cs.length))] below meth c s₁ [] 0 0 := Stand.of_body Bd
  have e0 : s₁.heap = h0 := by rw [← hh, Bd.state]; rfl
  have N0 := Fr.nil n0
  have pre0 : ∀ tq, Steps p.tables e below (s₁.setTop (mkF m 0 #[rv b1, iv 0, rv d1, iv 0, iv (Int32.ofNat cs.length), .unset, .unset] [])) tq → Steps p.tables e below (s₁.setTop (entryFrame m #[(.ref b1), (.int (0 : Int32)), (.ref d1), (.int (0 : Int32)), (.int (Int32.ofNat cs.length))] 7)) tq := fun tq k => castTop (own_ef_ucl m b1 (0 : Int32) d1 (0 : Int32) (Int32.ofNat cs.length)) k
  have G50 : ∀ tq, Steps p.tables e below (s₁.setTop (mkF m 3 #[rv b1, iv 0, rv d1, iv 0, iv (Int32.ofNat cs.length), iv 0, .unset] [])) tq → Steps p.tables e below (s₁.setTop (mkF m 0 #[rv b1, iv 0, rv d1, iv 0, iv (Int32.ofNat cs.length), .unset, .unset] [])) tq := by
    intro tq kk
    show Steps p.tables e below (s₁.setTop (mkF m 0 #[rv b1, iv 0, rv d1, iv 0, iv (Int32.ofNat cs.length), .unset, .unset] [])) _
    refine XS.iconst X0.here hx rfl (hb hby own_d11_0) ?_
    show Steps _ _ _ (s₁.setTop (mkF m 1 _ [.int 0])) _
    refine XS.istore X0.here hx rfl (hb hby own_d11_1) rfl (l' := #[rv b1, iv 0, rv d1, iv 0, iv (Int32.ofNat cs.length), iv 0, .unset]) rfl ?_
    exact kk
  have loop : ∀ (k i : Nat) (s6 : Slot) (T : State) (locs : List Loc) (h : Heap), i + k = cs.length → One s6 → (∀ j, j < i → ¬ (255 : Int32) < cs.getD j 0) → Stand p l e ({ frames := 0, cells := 0, slots := 0, locals := 0 } : Room) s m #[(.ref b1), (.int (0 : Int32)), (.ref d1), (.int (0 : Int32)), (.int (Int32.ofNat cs.length))] below meth c T locs 0 0 → T.heap = h → Fr n0 locs → Keep h0 h [d1] → Arv Z h d1 kd .byte (Int32.ofNat cs.length) (own_lows (cs.take i)) (.int 0) →
      ∃ (T' : State) (locs' : List Loc) (h' : Heap) (s6' : Slot) (i' pc' : Nat), Stand p l e ({ frames := 0, cells := 0, slots := 0, locals := 0 } : Room) s m #[(.ref b1), (.int (0 : Int32)), (.ref d1), (.int (0 : Int32)), (.int (Int32.ofNat cs.length))] below meth c T' locs' 0 0 ∧ T'.heap = h' ∧ Fr n0 locs' ∧ Keep h0 h' [d1] ∧ ((pc' = 44 ∧ (∀ j, j < cs.length → ¬ (255 : Int32) < cs.getD j 0) ∧ Arv Z h' d1 kd .byte (Int32.ofNat cs.length) (own_lows cs) (.int 0)) ∨ (pc' = 23 ∧ i' < cs.length ∧ (255 : Int32) < cs.getD i' 0)) ∧ (∀ tgt, Steps p.tables e below (T'.setTop (mkF m pc' #[rv b1, iv (Int32.ofNat i'), rv d1, iv (Int32.ofNat i'), iv (Int32.ofNat cs.length), iv (Int32.ofNat i'), s6'] [])) tgt → Steps p.tables e below (T.setTop (mkF m 3 #[rv b1, iv (Int32.ofNat i), rv d1, iv (Int32.ofNat i), iv (Int32.ofNat cs.length), iv (Int32.ofNat i), s6] [])) tgt) := by
    intro k
    induction k with
    | zero =>
      intro i s6 T locs h hi h6 hd XT eT NT KT VT
      have hii : i = cs.length := by omega
      subst hii
      rw [List.take_length] at VT
      have G51 : ∀ tq, Steps p.tables e below (T.setTop (mkF m 44 #[rv b1, iv (Int32.ofNat cs.length), rv d1, iv (Int32.ofNat cs.length), iv (Int32.ofNat cs.length), iv (Int32.ofNat cs.length), s6] [])) tq → Steps p.tables e below (T.setTop (mkF m 3 #[rv b1, iv (Int32.ofNat cs.length), rv d1, iv (Int32.ofNat cs.length), iv (Int32.ofNat cs.length), iv (Int32.ofNat cs.length), s6] [])) tq := by
        intro tq kk
        show Steps p.tables e below (T.setTop (mkF m 3 #[rv b1, iv (Int32.ofNat cs.length), rv d1, iv (Int32.ofNat cs.length), iv (Int32.ofNat cs.length), iv (Int32.ofNat cs.length), s6] [])) _
        refine XS.iload XT.here hx rfl (hb hby own_d11_3) rfl ?_
        show Steps _ _ _ (T.setTop (mkF m 5 _ [.int (Int32.ofNat cs.length)])) _
        refine XS.iload XT.here hx rfl (hb hby own_d11_5) rfl ?_
        show Steps _ _ _ (T.setTop (mkF m 7 _ [.int (Int32.ofNat cs.length), .int (Int32.ofNat cs.length)])) _
        refine XS.icmpYes XT.here hx rfl (pc0 := 7) (pc' := 44) rfl (hb hby own_d11_7) rfl (flt (Int32.lt_irrefl : ¬ ((Int32.ofNat cs.length) < (Int32.ofNat cs.length)))).2.1 (by decide) (by decide) ?_
        exact kk
      exact ⟨T, locs, h, s6, cs.length, 44, XT, eT, NT, KT, Or.inl ⟨rfl, hd, VT⟩, fun tgt kk => G51 _ kk⟩
    | succ k ih =>
      intro i s6 T locs h hi h6 hd XT eT NT KT VT
      have hil : i < cs.length := by omega
      have hit : Int32.ofNat i < (Int32.ofNat cs.length) := (own_ltI (by omega) (by omega)).mpr hil
      have VC := V1.keep KT (ninS hne nin0)
      obtain ⟨cl52, Ar52, aq52, aS52, aN52, aH52, aG52⟩ := id VC
      have hin := inb_of aS52 ⟨own_nn (n := i) (by omega), hit⟩
      have hat := Has.at aH52 hin (show (cs.map Value.int).getD (Int32.ofNat i).toNatClampNeg (.int 0) = .int (cs.getD i 0) by rw [own_n32 (by omega)]; exact own_getc cs hil)
      have G53 : ∀ tq, Steps p.tables e below (T.setTop (mkF m 20 #[rv b1, iv (Int32.ofNat i), rv d1, iv (Int32.ofNat i), iv (Int32.ofNat cs.length), iv (Int32.ofNat i), iv (cs.getD i 0)] [.int 255, .int (cs.getD i 0)])) tq → Steps p.tables e below (T.setTop (mkF m 3 #[rv b1, iv (Int32.ofNat i), rv d1, iv (Int32.ofNat i), iv (Int32.ofNat cs.length), iv (Int32.ofNat i), s6] [])) tq := by
        intro tq kk
        show Steps p.tables e below (T.setTop (mkF m 3 #[rv b1, iv (Int32.ofNat i), rv d1, iv (Int32.ofNat i), iv (Int32.ofNat cs.length), iv (Int32.ofNat i), s6] [])) _
        refine XS.iload XT.here hx rfl (hb hby own_d11_3) rfl ?_
        show Steps _ _ _ (T.setTop (mkF m 5 _ [.int (Int32.ofNat i)])) _
        refine XS.iload XT.here hx rfl (hb hby own_d11_5) rfl ?_
        show Steps _ _ _ (T.setTop (mkF m 7 _ [.int (Int32.ofNat cs.length), .int (Int32.ofNat i)])) _
        refine XS.icmpNo XT.here hx rfl (hb hby own_d11_7) rfl (tlt (hit : (Int32.ofNat i) < (Int32.ofNat cs.length))).2.1 ?_
        show Steps _ _ _ (T.setTop (mkF m 10 _ [])) _
        refine XS.aloadN XT.here hx rfl (hb hby own_d11_10) rfl rfl ?_
        show Steps _ _ _ (T.setTop (mkF m 11 _ [.ref b1])) _
        refine XS.iloadN XT.here hx rfl (hb hby own_d11_11) rfl ?_
        show Steps _ _ _ (T.setTop (mkF m 12 _ [.int (Int32.ofNat i), .ref b1])) _
        refine XT.caload hx (j := (Int32.ofNat i)) (v := (.int (cs.getD i 0))) (by rw [eT]; exact Ar52.1) (State.isArrayOf_alike hZ.alike Ar52.2.1) Ar52.2.2 hin hat (g := (mkF m 12 #[rv b1, iv (Int32.ofNat i), rv d1, iv (Int32.ofNat i), iv (Int32.ofNat cs.length), iv (Int32.ofNat i), s6] [.int (Int32.ofNat i), .ref b1])) rfl rfl (hb hby own_d11_12) _ ?_
        show Steps p.tables e below (T.setTop (mkF m 13 #[rv b1, iv (Int32.ofNat i), rv d1, iv (Int32.ofNat i), iv (Int32.ofNat cs.length), iv (Int32.ofNat i), s6] [.int (cs.getD i 0)])) _
        refine XS.istore XT.here hx rfl (hb hby own_d11_13) rfl (l' := #[rv b1, iv (Int32.ofNat i), rv d1, iv (Int32.ofNat i), iv (Int32.ofNat cs.length), iv (Int32.ofNat i), iv (cs.getD i 0)]) (own_st6 h6) ?_
        show Steps _ _ _ (T.setTop (mkF m 15 _ [])) _
        refine XS.iload XT.here hx rfl (hb hby own_d11_15) rfl ?_
        show Steps _ _ _ (T.setTop (mkF m 17 _ [.int (cs.getD i 0)])) _
        refine XS.sipush XT.here hx rfl (hb hby own_d11_17) ?_
        exact kk
      by_cases hg : (255 : Int32) < cs.getD i 0
      · have G54 : ∀ tq, Steps p.tables e below (T.setTop (mkF m 23 #[rv b1, iv (Int32.ofNat i), rv d1, iv (Int32.ofNat i), iv (Int32.ofNat cs.length), iv (Int32.ofNat i), iv (cs.getD i 0)] [])) tq → Steps p.tables e below (T.setTop (mkF m 20 #[rv b1, iv (Int32.ofNat i), rv d1, iv (Int32.ofNat i), iv (Int32.ofNat cs.length), iv (Int32.ofNat i), iv (cs.getD i 0)] [.int 255, .int (cs.getD i 0)])) tq := by
          intro tq kk
          show Steps p.tables e below (T.setTop (mkF m 20 #[rv b1, iv (Int32.ofNat i), rv d1, iv (Int32.ofNat i), iv (Int32.ofNat cs.length), iv (Int32.ofNat i), iv (cs.getD i 0)] [.int 255, .int (cs.getD i 0)])) _
          refine XS.icmpNo XT.here hx rfl (hb hby own_d11_20) rfl (tlt (hg : (255 : Int32) < (cs.getD i 0))).2.2.2 ?_
          exact kk
        exact ⟨T, _, h, _, i, 23, XT, eT, NT, KT, Or.inr ⟨rfl, hil, hg⟩, fun tgt kk => G53 _ (G54 _ kk)⟩
      · have VP := VT.pad (pad_rep _ (.int (0 : Int32)) 1)
        obtain ⟨clD, ArD, aqD, aSD, aND, aHD, aGD⟩ := id VP
        obtain ⟨T55, h55, X55, e55, W55, st55⟩ := stB XT hx hZ eT ArD (j := Int32.ofNat i) (inb_of aSD ⟨own_nn (n := i) (by omega), hit⟩) (g := (mkF m 31 #[rv b1, iv (Int32.ofNat i), rv d1, iv (Int32.ofNat i), iv (Int32.ofNat cs.length), iv (Int32.ofNat i), iv (cs.getD i 0)] [.int ((cs.getD i 0).toInt8.toInt32), .int (Int32.ofNat i), .ref d1])) rfl rfl (hb hby own_d11_31)
        have N55 := Fr.snoc X55 NT g1
        have Vx55 := Arv.set ArD aqD aSD aND aHD aGD (fits_nar_byte _) W55 i (own_n32 (by omega)) (by rw [List.length_append, own_lows_len cs (by omega), List.length_replicate]; omega)
        rw [show Value.int (((cs.getD i 0).toInt8.toInt32).toInt8.toInt32) = .int (StrChars.lo8 (cs.getD i 0)) from congrArg Value.int (own_narb _), own_lows_next cs hil] at Vx55
        have G56 : ∀ tq, Steps p.tables e below (T55.setTop (mkF m 3 #[rv b1, iv (Int32.ofNat (i + 1)), rv d1, iv (Int32.ofNat (i + 1)), iv (Int32.ofNat cs.length), iv (Int32.ofNat (i + 1)), iv (cs.getD i 0)] [])) tq → Steps p.tables e below (T.setTop (mkF m 20 #[rv b1, iv (Int32.ofNat i), rv d1, iv (Int32.ofNat i), iv (Int32.ofNat cs.length), iv (Int32.ofNat i), iv (cs.getD i 0)] [.int 255, .int (cs.getD i 0)])) tq := by
          intro tq kk
          show Steps p.tables e below (T.setTop (mkF m 20 #[rv b1, iv (Int32.ofNat i), rv d1, iv (Int32.ofNat i), iv (Int32.ofNat cs.length), iv (Int32.ofNat i), iv (cs.getD i 0)] [.int 255, .int (cs.getD i 0)])) _
          refine XS.icmpYes XT.here hx rfl (pc0 := 20) (pc' := 26) rfl (hb hby own_d11_20) rfl (flt (hg : ¬ ((255 : Int32) < (cs.getD i 0)))).2.2.2 (by decide) (by decide) ?_
          show Steps _ _ _ (T.setTop (mkF m 26 _ [])) _
          refine XS.aloadN XT.here hx rfl (hb hby own_d11_26) rfl rfl ?_
          show Steps _ _ _ (T.setTop (mkF m 27 _ [.ref d1])) _
          refine XS.iloadN XT.here hx rfl (hb hby own_d11_27) rfl ?_
          show Steps _ _ _ (T.setTop (mkF m 28 _ [.int (Int32.ofNat i), .ref d1])) _
          refine XS.iload XT.here hx rfl (hb hby own_d11_28) rfl ?_
          show Steps _ _ _ (T.setTop (mkF m 30 _ [.int (cs.getD i 0), .int (Int32.ofNat i), .ref d1])) _
          refine XS.i2b XT.here hx rfl (hb hby own_d11_30) rfl ?_
          show Steps _ _ _ (T.setTop (mkF m 31 _ [.int ((cs.getD i 0).toInt8.toInt32), .int (Int32.ofNat i), .ref d1])) _
          refine st55 _ ?_
          show Steps p.tables e below (T55.setTop (mkF m 32 #[rv b1, iv (Int32.ofNat i), rv d1, iv (Int32.ofNat i), iv (Int32.ofNat cs.length), iv (Int32.ofNat i), iv (cs.getD i 0)] [])) _
          refine XS.iinc X55.here hx rfl (hb hby own_d11_32) rfl (l' := #[rv b1, iv (Int32.ofNat (i + 1)), rv d1, iv (Int32.ofNat i), iv (Int32.ofNat cs.length), iv (Int32.ofNat i), iv (cs.getD i 0)]) (by rw [show Int32.ofNat i + Int32.ofInt 1 = Int32.ofNat (i + 1) from own_one i]; rfl) ?_
          show Steps _ _ _ (T55.setTop (mkF m 35 _ [])) _
          refine XS.iinc X55.here hx rfl (hb hby own_d11_35) rfl (l' := #[rv b1, iv (Int32.ofNat (i + 1)), rv d1, iv (Int32.ofNat (i + 1)), iv (Int32.ofNat cs.length), iv (Int32.ofNat i), iv (cs.getD i 0)]) (by rw [show Int32.ofNat i + Int32.ofInt 1 = Int32.ofNat (i + 1) from own_one i]; rfl) ?_
          show Steps _ _ _ (T55.setTop (mkF m 38 _ [])) _
          refine XS.iinc X55.here hx rfl (hb hby own_d11_38) rfl (l' := #[rv b1, iv (Int32.ofNat (i + 1)), rv d1, iv (Int32.ofNat (i + 1)), iv (Int32.ofNat cs.length), iv (Int32.ofNat (i + 1)), iv (cs.getD i 0)]) (by rw [show Int32.ofNat i + Int32.ofInt 1 = Int32.ofNat (i + 1) from own_one i]; rfl) ?_
          show Steps _ _ _ (T55.setTop (mkF m 41 _ [])) _
          refine XS.goto X55.here hx rfl (pc0 := 41) (pc' := 3) rfl (hb hby own_d11_41) (by decide) (by decide) ?_
          exact kk
        obtain ⟨T', locs', h', s6', i', pc', XA, eA, NA, KA, hA, GA⟩ := ih (i + 1) (.val (.int (cs.getD i 0))) T55 _ h55 (by omega) (One.val rfl) (fun j hj => by
          by_cases hji : j = i
          · subst hji; exact hg
          · exact hd j (by omega)) X55 e55 N55 (KT.wr W55 (Or.inl (by simp))) Vx55
        exact ⟨T', locs', h', s6', i', pc', XA, eA, NA, KA, hA, fun tgt kk => G53 _ (G56 _ (GA _ kk))⟩
  obtain ⟨T9, locs9, h9, s9, i9, pc9, X9, e9, N9, K9, h9c, G9⟩ := loop cs.length 0 .unset s₁ _ h0 (by omega) One.u (fun j hj => absurd hj (by omega)) X0 e0 N0 (Keep.refl _ _) V2
  rcases h9c with ⟨rfl, hall, VA⟩ | ⟨rfl, hi9, hg9⟩
  · obtain ⟨fs, hr, hrun, hended, hW, hsame⟩ := X9.leave (v := some (.int (Int32.ofNat cs.length))) (fun h => by rw [Bd.returns] at h; cases h)
    refine ⟨_, _, pre0 _ (G50 _ (G9 _ (?_))), hrun, hended, _, _, rfl, ?_, ⟨_, rfl⟩, hW, hsame.mono (by decide) (by decide)⟩
    · show Steps p.tables e below (T9.setTop (mkF m 44 #[rv b1, iv (Int32.ofNat i9), rv d1, iv (Int32.ofNat i9), iv (Int32.ofNat cs.length), iv (Int32.ofNat i9), s9] [])) _
      refine XS.iload X9.here hx rfl (hb hby own_d11_44) rfl ?_
      show Steps _ _ _ (T9.setTop (mkF m 46 _ [.int (Int32.ofNat cs.length)])) _
      exact retI X9 hx Bd.returns (hb hby own_d11_46) hr
    · show Q_ucl Z b1 d1 kc kd cs h0 n0 _ T9.heap _
      rw [e9]
      exact ⟨N9, K9, Or.inl ⟨rfl, (fun c hc => by obtain ⟨j, hj, e⟩ := List.getElem_of_mem hc; have := hall j hj; simp only [List.getD_eq_getElem?_getD, List.getElem?_eq_getElem hj, Option.getD_some, e] at this; exact this), VA⟩⟩
  · obtain ⟨fs, hr, hrun, hended, hW, hsame⟩ := X9.leave (v := some (.int (Int32.ofNat i9))) (fun h => by rw [Bd.returns] at h; cases h)
    refine ⟨_, _, pre0 _ (G50 _ (G9 _ (?_))), hrun, hended, _, _, rfl, ?_, ⟨_, rfl⟩, hW, hsame.mono (by decide) (by decide)⟩
    · show Steps p.tables e below (T9.setTop (mkF m 23 #[rv b1, iv (Int32.ofNat i9), rv d1, iv (Int32.ofNat i9), iv (Int32.ofNat cs.length), iv (Int32.ofNat i9), s9] [])) _
      refine XS.iload X9.here hx rfl (hb hby own_d11_23) rfl ?_
      show Steps _ _ _ (T9.setTop (mkF m 25 _ [.int (Int32.ofNat i9)])) _
      exact retI X9 hx Bd.returns (hb hby own_d11_25) hr
    · show Q_ucl Z b1 d1 kc kd cs h0 n0 _ T9.heap _
      rw [e9]
      exact ⟨N9, K9, Or.inr ⟨i9, rfl, hi9, hg9⟩⟩
theorem own_d10_0 : decode jdk_52_method_16_code 0 = .ok (.iload_n 2, 1) := by decide +kernel
theorem own_d10_1 : decode jdk_52_method_16_code 1 = .ok (.newarray .byte, 2) := by decide +kernel
theorem own_d10_3 : decode jdk_52_method_16_code 3 = .ok (.astore_n 3, 1) := by decide +kernel
theorem own_d10_4 : decode jdk_52_method_16_code 4 = .ok (.aload_n 0, 1) := by decide +kernel
theorem own_d10_5 : decode jdk_52_method_16_code 5 = .ok (.iload_n 1, 1) := by decide +kernel
theorem own_d10_6 : decode jdk_52_method_16_code 6 = .ok (.aload_n 3, 1) := by decide +kernel
theorem own_d10_7 : decode jdk_52_method_16_code 7 = .ok (.iconst 0, 1) := by decide +kernel
theorem own_d10_8 : decode jdk_52_method_16_code 8 = .ok (.iload_n 2, 1) := by decide +kernel
theorem own_d10_9 : decode jdk_52_method_16_code 9 = .ok (.invokestatic 115, 3) := by decide +kernel
theorem own_pd_5 : parseMethodDescriptor "([CI[BII)I" = some ⟨[(.array .char), .int, (.array .byte), .int, .int], some .int⟩ := by decide +kernel
theorem own_d10_12 : decode jdk_52_method_16_code 12 = .ok (.istore 4, 2) := by decide +kernel
theorem own_d10_14 : decode jdk_52_method_16_code 14 = .ok (.iload 4, 2) := by decide +kernel
theorem own_d10_16 : decode jdk_52_method_16_code 16 = .ok (.iload_n 2, 1) := by decide +kernel
theorem own_d10_17 : decode jdk_52_method_16_code 17 = .ok (.if_icmp .eq 40, 3) := by decide +kernel
theorem own_d10_57 : decode jdk_52_method_16_code 57 = .ok (.aload_n 3, 1) := by decide +kernel
theorem own_d10_58 : decode jdk_52_method_16_code 58 = .ok (.areturn, 1) := by decide +kernel
theorem own_d10_20 : decode jdk_52_method_16_code 20 = .ok (.aload_n 0, 1) := by decide +kernel
theorem own_d10_21 : decode jdk_52_method_16_code 21 = .ok (.iload_n 1, 1) := by decide +kernel
theorem own_d10_22 : decode jdk_52_method_16_code 22 = .ok (.iload_n 2, 1) := by decide +kernel
theorem own_d10_23 : decode jdk_52_method_16_code 23 = .ok (.invokestatic 119, 3) := by decide +kernel
theorem own_pd_4 : parseMethodDescriptor "([CII)[B" = some ⟨[(.array .char), .int, .int], some (.array .byte)⟩ := by decide +kernel
theorem own_d10_26 : decode jdk_52_method_16_code 26 = .ok (.astore 5, 2) := by decide +kernel
theorem own_d10_28 : decode jdk_52_method_16_code 28 = .ok (.aload 5, 2) := by decide +kernel
theorem own_d10_30 : decode jdk_52_method_16_code 30 = .ok (.iload 4, 2) := by decide +kernel
theorem own_d10_32 : decode jdk_52_method_16_code 32 = .ok (.invokestatic 71, 3) := by decide +kernel
theorem own_d10_35 : decode jdk_52_method_16_code 35 = .ok (.sipush 255, 3) := by decide +kernel
theorem own_d10_38 : decode jdk_52_method_16_code 38 = .ok (.if_icmp .gt 16, 3) := by decide +kernel
theorem own_d10_54 : decode jdk_52_method_16_code 54 = .ok (.aload 5, 2) := by decide +kernel
theorem own_d10_56 : decode jdk_52_method_16_code 56 = .ok (.areturn, 1) := by decide +kernel
theorem own_ef_uc (m : MethodId) (x0 : Addr) (x1 : Int32) (x2 : Int32) : entryFrame m #[(.ref x0), (.int x1), (.int x2)] 6 = mkF m 0 #[rv x0, iv x1, iv x2, .unset, .unset, .unset] [] := by first | (simp [entryFrame, mkF, argsToLocals, Value.category]; done) | rfl
def Q_uc (Z : State) (b1 : Addr) (kc : ClassId) (cs : List Int32) (h0 : Heap) (n0 : Nat) (v : Option Value) (h : Heap) (L : List Loc) : Prop := ∃ b kb, v = some (.ref b) ∧ Fr n0 L ∧ Keep h0 h [] ∧ h0.size ≤ b ∧ (((∀ c ∈ cs, ¬ (255 : Int32) < c) ∧ Arv Z h b kb .byte (Int32.ofNat cs.length) (own_lows cs) (.int 0)) ∨ ((∃ c ∈ cs, (255 : Int32) < c) ∧ Arv Z h b kb .byte (Int32.ofNat (2 * cs.length)) (StrChars.Road.wideBytes cs) (.int 0)))
set_option maxRecDepth 65536 in
set_option maxHeartbeats 40000000 in
theorem rm_uc (l : Launch) (Z : State) (a0 : Array Value) (hw : ∀ d ∈ tables_1, d.before a0 Z = true) (ws : List Jvm.Cond) (b1 : Addr) (kc : ClassId) (cs : List Int32) (h0 : Heap) (n0 : Nat) (Z0 : n0 ≤ h0.size) (X00 : Old Z n0 h0) (V1 : Arv Z h0 b1 kc .char (Int32.ofNat cs.length) (cs.map Value.int) (.int 0)) (hn0 : 0 < cs.length) (hn4 : cs.length ≤ 4) (hbs : ∀ c ∈ cs, ¬ c < 0 ∧ ¬ (65535 : Int32) < c) (OA : Sta Z Z.heap "java/lang/StringUTF16" "$assertionsDisabled" "Z" (.int (1 : Int32))) (OH : Sta Z Z.heap "java/lang/StringUTF16" "HI_BYTE_SHIFT" "I" (.int (0 : Int32))) (OL : Sta Z Z.heap "java/lang/StringUTF16" "LO_BYTE_SHIFT" "I" (.int (8 : Int32))) :
    MetFree l (⟨"java/lang/StringUTF16", "compress", "([CII)[B"⟩ : MethodName) (head1 (Jvm.Cond.code (⟨"java/lang/StringUTF16", "compress", "([CII)[B"⟩ : MethodName) jdk_52_method_16_code 6 (some (.array .byte)) :: ws) ({ frames := 3, cells := 2, slots := 12, locals := 48 } : Room)) (fun a U => a = #[(.ref b1), (.int (0 : Int32)), (.int (Int32.ofNat cs.length))] ∧ Z.Warmed39 U.vm ∧ U.heap = h0) (fun _ _ _ _ _ => True) (fun _ U o U' => ∃ v L, o = .returned v ∧ Q_uc Z b1 kc cs h0 n0 v U'.heap L ∧ FrameEnd U o U' L ({ frames := 3, cells := 2, slots := 12, locals := 48 } : Room).cells ({ frames := 3, cells := 2, slots := 12, locals := 48 } : Room).slots) := by
  refine MetFree.of_bodySF (plainFor_of_name own_pn_5) hisR ?_
  intro p e s m args below meth c s₁ Bd hml0 hP hK
  obtain ⟨rfl, hZ, hh⟩ := hP
  have hx := Bd.exec
  have hby := Bd.bytes
  have hml : c.maxLocals = 6 := hml0
  have hown : s.vm.findClass "java/lang/StringUTF16" = some m.cls := findClass_of_methodNamed Bd.named
  have hnm := (name_of_methodNamed Bd.named Bd.method).1
  have W := own_W hw
  have X0 : Stand p l e ({ frames := 3, cells := 2, slots := 12, locals := 48 } : Room) s m #[(.ref b1), (.int (0 : Int32)), (.int (Int32.ofNat cs.length))] below meth c s₁ [] 0 0 := Stand.of_body Bd
  have e0 : s₁.heap = h0 := by rw [← hh, Bd.state]; rfl
  have N0 := Fr.nil n0
  have pre0 : ∀ tq, Steps p.tables e below (s₁.setTop (mkF m 0 #[rv b1, iv 0, iv (Int32.ofNat cs.length), .unset, .unset, .unset] [])) tq → Steps p.tables e below (s₁.setTop (entryFrame m #[(.ref b1), (.int (0 : Int32)), (.int (Int32.ofNat cs.length))] 6)) tq := fun tq k => castTop (own_ef_uc m b1 (0 : Int32) (Int32.ofNat cs.length)) k
  have K57 : Keep h0 h0 [] := Keep.refl h0 []
  obtain ⟨T58, h58, k58, X58, e58, E58, A58, st58⟩ := newP X0 hx hZ (W 25 rfl) e0 (g := (mkF m 1 #[rv b1, iv 0, iv (Int32.ofNat cs.length), .unset, .unset, .unset] [.int (Int32.ofNat cs.length)])) rfl (hb hby own_d10_1) rfl (own_nn (by omega)) (cap := 4) (by rw [own_n32 (by omega)]; omega) (by decide) (by decide) (by decide)
  obtain ⟨b58, g58⟩ : ∃ z, z = h0.size := ⟨_, rfl⟩
  rw [← g58] at A58 st58
  have g59 : n0 ≤ b58 := Nat.le_trans Z0 (Nat.le_of_eq g58.symm)
  have g60 : h0.size ≤ b58 := Nat.le_trans K57.1 (Nat.le_of_eq g58.symm)
  have Z61 : n0 ≤ h58.size := Nat.le_trans Z0 E58.1
  have O62 : Old Z n0 h58 := X00.ext E58
  have K63 : Keep h0 h58 [] := K57.ext E58
  have V58 : Arv Z h58 b58 k58 .byte (Int32.ofNat cs.length) [] (.int (0 : Int32)) := Arv.new A58 (own_nn (by omega))
  have f64 := (V1.ext E58)
  obtain ⟨_, _, ⟨T65, L65, k65, n65⟩, -, X65, ⟨Lc65, hQ65, l65, y65, z65⟩, st65⟩ := Jvm.LawKit.callS X58 hx (y := (⟨"java/lang/StringUTF16", "compress", "([CI[BII)I"⟩ : MethodName)) hown (mvT hZ (W 26 rfl)) (mvT hZ (W 27 rfl)) (mvT hZ (W 23 rfl)) (mvT hZ (W 28 rfl)) (by decide) (backOf (W := 0) (rm_ucl l Z a0 hw [] b1 b58 kc k58 cs h58 n0 Z61 f64 V58 (Nat.ne_of_lt (Nat.lt_of_lt_of_le V1.lt (Nat.le_of_eq g58.symm))) g59 hn0 hn4) hZ (W 28 rfl) (W 23 rfl) (by decide) (by decide)) (g := (mkF m 9 #[rv b1, iv 0, iv (Int32.ofNat cs.length), rv b58, .unset, .unset] [.int (Int32.ofNat cs.length), .int 0, .ref b58, .int 0, .ref b1])) rfl (by rw [hml]; rfl) (argsL := [.ref b1, .int 0, .ref b58, .int 0, .int (Int32.ofNat cs.length)]) (rest := []) (lenOf own_pd_5 rfl) rfl (by show 2 * 0 + _ ≤ _; exact Nat.le_of_eq rfl) (hb hby own_d10_9) (fun _ _ => ⟨rfl, e58, (by decide : 1 + 0 ≤ _), (by decide : 4 + 0 ≤ _)⟩)
  dsimp only [Pt.U, Pt.locs, Pt.cells, Pt.slots] at X65 l65 y65 z65 st65 hQ65
  subst l65 y65 z65
  obtain ⟨Nq65, K65, hcase⟩ := hQ65
  have N65 := Fr.app N0 Nq65
  have Z66 : n0 ≤ T65.heap.size := Nat.le_trans Z61 K65.1
  have O67 : Old Z n0 T65.heap := O62.keep K65 (allS g59 all0)
  have K68 : Keep h0 T65.heap [] := K63.trans K65 (allS (Or.inr g60) all0)
  rcases hcase with ⟨rfl, hla, hA⟩ | ⟨i, rfl, hil, hg⟩
  · obtain ⟨fs, hr, hrun, hended, hW, hsame⟩ := X65.leave (v := some (.ref b58)) (fun h => by rw [Bd.returns] at h; cases h)
    refine ⟨_, _, pre0 _ (?_), hrun, hended, _, _, rfl, ?_, ⟨_, rfl⟩, hW, hsame.mono (by decide) (by decide)⟩
    · show Steps p.tables e below (s₁.setTop (mkF m 0 #[rv b1, iv 0, iv (Int32.ofNat cs.length), .unset, .unset, .unset] [])) _
      refine XS.iloadN X0.here hx rfl (hb hby own_d10_0) rfl ?_
      show Steps _ _ _ (s₁.setTop (mkF m 1 _ [.int (Int32.ofNat cs.length)])) _
      refine st58 _ ?_
      show Steps p.tables e below (T58.setTop (mkF m 3 #[rv b1, iv 0, iv (Int32.ofNat cs.length), .unset, .unset, .unset] [.ref b58])) _
      refine XS.astoreN X58.here hx rfl (hb hby own_d10_3) rfl rfl (l' := #[rv b1, iv 0, iv (Int32.ofNat cs.length), rv b58, .unset, .unset]) rfl ?_
      show Steps _ _ _ (T58.setTop (mkF m 4 _ [])) _
      refine XS.aloadN X58.here hx rfl (hb hby own_d10_4) rfl rfl ?_
      show Steps _ _ _ (T58.setTop (mkF m 5 _ [.ref b1])) _
      refine XS.iloadN X58.here hx rfl (hb hby own_d10_5) rfl ?_
      show Steps _ _ _ (T58.setTop (mkF m 6 _ [.int 0, .ref b1])) _
      refine XS.aloadN X58.here hx rfl (hb hby own_d10_6) rfl rfl ?_
      show Steps _ _ _ (T58.setTop (mkF m 7 _ [.ref b58, .int 0, .ref b1])) _
      refine XS.iconst X58.here hx rfl (hb hby own_d10_7) ?_
      show Steps _ _ _ (T58.setTop (mkF m 8 _ [.int 0, .ref b58, .int 0, .ref b1])) _
      refine XS.iloadN X58.here hx rfl (hb hby own_d10_8) rfl ?_
      show Steps _ _ _ (T58.setTop (mkF m 9 _ [.int (Int32.ofNat cs.length), .int 0, .ref b58, .int 0, .ref b1])) _
      refine st65 _ ?_
      show Steps p.tables e below (T65.setTop (mkF m 12 #[rv b1, iv 0, iv (Int32.ofNat cs.length), rv b58, .unset, .unset] [.int (Int32.ofNat cs.length)])) _
      refine XS.istore X65.here hx rfl (hb hby own_d10_12) rfl (l' := #[rv b1, iv 0, iv (Int32.ofNat cs.length), rv b58, iv (Int32.ofNat cs.length), .unset]) rfl ?_
      show Steps _ _ _ (T65.setTop (mkF m 14 _ [])) _
      refine XS.iload X65.here hx rfl (hb hby own_d10_14) rfl ?_
      show Steps _ _ _ (T65.setTop (mkF m 16 _ [.int (Int32.ofNat cs.length)])) _
      refine XS.iloadN X65.here hx rfl (hb hby own_d10_16) rfl ?_
      show Steps _ _ _ (T65.setTop (mkF m 17 _ [.int (Int32.ofNat cs.length), .int (Int32.ofNat cs.length)])) _
      refine XS.icmpYes X65.here hx rfl (pc0 := 17) (pc' := 57) rfl (hb hby own_d10_17) rfl (teq (rfl : (Int32.ofNat cs.length) = (Int32.ofNat cs.length))).1 (by decide) (by decide) ?_
      show Steps _ _ _ (T65.setTop (mkF m 57 _ [])) _
      refine XS.aloadN X65.here hx rfl (hb hby own_d10_57) rfl rfl ?_
      show Steps _ _ _ (T65.setTop (mkF m 58 _ [.ref b58])) _
      exact retOut X65 hx Bd.returns rfl (Or.inr (Or.inr (Or.inr (Or.inr ⟨rfl, rfl, rfl⟩)))) (hb hby own_d10_58) hr
    · show Q_uc Z b1 kc cs h0 n0 _ T65.heap _
      exact ⟨b58, k58, rfl, N65, K68, g60, Or.inl ⟨hla, hA⟩⟩
  · have hni : ¬ (Int32.ofNat i = (Int32.ofNat cs.length)) := fun q => absurd (own_ofNat_inj (by omega) (by omega) q) (by omega)
    have f69 := (f64.keep K65 (ninS (Nat.ne_of_lt (Nat.lt_of_lt_of_le V1.lt (Nat.le_of_eq g58.symm))) nin0))
    obtain ⟨_, _, ⟨T70, L70, k70, n70⟩, -, X70, ⟨Lc70, hQ70, l70, y70, z70⟩, st70⟩ := Jvm.LawKit.callS X65 hx (y := (⟨"java/lang/StringUTF16", "toBytes", "([CII)[B"⟩ : MethodName)) hown (mvT hZ (W 66 rfl)) (mvT hZ (W 67 rfl)) (mvT hZ (W 23 rfl)) (mvT hZ (W 68 rfl)) (by decide) (backOf (W := 0) (rm_utb l Z a0 hw [] b1 kc cs T65.heap n0 Z66 O67 f69 hn0 hn4 OA OH OL) hZ (W 68 rfl) (W 23 rfl) (by decide) (by decide)) (g := (mkF m 23 #[rv b1, iv 0, iv (Int32.ofNat cs.length), rv b58, iv (Int32.ofNat i), .unset] [.int (Int32.ofNat cs.length), .int 0, .ref b1])) rfl (by rw [hml]; rfl) (argsL := [.ref b1, .int 0, .int (Int32.ofNat cs.length)]) (rest := []) (lenOf own_pd_4 rfl) rfl (by show 2 * 0 + _ ≤ _; exact Nat.le_of_eq rfl) (hb hby own_d10_23) (fun _ _ => ⟨rfl, rfl, (by decide : 1 + 1 ≤ _), (by decide : 4 + 8 ≤ _)⟩)
    dsimp only [Pt.U, Pt.locs, Pt.cells, Pt.slots] at X70 l70 y70 z70 st70 hQ70
    subst l70 y70 z70
    obtain ⟨b70, kb70, hv70, Nq70, K70, sb70, V70⟩ := hQ70
    subst hv70
    have N70 := Fr.app N65 Nq70
    have g71 : n0 ≤ b70 := Nat.le_trans Z66 sb70
    have g72 : h0.size ≤ b70 := Nat.le_trans K68.1 sb70
    have Z73 : n0 ≤ T70.heap.size := Nat.le_trans Z66 K70.1
    have O74 : Old Z n0 T70.heap := O67.keep K70 all0
    have K75 : Keep h0 T70.heap [] := K68.trans K70 all0
    obtain ⟨_, _, ⟨T76, L76, k76, n76⟩, -, X76, ⟨Lc76, hQ76, l76, y76, z76⟩, st76⟩ := Jvm.LawKit.callS X70 hx (y := (⟨"java/lang/StringUTF16", "getChar", "([BI)C"⟩ : MethodName)) hown (mvT hZ (W 82 rfl)) (mvT hZ (W 83 rfl)) (mvT hZ (W 23 rfl)) (mvT hZ (W 84 rfl)) (by decide) (backOf (W := 0) (rm_uget l Z a0 hw [] b70 (Int32.ofNat i) (Int32.ofNat (2 * i)) (Int32.ofNat (2 * i + 1)) kb70 (Int32.ofNat (2 * cs.length)) (cs.getD i 0) (StrChars.Road.wideBytes cs) T70.heap n0 Z73 O74 V70 (own_ofNat2 (by omega)) (own_one _) ⟨own_nn (by omega), (own_ltI (by omega) (by omega)).mpr (by omega)⟩ ⟨own_nn (by omega), (own_ltI (by omega) (by omega)).mpr (by omega)⟩ (by rw [own_n32 (by omega)]; exact StrChars.Road.wide_lo _ cs i hil) (by rw [own_n32 (by omega)]; exact StrChars.Road.wide_hi _ cs i hil) (hbs _ (own_gmem cs hil)) OA OH OL) hZ (W 84 rfl) (W 23 rfl) (by decide) (by decide)) (g := (mkF m 32 #[rv b1, iv 0, iv (Int32.ofNat cs.length), rv b58, iv (Int32.ofNat i), rv b70] [.int (Int32.ofNat i), .ref b70])) rfl (by rw [hml]; rfl) (argsL := [.ref b70, .int (Int32.ofNat i)]) (rest := []) (lenOf own_pd_10 rfl) rfl (by show 2 * 0 + _ ≤ _; exact Nat.le_of_eq rfl) (hb hby own_d10_32) (fun _ _ => ⟨rfl, rfl, (by decide : 2 + 0 ≤ _), (by decide : 12 + 0 ≤ _)⟩)
    dsimp only [Pt.U, Pt.locs, Pt.cells, Pt.slots] at X76 l76 y76 z76 st76 hQ76
    subst l76 y76 z76
    obtain ⟨rfl, Nq76, e76⟩ := hQ76
    have N76 := Fr.app N70 Nq76
    obtain ⟨fs, hr, hrun, hended, hW, hsame⟩ := X76.leave (v := some (.ref b70)) (fun h => by rw [Bd.returns] at h; cases h)
    refine ⟨_, _, pre0 _ (?_), hrun, hended, _, _, rfl, ?_, ⟨_, rfl⟩, hW, hsame.mono (by decide) (by decide)⟩
    · show Steps p.tables e below (s₁.setTop (mkF m 0 #[rv b1, iv 0, iv (Int32.ofNat cs.length), .unset, .unset, .unset] [])) _
      refine XS.iloadN X0.here hx rfl (hb hby own_d10_0) rfl ?_
      show Steps _ _ _ (s₁.setTop (mkF m 1 _ [.int (Int32.ofNat cs.length)])) _
      refine st58 _ ?_
      show Steps p.tables e below (T58.setTop (mkF m 3 #[rv b1, iv 0, iv (Int32.ofNat cs.length), .unset, .unset, .unset] [.ref b58])) _
      refine XS.astoreN X58.here hx rfl (hb hby own_d10_3) rfl rfl (l' := #[rv b1, iv 0, iv (Int32.ofNat cs.length), rv b58, .unset, .unset]) rfl ?_
      show Steps _ _ _ (T58.setTop (mkF m 4 _ [])) _
      refine XS.aloadN X58.here hx rfl (hb hby own_d10_4) rfl rfl ?_
      show Steps _ _ _ (T58.setTop (mkF m 5 _ [.ref b1])) _
      refine XS.iloadN X58.here hx rfl (hb hby own_d10_5) rfl ?_
      show Steps _ _ _ (T58.setTop (mkF m 6 _ [.int 0, .ref b1])) _
      refine XS.aloadN X58.here hx rfl (hb hby own_d10_6) rfl rfl ?_
      show Steps _ _ _ (T58.setTop (mkF m 7 _ [.ref b58, .int 0, .ref b1])) _
      refine XS.iconst X58.here hx rfl (hb hby own_d10_7) ?_
      show Steps _ _ _ (T58.setTop (mkF m 8 _ [.int 0, .ref b58, .int 0, .ref b1])) _
      refine XS.iloadN X58.here hx rfl (hb hby own_d10_8) rfl ?_
      show Steps _ _ _ (T58.setTop (mkF m 9 _ [.int (Int32.ofNat cs.length), .int 0, .ref b58, .int 0, .ref b1])) _
      refine st65 _ ?_
      show Steps p.tables e below (T65.setTop (mkF m 12 #[rv b1, iv 0, iv (Int32.ofNat cs.length), rv b58, .unset, .unset] [.int (Int32.ofNat i)])) _
      refine XS.istore X65.here hx rfl (hb hby own_d10_12) rfl (l' := #[rv b1, iv 0, iv (Int32.ofNat cs.length), rv b58, iv (Int32.ofNat i), .unset]) rfl ?_
      show Steps _ _ _ (T65.setTop (mkF m 14 _ [])) _
      refine XS.iload X65.here hx rfl (hb hby own_d10_14) rfl ?_
      show Steps _ _ _ (T65.setTop (mkF m 16 _ [.int (Int32.ofNat i)])) _
      refine XS.iloadN X65.here hx rfl (hb hby own_d10_16) rfl ?_
      show Steps _ _ _ (T65.setTop (mkF m 17 _ [.int (Int32.ofNat cs.length), .int (Int32.ofNat i)])) _
      refine XS.icmpNo X65.here hx rfl (hb hby own_d10_17) rfl (feq (hni : ¬ ((Int32.ofNat i) = (Int32.ofNat cs.length)))).1 ?_
      show Steps _ _ _ (T65.setTop (mkF m 20 _ [])) _
      refine XS.aloadN X65.here hx rfl (hb hby own_d10_20) rfl rfl ?_
      show Steps _ _ _ (T65.setTop (mkF m 21 _ [.ref b1])) _
      refine XS.iloadN X65.here hx rfl (hb hby own_d10_21) rfl ?_
      show Steps _ _ _ (T65.setTop (mkF m 22 _ [.int 0, .ref b1])) _
      refine XS.iloadN X65.here hx rfl (hb hby own_d10_22) rfl ?_
      show Steps _ _ _ (T65.setTop (mkF m 23 _ [.int (Int32.ofNat cs.length), .int 0, .ref b1])) _
      refine st70 _ ?_
      show Steps p.tables e below (T70.setTop (mkF m 26 #[rv b1, iv 0, iv (Int32.ofNat cs.length), rv b58, iv (Int32.ofNat i), .unset] [.ref b70])) _
      refine XS.astore X70.here hx rfl (hb hby own_d10_26) rfl rfl (l' := #[rv b1, iv 0, iv (Int32.ofNat cs.length), rv b58, iv (Int32.ofNat i), rv b70]) rfl ?_
      show Steps _ _ _ (T70.setTop (mkF m 28 _ [])) _
      refine XS.aload X70.here hx rfl (hb hby own_d10_28) rfl rfl ?_
      show Steps _ _ _ (T70.setTop (mkF m 30 _ [.ref b70])) _
      refine XS.iload X70.here hx rfl (hb hby own_d10_30) rfl ?_
      show Steps _ _ _ (T70.setTop (mkF m 32 _ [.int (Int32.ofNat i), .ref b70])) _
      refine st76 _ ?_
      show Steps p.tables e below (T76.setTop (mkF m 35 #[rv b1, iv 0, iv (Int32.ofNat cs.length), rv b58, iv (Int32.ofNat i), rv b70] [.int (cs.getD i 0)])) _
      refine XS.sipush X76.here hx rfl (hb hby own_d10_35) ?_
      show Steps _ _ _ (T76.setTop (mkF m 38 _ [.int 255, .int (cs.getD i 0)])) _
      refine XS.icmpYes X76.here hx rfl (pc0 := 38) (pc' := 54) rfl (hb hby own_d10_38) rfl (tlt (hg : (255 : Int32) < (cs.getD i 0))).2.2.1 (by decide) (by decide) ?_
      show Steps _ _ _ (T76.setTop (mkF m 54 _ [])) _
      refine XS.aload X76.here hx rfl (hb hby own_d10_54) rfl rfl ?_
      show Steps _ _ _ (T76.setTop (mkF m 56 _ [.ref b70])) _
      exact retOut X76 hx Bd.returns rfl (Or.inr (Or.inr (Or.inr (Or.inr ⟨rfl, rfl, rfl⟩)))) (hb hby own_d10_56) hr
    · show Q_uc Z b1 kc cs h0 n0 _ T76.heap _
      rw [e76]
      exact ⟨b70, kb70, rfl, N76, K75, g72, Or.inr ⟨⟨_, own_gmem cs hil, hg⟩, V70⟩⟩
theorem own_d9_0 : decode jdk_52_method_15_code 0 = .ok (.iload_n 1, 1) := by decide +kernel
theorem own_d9_1 : decode jdk_52_method_15_code 1 = .ok (.aload_n 0, 1) := by decide +kernel
theorem own_d9_2 : decode jdk_52_method_15_code 2 = .ok (.arraylength, 1) := by decide +kernel
theorem own_d9_3 : decode jdk_52_method_15_code 3 = .ok (.isub, 1) := by decide +kernel
theorem own_d9_4 : decode jdk_52_method_15_code 4 = .ok (.bipush 31, 2) := by decide +kernel
theorem own_d9_6 : decode jdk_52_method_15_code 6 = .ok (.iushr, 1) := by decide +kernel
theorem own_d9_7 : decode jdk_52_method_15_code 7 = .ok (.i2b, 1) := by decide +kernel
theorem own_d9_8 : decode jdk_52_method_15_code 8 = .ok (.ireturn, 1) := by decide +kernel
theorem own_ef_cfl (m : MethodId) (x0 : Addr) (x1 : Int32) : entryFrame m #[(.ref x0), (.int x1)] 2 = mkF m 0 #[rv x0, iv x1] [] := by first | (simp [entryFrame, mkF, argsToLocals, Value.category]; done) | rfl
def Q_cfl (Z : State) (t1 : Addr) (kb : ClassId) (vs : List Value) (cs : List Int32) (h0 : Heap) (n0 : Nat) (v : Option Value) (h : Heap) (L : List Loc) : Prop := v = some (.int (0 : Int32)) ∧ Fr n0 L ∧ h = h0
set_option maxRecDepth 65536 in
set_option maxHeartbeats 40000000 in
theorem rm_cfl (l : Launch) (Z : State) (a0 : Array Value) (hw : ∀ d ∈ tables_1, d.before a0 Z = true) (ws : List Jvm.Cond) (t1 : Addr) (kb : ClassId) (vs : List Value) (cs : List Int32) (h0 : Heap) (n0 : Nat) (Z0 : n0 ≤ h0.size) (V1 : Arv Z h0 t1 kb .byte (Int32.ofNat cs.length) vs (.int 0)) (hn0 : 0 < cs.length) (hn4 : cs.length ≤ 4)  :
    MetFree l (⟨"java/lang/StringUTF16", "coderFromArrayLen", "([BI)B"⟩ : MethodName) (head1 (Jvm.Cond.code (⟨"java/lang/StringUTF16", "coderFromArrayLen", "([BI)B"⟩ : MethodName) jdk_52_method_15_code 2 (some .byte) :: ws) ({ frames := 0, cells := 0, slots := 0, locals := 0 } : Room)) (fun a U => a = #[(.ref t1), (.int (Int32.ofNat cs.length))] ∧ Z.Warmed39 U.vm ∧ U.heap = h0) (fun _ _ _ _ _ => True) (fun _ U o U' => ∃ v L, o = .returned v ∧ Q_cfl Z t1 kb vs cs h0 n0 v U'.heap L ∧ FrameEnd U o U' L ({ frames := 0, cells := 0, slots := 0, locals := 0 } : Room).cells ({ frames := 0, cells := 0, slots := 0, locals := 0 } : Room).slots) := by
  refine MetFree.of_bodySF (plainFor_of_name own_pn_5) hisR ?_
  intro p e s m args below meth c s₁ Bd hml0 hP hK
  obtain ⟨rfl, hZ, hh⟩ := hP
  have hx := Bd.exec
  have hby := Bd.bytes
  have hml : c.maxLocals = 2 := hml0
  have hown : s.vm.findClass "java/lang/StringUTF16" = some m.cls := findClass_of_methodNamed Bd.named
  have hnm := (name_of_methodNamed Bd.named Bd.method).1
  have W := own_W hw
  have X0 : Stand p l e ({ frames := 0, cells := 0, slots := 0, locals := 0 } : Room) s m #[(.ref t1), (.int (Int32.ofNat cs.length))] below meth c s₁ [] 0 0 := Stand.of_body Bd
  have e0 : s₁.heap = h0 := by rw [← hh, Bd.state]; rfl
  have N0 := Fr.nil n0
  have pre0 : ∀ tq, Steps p.tables e below (s₁.setTop (mkF m 0 #[rv t1, iv (Int32.ofNat cs.length)] [])) tq → Steps p.tables e below (s₁.setTop (entryFrame m #[(.ref t1), (.int (Int32.ofNat cs.length))] 2)) tq := fun tq k => castTop (own_ef_cfl m t1 (Int32.ofNat cs.length)) k
  obtain ⟨cl77, Ar77, aq77, aS77, aN77, aH77, aG77⟩ := id V1
  obtain ⟨fs, hr, hrun, hended, hW, hsame⟩ := X0.leave (v := some (.int (nar .byte ((own_ushr ((Int32.ofNat cs.length) - (Int32.ofNat cs.length)) (31 : Int32)).toInt8.toInt32)))) (fun h => by rw [Bd.returns] at h; cases h)
  refine ⟨_, _, pre0 _ (?_), hrun, hended, _, _, rfl, ?_, ⟨_, rfl⟩, hW, hsame.mono (by decide) (by decide)⟩
  · show Steps p.tables e below (s₁.setTop (mkF m 0 #[rv t1, iv (Int32.ofNat cs.length)] [])) _
    refine XS.iloadN X0.here hx rfl (hb hby own_d9_0) rfl ?_
    show Steps _ _ _ (s₁.setTop (mkF m 1 _ [.int (Int32.ofNat cs.length)])) _
    refine XS.aloadN X0.here hx rfl (hb hby own_d9_1) rfl rfl ?_
    show Steps _ _ _ (s₁.setTop (mkF m 2 _ [.ref t1, .int (Int32.ofNat cs.length)])) _
    refine X0.arraylength hx (by rw [e0]; exact Ar77.1) (State.isArrayOf_alike hZ.alike Ar77.2.1) (g := (mkF m 2 #[rv t1, iv (Int32.ofNat cs.length)] [.ref t1, .int (Int32.ofNat cs.length)])) rfl rfl (hb hby own_d9_2) _ ?_
    rw [len_of aS77 aN77]
    show Steps p.tables e below (s₁.setTop (mkF m 3 #[rv t1, iv (Int32.ofNat cs.length)] [.int (Int32.ofNat cs.length), .int (Int32.ofNat cs.length)])) _
    refine XS.isub X0.here hx rfl (hb hby own_d9_3) rfl ?_
    show Steps _ _ _ (s₁.setTop (mkF m 4 _ [.int ((Int32.ofNat cs.length) - (Int32.ofNat cs.length))])) _
    refine XS.bipush X0.here hx rfl (hb hby own_d9_4) ?_
    show Steps _ _ _ (s₁.setTop (mkF m 6 _ [.int 31, .int ((Int32.ofNat cs.length) - (Int32.ofNat cs.length))])) _
    refine XS.iushr X0.here hx rfl (hb hby own_d9_6) rfl ?_
    show Steps _ _ _ (s₁.setTop (mkF m 7 _ [.int (own_ushr ((Int32.ofNat cs.length) - (Int32.ofNat cs.length)) (31 : Int32))])) _
    refine XS.i2b X0.here hx rfl (hb hby own_d9_7) rfl ?_
    show Steps _ _ _ (s₁.setTop (mkF m 8 _ [.int ((own_ushr ((Int32.ofNat cs.length) - (Int32.ofNat cs.length)) (31 : Int32)).toInt8.toInt32)])) _
    exact retN X0 hx (t := .byte) Bd.returns (by simp) (hb hby own_d9_8) hr
  · show Q_cfl Z t1 kb vs cs h0 n0 _ s₁.heap _
    rw [e0]
    exact ⟨by rw [own_cfl hn0 hn4], N0, rfl⟩
theorem own_ef_cfw (m : MethodId) (x0 : Addr) (x1 : Int32) : entryFrame m #[(.ref x0), (.int x1)] 2 = mkF m 0 #[rv x0, iv x1] [] := by first | (simp [entryFrame, mkF, argsToLocals, Value.category]; done) | rfl
def Q_cfw (Z : State) (t1 : Addr) (kb : ClassId) (vs : List Value) (cs : List Int32) (h0 : Heap) (n0 : Nat) (v : Option Value) (h : Heap) (L : List Loc) : Prop := v = some (.int (1 : Int32)) ∧ Fr n0 L ∧ h = h0
set_option maxRecDepth 65536 in
set_option maxHeartbeats 40000000 in
theorem rm_cfw (l : Launch) (Z : State) (a0 : Array Value) (hw : ∀ d ∈ tables_1, d.before a0 Z = true) (ws : List Jvm.Cond) (t1 : Addr) (kb : ClassId) (vs : List Value) (cs : List Int32) (h0 : Heap) (n0 : Nat) (Z0 : n0 ≤ h0.size) (V1 : Arv Z h0 t1 kb .byte (Int32.ofNat (2 * cs.length)) vs (.int 0)) (hn0 : 0 < cs.length) (hn4 : cs.length ≤ 4)  :
    MetFree l (⟨"java/lang/StringUTF16", "coderFromArrayLen", "([BI)B"⟩ : MethodName) (head1 (Jvm.Cond.code (⟨"java/lang/StringUTF16", "coderFromArrayLen", "([BI)B"⟩ : MethodName) jdk_52_method_15_code 2 (some .byte) :: ws) ({ frames := 0, cells := 0, slots := 0, locals := 0 } : Room)) (fun a U => a = #[(.ref t1), (.int (Int32.ofNat cs.length))] ∧ Z.Warmed39 U.vm ∧ U.heap = h0) (fun _ _ _ _ _ => True) (fun _ U o U' => ∃ v L, o = .returned v ∧ Q_cfw Z t1 kb vs cs h0 n0 v U'.heap L ∧ FrameEnd U o U' L ({ frames := 0, cells := 0, slots := 0, locals := 0 } : Room).cells ({ frames := 0, cells := 0, slots := 0, locals := 0 } : Room).slots) := by
  refine MetFree.of_bodySF (plainFor_of_name own_pn_5) hisR ?_
  intro p e s m args below meth c s₁ Bd hml0 hP hK
  obtain ⟨rfl, hZ, hh⟩ := hP
  have hx := Bd.exec
  have hby := Bd.bytes
  have hml : c.maxLocals = 2 := hml0
  have hown : s.vm.findClass "java/lang/StringUTF16" = some m.cls := findClass_of_methodNamed Bd.named
  have hnm := (name_of_methodNamed Bd.named Bd.method).1
  have W := own_W hw
  have X0 : Stand p l e ({ frames := 0, cells := 0, slots := 0, locals := 0 } : Room) s m #[(.ref t1), (.int (Int32.ofNat cs.length))] below meth c s₁ [] 0 0 := Stand.of_body Bd
  have e0 : s₁.heap = h0 := by rw [← hh, Bd.state]; rfl
  have N0 := Fr.nil n0
  have pre0 : ∀ tq, Steps p.tables e below (s₁.setTop (mkF m 0 #[rv t1, iv (Int32.ofNat cs.length)] [])) tq → Steps p.tables e below (s₁.setTop (entryFrame m #[(.ref t1), (.int (Int32.ofNat cs.length))] 2)) tq := fun tq k => castTop (own_ef_cfw m t1 (Int32.ofNat cs.length)) k
  obtain ⟨cl78, Ar78, aq78, aS78, aN78, aH78, aG78⟩ := id V1
  obtain ⟨fs, hr, hrun, hended, hW, hsame⟩ := X0.leave (v := some (.int (nar .byte ((own_ushr ((Int32.ofNat cs.length) - (Int32.ofNat (2 * cs.length))) (31 : Int32)).toInt8.toInt32)))) (fun h => by rw [Bd.returns] at h; cases h)
  refine ⟨_, _, pre0 _ (?_), hrun, hended, _, _, rfl, ?_, ⟨_, rfl⟩, hW, hsame.mono (by decide) (by decide)⟩
  · show Steps p.tables e below (s₁.setTop (mkF m 0 #[rv t1, iv (Int32.ofNat cs.length)] [])) _
    refine XS.iloadN X0.here hx rfl (hb hby own_d9_0) rfl ?_
    show Steps _ _ _ (s₁.setTop (mkF m 1 _ [.int (Int32.ofNat cs.length)])) _
    refine XS.aloadN X0.here hx rfl (hb hby own_d9_1) rfl rfl ?_
    show Steps _ _ _ (s₁.setTop (mkF m 2 _ [.ref t1, .int (Int32.ofNat cs.length)])) _
    refine X0.arraylength hx (by rw [e0]; exact Ar78.1) (State.isArrayOf_alike hZ.alike Ar78.2.1) (g := (mkF m 2 #[rv t1, iv (Int32.ofNat cs.length)] [.ref t1, .int (Int32.ofNat cs.length)])) rfl rfl (hb hby own_d9_2) _ ?_
    rw [len_of aS78 aN78]
    show Steps p.tables e below (s₁.setTop (mkF m 3 #[rv t1, iv (Int32.ofNat cs.length)] [.int (Int32.ofNat (2 * cs.length)), .int (Int32.ofNat cs.length)])) _
    refine XS.isub X0.here hx rfl (hb hby own_d9_3) rfl ?_
    show Steps _ _ _ (s₁.setTop (mkF m 4 _ [.int ((Int32.ofNat cs.length) - (Int32.ofNat (2 * cs.length)))])) _
    refine XS.bipush X0.here hx rfl (hb hby own_d9_4) ?_
    show Steps _ _ _ (s₁.setTop (mkF m 6 _ [.int 31, .int ((Int32.ofNat cs.length) - (Int32.ofNat (2 * cs.length)))])) _
    refine XS.iushr X0.here hx rfl (hb hby own_d9_6) rfl ?_
    show Steps _ _ _ (s₁.setTop (mkF m 7 _ [.int (own_ushr ((Int32.ofNat cs.length) - (Int32.ofNat (2 * cs.length))) (31 : Int32))])) _
    refine XS.i2b X0.here hx rfl (hb hby own_d9_7) rfl ?_
    show Steps _ _ _ (s₁.setTop (mkF m 8 _ [.int ((own_ushr ((Int32.ofNat cs.length) - (Int32.ofNat (2 * cs.length))) (31 : Int32)).toInt8.toInt32)])) _
    exact retN X0 hx (t := .byte) Bd.returns (by simp) (hb hby own_d9_8) hr
  · show Q_cfw Z t1 kb vs cs h0 n0 _ s₁.heap _
    rw [e0]
    exact ⟨by rw [own_cfw hn0 hn4], N0, rfl⟩
theorem own_d2_0 : decode jdk_42_method_149_code 0 = .ok (.aload_n 0, 1) := by decide +kernel
theorem own_d2_1 : decode jdk_42_method_149_code 1 = .ok (.invokespecial 1, 3) := by decide +kernel
theorem own_d2_4 : decode jdk_42_method_149_code 4 = .ok (.iload_n 3, 1) := by decide +kernel
theorem own_d2_5 : decode jdk_42_method_149_code 5 = .ok (.ifCond .ne 22, 3) := by decide +kernel
theorem own_d2_27 : decode jdk_42_method_149_code 27 = .ok (.getstatic 38, 3) := by decide +kernel
theorem own_d2_30 : decode jdk_42_method_149_code 30 = .ok (.ifCond .eq 28, 3) := by decide +kernel
theorem own_d2_33 : decode jdk_42_method_149_code 33 = .ok (.aload_n 1, 1) := by decide +kernel
theorem own_d2_34 : decode jdk_42_method_149_code 34 = .ok (.iload_n 2, 1) := by decide +kernel
theorem own_d2_35 : decode jdk_42_method_149_code 35 = .ok (.iload_n 3, 1) := by decide +kernel
theorem own_d2_36 : decode jdk_42_method_149_code 36 = .ok (.invokestatic 177, 3) := by decide +kernel
theorem own_d2_39 : decode jdk_42_method_149_code 39 = .ok (.astore 5, 2) := by decide +kernel
theorem own_d2_41 : decode jdk_42_method_149_code 41 = .ok (.aload_n 0, 1) := by decide +kernel
theorem own_d2_42 : decode jdk_42_method_149_code 42 = .ok (.aload 5, 2) := by decide +kernel
theorem own_d2_44 : decode jdk_42_method_149_code 44 = .ok (.iload_n 3, 1) := by decide +kernel
theorem own_d2_45 : decode jdk_42_method_149_code 45 = .ok (.invokestatic 47, 3) := by decide +kernel
theorem own_pd_6 : parseMethodDescriptor "([BI)B" = some ⟨[(.array .byte), .int], some .byte⟩ := by decide +kernel
theorem own_d2_48 : decode jdk_42_method_149_code 48 = .ok (.putfield 15, 3) := by decide +kernel
theorem own_d2_51 : decode jdk_42_method_149_code 51 = .ok (.aload_n 0, 1) := by decide +kernel
theorem own_d2_52 : decode jdk_42_method_149_code 52 = .ok (.aload 5, 2) := by decide +kernel
theorem own_d2_54 : decode jdk_42_method_149_code 54 = .ok (.putfield 9, 3) := by decide +kernel
theorem own_d2_57 : decode jdk_42_method_149_code 57 = .ok (.return_, 1) := by decide +kernel
theorem own_ef_sn4 (m : MethodId) (x0 : Addr) (x1 : Addr) (x2 : Int32) (x3 : Int32) : entryFrame m #[(.ref x0), (.ref x1), (.int x2), (.int x3), .null] 6 = mkF m 0 #[rv x0, rv x1, iv x2, iv x3, .val .null, .unset] [] := by first | (simp [entryFrame, mkF, argsToLocals, Value.category]; done) | rfl
def Q_sn4 (Z : State) (a1 b1 : Addr) (kc : ClassId) (G1 : Int32) (cs : List Int32) (h0 : Heap) (n0 : Nat) (v : Option Value) (h : Heap) (L : List Loc) : Prop := v = none ∧ Fr n0 L ∧ Keep h0 h [a1] ∧ Exa Z h a1 "java/lang/String" ∧ ∃ t kb, h0.size ≤ t ∧ Fld Z h a1 "java/lang/String" "value" "[B" (.ref t) ∧ (((∀ c ∈ cs, ¬ (255 : Int32) < c) ∧ Fld Z h a1 "java/lang/String" "coder" "B" (.int (0 : Int32)) ∧ Arv Z h t kb .byte (Int32.ofNat cs.length) (own_lows cs) (.int 0)) ∨ ((∃ c ∈ cs, (255 : Int32) < c) ∧ Fld Z h a1 "java/lang/String" "coder" "B" (.int (1 : Int32)) ∧ Arv Z h t kb .byte (Int32.ofNat (2 * cs.length)) (StrChars.Road.wideBytes cs) (.int 0)))
set_option maxRecDepth 65536 in
set_option maxHeartbeats 40000000 in
theorem rm_sn4 (l : Launch) (Z : State) (a0 : Array Value) (hw : ∀ d ∈ tables_1, d.before a0 Z = true) (ws : List Jvm.Cond) (a1 b1 : Addr) (kc : ClassId) (G1 : Int32) (cs : List Int32) (h0 : Heap) (n0 : Nat) (Z0 : n0 ≤ h0.size) (X00 : Old Z n0 h0) (V1 : Arv Z h0 b1 kc .char (Int32.ofNat cs.length) (cs.map Value.int) (.int 0)) (hn0 : 0 < cs.length) (hn4 : cs.length ≤ 4)  (hbs : ∀ c ∈ cs, ¬ c < 0 ∧ ¬ (65535 : Int32) < c) (E1 : Exa Z h0 a1 "java/lang/String") (g1 : n0 ≤ a1) (F1 : Fld Z h0 a1 "java/lang/String" "value" "[B" .null) (F2 : Fld Z h0 a1 "java/lang/String" "coder" "B" (.int (0 : Int32))) (hne : b1 ≠ a1) (O2 : Sta Z Z.heap "java/lang/String" "COMPACT_STRINGS" "Z" (.int G1)) (P5 : ¬ (G1 = (0 : Int32))) (OA : Sta Z Z.heap "java/lang/StringUTF16" "$assertionsDisabled" "Z" (.int (1 : Int32))) (OH : Sta Z Z.heap "java/lang/StringUTF16" "HI_BYTE_SHIFT" "I" (.int (0 : Int32))) (OL : Sta Z Z.heap "java/lang/StringUTF16" "LO_BYTE_SHIFT" "I" (.int (8 : Int32))) :
    MetFree l (⟨"java/lang/String", "<init>", "([CIILjava/lang/Void;)V"⟩ : MethodName) (head1 (Jvm.Cond.code (⟨"java/lang/String", "<init>", "([CIILjava/lang/Void;)V"⟩ : MethodName) jdk_42_method_149_code 6 none :: ws) ({ frames := 4, cells := 2, slots := 12, locals := 66 } : Room)) (fun a U => a = #[(.ref a1), (.ref b1), (.int (0 : Int32)), (.int (Int32.ofNat cs.length)), .null] ∧ Z.Warmed39 U.vm ∧ U.heap = h0) (fun _ _ _ _ _ => True) (fun _ U o U' => ∃ v L, o = .returned v ∧ Q_sn4 Z a1 b1 kc G1 cs h0 n0 v U'.heap L ∧ FrameEnd U o U' L ({ frames := 4, cells := 2, slots := 12, locals := 66 } : Room).cells ({ frames := 4, cells := 2, slots := 12, locals := 66 } : Room).slots) := by
  refine MetFree.of_bodySF (plainFor_of_name own_pn_3) hisR ?_
  intro p e s m args below meth c s₁ Bd hml0 hP hK
  obtain ⟨rfl, hZ, hh⟩ := hP
  have hx := Bd.exec
  have hby := Bd.bytes
  have hml : c.maxLocals = 6 := hml0
  have hown : s.vm.findClass "java/lang/String" = some m.cls := findClass_of_methodNamed Bd.named
  have hnm := (name_of_methodNamed Bd.named Bd.method).1
  have W := own_W hw
  have X0 : Stand p l e ({ frames := 4, cells := 2, slots := 12, locals := 66 } : Room) s m #[(.ref a1), (.ref b1), (.int (0 : Int32)), (.int (Int32.ofNat cs.length)), .null] below meth c s₁ [] 0 0 := Stand.of_body Bd
  have e0 : s₁.heap = h0 := by rw [← hh, Bd.state]; rfl
  have N0 := Fr.nil n0
  have pre0 : ∀ tq, Steps p.tables e below (s₁.setTop (mkF m 0 #[rv a1, rv b1, iv 0, iv (Int32.ofNat cs.length), .val .null, .unset] [])) tq → Steps p.tables e below (s₁.setTop (entryFrame m #[(.ref a1), (.ref b1), (.int (0 : Int32)), (.int (Int32.ofNat cs.length)), .null] 6)) tq := fun tq k => castTop (own_ef_sn4 m a1 b1 (0 : Int32) (Int32.ofNat cs.length)) k
  have K79 : Keep h0 h0 [a1] := Keep.refl h0 [a1]
  obtain ⟨T80, X80, e80, st80⟩ := initO X0 hx hZ hown (W 17 rfl) (W 18 rfl) (W 19 rfl) e0 (g := (mkF m 1 #[rv a1, rv b1, iv 0, iv (Int32.ofNat cs.length), .val .null, .unset] [.ref a1])) rfl (by rw [hml]; rfl) rfl (hb hby own_d2_1) (by decide) (W := 0) (by show 2 * 0 + _ ≤ _; exact Nat.le_of_eq rfl) (by decide)
  obtain ⟨T81, X81, e81, st81⟩ := getS2 X80 hx hZ hown (host := "") (Or.inl (W 20 rfl)) Via.refl e80 (O2.ext X00.2) (g := (mkF m 27 #[rv a1, rv b1, iv 0, iv (Int32.ofNat cs.length), .val .null, .unset] [])) rfl (hb hby own_d2_27)
  obtain ⟨_, _, ⟨T82, L82, k82, n82⟩, -, X82, ⟨Lc82, hQ82, l82, y82, z82⟩, st82⟩ := Jvm.LawKit.callS X81 hx (y := (⟨"java/lang/StringUTF16", "compress", "([CII)[B"⟩ : MethodName)) hown (mvT hZ (W 21 rfl)) (mvT hZ (W 22 rfl)) (mvT hZ (W 23 rfl)) (mvT hZ (W 24 rfl)) (by decide) (backOf (W := 0) (rm_uc l Z a0 hw [] b1 kc cs h0 n0 Z0 X00 V1 hn0 hn4 hbs OA OH OL) hZ (W 24 rfl) (W 23 rfl) (by decide) (by decide)) (g := (mkF m 36 #[rv a1, rv b1, iv 0, iv (Int32.ofNat cs.length), .val .null, .unset] [.int (Int32.ofNat cs.length), .int 0, .ref b1])) rfl (by rw [hml]; rfl) (argsL := [.ref b1, .int 0, .int (Int32.ofNat cs.length)]) (rest := []) (lenOf own_pd_4 rfl) rfl (by show 2 * 0 + _ ≤ _; exact Nat.le_of_eq rfl) (hb hby own_d2_36) (fun _ _ => ⟨rfl, e81, (by decide : 0 + 2 ≤ _), (by decide : 0 + 12 ≤ _)⟩)
  dsimp only [Pt.U, Pt.locs, Pt.cells, Pt.slots] at X82 l82 y82 z82 st82 hQ82
  subst l82 y82 z82
  obtain ⟨b82, kb82, hv82, Nq82, K82, sb82, hcase⟩ := hQ82
  subst hv82
  have N82 := Fr.app N0 Nq82
  have g83 : n0 ≤ b82 := Nat.le_trans Z0 sb82
  have g84 : h0.size ≤ b82 := Nat.le_trans K79.1 sb82
  have Z85 : n0 ≤ T82.heap.size := Nat.le_trans Z0 K82.1
  have O86 : Old Z n0 T82.heap := X00.keep K82 all0
  have K87 : Keep h0 T82.heap [a1] := K79.trans K82 all0
  have G88 : ∀ tq, Steps p.tables e below (T82.setTop (mkF m 39 #[rv a1, rv b1, iv 0, iv (Int32.ofNat cs.length), .val .null, .unset] [.ref b82])) tq → Steps p.tables e below (s₁.setTop (mkF m 0 #[rv a1, rv b1, iv 0, iv (Int32.ofNat cs.length), .val .null, .unset] [])) tq := by
    intro tq kk
    show Steps p.tables e below (s₁.setTop (mkF m 0 #[rv a1, rv b1, iv 0, iv (Int32.ofNat cs.length), .val .null, .unset] [])) _
    refine XS.aloadN X0.here hx rfl (hb hby own_d2_0) rfl rfl ?_
    show Steps _ _ _ (s₁.setTop (mkF m 1 _ [.ref a1])) _
    refine st80 _ ?_
    show Steps p.tables e below (T80.setTop (mkF m 4 #[rv a1, rv b1, iv 0, iv (Int32.ofNat cs.length), .val .null, .unset] [])) _
    refine XS.iloadN X80.here hx rfl (hb hby own_d2_4) rfl ?_
    show Steps _ _ _ (T80.setTop (mkF m 5 _ [.int (Int32.ofNat cs.length)])) _
    refine XS.ifYes X80.here hx rfl (pc0 := 5) (pc' := 27) rfl (hb hby own_d2_5) rfl ((if0 _ _).trans (feq (own_nz hn0 hn4 : ¬ ((Int32.ofNat cs.length) = (0 : Int32)))).2) (by decide) (by decide) ?_
    show Steps _ _ _ (T80.setTop (mkF m 27 _ [])) _
    refine st81 _ ?_
    show Steps p.tables e below (T81.setTop (mkF m 30 #[rv a1, rv b1, iv 0, iv (Int32.ofNat cs.length), .val .null, .unset] [.int G1])) _
    refine XS.ifNo X81.here hx rfl (hb hby own_d2_30) rfl ((if0 _ _).trans (feq (P5 : ¬ (G1 = (0 : Int32)))).1) ?_
    show Steps _ _ _ (T81.setTop (mkF m 33 _ [])) _
    refine XS.aloadN X81.here hx rfl (hb hby own_d2_33) rfl rfl ?_
    show Steps _ _ _ (T81.setTop (mkF m 34 _ [.ref b1])) _
    refine XS.iloadN X81.here hx rfl (hb hby own_d2_34) rfl ?_
    show Steps _ _ _ (T81.setTop (mkF m 35 _ [.int 0, .ref b1])) _
    refine XS.iloadN X81.here hx rfl (hb hby own_d2_35) rfl ?_
    show Steps _ _ _ (T81.setTop (mkF m 36 _ [.int (Int32.ofNat cs.length), .int 0, .ref b1])) _
    refine st82 _ ?_
    exact kk
  rcases hcase with ⟨hg, hA⟩ | ⟨hg, hA⟩
  · obtain ⟨_, _, ⟨T89, L89, k89, n89⟩, -, X89, ⟨Lc89, hQ89, l89, y89, z89⟩, st89⟩ := Jvm.LawKit.callS X82 hx (y := (⟨"java/lang/StringUTF16", "coderFromArrayLen", "([BI)B"⟩ : MethodName)) hown (mvT hZ (W 29 rfl)) (mvT hZ (W 30 rfl)) (mvT hZ (W 23 rfl)) (mvT hZ (W 31 rfl)) (by decide) (backOf (W := 1) (rm_cfl l Z a0 hw [] b82 kb82 (own_lows cs) cs T82.heap n0 Z85 hA hn0 hn4) hZ (W 31 rfl) (W 23 rfl) (by decide) (by decide)) (g := (mkF m 45 #[rv a1, rv b1, iv 0, iv (Int32.ofNat cs.length), .val .null, rv b82] [.int (Int32.ofNat cs.length), .ref b82, .ref a1])) rfl (by rw [hml]; rfl) (argsL := [.ref b82, .int (Int32.ofNat cs.length)]) (rest := [.ref a1]) (lenOf own_pd_6 rfl) rfl (by show 2 * 0 + _ ≤ _; exact Nat.le_of_eq rfl) (hb hby own_d2_45) (fun _ _ => ⟨rfl, rfl, (by decide : 2 + 0 ≤ _), (by decide : 12 + 0 ≤ _)⟩)
    dsimp only [Pt.U, Pt.locs, Pt.cells, Pt.slots] at X89 l89 y89 z89 st89 hQ89
    subst l89 y89 z89
    obtain ⟨rfl, Nq89, e89⟩ := hQ89
    have N89 := Fr.app N82 Nq89
    have f91 := (F2.keep K82 nin0)
    have f92 := (E1.keep K82)
    obtain ⟨T90, h90, X90, e90, W90, st90⟩ := putFN X89 hx hZ hown (W 32 rfl) Via.refl e89 f91 f92 (Or.inr ⟨(W 33 rfl), rfl, hnm⟩) (W 8 rfl) (ty := .byte) (v' := (.int (0 : Int32))) (by decide) rfl rfl (g := (mkF m 48 #[rv a1, rv b1, iv 0, iv (Int32.ofNat cs.length), .val .null, rv b82] [.int 0, .ref a1])) rfl rfl (hb hby own_d2_48)
    have N90 := Fr.snoc X90 N89 g1
    have Fw90 := f91.same W90
    have Z93 : n0 ≤ h90.size := Nat.le_trans Z85 (Keep.of_wr W90).1
    have O94 : Old Z n0 h90 := O86.wr W90 g1
    have K95 : Keep h0 h90 [a1] := K87.wr W90 (Or.inl (List.mem_of_getElem? (i := 0) rfl))
    have f97 := ((F1.keep K82 nin0).other W90 (Or.inr (slot_ne (Or.inr (W 35 rfl)) (Or.inr (W 33 rfl)) (by decide) (t := (.array .byte)) (t' := .byte) (by decide) (by decide))))
    have f98 := (f92.wr W90)
    obtain ⟨T96, h96, X96, e96, W96, st96⟩ := putF X90 hx hZ hown (host := "") (Or.inl (W 34 rfl)) Via.refl e90 f97 f98 (Or.inr ⟨(W 35 rfl), rfl, hnm⟩) (W 8 rfl) (ty := (.array .byte)) (by decide) rfl rfl (g := (mkF m 54 #[rv a1, rv b1, iv 0, iv (Int32.ofNat cs.length), .val .null, rv b82] [.ref b82, .ref a1])) rfl rfl (hb hby own_d2_54)
    have N96 := Fr.snoc X96 N90 g1
    have Fw96 := f97.same W96
    have Z99 : n0 ≤ h96.size := Nat.le_trans Z93 (Keep.of_wr W96).1
    have O100 : Old Z n0 h96 := O94.wr W96 g1
    have K101 : Keep h0 h96 [a1] := K95.wr W96 (Or.inl (List.mem_of_getElem? (i := 0) rfl))
    have f102 := (f98.wr W96)
    have f103 := (Fw90.other W96 (Or.inr (slot_ne (Or.inr (W 33 rfl)) (Or.inr (W 35 rfl)) (by decide) (t := .byte) (t' := (.array .byte)) (by decide) (by decide))))
    have f104 := ((hA.other W90 (Ne.symm (Nat.ne_of_lt (Nat.lt_of_lt_of_le E1.lt sb82)))).other W96 (Ne.symm (Nat.ne_of_lt (Nat.lt_of_lt_of_le E1.lt sb82))))
    obtain ⟨fs, hr, hrun, hended, hW, hsame⟩ := X96.leave (v := none) (fun _ => rfl)
    refine ⟨_, _, pre0 _ (G88 _ (?_)), hrun, hended, _, _, rfl, ?_, ⟨_, rfl⟩, hW, hsame.mono (by decide) (by decide)⟩
    · show Steps p.tables e below (T82.setTop (mkF m 39 #[rv a1, rv b1, iv 0, iv (Int32.ofNat cs.length), .val .null, .unset] [.ref b82])) _
      refine XS.astore X82.here hx rfl (hb hby own_d2_39) rfl rfl (l' := #[rv a1, rv b1, iv 0, iv (Int32.ofNat cs.length), .val .null, rv b82]) rfl ?_
      show Steps _ _ _ (T82.setTop (mkF m 41 _ [])) _
      refine XS.aloadN X82.here hx rfl (hb hby own_d2_41) rfl rfl ?_
      show Steps _ _ _ (T82.setTop (mkF m 42 _ [.ref a1])) _
      refine XS.aload X82.here hx rfl (hb hby own_d2_42) rfl rfl ?_
      show Steps _ _ _ (T82.setTop (mkF m 44 _ [.ref b82, .ref a1])) _
      refine XS.iloadN X82.here hx rfl (hb hby own_d2_44) rfl ?_
      show Steps _ _ _ (T82.setTop (mkF m 45 _ [.int (Int32.ofNat cs.length), .ref b82, .ref a1])) _
      refine st89 _ ?_
      show Steps p.tables e below (T89.setTop (mkF m 48 #[rv a1, rv b1, iv 0, iv (Int32.ofNat cs.length), .val .null, rv b82] [.int 0, .ref a1])) _
      refine st90 _ ?_
      show Steps p.tables e below (T90.setTop (mkF m 51 #[rv a1, rv b1, iv 0, iv (Int32.ofNat cs.length), .val .null, rv b82] [])) _
      refine XS.aloadN X90.here hx rfl (hb hby own_d2_51) rfl rfl ?_
      show Steps _ _ _ (T90.setTop (mkF m 52 _ [.ref a1])) _
      refine XS.aload X90.here hx rfl (hb hby own_d2_52) rfl rfl ?_
      show Steps _ _ _ (T90.setTop (mkF m 54 _ [.ref b82, .ref a1])) _
      refine st96 _ ?_
      show Steps p.tables e below (T96.setTop (mkF m 57 #[rv a1, rv b1, iv 0, iv (Int32.ofNat cs.length), .val .null, rv b82] [])) _
      exact X96.returnOut hx Bd.returns (hb hby own_d2_57) hr
    · show Q_sn4 Z a1 b1 kc G1 cs h0 n0 _ T96.heap _
      rw [e96]
      exact ⟨rfl, N96, K101, f102, b82, kb82, g84, Fw96, Or.inl ⟨hg, f103, f104⟩⟩
  · obtain ⟨_, _, ⟨T105, L105, k105, n105⟩, -, X105, ⟨Lc105, hQ105, l105, y105, z105⟩, st105⟩ := Jvm.LawKit.callS X82 hx (y := (⟨"java/lang/StringUTF16", "coderFromArrayLen", "([BI)B"⟩ : MethodName)) hown (mvT hZ (W 29 rfl)) (mvT hZ (W 30 rfl)) (mvT hZ (W 23 rfl)) (mvT hZ (W 31 rfl)) (by decide) (backOf (W := 1) (rm_cfw l Z a0 hw [] b82 kb82 (StrChars.Road.wideBytes cs) cs T82.heap n0 Z85 hA hn0 hn4) hZ (W 31 rfl) (W 23 rfl) (by decide) (by decide)) (g := (mkF m 45 #[rv a1, rv b1, iv 0, iv (Int32.ofNat cs.length), .val .null, rv b82] [.int (Int32.ofNat cs.length), .ref b82, .ref a1])) rfl (by rw [hml]; rfl) (argsL := [.ref b82, .int (Int32.ofNat cs.length)]) (rest := [.ref a1]) (lenOf own_pd_6 rfl) rfl (by show 2 * 0 + _ ≤ _; exact Nat.le_of_eq rfl) (hb hby own_d2_45) (fun _ _ => ⟨rfl, rfl, (by decide : 2 + 0 ≤ _), (by decide : 12 + 0 ≤ _)⟩)
    dsimp only [Pt.U, Pt.locs, Pt.cells, Pt.slots] at X105 l105 y105 z105 st105 hQ105
    subst l105 y105 z105
    obtain ⟨rfl, Nq105, e105⟩ := hQ105
    have N105 := Fr.app N82 Nq105
    have f107 := (F2.keep K82 nin0)
    have f108 := (E1.keep K82)
    obtain ⟨T106, h106, X106, e106, W106, st106⟩ := putFN X105 hx hZ hown (W 32 rfl) Via.refl e105 f107 f108 (Or.inr ⟨(W 33 rfl), rfl, hnm⟩) (W 8 rfl) (ty := .byte) (v' := (.int (1 : Int32))) (by decide) rfl rfl (g := (mkF m 48 #[rv a1, rv b1, iv 0, iv (Int32.ofNat cs.length), .val .null, rv b82] [.int 1, .ref a1])) rfl rfl (hb hby own_d2_48)
    have N106 := Fr.snoc X106 N105 g1
    have Fw106 := f107.same W106
    have Z109 : n0 ≤ h106.size := Nat.le_trans Z85 (Keep.of_wr W106).1
    have O110 : Old Z n0 h106 := O86.wr W106 g1
    have K111 : Keep h0 h106 [a1] := K87.wr W106 (Or.inl (List.mem_of_getElem? (i := 0) rfl))
    have f113 := ((F1.keep K82 nin0).other W106 (Or.inr (slot_ne (Or.inr (W 35 rfl)) (Or.inr (W 33 rfl)) (by decide) (t := (.array .byte)) (t' := .byte) (by decide) (by decide))))
    have f114 := (f108.wr W106)
    obtain ⟨T112, h112, X112, e112, W112, st112⟩ := putF X106 hx hZ hown (host := "") (Or.inl (W 34 rfl)) Via.refl e106 f113 f114 (Or.inr ⟨(W 35 rfl), rfl, hnm⟩) (W 8 rfl) (ty := (.array .byte)) (by decide) rfl rfl (g := (mkF m 54 #[rv a1, rv b1, iv 0, iv (Int32.ofNat cs.length), .val .null, rv b82] [.ref b82, .ref a1])) rfl rfl (hb hby own_d2_54)
    have N112 := Fr.snoc X112 N106 g1
    have Fw112 := f113.same W112
    have Z115 : n0 ≤ h112.size := Nat.le_trans Z109 (Keep.of_wr W112).1
    have O116 : Old Z n0 h112 := O110.wr W112 g1
    have K117 : Keep h0 h112 [a1] := K111.wr W112 (Or.inl (List.mem_of_getElem? (i := 0) rfl))
    have f118 := (f114.wr W112)
    have f119 := (Fw106.other W112 (Or.inr (slot_ne (Or.inr (W 33 rfl)) (Or.inr (W 35 rfl)) (by decide) (t := .byte) (t' := (.array .byte)) (by decide) (by decide))))
    have f120 := ((hA.other W106 (Ne.symm (Nat.ne_of_lt (Nat.lt_of_lt_of_le E1.lt sb82)))).other W112 (Ne.symm (Nat.ne_of_lt (Nat.lt_of_lt_of_le E1.lt sb82))))
    obtain ⟨fs, hr, hrun, hended, hW, hsame⟩ := X112.leave (v := none) (fun _ => rfl)
    refine ⟨_, _, pre0 _ (G88 _ (?_)), hrun, hended, _, _, rfl, ?_, ⟨_, rfl⟩, hW, hsame.mono (by decide) (by decide)⟩
    · show Steps p.tables e below (T82.setTop (mkF m 39 #[rv a1, rv b1, iv 0, iv (Int32.ofNat cs.length), .val .null, .unset] [.ref b82])) _
      refine XS.astore X82.here hx rfl (hb hby own_d2_39) rfl rfl (l' := #[rv a1, rv b1, iv 0, iv (Int32.ofNat cs.length), .val .null, rv b82]) rfl ?_
      show Steps _ _ _ (T82.setTop (mkF m 41 _ [])) _
      refine XS.aloadN X82.here hx rfl (hb hby own_d2_41) rfl rfl ?_
      show Steps _ _ _ (T82.setTop (mkF m 42 _ [.ref a1])) _
      refine XS.aload X82.here hx rfl (hb hby own_d2_42) rfl rfl ?_
      show Steps _ _ _ (T82.setTop (mkF m 44 _ [.ref b82, .ref a1])) _
      refine XS.iloadN X82.here hx rfl (hb hby own_d2_44) rfl ?_
      show Steps _ _ _ (T82.setTop (mkF m 45 _ [.int (Int32.ofNat cs.length), .ref b82, .ref a1])) _
      refine st105 _ ?_
      show Steps p.tables e below (T105.setTop (mkF m 48 #[rv a1, rv b1, iv 0, iv (Int32.ofNat cs.length), .val .null, rv b82] [.int 1, .ref a1])) _
      refine st106 _ ?_
      show Steps p.tables e below (T106.setTop (mkF m 51 #[rv a1, rv b1, iv 0, iv (Int32.ofNat cs.length), .val .null, rv b82] [])) _
      refine XS.aloadN X106.here hx rfl (hb hby own_d2_51) rfl rfl ?_
      show Steps _ _ _ (T106.setTop (mkF m 52 _ [.ref a1])) _
      refine XS.aload X106.here hx rfl (hb hby own_d2_52) rfl rfl ?_
      show Steps _ _ _ (T106.setTop (mkF m 54 _ [.ref b82, .ref a1])) _
      refine st112 _ ?_
      show Steps p.tables e below (T112.setTop (mkF m 57 #[rv a1, rv b1, iv 0, iv (Int32.ofNat cs.length), .val .null, rv b82] [])) _
      exact X112.returnOut hx Bd.returns (hb hby own_d2_57) hr
    · show Q_sn4 Z a1 b1 kc G1 cs h0 n0 _ T112.heap _
      rw [e112]
      exact ⟨rfl, N112, K117, f118, b82, kb82, g84, Fw112, Or.inr ⟨hg, f119, f120⟩⟩
theorem own_d5_0 : decode jdk_42_method_3_code 0 = .ok (.aload_n 0, 1) := by decide +kernel
theorem own_d5_1 : decode jdk_42_method_3_code 1 = .ok (.aload_n 1, 1) := by decide +kernel
theorem own_d5_2 : decode jdk_42_method_3_code 2 = .ok (.iconst 0, 1) := by decide +kernel
theorem own_d5_3 : decode jdk_42_method_3_code 3 = .ok (.aload_n 1, 1) := by decide +kernel
theorem own_d5_4 : decode jdk_42_method_3_code 4 = .ok (.arraylength, 1) := by decide +kernel
theorem own_d5_5 : decode jdk_42_method_3_code 5 = .ok (.aconst_null, 1) := by decide +kernel
theorem own_d5_6 : decode jdk_42_method_3_code 6 = .ok (.invokespecial 27, 3) := by decide +kernel
theorem own_pd_2 : parseMethodDescriptor "([CIILjava/lang/Void;)V" = some ⟨[(.array .char), .int, .int, (.object "java/lang/Void")], none⟩ := by decide +kernel
theorem own_d5_9 : decode jdk_42_method_3_code 9 = .ok (.return_, 1) := by decide +kernel
theorem own_ef_snew (m : MethodId) (x0 : Addr) (x1 : Addr) : entryFrame m #[(.ref x0), (.ref x1)] 2 = mkF m 0 #[rv x0, rv x1] [] := by first | (simp [entryFrame, mkF, argsToLocals, Value.category]; done) | rfl
def Q_snew (Z : State) (a1 b1 : Addr) (kc : ClassId) (G1 : Int32) (cs : List Int32) (h0 : Heap) (n0 : Nat) (v : Option Value) (h : Heap) (L : List Loc) : Prop := v = none ∧ Fr n0 L ∧ Keep h0 h [a1] ∧ StrB Z h h.size a1 cs
set_option maxRecDepth 65536 in
set_option maxHeartbeats 40000000 in
theorem rm_snew (l : Launch) (Z : State) (a0 : Array Value) (hw : ∀ d ∈ tables_1, d.before a0 Z = true) (ws : List Jvm.Cond) (a1 b1 : Addr) (kc : ClassId) (G1 : Int32) (cs : List Int32) (h0 : Heap) (n0 : Nat) (Z0 : n0 ≤ h0.size) (X00 : Old Z n0 h0) (V1 : Arv Z h0 b1 kc .char (Int32.ofNat cs.length) (cs.map Value.int) (.int 0)) (hn0 : 0 < cs.length) (hn4 : cs.length ≤ 4)  (hbs : ∀ c ∈ cs, ¬ c < 0 ∧ ¬ (65535 : Int32) < c) (E1 : Exa Z h0 a1 "java/lang/String") (g1 : n0 ≤ a1) (F1 : Fld Z h0 a1 "java/lang/String" "value" "[B" .null) (F2 : Fld Z h0 a1 "java/lang/String" "coder" "B" (.int (0 : Int32))) (hne : b1 ≠ a1) (O2 : Sta Z Z.heap "java/lang/String" "COMPACT_STRINGS" "Z" (.int G1)) (P5 : ¬ (G1 = (0 : Int32))) (OA : Sta Z Z.heap "java/lang/StringUTF16" "$assertionsDisabled" "Z" (.int (1 : Int32))) (OH : Sta Z Z.heap "java/lang/StringUTF16" "HI_BYTE_SHIFT" "I" (.int (0 : Int32))) (OL : Sta Z Z.heap "java/lang/StringUTF16" "LO_BYTE_SHIFT" "I" (.int (8 : Int32))) :
    MetFree l (⟨"java/lang/String", "<init>", "([C)V"⟩ : MethodName) (head1 (Jvm.Cond.code (⟨"java/lang/String", "<init>", "([C)V"⟩ : MethodName) jdk_42_method_3_code 2 none :: ws) ({ frames := 5, cells := 2, slots := 12, locals := 84 } : Room)) (fun a U => a = #[(.ref a1), (.ref b1)] ∧ Z.Warmed39 U.vm ∧ U.heap = h0) (fun _ _ _ _ _ => True) (fun _ U o U' => ∃ v L, o = .returned v ∧ Q_snew Z a1 b1 kc G1 cs h0 n0 v U'.heap L ∧ FrameEnd U o U' L ({ frames := 5, cells := 2, slots := 12, locals := 84 } : Room).cells ({ frames := 5, cells := 2, slots := 12, locals := 84 } : Room).slots) := by
  refine MetFree.of_bodySF (plainFor_of_name own_pn_3) hisR ?_
  intro p e s m args below meth c s₁ Bd hml0 hP hK
  obtain ⟨rfl, hZ, hh⟩ := hP
  have hx := Bd.exec
  have hby := Bd.bytes
  have hml : c.maxLocals = 2 := hml0
  have hown : s.vm.findClass "java/lang/String" = some m.cls := findClass_of_methodNamed Bd.named
  have hnm := (name_of_methodNamed Bd.named Bd.method).1
  have W := own_W hw
  have X0 : Stand p l e ({ frames := 5, cells := 2, slots := 12, locals := 84 } : Room) s m #[(.ref a1), (.ref b1)] below meth c s₁ [] 0 0 := Stand.of_body Bd
  have e0 : s₁.heap = h0 := by rw [← hh, Bd.state]; rfl
  have N0 := Fr.nil n0
  have pre0 : ∀ tq, Steps p.tables e below (s₁.setTop (mkF m 0 #[rv a1, rv b1] [])) tq → Steps p.tables e below (s₁.setTop (entryFrame m #[(.ref a1), (.ref b1)] 2)) tq := fun tq k => castTop (own_ef_snew m a1 b1) k
  have K121 : Keep h0 h0 [a1] := Keep.refl h0 [a1]
  obtain ⟨cl122, Ar122, aq122, aS122, aN122, aH122, aG122⟩ := id V1
  obtain ⟨_, _, ⟨T123, L123, k123, n123⟩, -, X123, ⟨Lc123, hQ123, l123, y123, z123⟩, st123⟩ := X0.specialBack hx (y := (⟨"java/lang/String", "<init>", "([CIILjava/lang/Void;)V"⟩ : MethodName)) rfl hown (mvT hZ (W 13 rfl)) (mvT hZ (W 14 rfl)) (mvT hZ (W 16 rfl)) (by decide) (backOf (W := 0) (rm_sn4 l Z a0 hw [] a1 b1 kc G1 cs h0 n0 Z0 X00 V1 hn0 hn4 hbs E1 g1 F1 F2 hne O2 P5 OA OH OL) hZ (W 16 rfl) (W 9 rfl) (by decide) (by decide)) (g := (mkF m 6 #[rv a1, rv b1] [.null, .int (Int32.ofNat cs.length), .int 0, .ref b1, .ref a1])) rfl (by rw [hml]; rfl) (Steps.refl _) (a := a1) (argsL := [.ref b1, .int 0, .int (Int32.ofNat cs.length), .null]) (rest := []) (lenOf own_pd_2 rfl) rfl (by show 2 * 0 + _ ≤ _; exact Nat.le_of_eq rfl) (hb hby own_d5_6) (fun _ _ => ⟨rfl, e0, (by decide : 0 + 2 ≤ _), (by decide : 0 + 12 ≤ _)⟩)
  dsimp only [Pt.U, Pt.locs, Pt.cells, Pt.slots] at X123 l123 y123 z123 st123 hQ123
  subst l123 y123 z123
  obtain ⟨rfl, Nq123, K123, gE123, t123, kb123, st_123, gV123, hcase⟩ := hQ123
  have N123 := Fr.app N0 Nq123
  have Z124 : n0 ≤ T123.heap.size := Nat.le_trans Z0 K123.1
  have O125 : Old Z n0 T123.heap := X00.keep K123 (allS g1 all0)
  have K126 : Keep h0 T123.heap [a1] := K121.trans K123 (allS (Or.inl (List.mem_of_getElem? (i := 0) rfl)) all0)
  have hS : StrB Z T123.heap T123.heap.size a1 cs := by
    rcases hcase with ⟨hg, gC, gA⟩ | ⟨hg, gC, gA⟩
    · exact ⟨gE123.lt, gE123, t123, kb123, 0, _, _, gA.lt, gV123, gC, gA, Or.inl ⟨rfl, rfl, rfl, hg⟩, hbs, (by omega)⟩
    · exact ⟨gE123.lt, gE123, t123, kb123, 1, _, _, gA.lt, gV123, gC, gA, Or.inr ⟨rfl, rfl, rfl, hg⟩, hbs, (by omega)⟩
  obtain ⟨fs, hr, hrun, hended, hW, hsame⟩ := X123.leave (v := none) (fun _ => rfl)
  refine ⟨_, _, pre0 _ (?_), hrun, hended, _, _, rfl, ?_, ⟨_, rfl⟩, hW, hsame.mono (by decide) (by decide)⟩
  · show Steps p.tables e below (s₁.setTop (mkF m 0 #[rv a1, rv b1] [])) _
    refine XS.aloadN X0.here hx rfl (hb hby own_d5_0) rfl rfl ?_
    show Steps _ _ _ (s₁.setTop (mkF m 1 _ [.ref a1])) _
    refine XS.aloadN X0.here hx rfl (hb hby own_d5_1) rfl rfl ?_
    show Steps _ _ _ (s₁.setTop (mkF m 2 _ [.ref b1, .ref a1])) _
    refine XS.iconst X0.here hx rfl (hb hby own_d5_2) ?_
    show Steps _ _ _ (s₁.setTop (mkF m 3 _ [.int 0, .ref b1, .ref a1])) _
    refine XS.aloadN X0.here hx rfl (hb hby own_d5_3) rfl rfl ?_
    show Steps _ _ _ (s₁.setTop (mkF m 4 _ [.ref b1, .int 0, .ref b1, .ref a1])) _
    refine X0.arraylength hx (by rw [e0]; exact Ar122.1) (State.isArrayOf_alike hZ.alike Ar122.2.1) (g := (mkF m 4 #[rv a1, rv b1] [.ref b1, .int 0, .ref b1, .ref a1])) rfl rfl (hb hby own_d5_4) _ ?_
    rw [len_of aS122 aN122]
    show Steps p.tables e below (s₁.setTop (mkF m 5 #[rv a1, rv b1] [.int (Int32.ofNat cs.length), .int 0, .ref b1, .ref a1])) _
    refine XS.aconstNull X0.here hx rfl (hb hby own_d5_5) ?_
    show Steps _ _ _ (s₁.setTop (mkF m 6 _ [.null, .int (Int32.ofNat cs.length), .int 0, .ref b1, .ref a1])) _
    refine st123.trans ?_
    show Steps p.tables e below (T123.setTop (mkF m 9 #[rv a1, rv b1] [])) _
    exact X123.returnOut hx Bd.returns (hb hby own_d5_9) hr
  · show Q_snew Z a1 b1 kc G1 cs h0 n0 _ T123.heap _
    exact ⟨rfl, N123, K126, hS⟩
theorem own_d3_0 : decode jdk_42_method_154_code 0 = .ok (.getstatic 38, 3) := by decide +kernel
theorem own_d3_3 : decode jdk_42_method_154_code 3 = .ok (.ifCond .eq 14, 3) := by decide +kernel
theorem own_d3_6 : decode jdk_42_method_154_code 6 = .ok (.aload_n 0, 1) := by decide +kernel
theorem own_d3_7 : decode jdk_42_method_154_code 7 = .ok (.getfield 15, 3) := by decide +kernel
theorem own_d3_10 : decode jdk_42_method_154_code 10 = .ok (.ifCond .ne 7, 3) := by decide +kernel
theorem own_d3_17 : decode jdk_42_method_154_code 17 = .ok (.iconst 0, 1) := by decide +kernel
theorem own_d3_18 : decode jdk_42_method_154_code 18 = .ok (.ireturn, 1) := by decide +kernel
theorem own_ef_il0 (m : MethodId) (x0 : Addr) : entryFrame m #[(.ref x0)] 1 = mkF m 0 #[rv x0] [] := by first | (simp [entryFrame, mkF, argsToLocals, Value.category]; done) | rfl
def Q_il0 (Z : State) (a1 : Addr) (G1 : Int32) (h0 : Heap) (n0 : Nat) (v : Option Value) (h : Heap) (L : List Loc) : Prop := v = some (.int 0) ∧ Fr n0 L ∧ h = h0
set_option maxRecDepth 65536 in
set_option maxHeartbeats 40000000 in
theorem rm_il0 (l : Launch) (Z : State) (a0 : Array Value) (hw : ∀ d ∈ tables_1, d.before a0 Z = true) (ws : List Jvm.Cond) (a1 : Addr) (G1 : Int32) (h0 : Heap) (n0 : Nat) (Z0 : n0 ≤ h0.size) (X00 : Old Z n0 h0) (F2 : Fld Z h0 a1 "java/lang/String" "coder" "B" (.int (1 : Int32))) (O2 : Sta Z Z.heap "java/lang/String" "COMPACT_STRINGS" "Z" (.int G1)) (P5 : ¬ (G1 = (0 : Int32))) :
    MetFree l (⟨"java/lang/String", "isLatin1", "()Z"⟩ : MethodName) (head1 (Jvm.Cond.code (⟨"java/lang/String", "isLatin1", "()Z"⟩ : MethodName) jdk_42_method_154_code 1 (some .boolean) :: ws) ({ frames := 0, cells := 0, slots := 0, locals := 0 } : Room)) (fun a U => a = #[(.ref a1)] ∧ Z.Warmed39 U.vm ∧ U.heap = h0) (fun _ _ _ _ _ => True) (fun _ U o U' => ∃ v L, o = .returned v ∧ Q_il0 Z a1 G1 h0 n0 v U'.heap L ∧ FrameEnd U o U' L ({ frames := 0, cells := 0, slots := 0, locals := 0 } : Room).cells ({ frames := 0, cells := 0, slots := 0, locals := 0 } : Room).slots) := by
  refine MetFree.of_bodySF (plainFor_of_name own_pn_3) hisR ?_
  intro p e s m args below meth c s₁ Bd hml0 hP hK
  obtain ⟨rfl, hZ, hh⟩ := hP
  have hx := Bd.exec
  have hby := Bd.bytes
  have hml : c.maxLocals = 1 := hml0
  have hown : s.vm.findClass "java/lang/String" = some m.cls := findClass_of_methodNamed Bd.named
  have hnm := (name_of_methodNamed Bd.named Bd.method).1
  have W := own_W hw
  have X0 : Stand p l e ({ frames := 0, cells := 0, slots := 0, locals := 0 } : Room) s m #[(.ref a1)] below meth c s₁ [] 0 0 := Stand.of_body Bd
  have e0 : s₁.heap = h0 := by rw [← hh, Bd.state]; rfl
  have N0 := Fr.nil n0
  have pre0 : ∀ tq, Steps p.tables e below (s₁.setTop (mkF m 0 #[rv a1] [])) tq → Steps p.tables e below (s₁.setTop (entryFrame m #[(.ref a1)] 1)) tq := fun tq k => castTop (own_ef_il0 m a1) k
  obtain ⟨T127, X127, e127, st127⟩ := getS2 X0 hx hZ hown (host := "") (Or.inl (W 20 rfl)) Via.refl e0 (O2.ext X00.2) (g := (mkF m 0 #[rv a1] [])) rfl (hb hby own_d3_0)
  obtain ⟨T128, X128, e128, st128⟩ := getF X127 hx hZ hown (host := "") (Or.inl (W 32 rfl)) Via.refl e127 F2 (g := (mkF m 7 #[rv a1] [.ref a1])) rfl rfl (hb hby own_d3_7)
  obtain ⟨fs, hr, hrun, hended, hW, hsame⟩ := X128.leave (v := some (.int (0 : Int32))) (fun h => by rw [Bd.returns] at h; cases h)
  refine ⟨_, _, pre0 _ (?_), hrun, hended, _, _, rfl, ?_, ⟨_, rfl⟩, hW, hsame.mono (by decide) (by decide)⟩
  · show Steps p.tables e below (s₁.setTop (mkF m 0 #[rv a1] [])) _
    refine st127 _ ?_
    show Steps p.tables e below (T127.setTop (mkF m 3 #[rv a1] [.int G1])) _
    refine XS.ifNo X127.here hx rfl (hb hby own_d3_3) rfl ((if0 _ _).trans (feq (P5 : ¬ (G1 = (0 : Int32)))).1) ?_
    show Steps _ _ _ (T127.setTop (mkF m 6 _ [])) _
    refine XS.aloadN X127.here hx rfl (hb hby own_d3_6) rfl rfl ?_
    show Steps _ _ _ (T127.setTop (mkF m 7 _ [.ref a1])) _
    refine st128 _ ?_
    show Steps p.tables e below (T128.setTop (mkF m 10 #[rv a1] [.int 1])) _
    refine XS.ifYes X128.here hx rfl (pc0 := 10) (pc' := 17) rfl (hb hby own_d3_10) rfl ((if0 _ _).trans (feq ((by decide) : ¬ ((1 : Int32) = (0 : Int32)))).2) (by decide) (by decide) ?_
    show Steps _ _ _ (T128.setTop (mkF m 17 _ [])) _
    refine XS.iconst X128.here hx rfl (hb hby own_d3_17) ?_
    show Steps _ _ _ (T128.setTop (mkF m 18 _ [.int 0])) _
    exact retN X128 hx (t := .boolean) Bd.returns (by simp) (hb hby own_d3_18) hr
  · show Q_il0 Z a1 G1 h0 n0 _ T128.heap _
    rw [e128]
    exact ⟨rfl, N0, rfl⟩
theorem own_d6_0 : decode jdk_42_method_56_code 0 = .ok (.aload_n 0, 1) := by decide +kernel
theorem own_d6_1 : decode jdk_42_method_56_code 1 = .ok (.invokevirtual 492, 3) := by decide +kernel
theorem own_pd_9 : parseMethodDescriptor "()Z" = some ⟨[], some .boolean⟩ := by decide +kernel
theorem own_d6_4 : decode jdk_42_method_56_code 4 = .ok (.ifCond .eq 12, 3) := by decide +kernel
theorem own_d6_16 : decode jdk_42_method_56_code 16 = .ok (.aload_n 0, 1) := by decide +kernel
theorem own_d6_17 : decode jdk_42_method_56_code 17 = .ok (.getfield 9, 3) := by decide +kernel
theorem own_d6_20 : decode jdk_42_method_56_code 20 = .ok (.iload_n 1, 1) := by decide +kernel
theorem own_d6_21 : decode jdk_42_method_56_code 21 = .ok (.invokestatic 498, 3) := by decide +kernel
theorem own_d6_24 : decode jdk_42_method_56_code 24 = .ok (.ireturn, 1) := by decide +kernel
theorem own_ef_sch (m : MethodId) (x0 : Addr) (x1 : Int32) : entryFrame m #[(.ref x0), (.int x1)] 2 = mkF m 0 #[rv x0, iv x1] [] := by first | (simp [entryFrame, mkF, argsToLocals, Value.category]; done) | rfl
def Q_sch (Z : State) (a1 t1 : Addr) (i1 i2 i3 : Int32) (kb : ClassId) (N2 n1 c1 G1 : Int32) (vs : List Value) (G3 : Value) (h0 : Heap) (n0 : Nat) (v : Option Value) (h : Heap) (L : List Loc) : Prop := v = some (.int c1) ∧ Fr n0 L ∧ h = h0
set_option maxRecDepth 65536 in
set_option maxHeartbeats 40000000 in
theorem rm_sch (l : Launch) (Z : State) (a0 : Array Value) (hw : ∀ d ∈ tables_1, d.before a0 Z = true) (ws : List Jvm.Cond) (a1 t1 : Addr) (i1 i2 i3 : Int32) (kb : ClassId) (N2 n1 c1 G1 : Int32) (vs : List Value) (G3 : Value) (h0 : Heap) (n0 : Nat) (Z0 : n0 ≤ h0.size) (X00 : Old Z n0 h0) (E1 : Exa Z h0 a1 "java/lang/String") (F1 : Fld Z h0 a1 "java/lang/String" "value" "[B" (.ref t1)) (F2 : Fld Z h0 a1 "java/lang/String" "coder" "B" (.int (1 : Int32))) (V1 : Arv Z h0 t1 kb .byte N2 vs (.int 0)) (hN : N2 >>> ((1 : Int32) &&& 31) = n1) (hi : ¬ i1 < 0) (hn : i1 < n1) (e2 : i1 <<< ((1 : Int32) &&& 31) = i2) (e3 : i2 + 1 = i3) (b2 : ¬ i2 < 0 ∧ i2 < N2) (b3 : ¬ i3 < 0 ∧ i3 < N2) (v2 : vs.getD i2.toNatClampNeg (.int 0) = .int (StrChars.lo8 c1)) (v3 : vs.getD i3.toNatClampNeg (.int 0) = .int (StrChars.hi8 c1)) (hc : ¬ c1 < 0 ∧ ¬ (65535 : Int32) < c1) (O2 : Sta Z Z.heap "java/lang/String" "COMPACT_STRINGS" "Z" (.int G1)) (P5 : ¬ (G1 = (0 : Int32))) (O4 : Sta Z Z.heap "jdk/internal/util/Preconditions" "SIOOBE_FORMATTER" "Ljava/util/function/BiFunction;" G3) (rG3 : G3.isRef = true) (OA : Sta Z Z.heap "java/lang/StringUTF16" "$assertionsDisabled" "Z" (.int (1 : Int32))) (OH : Sta Z Z.heap "java/lang/StringUTF16" "HI_BYTE_SHIFT" "I" (.int (0 : Int32))) (OL : Sta Z Z.heap "java/lang/StringUTF16" "LO_BYTE_SHIFT" "I" (.int (8 : Int32))) :
    MetFree l (⟨"java/lang/String", "charAt", "(I)C"⟩ : MethodName) (head1 (Jvm.Cond.code (⟨"java/lang/String", "charAt", "(I)C"⟩ : MethodName) jdk_42_method_56_code 2 (some .char) :: ws) ({ frames := 4, cells := 0, slots := 0, locals := 73 } : Room)) (fun a U => a = #[(.ref a1), (.int i1)] ∧ Z.Warmed39 U.vm ∧ U.heap = h0) (fun _ _ _ _ _ => True) (fun _ U o U' => ∃ v L, o = .returned v ∧ Q_sch Z a1 t1 i1 i2 i3 kb N2 n1 c1 G1 vs G3 h0 n0 v U'.heap L ∧ FrameEnd U o U' L ({ frames := 4, cells := 0, slots := 0, locals := 73 } : Room).cells ({ frames := 4, cells := 0, slots := 0, locals := 73 } : Room).slots) := by
  refine MetFree.of_bodySF (plainFor_of_name own_pn_3) hisR ?_
  intro p e s m args below meth c s₁ Bd hml0 hP hK
  obtain ⟨rfl, hZ, hh⟩ := hP
  have hx := Bd.exec
  have hby := Bd.bytes
  have hml : c.maxLocals = 2 := hml0
  have hown : s.vm.findClass "java/lang/String" = some m.cls := findClass_of_methodNamed Bd.named
  have hnm := (name_of_methodNamed Bd.named Bd.method).1
  have W := own_W hw
  have X0 : Stand p l e ({ frames := 4, cells := 0, slots := 0, locals := 73 } : Room) s m #[(.ref a1), (.int i1)] below meth c s₁ [] 0 0 := Stand.of_body Bd
  have e0 : s₁.heap = h0 := by rw [← hh, Bd.state]; rfl
  have N0 := Fr.nil n0
  have pre0 : ∀ tq, Steps p.tables e below (s₁.setTop (mkF m 0 #[rv a1, iv i1] [])) tq → Steps p.tables e below (s₁.setTop (entryFrame m #[(.ref a1), (.int i1)] 2)) tq := fun tq k => castTop (own_ef_sch m a1 i1) k
  obtain ⟨cq129, kq129, q129a, q129b, q129c⟩ := isOf hZ e0 E1
  obtain ⟨_, _, ⟨T129, L129, k129, n129⟩, -, X129, ⟨Lc129, hQ129, l129, y129, z129⟩, st129⟩ := X0.virtualBack hx (y := (⟨"java/lang/String", "isLatin1", "()Z"⟩ : MethodName)) (z := (⟨"java/lang/String", "isLatin1", "()Z"⟩ : MethodName)) hown (mvT hZ (W 49 rfl)) (mvT hZ (W 50 rfl)) (notFace_of_selects (args := #[]) (mvT hZ (W 52 rfl))) (mvT hZ (W 52 rfl)) (mvT hZ (W 51 rfl)) (by decide) (backOf (W := 0) (rm_il0 l Z a0 hw [] a1 G1 h0 n0 Z0 X00 F2 O2 P5) hZ (W 53 rfl) (W 9 rfl) (by decide) (by decide)) q129a q129c (g := (mkF m 1 #[rv a1, iv i1] [.ref a1])) rfl (by rw [hml]; rfl) (Steps.refl _) (argsL := []) (rest := []) (lenOf own_pd_9 rfl) rfl (by show 2 * 0 + _ ≤ _; exact Nat.le_of_eq rfl) (hb hby own_d6_1) (fun _ _ => ⟨rfl, e0, (by decide : 0 + 0 ≤ _), (by decide : 0 + 0 ≤ _)⟩)
  dsimp only [Pt.U, Pt.locs, Pt.cells, Pt.slots] at X129 l129 y129 z129 st129 hQ129
  subst l129 y129 z129
  obtain ⟨rfl, Nq129, e129⟩ := hQ129
  have N129 := Fr.app N0 Nq129
  obtain ⟨T130, X130, e130, st130⟩ := getF X129 hx hZ hown (host := "") (Or.inl (W 34 rfl)) Via.refl e129 F1 (g := (mkF m 17 #[rv a1, iv i1] [.ref a1])) rfl rfl (hb hby own_d6_17)
  obtain ⟨_, _, ⟨T131, L131, k131, n131⟩, -, X131, ⟨Lc131, hQ131, l131, y131, z131⟩, st131⟩ := Jvm.LawKit.callS X130 hx (y := (⟨"java/lang/StringUTF16", "charAt", "([BI)C"⟩ : MethodName)) hown (mvT hZ (W 85 rfl)) (mvT hZ (W 86 rfl)) (mvT hZ (W 23 rfl)) (mvT hZ (W 87 rfl)) (by decide) (backOf (W := 0) (rm_uch l Z a0 hw [] t1 i1 i2 i3 kb N2 n1 c1 vs G3 h0 n0 Z0 X00 V1 hN hi hn e2 e3 b2 b3 v2 v3 hc O4 rG3 OA OH OL) hZ (W 87 rfl) (W 23 rfl) (by decide) (by decide)) (g := (mkF m 21 #[rv a1, iv i1] [.int i1, .ref t1])) rfl (by rw [hml]; rfl) (argsL := [.ref t1, .int i1]) (rest := []) (lenOf own_pd_10 rfl) rfl (by show 2 * 0 + _ ≤ _; exact Nat.le_of_eq rfl) (hb hby own_d6_21) (fun _ _ => ⟨rfl, e130, (by decide : 0 + 0 ≤ _), (by decide : 0 + 0 ≤ _)⟩)
  dsimp only [Pt.U, Pt.locs, Pt.cells, Pt.slots] at X131 l131 y131 z131 st131 hQ131
  subst l131 y131 z131
  obtain ⟨rfl, Nq131, e131⟩ := hQ131
  have N131 := Fr.app N129 Nq131
  obtain ⟨fs, hr, hrun, hended, hW, hsame⟩ := X131.leave (v := some (.int (nar .char c1))) (fun h => by rw [Bd.returns] at h; cases h)
  refine ⟨_, _, pre0 _ (?_), hrun, hended, _, _, rfl, ?_, ⟨_, rfl⟩, hW, hsame.mono (by decide) (by decide)⟩
  · show Steps p.tables e below (s₁.setTop (mkF m 0 #[rv a1, iv i1] [])) _
    refine XS.aloadN X0.here hx rfl (hb hby own_d6_0) rfl rfl ?_
    show Steps _ _ _ (s₁.setTop (mkF m 1 _ [.ref a1])) _
    refine st129.trans ?_
    show Steps p.tables e below (T129.setTop (mkF m 4 #[rv a1, iv i1] [.int 0])) _
    refine XS.ifYes X129.here hx rfl (pc0 := 4) (pc' := 16) rfl (hb hby own_d6_4) rfl ((if0 _ _).trans (teq (rfl : (0 : Int32) = (0 : Int32))).1) (by decide) (by decide) ?_
    show Steps _ _ _ (T129.setTop (mkF m 16 _ [])) _
    refine XS.aloadN X129.here hx rfl (hb hby own_d6_16) rfl rfl ?_
    show Steps _ _ _ (T129.setTop (mkF m 17 _ [.ref a1])) _
    refine st130 _ ?_
    show Steps p.tables e below (T130.setTop (mkF m 20 #[rv a1, iv i1] [.ref t1])) _
    refine XS.iloadN X130.here hx rfl (hb hby own_d6_20) rfl ?_
    show Steps _ _ _ (T130.setTop (mkF m 21 _ [.int i1, .ref t1])) _
    refine st131 _ ?_
    show Steps p.tables e below (T131.setTop (mkF m 24 #[rv a1, iv i1] [.int c1])) _
    exact retN X131 hx (t := .char) Bd.returns (by simp) (hb hby own_d6_24) hr
  · show Q_sch Z a1 t1 i1 i2 i3 kb N2 n1 c1 G1 vs G3 h0 n0 _ T131.heap _
    rw [e131]
    exact ⟨by rw [own_narc c1 hc.1 hc.2], N131, rfl⟩
set_option maxRecDepth 65536 in
theorem own_chS {p : Program} {l : Launch} {e : Env} {R : Room} {s : State} {args : Array Value} {below : List Frame} {len W : Nat} {Z : State} {a0 : Array Value} {h : Heap} (hZ : Z.Warmed39 s.vm) (hw : ∀ d ∈ tables_1, d.before a0 Z = true)
    {x : Addr} {k i n0 : Nat} {j : Int32} {cs : List Int32} (Z0 : n0 ≤ h.size) (X00 : Old Z n0 h) (F : StrB Z h k x cs) (hi : i < cs.length) (hj : j = Int32.ofNat i) {G1 : Int32} {G3 : Value} (O2 : Sta Z Z.heap "java/lang/String" "COMPACT_STRINGS" "Z" (.int G1)) (P5 : ¬ (G1 = (0 : Int32))) (O4 : Sta Z Z.heap "jdk/internal/util/Preconditions" "SIOOBE_FORMATTER" "Ljava/util/function/BiFunction;" G3) (rG3 : G3.isRef = true) (OA : Sta Z Z.heap "java/lang/StringUTF16" "$assertionsDisabled" "Z" (.int (1 : Int32))) (OH : Sta Z Z.heap "java/lang/StringUTF16" "HI_BYTE_SHIFT" "I" (.int (0 : Int32))) (OL : Sta Z Z.heap "java/lang/StringUTF16" "LO_BYTE_SHIFT" "I" (.int (8 : Int32))) (hfr : 5 ≤ R.frames) (hlo : W + (2 + 11) + 73 ≤ R.locals) :
    Back l R p e below s args (⟨"java/lang/String", "charAt", "(I)C"⟩ : MethodName) len W (fun P a => a = #[.ref x, .int j] ∧ P.U.heap = h ∧ P.cells + 0 ≤ R.cells ∧ P.slots + 0 ≤ R.slots)
      (fun P _ v B => ∃ L, (v = some (.int (cs.getD i 0)) ∧ Fr n0 L ∧ B.U.heap = h) ∧ B.locs = P.locs ++ L ∧ B.cells = P.cells + 0 ∧ B.slots = P.slots + 0) := by
  obtain ⟨_, E1, t, kb, cd, N2, vs, _, V1, C1, K1, hc, hb, hl⟩ := F
  have hcb : ¬ cs.getD i 0 < 0 ∧ ¬ (65535 : Int32) < cs.getD i 0 := by
    have e : cs.getD i 0 = cs[i] := by simp [List.getD_eq_getElem?_getD, hi]
    rw [e]; exact hb _ (List.getElem_mem hi)
  have hc' := hc
  rcases hc with ⟨rfl, hN, hv, hle⟩ | ⟨rfl, rfl, rfl, hgt⟩
  · have hch : ∀ d ∈ StrChars.Road.wordsChN, d.before a0 Z = true := fun d hd => hw d ((by decide +kernel : ∀ d ∈ StrChars.Road.wordsChN, d ∈ tables_1) d hd)
    refine Back.mono (StrChars.Road.chN (W := W) hZ hch (kI := 4) (own_W hw 8 rfl) E1 V1 C1 K1 hc' hb (O2.ext X00.2) P5 (O4.ext X00.2) rG3 hl hi hj (by omega) (by omega)) (fun P a hp => hp) (fun P a v B hp hq => ?_)
    obtain ⟨L, ⟨q1, q2, q3⟩, q4⟩ := hq
    exact ⟨L, ⟨q1, by rw [q2]; exact Fr.nil n0, q3⟩, q4⟩
  · subst hj
    refine backOf (W := W) (rm_sch l Z a0 hw [] x t (Int32.ofNat i) (Int32.ofNat (2 * i)) (Int32.ofNat (2 * i + 1)) kb (Int32.ofNat (2 * cs.length)) (Int32.ofNat cs.length) (cs.getD i 0) G1 (StrChars.Road.wideBytes cs) G3 h n0 Z0 X00 E1 V1 C1 K1 (StrChars.shr1 (by omega)) (own_nn (by omega)) ((own_ltI (by omega) (by omega)).mpr hi) (own_ofNat2 (by omega)) (own_one _) ⟨own_nn (by omega), (own_ltI (by omega) (by omega)).mpr (by omega)⟩ ⟨own_nn (by omega), (own_ltI (by omega) (by omega)).mpr (by omega)⟩ (by rw [own_n32 (by omega)]; exact StrChars.Road.wide_lo _ cs i hi) (by rw [own_n32 (by omega)]; exact StrChars.Road.wide_hi _ cs i hi) hcb O2 P5 O4 rG3 OA OH OL) hZ (own_W hw 48 rfl) (own_W hw 9 rfl) hfr hlo
theorem own_staI {s : State} {args : Array Value} {C n d : String} {k : Int32} (h : (Jvm.Cond.eq (Jvm.Term.static C n d) (Jvm.Term.int k)).before args s = true) (hi : (Jvm.Cond.initializedFor C n d).before args s = true) : Sta s s.heap C n d (.int k) := by
  have hv := Cond.before_iff.mp h
  obtain ⟨x, y, ex, ey, k1, k2⟩ := cmp_v (Or.inl hv)
  have ey' : (Jvm.Term.int k).eval args s none [] s = some (.int k) := Term.int_eval k
  rw [ey'] at ey; cases ey
  obtain ⟨z, hz⟩ := k2
  subst hz
  have : z = k := by simpa [Cond.value, ex, ey'] using hv
  subst this
  exact Sta.start ex (Or.inl hi)
theorem own_charb (y : Int32) : ¬ nar .char y < 0 ∧ ¬ (65535 : Int32) < nar .char y := by
  have h := fits_nar_char y
  simp only [fits, Bool.and_eq_true, decide_eq_true_eq] at h
  exact ⟨Int32.not_lt.mpr h.1, Int32.not_lt.mpr h.2⟩
def own_dig (c : Int32) : Prop := ¬ c < (48 : Int32) ∧ ¬ (57 : Int32) < c
def own_ok (c i f t : Int32) : Prop := i < f ∨ ¬ i < t ∨ own_dig c
theorem own_all {c0 c1 c2 c3 : Int32} {f t : Nat} (ht : t ≤ 4) (hf : f ≤ t) : (∀ j, f ≤ j → j < t → own_dig ([c0, c1, c2, c3].getD j 0)) ↔ (own_ok c0 0 (Int32.ofNat f) (Int32.ofNat t) ∧ own_ok c1 1 (Int32.ofNat f) (Int32.ofNat t) ∧ own_ok c2 2 (Int32.ofNat f) (Int32.ofNat t) ∧ own_ok c3 3 (Int32.ofNat f) (Int32.ofNat t)) := by
  have L : ∀ i n : Nat, i ≤ 4 → n ≤ 4 → (Int32.ofNat i < Int32.ofNat n ↔ i < n) := fun i n hi hn => own_ltI (by omega) (by omega)
  have key : ∀ (i : Nat) (c : Int32), i ≤ 3 → (own_ok c (Int32.ofNat i) (Int32.ofNat f) (Int32.ofNat t) ↔ (f ≤ i → i < t → own_dig c)) := by
    intro i c hi
    unfold own_ok
    rw [L i f (by omega) (by omega), L i t (by omega) (by omega)]
    constructor
    · rintro (h | h | h) h1 h2
      · omega
      · omega
      · exact h
    · intro h
      by_cases h1 : i < f
      · exact Or.inl h1
      · by_cases h2 : i < t
        · exact Or.inr (Or.inr (h (by omega) h2))
        · exact Or.inr (Or.inl h2)
  have k0 := key 0 c0 (by decide); have k1 := key 1 c1 (by decide); have k2 := key 2 c2 (by decide); have k3 := key 3 c3 (by decide)
  rw [show (0 : Int32) = Int32.ofNat 0 from rfl, show (1 : Int32) = Int32.ofNat 1 from rfl, show (2 : Int32) = Int32.ofNat 2 from rfl, show (3 : Int32) = Int32.ofNat 3 from rfl, k0, k1, k2, k3]
  constructor
  · intro h; exact ⟨h 0, h 1, h 2, h 3⟩
  · rintro ⟨a, b, c, d⟩ j h1 h2
    rcases (show j = 0 ∨ j = 1 ∨ j = 2 ∨ j = 3 by omega) with rfl | rfl | rfl | rfl
    · exact a h1 h2
    · exact b h1 h2
    · exact c h1 h2
    · exact d h1 h2
theorem own_mask31 (x : Int32) : 0 ≤ (x &&& 2147483647).toInt := by
  have h1 : (x &&& 2147483647).toBitVec.toNat < 2147483648 := own_andlt _ _ (by decide)
  show 0 ≤ BitVec.toInt _
  rw [BitVec.toInt_eq_toNat_of_lt (by omega)]; exact Int.natCast_nonneg _
theorem own_ofInt {x : Int32} {n : Nat} (h : x.toInt = n) : x = Int32.ofNat n := by
  apply Int32.toInt_inj.mp
  have h1 := x.toInt_lt; have h2 := x.le_toInt
  rw [h, Int32.toInt_ofNat_of_lt (by omega)]
theorem own_bm {n : Int} (h1 : 0 ≤ n) (h2 : n < 2147483648) : n.bmod (2 ^ 32) = n := Int.bmod_eq_of_le (Int.le_trans (by decide) h1) (Int.lt_of_lt_of_le h2 (by decide))
theorem own_ft (p q : Int32) : ∃ f t : Nat, f ≤ t ∧ t ≤ 4 ∧ (p &&& 2147483647) % (5 : Int32) = Int32.ofNat f ∧ ¬ ((5 : Int32) - Int32.ofNat f = (0 : Int32)) ∧ Int32.ofNat f + (q &&& 2147483647) % ((5 : Int32) - Int32.ofNat f) = Int32.ofNat t := by
  have hp := own_mask31 p; have hq := own_mask31 q
  generalize p &&& 2147483647 = A at *
  generalize q &&& 2147483647 = B at *
  have e5 : (5 : Int32).toInt = 5 := rfl
  have hA : (A % 5).toInt = A.toInt % 5 := by rw [Int32.toInt_mod, e5, Int.tmod_eq_emod_of_nonneg hp]
  have a0 := Int.emod_nonneg A.toInt (show (5 : Int) ≠ 0 by decide)
  have a1 := Int.emod_lt_of_pos A.toInt (show (0 : Int) < 5 by decide)
  obtain ⟨f, hf⟩ : ∃ f : Nat, A.toInt % 5 = f := ⟨(A.toInt % 5).toNat, by omega⟩
  have ef : A % 5 = Int32.ofNat f := own_ofInt (by rw [hA, hf])
  have hff : (Int32.ofNat f).toInt = f := Int32.toInt_ofNat_of_lt (by omega)
  have hS : ((5 : Int32) - Int32.ofNat f).toInt = 5 - f := by rw [Int32.toInt_sub, e5, hff, Int.bmod_def]; omega
  have hB : (B % ((5 : Int32) - Int32.ofNat f)).toInt = B.toInt % (5 - f) := by rw [Int32.toInt_mod, hS, Int.tmod_eq_emod_of_nonneg hq]
  have b0 := Int.emod_nonneg B.toInt (show (5 - f : Int) ≠ 0 by omega)
  have b1 := Int.emod_lt_of_pos B.toInt (show (0 : Int) < 5 - f by omega)
  obtain ⟨g, hg⟩ : ∃ g : Nat, B.toInt % (5 - f) = g := ⟨(B.toInt % (5 - f)).toNat, by omega⟩
  refine ⟨f, f + g, by omega, by omega, ef, fun q => ?_, ?_⟩
  · have := congrArg Int32.toInt q; rw [hS, show (0 : Int32).toInt = 0 from rfl] at this; omega
  · apply own_ofInt
    rw [Int32.toInt_add, hff, hB, hg, own_bm (by omega) (by omega)]; omega
theorem own_pn_1 : plainName "com/example/pensionwright/pensionwright/input/DatesAllDigitsPinLaw" = true := by decide +kernel
theorem own_d19_0 : decode method_3_code 0 = .ok (.iload_n 0, 1) := by decide +kernel
theorem own_d19_1 : decode method_3_code 1 = .ok (.ldc 29, 2) := by decide +kernel
theorem own_d19_3 : decode method_3_code 3 = .ok (.iand, 1) := by decide +kernel
theorem own_d19_4 : decode method_3_code 4 = .ok (.istore_n 1, 1) := by decide +kernel
theorem own_d19_5 : decode method_3_code 5 = .ok (.iload_n 0, 1) := by decide +kernel
theorem own_d19_6 : decode method_3_code 6 = .ok (.ldc 30, 2) := by decide +kernel
theorem own_d19_8 : decode method_3_code 8 = .ok (.iand, 1) := by decide +kernel
theorem own_d19_9 : decode method_3_code 9 = .ok (.ifCond .eq 14, 3) := by decide +kernel
theorem own_d19_23 : decode method_3_code 23 = .ok (.iload_n 1, 1) := by decide +kernel
theorem own_d19_24 : decode method_3_code 24 = .ok (.i2c, 1) := by decide +kernel
theorem own_d19_25 : decode method_3_code 25 = .ok (.ireturn, 1) := by decide +kernel
theorem own_d19_12 : decode method_3_code 12 = .ok (.bipush 47, 2) := by decide +kernel
theorem own_d19_14 : decode method_3_code 14 = .ok (.iload_n 0, 1) := by decide +kernel
theorem own_d19_15 : decode method_3_code 15 = .ok (.bipush 17, 2) := by decide +kernel
theorem own_d19_17 : decode method_3_code 17 = .ok (.iushr, 1) := by decide +kernel
theorem own_d19_18 : decode method_3_code 18 = .ok (.bipush 12, 2) := by decide +kernel
theorem own_d19_20 : decode method_3_code 20 = .ok (.irem, 1) := by decide +kernel
theorem own_d19_21 : decode method_3_code 21 = .ok (.iadd, 1) := by decide +kernel
theorem own_d19_22 : decode method_3_code 22 = .ok (.istore_n 1, 1) := by decide +kernel
theorem own_ef_ch (m : MethodId) (x0 : Int32) : entryFrame m #[(.int x0)] 2 = mkF m 0 #[iv x0, .unset] [] := by first | (simp [entryFrame, mkF, argsToLocals, Value.category]; done) | rfl
def Q_ch (Z : State) (p1 : Int32) (h0 : Heap) (n0 : Nat) (v : Option Value) (h : Heap) (L : List Loc) : Prop := ∃ c, v = some (.int c) ∧ (¬ c < 0 ∧ ¬ (65535 : Int32) < c) ∧ Fr n0 L ∧ h = h0
set_option maxRecDepth 65536 in
set_option maxHeartbeats 40000000 in
theorem rm_ch (l : Launch) (Z : State) (a0 : Array Value) (hw : ∀ d ∈ tables_1, d.before a0 Z = true) (ws : List Jvm.Cond) (p1 : Int32) (h0 : Heap) (n0 : Nat) (Z0 : n0 ≤ h0.size)  :
    MetFree l (⟨"com/example/pensionwright/pensionwright/input/DatesAllDigitsPinLaw", "ch", "(I)C"⟩ : MethodName) (head1 (Jvm.Cond.code (⟨"com/example/pensionwright/pensionwright/input/DatesAllDigitsPinLaw", "ch", "(I)C"⟩ : MethodName) method_3_code 2 (some .char) :: ws) ({ frames := 0, cells := 0, slots := 0, locals := 0 } : Room)) (fun a U => a = #[(.int p1)] ∧ Z.Warmed39 U.vm ∧ U.heap = h0) (fun _ _ _ _ _ => True) (fun _ U o U' => ∃ v L, o = .returned v ∧ Q_ch Z p1 h0 n0 v U'.heap L ∧ FrameEnd U o U' L ({ frames := 0, cells := 0, slots := 0, locals := 0 } : Room).cells ({ frames := 0, cells := 0, slots := 0, locals := 0 } : Room).slots) := by
  refine MetFree.of_bodySF (plainFor_of_name own_pn_1) hisR ?_
  intro p e s m args below meth c s₁ Bd hml0 hP hK
  obtain ⟨rfl, hZ, hh⟩ := hP
  have hx := Bd.exec
  have hby := Bd.bytes
  have hml : c.maxLocals = 2 := hml0
  have hown : s.vm.findClass "com/example/pensionwright/pensionwright/input/DatesAllDigitsPinLaw" = some m.cls := findClass_of_methodNamed Bd.named
  have hnm := (name_of_methodNamed Bd.named Bd.method).1
  have W := own_W hw
  have X0 : Stand p l e ({ frames := 0, cells := 0, slots := 0, locals := 0 } : Room) s m #[(.int p1)] below meth c s₁ [] 0 0 := Stand.of_body Bd
  have e0 : s₁.heap = h0 := by rw [← hh, Bd.state]; rfl
  have N0 := Fr.nil n0
  have pre0 : ∀ tq, Steps p.tables e below (s₁.setTop (mkF m 0 #[iv p1, .unset] [])) tq → Steps p.tables e below (s₁.setTop (entryFrame m #[(.int p1)] 2)) tq := fun tq k => castTop (own_ef_ch m p1) k
  have G132 : ∀ tq, Steps p.tables e below (s₁.setTop (mkF m 9 #[iv p1, iv (p1 &&& (65535 : Int32))] [.int (p1 &&& (65536 : Int32))])) tq → Steps p.tables e below (s₁.setTop (mkF m 0 #[iv p1, .unset] [])) tq := by
    intro tq kk
    show Steps p.tables e below (s₁.setTop (mkF m 0 #[iv p1, .unset] [])) _
    refine XS.iloadN X0.here hx rfl (hb hby own_d19_0) rfl ?_
    show Steps _ _ _ (s₁.setTop (mkF m 1 _ [.int p1])) _
    refine Jvm.Stand.ldcI X0 hx hown (mvT hZ (W 4 rfl)) rfl (hb hby own_d19_1) ?_
    show Steps _ _ _ (s₁.setTop (mkF m 3 _ [.int 65535, .int p1])) _
    refine XS.iand X0.here hx rfl (hb hby own_d19_3) rfl ?_
    show Steps _ _ _ (s₁.setTop (mkF m 4 _ [.int (p1 &&& (65535 : Int32))])) _
    refine XS.istoreN X0.here hx rfl (hb hby own_d19_4) rfl (l' := #[iv p1, iv (p1 &&& (65535 : Int32))]) rfl ?_
    show Steps _ _ _ (s₁.setTop (mkF m 5 _ [])) _
    refine XS.iloadN X0.here hx rfl (hb hby own_d19_5) rfl ?_
    show Steps _ _ _ (s₁.setTop (mkF m 6 _ [.int p1])) _
    refine Jvm.Stand.ldcI X0 hx hown (mvT hZ (W 5 rfl)) rfl (hb hby own_d19_6) ?_
    show Steps _ _ _ (s₁.setTop (mkF m 8 _ [.int 65536, .int p1])) _
    refine XS.iand X0.here hx rfl (hb hby own_d19_8) rfl ?_
    exact kk
  by_cases hc : (p1 &&& (65536 : Int32)) = (0 : Int32)
  · obtain ⟨fs, hr, hrun, hended, hW, hsame⟩ := X0.leave (v := some (.int (nar .char ((p1 &&& (65535 : Int32)).toUInt32.toUInt16.toUInt32.toInt32)))) (fun h => by rw [Bd.returns] at h; cases h)
    refine ⟨_, _, pre0 _ (G132 _ (?_)), hrun, hended, _, _, rfl, ?_, ⟨_, rfl⟩, hW, hsame.mono (by decide) (by decide)⟩
    · show Steps p.tables e below (s₁.setTop (mkF m 9 #[iv p1, iv (p1 &&& (65535 : Int32))] [.int (p1 &&& (65536 : Int32))])) _
      refine XS.ifYes X0.here hx rfl (pc0 := 9) (pc' := 23) rfl (hb hby own_d19_9) rfl ((if0 _ _).trans (teq (hc : (p1 &&& (65536 : Int32)) = (0 : Int32))).1) (by decide) (by decide) ?_
      show Steps _ _ _ (s₁.setTop (mkF m 23 _ [])) _
      refine XS.iloadN X0.here hx rfl (hb hby own_d19_23) rfl ?_
      show Steps _ _ _ (s₁.setTop (mkF m 24 _ [.int (p1 &&& (65535 : Int32))])) _
      refine XS.i2c X0.here hx rfl (hb hby own_d19_24) rfl ?_
      show Steps _ _ _ (s₁.setTop (mkF m 25 _ [.int ((p1 &&& (65535 : Int32)).toUInt32.toUInt16.toUInt32.toInt32)])) _
      exact retN X0 hx (t := .char) Bd.returns (by simp) (hb hby own_d19_25) hr
    · show Q_ch Z p1 h0 n0 _ s₁.heap _
      rw [e0]
      exact ⟨_, rfl, own_charb _, N0, rfl⟩
  · obtain ⟨fs, hr, hrun, hended, hW, hsame⟩ := X0.leave (v := some (.int (nar .char (((47 : Int32) + ((own_ushr p1 (17 : Int32)) % (12 : Int32))).toUInt32.toUInt16.toUInt32.toInt32)))) (fun h => by rw [Bd.returns] at h; cases h)
    refine ⟨_, _, pre0 _ (G132 _ (?_)), hrun, hended, _, _, rfl, ?_, ⟨_, rfl⟩, hW, hsame.mono (by decide) (by decide)⟩
    · show Steps p.tables e below (s₁.setTop (mkF m 9 #[iv p1, iv (p1 &&& (65535 : Int32))] [.int (p1 &&& (65536 : Int32))])) _
      refine XS.ifNo X0.here hx rfl (hb hby own_d19_9) rfl ((if0 _ _).trans (feq (hc : ¬ ((p1 &&& (65536 : Int32)) = (0 : Int32)))).1) ?_
      show Steps _ _ _ (s₁.setTop (mkF m 12 _ [])) _
      refine XS.bipush X0.here hx rfl (hb hby own_d19_12) ?_
      show Steps _ _ _ (s₁.setTop (mkF m 14 _ [.int 47])) _
      refine XS.iloadN X0.here hx rfl (hb hby own_d19_14) rfl ?_
      show Steps _ _ _ (s₁.setTop (mkF m 15 _ [.int p1, .int 47])) _
      refine XS.bipush X0.here hx rfl (hb hby own_d19_15) ?_
      show Steps _ _ _ (s₁.setTop (mkF m 17 _ [.int 17, .int p1, .int 47])) _
      refine XS.iushr X0.here hx rfl (hb hby own_d19_17) rfl ?_
      show Steps _ _ _ (s₁.setTop (mkF m 18 _ [.int (own_ushr p1 (17 : Int32)), .int 47])) _
      refine XS.bipush X0.here hx rfl (hb hby own_d19_18) ?_
      show Steps _ _ _ (s₁.setTop (mkF m 20 _ [.int 12, .int (own_ushr p1 (17 : Int32)), .int 47])) _
      refine XS.irem X0.here hx rfl (hb hby own_d19_20) rfl (by decide) ?_
      rw [own_rem_eq (own_ushr p1 (17 : Int32)) (12 : Int32)]
      show Steps p.tables e below (s₁.setTop (mkF m 21 #[iv p1, iv (p1 &&& (65535 : Int32))] [.int ((own_ushr p1 (17 : Int32)) % (12 : Int32)), .int 47])) _
      refine XS.iadd X0.here hx rfl (hb hby own_d19_21) rfl ?_
      show Steps _ _ _ (s₁.setTop (mkF m 22 _ [.int ((47 : Int32) + ((own_ushr p1 (17 : Int32)) % (12 : Int32)))])) _
      refine XS.istoreN X0.here hx rfl (hb hby own_d19_22) rfl (l' := #[iv p1, iv ((47 : Int32) + ((own_ushr p1 (17 : Int32)) % (12 : Int32)))]) rfl ?_
      show Steps _ _ _ (s₁.setTop (mkF m 23 _ [])) _
      refine XS.iloadN X0.here hx rfl (hb hby own_d19_23) rfl ?_
      show Steps _ _ _ (s₁.setTop (mkF m 24 _ [.int ((47 : Int32) + ((own_ushr p1 (17 : Int32)) % (12 : Int32)))])) _
      refine XS.i2c X0.here hx rfl (hb hby own_d19_24) rfl ?_
      show Steps _ _ _ (s₁.setTop (mkF m 25 _ [.int (((47 : Int32) + ((own_ushr p1 (17 : Int32)) % (12 : Int32))).toUInt32.toUInt16.toUInt32.toInt32)])) _
      exact retN X0 hx (t := .char) Bd.returns (by simp) (hb hby own_d19_25) hr
    · show Q_ch Z p1 h0 n0 _ s₁.heap _
      rw [e0]
      exact ⟨_, rfl, own_charb _, N0, rfl⟩
theorem own_d20_0 : decode method_4_code 0 = .ok (.iload_n 1, 1) := by decide +kernel
theorem own_d20_1 : decode method_4_code 1 = .ok (.iload_n 2, 1) := by decide +kernel
theorem own_d20_2 : decode method_4_code 2 = .ok (.if_icmp .lt 8, 3) := by decide +kernel
theorem own_d20_10 : decode method_4_code 10 = .ok (.iconst 1, 1) := by decide +kernel
theorem own_d20_11 : decode method_4_code 11 = .ok (.ireturn, 1) := by decide +kernel
theorem own_d20_5 : decode method_4_code 5 = .ok (.iload_n 1, 1) := by decide +kernel
theorem own_d20_6 : decode method_4_code 6 = .ok (.iload_n 3, 1) := by decide +kernel
theorem own_d20_7 : decode method_4_code 7 = .ok (.if_icmp .lt 5, 3) := by decide +kernel
theorem own_d20_12 : decode method_4_code 12 = .ok (.iload_n 0, 1) := by decide +kernel
theorem own_d20_13 : decode method_4_code 13 = .ok (.bipush 48, 2) := by decide +kernel
theorem own_d20_15 : decode method_4_code 15 = .ok (.if_icmp .lt 13, 3) := by decide +kernel
theorem own_d20_28 : decode method_4_code 28 = .ok (.iconst 0, 1) := by decide +kernel
theorem own_d20_29 : decode method_4_code 29 = .ok (.ireturn, 1) := by decide +kernel
theorem own_d20_18 : decode method_4_code 18 = .ok (.iload_n 0, 1) := by decide +kernel
theorem own_d20_19 : decode method_4_code 19 = .ok (.bipush 57, 2) := by decide +kernel
theorem own_d20_21 : decode method_4_code 21 = .ok (.if_icmp .gt 7, 3) := by decide +kernel
theorem own_d20_24 : decode method_4_code 24 = .ok (.iconst 1, 1) := by decide +kernel
theorem own_d20_25 : decode method_4_code 25 = .ok (.goto 4, 3) := by decide +kernel
theorem own_ef_ok (m : MethodId) (x0 : Int32) (x1 : Int32) (x2 : Int32) (x3 : Int32) : entryFrame m #[(.int x0), (.int x1), (.int x2), (.int x3)] 4 = mkF m 0 #[iv x0, iv x1, iv x2, iv x3] [] := by first | (simp [entryFrame, mkF, argsToLocals, Value.category]; done) | rfl
def Q_ok (Z : State) (c1 i1 f1 t1 : Int32) (h0 : Heap) (n0 : Nat) (v : Option Value) (h : Heap) (L : List Loc) : Prop := Fr n0 L ∧ h = h0 ∧ ((v = some (.int 1) ∧ own_ok c1 i1 f1 t1) ∨ (v = some (.int 0) ∧ ¬ own_ok c1 i1 f1 t1))
set_option maxRecDepth 65536 in
set_option maxHeartbeats 40000000 in
theorem rm_ok (l : Launch) (Z : State) (a0 : Array Value) (hw : ∀ d ∈ tables_1, d.before a0 Z = true) (ws : List Jvm.Cond) (c1 i1 f1 t1 : Int32) (h0 : Heap) (n0 : Nat) (Z0 : n0 ≤ h0.size)  :
    MetFree l (⟨"com/example/pensionwright/pensionwright/input/DatesAllDigitsPinLaw", "ok", "(CIII)Z"⟩ : MethodName) (head1 (Jvm.Cond.code (⟨"com/example/pensionwright/pensionwright/input/DatesAllDigitsPinLaw", "ok", "(CIII)Z"⟩ : MethodName) method_4_code 4 (some .boolean) :: ws) ({ frames := 0, cells := 0, slots := 0, locals := 0 } : Room)) (fun a U => a = #[(.int c1), (.int i1), (.int f1), (.int t1)] ∧ Z.Warmed39 U.vm ∧ U.heap = h0) (fun _ _ _ _ _ => True) (fun _ U o U' => ∃ v L, o = .returned v ∧ Q_ok Z c1 i1 f1 t1 h0 n0 v U'.heap L ∧ FrameEnd U o U' L ({ frames := 0, cells := 0, slots := 0, locals := 0 } : Room).cells ({ frames := 0, cells := 0, slots := 0, locals := 0 } : Room).slots) := by
  refine MetFree.of_bodySF (plainFor_of_name own_pn_1) hisR ?_
  intro p e s m args below meth c s₁ Bd hml0 hP hK
  obtain ⟨rfl, hZ, hh⟩ := hP
  have hx := Bd.exec
  have hby := Bd.bytes
  have hml : c.maxLocals = 4 := hml0
  have hown : s.vm.findClass "com/example/pensionwright/pensionwright/input/DatesAllDigitsPinLaw" = some m.cls := findClass_of_methodNamed Bd.named
  have hnm := (name_of_methodNamed Bd.named Bd.method).1
  have W := own_W hw
  have X0 : Stand p l e ({ frames := 0, cells := 0, slots := 0, locals := 0 } : Room) s m #[(.int c1), (.int i1), (.int f1), (.int t1)] below meth c s₁ [] 0 0 := Stand.of_body Bd
  have e0 : s₁.heap = h0 := by rw [← hh, Bd.state]; rfl
  have N0 := Fr.nil n0
  have pre0 : ∀ tq, Steps p.tables e below (s₁.setTop (mkF m 0 #[iv c1, iv i1, iv f1, iv t1] [])) tq → Steps p.tables e below (s₁.setTop (entryFrame m #[(.int c1), (.int i1), (.int f1), (.int t1)] 4)) tq := fun tq k => castTop (own_ef_ok m c1 i1 f1 t1) k
  by_cases h1 : i1 < f1
  · obtain ⟨fs, hr, hrun, hended, hW, hsame⟩ := X0.leave (v := some (.int (1 : Int32))) (fun h => by rw [Bd.returns] at h; cases h)
    refine ⟨_, _, pre0 _ (?_), hrun, hended, _, _, rfl, ?_, ⟨_, rfl⟩, hW, hsame.mono (by decide) (by decide)⟩
    · show Steps p.tables e below (s₁.setTop (mkF m 0 #[iv c1, iv i1, iv f1, iv t1] [])) _
      refine XS.iloadN X0.here hx rfl (hb hby own_d20_0) rfl ?_
      show Steps _ _ _ (s₁.setTop (mkF m 1 _ [.int i1])) _
      refine XS.iloadN X0.here hx rfl (hb hby own_d20_1) rfl ?_
      show Steps _ _ _ (s₁.setTop (mkF m 2 _ [.int f1, .int i1])) _
      refine XS.icmpYes X0.here hx rfl (pc0 := 2) (pc' := 10) rfl (hb hby own_d20_2) rfl (tlt (h1 : i1 < f1)).1 (by decide) (by decide) ?_
      show Steps _ _ _ (s₁.setTop (mkF m 10 _ [])) _
      refine XS.iconst X0.here hx rfl (hb hby own_d20_10) ?_
      show Steps _ _ _ (s₁.setTop (mkF m 11 _ [.int 1])) _
      exact retN X0 hx (t := .boolean) Bd.returns (by simp) (hb hby own_d20_11) hr
    · show Q_ok Z c1 i1 f1 t1 h0 n0 _ s₁.heap _
      rw [e0]
      exact ⟨N0, rfl, Or.inl ⟨rfl, Or.inl h1⟩⟩
  · by_cases h2 : i1 < t1
    · by_cases h3 : c1 < (48 : Int32)
      · obtain ⟨fs, hr, hrun, hended, hW, hsame⟩ := X0.leave (v := some (.int (0 : Int32))) (fun h => by rw [Bd.returns] at h; cases h)
        refine ⟨_, _, pre0 _ (?_), hrun, hended, _, _, rfl, ?_, ⟨_, rfl⟩, hW, hsame.mono (by decide) (by decide)⟩
        · show Steps p.tables e below (s₁.setTop (mkF m 0 #[iv c1, iv i1, iv f1, iv t1] [])) _
          refine XS.iloadN X0.here hx rfl (hb hby own_d20_0) rfl ?_
          show Steps _ _ _ (s₁.setTop (mkF m 1 _ [.int i1])) _
          refine XS.iloadN X0.here hx rfl (hb hby own_d20_1) rfl ?_
          show Steps _ _ _ (s₁.setTop (mkF m 2 _ [.int f1, .int i1])) _
          refine XS.icmpNo X0.here hx rfl (hb hby own_d20_2) rfl (flt (h1 : ¬ (i1 < f1))).1 ?_
          show Steps _ _ _ (s₁.setTop (mkF m 5 _ [])) _
          refine XS.iloadN X0.here hx rfl (hb hby own_d20_5) rfl ?_
          show Steps _ _ _ (s₁.setTop (mkF m 6 _ [.int i1])) _
          refine XS.iloadN X0.here hx rfl (hb hby own_d20_6) rfl ?_
          show Steps _ _ _ (s₁.setTop (mkF m 7 _ [.int t1, .int i1])) _
          refine XS.icmpYes X0.here hx rfl (pc0 := 7) (pc' := 12) rfl (hb hby own_d20_7) rfl (tlt (h2 : i1 < t1)).1 (by decide) (by decide) ?_
          show Steps _ _ _ (s₁.setTop (mkF m 12 _ [])) _
          refine XS.iloadN X0.here hx rfl (hb hby own_d20_12) rfl ?_
          show Steps _ _ _ (s₁.setTop (mkF m 13 _ [.int c1])) _
          refine XS.bipush X0.here hx rfl (hb hby own_d20_13) ?_
          show Steps p.tables e below (s₁.setTop (mkF m 15 #[iv c1, iv i1, iv f1, iv t1] [.int 48, .int c1])) _
          refine XS.icmpYes X0.here hx rfl (pc0 := 15) (pc' := 28) rfl (hb hby own_d20_15) rfl (tlt (h3 : c1 < (48 : Int32))).1 (by decide) (by decide) ?_
          show Steps _ _ _ (s₁.setTop (mkF m 28 _ [])) _
          refine XS.iconst X0.here hx rfl (hb hby own_d20_28) ?_
          show Steps _ _ _ (s₁.setTop (mkF m 29 _ [.int 0])) _
          exact retN X0 hx (t := .boolean) Bd.returns (by simp) (hb hby own_d20_29) hr
        · show Q_ok Z c1 i1 f1 t1 h0 n0 _ s₁.heap _
          rw [e0]
          exact ⟨N0, rfl, Or.inr ⟨rfl, (fun q => q.elim h1 (fun q => q.elim (fun q => q h2) (fun q => q.1 h3)))⟩⟩
      · by_cases h4 : (57 : Int32) < c1
        · obtain ⟨fs, hr, hrun, hended, hW, hsame⟩ := X0.leave (v := some (.int (0 : Int32))) (fun h => by rw [Bd.returns] at h; cases h)
          refine ⟨_, _, pre0 _ (?_), hrun, hended, _, _, rfl, ?_, ⟨_, rfl⟩, hW, hsame.mono (by decide) (by decide)⟩
          · show Steps p.tables e below (s₁.setTop (mkF m 0 #[iv c1, iv i1, iv f1, iv t1] [])) _
            refine XS.iloadN X0.here hx rfl (hb hby own_d20_0) rfl ?_
            show Steps _ _ _ (s₁.setTop (mkF m 1 _ [.int i1])) _
            refine XS.iloadN X0.here hx rfl (hb hby own_d20_1) rfl ?_
            show Steps _ _ _ (s₁.setTop (mkF m 2 _ [.int f1, .int i1])) _
            refine XS.icmpNo X0.here hx rfl (hb hby own_d20_2) rfl (flt (h1 : ¬ (i1 < f1))).1 ?_
            show Steps _ _ _ (s₁.setTop (mkF m 5 _ [])) _
            refine XS.iloadN X0.here hx rfl (hb hby own_d20_5) rfl ?_
            show Steps _ _ _ (s₁.setTop (mkF m 6 _ [.int i1])) _
            refine XS.iloadN X0.here hx rfl (hb hby own_d20_6) rfl ?_
            show Steps _ _ _ (s₁.setTop (mkF m 7 _ [.int t1, .int i1])) _
            refine XS.icmpYes X0.here hx rfl (pc0 := 7) (pc' := 12) rfl (hb hby own_d20_7) rfl (tlt (h2 : i1 < t1)).1 (by decide) (by decide) ?_
            show Steps _ _ _ (s₁.setTop (mkF m 12 _ [])) _
            refine XS.iloadN X0.here hx rfl (hb hby own_d20_12) rfl ?_
            show Steps _ _ _ (s₁.setTop (mkF m 13 _ [.int c1])) _
            refine XS.bipush X0.here hx rfl (hb hby own_d20_13) ?_
            show Steps p.tables e below (s₁.setTop (mkF m 15 #[iv c1, iv i1, iv f1, iv t1] [.int 48, .int c1])) _
            refine XS.icmpNo X0.here hx rfl (hb hby own_d20_15) rfl (flt (h3 : ¬ (c1 < (48 : Int32)))).1 ?_
            show Steps _ _ _ (s₁.setTop (mkF m 18 _ [])) _
            refine XS.iloadN X0.here hx rfl (hb hby own_d20_18) rfl ?_
            show Steps _ _ _ (s₁.setTop (mkF m 19 _ [.int c1])) _
            refine XS.bipush X0.here hx rfl (hb hby own_d20_19) ?_
            show Steps _ _ _ (s₁.setTop (mkF m 21 _ [.int 57, .int c1])) _
            refine XS.icmpYes X0.here hx rfl (pc0 := 21) (pc' := 28) rfl (hb hby own_d20_21) rfl (tlt (h4 : (57 : Int32) < c1)).2.2.1 (by decide) (by decide) ?_
            show Steps _ _ _ (s₁.setTop (mkF m 28 _ [])) _
            refine XS.iconst X0.here hx rfl (hb hby own_d20_28) ?_
            show Steps _ _ _ (s₁.setTop (mkF m 29 _ [.int 0])) _
            exact retN X0 hx (t := .boolean) Bd.returns (by simp) (hb hby own_d20_29) hr
          · show Q_ok Z c1 i1 f1 t1 h0 n0 _ s₁.heap _
            rw [e0]
            exact ⟨N0, rfl, Or.inr ⟨rfl, (fun q => q.elim h1 (fun q => q.elim (fun q => q h2) (fun q => q.2 h4)))⟩⟩
        · obtain ⟨fs, hr, hrun, hended, hW, hsame⟩ := X0.leave (v := some (.int (1 : Int32))) (fun h => by rw [Bd.returns] at h; cases h)
          refine ⟨_, _, pre0 _ (?_), hrun, hended, _, _, rfl, ?_, ⟨_, rfl⟩, hW, hsame.mono (by decide) (by decide)⟩
          · show Steps p.tables e below (s₁.setTop (mkF m 0 #[iv c1, iv i1, iv f1, iv t1] [])) _
            refine XS.iloadN X0.here hx rfl (hb hby own_d20_0) rfl ?_
            show Steps _ _ _ (s₁.setTop (mkF m 1 _ [.int i1])) _
            refine XS.iloadN X0.here hx rfl (hb hby own_d20_1) rfl ?_
            show Steps _ _ _ (s₁.setTop (mkF m 2 _ [.int f1, .int i1])) _
            refine XS.icmpNo X0.here hx rfl (hb hby own_d20_2) rfl (flt (h1 : ¬ (i1 < f1))).1 ?_
            show Steps _ _ _ (s₁.setTop (mkF m 5 _ [])) _
            refine XS.iloadN X0.here hx rfl (hb hby own_d20_5) rfl ?_
            show Steps _ _ _ (s₁.setTop (mkF m 6 _ [.int i1])) _
            refine XS.iloadN X0.here hx rfl (hb hby own_d20_6) rfl ?_
            show Steps _ _ _ (s₁.setTop (mkF m 7 _ [.int t1, .int i1])) _
            refine XS.icmpYes X0.here hx rfl (pc0 := 7) (pc' := 12) rfl (hb hby own_d20_7) rfl (tlt (h2 : i1 < t1)).1 (by decide) (by decide) ?_
            show Steps _ _ _ (s₁.setTop (mkF m 12 _ [])) _
            refine XS.iloadN X0.here hx rfl (hb hby own_d20_12) rfl ?_
            show Steps _ _ _ (s₁.setTop (mkF m 13 _ [.int c1])) _
            refine XS.bipush X0.here hx rfl (hb hby own_d20_13) ?_
            show Steps p.tables e below (s₁.setTop (mkF m 15 #[iv c1, iv i1, iv f1, iv t1] [.int 48, .int c1])) _
            refine XS.icmpNo X0.here hx rfl (hb hby own_d20_15) rfl (flt (h3 : ¬ (c1 < (48 : Int32)))).1 ?_
            show Steps _ _ _ (s₁.setTop (mkF m 18 _ [])) _
            refine XS.iloadN X0.here hx rfl (hb hby own_d20_18) rfl ?_
            show Steps _ _ _ (s₁.setTop (mkF m 19 _ [.int c1])) _
            refine XS.bipush X0.here hx rfl (hb hby own_d20_19) ?_
            show Steps _ _ _ (s₁.setTop (mkF m 21 _ [.int 57, .int c1])) _
            refine XS.icmpNo X0.here hx rfl (hb hby own_d20_21) rfl (flt (h4 : ¬ ((57 : Int32) < c1))).2.2.1 ?_
            show Steps _ _ _ (s₁.setTop (mkF m 24 _ [])) _
            refine XS.iconst X0.here hx rfl (hb hby own_d20_24) ?_
            show Steps _ _ _ (s₁.setTop (mkF m 25 _ [.int 1])) _
            refine XS.goto X0.here hx rfl (pc0 := 25) (pc' := 29) rfl (hb hby own_d20_25) (by decide) (by decide) ?_
            show Steps _ _ _ (s₁.setTop (mkF m 29 _ [.int 1])) _
            exact retN X0 hx (t := .boolean) Bd.returns (by simp) (hb hby own_d20_29) hr
          · show Q_ok Z c1 i1 f1 t1 h0 n0 _ s₁.heap _
            rw [e0]
            exact ⟨N0, rfl, Or.inl ⟨rfl, Or.inr (Or.inr ⟨h3, h4⟩)⟩⟩
    · obtain ⟨fs, hr, hrun, hended, hW, hsame⟩ := X0.leave (v := some (.int (1 : Int32))) (fun h => by rw [Bd.returns] at h; cases h)
      refine ⟨_, _, pre0 _ (?_), hrun, hended, _, _, rfl, ?_, ⟨_, rfl⟩, hW, hsame.mono (by decide) (by decide)⟩
      · show Steps p.tables e below (s₁.setTop (mkF m 0 #[iv c1, iv i1, iv f1, iv t1] [])) _
        refine XS.iloadN X0.here hx rfl (hb hby own_d20_0) rfl ?_
        show Steps _ _ _ (s₁.setTop (mkF m 1 _ [.int i1])) _
        refine XS.iloadN X0.here hx rfl (hb hby own_d20_1) rfl ?_
        show Steps _ _ _ (s₁.setTop (mkF m 2 _ [.int f1, .int i1])) _
        refine XS.icmpNo X0.here hx rfl (hb hby own_d20_2) rfl (flt (h1 : ¬ (i1 < f1))).1 ?_
        show Steps _ _ _ (s₁.setTop (mkF m 5 _ [])) _
        refine XS.iloadN X0.here hx rfl (hb hby own_d20_5) rfl ?_
        show Steps _ _ _ (s₁.setTop (mkF m 6 _ [.int i1])) _
        refine XS.iloadN X0.here hx rfl (hb hby own_d20_6) rfl ?_
        show Steps _ _ _ (s₁.setTop (mkF m 7 _ [.int t1, .int i1])) _
        refine XS.icmpNo X0.here hx rfl (hb hby own_d20_7) rfl (flt (h2 : ¬ (i1 < t1))).1 ?_
        show Steps _ _ _ (s₁.setTop (mkF m 10 _ [])) _
        refine XS.iconst X0.here hx rfl (hb hby own_d20_10) ?_
        show Steps _ _ _ (s₁.setTop (mkF m 11 _ [.int 1])) _
        exact retN X0 hx (t := .boolean) Bd.returns (by simp) (hb hby own_d20_11) hr
      · show Q_ok Z c1 i1 f1 t1 h0 n0 _ s₁.heap _
        rw [e0]
        exact ⟨N0, rfl, Or.inl ⟨rfl, Or.inr (Or.inl h2)⟩⟩
theorem own_pn_0 : plainName "com/example/pensionwright/pensionwright/input/Dates" = true := by decide +kernel
theorem own_d22_0 : decode prog_16_method_5_code 0 = .ok (.iload_n 1, 1) := by decide +kernel
theorem own_d22_1 : decode prog_16_method_5_code 1 = .ok (.istore_n 3, 1) := by decide +kernel
theorem own_d22_2 : decode prog_16_method_5_code 2 = .ok (.iload_n 3, 1) := by decide +kernel
theorem own_d22_3 : decode prog_16_method_5_code 3 = .ok (.iload_n 2, 1) := by decide +kernel
theorem own_d22_4 : decode prog_16_method_5_code 4 = .ok (.if_icmp .ge 32, 3) := by decide +kernel
theorem own_d22_7 : decode prog_16_method_5_code 7 = .ok (.aload_n 0, 1) := by decide +kernel
theorem own_d22_8 : decode prog_16_method_5_code 8 = .ok (.iload_n 3, 1) := by decide +kernel
theorem own_d22_9 : decode prog_16_method_5_code 9 = .ok (.invokevirtual 19, 3) := by decide +kernel
theorem own_pd_0 : parseMethodDescriptor "(I)C" = some ⟨[.int], some .char⟩ := by decide +kernel
theorem own_d22_12 : decode prog_16_method_5_code 12 = .ok (.istore 4, 2) := by decide +kernel
theorem own_d22_14 : decode prog_16_method_5_code 14 = .ok (.iload 4, 2) := by decide +kernel
theorem own_d22_16 : decode prog_16_method_5_code 16 = .ok (.bipush 48, 2) := by decide +kernel
theorem own_st4 {z0 z1 z2 z3 : Value} {s4 : Slot} {v : Int32} (h : One s4) : storeLocals #[.val z0, .val z1, .val z2, .val z3, s4] 4 (.int v) = some #[.val z0, .val z1, .val z2, .val z3, .val (.int v)] := by
  rcases h with rfl | ⟨w, rfl, hw⟩
  · rfl
  · cases w <;> first | rfl | (simp [Value.category] at hw)
theorem own_d22_18 : decode prog_16_method_5_code 18 = .ok (.if_icmp .lt 10, 3) := by decide +kernel
theorem own_d22_21 : decode prog_16_method_5_code 21 = .ok (.iload 4, 2) := by decide +kernel
theorem own_d22_23 : decode prog_16_method_5_code 23 = .ok (.bipush 57, 2) := by decide +kernel
theorem own_d22_25 : decode prog_16_method_5_code 25 = .ok (.if_icmp .le 5, 3) := by decide +kernel
theorem own_d22_30 : decode prog_16_method_5_code 30 = .ok (.iinc 3 1, 3) := by decide +kernel
theorem own_d22_33 : decode prog_16_method_5_code 33 = .ok (.goto (-31), 3) := by decide +kernel
theorem own_d22_36 : decode prog_16_method_5_code 36 = .ok (.iconst 1, 1) := by decide +kernel
theorem own_d22_37 : decode prog_16_method_5_code 37 = .ok (.ireturn, 1) := by decide +kernel
theorem own_d22_28 : decode prog_16_method_5_code 28 = .ok (.iconst 0, 1) := by decide +kernel
theorem own_d22_29 : decode prog_16_method_5_code 29 = .ok (.ireturn, 1) := by decide +kernel
theorem own_ef_ad (m : MethodId) (x0 : Addr) (x1 : Int32) (x2 : Int32) : entryFrame m #[(.ref x0), (.int x1), (.int x2)] 5 = mkF m 0 #[rv x0, iv x1, iv x2, .unset, .unset] [] := by first | (simp [entryFrame, mkF, argsToLocals, Value.category]; done) | rfl
def Q_ad (Z : State) (x1 : Addr) (kx f t : Nat) (cs : List Int32) (G1 : Int32) (G3 : Value) (h0 : Heap) (n0 : Nat) (v : Option Value) (h : Heap) (L : List Loc) : Prop := Fr n0 L ∧ h = h0 ∧ ((v = some (.int 1) ∧ ∀ j, f ≤ j → j < t → own_dig (cs.getD j 0)) ∨ (v = some (.int 0) ∧ ¬ ∀ j, f ≤ j → j < t → own_dig (cs.getD j 0)))
set_option maxRecDepth 65536 in
set_option maxHeartbeats 40000000 in
theorem rm_ad (l : Launch) (Z : State) (a0 : Array Value) (hw : ∀ d ∈ tables_1, d.before a0 Z = true) (ws : List Jvm.Cond) (x1 : Addr) (kx f t : Nat) (cs : List Int32) (G1 : Int32) (G3 : Value) (h0 : Heap) (n0 : Nat) (Z0 : n0 ≤ h0.size) (X00 : Old Z n0 h0) (SX : StrB Z h0 kx x1 cs) (hf : f ≤ t) (ht : t ≤ cs.length) (hl : cs.length ≤ 4) (O2 : Sta Z Z.heap "java/lang/String" "COMPACT_STRINGS" "Z" (.int G1)) (P5 : ¬ (G1 = (0 : Int32))) (O4 : Sta Z Z.heap "jdk/internal/util/Preconditions" "SIOOBE_FORMATTER" "Ljava/util/function/BiFunction;" G3) (rG3 : G3.isRef = true) (OA : Sta Z Z.heap "java/lang/StringUTF16" "$assertionsDisabled" "Z" (.int (1 : Int32))) (OH : Sta Z Z.heap "java/lang/StringUTF16" "HI_BYTE_SHIFT" "I" (.int (0 : Int32))) (OL : Sta Z Z.heap "java/lang/StringUTF16" "LO_BYTE_SHIFT" "I" (.int (8 : Int32))) :
    MetFree l (⟨"com/example/pensionwright/pensionwright/input/Dates", "allDigits", "(Ljava/lang/String;II)Z"⟩ : MethodName) (head1 (Jvm.Cond.code (⟨"com/example/pensionwright/pensionwright/input/Dates", "allDigits", "(Ljava/lang/String;II)Z"⟩ : MethodName) prog_16_method_5_code 5 (some .boolean) :: ws) ({ frames := 5, cells := 0, slots := 0, locals := 86 } : Room)) (fun a U => a = #[(.ref x1), (.int (Int32.ofNat f)), (.int (Int32.ofNat t))] ∧ Z.Warmed39 U.vm ∧ U.heap = h0) (fun _ _ _ _ _ => True) (fun _ U o U' => ∃ v L, o = .returned v ∧ Q_ad Z x1 kx f t cs G1 G3 h0 n0 v U'.heap L ∧ FrameEnd U o U' L ({ frames := 5, cells := 0, slots := 0, locals := 86 } : Room).cells ({ frames := 5, cells := 0, slots := 0, locals := 86 } : Room).slots) := by
  refine MetFree.of_bodySF (plainFor_of_name own_pn_0) hisR ?_
  intro p e s m args below meth c s₁ Bd hml0 hP hK
  obtain ⟨rfl, hZ, hh⟩ := hP
  have hx := Bd.exec
  have hby := Bd.bytes
  have hml : c.maxLocals = 5 := hml0
  have hown : s.vm.findClass "com/example/pensionwright/pensionwright/input/Dates" = some m.cls := findClass_of_methodNamed Bd.named
  have hnm := (name_of_methodNamed Bd.named Bd.method).1
  have W := own_W hw
  have X0 : Stand p l e ({ frames := 5, cells := 0, slots := 0, locals := 86 } : Room) s m #[(.ref x1), (.int (Int32.ofNat f)), (.int (Int32.ofNat t))] below meth c s₁ [] 0 0 := Stand.of_body Bd
  have e0 : s₁.heap = h0 := by rw [← hh, Bd.state]; rfl
  have N0 := Fr.nil n0
  have pre0 : ∀ tq, Steps p.tables e below (s₁.setTop (mkF m 0 #[rv x1, iv (Int32.ofNat f), iv (Int32.ofNat t), .unset, .unset] [])) tq → Steps p.tables e below (s₁.setTop (entryFrame m #[(.ref x1), (.int (Int32.ofNat f)), (.int (Int32.ofNat t))] 5)) tq := fun tq k => castTop (own_ef_ad m x1 (Int32.ofNat f) (Int32.ofNat t)) k
  have EX := SX.exa
  have G0 : ∀ tq, Steps p.tables e below (s₁.setTop (mkF m 2 #[rv x1, iv (Int32.ofNat f), iv (Int32.ofNat t), iv (Int32.ofNat f), .unset] [])) tq → Steps p.tables e below (s₁.setTop (mkF m 0 #[rv x1, iv (Int32.ofNat f), iv (Int32.ofNat t), .unset, .unset] [])) tq := by
    intro tq kk
    show Steps p.tables e below (s₁.setTop (mkF m 0 #[rv x1, iv (Int32.ofNat f), iv (Int32.ofNat t), .unset, .unset] [])) _
    refine XS.iloadN X0.here hx rfl (hb hby own_d22_0) rfl ?_
    show Steps _ _ _ (s₁.setTop (mkF m 1 _ [.int (Int32.ofNat f)])) _
    refine XS.istoreN X0.here hx rfl (hb hby own_d22_1) rfl (l' := #[rv x1, iv (Int32.ofNat f), iv (Int32.ofNat t), iv (Int32.ofNat f), .unset]) rfl ?_
    exact kk
  have loop : ∀ (k i : Nat) (s4 : Slot) (T : State) (locs : List Loc), i + k = t → f ≤ i → (∀ j, f ≤ j → j < i → own_dig (cs.getD j 0)) → One s4 → Stand p l e ({ frames := 5, cells := 0, slots := 0, locals := 86 } : Room) s m #[(.ref x1), (.int (Int32.ofNat f)), (.int (Int32.ofNat t))] below meth c T locs 0 0 → T.heap = h0 → Fr n0 locs →
      ∃ (T' : State) (locs' : List Loc) (s4' : Slot) (i' pc' : Nat), Stand p l e ({ frames := 5, cells := 0, slots := 0, locals := 86 } : Room) s m #[(.ref x1), (.int (Int32.ofNat f)), (.int (Int32.ofNat t))] below meth c T' locs' 0 0 ∧ T'.heap = h0 ∧ Fr n0 locs' ∧ (∀ tgt, Steps p.tables e below (T'.setTop (mkF m pc' #[.val (.ref x1), .val (.int (Int32.ofNat f)), .val (.int (Int32.ofNat t)), .val (.int (Int32.ofNat i')), s4'] [])) tgt → Steps p.tables e below (T.setTop (mkF m 2 #[.val (.ref x1), .val (.int (Int32.ofNat f)), .val (.int (Int32.ofNat t)), .val (.int (Int32.ofNat i)), s4] [])) tgt) ∧
        ((pc' = 36 ∧ ∀ j, f ≤ j → j < t → own_dig (cs.getD j 0)) ∨ (pc' = 28 ∧ ¬ ∀ j, f ≤ j → j < t → own_dig (cs.getD j 0))) := by
    intro k
    induction k with
    | zero =>
      intro i s4 T locs hi hfi hd h4 XT eT NT
      have hit : i = t := by omega
      subst hit
      have G133 : ∀ tq, Steps p.tables e below (T.setTop (mkF m 36 #[rv x1, iv (Int32.ofNat f), iv (Int32.ofNat i), iv (Int32.ofNat i), s4] [])) tq → Steps p.tables e below (T.setTop (mkF m 2 #[rv x1, iv (Int32.ofNat f), iv (Int32.ofNat i), iv (Int32.ofNat i), s4] [])) tq := by
        intro tq kk
        show Steps p.tables e below (T.setTop (mkF m 2 #[rv x1, iv (Int32.ofNat f), iv (Int32.ofNat i), iv (Int32.ofNat i), s4] [])) _
        refine XS.iloadN XT.here hx rfl (hb hby own_d22_2) rfl ?_
        show Steps _ _ _ (T.setTop (mkF m 3 _ [.int (Int32.ofNat i)])) _
        refine XS.iloadN XT.here hx rfl (hb hby own_d22_3) rfl ?_
        show Steps _ _ _ (T.setTop (mkF m 4 _ [.int (Int32.ofNat i), .int (Int32.ofNat i)])) _
        refine XS.icmpYes XT.here hx rfl (pc0 := 4) (pc' := 36) rfl (hb hby own_d22_4) rfl (flt (Int32.lt_irrefl : ¬ ((Int32.ofNat i) < (Int32.ofNat i)))).2.1 (by decide) (by decide) ?_
        exact kk
      exact ⟨T, locs, s4, i, 36, XT, eT, NT, fun tgt kk => G133 _ kk, Or.inl ⟨rfl, hd⟩⟩
    | succ k ih =>
      intro i s4 T locs hi hfi hd h4 XT eT NT
      have hit : Int32.ofNat i < Int32.ofNat t := (own_ltI (by omega) (by omega)).mpr (by omega)
      obtain ⟨cq134, kq134, q134a, q134b, q134c⟩ := isOf hZ eT EX
      obtain ⟨_, _, ⟨T134, L134, k134, n134⟩, -, X134, ⟨Lc134, hQ134, l134, y134, z134⟩, st134⟩ := XT.virtualBack hx (y := (⟨"java/lang/String", "charAt", "(I)C"⟩ : MethodName)) (z := (⟨"java/lang/String", "charAt", "(I)C"⟩ : MethodName)) hown (mvT hZ (W 44 rfl)) (mvT hZ (W 45 rfl)) (notFace_of_selects (args := #[]) (mvT hZ (W 47 rfl))) (mvT hZ (W 47 rfl)) (mvT hZ (W 46 rfl)) (by decide) (own_chS (W := 0) hZ hw (i := i) (n0 := n0) Z0 X00 SX (by omega) rfl O2 P5 O4 rG3 OA OH OL (by decide) (by decide)) q134a q134c (g := (mkF m 9 #[rv x1, iv (Int32.ofNat f), iv (Int32.ofNat t), iv (Int32.ofNat i), s4] [.int (Int32.ofNat i), .ref x1])) rfl (by rw [hml]; rfl) (Steps.refl _) (argsL := [.int (Int32.ofNat i)]) (rest := []) (lenOf own_pd_0 rfl) rfl (by show 2 * 0 + _ ≤ _; exact Nat.le_of_eq rfl) (hb hby own_d22_9) (fun _ _ => ⟨rfl, eT, (by decide : 0 + 0 ≤ _), (by decide : 0 + 0 ≤ _)⟩)
      dsimp only [Pt.U, Pt.locs, Pt.cells, Pt.slots] at X134 l134 y134 z134 st134 hQ134
      subst l134 y134 z134
      obtain ⟨rfl, Nq134, e134⟩ := hQ134
      have N134 := Fr.app NT Nq134
      have G135 : ∀ tq, Steps p.tables e below (T134.setTop (mkF m 18 #[rv x1, iv (Int32.ofNat f), iv (Int32.ofNat t), iv (Int32.ofNat i), iv (cs.getD i 0)] [.int 48, .int (cs.getD i 0)])) tq → Steps p.tables e below (T.setTop (mkF m 2 #[rv x1, iv (Int32.ofNat f), iv (Int32.ofNat t), iv (Int32.ofNat i), s4] [])) tq := by
        intro tq kk
        show Steps p.tables e below (T.setTop (mkF m 2 #[rv x1, iv (Int32.ofNat f), iv (Int32.ofNat t), iv (Int32.ofNat i), s4] [])) _
        refine XS.iloadN XT.here hx rfl (hb hby own_d22_2) rfl ?_
        show Steps _ _ _ (T.setTop (mkF m 3 _ [.int (Int32.ofNat i)])) _
        refine XS.iloadN XT.here hx rfl (hb hby own_d22_3) rfl ?_
        show Steps _ _ _ (T.setTop (mkF m 4 _ [.int (Int32.ofNat t), .int (Int32.ofNat i)])) _
        refine XS.icmpNo XT.here hx rfl (hb hby own_d22_4) rfl (tlt (hit : (Int32.ofNat i) < (Int32.ofNat t))).2.1 ?_
        show Steps _ _ _ (T.setTop (mkF m 7 _ [])) _
        refine XS.aloadN XT.here hx rfl (hb hby own_d22_7) rfl rfl ?_
        show Steps _ _ _ (T.setTop (mkF m 8 _ [.ref x1])) _
        refine XS.iloadN XT.here hx rfl (hb hby own_d22_8) rfl ?_
        show Steps _ _ _ (T.setTop (mkF m 9 _ [.int (Int32.ofNat i), .ref x1])) _
        refine st134.trans ?_
        show Steps p.tables e below (T134.setTop (mkF m 12 #[rv x1, iv (Int32.ofNat f), iv (Int32.ofNat t), iv (Int32.ofNat i), s4] [.int (cs.getD i 0)])) _
        refine XS.istore X134.here hx rfl (hb hby own_d22_12) rfl (l' := #[rv x1, iv (Int32.ofNat f), iv (Int32.ofNat t), iv (Int32.ofNat i), iv (cs.getD i 0)]) (own_st4 h4) ?_
        show Steps _ _ _ (T134.setTop (mkF m 14 _ [])) _
        refine XS.iload X134.here hx rfl (hb hby own_d22_14) rfl ?_
        show Steps _ _ _ (T134.setTop (mkF m 16 _ [.int (cs.getD i 0)])) _
        refine XS.bipush X134.here hx rfl (hb hby own_d22_16) ?_
        exact kk
      by_cases h48 : cs.getD i 0 < (48 : Int32)
      · have G136 : ∀ tq, Steps p.tables e below (T134.setTop (mkF m 28 #[rv x1, iv (Int32.ofNat f), iv (Int32.ofNat t), iv (Int32.ofNat i), iv (cs.getD i 0)] [])) tq → Steps p.tables e below (T134.setTop (mkF m 18 #[rv x1, iv (Int32.ofNat f), iv (Int32.ofNat t), iv (Int32.ofNat i), iv (cs.getD i 0)] [.int 48, .int (cs.getD i 0)])) tq := by
          intro tq kk
          show Steps p.tables e below (T134.setTop (mkF m 18 #[rv x1, iv (Int32.ofNat f), iv (Int32.ofNat t), iv (Int32.ofNat i), iv (cs.getD i 0)] [.int 48, .int (cs.getD i 0)])) _
          refine XS.icmpYes X134.here hx rfl (pc0 := 18) (pc' := 28) rfl (hb hby own_d22_18) rfl (tlt (h48 : (cs.getD i 0) < (48 : Int32))).1 (by decide) (by decide) ?_
          exact kk
        exact ⟨T134, _, _, i, 28, X134, e134, N134, fun tgt kk => G135 _ (G136 _ kk), Or.inr ⟨rfl, fun q => (q i hfi (by omega)).1 h48⟩⟩
      · by_cases h57 : (57 : Int32) < cs.getD i 0
        · have G137 : ∀ tq, Steps p.tables e below (T134.setTop (mkF m 28 #[rv x1, iv (Int32.ofNat f), iv (Int32.ofNat t), iv (Int32.ofNat i), iv (cs.getD i 0)] [])) tq → Steps p.tables e below (T134.setTop (mkF m 18 #[rv x1, iv (Int32.ofNat f), iv (Int32.ofNat t), iv (Int32.ofNat i), iv (cs.getD i 0)] [.int 48, .int (cs.getD i 0)])) tq := by
            intro tq kk
            show Steps p.tables e below (T134.setTop (mkF m 18 #[rv x1, iv (Int32.ofNat f), iv (Int32.ofNat t), iv (Int32.ofNat i), iv (cs.getD i 0)] [.int 48, .int (cs.getD i 0)])) _
            refine XS.icmpNo X134.here hx rfl (hb hby own_d22_18) rfl (flt (h48 : ¬ ((cs.getD i 0) < (48 : Int32)))).1 ?_
            show Steps _ _ _ (T134.setTop (mkF m 21 _ [])) _
            refine XS.iload X134.here hx rfl (hb hby own_d22_21) rfl ?_
            show Steps _ _ _ (T134.setTop (mkF m 23 _ [.int (cs.getD i 0)])) _
            refine XS.bipush X134.here hx rfl (hb hby own_d22_23) ?_
            show Steps _ _ _ (T134.setTop (mkF m 25 _ [.int 57, .int (cs.getD i 0)])) _
            refine XS.icmpNo X134.here hx rfl (hb hby own_d22_25) rfl (tlt (h57 : (57 : Int32) < (cs.getD i 0))).2.2.2 ?_
            exact kk
          exact ⟨T134, _, _, i, 28, X134, e134, N134, fun tgt kk => G135 _ (G137 _ kk), Or.inr ⟨rfl, fun q => (q i hfi (by omega)).2 h57⟩⟩
        · have G138 : ∀ tq, Steps p.tables e below (T134.setTop (mkF m 2 #[rv x1, iv (Int32.ofNat f), iv (Int32.ofNat t), iv (Int32.ofNat (i + 1)), iv (cs.getD i 0)] [])) tq → Steps p.tables e below (T134.setTop (mkF m 18 #[rv x1, iv (Int32.ofNat f), iv (Int32.ofNat t), iv (Int32.ofNat i), iv (cs.getD i 0)] [.int 48, .int (cs.getD i 0)])) tq := by
            intro tq kk
            show Steps p.tables e below (T134.setTop (mkF m 18 #[rv x1, iv (Int32.ofNat f), iv (Int32.ofNat t), iv (Int32.ofNat i), iv (cs.getD i 0)] [.int 48, .int (cs.getD i 0)])) _
            refine XS.icmpNo X134.here hx rfl (hb hby own_d22_18) rfl (flt (h48 : ¬ ((cs.getD i 0) < (48 : Int32)))).1 ?_
            show Steps _ _ _ (T134.setTop (mkF m 21 _ [])) _
            refine XS.iload X134.here hx rfl (hb hby own_d22_21) rfl ?_
            show Steps _ _ _ (T134.setTop (mkF m 23 _ [.int (cs.getD i 0)])) _
            refine XS.bipush X134.here hx rfl (hb hby own_d22_23) ?_
            show Steps _ _ _ (T134.setTop (mkF m 25 _ [.int 57, .int (cs.getD i 0)])) _
            refine XS.icmpYes X134.here hx rfl (pc0 := 25) (pc' := 30) rfl (hb hby own_d22_25) rfl (flt (h57 : ¬ ((57 : Int32) < (cs.getD i 0)))).2.2.2 (by decide) (by decide) ?_
            show Steps _ _ _ (T134.setTop (mkF m 30 _ [])) _
            refine XS.iinc X134.here hx rfl (hb hby own_d22_30) rfl (l' := #[rv x1, iv (Int32.ofNat f), iv (Int32.ofNat t), iv (Int32.ofNat (i + 1)), iv (cs.getD i 0)]) (by rw [show Int32.ofNat i + Int32.ofInt 1 = Int32.ofNat (i + 1) from own_one i]; rfl) ?_
            show Steps _ _ _ (T134.setTop (mkF m 33 _ [])) _
            refine XS.goto X134.here hx rfl (pc0 := 33) (pc' := 2) rfl (hb hby own_d22_33) (by decide) (by decide) ?_
            exact kk
          obtain ⟨T', locs', s4', i', pc', XA, eA, NA, GA, hA⟩ := ih (i + 1) (.val (.int (cs.getD i 0))) T134 _ (by omega) (by omega) (fun j h1 h2 => by
            by_cases hji : j = i
            · subst hji; exact ⟨h48, h57⟩
            · exact hd j h1 (by omega)) (One.val rfl) X134 e134 N134
          exact ⟨T', locs', s4', i', pc', XA, eA, NA, fun tgt kk => G135 _ (G138 _ (GA _ kk)), hA⟩
  obtain ⟨T9, locs9, s9, i9, pc9, X9, e9, N9, G9, h9⟩ := loop (t - f) f .unset s₁ _ (by omega) (Nat.le_refl _) (fun j h1 h2 => absurd h2 (by omega)) One.u X0 e0 N0
  rcases h9 with ⟨rfl, h9⟩ | ⟨rfl, h9⟩
  · obtain ⟨fs, hr, hrun, hended, hW, hsame⟩ := X9.leave (v := some (.int (1 : Int32))) (fun h => by rw [Bd.returns] at h; cases h)
    refine ⟨_, _, pre0 _ (G0 _ (G9 _ (?_))), hrun, hended, _, _, rfl, ?_, ⟨_, rfl⟩, hW, hsame.mono (by decide) (by decide)⟩
    · show Steps p.tables e below (T9.setTop (mkF m 36 #[rv x1, iv (Int32.ofNat f), iv (Int32.ofNat t), iv (Int32.ofNat i9), s9] [])) _
      refine XS.iconst X9.here hx rfl (hb hby own_d22_36) ?_
      show Steps _ _ _ (T9.setTop (mkF m 37 _ [.int 1])) _
      exact retN X9 hx (t := .boolean) Bd.returns (by simp) (hb hby own_d22_37) hr
    · show Q_ad Z x1 kx f t cs G1 G3 h0 n0 _ T9.heap _
      rw [e9]
      exact ⟨N9, rfl, Or.inl ⟨rfl, h9⟩⟩
  · obtain ⟨fs, hr, hrun, hended, hW, hsame⟩ := X9.leave (v := some (.int (0 : Int32))) (fun h => by rw [Bd.returns] at h; cases h)
    refine ⟨_, _, pre0 _ (G0 _ (G9 _ (?_))), hrun, hended, _, _, rfl, ?_, ⟨_, rfl⟩, hW, hsame.mono (by decide) (by decide)⟩
    · show Steps p.tables e below (T9.setTop (mkF m 28 #[rv x1, iv (Int32.ofNat f), iv (Int32.ofNat t), iv (Int32.ofNat i9), s9] [])) _
      refine XS.iconst X9.here hx rfl (hb hby own_d22_28) ?_
      show Steps _ _ _ (T9.setTop (mkF m 29 _ [.int 0])) _
      exact retN X9 hx (t := .boolean) Bd.returns (by simp) (hb hby own_d22_29) hr
    · show Q_ad Z x1 kx f t cs G1 G3 h0 n0 _ T9.heap _
      rw [e9]
      exact ⟨N9, rfl, Or.inr ⟨rfl, h9⟩⟩
theorem own_pd_1 : parseMethodDescriptor "([C)V" = some ⟨[(.array .char)], none⟩ := by decide +kernel
theorem own_pd_7 : parseMethodDescriptor "(CIII)Z" = some ⟨[.char, .int, .int, .int], some .boolean⟩ := by decide +kernel
theorem own_pd_8 : parseMethodDescriptor "(Ljava/lang/String;II)Z" = some ⟨[(.object "java/lang/String"), .int, .int], some .boolean⟩ := by decide +kernel
theorem own_ef_law (m : MethodId) (x0 : Int32) (x1 : Int32) (x2 : Int32) (x3 : Int32) (x4 : Int32) (x5 : Int32) : entryFrame m #[(.int x0), (.int x1), (.int x2), (.int x3), (.int x4), (.int x5)] maxLocals = mkF m 0 #[iv x0, iv x1, iv x2, iv x3, iv x4, iv x5, .unset, .unset, .unset, .unset, .unset, .unset, .unset, .unset, .unset] [] := by first | (simp [entryFrame, mkF, argsToLocals, Value.category, maxLocals]; done) | rfl
def Q_law (Z : State) (p1 p2 p3 p4 p5 p6 G1 : Int32) (G3 : Value) (h0 : Heap) (n0 : Nat) (v : Option Value) (h : Heap) (L : List Loc) : Prop := v = some (.int 1) ∧ Fr n0 L
set_option maxRecDepth 65536 in
set_option maxHeartbeats 40000000 in
theorem rm_law (l : Launch) (Z : State) (a0 : Array Value) (hw : ∀ d ∈ tables_1, d.before a0 Z = true) (ws : List Jvm.Cond) (p1 p2 p3 p4 p5 p6 G1 : Int32) (G3 : Value) (h0 : Heap) (n0 : Nat) (Z0 : n0 ≤ h0.size) (X00 : Old Z n0 h0) (O2 : Sta Z Z.heap "java/lang/String" "COMPACT_STRINGS" "Z" (.int G1)) (P5 : ¬ (G1 = (0 : Int32))) (O4 : Sta Z Z.heap "jdk/internal/util/Preconditions" "SIOOBE_FORMATTER" "Ljava/util/function/BiFunction;" G3) (rG3 : G3.isRef = true) (OA : Sta Z Z.heap "java/lang/StringUTF16" "$assertionsDisabled" "Z" (.int (1 : Int32))) (OH : Sta Z Z.heap "java/lang/StringUTF16" "HI_BYTE_SHIFT" "I" (.int (0 : Int32))) (OL : Sta Z Z.heap "java/lang/StringUTF16" "LO_BYTE_SHIFT" "I" (.int (8 : Int32))) :
    MetFree l x (head1 (Jvm.Cond.code x code maxLocals ret :: ws) room_1) (fun a U => a = #[(.int p1), (.int p2), (.int p3), (.int p4), (.int p5), (.int p6)] ∧ Z.Warmed39 U.vm ∧ U.heap = h0) (fun _ _ _ _ _ => True) (fun _ U o U' => ∃ v L, o = .returned v ∧ Q_law Z p1 p2 p3 p4 p5 p6 G1 G3 h0 n0 v U'.heap L ∧ FrameEnd U o U' L 16 128) := by
  refine MetFree.of_bodySF (plainFor_of_name own_pn_1) hisR ?_
  intro p e s m args below meth c s₁ Bd hml0 hP hK
  obtain ⟨rfl, hZ, hh⟩ := hP
  have hx := Bd.exec
  have hby := Bd.bytes
  have hml : c.maxLocals = 15 := hml0
  have hown : s.vm.findClass "com/example/pensionwright/pensionwright/input/DatesAllDigitsPinLaw" = some m.cls := findClass_of_methodNamed Bd.named
  have hnm := (name_of_methodNamed Bd.named Bd.method).1
  have W := own_W hw
  have X0 : Stand p l e room_1 s m #[(.int p1), (.int p2), (.int p3), (.int p4), (.int p5), (.int p6)] below meth c s₁ [] 0 0 := Stand.of_body Bd
  have e0 : s₁.heap = h0 := by rw [← hh, Bd.state]; rfl
  have N0 := Fr.nil n0
  have pre0 : ∀ tq, Steps p.tables e below (s₁.setTop (mkF m 0 #[iv p1, iv p2, iv p3, iv p4, iv p5, iv p6, .unset, .unset, .unset, .unset, .unset, .unset, .unset, .unset, .unset] [])) tq → Steps p.tables e below (s₁.setTop (entryFrame m #[(.int p1), (.int p2), (.int p3), (.int p4), (.int p5), (.int p6)] maxLocals)) tq := fun tq k => castTop (own_ef_law m p1 p2 p3 p4 p5 p6) k
  obtain ⟨f, t, hf, ht, ef, nf, et⟩ := own_ft p5 p6
  obtain ⟨_, _, ⟨T139, L139, k139, n139⟩, -, X139, ⟨Lc139, hQ139, l139, y139, z139⟩, st139⟩ := Jvm.LawKit.callS X0 hx (y := (⟨"com/example/pensionwright/pensionwright/input/DatesAllDigitsPinLaw", "ch", "(I)C"⟩ : MethodName)) hown (mvT hZ (W 0 rfl)) (mvT hZ (W 1 rfl)) (mvT hZ (W 2 rfl)) (mvT hZ (W 3 rfl)) (by decide) (backOf (W := 0) (rm_ch l Z a0 hw [] p1 h0 n0 Z0 ) hZ (W 3 rfl) (W 2 rfl) (by decide) (by decide)) (g := (mkF m 1 #[iv p1, iv p2, iv p3, iv p4, iv p5, iv p6, .unset, .unset, .unset, .unset, .unset, .unset, .unset, .unset, .unset] [.int p1])) rfl (by rw [hml]; rfl) (argsL := [.int p1]) (rest := []) (lenOf own_pd_0 rfl) rfl (by show 2 * 0 + _ ≤ _; exact Nat.le_of_eq rfl) (hb hby at_1) (fun _ _ => ⟨rfl, e0, (by decide : 0 + 0 ≤ _), (by decide : 0 + 0 ≤ _)⟩)
  dsimp only [Pt.U, Pt.locs, Pt.cells, Pt.slots] at X139 l139 y139 z139 st139 hQ139
  subst l139 y139 z139
  obtain ⟨c0, hv139, hb0, Nq139, e139⟩ := hQ139
  subst hv139
  have N139 := Fr.app N0 Nq139
  obtain ⟨_, _, ⟨T140, L140, k140, n140⟩, -, X140, ⟨Lc140, hQ140, l140, y140, z140⟩, st140⟩ := Jvm.LawKit.callS X139 hx (y := (⟨"com/example/pensionwright/pensionwright/input/DatesAllDigitsPinLaw", "ch", "(I)C"⟩ : MethodName)) hown (mvT hZ (W 0 rfl)) (mvT hZ (W 1 rfl)) (mvT hZ (W 2 rfl)) (mvT hZ (W 3 rfl)) (by decide) (backOf (W := 0) (rm_ch l Z a0 hw [] p2 h0 n0 Z0 ) hZ (W 3 rfl) (W 2 rfl) (by decide) (by decide)) (g := (mkF m 7 #[iv p1, iv p2, iv p3, iv p4, iv p5, iv p6, iv c0, .unset, .unset, .unset, .unset, .unset, .unset, .unset, .unset] [.int p2])) rfl (by rw [hml]; rfl) (argsL := [.int p2]) (rest := []) (lenOf own_pd_0 rfl) rfl (by show 2 * 0 + _ ≤ _; exact Nat.le_of_eq rfl) (hb hby at_7) (fun _ _ => ⟨rfl, e139, (by decide : 0 + 0 ≤ _), (by decide : 0 + 0 ≤ _)⟩)
  dsimp only [Pt.U, Pt.locs, Pt.cells, Pt.slots] at X140 l140 y140 z140 st140 hQ140
  subst l140 y140 z140
  obtain ⟨c1, hv140, hb1, Nq140, e140⟩ := hQ140
  subst hv140
  have N140 := Fr.app N139 Nq140
  obtain ⟨_, _, ⟨T141, L141, k141, n141⟩, -, X141, ⟨Lc141, hQ141, l141, y141, z141⟩, st141⟩ := Jvm.LawKit.callS X140 hx (y := (⟨"com/example/pensionwright/pensionwright/input/DatesAllDigitsPinLaw", "ch", "(I)C"⟩ : MethodName)) hown (mvT hZ (W 0 rfl)) (mvT hZ (W 1 rfl)) (mvT hZ (W 2 rfl)) (mvT hZ (W 3 rfl)) (by decide) (backOf (W := 0) (rm_ch l Z a0 hw [] p3 h0 n0 Z0 ) hZ (W 3 rfl) (W 2 rfl) (by decide) (by decide)) (g := (mkF m 13 #[iv p1, iv p2, iv p3, iv p4, iv p5, iv p6, iv c0, iv c1, .unset, .unset, .unset, .unset, .unset, .unset, .unset] [.int p3])) rfl (by rw [hml]; rfl) (argsL := [.int p3]) (rest := []) (lenOf own_pd_0 rfl) rfl (by show 2 * 0 + _ ≤ _; exact Nat.le_of_eq rfl) (hb hby at_13) (fun _ _ => ⟨rfl, e140, (by decide : 0 + 0 ≤ _), (by decide : 0 + 0 ≤ _)⟩)
  dsimp only [Pt.U, Pt.locs, Pt.cells, Pt.slots] at X141 l141 y141 z141 st141 hQ141
  subst l141 y141 z141
  obtain ⟨c2, hv141, hb2, Nq141, e141⟩ := hQ141
  subst hv141
  have N141 := Fr.app N140 Nq141
  obtain ⟨_, _, ⟨T142, L142, k142, n142⟩, -, X142, ⟨Lc142, hQ142, l142, y142, z142⟩, st142⟩ := Jvm.LawKit.callS X141 hx (y := (⟨"com/example/pensionwright/pensionwright/input/DatesAllDigitsPinLaw", "ch", "(I)C"⟩ : MethodName)) hown (mvT hZ (W 0 rfl)) (mvT hZ (W 1 rfl)) (mvT hZ (W 2 rfl)) (mvT hZ (W 3 rfl)) (by decide) (backOf (W := 0) (rm_ch l Z a0 hw [] p4 h0 n0 Z0 ) hZ (W 3 rfl) (W 2 rfl) (by decide) (by decide)) (g := (mkF m 19 #[iv p1, iv p2, iv p3, iv p4, iv p5, iv p6, iv c0, iv c1, iv c2, .unset, .unset, .unset, .unset, .unset, .unset] [.int p4])) rfl (by rw [hml]; rfl) (argsL := [.int p4]) (rest := []) (lenOf own_pd_0 rfl) rfl (by show 2 * 0 + _ ≤ _; exact Nat.le_of_eq rfl) (hb hby at_19) (fun _ _ => ⟨rfl, e141, (by decide : 0 + 0 ≤ _), (by decide : 0 + 0 ≤ _)⟩)
  dsimp only [Pt.U, Pt.locs, Pt.cells, Pt.slots] at X142 l142 y142 z142 st142 hQ142
  subst l142 y142 z142
  obtain ⟨c3, hv142, hb3, Nq142, e142⟩ := hQ142
  subst hv142
  have N142 := Fr.app N141 Nq142
  obtain ⟨T143, h143, k143, X143, e143, E143, A143, st143⟩ := newP X142 hx hZ (W 6 rfl) e142 (g := (mkF m 25 #[iv p1, iv p2, iv p3, iv p4, iv p5, iv p6, iv c0, iv c1, iv c2, iv c3, .unset, .unset, .unset, .unset, .unset] [.int 4])) rfl (hb hby at_25) rfl (by decide : ¬ ((4 : Int32) < (0 : Int32))) (cap := 4) (by decide) (by decide) (by decide) (by decide)
  obtain ⟨b143, g143⟩ : ∃ z, z = h0.size := ⟨_, rfl⟩
  rw [← g143] at A143 st143
  have g144 : n0 ≤ b143 := Nat.le_trans Z0 (Nat.le_of_eq g143.symm)
  have Z145 : n0 ≤ h143.size := Nat.le_trans Z0 E143.1
  have O146 : Old Z n0 h143 := X00.ext E143
  have V143 : Arv Z h143 b143 k143 .char (4 : Int32) [(.int (0 : Int32)), (.int (0 : Int32)), (.int (0 : Int32)), (.int (0 : Int32))] (.int (0 : Int32)) := (Arv.new A143 (by decide : ¬ ((4 : Int32) < (0 : Int32)))).pad (pad_rep [] (.int (0 : Int32)) 4)
  obtain ⟨cl147, Ar147, aq147, aS147, aN147, aH147, aG147⟩ := id V143
  obtain ⟨T148, h148, X148, e148, W148, st148⟩ := stC X143 hx hZ e143 Ar147 (j := (0 : Int32)) (inb_of aS147 ⟨(by decide), (by decide)⟩) (g := (mkF m 31 #[iv p1, iv p2, iv p3, iv p4, iv p5, iv p6, iv c0, iv c1, iv c2, iv c3, .unset, .unset, .unset, .unset, .unset] [.int c0, .int 0, .ref b143, .ref b143])) rfl rfl (hb hby at_31)
  have N148 := Fr.snoc X148 N142 g144
  have Vx148 := Arv.set Ar147 aq147 aS147 aN147 aH147 aG147 (fits_nar_char _) W148 0 rfl (Nat.le_of_ble_eq_true rfl)
  have V148 : Arv Z h148 b143 k143 .char (4 : Int32) [(.int c0), (.int (0 : Int32)), (.int (0 : Int32)), (.int (0 : Int32))] (.int (0 : Int32)) := by
    have q := Vx148
    rw [show Value.int (nar .char c0) = (.int c0) from congrArg Value.int (own_narc c0 hb0.1 hb0.2)] at q
    exact q
  have Z149 : n0 ≤ h148.size := Nat.le_trans Z145 (Keep.of_wr W148).1
  have O150 : Old Z n0 h148 := O146.wr W148 g144
  obtain ⟨cl151, Ar151, aq151, aS151, aN151, aH151, aG151⟩ := id V148
  obtain ⟨T152, h152, X152, e152, W152, st152⟩ := stC X148 hx hZ e148 Ar151 (j := (1 : Int32)) (inb_of aS151 ⟨(by decide), (by decide)⟩) (g := (mkF m 36 #[iv p1, iv p2, iv p3, iv p4, iv p5, iv p6, iv c0, iv c1, iv c2, iv c3, .unset, .unset, .unset, .unset, .unset] [.int c1, .int 1, .ref b143, .ref b143])) rfl rfl (hb hby at_36)
  have N152 := Fr.snoc X152 N148 g144
  have Vx152 := Arv.set Ar151 aq151 aS151 aN151 aH151 aG151 (fits_nar_char _) W152 1 rfl (Nat.le_of_ble_eq_true rfl)
  have V152 : Arv Z h152 b143 k143 .char (4 : Int32) [(.int c0), (.int c1), (.int (0 : Int32)), (.int (0 : Int32))] (.int (0 : Int32)) := by
    have q := Vx152
    rw [show Value.int (nar .char c1) = (.int c1) from congrArg Value.int (own_narc c1 hb1.1 hb1.2)] at q
    exact q
  have Z153 : n0 ≤ h152.size := Nat.le_trans Z149 (Keep.of_wr W152).1
  have O154 : Old Z n0 h152 := O150.wr W152 g144
  obtain ⟨cl155, Ar155, aq155, aS155, aN155, aH155, aG155⟩ := id V152
  obtain ⟨T156, h156, X156, e156, W156, st156⟩ := stC X152 hx hZ e152 Ar155 (j := (2 : Int32)) (inb_of aS155 ⟨(by decide), (by decide)⟩) (g := (mkF m 41 #[iv p1, iv p2, iv p3, iv p4, iv p5, iv p6, iv c0, iv c1, iv c2, iv c3, .unset, .unset, .unset, .unset, .unset] [.int c2, .int 2, .ref b143, .ref b143])) rfl rfl (hb hby at_41)
  have N156 := Fr.snoc X156 N152 g144
  have Vx156 := Arv.set Ar155 aq155 aS155 aN155 aH155 aG155 (fits_nar_char _) W156 2 rfl (Nat.le_of_ble_eq_true rfl)
  have V156 : Arv Z h156 b143 k143 .char (4 : Int32) [(.int c0), (.int c1), (.int c2), (.int (0 : Int32))] (.int (0 : Int32)) := by
    have q := Vx156
    rw [show Value.int (nar .char c2) = (.int c2) from congrArg Value.int (own_narc c2 hb2.1 hb2.2)] at q
    exact q
  have Z157 : n0 ≤ h156.size := Nat.le_trans Z153 (Keep.of_wr W156).1
  have O158 : Old Z n0 h156 := O154.wr W156 g144
  obtain ⟨cl159, Ar159, aq159, aS159, aN159, aH159, aG159⟩ := id V156
  obtain ⟨T160, h160, X160, e160, W160, st160⟩ := stC X156 hx hZ e156 Ar159 (j := (3 : Int32)) (inb_of aS159 ⟨(by decide), (by decide)⟩) (g := (mkF m 46 #[iv p1, iv p2, iv p3, iv p4, iv p5, iv p6, iv c0, iv c1, iv c2, iv c3, .unset, .unset, .unset, .unset, .unset] [.int c3, .int 3, .ref b143, .ref b143])) rfl rfl (hb hby at_46)
  have N160 := Fr.snoc X160 N156 g144
  have Vx160 := Arv.set Ar159 aq159 aS159 aN159 aH159 aG159 (fits_nar_char _) W160 3 rfl (Nat.le_of_ble_eq_true rfl)
  have V160 : Arv Z h160 b143 k143 .char (4 : Int32) [(.int c0), (.int c1), (.int c2), (.int c3)] (.int (0 : Int32)) := by
    have q := Vx160
    rw [show Value.int (nar .char c3) = (.int c3) from congrArg Value.int (own_narc c3 hb3.1 hb3.2)] at q
    exact q
  have Z161 : n0 ≤ h160.size := Nat.le_trans Z157 (Keep.of_wr W160).1
  have O162 : Old Z n0 h160 := O158.wr W160 g144
  obtain ⟨T163, h163, X163, e163, E163, A163, D163, -, st163⟩ := newO X160 hx hZ hown (W 7 rfl) (W 8 rfl) (W 9 rfl) e160 (g := (mkF m 49 #[iv p1, iv p2, iv p3, iv p4, iv p5, iv p6, iv c0, iv c1, iv c2, iv c3, rv b143, .unset, .unset, .unset, .unset] [])) rfl (hb hby at_49) (by decide) (by decide)
  obtain ⟨b163, g163⟩ : ∃ z, z = h160.size := ⟨_, rfl⟩
  rw [← g163] at A163 D163 st163
  have g164 : n0 ≤ b163 := Nat.le_trans Z161 (Nat.le_of_eq g163.symm)
  have Z165 : n0 ≤ h163.size := Nat.le_trans Z161 E163.1
  have O166 : Old Z n0 h163 := O162.ext E163
  have F167 : Fld Z h163 b163 "java/lang/String" "coder" "B" (.int (0 : Int32)) := D163 (Or.inr (W 33 rfl)) (ty := .byte) (by decide)
  have F168 : Fld Z h163 b163 "java/lang/String" "value" "[B" .null := D163 (Or.inr (W 35 rfl)) (ty := (.array .byte)) (by decide)
  have G169 : ∀ tq, Steps p.tables e below (T163.setTop (mkF m 55 #[iv p1, iv p2, iv p3, iv p4, iv p5, iv p6, iv c0, iv c1, iv c2, iv c3, rv b143, .unset, .unset, .unset, .unset] [.ref b143, .ref b163, .ref b163])) tq → Steps p.tables e below (s₁.setTop (mkF m 0 #[iv p1, iv p2, iv p3, iv p4, iv p5, iv p6, .unset, .unset, .unset, .unset, .unset, .unset, .unset, .unset, .unset] [])) tq := by
    intro tq kk
    show Steps p.tables e below (s₁.setTop (mkF m 0 #[iv p1, iv p2, iv p3, iv p4, iv p5, iv p6, .unset, .unset, .unset, .unset, .unset, .unset, .unset, .unset, .unset] [])) _
    refine XS.iloadN X0.here hx rfl (hb hby at_0) rfl ?_
    show Steps _ _ _ (s₁.setTop (mkF m 1 _ [.int p1])) _
    refine st139 _ ?_
    show Steps p.tables e below (T139.setTop (mkF m 4 #[iv p1, iv p2, iv p3, iv p4, iv p5, iv p6, .unset, .unset, .unset, .unset, .unset, .unset, .unset, .unset, .unset] [.int c0])) _
    refine XS.istore X139.here hx rfl (hb hby at_4) rfl (l' := #[iv p1, iv p2, iv p3, iv p4, iv p5, iv p6, iv c0, .unset, .unset, .unset, .unset, .unset, .unset, .unset, .unset]) rfl ?_
    show Steps _ _ _ (T139.setTop (mkF m 6 _ [])) _
    refine XS.iloadN X139.here hx rfl (hb hby at_6) rfl ?_
    show Steps _ _ _ (T139.setTop (mkF m 7 _ [.int p2])) _
    refine st140 _ ?_
    show Steps p.tables e below (T140.setTop (mkF m 10 #[iv p1, iv p2, iv p3, iv p4, iv p5, iv p6, iv c0, .unset, .unset, .unset, .unset, .unset, .unset, .unset, .unset] [.int c1])) _
    refine XS.istore X140.here hx rfl (hb hby at_10) rfl (l' := #[iv p1, iv p2, iv p3, iv p4, iv p5, iv p6, iv c0, iv c1, .unset, .unset, .unset, .unset, .unset, .unset, .unset]) rfl ?_
    show Steps _ _ _ (T140.setTop (mkF m 12 _ [])) _
    refine XS.iloadN X140.here hx rfl (hb hby at_12) rfl ?_
    show Steps _ _ _ (T140.setTop (mkF m 13 _ [.int p3])) _
    refine st141 _ ?_
    show Steps p.tables e below (T141.setTop (mkF m 16 #[iv p1, iv p2, iv p3, iv p4, iv p5, iv p6, iv c0, iv c1, .unset, .unset, .unset, .unset, .unset, .unset, .unset] [.int c2])) _
    refine XS.istore X141.here hx rfl (hb hby at_16) rfl (l' := #[iv p1, iv p2, iv p3, iv p4, iv p5, iv p6, iv c0, iv c1, iv c2, .unset, .unset, .unset, .unset, .unset, .unset]) rfl ?_
    show Steps _ _ _ (T141.setTop (mkF m 18 _ [])) _
    refine XS.iloadN X141.here hx rfl (hb hby at_18) rfl ?_
    show Steps _ _ _ (T141.setTop (mkF m 19 _ [.int p4])) _
    refine st142 _ ?_
    show Steps p.tables e below (T142.setTop (mkF m 22 #[iv p1, iv p2, iv p3, iv p4, iv p5, iv p6, iv c0, iv c1, iv c2, .unset, .unset, .unset, .unset, .unset, .unset] [.int c3])) _
    refine XS.istore X142.here hx rfl (hb hby at_22) rfl (l' := #[iv p1, iv p2, iv p3, iv p4, iv p5, iv p6, iv c0, iv c1, iv c2, iv c3, .unset, .unset, .unset, .unset, .unset]) rfl ?_
    show Steps _ _ _ (T142.setTop (mkF m 24 _ [])) _
    refine XS.iconst X142.here hx rfl (hb hby at_24) ?_
    show Steps _ _ _ (T142.setTop (mkF m 25 _ [.int 4])) _
    refine st143 _ ?_
    show Steps p.tables e below (T143.setTop (mkF m 27 #[iv p1, iv p2, iv p3, iv p4, iv p5, iv p6, iv c0, iv c1, iv c2, iv c3, .unset, .unset, .unset, .unset, .unset] [.ref b143])) _
    refine XS.dup X143.here hx rfl (hb hby at_27) rfl rfl ?_
    show Steps _ _ _ (T143.setTop (mkF m 28 _ [.ref b143, .ref b143])) _
    refine XS.iconst X143.here hx rfl (hb hby at_28) ?_
    show Steps _ _ _ (T143.setTop (mkF m 29 _ [.int 0, .ref b143, .ref b143])) _
    refine XS.iload X143.here hx rfl (hb hby at_29) rfl ?_
    show Steps _ _ _ (T143.setTop (mkF m 31 _ [.int c0, .int 0, .ref b143, .ref b143])) _
    refine st148 _ ?_
    show Steps p.tables e below (T148.setTop (mkF m 32 #[iv p1, iv p2, iv p3, iv p4, iv p5, iv p6, iv c0, iv c1, iv c2, iv c3, .unset, .unset, .unset, .unset, .unset] [.ref b143])) _
    refine XS.dup X148.here hx rfl (hb hby at_32) rfl rfl ?_
    show Steps _ _ _ (T148.setTop (mkF m 33 _ [.ref b143, .ref b143])) _
    refine XS.iconst X148.here hx rfl (hb hby at_33) ?_
    show Steps _ _ _ (T148.setTop (mkF m 34 _ [.int 1, .ref b143, .ref b143])) _
    refine XS.iload X148.here hx rfl (hb hby at_34) rfl ?_
    show Steps _ _ _ (T148.setTop (mkF m 36 _ [.int c1, .int 1, .ref b143, .ref b143])) _
    refine st152 _ ?_
    show Steps p.tables e below (T152.setTop (mkF m 37 #[iv p1, iv p2, iv p3, iv p4, iv p5, iv p6, iv c0, iv c1, iv c2, iv c3, .unset, .unset, .unset, .unset, .unset] [.ref b143])) _
    refine XS.dup X152.here hx rfl (hb hby at_37) rfl rfl ?_
    show Steps _ _ _ (T152.setTop (mkF m 38 _ [.ref b143, .ref b143])) _
    refine XS.iconst X152.here hx rfl (hb hby at_38) ?_
    show Steps _ _ _ (T152.setTop (mkF m 39 _ [.int 2, .ref b143, .ref b143])) _
    refine XS.iload X152.here hx rfl (hb hby at_39) rfl ?_
    show Steps _ _ _ (T152.setTop (mkF m 41 _ [.int c2, .int 2, .ref b143, .ref b143])) _
    refine st156 _ ?_
    show Steps p.tables e below (T156.setTop (mkF m 42 #[iv p1, iv p2, iv p3, iv p4, iv p5, iv p6, iv c0, iv c1, iv c2, iv c3, .unset, .unset, .unset, .unset, .unset] [.ref b143])) _
    refine XS.dup X156.here hx rfl (hb hby at_42) rfl rfl ?_
    show Steps _ _ _ (T156.setTop (mkF m 43 _ [.ref b143, .ref b143])) _
    refine XS.iconst X156.here hx rfl (hb hby at_43) ?_
    show Steps _ _ _ (T156.setTop (mkF m 44 _ [.int 3, .ref b143, .ref b143])) _
    refine XS.iload X156.here hx rfl (hb hby at_44) rfl ?_
    show Steps _ _ _ (T156.setTop (mkF m 46 _ [.int c3, .int 3, .ref b143, .ref b143])) _
    refine st160 _ ?_
    show Steps p.tables e below (T160.setTop (mkF m 47 #[iv p1, iv p2, iv p3, iv p4, iv p5, iv p6, iv c0, iv c1, iv c2, iv c3, .unset, .unset, .unset, .unset, .unset] [.ref b143])) _
    refine XS.astore X160.here hx rfl (hb hby at_47) rfl rfl (l' := #[iv p1, iv p2, iv p3, iv p4, iv p5, iv p6, iv c0, iv c1, iv c2, iv c3, rv b143, .unset, .unset, .unset, .unset]) rfl ?_
    show Steps _ _ _ (T160.setTop (mkF m 49 _ [])) _
    refine st163 _ ?_
    show Steps p.tables e below (T163.setTop (mkF m 52 #[iv p1, iv p2, iv p3, iv p4, iv p5, iv p6, iv c0, iv c1, iv c2, iv c3, rv b143, .unset, .unset, .unset, .unset] [.ref b163])) _
    refine XS.dup X163.here hx rfl (hb hby at_52) rfl rfl ?_
    show Steps _ _ _ (T163.setTop (mkF m 53 _ [.ref b163, .ref b163])) _
    refine XS.aload X163.here hx rfl (hb hby at_53) rfl rfl ?_
    exact kk
  have hbA : ∀ c ∈ ([c0, c1, c2, c3] : List Int32), ¬ c < 0 ∧ ¬ (65535 : Int32) < c := by
    intro c hc
    simp only [List.mem_cons, List.not_mem_nil, or_false] at hc
    rcases hc with rfl | rfl | rfl | rfl
    · exact hb0
    · exact hb1
    · exact hb2
    · exact hb3
  have f170 := (V160.ext E163)
  have f171 := (Nat.lt_of_lt_of_le (Nat.lt_of_lt_of_le (Nat.lt_of_lt_of_le (Nat.lt_of_lt_of_le V143.lt (Keep.of_wr W148).1) (Keep.of_wr W152).1) (Keep.of_wr W156).1) (Keep.of_wr W160).1)
  obtain ⟨_, _, ⟨T172, L172, k172, n172⟩, -, X172, ⟨Lc172, hQ172, l172, y172, z172⟩, st172⟩ := X163.specialBack hx (y := (⟨"java/lang/String", "<init>", "([C)V"⟩ : MethodName)) rfl hown (mvT hZ (W 10 rfl)) (mvT hZ (W 11 rfl)) (mvT hZ (W 12 rfl)) (by decide) (backOf (W := 1) (rm_snew l Z a0 hw [] b163 b143 k143 G1 [c0, c1, c2, c3] h163 n0 Z165 O166 f170 (Nat.le_of_ble_eq_true rfl) (Nat.le_of_ble_eq_true rfl) hbA A163 g164 F168 F167 (Nat.ne_of_lt (Nat.lt_of_lt_of_le f171 (Nat.le_of_eq g163.symm))) O2 P5 OA OH OL) hZ (W 12 rfl) (W 9 rfl) (by decide) (by decide)) (g := (mkF m 55 #[iv p1, iv p2, iv p3, iv p4, iv p5, iv p6, iv c0, iv c1, iv c2, iv c3, rv b143, .unset, .unset, .unset, .unset] [.ref b143, .ref b163, .ref b163])) rfl (by rw [hml]; rfl) (Steps.refl _) (a := b163) (argsL := [.ref b143]) (rest := [.ref b163]) (lenOf own_pd_1 rfl) rfl (by show 2 * 0 + _ ≤ _; exact Nat.le_of_eq rfl) (hb hby at_55) (fun _ _ => ⟨rfl, e163, (by decide : 2 + 2 ≤ _), (by decide : 8 + 12 ≤ _)⟩)
  dsimp only [Pt.U, Pt.locs, Pt.cells, Pt.slots] at X172 l172 y172 z172 st172 hQ172
  subst l172 y172 z172
  obtain ⟨rfl, Nq172, K172, SX⟩ := hQ172
  have N172 := Fr.app N160 Nq172
  have Z173 : n0 ≤ T172.heap.size := Nat.le_trans Z165 K172.1
  have O174 : Old Z n0 T172.heap := O166.keep K172 (allS g164 all0)
  have G175 : ∀ tq, Steps p.tables e below (T172.setTop (mkF m 84 #[iv p1, iv p2, iv p3, iv p4, iv p5, iv p6, iv c0, iv c1, iv c2, iv c3, rv b143, rv b163, iv (Int32.ofNat f), iv (Int32.ofNat t), .unset] [])) tq → Steps p.tables e below (T163.setTop (mkF m 55 #[iv p1, iv p2, iv p3, iv p4, iv p5, iv p6, iv c0, iv c1, iv c2, iv c3, rv b143, .unset, .unset, .unset, .unset] [.ref b143, .ref b163, .ref b163])) tq := by
    intro tq kk
    show Steps p.tables e below (T163.setTop (mkF m 55 #[iv p1, iv p2, iv p3, iv p4, iv p5, iv p6, iv c0, iv c1, iv c2, iv c3, rv b143, .unset, .unset, .unset, .unset] [.ref b143, .ref b163, .ref b163])) _
    refine st172.trans ?_
    show Steps p.tables e below (T172.setTop (mkF m 58 #[iv p1, iv p2, iv p3, iv p4, iv p5, iv p6, iv c0, iv c1, iv c2, iv c3, rv b143, .unset, .unset, .unset, .unset] [.ref b163])) _
    refine XS.astore X172.here hx rfl (hb hby at_58) rfl rfl (l' := #[iv p1, iv p2, iv p3, iv p4, iv p5, iv p6, iv c0, iv c1, iv c2, iv c3, rv b143, rv b163, .unset, .unset, .unset]) rfl ?_
    show Steps _ _ _ (T172.setTop (mkF m 60 _ [])) _
    refine XS.iload X172.here hx rfl (hb hby at_60) rfl ?_
    show Steps _ _ _ (T172.setTop (mkF m 62 _ [.int p5])) _
    refine Jvm.Stand.ldcI X172 hx hown (mvT hZ (W 36 rfl)) rfl (hb hby at_62) ?_
    show Steps _ _ _ (T172.setTop (mkF m 64 _ [.int 2147483647, .int p5])) _
    refine XS.iand X172.here hx rfl (hb hby at_64) rfl ?_
    show Steps _ _ _ (T172.setTop (mkF m 65 _ [.int (p5 &&& (2147483647 : Int32))])) _
    refine XS.iconst X172.here hx rfl (hb hby at_65) ?_
    show Steps _ _ _ (T172.setTop (mkF m 66 _ [.int 5, .int (p5 &&& (2147483647 : Int32))])) _
    refine XS.irem X172.here hx rfl (hb hby at_66) rfl (by decide) ?_
    rw [own_rem_eq (p5 &&& (2147483647 : Int32)) (5 : Int32)]
    rw [ef]
    show Steps p.tables e below (T172.setTop (mkF m 67 #[iv p1, iv p2, iv p3, iv p4, iv p5, iv p6, iv c0, iv c1, iv c2, iv c3, rv b143, rv b163, .unset, .unset, .unset] [.int (Int32.ofNat f)])) _
    refine XS.istore X172.here hx rfl (hb hby at_67) rfl (l' := #[iv p1, iv p2, iv p3, iv p4, iv p5, iv p6, iv c0, iv c1, iv c2, iv c3, rv b143, rv b163, iv (Int32.ofNat f), .unset, .unset]) rfl ?_
    show Steps _ _ _ (T172.setTop (mkF m 69 _ [])) _
    refine XS.iload X172.here hx rfl (hb hby at_69) rfl ?_
    show Steps _ _ _ (T172.setTop (mkF m 71 _ [.int (Int32.ofNat f)])) _
    refine XS.iload X172.here hx rfl (hb hby at_71) rfl ?_
    show Steps _ _ _ (T172.setTop (mkF m 73 _ [.int p6, .int (Int32.ofNat f)])) _
    refine Jvm.Stand.ldcI X172 hx hown (mvT hZ (W 36 rfl)) rfl (hb hby at_73) ?_
    show Steps _ _ _ (T172.setTop (mkF m 75 _ [.int 2147483647, .int p6, .int (Int32.ofNat f)])) _
    refine XS.iand X172.here hx rfl (hb hby at_75) rfl ?_
    show Steps _ _ _ (T172.setTop (mkF m 76 _ [.int (p6 &&& (2147483647 : Int32)), .int (Int32.ofNat f)])) _
    refine XS.iconst X172.here hx rfl (hb hby at_76) ?_
    show Steps _ _ _ (T172.setTop (mkF m 77 _ [.int 5, .int (p6 &&& (2147483647 : Int32)), .int (Int32.ofNat f)])) _
    refine XS.iload X172.here hx rfl (hb hby at_77) rfl ?_
    show Steps _ _ _ (T172.setTop (mkF m 79 _ [.int (Int32.ofNat f), .int 5, .int (p6 &&& (2147483647 : Int32)), .int (Int32.ofNat f)])) _
    refine XS.isub X172.here hx rfl (hb hby at_79) rfl ?_
    show Steps p.tables e below (T172.setTop (mkF m 80 #[iv p1, iv p2, iv p3, iv p4, iv p5, iv p6, iv c0, iv c1, iv c2, iv c3, rv b143, rv b163, iv (Int32.ofNat f), .unset, .unset] [.int ((5 : Int32) - (Int32.ofNat f)), .int (p6 &&& (2147483647 : Int32)), .int (Int32.ofNat f)])) _
    refine XS.irem X172.here hx rfl (hb hby at_80) rfl nf ?_
    rw [own_rem_eq (p6 &&& (2147483647 : Int32)) ((5 : Int32) - (Int32.ofNat f))]
    show Steps p.tables e below (T172.setTop (mkF m 81 #[iv p1, iv p2, iv p3, iv p4, iv p5, iv p6, iv c0, iv c1, iv c2, iv c3, rv b143, rv b163, iv (Int32.ofNat f), .unset, .unset] [.int ((p6 &&& (2147483647 : Int32)) % ((5 : Int32) - (Int32.ofNat f))), .int (Int32.ofNat f)])) _
    refine XS.iadd X172.here hx rfl (hb hby at_81) rfl ?_
    rw [et]
    show Steps p.tables e below (T172.setTop (mkF m 82 #[iv p1, iv p2, iv p3, iv p4, iv p5, iv p6, iv c0, iv c1, iv c2, iv c3, rv b143, rv b163, iv (Int32.ofNat f), .unset, .unset] [.int (Int32.ofNat t)])) _
    refine XS.istore X172.here hx rfl (hb hby at_82) rfl (l' := #[iv p1, iv p2, iv p3, iv p4, iv p5, iv p6, iv c0, iv c1, iv c2, iv c3, rv b143, rv b163, iv (Int32.ofNat f), iv (Int32.ofNat t), .unset]) rfl ?_
    exact kk
  obtain ⟨ex, TE, locsE, XE, eE, NE, hex, GE⟩ : ∃ (ex : Int32) (TE : State) (locsE : List Loc), Stand p l e room_1 s m #[(.int p1), (.int p2), (.int p3), (.int p4), (.int p5), (.int p6)] below meth c TE locsE 4 20 ∧ TE.heap = T172.heap ∧ Fr n0 locsE ∧ ((ex = 1 ∧ own_ok c0 (0 : Int32) (Int32.ofNat f) (Int32.ofNat t) ∧ own_ok c1 (1 : Int32) (Int32.ofNat f) (Int32.ofNat t) ∧ own_ok c2 (2 : Int32) (Int32.ofNat f) (Int32.ofNat t) ∧ own_ok c3 (3 : Int32) (Int32.ofNat f) (Int32.ofNat t)) ∨ (ex = 0 ∧ ¬ (own_ok c0 (0 : Int32) (Int32.ofNat f) (Int32.ofNat t) ∧ own_ok c1 (1 : Int32) (Int32.ofNat f) (Int32.ofNat t) ∧ own_ok c2 (2 : Int32) (Int32.ofNat f) (Int32.ofNat t) ∧ own_ok c3 (3 : Int32) (Int32.ofNat f) (Int32.ofNat t)))) ∧ (∀ tgt, Steps p.tables e below (TE.setTop (mkF m 141 #[iv p1, iv p2, iv p3, iv p4, iv p5, iv p6, iv c0, iv c1, iv c2, iv c3, rv b143, rv b163, iv (Int32.ofNat f), iv (Int32.ofNat t), .unset] [.int ex])) tgt → Steps p.tables e below (T172.setTop (mkF m 84 #[iv p1, iv p2, iv p3, iv p4, iv p5, iv p6, iv c0, iv c1, iv c2, iv c3, rv b143, rv b163, iv (Int32.ofNat f), iv (Int32.ofNat t), .unset] [])) tgt) := by
    obtain ⟨_, _, ⟨T176, L176, k176, n176⟩, -, X176, ⟨Lc176, hQ176, l176, y176, z176⟩, st176⟩ := Jvm.LawKit.callS X172 hx (y := (⟨"com/example/pensionwright/pensionwright/input/DatesAllDigitsPinLaw", "ok", "(CIII)Z"⟩ : MethodName)) hown (mvT hZ (W 37 rfl)) (mvT hZ (W 38 rfl)) (mvT hZ (W 2 rfl)) (mvT hZ (W 39 rfl)) (by decide) (backOf (W := 0) (rm_ok l Z a0 hw [] c0 (0 : Int32) (Int32.ofNat f) (Int32.ofNat t) T172.heap n0 Z173 ) hZ (W 39 rfl) (W 2 rfl) (by decide) (by decide)) (g := (mkF m 91 #[iv p1, iv p2, iv p3, iv p4, iv p5, iv p6, iv c0, iv c1, iv c2, iv c3, rv b143, rv b163, iv (Int32.ofNat f), iv (Int32.ofNat t), .unset] [.int (Int32.ofNat t), .int (Int32.ofNat f), .int 0, .int c0])) rfl (by rw [hml]; rfl) (argsL := [.int c0, .int 0, .int (Int32.ofNat f), .int (Int32.ofNat t)]) (rest := []) (lenOf own_pd_7 rfl) rfl (by show 2 * 0 + _ ≤ _; exact Nat.le_of_eq rfl) (hb hby at_91) (fun _ _ => ⟨rfl, rfl, (by decide : 4 + 0 ≤ _), (by decide : 20 + 0 ≤ _)⟩)
    dsimp only [Pt.U, Pt.locs, Pt.cells, Pt.slots] at X176 l176 y176 z176 st176 hQ176
    subst l176 y176 z176
    obtain ⟨Nq176, e176, hq176⟩ := hQ176
    have N176 := Fr.app N172 Nq176
    rcases hq176 with ⟨rfl, hk0⟩ | ⟨rfl, hk0⟩
    · have G178 : ∀ tq, Steps p.tables e below (T176.setTop (mkF m 97 #[iv p1, iv p2, iv p3, iv p4, iv p5, iv p6, iv c0, iv c1, iv c2, iv c3, rv b143, rv b163, iv (Int32.ofNat f), iv (Int32.ofNat t), .unset] [])) tq → Steps p.tables e below (T172.setTop (mkF m 84 #[iv p1, iv p2, iv p3, iv p4, iv p5, iv p6, iv c0, iv c1, iv c2, iv c3, rv b143, rv b163, iv (Int32.ofNat f), iv (Int32.ofNat t), .unset] [])) tq := by
        intro tq kk
        show Steps p.tables e below (T172.setTop (mkF m 84 #[iv p1, iv p2, iv p3, iv p4, iv p5, iv p6, iv c0, iv c1, iv c2, iv c3, rv b143, rv b163, iv (Int32.ofNat f), iv (Int32.ofNat t), .unset] [])) _
        refine XS.iload X172.here hx rfl (hb hby at_84) rfl ?_
        show Steps _ _ _ (T172.setTop (mkF m 86 _ [.int c0])) _
        refine XS.iconst X172.here hx rfl (hb hby at_86) ?_
        show Steps _ _ _ (T172.setTop (mkF m 87 _ [.int 0, .int c0])) _
        refine XS.iload X172.here hx rfl (hb hby at_87) rfl ?_
        show Steps _ _ _ (T172.setTop (mkF m 89 _ [.int (Int32.ofNat f), .int 0, .int c0])) _
        refine XS.iload X172.here hx rfl (hb hby at_89) rfl ?_
        show Steps _ _ _ (T172.setTop (mkF m 91 _ [.int (Int32.ofNat t), .int (Int32.ofNat f), .int 0, .int c0])) _
        refine st176 _ ?_
        show Steps p.tables e below (T176.setTop (mkF m 94 #[iv p1, iv p2, iv p3, iv p4, iv p5, iv p6, iv c0, iv c1, iv c2, iv c3, rv b143, rv b163, iv (Int32.ofNat f), iv (Int32.ofNat t), .unset] [.int 1])) _
        refine XS.ifNo X176.here hx rfl (hb hby at_94) rfl ((if0 _ _).trans (feq ((by decide) : ¬ ((1 : Int32) = (0 : Int32)))).1) ?_
        exact kk
      obtain ⟨_, _, ⟨T179, L179, k179, n179⟩, -, X179, ⟨Lc179, hQ179, l179, y179, z179⟩, st179⟩ := Jvm.LawKit.callS X176 hx (y := (⟨"com/example/pensionwright/pensionwright/input/DatesAllDigitsPinLaw", "ok", "(CIII)Z"⟩ : MethodName)) hown (mvT hZ (W 37 rfl)) (mvT hZ (W 38 rfl)) (mvT hZ (W 2 rfl)) (mvT hZ (W 39 rfl)) (by decide) (backOf (W := 0) (rm_ok l Z a0 hw [] c1 (1 : Int32) (Int32.ofNat f) (Int32.ofNat t) T172.heap n0 Z173 ) hZ (W 39 rfl) (W 2 rfl) (by decide) (by decide)) (g := (mkF m 104 #[iv p1, iv p2, iv p3, iv p4, iv p5, iv p6, iv c0, iv c1, iv c2, iv c3, rv b143, rv b163, iv (Int32.ofNat f), iv (Int32.ofNat t), .unset] [.int (Int32.ofNat t), .int (Int32.ofNat f), .int 1, .int c1])) rfl (by rw [hml]; rfl) (argsL := [.int c1, .int 1, .int (Int32.ofNat f), .int (Int32.ofNat t)]) (rest := []) (lenOf own_pd_7 rfl) rfl (by show 2 * 0 + _ ≤ _; exact Nat.le_of_eq rfl) (hb hby at_104) (fun _ _ => ⟨rfl, e176, (by decide : 4 + 0 ≤ _), (by decide : 20 + 0 ≤ _)⟩)
      dsimp only [Pt.U, Pt.locs, Pt.cells, Pt.slots] at X179 l179 y179 z179 st179 hQ179
      subst l179 y179 z179
      obtain ⟨Nq179, e179, hq179⟩ := hQ179
      have N179 := Fr.app N176 Nq179
      rcases hq179 with ⟨rfl, hk1⟩ | ⟨rfl, hk1⟩
      · have G181 : ∀ tq, Steps p.tables e below (T179.setTop (mkF m 110 #[iv p1, iv p2, iv p3, iv p4, iv p5, iv p6, iv c0, iv c1, iv c2, iv c3, rv b143, rv b163, iv (Int32.ofNat f), iv (Int32.ofNat t), .unset] [])) tq → Steps p.tables e below (T176.setTop (mkF m 97 #[iv p1, iv p2, iv p3, iv p4, iv p5, iv p6, iv c0, iv c1, iv c2, iv c3, rv b143, rv b163, iv (Int32.ofNat f), iv (Int32.ofNat t), .unset] [])) tq := by
          intro tq kk
          show Steps p.tables e below (T176.setTop (mkF m 97 #[iv p1, iv p2, iv p3, iv p4, iv p5, iv p6, iv c0, iv c1, iv c2, iv c3, rv b143, rv b163, iv (Int32.ofNat f), iv (Int32.ofNat t), .unset] [])) _
          refine XS.iload X176.here hx rfl (hb hby at_97) rfl ?_
          show Steps _ _ _ (T176.setTop (mkF m 99 _ [.int c1])) _
          refine XS.iconst X176.here hx rfl (hb hby at_99) ?_
          show Steps _ _ _ (T176.setTop (mkF m 100 _ [.int 1, .int c1])) _
          refine XS.iload X176.here hx rfl (hb hby at_100) rfl ?_
          show Steps _ _ _ (T176.setTop (mkF m 102 _ [.int (Int32.ofNat f), .int 1, .int c1])) _
          refine XS.iload X176.here hx rfl (hb hby at_102) rfl ?_
          show Steps _ _ _ (T176.setTop (mkF m 104 _ [.int (Int32.ofNat t), .int (Int32.ofNat f), .int 1, .int c1])) _
          refine st179 _ ?_
          show Steps p.tables e below (T179.setTop (mkF m 107 #[iv p1, iv p2, iv p3, iv p4, iv p5, iv p6, iv c0, iv c1, iv c2, iv c3, rv b143, rv b163, iv (Int32.ofNat f), iv (Int32.ofNat t), .unset] [.int 1])) _
          refine XS.ifNo X179.here hx rfl (hb hby at_107) rfl ((if0 _ _).trans (feq ((by decide) : ¬ ((1 : Int32) = (0 : Int32)))).1) ?_
          exact kk
        obtain ⟨_, _, ⟨T182, L182, k182, n182⟩, -, X182, ⟨Lc182, hQ182, l182, y182, z182⟩, st182⟩ := Jvm.LawKit.callS X179 hx (y := (⟨"com/example/pensionwright/pensionwright/input/DatesAllDigitsPinLaw", "ok", "(CIII)Z"⟩ : MethodName)) hown (mvT hZ (W 37 rfl)) (mvT hZ (W 38 rfl)) (mvT hZ (W 2 rfl)) (mvT hZ (W 39 rfl)) (by decide) (backOf (W := 0) (rm_ok l Z a0 hw [] c2 (2 : Int32) (Int32.ofNat f) (Int32.ofNat t) T172.heap n0 Z173 ) hZ (W 39 rfl) (W 2 rfl) (by decide) (by decide)) (g := (mkF m 117 #[iv p1, iv p2, iv p3, iv p4, iv p5, iv p6, iv c0, iv c1, iv c2, iv c3, rv b143, rv b163, iv (Int32.ofNat f), iv (Int32.ofNat t), .unset] [.int (Int32.ofNat t), .int (Int32.ofNat f), .int 2, .int c2])) rfl (by rw [hml]; rfl) (argsL := [.int c2, .int 2, .int (Int32.ofNat f), .int (Int32.ofNat t)]) (rest := []) (lenOf own_pd_7 rfl) rfl (by show 2 * 0 + _ ≤ _; exact Nat.le_of_eq rfl) (hb hby at_117) (fun _ _ => ⟨rfl, e179, (by decide : 4 + 0 ≤ _), (by decide : 20 + 0 ≤ _)⟩)
        dsimp only [Pt.U, Pt.locs, Pt.cells, Pt.slots] at X182 l182 y182 z182 st182 hQ182
        subst l182 y182 z182
        obtain ⟨Nq182, e182, hq182⟩ := hQ182
        have N182 := Fr.app N179 Nq182
        rcases hq182 with ⟨rfl, hk2⟩ | ⟨rfl, hk2⟩
        · have G184 : ∀ tq, Steps p.tables e below (T182.setTop (mkF m 123 #[iv p1, iv p2, iv p3, iv p4, iv p5, iv p6, iv c0, iv c1, iv c2, iv c3, rv b143, rv b163, iv (Int32.ofNat f), iv (Int32.ofNat t), .unset] [])) tq → Steps p.tables e below (T179.setTop (mkF m 110 #[iv p1, iv p2, iv p3, iv p4, iv p5, iv p6, iv c0, iv c1, iv c2, iv c3, rv b143, rv b163, iv (Int32.ofNat f), iv (Int32.ofNat t), .unset] [])) tq := by
            intro tq kk
            show Steps p.tables e below (T179.setTop (mkF m 110 #[iv p1, iv p2, iv p3, iv p4, iv p5, iv p6, iv c0, iv c1, iv c2, iv c3, rv b143, rv b163, iv (Int32.ofNat f), iv (Int32.ofNat t), .unset] [])) _
            refine XS.iload X179.here hx rfl (hb hby at_110) rfl ?_
            show Steps _ _ _ (T179.setTop (mkF m 112 _ [.int c2])) _
            refine XS.iconst X179.here hx rfl (hb hby at_112) ?_
            show Steps _ _ _ (T179.setTop (mkF m 113 _ [.int 2, .int c2])) _
            refine XS.iload X179.here hx rfl (hb hby at_113) rfl ?_
            show Steps _ _ _ (T179.setTop (mkF m 115 _ [.int (Int32.ofNat f), .int 2, .int c2])) _
            refine XS.iload X179.here hx rfl (hb hby at_115) rfl ?_
            show Steps _ _ _ (T179.setTop (mkF m 117 _ [.int (Int32.ofNat t), .int (Int32.ofNat f), .int 2, .int c2])) _
            refine st182 _ ?_
            show Steps p.tables e below (T182.setTop (mkF m 120 #[iv p1, iv p2, iv p3, iv p4, iv p5, iv p6, iv c0, iv c1, iv c2, iv c3, rv b143, rv b163, iv (Int32.ofNat f), iv (Int32.ofNat t), .unset] [.int 1])) _
            refine XS.ifNo X182.here hx rfl (hb hby at_120) rfl ((if0 _ _).trans (feq ((by decide) : ¬ ((1 : Int32) = (0 : Int32)))).1) ?_
            exact kk
          obtain ⟨_, _, ⟨T185, L185, k185, n185⟩, -, X185, ⟨Lc185, hQ185, l185, y185, z185⟩, st185⟩ := Jvm.LawKit.callS X182 hx (y := (⟨"com/example/pensionwright/pensionwright/input/DatesAllDigitsPinLaw", "ok", "(CIII)Z"⟩ : MethodName)) hown (mvT hZ (W 37 rfl)) (mvT hZ (W 38 rfl)) (mvT hZ (W 2 rfl)) (mvT hZ (W 39 rfl)) (by decide) (backOf (W := 0) (rm_ok l Z a0 hw [] c3 (3 : Int32) (Int32.ofNat f) (Int32.ofNat t) T172.heap n0 Z173 ) hZ (W 39 rfl) (W 2 rfl) (by decide) (by decide)) (g := (mkF m 130 #[iv p1, iv p2, iv p3, iv p4, iv p5, iv p6, iv c0, iv c1, iv c2, iv c3, rv b143, rv b163, iv (Int32.ofNat f), iv (Int32.ofNat t), .unset] [.int (Int32.ofNat t), .int (Int32.ofNat f), .int 3, .int c3])) rfl (by rw [hml]; rfl) (argsL := [.int c3, .int 3, .int (Int32.ofNat f), .int (Int32.ofNat t)]) (rest := []) (lenOf own_pd_7 rfl) rfl (by show 2 * 0 + _ ≤ _; exact Nat.le_of_eq rfl) (hb hby at_130) (fun _ _ => ⟨rfl, e182, (by decide : 4 + 0 ≤ _), (by decide : 20 + 0 ≤ _)⟩)
          dsimp only [Pt.U, Pt.locs, Pt.cells, Pt.slots] at X185 l185 y185 z185 st185 hQ185
          subst l185 y185 z185
          obtain ⟨Nq185, e185, hq185⟩ := hQ185
          have N185 := Fr.app N182 Nq185
          rcases hq185 with ⟨rfl, hk3⟩ | ⟨rfl, hk3⟩
          · have G187 : ∀ tq, Steps p.tables e below (T185.setTop (mkF m 141 #[iv p1, iv p2, iv p3, iv p4, iv p5, iv p6, iv c0, iv c1, iv c2, iv c3, rv b143, rv b163, iv (Int32.ofNat f), iv (Int32.ofNat t), .unset] [.int 1])) tq → Steps p.tables e below (T182.setTop (mkF m 123 #[iv p1, iv p2, iv p3, iv p4, iv p5, iv p6, iv c0, iv c1, iv c2, iv c3, rv b143, rv b163, iv (Int32.ofNat f), iv (Int32.ofNat t), .unset] [])) tq := by
              intro tq kk
              show Steps p.tables e below (T182.setTop (mkF m 123 #[iv p1, iv p2, iv p3, iv p4, iv p5, iv p6, iv c0, iv c1, iv c2, iv c3, rv b143, rv b163, iv (Int32.ofNat f), iv (Int32.ofNat t), .unset] [])) _
              refine XS.iload X182.here hx rfl (hb hby at_123) rfl ?_
              show Steps _ _ _ (T182.setTop (mkF m 125 _ [.int c3])) _
              refine XS.iconst X182.here hx rfl (hb hby at_125) ?_
              show Steps _ _ _ (T182.setTop (mkF m 126 _ [.int 3, .int c3])) _
              refine XS.iload X182.here hx rfl (hb hby at_126) rfl ?_
              show Steps _ _ _ (T182.setTop (mkF m 128 _ [.int (Int32.ofNat f), .int 3, .int c3])) _
              refine XS.iload X182.here hx rfl (hb hby at_128) rfl ?_
              show Steps _ _ _ (T182.setTop (mkF m 130 _ [.int (Int32.ofNat t), .int (Int32.ofNat f), .int 3, .int c3])) _
              refine st185 _ ?_
              show Steps p.tables e below (T185.setTop (mkF m 133 #[iv p1, iv p2, iv p3, iv p4, iv p5, iv p6, iv c0, iv c1, iv c2, iv c3, rv b143, rv b163, iv (Int32.ofNat f), iv (Int32.ofNat t), .unset] [.int 1])) _
              refine XS.ifNo X185.here hx rfl (hb hby at_133) rfl ((if0 _ _).trans (feq ((by decide) : ¬ ((1 : Int32) = (0 : Int32)))).1) ?_
              show Steps _ _ _ (T185.setTop (mkF m 136 _ [])) _
              refine XS.iconst X185.here hx rfl (hb hby at_136) ?_
              show Steps _ _ _ (T185.setTop (mkF m 137 _ [.int 1])) _
              refine XS.goto X185.here hx rfl (pc0 := 137) (pc' := 141) rfl (hb hby at_137) (by decide) (by decide) ?_
              exact kk
            exact ⟨1, T185, _, X185, e185, N185, Or.inl ⟨rfl, hk0, hk1, hk2, hk3⟩, fun tgt kk => G178 _ (G181 _ (G184 _ (G187 _ kk)))⟩
          · have G186 : ∀ tq, Steps p.tables e below (T185.setTop (mkF m 141 #[iv p1, iv p2, iv p3, iv p4, iv p5, iv p6, iv c0, iv c1, iv c2, iv c3, rv b143, rv b163, iv (Int32.ofNat f), iv (Int32.ofNat t), .unset] [.int 0])) tq → Steps p.tables e below (T182.setTop (mkF m 123 #[iv p1, iv p2, iv p3, iv p4, iv p5, iv p6, iv c0, iv c1, iv c2, iv c3, rv b143, rv b163, iv (Int32.ofNat f), iv (Int32.ofNat t), .unset] [])) tq := by
              intro tq kk
              show Steps p.tables e below (T182.setTop (mkF m 123 #[iv p1, iv p2, iv p3, iv p4, iv p5, iv p6, iv c0, iv c1, iv c2, iv c3, rv b143, rv b163, iv (Int32.ofNat f), iv (Int32.ofNat t), .unset] [])) _
              refine XS.iload X182.here hx rfl (hb hby at_123) rfl ?_
              show Steps _ _ _ (T182.setTop (mkF m 125 _ [.int c3])) _
              refine XS.iconst X182.here hx rfl (hb hby at_125) ?_
              show Steps _ _ _ (T182.setTop (mkF m 126 _ [.int 3, .int c3])) _
              refine XS.iload X182.here hx rfl (hb hby at_126) rfl ?_
              show Steps _ _ _ (T182.setTop (mkF m 128 _ [.int (Int32.ofNat f), .int 3, .int c3])) _
              refine XS.iload X182.here hx rfl (hb hby at_128) rfl ?_
              show Steps _ _ _ (T182.setTop (mkF m 130 _ [.int (Int32.ofNat t), .int (Int32.ofNat f), .int 3, .int c3])) _
              refine st185 _ ?_
              show Steps p.tables e below (T185.setTop (mkF m 133 #[iv p1, iv p2, iv p3, iv p4, iv p5, iv p6, iv c0, iv c1, iv c2, iv c3, rv b143, rv b163, iv (Int32.ofNat f), iv (Int32.ofNat t), .unset] [.int 0])) _
              refine XS.ifYes X185.here hx rfl (pc0 := 133) (pc' := 140) rfl (hb hby at_133) rfl ((if0 _ _).trans (teq (rfl : (0 : Int32) = (0 : Int32))).1) (by decide) (by decide) ?_
              show Steps _ _ _ (T185.setTop (mkF m 140 _ [])) _
              refine XS.iconst X185.here hx rfl (hb hby at_140) ?_
              exact kk
            exact ⟨0, T185, _, X185, e185, N185, Or.inr ⟨rfl, fun q => hk3 q.2.2.2⟩, fun tgt kk => G178 _ (G181 _ (G184 _ (G186 _ kk)))⟩
        · have G183 : ∀ tq, Steps p.tables e below (T182.setTop (mkF m 141 #[iv p1, iv p2, iv p3, iv p4, iv p5, iv p6, iv c0, iv c1, iv c2, iv c3, rv b143, rv b163, iv (Int32.ofNat f), iv (Int32.ofNat t), .unset] [.int 0])) tq → Steps p.tables e below (T179.setTop (mkF m 110 #[iv p1, iv p2, iv p3, iv p4, iv p5, iv p6, iv c0, iv c1, iv c2, iv c3, rv b143, rv b163, iv (Int32.ofNat f), iv (Int32.ofNat t), .unset] [])) tq := by
            intro tq kk
            show Steps p.tables e below (T179.setTop (mkF m 110 #[iv p1, iv p2, iv p3, iv p4, iv p5, iv p6, iv c0, iv c1, iv c2, iv c3, rv b143, rv b163, iv (Int32.ofNat f), iv (Int32.ofNat t), .unset] [])) _
            refine XS.iload X179.here hx rfl (hb hby at_110) rfl ?_
            show Steps _ _ _ (T179.setTop (mkF m 112 _ [.int c2])) _
            refine XS.iconst X179.here hx rfl (hb hby at_112) ?_
            show Steps _ _ _ (T179.setTop (mkF m 113 _ [.int 2, .int c2])) _
            refine XS.iload X179.here hx rfl (hb hby at_113) rfl ?_
            show Steps _ _ _ (T179.setTop (mkF m 115 _ [.int (Int32.ofNat f), .int 2, .int c2])) _
            refine XS.iload X179.here hx rfl (hb hby at_115) rfl ?_
            show Steps _ _ _ (T179.setTop (mkF m 117 _ [.int (Int32.ofNat t), .int (Int32.ofNat f), .int 2, .int c2])) _
            refine st182 _ ?_
            show Steps p.tables e below (T182.setTop (mkF m 120 #[iv p1, iv p2, iv p3, iv p4, iv p5, iv p6, iv c0, iv c1, iv c2, iv c3, rv b143, rv b163, iv (Int32.ofNat f), iv (Int32.ofNat t), .unset] [.int 0])) _
            refine XS.ifYes X182.here hx rfl (pc0 := 120) (pc' := 140) rfl (hb hby at_120) rfl ((if0 _ _).trans (teq (rfl : (0 : Int32) = (0 : Int32))).1) (by decide) (by decide) ?_
            show Steps _ _ _ (T182.setTop (mkF m 140 _ [])) _
            refine XS.iconst X182.here hx rfl (hb hby at_140) ?_
            exact kk
          exact ⟨0, T182, _, X182, e182, N182, Or.inr ⟨rfl, fun q => hk2 q.2.2.1⟩, fun tgt kk => G178 _ (G181 _ (G183 _ kk))⟩
      · have G180 : ∀ tq, Steps p.tables e below (T179.setTop (mkF m 141 #[iv p1, iv p2, iv p3, iv p4, iv p5, iv p6, iv c0, iv c1, iv c2, iv c3, rv b143, rv b163, iv (Int32.ofNat f), iv (Int32.ofNat t), .unset] [.int 0])) tq → Steps p.tables e below (T176.setTop (mkF m 97 #[iv p1, iv p2, iv p3, iv p4, iv p5, iv p6, iv c0, iv c1, iv c2, iv c3, rv b143, rv b163, iv (Int32.ofNat f), iv (Int32.ofNat t), .unset] [])) tq := by
          intro tq kk
          show Steps p.tables e below (T176.setTop (mkF m 97 #[iv p1, iv p2, iv p3, iv p4, iv p5, iv p6, iv c0, iv c1, iv c2, iv c3, rv b143, rv b163, iv (Int32.ofNat f), iv (Int32.ofNat t), .unset] [])) _
          refine XS.iload X176.here hx rfl (hb hby at_97) rfl ?_
          show Steps _ _ _ (T176.setTop (mkF m 99 _ [.int c1])) _
          refine XS.iconst X176.here hx rfl (hb hby at_99) ?_
          show Steps _ _ _ (T176.setTop (mkF m 100 _ [.int 1, .int c1])) _
          refine XS.iload X176.here hx rfl (hb hby at_100) rfl ?_
          show Steps _ _ _ (T176.setTop (mkF m 102 _ [.int (Int32.ofNat f), .int 1, .int c1])) _
          refine XS.iload X176.here hx rfl (hb hby at_102) rfl ?_
          show Steps _ _ _ (T176.setTop (mkF m 104 _ [.int (Int32.ofNat t), .int (Int32.ofNat f), .int 1, .int c1])) _
          refine st179 _ ?_
          show Steps p.tables e below (T179.setTop (mkF m 107 #[iv p1, iv p2, iv p3, iv p4, iv p5, iv p6, iv c0, iv c1, iv c2, iv c3, rv b143, rv b163, iv (Int32.ofNat f), iv (Int32.ofNat t), .unset] [.int 0])) _
          refine XS.ifYes X179.here hx rfl (pc0 := 107) (pc' := 140) rfl (hb hby at_107) rfl ((if0 _ _).trans (teq (rfl : (0 : Int32) = (0 : Int32))).1) (by decide) (by decide) ?_
          show Steps _ _ _ (T179.setTop (mkF m 140 _ [])) _
          refine XS.iconst X179.here hx rfl (hb hby at_140) ?_
          exact kk
        exact ⟨0, T179, _, X179, e179, N179, Or.inr ⟨rfl, fun q => hk1 q.2.1⟩, fun tgt kk => G178 _ (G180 _ kk)⟩
    · have G177 : ∀ tq, Steps p.tables e below (T176.setTop (mkF m 141 #[iv p1, iv p2, iv p3, iv p4, iv p5, iv p6, iv c0, iv c1, iv c2, iv c3, rv b143, rv b163, iv (Int32.ofNat f), iv (Int32.ofNat t), .unset] [.int 0])) tq → Steps p.tables e below (T172.setTop (mkF m 84 #[iv p1, iv p2, iv p3, iv p4, iv p5, iv p6, iv c0, iv c1, iv c2, iv c3, rv b143, rv b163, iv (Int32.ofNat f), iv (Int32.ofNat t), .unset] [])) tq := by
        intro tq kk
        show Steps p.tables e below (T172.setTop (mkF m 84 #[iv p1, iv p2, iv p3, iv p4, iv p5, iv p6, iv c0, iv c1, iv c2, iv c3, rv b143, rv b163, iv (Int32.ofNat f), iv (Int32.ofNat t), .unset] [])) _
        refine XS.iload X172.here hx rfl (hb hby at_84) rfl ?_
        show Steps _ _ _ (T172.setTop (mkF m 86 _ [.int c0])) _
        refine XS.iconst X172.here hx rfl (hb hby at_86) ?_
        show Steps _ _ _ (T172.setTop (mkF m 87 _ [.int 0, .int c0])) _
        refine XS.iload X172.here hx rfl (hb hby at_87) rfl ?_
        show Steps _ _ _ (T172.setTop (mkF m 89 _ [.int (Int32.ofNat f), .int 0, .int c0])) _
        refine XS.iload X172.here hx rfl (hb hby at_89) rfl ?_
        show Steps _ _ _ (T172.setTop (mkF m 91 _ [.int (Int32.ofNat t), .int (Int32.ofNat f), .int 0, .int c0])) _
        refine st176 _ ?_
        show Steps p.tables e below (T176.setTop (mkF m 94 #[iv p1, iv p2, iv p3, iv p4, iv p5, iv p6, iv c0, iv c1, iv c2, iv c3, rv b143, rv b163, iv (Int32.ofNat f), iv (Int32.ofNat t), .unset] [.int 0])) _
        refine XS.ifYes X176.here hx rfl (pc0 := 94) (pc' := 140) rfl (hb hby at_94) rfl ((if0 _ _).trans (teq (rfl : (0 : Int32) = (0 : Int32))).1) (by decide) (by decide) ?_
        show Steps _ _ _ (T176.setTop (mkF m 140 _ [])) _
        refine XS.iconst X176.here hx rfl (hb hby at_140) ?_
        exact kk
      exact ⟨0, T176, _, X176, e176, N176, Or.inr ⟨rfl, fun q => hk0 q.1⟩, fun tgt kk => G177 _ kk⟩
  obtain ⟨_, _, ⟨T188, L188, k188, n188⟩, -, X188, ⟨Lc188, hQ188, l188, y188, z188⟩, st188⟩ := Jvm.LawKit.callS XE hx (y := (⟨"com/example/pensionwright/pensionwright/input/Dates", "allDigits", "(Ljava/lang/String;II)Z"⟩ : MethodName)) hown (mvT hZ (W 40 rfl)) (mvT hZ (W 41 rfl)) (mvT hZ (W 42 rfl)) (mvT hZ (W 43 rfl)) (by decide) (backOf (W := 0) (rm_ad l Z a0 hw [] b163 _ f t [c0, c1, c2, c3] G1 G3 T172.heap n0 Z173 O174 SX hf ht (Nat.le_of_ble_eq_true rfl) O2 P5 O4 rG3 OA OH OL) hZ (W 43 rfl) (W 42 rfl) (by decide) (by decide)) (g := (mkF m 149 #[iv p1, iv p2, iv p3, iv p4, iv p5, iv p6, iv c0, iv c1, iv c2, iv c3, rv b143, rv b163, iv (Int32.ofNat f), iv (Int32.ofNat t), iv ex] [.int (Int32.ofNat t), .int (Int32.ofNat f), .ref b163])) rfl (by rw [hml]; rfl) (argsL := [.ref b163, .int (Int32.ofNat f), .int (Int32.ofNat t)]) (rest := []) (lenOf own_pd_8 rfl) rfl (by show 2 * 0 + _ ≤ _; exact Nat.le_of_eq rfl) (hb hby at_149) (fun _ _ => ⟨rfl, eE, (by decide : 4 + 0 ≤ _), (by decide : 20 + 0 ≤ _)⟩)
  dsimp only [Pt.U, Pt.locs, Pt.cells, Pt.slots] at X188 l188 y188 z188 st188 hQ188
  subst l188 y188 z188
  obtain ⟨Nq188, e188, hq188⟩ := hQ188
  have N188 := Fr.app NE Nq188
  have hall := own_all (c0 := c0) (c1 := c1) (c2 := c2) (c3 := c3) ht hf
  rcases hq188 with ⟨rfl, hr⟩ | ⟨rfl, hr⟩
  · obtain rfl : ex = 1 := hex.elim (fun q => q.1) (fun q => absurd (hall.mp hr) q.2)
    obtain ⟨fs, hr, hrun, hended, hW, hsame⟩ := X188.leave (v := some (.int (1 : Int32))) (fun h => by rw [Bd.returns] at h; cases h)
    refine ⟨_, _, pre0 _ (G169 _ (G175 _ (GE _ (?_)))), hrun, hended, _, _, rfl, ?_, ⟨_, rfl⟩, hW, hsame.mono (by decide) (by decide)⟩
    · show Steps p.tables e below (TE.setTop (mkF m 141 #[iv p1, iv p2, iv p3, iv p4, iv p5, iv p6, iv c0, iv c1, iv c2, iv c3, rv b143, rv b163, iv (Int32.ofNat f), iv (Int32.ofNat t), .unset] [.int 1])) _
      refine XS.istore XE.here hx rfl (hb hby at_141) rfl (l' := #[iv p1, iv p2, iv p3, iv p4, iv p5, iv p6, iv c0, iv c1, iv c2, iv c3, rv b143, rv b163, iv (Int32.ofNat f), iv (Int32.ofNat t), iv 1]) rfl ?_
      show Steps _ _ _ (TE.setTop (mkF m 143 _ [])) _
      refine XS.aload XE.here hx rfl (hb hby at_143) rfl rfl ?_
      show Steps _ _ _ (TE.setTop (mkF m 145 _ [.ref b163])) _
      refine XS.iload XE.here hx rfl (hb hby at_145) rfl ?_
      show Steps _ _ _ (TE.setTop (mkF m 147 _ [.int (Int32.ofNat f), .ref b163])) _
      refine XS.iload XE.here hx rfl (hb hby at_147) rfl ?_
      show Steps _ _ _ (TE.setTop (mkF m 149 _ [.int (Int32.ofNat t), .int (Int32.ofNat f), .ref b163])) _
      refine st188 _ ?_
      show Steps p.tables e below (T188.setTop (mkF m 152 #[iv p1, iv p2, iv p3, iv p4, iv p5, iv p6, iv c0, iv c1, iv c2, iv c3, rv b143, rv b163, iv (Int32.ofNat f), iv (Int32.ofNat t), iv 1] [.int 1])) _
      refine XS.iload X188.here hx rfl (hb hby at_152) rfl ?_
      show Steps _ _ _ (T188.setTop (mkF m 154 _ [.int 1, .int 1])) _
      refine XS.icmpNo X188.here hx rfl (hb hby at_154) rfl (teq (rfl : (1 : Int32) = (1 : Int32))).2 ?_
      show Steps _ _ _ (T188.setTop (mkF m 157 _ [])) _
      refine XS.iconst X188.here hx rfl (hb hby at_157) ?_
      show Steps _ _ _ (T188.setTop (mkF m 158 _ [.int 1])) _
      refine XS.goto X188.here hx rfl (pc0 := 158) (pc' := 162) rfl (hb hby at_158) (by decide) (by decide) ?_
      show Steps _ _ _ (T188.setTop (mkF m 162 _ [.int 1])) _
      exact retN X188 hx (t := .boolean) Bd.returns (by simp) (hb hby at_162) hr
    · show Q_law Z p1 p2 p3 p4 p5 p6 G1 G3 h0 n0 _ T188.heap _
      rw [e188]
      exact ⟨rfl, N188⟩
  · obtain rfl : ex = 0 := hex.elim (fun q => absurd (hall.mpr q.2) hr) (fun q => q.1)
    obtain ⟨fs, hr, hrun, hended, hW, hsame⟩ := X188.leave (v := some (.int (1 : Int32))) (fun h => by rw [Bd.returns] at h; cases h)
    refine ⟨_, _, pre0 _ (G169 _ (G175 _ (GE _ (?_)))), hrun, hended, _, _, rfl, ?_, ⟨_, rfl⟩, hW, hsame.mono (by decide) (by decide)⟩
    · show Steps p.tables e below (TE.setTop (mkF m 141 #[iv p1, iv p2, iv p3, iv p4, iv p5, iv p6, iv c0, iv c1, iv c2, iv c3, rv b143, rv b163, iv (Int32.ofNat f), iv (Int32.ofNat t), .unset] [.int 0])) _
      refine XS.istore XE.here hx rfl (hb hby at_141) rfl (l' := #[iv p1, iv p2, iv p3, iv p4, iv p5, iv p6, iv c0, iv c1, iv c2, iv c3, rv b143, rv b163, iv (Int32.ofNat f), iv (Int32.ofNat t), iv 0]) rfl ?_
      show Steps _ _ _ (TE.setTop (mkF m 143 _ [])) _
      refine XS.aload XE.here hx rfl (hb hby at_143) rfl rfl ?_
      show Steps _ _ _ (TE.setTop (mkF m 145 _ [.ref b163])) _
      refine XS.iload XE.here hx rfl (hb hby at_145) rfl ?_
      show Steps _ _ _ (TE.setTop (mkF m 147 _ [.int (Int32.ofNat f), .ref b163])) _
      refine XS.iload XE.here hx rfl (hb hby at_147) rfl ?_
      show Steps _ _ _ (TE.setTop (mkF m 149 _ [.int (Int32.ofNat t), .int (Int32.ofNat f), .ref b163])) _
      refine st188 _ ?_
      show Steps p.tables e below (T188.setTop (mkF m 152 #[iv p1, iv p2, iv p3, iv p4, iv p5, iv p6, iv c0, iv c1, iv c2, iv c3, rv b143, rv b163, iv (Int32.ofNat f), iv (Int32.ofNat t), iv 0] [.int 0])) _
      refine XS.iload X188.here hx rfl (hb hby at_152) rfl ?_
      show Steps _ _ _ (T188.setTop (mkF m 154 _ [.int 0, .int 0])) _
      refine XS.icmpNo X188.here hx rfl (hb hby at_154) rfl (teq (rfl : (0 : Int32) = (0 : Int32))).2 ?_
      show Steps _ _ _ (T188.setTop (mkF m 157 _ [])) _
      refine XS.iconst X188.here hx rfl (hb hby at_157) ?_
      show Steps _ _ _ (T188.setTop (mkF m 158 _ [.int 1])) _
      refine XS.goto X188.here hx rfl (pc0 := 158) (pc' := 162) rfl (hb hby at_158) (by decide) (by decide) ?_
      show Steps _ _ _ (T188.setTop (mkF m 162 _ [.int 1])) _
      exact retN X188 hx (t := .boolean) Bd.returns (by simp) (hb hby at_162) hr
    · show Q_law Z p1 p2 p3 p4 p5 p6 G1 G3 h0 n0 _ T188.heap _
      rw [e188]
      exact ⟨rfl, N188⟩
set_option maxRecDepth 65536 in
set_option maxHeartbeats 40000000 in
theorem comes_1 {Post : Tables → Env → Array Value → State → Outcome → State → Prop} (hpost : ∀ tb e args s v u, (limb_1_1.after args s (.returned v) u = true ∧ limb_1_2.after args s (.returned v) u = true ∧ True) → FrameEnd s (.returned v) u (Jvm.fieldLocs frame_1_writes args s ++ Jvm.arrayLocs frame_1_arrays args s ++ Jvm.staticLocs frame_1_statics s) 16 128 → Post tb e args s (.returned v) u) :
    ArmFor flags0 classFile x code maxLocals ret World_1 tables_1 room_1 Calls_1 rest_1 Pre_1 Post := by
  intro l hfl _ _ p e ha hc hk s m args below hf hA hF happ hP
  obtain ⟨hcalls, hrest, hpre⟩ := hP
  obtain ⟨-, -, -, hnamed, -, -, -, hat⟩ := (Spec.applies_iff hf).mp happ
  obtain ⟨hg, hn⟩ := and_e (Cond.before_iff.mp (show (Jvm.Cond.and given_1 narrow_1).before args s = true from hpre))
  obtain ⟨hcount, hg0⟩ := and_e hg
  obtain ⟨hi0, hg1⟩ := and_e hg0
  obtain ⟨hi1, hg2⟩ := and_e hg1
  obtain ⟨hi2, hg3⟩ := and_e hg2
  obtain ⟨hi3, hg4⟩ := and_e hg3
  obtain ⟨hi4, hg5⟩ := and_e hg4
  have hi5 := hg5
  obtain ⟨w0, w1, w2, w3, w4, w5, rfl⟩ : ∃ w0 w1 w2 w3 w4 w5 : Value, args = #[w0, w1, w2, w3, w4, w5] := by
    have hs : args.size = 6 := by simpa [Cond.value, given_1] using hcount
    obtain ⟨L⟩ := args
    match L, hs with
    | [w0, w1, w2, w3, w4, w5], _ => exact ⟨w0, w1, w2, w3, w4, w5, rfl⟩
  have hw := fun d (hd : d ∈ tables_1) => atoms_spec (ws := Jvm.Cond.code x code maxLocals ret :: tables_1) hat d (List.mem_cons_of_mem _ hd)
  obtain ⟨hsets, hown0⟩ := atoms_of _ (rest_1_c_eq ▸ (show rest_1_c.before _ s = true from hrest))
  obtain ⟨i0, ei0⟩ := is_v hi0
  obtain rfl : w0 = (.int i0) := Option.some.inj ei0
  obtain ⟨i1, ei1⟩ := is_v hi1
  obtain rfl : w1 = (.int i1) := Option.some.inj ei1
  obtain ⟨i2, ei2⟩ := is_v hi2
  obtain rfl : w2 = (.int i2) := Option.some.inj ei2
  obtain ⟨i3, ei3⟩ := is_v hi3
  obtain rfl : w3 = (.int i3) := Option.some.inj ei3
  obtain ⟨i4, ei4⟩ := is_v hi4
  obtain rfl : w4 = (.int i4) := Option.some.inj ei4
  obtain ⟨i5, ei5⟩ := is_v hi5
  obtain rfl : w5 = (.int i5) := Option.some.inj ei5
  have n3 := not_v (Cond.before_iff.mp (hsets _ (List.mem_of_getElem? (i := 2) rfl)))
  obtain ⟨iC, eC⟩ := is_v (Cond.before_iff.mp (hsets _ (List.mem_of_getElem? (i := 1) rfl)))
  have SC : Sta s s.heap "java/lang/String" "COMPACT_STRINGS" "Z" (.int iC) := Sta.start eC (Or.inl (hsets _ (List.mem_of_getElem? (i := 0) rfl)))
  have nC : ¬ (iC = (0 : Int32)) := gotF (Cond.eq_ints eC (Term.int_eval (0))) n3
  obtain ⟨vF, eF, rF⟩ := isR_v (Cond.before_iff.mp (hsets _ (List.mem_of_getElem? (i := 8) rfl)))
  have SF : Sta s s.heap "jdk/internal/util/Preconditions" "SIOOBE_FORMATTER" "Ljava/util/function/BiFunction;" vF := Sta.start eF (Or.inl (hsets _ (List.mem_of_getElem? (i := 7) rfl)))
  have OA : Sta s s.heap "java/lang/StringUTF16" "$assertionsDisabled" "Z" (.int (1 : Int32)) := own_staI (hsets _ (List.mem_of_getElem? (i := 12) rfl)) (hsets _ (List.mem_of_getElem? (i := 11) rfl))
  have OH : Sta s s.heap "java/lang/StringUTF16" "HI_BYTE_SHIFT" "I" (.int (0 : Int32)) := own_staI (hsets _ (List.mem_of_getElem? (i := 15) rfl)) (hsets _ (List.mem_of_getElem? (i := 14) rfl))
  have OL : Sta s s.heap "java/lang/StringUTF16" "LO_BYTE_SHIFT" "I" (.int (8 : Int32)) := own_staI (hsets _ (List.mem_of_getElem? (i := 18) rfl)) (hsets _ (List.mem_of_getElem? (i := 17) rfl))
  obtain ⟨n, o, h1, h2, h3, _, L, rfl, ⟨rfl, N⟩, hq⟩ := rm_law l s _ hw tables_1 i0 i1 i2 i3 i4 i5 iC vF s.heap s.heap.size (Nat.le_refl _) (Old.start s) SC nC SF rF OA OH OL p e ha hc hk s m _ below hf ((Spec.applies_iff_loose hf).mp happ).1 ⟨rfl, State.Warmed39.refl s, rfl⟩ trivial
  refine ⟨n, _, h1, h2, h3, hpost _ _ _ _ _ _ ⟨Cond.after_iff.mpr rfl, Cond.after_iff.mpr (eq_i res_at (Term.int_eval (1)) rfl), trivial⟩ ⟨hq.1, hq.2.1, (hq.2.2.sift fun y hy => Or.inr (N y hy)).mono (by decide) (by decide)⟩⟩
theorem main_1_1 : Claimed_1_1 := comes_1 fun _ _ _ _ _ _ h hF => ⟨h.1, hF⟩
theorem main_1_2 : Claimed_1_2 := comes_1 fun _ _ _ _ _ _ h hF => ⟨h.2.1, hF⟩
end Jvm.Pilot.@@N@@
namespace Jvm.Pilot.@@N@@
open Jvm Jvm.ClassFile Sem Op Lib Jvm.Free Jvm.Stand Jvm.Pilot.@@N@@.Jvm.D
/-! MADE BY PROGRAM (witnessworld.py) out of the Statement's table words and the real class files: 20 classes; the members and pool entries that the words name. The judged class is class 1, her method 1. -/
namespace start1
open Jvm.ClassFile
def u (s : String) : CpInfo := .utf8 (stringToUtf16 s)
/-- a pool by its gaps: so many unusable entries, then the entry; so many at the end -/
def gap : Nat → List CpInfo → List CpInfo
  | 0, r => r
  | n + 1, r => .unusable :: gap n r
def poolList (es : List (Nat × CpInfo)) (last : Nat) : List CpInfo := es.foldr (fun e r => gap e.1 (e.2 :: r)) (gap last [])
def pool (es : List (Nat × CpInfo)) (last : Nat) : Array CpInfo := ⟨poolList es last⟩
def fileOf (pool : Array CpInfo) (this : Nat) (attrs : Array Attribute := #[]) (ms : Array MethodInfo := #[]) (fl : Nat := 33) (sup : Nat := 0) (ifs : Array Nat := #[]) (fds : Array FieldInfo := #[]) : ClassFile where
  minorVersion := 0
  majorVersion := 65
  constantPool := pool
  accessFlags := fl
  thisClass := this
  superClass := sup
  interfaces := ifs
  fields := fds
  methods := ms
  attributes := attrs
def plain (name : String) (sup : Option ClassId) : Class where
  name := name
  kind := .ordinary
  loader := none
  accessFlags := 33
  super := sup
  interfaces := #[]
  cf := none
  fields := #[]
  methods := #[]
  instanceTypes := #[]
  staticTypes := #[]
  resolved := #[]
  callSites := []
  init := .initialized
  statics := none
  mirror := none

def pool0 : Array CpInfo := pool [(5, u "<init>"), (0, u "()V"), (1, .class_ 10), (1, u "java/lang/Object")] 113

def k0c0 : Code := { maxStack := 0, maxLocals := 1, code := object_method_1_code, exceptionTable := #[], attributes := #[] }
def k0m0 : Method := { name := "<init>", desc := "()V", sig := { parameters := [], returnType := none }, accessFlags := 1, code := some k0c0 }
/-- java/lang/Object -/
def k0 : Class := { plain "java/lang/Object" none with
  accessFlags := 33
  interfaces := #[]
  cf := some (fileOf pool0 8 #[] #[{ accessFlags := 1, nameIndex := 5, descriptorIndex := 6, attributes := #[] }] 33 0 #[] #[])
  fields := #[]
  methods := #[k0m0]
  instanceTypes := #[]
  staticTypes := #[]
  resolved := Array.replicate 124 none
  statics := none }

def pool1 : Array CpInfo := pool [(2, .class_ 4), (1, u "java/lang/Object"), (0, u "<init>"), (0, u "()V"), (0, .methodref 8 9), (0, .class_ 10), (0, .nameAndType 11 12), (0, u "com/example/pensionwright/pensionwright/input/DatesAllDigitsPinLaw"), (0, u "ch"), (0, u "(I)C"), (0, .class_ 14), (0, u "java/lang/String"), (0, .methodref 13 16), (0, .nameAndType 5 17), (0, u "([C)V"), (0, .integer 2147483647), (0, .methodref 8 20), (0, .nameAndType 21 22), (0, u "ok"), (0, u "(CIII)Z"), (0, .methodref 24 25), (0, .class_ 26), (0, .nameAndType 27 28), (0, u "com/example/pensionwright/pensionwright/input/Dates"), (0, u "allDigits"), (0, u "(Ljava/lang/String;II)Z"), (0, .integer 65535), (0, .integer 65536), (2, u "law"), (0, u "(IIIIII)Z")] 5

def k1m0 : Method := { name := "<init>", desc := "()V", sig := { parameters := [], returnType := none }, accessFlags := 2, code := none }
def k1c1 : Code := { maxStack := 4, maxLocals := 15, code := code, exceptionTable := #[], attributes := #[] }
def k1m1 : Method := { name := "law", desc := "(IIIIII)Z", sig := { parameters := [.int, .int, .int, .int, .int, .int], returnType := some .boolean }, accessFlags := 9, code := some k1c1 }
def k1c2 : Code := { maxStack := 3, maxLocals := 2, code := method_3_code, exceptionTable := #[], attributes := #[] }
def k1m2 : Method := { name := "ch", desc := "(I)C", sig := { parameters := [.int], returnType := some .char }, accessFlags := 10, code := some k1c2 }
def k1c3 : Code := { maxStack := 2, maxLocals := 4, code := method_4_code, exceptionTable := #[], attributes := #[] }
def k1m3 : Method := { name := "ok", desc := "(CIII)Z", sig := { parameters := [.char, .int, .int, .int], returnType := some .boolean }, accessFlags := 10, code := some k1c3 }
/-- com/example/pensionwright/pensionwright/input/DatesAllDigitsPinLaw -/
def k1 : Class := { plain "com/example/pensionwright/pensionwright/input/DatesAllDigitsPinLaw" (some 0) with
  accessFlags := 49
  interfaces := #[]
  cf := some (fileOf pool1 8 #[] #[{ accessFlags := 2, nameIndex := 5, descriptorIndex := 6, attributes := #[] }, { accessFlags := 9, nameIndex := 33, descriptorIndex := 34, attributes := #[] }, { accessFlags := 10, nameIndex := 11, descriptorIndex := 12, attributes := #[] }, { accessFlags := 10, nameIndex := 21, descriptorIndex := 22, attributes := #[] }] 49 2 #[] #[])
  fields := #[]
  methods := #[k1m0, k1m1, k1m2, k1m3]
  instanceTypes := #[]
  staticTypes := #[]
  resolved := Array.replicate 40 none
  statics := none }

def pool2 : Array CpInfo := pool [(1, .class_ 2), (0, u "java/io/Serializable"), (0, .class_ 4), (0, u "java/lang/Object")] 2

/-- java/io/Serializable -/
def k2 : Class := { plain "java/io/Serializable" (some 0) with
  accessFlags := 1537
  interfaces := #[]
  cf := some (fileOf pool2 1 #[] #[] 1537 3 #[] #[])
  fields := #[]
  methods := #[]
  instanceTypes := #[]
  staticTypes := #[]
  resolved := Array.replicate 7 none
  statics := none }

def pool3 : Array CpInfo := pool [(1, .class_ 2), (0, u "java/lang/Comparable"), (0, .class_ 4), (0, u "java/lang/Object")] 7

/-- java/lang/Comparable -/
def k3 : Class := { plain "java/lang/Comparable" (some 0) with
  accessFlags := 1537
  interfaces := #[]
  cf := some (fileOf pool3 1 #[] #[] 1537 3 #[] #[])
  fields := #[]
  methods := #[]
  instanceTypes := #[]
  staticTypes := #[]
  resolved := Array.replicate 12 none
  statics := none }

def pool4 : Array CpInfo := pool [(2, .class_ 4), (1, u "java/lang/CharSequence"), (42, .class_ 48), (0, u "java/lang/CharSequence$1CodePointIterator"), (10, .class_ 60), (0, u "java/lang/CharSequence$1CharIterator"), (5, .class_ 67), (0, u "java/lang/Object")] 63

/-- java/lang/CharSequence -/
def k4 : Class := { plain "java/lang/CharSequence" (some 0) with
  accessFlags := 1537
  interfaces := #[]
  cf := some (fileOf pool4 2 #[.nestMembers #[47, 59]] #[] 1537 66 #[] #[])
  fields := #[]
  methods := #[]
  instanceTypes := #[]
  staticTypes := #[]
  resolved := Array.replicate 131 none
  statics := none }

def pool5 : Array CpInfo := pool [(1, .class_ 2), (0, u "java/lang/constant/Constable"), (0, .class_ 4), (0, u "java/lang/Object")] 6

/-- java/lang/constant/Constable -/
def k5 : Class := { plain "java/lang/constant/Constable" (some 0) with
  accessFlags := 1537
  interfaces := #[]
  cf := some (fileOf pool5 1 #[] #[] 1537 3 #[] #[])
  fields := #[]
  methods := #[]
  instanceTypes := #[]
  staticTypes := #[]
  resolved := Array.replicate 11 none
  statics := none }

def pool6 : Array CpInfo := pool [(1, .class_ 2), (0, u "java/lang/constant/ConstantDesc"), (0, .class_ 4), (0, u "java/lang/Object")] 32

/-- java/lang/constant/ConstantDesc -/
def k6 : Class := { plain "java/lang/constant/ConstantDesc" (some 0) with
  accessFlags := 1537
  interfaces := #[]
  cf := some (fileOf pool6 1 #[] #[] 1537 3 #[] #[])
  fields := #[]
  methods := #[]
  instanceTypes := #[]
  staticTypes := #[]
  resolved := Array.replicate 37 none
  statics := none }

def pool7 : Array CpInfo := pool [(1, .methodref 2 3), (0, .class_ 4), (0, .nameAndType 5 6), (0, u "java/lang/Object"), (0, u "<init>"), (0, u "()V"), (2, .fieldref 10 11), (0, .class_ 12), (0, .nameAndType 13 14), (0, u "java/lang/String"), (0, u "value"), (0, u "[B"), (0, .fieldref 10 16), (0, .nameAndType 17 18), (0, u "coder"), (0, u "B"), (2, u "hash"), (0, u "I"), (2, u "hashIsZero"), (0, u "Z"), (0, .methodref 10 28), (0, .nameAndType 5 29), (0, u "([CIILjava/lang/Void;)V"), (8, .fieldref 10 39), (0, .nameAndType 40 26), (0, u "COMPACT_STRINGS"), (1, .class_ 44), (1, u "java/lang/StringUTF16"), (0, u "compress"), (1, .methodref 42 48), (0, .nameAndType 49 50), (0, u "coderFromArrayLen"), (0, u "([BI)B"), (56, .class_ 109), (1, u "java/lang/StringLatin1"), (32, u "()Z"), (34, .methodref 42 178), (0, .nameAndType 45 179), (0, u "([CII)[B"), (183, u "([BI)C"), (27, u "(II)V"), (35, u "(I)C"), (64, .methodref 10 493), (0, .nameAndType 494 142), (0, u "isLatin1"), (0, .methodref 107 496), (0, .nameAndType 497 363), (0, u "charAt"), (0, .methodref 42 496), (2, u "checkIndex"), (73, .class_ 576), (0, u "java/lang/CharSequence"), (22, u "CASE_INSENSITIVE_ORDER"), (0, u "Ljava/util/Comparator;"), (409, u "([C)V"), (42, .fieldref 1054 1055), (0, .class_ 1056), (0, .nameAndType 1057 1058), (0, u "jdk/internal/util/Preconditions"), (0, u "SIOOBE_FORMATTER"), (0, u "Ljava/util/function/BiFunction;"), (0, .methodref 1054 1060), (0, .nameAndType 501 1061), (0, u "(IILjava/util/function/BiFunction;)I"), (39, u "serialPersistentFields"), (0, u "[Ljava/io/ObjectStreamField;"), (0, .class_ 1104), (0, u "java/lang/String$CaseInsensitiveComparator"), (1, .class_ 1107), (0, u "java/io/Serializable"), (0, .class_ 1109), (0, u "java/lang/Comparable"), (0, .class_ 1111), (0, u "java/lang/constant/Constable"), (0, .class_ 1113), (0, u "java/lang/constant/ConstantDesc"), (2, u "serialVersionUID"), (0, u "J"), (3, u "REPL"), (0, u "C"), (2, u "LATIN1"), (1, u "UTF16")] 323

def k7m0 : Method := { name := "<init>", desc := "()V", sig := { parameters := [], returnType := none }, accessFlags := 1, code := none }
def k7c1 : Code := { maxStack := 5, maxLocals := 2, code := jdk_42_method_3_code, exceptionTable := #[], attributes := #[] }
def k7m1 : Method := { name := "<init>", desc := "([C)V", sig := { parameters := [(.array .char)], returnType := none }, accessFlags := 1, code := some k7c1 }
def k7c2 : Code := { maxStack := 2, maxLocals := 2, code := jdk_42_method_56_code, exceptionTable := #[], attributes := #[] }
def k7m2 : Method := { name := "charAt", desc := "(I)C", sig := { parameters := [.int], returnType := some .char }, accessFlags := 1, code := some k7c2 }
def k7c3 : Code := { maxStack := 4, maxLocals := 6, code := jdk_42_method_149_code, exceptionTable := #[], attributes := #[] }
def k7m3 : Method := { name := "<init>", desc := "([CIILjava/lang/Void;)V", sig := { parameters := [(.array .char), .int, .int, (.object "java/lang/Void")], returnType := none }, accessFlags := 2, code := some k7c3 }
def k7c4 : Code := { maxStack := 1, maxLocals := 1, code := jdk_42_method_154_code, exceptionTable := #[], attributes := #[] }
def k7m4 : Method := { name := "isLatin1", desc := "()Z", sig := { parameters := [], returnType := some .boolean }, accessFlags := 0, code := some k7c4 }
def k7c5 : Code := { maxStack := 3, maxLocals := 2, code := jdk_42_method_155_code, exceptionTable := #[], attributes := #[] }
def k7m5 : Method := { name := "checkIndex", desc := "(II)V", sig := { parameters := [.int, .int], returnType := none }, accessFlags := 8, code := some k7c5 }
/-- java/lang/String -/
def k7 : Class := { plain "java/lang/String" (some 0) with
  accessFlags := 49
  interfaces := #[2, 3, 4, 5, 6]
  cf := some (fileOf pool7 10 #[.nestMembers #[1103]] #[{ accessFlags := 1, nameIndex := 5, descriptorIndex := 6, attributes := #[] }, { accessFlags := 1, nameIndex := 5, descriptorIndex := 1010, attributes := #[] }, { accessFlags := 1, nameIndex := 497, descriptorIndex := 427, attributes := #[] }, { accessFlags := 2, nameIndex := 5, descriptorIndex := 29, attributes := #[] }, { accessFlags := 0, nameIndex := 494, descriptorIndex := 142, attributes := #[] }, { accessFlags := 8, nameIndex := 501, descriptorIndex := 391, attributes := #[] }] 49 2 #[1106, 1108, 575, 1110, 1112] #[{ accessFlags := 18, nameIndex := 13, descriptorIndex := 14, attributes := #[] }, { accessFlags := 18, nameIndex := 17, descriptorIndex := 18, attributes := #[] }, { accessFlags := 2, nameIndex := 21, descriptorIndex := 22, attributes := #[] }, { accessFlags := 2, nameIndex := 25, descriptorIndex := 26, attributes := #[] }, { accessFlags := 26, nameIndex := 1116, descriptorIndex := 1117, attributes := #[] }, { accessFlags := 24, nameIndex := 40, descriptorIndex := 26, attributes := #[] }, { accessFlags := 26, nameIndex := 1101, descriptorIndex := 1102, attributes := #[] }, { accessFlags := 26, nameIndex := 1121, descriptorIndex := 1122, attributes := #[] }, { accessFlags := 25, nameIndex := 599, descriptorIndex := 600, attributes := #[] }, { accessFlags := 24, nameIndex := 1125, descriptorIndex := 18, attributes := #[] }, { accessFlags := 24, nameIndex := 1127, descriptorIndex := 18, attributes := #[] }])
  fields := #[{ name := "value", type := (.array .byte), accessFlags := 18, slot := 0, constantValue := 0 }, { name := "coder", type := .byte, accessFlags := 18, slot := 1, constantValue := 0 }, { name := "hash", type := .int, accessFlags := 2, slot := 2, constantValue := 0 }, { name := "hashIsZero", type := .boolean, accessFlags := 2, slot := 3, constantValue := 0 }, { name := "serialVersionUID", type := .long, accessFlags := 26, slot := 0, constantValue := 0 }, { name := "COMPACT_STRINGS", type := .boolean, accessFlags := 24, slot := 1, constantValue := 0 }, { name := "serialPersistentFields", type := (.array (.object "java/io/ObjectStreamField")), accessFlags := 26, slot := 2, constantValue := 0 }, { name := "REPL", type := .char, accessFlags := 26, slot := 3, constantValue := 0 }, { name := "CASE_INSENSITIVE_ORDER", type := (.object "java/util/Comparator"), accessFlags := 25, slot := 4, constantValue := 0 }, { name := "LATIN1", type := .byte, accessFlags := 24, slot := 5, constantValue := 0 }, { name := "UTF16", type := .byte, accessFlags := 24, slot := 6, constantValue := 0 }]
  methods := #[k7m0, k7m1, k7m2, k7m3, k7m4, k7m5]
  instanceTypes := #[(.array .byte), .byte, .int, .boolean]
  staticTypes := #[.long, .boolean, (.array (.object "java/io/ObjectStreamField")), .char, (.object "java/util/Comparator"), .byte, .byte]
  resolved := Array.replicate 1451 none
  statics := some 0 }

def pool8 : Array CpInfo := pool [(3, .class_ 4), (0, u "java/lang/String"), (1, .class_ 8), (1, u "java/lang/Object"), (0, u "<init>"), (0, u "()V"), (0, .methodref 12 13), (0, .class_ 14), (0, .nameAndType 15 16), (0, u "java/lang/StringUTF16"), (0, u "newBytesLength"), (0, u "(I)I"), (3, .integer 1073741823), (23, .fieldref 12 45), (0, .nameAndType 46 47), (0, u "$assertionsDisabled"), (0, u "Z"), (0, .methodref 12 49), (0, .nameAndType 50 51), (0, u "length"), (0, u "([B)I"), (7, .fieldref 12 60), (0, .nameAndType 61 62), (0, u "HI_BYTE_SHIFT"), (0, u "I"), (0, .fieldref 12 64), (0, .nameAndType 65 62), (0, u "LO_BYTE_SHIFT"), (1, .methodref 12 68), (0, .nameAndType 69 70), (0, u "checkIndex"), (0, u "(I[B)V"), (0, .methodref 12 72), (0, .nameAndType 73 74), (0, u "getChar"), (0, u "([BI)C"), (32, .methodref 12 108), (0, .nameAndType 109 110), (0, u "newBytesFor"), (0, u "(I)[B"), (0, .methodref 12 112), (0, .nameAndType 113 114), (0, u "putChar"), (0, u "([BII)V"), (0, .methodref 12 116), (0, .nameAndType 117 118), (0, u "compress"), (0, u "([CI[BII)I"), (0, .methodref 12 120), (0, .nameAndType 121 122), (0, u "toBytes"), (0, u "([CII)[B"), (138, u "coderFromArrayLen"), (0, u "([BI)B"), (106, .class_ 371), (1, u "java/lang/StringUTF16$LinesSpliterator"), (20, u "charAt"), (21, .methodref 3 415), (0, .nameAndType 69 416), (0, u "(II)V"), (13, u "MAX_LENGTH"), (196, .class_ 628), (0, u "java/lang/StringUTF16$CodePointsSpliterator"), (0, .class_ 630), (0, u "java/lang/StringUTF16$CharsSpliterator")] 4

def k8m0 : Method := { name := "<init>", desc := "()V", sig := { parameters := [], returnType := none }, accessFlags := 0, code := none }
def k8c1 : Code := { maxStack := 1, maxLocals := 1, code := jdk_52_method_2_code, exceptionTable := #[], attributes := #[] }
def k8m1 : Method := { name := "newBytesFor", desc := "(I)[B", sig := { parameters := [.int], returnType := some (.array .byte) }, accessFlags := 9, code := some k8c1 }
def k8c2 : Code := { maxStack := 4, maxLocals := 1, code := jdk_52_method_3_code, exceptionTable := #[], attributes := #[] }
def k8m2 : Method := { name := "newBytesLength", desc := "(I)I", sig := { parameters := [.int], returnType := some .int }, accessFlags := 9, code := some k8c2 }
def k8c3 : Code := { maxStack := 4, maxLocals := 3, code := jdk_52_method_4_code, exceptionTable := #[], attributes := #[] }
def k8m3 : Method := { name := "putChar", desc := "([BII)V", sig := { parameters := [(.array .byte), .int, .int], returnType := none }, accessFlags := 8, code := some k8c3 }
def k8c4 : Code := { maxStack := 3, maxLocals := 2, code := jdk_52_method_5_code, exceptionTable := #[], attributes := #[] }
def k8m4 : Method := { name := "getChar", desc := "([BI)C", sig := { parameters := [(.array .byte), .int], returnType := some .char }, accessFlags := 8, code := some k8c4 }
def k8c5 : Code := { maxStack := 2, maxLocals := 1, code := jdk_52_method_6_code, exceptionTable := #[], attributes := #[] }
def k8m5 : Method := { name := "length", desc := "([B)I", sig := { parameters := [(.array .byte)], returnType := some .int }, accessFlags := 9, code := some k8c5 }
def k8c6 : Code := { maxStack := 4, maxLocals := 5, code := jdk_52_method_14_code, exceptionTable := #[], attributes := #[] }
def k8m6 : Method := { name := "toBytes", desc := "([CII)[B", sig := { parameters := [(.array .char), .int, .int], returnType := some (.array .byte) }, accessFlags := 9, code := some k8c6 }
def k8c7 : Code := { maxStack := 2, maxLocals := 2, code := jdk_52_method_15_code, exceptionTable := #[], attributes := #[] }
def k8m7 : Method := { name := "coderFromArrayLen", desc := "([BI)B", sig := { parameters := [(.array .byte), .int], returnType := some .byte }, accessFlags := 8, code := some k8c7 }
def k8c8 : Code := { maxStack := 5, maxLocals := 6, code := jdk_52_method_16_code, exceptionTable := #[], attributes := #[] }
def k8m8 : Method := { name := "compress", desc := "([CII)[B", sig := { parameters := [(.array .char), .int, .int], returnType := some (.array .byte) }, accessFlags := 9, code := some k8c8 }
def k8c9 : Code := { maxStack := 3, maxLocals := 7, code := jdk_52_method_21_code, exceptionTable := #[], attributes := #[] }
def k8m9 : Method := { name := "compress", desc := "([CI[BII)I", sig := { parameters := [(.array .char), .int, (.array .byte), .int, .int], returnType := some .int }, accessFlags := 9, code := some k8c9 }
def k8c10 : Code := { maxStack := 2, maxLocals := 2, code := jdk_52_method_83_code, exceptionTable := #[], attributes := #[] }
def k8m10 : Method := { name := "charAt", desc := "([BI)C", sig := { parameters := [(.array .byte), .int], returnType := some .char }, accessFlags := 9, code := some k8c10 }
def k8c11 : Code := { maxStack := 2, maxLocals := 2, code := jdk_52_method_91_code, exceptionTable := #[], attributes := #[] }
def k8m11 : Method := { name := "checkIndex", desc := "(I[B)V", sig := { parameters := [.int, (.array .byte)], returnType := none }, accessFlags := 9, code := some k8c11 }
/-- java/lang/StringUTF16 -/
def k8 : Class := { plain "java/lang/StringUTF16" (some 0) with
  accessFlags := 48
  interfaces := #[]
  cf := some (fileOf pool8 12 #[.nestMembers #[627, 629, 369]] #[{ accessFlags := 0, nameIndex := 9, descriptorIndex := 10, attributes := #[] }, { accessFlags := 9, nameIndex := 109, descriptorIndex := 110, attributes := #[] }, { accessFlags := 9, nameIndex := 15, descriptorIndex := 16, attributes := #[] }, { accessFlags := 8, nameIndex := 113, descriptorIndex := 114, attributes := #[] }, { accessFlags := 8, nameIndex := 73, descriptorIndex := 74, attributes := #[] }, { accessFlags := 9, nameIndex := 50, descriptorIndex := 51, attributes := #[] }, { accessFlags := 9, nameIndex := 121, descriptorIndex := 122, attributes := #[] }, { accessFlags := 8, nameIndex := 261, descriptorIndex := 262, attributes := #[] }, { accessFlags := 9, nameIndex := 117, descriptorIndex := 122, attributes := #[] }, { accessFlags := 9, nameIndex := 117, descriptorIndex := 118, attributes := #[] }, { accessFlags := 9, nameIndex := 392, descriptorIndex := 74, attributes := #[] }, { accessFlags := 9, nameIndex := 69, descriptorIndex := 70, attributes := #[] }] 48 6 #[] #[{ accessFlags := 26, nameIndex := 61, descriptorIndex := 62, attributes := #[] }, { accessFlags := 26, nameIndex := 65, descriptorIndex := 62, attributes := #[] }, { accessFlags := 24, nameIndex := 430, descriptorIndex := 62, attributes := #[] }, { accessFlags := 4120, nameIndex := 46, descriptorIndex := 47, attributes := #[] }])
  fields := #[{ name := "HI_BYTE_SHIFT", type := .int, accessFlags := 26, slot := 0, constantValue := 0 }, { name := "LO_BYTE_SHIFT", type := .int, accessFlags := 26, slot := 1, constantValue := 0 }, { name := "MAX_LENGTH", type := .int, accessFlags := 24, slot := 2, constantValue := 0 }, { name := "$assertionsDisabled", type := .boolean, accessFlags := 4120, slot := 3, constantValue := 0 }]
  methods := #[k8m0, k8m1, k8m2, k8m3, k8m4, k8m5, k8m6, k8m7, k8m8, k8m9, k8m10, k8m11]
  instanceTypes := #[]
  staticTypes := #[.int, .int, .int, .boolean]
  resolved := Array.replicate 635 none
  statics := some 1 }

def pool9 : Array CpInfo := pool [(2, .class_ 4), (1, u "java/lang/Object"), (0, u "<init>"), (0, u "()V"), (1, .class_ 10), (1, u "java/lang/String"), (3, .class_ 16), (1, u "com/example/pensionwright/pensionwright/input/Dates"), (2, .methodref 8 20), (0, .nameAndType 21 22), (0, u "charAt"), (0, u "(I)C"), (2, u "allDigits"), (0, u "(Ljava/lang/String;II)Z"), (40, u "DATE"), (0, u "Ljava/lang/String;"), (1, u "MONTH"), (0, u "YEAR")] 26

def k9m0 : Method := { name := "<init>", desc := "()V", sig := { parameters := [], returnType := none }, accessFlags := 2, code := none }
def k9c1 : Code := { maxStack := 2, maxLocals := 5, code := prog_16_method_5_code, exceptionTable := #[], attributes := #[] }
def k9m1 : Method := { name := "allDigits", desc := "(Ljava/lang/String;II)Z", sig := { parameters := [(.object "java/lang/String"), .int, .int], returnType := some .boolean }, accessFlags := 8, code := some k9c1 }
/-- com/example/pensionwright/pensionwright/input/Dates -/
def k9 : Class := { plain "com/example/pensionwright/pensionwright/input/Dates" (some 0) with
  accessFlags := 49
  interfaces := #[]
  cf := some (fileOf pool9 14 #[] #[{ accessFlags := 2, nameIndex := 5, descriptorIndex := 6, attributes := #[] }, { accessFlags := 8, nameIndex := 25, descriptorIndex := 26, attributes := #[] }] 49 2 #[] #[{ accessFlags := 26, nameIndex := 67, descriptorIndex := 68, attributes := #[] }, { accessFlags := 26, nameIndex := 70, descriptorIndex := 68, attributes := #[] }, { accessFlags := 26, nameIndex := 71, descriptorIndex := 68, attributes := #[] }])
  fields := #[{ name := "DATE", type := (.object "java/lang/String"), accessFlags := 26, slot := 0, constantValue := 0 }, { name := "MONTH", type := (.object "java/lang/String"), accessFlags := 26, slot := 1, constantValue := 0 }, { name := "YEAR", type := (.object "java/lang/String"), accessFlags := 26, slot := 2, constantValue := 0 }]
  methods := #[k9m0, k9m1]
  instanceTypes := #[]
  staticTypes := #[(.object "java/lang/String"), (.object "java/lang/String"), (.object "java/lang/String")]
  resolved := Array.replicate 98 none
  statics := none }

def pool10 : Array CpInfo := pool [(1, .class_ 2), (0, u "java/lang/String"), (1, .class_ 6), (1, u "java/lang/Object"), (0, u "<init>"), (0, u "()V"), (0, .methodref 1 10), (0, .nameAndType 11 12), (0, u "checkIndex"), (0, u "(II)V"), (1, .class_ 16), (1, u "java/lang/StringLatin1"), (36, u "([BI)C"), (67, u "$assertionsDisabled"), (0, u "Z"), (98, .class_ 223), (1, u "java/lang/StringLatin1$LinesSpliterator"), (28, u "charAt"), (137, .class_ 391), (0, u "java/lang/StringLatin1$CharsSpliterator")] 3

def k10m0 : Method := { name := "<init>", desc := "()V", sig := { parameters := [], returnType := none }, accessFlags := 0, code := none }
def k10c1 : Code := { maxStack := 2, maxLocals := 2, code := jdk_43_method_2_code, exceptionTable := #[], attributes := #[] }
def k10m1 : Method := { name := "charAt", desc := "([BI)C", sig := { parameters := [(.array .byte), .int], returnType := some .char }, accessFlags := 9, code := some k10c1 }
/-- java/lang/StringLatin1 -/
def k10 : Class := { plain "java/lang/StringLatin1" (some 0) with
  accessFlags := 48
  interfaces := #[]
  cf := some (fileOf pool10 14 #[.nestMembers #[390, 221]] #[{ accessFlags := 0, nameIndex := 7, descriptorIndex := 8, attributes := #[] }, { accessFlags := 9, nameIndex := 252, descriptorIndex := 53, attributes := #[] }] 48 4 #[] #[{ accessFlags := 4120, nameIndex := 121, descriptorIndex := 122, attributes := #[] }])
  fields := #[{ name := "$assertionsDisabled", type := .boolean, accessFlags := 4120, slot := 0, constantValue := 0 }]
  methods := #[k10m0, k10m1]
  instanceTypes := #[]
  staticTypes := #[.boolean]
  resolved := Array.replicate 395 none
  statics := none }

def pool11 : Array CpInfo := pool [(2, .class_ 4), (1, u "java/lang/Object"), (0, u "<init>"), (0, u "()V"), (17, .class_ 26), (1, u "jdk/internal/util/Preconditions"), (6, u "checkIndex"), (21, .class_ 56), (0, u "jdk/internal/util/Preconditions$4"), (57, .class_ 115), (0, u "jdk/internal/util/Preconditions$1"), (7, u "SIOOBE_FORMATTER"), (0, u "Ljava/util/function/BiFunction;"), (0, .class_ 126), (0, u "jdk/internal/util/Preconditions$2"), (3, u "AIOOBE_FORMATTER"), (0, .class_ 132), (0, u "jdk/internal/util/Preconditions$3"), (3, u "IOOBE_FORMATTER"), (41, u "(IILjava/util/function/BiFunction;)I")] 15

def k11m0 : Method := { name := "<init>", desc := "()V", sig := { parameters := [], returnType := none }, accessFlags := 1, code := none }
def k11c1 : Code := { maxStack := 3, maxLocals := 3, code := jdk_41_method_11_code, exceptionTable := #[], attributes := #[] }
def k11m1 : Method := { name := "checkIndex", desc := "(IILjava/util/function/BiFunction;)I", sig := { parameters := [.int, .int, (.object "java/util/function/BiFunction")], returnType := some .int }, accessFlags := 9, code := some k11c1 }
/-- jdk/internal/util/Preconditions -/
def k11 : Class := { plain "jdk/internal/util/Preconditions" (some 0) with
  accessFlags := 33
  interfaces := #[]
  cf := some (fileOf pool11 24 #[.nestMembers #[55, 131, 125, 114]] #[{ accessFlags := 1, nameIndex := 5, descriptorIndex := 6, attributes := #[] }, { accessFlags := 9, nameIndex := 33, descriptorIndex := 178, attributes := #[] }] 33 2 #[] #[{ accessFlags := 25, nameIndex := 123, descriptorIndex := 124, attributes := #[] }, { accessFlags := 25, nameIndex := 130, descriptorIndex := 124, attributes := #[] }, { accessFlags := 25, nameIndex := 136, descriptorIndex := 124, attributes := #[] }])
  fields := #[{ name := "SIOOBE_FORMATTER", type := (.object "java/util/function/BiFunction"), accessFlags := 25, slot := 0, constantValue := 0 }, { name := "AIOOBE_FORMATTER", type := (.object "java/util/function/BiFunction"), accessFlags := 25, slot := 1, constantValue := 0 }, { name := "IOOBE_FORMATTER", type := (.object "java/util/function/BiFunction"), accessFlags := 25, slot := 2, constantValue := 0 }]
  methods := #[k11m0, k11m1]
  instanceTypes := #[]
  staticTypes := #[(.object "java/util/function/BiFunction"), (.object "java/util/function/BiFunction"), (.object "java/util/function/BiFunction")]
  resolved := Array.replicate 194 none
  statics := some 2 }

def pool12 : Array CpInfo := pool [(9, u "<init>"), (6, .class_ 18), (1, u "java/lang/Object"), (0, u "()V"), (1, .class_ 23), (1, u "jdk/internal/util/ArraysSupport"), (0, u "LOG2_ARRAY_LONG_INDEX_SCALE"), (0, u "I"), (2, u "U"), (0, u "Ljdk/internal/misc/Unsafe;"), (8, u "BIG_ENDIAN"), (0, u "Z"), (8, u "LOG2_BYTE_BIT_SIZE"), (4, u "LOG2_ARRAY_INT_INDEX_SCALE"), (54, u "JLA"), (0, u "Ljdk/internal/access/JavaLangAccess;"), (11, u "LOG2_ARRAY_BOOLEAN_INDEX_SCALE"), (9, u "LOG2_ARRAY_BYTE_INDEX_SCALE"), (5, u "LOG2_ARRAY_CHAR_INDEX_SCALE"), (5, u "LOG2_ARRAY_SHORT_INDEX_SCALE"), (18, u "LOG2_ARRAY_FLOAT_INDEX_SCALE"), (24, u "LOG2_ARRAY_DOUBLE_INDEX_SCALE"), (89, u "T_BOOLEAN"), (2, u "T_CHAR"), (1, u "T_FLOAT"), (1, u "T_DOUBLE"), (1, u "T_BYTE"), (1, u "T_SHORT"), (1, u "T_INT"), (1, u "T_LONG"), (1, u "SOFT_MAX_ARRAY_LENGTH")] 83

def k12m0 : Method := { name := "<init>", desc := "()V", sig := { parameters := [], returnType := none }, accessFlags := 2, code := none }
/-- jdk/internal/util/ArraysSupport -/
def k12 : Class := { plain "jdk/internal/util/ArraysSupport" (some 0) with
  accessFlags := 33
  interfaces := #[]
  cf := some (fileOf pool12 21 #[] #[{ accessFlags := 2, nameIndex := 9, descriptorIndex := 19, attributes := #[] }] 33 16 #[] #[{ accessFlags := 24, nameIndex := 28, descriptorIndex := 29, attributes := #[] }, { accessFlags := 26, nameIndex := 38, descriptorIndex := 39, attributes := #[] }, { accessFlags := 25, nameIndex := 121, descriptorIndex := 25, attributes := #[] }, { accessFlags := 25, nameIndex := 131, descriptorIndex := 25, attributes := #[] }, { accessFlags := 25, nameIndex := 137, descriptorIndex := 25, attributes := #[] }, { accessFlags := 25, nameIndex := 143, descriptorIndex := 25, attributes := #[] }, { accessFlags := 25, nameIndex := 53, descriptorIndex := 25, attributes := #[] }, { accessFlags := 25, nameIndex := 24, descriptorIndex := 25, attributes := #[] }, { accessFlags := 25, nameIndex := 162, descriptorIndex := 25, attributes := #[] }, { accessFlags := 25, nameIndex := 187, descriptorIndex := 25, attributes := #[] }, { accessFlags := 26, nameIndex := 48, descriptorIndex := 25, attributes := #[] }, { accessFlags := 25, nameIndex := 277, descriptorIndex := 25, attributes := #[] }, { accessFlags := 25, nameIndex := 280, descriptorIndex := 25, attributes := #[] }, { accessFlags := 25, nameIndex := 282, descriptorIndex := 25, attributes := #[] }, { accessFlags := 25, nameIndex := 284, descriptorIndex := 25, attributes := #[] }, { accessFlags := 25, nameIndex := 286, descriptorIndex := 25, attributes := #[] }, { accessFlags := 25, nameIndex := 288, descriptorIndex := 25, attributes := #[] }, { accessFlags := 25, nameIndex := 290, descriptorIndex := 25, attributes := #[] }, { accessFlags := 25, nameIndex := 292, descriptorIndex := 25, attributes := #[] }, { accessFlags := 26, nameIndex := 108, descriptorIndex := 109, attributes := #[] }, { accessFlags := 25, nameIndex := 294, descriptorIndex := 25, attributes := #[] }])
  fields := #[{ name := "U", type := (.object "jdk/internal/misc/Unsafe"), accessFlags := 24, slot := 0, constantValue := 0 }, { name := "BIG_ENDIAN", type := .boolean, accessFlags := 26, slot := 1, constantValue := 0 }, { name := "LOG2_ARRAY_BOOLEAN_INDEX_SCALE", type := .int, accessFlags := 25, slot := 2, constantValue := 0 }, { name := "LOG2_ARRAY_BYTE_INDEX_SCALE", type := .int, accessFlags := 25, slot := 3, constantValue := 0 }, { name := "LOG2_ARRAY_CHAR_INDEX_SCALE", type := .int, accessFlags := 25, slot := 4, constantValue := 0 }, { name := "LOG2_ARRAY_SHORT_INDEX_SCALE", type := .int, accessFlags := 25, slot := 5, constantValue := 0 }, { name := "LOG2_ARRAY_INT_INDEX_SCALE", type := .int, accessFlags := 25, slot := 6, constantValue := 0 }, { name := "LOG2_ARRAY_LONG_INDEX_SCALE", type := .int, accessFlags := 25, slot := 7, constantValue := 0 }, { name := "LOG2_ARRAY_FLOAT_INDEX_SCALE", type := .int, accessFlags := 25, slot := 8, constantValue := 0 }, { name := "LOG2_ARRAY_DOUBLE_INDEX_SCALE", type := .int, accessFlags := 25, slot := 9, constantValue := 0 }, { name := "LOG2_BYTE_BIT_SIZE", type := .int, accessFlags := 26, slot := 10, constantValue := 0 }, { name := "T_BOOLEAN", type := .int, accessFlags := 25, slot := 11, constantValue := 0 }, { name := "T_CHAR", type := .int, accessFlags := 25, slot := 12, constantValue := 0 }, { name := "T_FLOAT", type := .int, accessFlags := 25, slot := 13, constantValue := 0 }, { name := "T_DOUBLE", type := .int, accessFlags := 25, slot := 14, constantValue := 0 }, { name := "T_BYTE", type := .int, accessFlags := 25, slot := 15, constantValue := 0 }, { name := "T_SHORT", type := .int, accessFlags := 25, slot := 16, constantValue := 0 }, { name := "T_INT", type := .int, accessFlags := 25, slot := 17, constantValue := 0 }, { name := "T_LONG", type := .int, accessFlags := 25, slot := 18, constantValue := 0 }, { name := "JLA", type := (.object "jdk/internal/access/JavaLangAccess"), accessFlags := 26, slot := 19, constantValue := 0 }, { name := "SOFT_MAX_ARRAY_LENGTH", type := .int, accessFlags := 25, slot := 20, constantValue := 0 }]
  methods := #[k12m0]
  instanceTypes := #[]
  staticTypes := #[(.object "jdk/internal/misc/Unsafe"), .boolean, .int, .int, .int, .int, .int, .int, .int, .int, .int, .int, .int, .int, .int, .int, .int, .int, .int, (.object "jdk/internal/access/JavaLangAccess"), .int]
  resolved := Array.replicate 378 none
  statics := none }

def pool13 : Array CpInfo := pool [(1, u "java/lang/Cloneable"), (0, .class_ 1), (0, u "java/lang/Object"), (0, .class_ 3)] 3

/-- java/lang/Cloneable -/
def k13 : Class := { plain "java/lang/Cloneable" (some 0) with
  accessFlags := 1537
  interfaces := #[]
  cf := some (fileOf pool13 2 #[] #[] 1537 4 #[] #[])
  fields := #[]
  methods := #[]
  instanceTypes := #[]
  staticTypes := #[]
  resolved := Array.replicate 8 none
  statics := none }

/-- the primitive byte -/
def k14 : Class := { plain "byte" none with kind := .primitive 'B', accessFlags := 0x411 }
/-- [B -/
def k15 : Class := { plain "[B" (some 0) with kind := .array 14 .byte, interfaces := #[13, 2], accessFlags := 1041 }

/-- the primitive char -/
def k16 : Class := { plain "char" none with kind := .primitive 'C', accessFlags := 0x411 }
/-- [C -/
def k17 : Class := { plain "[C" (some 0) with kind := .array 16 .char, interfaces := #[13, 2], accessFlags := 1041 }

/-- the primitive int -/
def k18 : Class := { plain "int" none with kind := .primitive 'I', accessFlags := 0x411 }
/-- [I -/
def k19 : Class := { plain "[I" (some 0) with kind := .array 18 .int, interfaces := #[13, 2], accessFlags := 1041 }

def heap : Heap := #[{ cls := 7, slots := #[.long 0, .int 1, .null, .int 0, .null, .int 0, .int 0], vm := .statics 7 },
  { cls := 8, slots := #[.int 0, .int 8, .int 0, .int 1], vm := .statics 8 },
  { cls := 11, slots := #[.null, .null, .null], vm := .statics 11 }]
def classes : Array Class := #[k0, k1, k2, k3, k4, k5, k6, k7, k8, k9, k10, k11, k12, k13, k14, k15, k16, k17, k18, k19]
def interned : List (Array UInt16 × Addr) := []
def slotsUsed : Nat := 14
def theMethod : MethodId := ⟨1, 1⟩
def args0 : Array Value := #[.int 5, .int 7, .int 1, .int 9, .int 2, .int 3]
def aboutOver (below : List Frame) : State where
  vm := { classes := classes, interned := interned.toArray }
  heap := heap
  slotsUsed := slotsUsed
  threads := #[{ frames := .invoking theMethod args0 :: below }]
def below0 : List Frame := [.native { method := ⟨0, 0⟩, args := #[] }]
def about1 : State := aboutOver below0
def p0 : Program := .bare "" "" ""
def e0 : Env := launch0.env 0 0 0
theorem w_frames : about1.frames = Frame.invoking theMethod args0 :: below0 := rfl
set_option maxRecDepth 65536 in
theorem w_args : argsFit about1.vm theMethod args0 = true := by decide +kernel
set_option maxRecDepth 65536 in
theorem w_heap : heapFits about1 = true := by decide +kernel
set_option maxRecDepth 65536 in
theorem w_runnable : about1.curStatus? = some .runnable := by decide +kernel
set_option maxRecDepth 65536 in
theorem w_alone : about1.alone = true := by decide +kernel
set_option maxRecDepth 65536 in
theorem w_named : about1.methodNamed? x = some theMethod := by decide +kernel
set_option maxRecDepth 65536 in
theorem w_hears : about1.hears theMethod below0 = true := by decide +kernel
set_option maxRecDepth 65536 in
theorem w_ripe : about1.ripe theMethod args0 below0 = true := by decide +kernel
theorem w_running : about1.status = .running := rfl
set_option maxRecDepth 65536 in
theorem w_room : about1.hasRoom e0.platform room_1 = true :=
  launch0.hasRoom_least _ room_1 (by decide +kernel) (by decide +kernel) (by decide +kernel) (by decide +kernel) (by decide +kernel) (by decide +kernel)
theorem allAtoms_all (ts : List Jvm.Cond) (a : Array Jvm.Value) (st : Jvm.State) : (allAtoms ts).before a st = ts.all (fun c => c.before a st) := by
  induction ts with
  | nil => rfl
  | cons c t ih =>
    show (Jvm.Cond.and c (allAtoms t)).before a st = _
    rw [Jvm.Cond.before_and, ih, List.all_cons]
def words1 : List Jvm.Cond := Jvm.Cond.code x code maxLocals ret :: tables_1
/-- a 'code' word, met by the world's own term for the bytes: nothing is compared byte by byte -/
theorem code_word {y : MethodName} {bytes : ByteArray} {mx : Nat} {rt : Option FieldType} {a : Array Value} {s : State} {m : MethodId} {meth : Method} {c : Code} (h1 : s.methodNamed? y = some m) (h2 : s.vm.method? m = some meth) (h3 : meth.code = some c) (h4 : c.code = bytes)
    (h5 : (c.maxLocals == mx && c.exceptionTable.isEmpty && decide (c.maxStack ≤ mostOperands) && decide (meth.sig.returnType = rt) && !meth.locks && decide (parseMethodDescriptor y.desc = some meth.sig)) = true) : (Jvm.Cond.code y bytes mx rt).before a s = true := by
  simp only [Bool.and_eq_true, beq_iff_eq, Bool.not_eq_true', decide_eq_true_eq] at h5
  obtain ⟨⟨⟨⟨⟨g1, g2⟩, g3⟩, g4⟩, g5⟩, g6⟩ := h5
  simp [Cond.before, Cond.holds, Cond.value, h1, h2, h3, h4, g1, g2, g3, g4, g5, g6]
def isCode : Jvm.Cond → Bool
  | .code _ _ _ _ => true
  | _ => false
theorem all_split {L : List Jvm.Cond} {P : Jvm.Cond → Bool} (h1 : L.all (fun c => isCode c || P c) = true) (h2 : ∀ c ∈ L.filter isCode, P c = true) : L.all P = true := by
  refine List.all_eq_true.mpr fun c hc => ?_
  have h := List.all_eq_true.mp h1 c hc
  rcases Bool.eq_false_or_eq_true (isCode c) with hi | hi
  · exact h2 c (List.mem_filter.mpr ⟨hc, hi⟩)
  · simpa [hi] using h
set_option maxRecDepth 65536 in
theorem w_c0 : (Jvm.Cond.code x code maxLocals ret).before args0 about1 = true := code_word (m := ⟨1, 1⟩) (meth := k1m1) (c := k1c1) (by decide +kernel) rfl rfl rfl (by decide +kernel)
set_option maxRecDepth 65536 in
theorem w_c1 : (Jvm.Cond.code ({ cls := "com/example/pensionwright/pensionwright/input/DatesAllDigitsPinLaw", name := "ch", desc := "(I)C" } : Jvm.MethodName) method_3_code (2 : Nat) (Option.some Jvm.ClassFile.FieldType.char)).before args0 about1 = true := code_word (m := ⟨1, 2⟩) (meth := k1m2) (c := k1c2) (by decide +kernel) rfl rfl rfl (by decide +kernel)
set_option maxRecDepth 65536 in
theorem w_c2 : (Jvm.Cond.code ({ cls := "java/lang/String", name := "<init>", desc := "([C)V" } : Jvm.MethodName) jdk_42_method_3_code (2 : Nat) (Option.none : Option Jvm.ClassFile.FieldType)).before args0 about1 = true := code_word (m := ⟨7, 1⟩) (meth := k7m1) (c := k7c1) (by decide +kernel) rfl rfl rfl (by decide +kernel)
set_option maxRecDepth 65536 in
theorem w_c3 : (Jvm.Cond.code ({ cls := "java/lang/String", name := "<init>", desc := "([CIILjava/lang/Void;)V" } : Jvm.MethodName) jdk_42_method_149_code (6 : Nat) (Option.none : Option Jvm.ClassFile.FieldType)).before args0 about1 = true := code_word (m := ⟨7, 3⟩) (meth := k7m3) (c := k7c3) (by decide +kernel) rfl rfl rfl (by decide +kernel)
set_option maxRecDepth 65536 in
theorem w_c4 : (Jvm.Cond.code ({ cls := "java/lang/Object", name := "<init>", desc := "()V" } : Jvm.MethodName) object_method_1_code (1 : Nat) (Option.none : Option Jvm.ClassFile.FieldType)).before args0 about1 = true := code_word (m := ⟨0, 0⟩) (meth := k0m0) (c := k0c0) (by decide +kernel) rfl rfl rfl (by decide +kernel)
set_option maxRecDepth 65536 in
theorem w_c5 : (Jvm.Cond.code ({ cls := "java/lang/StringUTF16", name := "compress", desc := "([CII)[B" } : Jvm.MethodName) jdk_52_method_16_code (6 : Nat) (Option.some (Jvm.ClassFile.FieldType.array Jvm.ClassFile.FieldType.byte))).before args0 about1 = true := code_word (m := ⟨8, 8⟩) (meth := k8m8) (c := k8c8) (by decide +kernel) rfl rfl rfl (by decide +kernel)
set_option maxRecDepth 65536 in
theorem w_c6 : (Jvm.Cond.code ({ cls := "java/lang/StringUTF16", name := "compress", desc := "([CI[BII)I" } : Jvm.MethodName) jdk_52_method_21_code (7 : Nat) (Option.some Jvm.ClassFile.FieldType.int)).before args0 about1 = true := code_word (m := ⟨8, 9⟩) (meth := k8m9) (c := k8c9) (by decide +kernel) rfl rfl rfl (by decide +kernel)
set_option maxRecDepth 65536 in
theorem w_c7 : (Jvm.Cond.code ({ cls := "java/lang/StringUTF16", name := "coderFromArrayLen", desc := "([BI)B" } : Jvm.MethodName) jdk_52_method_15_code (2 : Nat) (Option.some Jvm.ClassFile.FieldType.byte)).before args0 about1 = true := code_word (m := ⟨8, 7⟩) (meth := k8m7) (c := k8c7) (by decide +kernel) rfl rfl rfl (by decide +kernel)
set_option maxRecDepth 65536 in
theorem w_c8 : (Jvm.Cond.code ({ cls := "com/example/pensionwright/pensionwright/input/DatesAllDigitsPinLaw", name := "ok", desc := "(CIII)Z" } : Jvm.MethodName) method_4_code (4 : Nat) (Option.some Jvm.ClassFile.FieldType.boolean)).before args0 about1 = true := code_word (m := ⟨1, 3⟩) (meth := k1m3) (c := k1c3) (by decide +kernel) rfl rfl rfl (by decide +kernel)
set_option maxRecDepth 65536 in
theorem w_c9 : (Jvm.Cond.code ({ cls := "com/example/pensionwright/pensionwright/input/Dates", name := "allDigits", desc := "(Ljava/lang/String;II)Z" } : Jvm.MethodName) prog_16_method_5_code (5 : Nat) (Option.some Jvm.ClassFile.FieldType.boolean)).before args0 about1 = true := code_word (m := ⟨9, 1⟩) (meth := k9m1) (c := k9c1) (by decide +kernel) rfl rfl rfl (by decide +kernel)
set_option maxRecDepth 65536 in
theorem w_c10 : (Jvm.Cond.code ({ cls := "java/lang/String", name := "charAt", desc := "(I)C" } : Jvm.MethodName) jdk_42_method_56_code (2 : Nat) (Option.some Jvm.ClassFile.FieldType.char)).before args0 about1 = true := code_word (m := ⟨7, 2⟩) (meth := k7m2) (c := k7c2) (by decide +kernel) rfl rfl rfl (by decide +kernel)
set_option maxRecDepth 65536 in
theorem w_c11 : (Jvm.Cond.code ({ cls := "java/lang/String", name := "isLatin1", desc := "()Z" } : Jvm.MethodName) jdk_42_method_154_code (1 : Nat) (Option.some Jvm.ClassFile.FieldType.boolean)).before args0 about1 = true := code_word (m := ⟨7, 4⟩) (meth := k7m4) (c := k7c4) (by decide +kernel) rfl rfl rfl (by decide +kernel)
set_option maxRecDepth 65536 in
theorem w_c12 : (Jvm.Cond.code ({ cls := "java/lang/StringLatin1", name := "charAt", desc := "([BI)C" } : Jvm.MethodName) jdk_43_method_2_code (2 : Nat) (Option.some Jvm.ClassFile.FieldType.char)).before args0 about1 = true := code_word (m := ⟨10, 1⟩) (meth := k10m1) (c := k10c1) (by decide +kernel) rfl rfl rfl (by decide +kernel)
set_option maxRecDepth 65536 in
theorem w_c13 : (Jvm.Cond.code ({ cls := "java/lang/String", name := "checkIndex", desc := "(II)V" } : Jvm.MethodName) jdk_42_method_155_code (2 : Nat) (Option.none : Option Jvm.ClassFile.FieldType)).before args0 about1 = true := code_word (m := ⟨7, 5⟩) (meth := k7m5) (c := k7c5) (by decide +kernel) rfl rfl rfl (by decide +kernel)
set_option maxRecDepth 65536 in
theorem w_c14 : (Jvm.Cond.code ({ cls := "jdk/internal/util/Preconditions", name := "checkIndex", desc := "(IILjava/util/function/BiFunction;)I" } : Jvm.MethodName) jdk_41_method_11_code (3 : Nat) (Option.some Jvm.ClassFile.FieldType.int)).before args0 about1 = true := code_word (m := ⟨11, 1⟩) (meth := k11m1) (c := k11c1) (by decide +kernel) rfl rfl rfl (by decide +kernel)
set_option maxRecDepth 65536 in
theorem w_c15 : (Jvm.Cond.code ({ cls := "java/lang/StringUTF16", name := "toBytes", desc := "([CII)[B" } : Jvm.MethodName) jdk_52_method_14_code (5 : Nat) (Option.some (Jvm.ClassFile.FieldType.array Jvm.ClassFile.FieldType.byte))).before args0 about1 = true := code_word (m := ⟨8, 6⟩) (meth := k8m6) (c := k8c6) (by decide +kernel) rfl rfl rfl (by decide +kernel)
set_option maxRecDepth 65536 in
theorem w_c16 : (Jvm.Cond.code ({ cls := "java/lang/StringUTF16", name := "newBytesFor", desc := "(I)[B" } : Jvm.MethodName) jdk_52_method_2_code (1 : Nat) (Option.some (Jvm.ClassFile.FieldType.array Jvm.ClassFile.FieldType.byte))).before args0 about1 = true := code_word (m := ⟨8, 1⟩) (meth := k8m1) (c := k8c1) (by decide +kernel) rfl rfl rfl (by decide +kernel)
set_option maxRecDepth 65536 in
theorem w_c17 : (Jvm.Cond.code ({ cls := "java/lang/StringUTF16", name := "newBytesLength", desc := "(I)I" } : Jvm.MethodName) jdk_52_method_3_code (1 : Nat) (Option.some Jvm.ClassFile.FieldType.int)).before args0 about1 = true := code_word (m := ⟨8, 2⟩) (meth := k8m2) (c := k8c2) (by decide +kernel) rfl rfl rfl (by decide +kernel)
set_option maxRecDepth 65536 in
theorem w_c18 : (Jvm.Cond.code ({ cls := "java/lang/StringUTF16", name := "putChar", desc := "([BII)V" } : Jvm.MethodName) jdk_52_method_4_code (3 : Nat) (Option.none : Option Jvm.ClassFile.FieldType)).before args0 about1 = true := code_word (m := ⟨8, 3⟩) (meth := k8m3) (c := k8c3) (by decide +kernel) rfl rfl rfl (by decide +kernel)
set_option maxRecDepth 65536 in
theorem w_c19 : (Jvm.Cond.code ({ cls := "java/lang/StringUTF16", name := "getChar", desc := "([BI)C" } : Jvm.MethodName) jdk_52_method_5_code (2 : Nat) (Option.some Jvm.ClassFile.FieldType.char)).before args0 about1 = true := code_word (m := ⟨8, 4⟩) (meth := k8m4) (c := k8c4) (by decide +kernel) rfl rfl rfl (by decide +kernel)
set_option maxRecDepth 65536 in
theorem w_c20 : (Jvm.Cond.code ({ cls := "java/lang/StringUTF16", name := "charAt", desc := "([BI)C" } : Jvm.MethodName) jdk_52_method_83_code (2 : Nat) (Option.some Jvm.ClassFile.FieldType.char)).before args0 about1 = true := code_word (m := ⟨8, 10⟩) (meth := k8m10) (c := k8c10) (by decide +kernel) rfl rfl rfl (by decide +kernel)
set_option maxRecDepth 65536 in
theorem w_c21 : (Jvm.Cond.code ({ cls := "java/lang/StringUTF16", name := "checkIndex", desc := "(I[B)V" } : Jvm.MethodName) jdk_52_method_91_code (2 : Nat) (Option.none : Option Jvm.ClassFile.FieldType)).before args0 about1 = true := code_word (m := ⟨8, 11⟩) (meth := k8m11) (c := k8c11) (by decide +kernel) rfl rfl rfl (by decide +kernel)
set_option maxRecDepth 65536 in
theorem w_c22 : (Jvm.Cond.code ({ cls := "java/lang/StringUTF16", name := "length", desc := "([B)I" } : Jvm.MethodName) jdk_52_method_6_code (1 : Nat) (Option.some Jvm.ClassFile.FieldType.int)).before args0 about1 = true := code_word (m := ⟨8, 5⟩) (meth := k8m5) (c := k8c5) (by decide +kernel) rfl rfl rfl (by decide +kernel)
def codes1 : List Jvm.Cond := [Jvm.Cond.code x code maxLocals ret, Jvm.Cond.code ({ cls := "com/example/pensionwright/pensionwright/input/DatesAllDigitsPinLaw", name := "ch", desc := "(I)C" } : Jvm.MethodName) method_3_code (2 : Nat) (Option.some Jvm.ClassFile.FieldType.char), Jvm.Cond.code ({ cls := "java/lang/String", name := "<init>", desc := "([C)V" } : Jvm.MethodName) jdk_42_method_3_code (2 : Nat) (Option.none : Option Jvm.ClassFile.FieldType), Jvm.Cond.code ({ cls := "java/lang/String", name := "<init>", desc := "([CIILjava/lang/Void;)V" } : Jvm.MethodName) jdk_42_method_149_code (6 : Nat) (Option.none : Option Jvm.ClassFile.FieldType), Jvm.Cond.code ({ cls := "java/lang/Object", name := "<init>", desc := "()V" } : Jvm.MethodName) object_method_1_code (1 : Nat) (Option.none : Option Jvm.ClassFile.FieldType), Jvm.Cond.code ({ cls := "java/lang/StringUTF16", name := "compress", desc := "([CII)[B" } : Jvm.MethodName) jdk_52_method_16_code (6 : Nat) (Option.some (Jvm.ClassFile.FieldType.array Jvm.ClassFile.FieldType.byte)), Jvm.Cond.code ({ cls := "java/lang/StringUTF16", name := "compress", desc := "([CI[BII)I" } : Jvm.MethodName) jdk_52_method_21_code (7 : Nat) (Option.some Jvm.ClassFile.FieldType.int), Jvm.Cond.code ({ cls := "java/lang/StringUTF16", name := "coderFromArrayLen", desc := "([BI)B" } : Jvm.MethodName) jdk_52_method_15_code (2 : Nat) (Option.some Jvm.ClassFile.FieldType.byte), Jvm.Cond.code ({ cls := "com/example/pensionwright/pensionwright/input/DatesAllDigitsPinLaw", name := "ok", desc := "(CIII)Z" } : Jvm.MethodName) method_4_code (4 : Nat) (Option.some Jvm.ClassFile.FieldType.boolean), Jvm.Cond.code ({ cls := "com/example/pensionwright/pensionwright/input/Dates", name := "allDigits", desc := "(Ljava/lang/String;II)Z" } : Jvm.MethodName) prog_16_method_5_code (5 : Nat) (Option.some Jvm.ClassFile.FieldType.boolean), Jvm.Cond.code ({ cls := "java/lang/String", name := "charAt", desc := "(I)C" } : Jvm.MethodName) jdk_42_method_56_code (2 : Nat) (Option.some Jvm.ClassFile.FieldType.char), Jvm.Cond.code ({ cls := "java/lang/String", name := "isLatin1", desc := "()Z" } : Jvm.MethodName) jdk_42_method_154_code (1 : Nat) (Option.some Jvm.ClassFile.FieldType.boolean), Jvm.Cond.code ({ cls := "java/lang/StringLatin1", name := "charAt", desc := "([BI)C" } : Jvm.MethodName) jdk_43_method_2_code (2 : Nat) (Option.some Jvm.ClassFile.FieldType.char), Jvm.Cond.code ({ cls := "java/lang/String", name := "checkIndex", desc := "(II)V" } : Jvm.MethodName) jdk_42_method_155_code (2 : Nat) (Option.none : Option Jvm.ClassFile.FieldType), Jvm.Cond.code ({ cls := "jdk/internal/util/Preconditions", name := "checkIndex", desc := "(IILjava/util/function/BiFunction;)I" } : Jvm.MethodName) jdk_41_method_11_code (3 : Nat) (Option.some Jvm.ClassFile.FieldType.int), Jvm.Cond.code ({ cls := "java/lang/StringUTF16", name := "toBytes", desc := "([CII)[B" } : Jvm.MethodName) jdk_52_method_14_code (5 : Nat) (Option.some (Jvm.ClassFile.FieldType.array Jvm.ClassFile.FieldType.byte)), Jvm.Cond.code ({ cls := "java/lang/StringUTF16", name := "newBytesFor", desc := "(I)[B" } : Jvm.MethodName) jdk_52_method_2_code (1 : Nat) (Option.some (Jvm.ClassFile.FieldType.array Jvm.ClassFile.FieldType.byte)), Jvm.Cond.code ({ cls := "java/lang/StringUTF16", name := "newBytesLength", desc := "(I)I" } : Jvm.MethodName) jdk_52_method_3_code (1 : Nat) (Option.some Jvm.ClassFile.FieldType.int), Jvm.Cond.code ({ cls := "java/lang/StringUTF16", name := "putChar", desc := "([BII)V" } : Jvm.MethodName) jdk_52_method_4_code (3 : Nat) (Option.none : Option Jvm.ClassFile.FieldType), Jvm.Cond.code ({ cls := "java/lang/StringUTF16", name := "getChar", desc := "([BI)C" } : Jvm.MethodName) jdk_52_method_5_code (2 : Nat) (Option.some Jvm.ClassFile.FieldType.char), Jvm.Cond.code ({ cls := "java/lang/StringUTF16", name := "charAt", desc := "([BI)C" } : Jvm.MethodName) jdk_52_method_83_code (2 : Nat) (Option.some Jvm.ClassFile.FieldType.char), Jvm.Cond.code ({ cls := "java/lang/StringUTF16", name := "checkIndex", desc := "(I[B)V" } : Jvm.MethodName) jdk_52_method_91_code (2 : Nat) (Option.none : Option Jvm.ClassFile.FieldType), Jvm.Cond.code ({ cls := "java/lang/StringUTF16", name := "length", desc := "([B)I" } : Jvm.MethodName) jdk_52_method_6_code (1 : Nat) (Option.some Jvm.ClassFile.FieldType.int)]
set_option maxRecDepth 65536 in
theorem codes_eq : words1.filter isCode = codes1 := rfl
theorem w_codes : ∀ c ∈ words1.filter isCode, c.before args0 about1 = true := by
  rw [codes_eq]
  intro c hc
  simp only [codes1, List.mem_cons, List.not_mem_nil, or_false] at hc
  rcases hc with rfl | rfl | rfl | rfl | rfl | rfl | rfl | rfl | rfl | rfl | rfl | rfl | rfl | rfl | rfl | rfl | rfl | rfl | rfl | rfl | rfl | rfl | rfl
  · exact w_c0
  · exact w_c1
  · exact w_c2
  · exact w_c3
  · exact w_c4
  · exact w_c5
  · exact w_c6
  · exact w_c7
  · exact w_c8
  · exact w_c9
  · exact w_c10
  · exact w_c11
  · exact w_c12
  · exact w_c13
  · exact w_c14
  · exact w_c15
  · exact w_c16
  · exact w_c17
  · exact w_c18
  · exact w_c19
  · exact w_c20
  · exact w_c21
  · exact w_c22
set_option maxRecDepth 65536 in
theorem w_t1 : (words1.take 24).all (fun c => isCode c || c.before args0 about1) = true := by decide +kernel
set_option maxRecDepth 65536 in
theorem w_t2 : ((words1.drop 24).take 24).all (fun c => isCode c || c.before args0 about1) = true := by decide +kernel
set_option maxRecDepth 65536 in
theorem w_t3 : (((words1.drop 24).drop 24).take 24).all (fun c => isCode c || c.before args0 about1) = true := by decide +kernel
set_option maxRecDepth 65536 in
theorem w_t4 : (((words1.drop 24).drop 24).drop 24).all (fun c => isCode c || c.before args0 about1) = true := by decide +kernel
theorem w_tables : (allAtoms (Jvm.Cond.code x code maxLocals ret :: tables_1)).before args0 about1 = true := by
  rw [allAtoms_all]
  show words1.all (fun c => c.before args0 about1) = true
  refine all_split ?_ w_codes
  rw [← List.take_append_drop 24 words1, List.all_append, w_t1, ← List.take_append_drop 24 (words1.drop 24), List.all_append, w_t2, ← List.take_append_drop 24 ((words1.drop 24).drop 24), List.all_append, w_t3, w_t4]
  rfl
set_option maxRecDepth 65536 in
theorem w_rest : rest_1_c.before args0 about1 = true := by decide +kernel
set_option maxRecDepth 65536 in
theorem w_case : (Jvm.Cond.and given_1 narrow_1).before args0 about1 = true := by decide +kernel
theorem w_applies : (headSpec (Jvm.Cond.code x code maxLocals ret :: tables_1) room_1).applies x e0.platform about1 = true :=
  (Spec.applies_iff w_frames).mpr ⟨w_running, w_runnable, w_alone, w_named, w_hears, w_ripe, w_room, w_tables⟩
theorem atStart : AtStart classFile x code maxLocals ret World_1 tables_1 room_1 Calls_1 rest_1 Pre_1 launch0 p0 e0 about1 theMethod args0 below0 :=
  ⟨lists_1, trivial, launch0.admits_env _ _ _, launch0.least_env, fairChoices_fair.cas, fairChoices_fair.clock, w_frames, w_args, w_heap, w_applies, trivial, w_rest, w_case⟩
end start1
theorem witness_1 : WitnessClaimed_1 := ⟨start1.p0, start1.e0, start1.about1, start1.theMethod, start1.args0, start1.below0, start1.atStart⟩
end Jvm.Pilot.@@N@@
