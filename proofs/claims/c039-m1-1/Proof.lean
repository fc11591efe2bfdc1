import JvmDerived
import JvmDerived.Pilot.@@N@@Statement
import JvmDerived.Pilot.@@N@@Code
set_option linter.unusedVariables false
set_option linter.unusedSimpArgs false
namespace Jvm.RoadKit
open Sem ClassFile Op Lib Jvm.Stand Jvm.Free Jvm.LawKit
section New
variable {p : Program} {l : Launch} {e : Env} {R : Room} {s : State} {m : MethodId} {args : Array Value} {below : List Frame} {meth : Method} {c : Code} {T : State} {locs : List Loc} {cells slots : Nat}
theorem retI (X : Stand p l e R s m args below meth c T locs cells slots) (hx : p.tables.exec = Jvm.exec) {pc : Nat} {Ls : Array Slot} {z : Int32} {rest : List Value} (hret : meth.sig.returnType = some .int) (hd : decode c.code pc = .ok (.ireturn, 1)) {fs : List Frame}
    (hl : ∀ (f : JFrame) (acts : List Action), f.method = m → f.locked = none → f.entered = [] → (doReturn e (T.setTop f) acts (some (.int z))).1 = T.setFrames fs) : Steps p.tables e below (T.setTop (mkF m pc Ls (.int z :: rest))) (T.setFrames fs) :=
  retOut X hx hret rfl (Or.inl ⟨rfl, Or.inl rfl, z, rfl⟩) hd hl
end New
end Jvm.RoadKit
/- laws to paste: Road.chN, Road.lenW, Road.codOf, shr0, shr1, pair_says, wide_lo, wide_hi (cut by pick.py; bodies as the Statement names them) -/
namespace Jvm.Pilot.@@N@@
namespace StrChars
open Jvm Sem ClassFile Op Lib Jvm.Stand Jvm.Free.XT Jvm.Free.ALB Jvm.Free.JM Jvm.Free
open Jvm.Lib.Cold (StaticIs)
/-- a char array whose places are chars -/
def Ch (a : Addr) (A : Cell) (U : State) : Prop := Arr .char a A U ∧ Typed .char A
theorem Ch.mv {a : Addr} {A : Cell} {U U' : State} (h : Ch a A U) (hal : U.vm.Alike U'.vm) (hh : U'.heap = U.heap) : Ch a A U' := ⟨h.1.mv hal hh, h.2⟩
theorem Ch.keep {a : Addr} {A : Cell} {U U' : State} (h : Ch a A U) (hal : U.vm.Alike U'.vm) (hk : U'.heap[a]? = some A) : Ch a A U' := ⟨h.1.keep hal hk, h.2⟩
/-- what place i of a char[]'s cell holds -/
def cv (A : Cell) (i : Nat) : Int32 := match A.slots[i]? with | some (.int x) => x | _ => 0
theorem Ch.get {a : Addr} {A : Cell} {U : State} (h : Ch a A U) {i : Nat} (hi : i < A.slots.size) : A.slots[i]? = some (.int (cv A i)) := by
  have e := Array.getElem?_eq_getElem hi
  have f := h.2 i _ e
  unfold cv; rw [e]
  generalize A.slots[i] = v at f
  cases v <;> simp [fits] at f ⊢
/-- the byte that i2b leaves of a char -/
def lo8 (x : Int32) : Int32 := x.toInt8.toInt32
theorem fits_lo8 (y : Int32) : fits .byte (.int (lo8 y)) = true := by
  have h1 := y.toInt8.le_toInt
  have h2 := y.toInt8.toInt_lt
  simp only [lo8, fits, Bool.and_eq_true, decide_eq_true_eq, Int32.le_iff_toInt_le, Int8.toInt_toInt32, show (-128 : Int32).toInt = -128 from by decide, show (127 : Int32).toInt = 127 from by decide]
  omega
/-- A' is A but that each place j of lo .. hi - 1 holds f j -/
def Laid (A A' : Cell) (lo hi : Nat) (f : Nat → Value) : Prop := A'.cls = A.cls ∧ A'.vm = A.vm ∧ A'.slots.size = A.slots.size ∧ ∀ i, A'.slots[i]? = if lo ≤ i ∧ i < hi then some (f i) else A.slots[i]?
theorem Laid.zero (A : Cell) (lo : Nat) (f : Nat → Value) : Laid A A lo (lo + 0) f := ⟨rfl, rfl, rfl, fun i => by rw [if_neg (by omega)]⟩
theorem Laid.step {A Ak : Cell} {lo k : Nat} {f : Nat → Value} {v : Value} (h : Laid A Ak lo k f) (hlo : lo ≤ k) (hk : k < Ak.slots.size) (hv : v = f k) : Laid A (Ak.setSlot k v) lo (k + 1) f := by
  refine ⟨h.1, h.2.1, by simpa [Cell.setSlot] using h.2.2.1, fun i => ?_⟩
  by_cases e : k = i
  · subst e; rw [Cell.slots_setSlot_self v hk, if_pos (by omega), hv]
  · rw [Cell.slots_setSlot_ne v e, h.2.2.2 i]
    by_cases q : lo ≤ i ∧ i < k
    · rw [if_pos q, if_pos (by omega)]
    · rw [if_neg q, if_neg (by omega)]
def U16 : String := "java/lang/StringUTF16"
namespace Cmp5
def yN : MethodName := ⟨"java/lang/StringUTF16", "compress", "([CI[BII)I"⟩
abbrev yB : ByteArray := jdk_52_method_21_code
theorem d0 : decode yB 0 = .ok (.iconst 0, 1) := by decide +kernel
theorem d1 : decode yB 1 = .ok (.istore 5, 2) := by decide +kernel
theorem d3 : decode yB 3 = .ok (.iload 5, 2) := by decide +kernel
theorem d5 : decode yB 5 = .ok (.iload 4, 2) := by decide +kernel
theorem d7 : decode yB 7 = .ok (.if_icmp (.ge) 37, 3) := by decide +kernel
theorem d10 : decode yB 10 = .ok (.aload_n 0, 1) := by decide +kernel
theorem d11 : decode yB 11 = .ok (.iload_n 1, 1) := by decide +kernel
theorem d12 : decode yB 12 = .ok (.caload, 1) := by decide +kernel
theorem d13 : decode yB 13 = .ok (.istore 6, 2) := by decide +kernel
theorem d15 : decode yB 15 = .ok (.iload 6, 2) := by decide +kernel
theorem d17 : decode yB 17 = .ok (.sipush 255, 3) := by decide +kernel
theorem d20 : decode yB 20 = .ok (.if_icmp (.le) 6, 3) := by decide +kernel
theorem d26 : decode yB 26 = .ok (.aload_n 2, 1) := by decide +kernel
theorem d27 : decode yB 27 = .ok (.iload_n 3, 1) := by decide +kernel
theorem d28 : decode yB 28 = .ok (.iload 6, 2) := by decide +kernel
theorem d30 : decode yB 30 = .ok (.i2b, 1) := by decide +kernel
theorem d31 : decode yB 31 = .ok (.bastore, 1) := by decide +kernel
theorem d32 : decode yB 32 = .ok (.iinc 1 1, 3) := by decide +kernel
theorem d35 : decode yB 35 = .ok (.iinc 3 1, 3) := by decide +kernel
theorem d38 : decode yB 38 = .ok (.iinc 5 1, 3) := by decide +kernel
theorem d41 : decode yB 41 = .ok (.goto (-38), 3) := by decide +kernel
theorem d44 : decode yB 44 = .ok (.iload 4, 2) := by decide +kernel
theorem d46 : decode yB 46 = .ok (.ireturn, 1) := by decide +kernel
def site : List Cond := []
def tab : Cond := tabOf yN yB 7 (some .int) site
def P (b : Addr) (A : Cell) (d : Addr) (B : Cell) (o q len : Nat) (args : Array Value) (s : State) : Prop := args = #[.ref b, .int (Int32.ofNat o), .ref d, .int (Int32.ofNat q), .int (Int32.ofNat len)] ∧ Ch b A s ∧ Arr .byte d B s ∧ b ≠ d ∧ o + len ≤ A.slots.size ∧ q + len ≤ B.slots.size ∧ ∀ i, i < len → ¬ 255 < cv A (o + i)
def E (b : Addr) (A : Cell) (d : Addr) (B : Cell) (o q len : Nat) (r : Option Value) (s u : State) : Prop := r = some (.int (Int32.ofNat len)) ∧ ∃ B', Put d B' s u ∧ Laid B B' q (q + len) (fun j => Value.int (lo8 (cv A (o + (j - q)))))
/-- no char of the range above 255: len; the places written hold each char's low byte -/
theorem law (l : Launch) (b : Addr) (A : Cell) (d : Addr) (B : Cell) (o q len : Nat) : Law l yN 5 5 0 0 yB 7 (some .int) site (P b A d B o q len) (E b A d B o q len) (copyLocs d q len) 0 0 := by
  refine Law.of_walk (plainFor_of_name (by decide +kernel)) (by decide +kernel) (by decide +kernel) (by decide) (fun _ _ h => by rw [h.1]; rfl) (fun _ U U' hal hh h => ⟨h.1, h.2.1.mv hal hh, h.2.2.1.mv hal hh, h.2.2.2⟩) (fun r U U' V V' h1 hal h2 h => ⟨h.1, h.2.elim fun B' q => ⟨B', q.1.mv h1 h2, q.2⟩⟩) ?_
  intro p e s m args below meth c s₁ X0 hexec hbytes hml hret hlk hnm hown hh0 W hP
  obtain ⟨rfl, hA, hB, hne, l1, l2, hp⟩ := hP
  have c1 : Steps p.tables e below (s₁.setTop (entryFrame m #[.ref b, .int (Int32.ofNat o), .ref d, .int (Int32.ofNat q), .int (Int32.ofNat len)] 7)) (s₁.setTop (mkF m 0 #[.val (.ref b), .val (.int (Int32.ofNat o)), .val (.ref d), .val (.int (Int32.ofNat q)), .val (.int (Int32.ofNat len)), .unset, .unset] [])) := entry rfl
  have hA0 := hA.1.mv X0.warmed.alike hh0
  have hB0 := hB.mv X0.warmed.alike hh0
  have a31 := hA.1.2.2.2
  have c2 : Steps p.tables e below (s₁.setTop (entryFrame m #[.ref b, .int (Int32.ofNat o), .ref d, .int (Int32.ofNat q), .int (Int32.ofNat len)] 7)) (s₁.setTop (mkF m 3 #[.val (.ref b), .val (.int (Int32.ofNat o)), .val (.ref d), .val (.int (Int32.ofNat q)), .val (.int (Int32.ofNat len)), .val (.int 0), .unset] [])) := c1.trans (by
    refine iconstV X0.here hexec rfl 0 (hb hbytes d0) (by decide) ?_
    refine XS.istore X0.here hexec rfl (hb hbytes d1) rfl rfl ?_
    exact Steps.refl _)
  have loop : ∀ (r i : Nat), i + r = len → ∀ (z : Slot), (z = .unset ∨ ∃ w, z = .val w ∧ w.category = 1) → ∀ (Tl : State) (Bk : Cell), Stand p l e { frames := 0, locals := 0, cells := 0, slots := 0 } s m #[.ref b, .int (Int32.ofNat o), .ref d, .int (Int32.ofNat q), .int (Int32.ofNat len)] below meth c Tl ([] ++ copyLocs d q i) 0 0 → Put d Bk s₁ Tl → Laid B Bk q (q + i) (fun j => Value.int (lo8 (cv A (o + (j - q))))) →
      Steps p.tables e below (s₁.setTop (entryFrame m #[.ref b, .int (Int32.ofNat o), .ref d, .int (Int32.ofNat q), .int (Int32.ofNat len)] 7)) (Tl.setTop (mkF m 3 #[.val (.ref b), .val (.int (Int32.ofNat (o + i))), .val (.ref d), .val (.int (Int32.ofNat (q + i))), .val (.int (Int32.ofNat len)), .val (.int (Int32.ofNat i)), z] [])) → ∃ (T' : State) (B' : Cell) (z' : Slot), Stand p l e { frames := 0, locals := 0, cells := 0, slots := 0 } s m #[.ref b, .int (Int32.ofNat o), .ref d, .int (Int32.ofNat q), .int (Int32.ofNat len)] below meth c T' ([] ++ copyLocs d q len) 0 0 ∧ Put d B' s₁ T' ∧ Laid B B' q (q + len) (fun j => Value.int (lo8 (cv A (o + (j - q))))) ∧
      Steps p.tables e below (s₁.setTop (entryFrame m #[.ref b, .int (Int32.ofNat o), .ref d, .int (Int32.ofNat q), .int (Int32.ofNat len)] 7)) (T'.setTop (mkF m 3 #[.val (.ref b), .val (.int (Int32.ofNat (o + len))), .val (.ref d), .val (.int (Int32.ofNat (q + len))), .val (.int (Int32.ofNat len)), .val (.int (Int32.ofNat len)), z'] [])) := by
    intro r
    induction r with
    | zero =>
      intro i hi z hz Tl Bk Xl pl fl cl
      have hil : i = len := by omega
      rw [hil] at Xl fl cl
      exact ⟨Tl, Bk, z, Xl, pl, fl, cl⟩
    | succ r ih =>
      intro i hi z hz Tl Bk Xl pl fl cl
      have all := X0.warmed.alike.symm.trans Xl.warmed.alike
      have hAl := hA0.keep all (pl.other hne hA0.1)
      have hBk := hB0.like all pl.1 fl.1 fl.2.1 fl.2.2.1
      have hlt : q + i < Bk.slots.size := by rw [fl.2.2.1]; omega
      have c3 : Steps p.tables e below (s₁.setTop (entryFrame m #[.ref b, .int (Int32.ofNat o), .ref d, .int (Int32.ofNat q), .int (Int32.ofNat len)] 7)) (Tl.setTop (mkF m 12 #[.val (.ref b), .val (.int (Int32.ofNat (o + i))), .val (.ref d), .val (.int (Int32.ofNat (q + i))), .val (.int (Int32.ofNat len)), .val (.int (Int32.ofNat i)), z] [.int (Int32.ofNat (o + i)), .ref b])) := cl.trans (by
        refine XS.iload Xl.here hexec rfl (hb hbytes d3) rfl ?_
        refine XS.iload Xl.here hexec rfl (hb hbytes d5) rfl ?_
        refine XS.icmpNo Xl.here hexec rfl (hb hbytes d7) rfl (ii_ge_f (lt32 (by omega) (by omega))) ?_
        refine XS.aloadN Xl.here hexec rfl (hb hbytes d10) rfl rfl ?_
        refine XS.iloadN Xl.here hexec rfl (hb hbytes d11) rfl ?_
        exact Steps.refl _)
      have c4 : Steps p.tables e below (s₁.setTop (entryFrame m #[.ref b, .int (Int32.ofNat o), .ref d, .int (Int32.ofNat q), .int (Int32.ofNat len)] 7)) (Tl.setTop (mkF m 13 #[.val (.ref b), .val (.int (Int32.ofNat (o + i))), .val (.ref d), .val (.int (Int32.ofNat (q + i))), .val (.int (Int32.ofNat len)), .val (.int (Int32.ofNat i)), z] [.int (cv A (o + i))])) := c3.trans (by
        refine Xl.aget hexec hAl rfl (hA.get (i := o + i) (by omega)) rfl rfl (hb hbytes d12) ?_
        exact Steps.refl _)
      have c5 : Steps p.tables e below (s₁.setTop (entryFrame m #[.ref b, .int (Int32.ofNat o), .ref d, .int (Int32.ofNat q), .int (Int32.ofNat len)] 7)) (Tl.setTop (mkF m 15 #[.val (.ref b), .val (.int (Int32.ofNat (o + i))), .val (.ref d), .val (.int (Int32.ofNat (q + i))), .val (.int (Int32.ofNat len)), .val (.int (Int32.ofNat i)), .val (.int (cv A (o + i)))] [])) := c4.trans (by
        refine XS.istoreS Xl.here hexec rfl (hb hbytes d13) rfl rfl hz ?_
        exact Steps.refl _)
      have c6 : Steps p.tables e below (s₁.setTop (entryFrame m #[.ref b, .int (Int32.ofNat o), .ref d, .int (Int32.ofNat q), .int (Int32.ofNat len)] 7)) (Tl.setTop (mkF m 31 #[.val (.ref b), .val (.int (Int32.ofNat (o + i))), .val (.ref d), .val (.int (Int32.ofNat (q + i))), .val (.int (Int32.ofNat len)), .val (.int (Int32.ofNat i)), .val (.int (cv A (o + i)))] [.int (lo8 (cv A (o + i))), .int (Int32.ofNat (q + i)), .ref d])) := c5.trans (by
        refine XS.iload Xl.here hexec rfl (hb hbytes d15) rfl ?_
        refine sipushV Xl.here hexec rfl 255 (hb hbytes d17) (by decide) ?_
        refine XS.icmpYes Xl.here hexec rfl (pc0 := 20) rfl (hb hbytes d20) rfl (ii_le_t (hp i (by omega))) (by decide) rfl ?_
        refine XS.aloadN Xl.here hexec rfl (hb hbytes d26) rfl rfl ?_
        refine XS.iloadN Xl.here hexec rfl (hb hbytes d27) rfl ?_
        refine XS.iload Xl.here hexec rfl (hb hbytes d28) rfl ?_
        refine i2b Xl.here hexec rfl (hb hbytes d30) rfl ?_
        exact Steps.refl _)
      obtain ⟨T7, X7, p7, st7⟩ := Xl.aput hexec hBk rfl hlt rfl (fits_lo8 (cv A (o + i))) (g := (mkF m 31 #[.val (.ref b), .val (.int (Int32.ofNat (o + i))), .val (.ref d), .val (.int (Int32.ofNat (q + i))), .val (.int (Int32.ofNat len)), .val (.int (Int32.ofNat i)), .val (.int (cv A (o + i)))] [.int (lo8 (cv A (o + i))), .int (Int32.ofNat (q + i)), .ref d])) rfl (rest := []) rfl (hb hbytes d31)
      have c8 : Steps p.tables e below (s₁.setTop (entryFrame m #[.ref b, .int (Int32.ofNat o), .ref d, .int (Int32.ofNat q), .int (Int32.ofNat len)] 7)) (T7.setTop (mkF m 32 #[.val (.ref b), .val (.int (Int32.ofNat (o + i))), .val (.ref d), .val (.int (Int32.ofNat (q + i))), .val (.int (Int32.ofNat len)), .val (.int (Int32.ofNat i)), .val (.int (cv A (o + i)))] [])) := c6.trans (st7 _ (Steps.refl _))
      have c9 : Steps p.tables e below (s₁.setTop (entryFrame m #[.ref b, .int (Int32.ofNat o), .ref d, .int (Int32.ofNat q), .int (Int32.ofNat len)] 7)) (T7.setTop (mkF m 3 #[.val (.ref b), .val (.int (Int32.ofNat (o + i) + 1)), .val (.ref d), .val (.int (Int32.ofNat (q + i) + 1)), .val (.int (Int32.ofNat len)), .val (.int (Int32.ofNat i + 1)), .val (.int (cv A (o + i)))] [])) := c8.trans (by
        refine iincV X7.here hexec rfl 1 (hb hbytes d32) (by decide) rfl rfl ?_
        refine iincV X7.here hexec rfl 1 (hb hbytes d35) (by decide) rfl rfl ?_
        refine iincV X7.here hexec rfl 1 (hb hbytes d38) (by decide) rfl rfl ?_
        refine XS.goto X7.here hexec rfl (pc0 := 41) rfl (hb hbytes d41) (by decide) rfl ?_
        exact Steps.refl _)
      have c10 : Steps p.tables e below (s₁.setTop (entryFrame m #[.ref b, .int (Int32.ofNat o), .ref d, .int (Int32.ofNat q), .int (Int32.ofNat len)] 7)) (T7.setTop (mkF m 3 #[.val (.ref b), .val (.int (Int32.ofNat (o + (i + 1)))), .val (.ref d), .val (.int (Int32.ofNat (q + (i + 1)))), .val (.int (Int32.ofNat len)), .val (.int (Int32.ofNat (i + 1))), .val (.int (cv A (o + i)))] [])) := by
        have := c9
        rw [succ32, succ32, succ32] at this
        exact this
      exact ih (i + 1) (by omega) _ (Or.inr ⟨_, rfl, rfl⟩) T7 _ (by rw [copyLocs_step, ← List.append_assoc]; exact X7) (pl.trans p7) (fl.step (by omega) hlt (by simp)) c10
  obtain ⟨T9, B9, z9, X9, p9, f9, g9⟩ := loop len 0 (by omega) .unset (Or.inl rfl) s₁ B (by simpa [copyLocs] using X0) ⟨hB0.1, fun _ _ => rfl, rfl⟩ (Laid.zero _ _ _) c2
  have c11 : Steps p.tables e below (s₁.setTop (entryFrame m #[.ref b, .int (Int32.ofNat o), .ref d, .int (Int32.ofNat q), .int (Int32.ofNat len)] 7)) (T9.setTop (mkF m 46 #[.val (.ref b), .val (.int (Int32.ofNat (o + len))), .val (.ref d), .val (.int (Int32.ofNat (q + len))), .val (.int (Int32.ofNat len)), .val (.int (Int32.ofNat len)), z9] [.int (Int32.ofNat len)])) := g9.trans (by
    refine XS.iload X9.here hexec rfl (hb hbytes d3) rfl ?_
    refine XS.iload X9.here hexec rfl (hb hbytes d5) rfl ?_
    refine XS.icmpYes X9.here hexec rfl (pc0 := 7) rfl (hb hbytes d7) rfl (ii_ge_t (nlt32 (by omega) (Nat.le_refl _))) (by decide) rfl ?_
    refine XS.iload X9.here hexec rfl (hb hbytes d44) rfl ?_
    exact Steps.refl _)
  exact ⟨T9, some (.int (Int32.ofNat len)), _, _, _, X9, by simp, rfl, rfl, (fun h => by cases h), ⟨rfl, B9, p9.from hh0, f9⟩, fun fs hl => c11.trans (X9.ireturnOut hexec hret rfl (Or.inl rfl) (hb hbytes d46) hl)⟩
end Cmp5
namespace Cmp3
def yN : MethodName := ⟨"java/lang/StringUTF16", "compress", "([CII)[B"⟩
abbrev yB : ByteArray := jdk_52_method_16_code
theorem d0 : decode yB 0 = .ok (.iload_n 2, 1) := by decide +kernel
theorem d1 : decode yB 1 = .ok (.newarray .byte, 2) := by decide +kernel
theorem d3 : decode yB 3 = .ok (.astore_n 3, 1) := by decide +kernel
theorem d4 : decode yB 4 = .ok (.aload_n 0, 1) := by decide +kernel
theorem d5 : decode yB 5 = .ok (.iload_n 1, 1) := by decide +kernel
theorem d6 : decode yB 6 = .ok (.aload_n 3, 1) := by decide +kernel
theorem d7 : decode yB 7 = .ok (.iconst 0, 1) := by decide +kernel
theorem d8 : decode yB 8 = .ok (.iload_n 2, 1) := by decide +kernel
theorem d9 : decode yB 9 = .ok (.invokestatic 115, 3) := by decide +kernel
theorem d12 : decode yB 12 = .ok (.istore 4, 2) := by decide +kernel
theorem d14 : decode yB 14 = .ok (.iload 4, 2) := by decide +kernel
theorem d16 : decode yB 16 = .ok (.iload_n 2, 1) := by decide +kernel
theorem d17 : decode yB 17 = .ok (.if_icmp (.eq) 40, 3) := by decide +kernel
theorem d57 : decode yB 57 = .ok (.aload_n 3, 1) := by decide +kernel
theorem d58 : decode yB 58 = .ok (.areturn, 1) := by decide +kernel
def site : List Cond := [.arrayClass .byte, Cmp5.tab] ++ staticW U16 115 Cmp5.yN
def tab : Cond := tabOf yN yB 6 (some (.array .byte)) site
def P (b : Addr) (A : Cell) (o len : Nat) (args : Array Value) (s : State) : Prop := args = #[.ref b, .int (Int32.ofNat o), .int (Int32.ofNat len)] ∧ Ch b A s ∧ o + len ≤ A.slots.size ∧ len ≤ 536870912 ∧ ∀ i, i < len → ¬ 255 < cv A (o + i)
def E (b : Addr) (A : Cell) (o len : Nat) (r : Option Value) (s u : State) : Prop := NewArr .byte "[B" len (fun j => .int (lo8 (cv A (o + j)))) r s u ∧ u.heap.size = s.heap.size + 1
/-- no char of the range above 255: a new byte[] of their low bytes -/
theorem law (l : Launch) (b : Addr) (A : Cell) (o len : Nat) : Law l yN 3 3 1 18 yB 6 (some (.array .byte)) site (P b A o len) (E b A o len) [] 1 len := by
  refine Law.of_walk (plainFor_of_name (by decide +kernel)) (by decide +kernel) (by decide +kernel) (by decide) (fun _ _ h => by rw [h.1]; rfl) (fun _ U U' hal hh h => ⟨h.1, h.2.1.mv hal hh, h.2.2⟩) (fun r U U' V V' h1 hal h2 h => ⟨NewArr.mv r U U' V V' h1 hal h2 h.1, by rw [h1, h2]; exact h.2⟩) ?_
  intro p e s m args below meth c s₁ X0 hexec hbytes hml hret hlk hnm hown hh0 W hP
  obtain ⟨rfl, hA, l1, l2, hp⟩ := hP
  have a31 := hA.1.2.2.2
  have c1 : Steps p.tables e below (s₁.setTop (entryFrame m #[.ref b, .int (Int32.ofNat o), .int (Int32.ofNat len)] 6)) (s₁.setTop (mkF m 0 #[.val (.ref b), .val (.int (Int32.ofNat o)), .val (.int (Int32.ofNat len)), .unset, .unset, .unset] [])) := entry rfl
  have c2 : Steps p.tables e below (s₁.setTop (entryFrame m #[.ref b, .int (Int32.ofNat o), .int (Int32.ofNat len)] 6)) (s₁.setTop (mkF m 1 #[.val (.ref b), .val (.int (Int32.ofNat o)), .val (.int (Int32.ofNat len)), .unset, .unset, .unset] [.int (Int32.ofNat len)])) := c1.trans (by
    refine XS.iloadN X0.here hexec rfl (hb hbytes d0) rfl ?_
    exact Steps.refl _)
  obtain ⟨T3, B3, X3, ba3, bs3, bv3, bh3, bf3, st3⟩ := X0.anew hexec (atype := .byte) (wk W (.arrayClass .byte)) rfl (by show len * 1 ≤ _; omega) (by omega) (g := (mkF m 1 #[.val (.ref b), .val (.int (Int32.ofNat o)), .val (.int (Int32.ofNat len)), .unset, .unset, .unset] [.int (Int32.ofNat len)])) rfl (hb hbytes d1) (rest := []) rfl (Nat.le_refl _) (by show 0 + len ≤ len; omega)
  rw [hh0] at ba3 st3
  have kp3 : XT.Kept s T3 := (XT.Kept.of_eq hh0).push bh3
  have hA3 := hA.keep X3.warmed.alike (kp3 _ _ hA.1.1)
  have hne : b ≠ s.heap.size := hA.1.ne
  have c4 : Steps p.tables e below (s₁.setTop (entryFrame m #[.ref b, .int (Int32.ofNat o), .int (Int32.ofNat len)] 6)) (T3.setTop (mkF m 3 #[.val (.ref b), .val (.int (Int32.ofNat o)), .val (.int (Int32.ofNat len)), .unset, .unset, .unset] [.ref s.heap.size])) := c2.trans (st3 _ (Steps.refl _))
  have c5 : Steps p.tables e below (s₁.setTop (entryFrame m #[.ref b, .int (Int32.ofNat o), .int (Int32.ofNat len)] 6)) (T3.setTop (mkF m 9 #[.val (.ref b), .val (.int (Int32.ofNat o)), .val (.int (Int32.ofNat len)), .val (.ref s.heap.size), .unset, .unset] [.int (Int32.ofNat len), .int 0, .ref s.heap.size, .int (Int32.ofNat o), .ref b])) := c4.trans (by
    refine XS.astoreN X3.here hexec rfl (hb hbytes d3) rfl rfl rfl ?_
    refine XS.aloadN X3.here hexec rfl (hb hbytes d4) rfl rfl ?_
    refine XS.iloadN X3.here hexec rfl (hb hbytes d5) rfl ?_
    refine XS.aloadN X3.here hexec rfl (hb hbytes d6) rfl rfl ?_
    refine iconstV X3.here hexec rfl 0 (hb hbytes d7) (by decide) ?_
    refine XS.iloadN X3.here hexec rfl (hb hbytes d8) rfl ?_
    exact Steps.refl _)
  obtain ⟨v6, T6, X6, E6, g6⟩ := X3.callS hexec (Cmp5.law l b A s.heap.size B3 o 0 len) hown (wks W (staticW U16 115 Cmp5.yN)) (wk W Cmp5.tab) (W := 0) (Nat.le_of_ble_eq_true rfl) (Nat.le_of_ble_eq_true rfl) (Nat.le_refl _) (by show 0 + len + 0 ≤ len; omega) (g := (mkF m 9 #[.val (.ref b), .val (.int (Int32.ofNat o)), .val (.int (Int32.ofNat len)), .val (.ref s.heap.size), .unset, .unset] [.int (Int32.ofNat len), .int (Int32.ofNat 0), .ref s.heap.size, .int (Int32.ofNat o), .ref b])) rfl (by rw [hml]; rfl) c5 (argsL := [.ref b, .int (Int32.ofNat o), .ref s.heap.size, .int (Int32.ofNat 0), .int (Int32.ofNat len)]) (rest := []) rfl rfl (by show 2 * 0 + 0 ≤ _; decide) (hb hbytes d9) (⟨rfl, hA3, ba3, hne, l1, by rw [bs3]; simp, hp⟩)
  obtain ⟨rfl, B6, p6, f6⟩ := E6
  have c7 : Steps p.tables e below (s₁.setTop (entryFrame m #[.ref b, .int (Int32.ofNat o), .int (Int32.ofNat len)] 6)) (T6.setTop (mkF m 12 #[.val (.ref b), .val (.int (Int32.ofNat o)), .val (.int (Int32.ofNat len)), .val (.ref s.heap.size), .unset, .unset] [.int (Int32.ofNat len)])) := g6
  have c8 : Steps p.tables e below (s₁.setTop (entryFrame m #[.ref b, .int (Int32.ofNat o), .int (Int32.ofNat len)] 6)) (T6.setTop (mkF m 58 #[.val (.ref b), .val (.int (Int32.ofNat o)), .val (.int (Int32.ofNat len)), .val (.ref s.heap.size), .val (.int (Int32.ofNat len)), .unset] [.ref s.heap.size])) := c7.trans (by
    refine XS.istore X6.here hexec rfl (hb hbytes d12) rfl rfl ?_
    refine XS.iload X6.here hexec rfl (hb hbytes d14) rfl ?_
    refine XS.iloadN X6.here hexec rfl (hb hbytes d16) rfl ?_
    refine XS.icmpYes X6.here hexec rfl (pc0 := 17) rfl (hb hbytes d17) rfl (ii_eq_t rfl) (by decide) rfl ?_
    refine XS.aloadN X6.here hexec rfl (hb hbytes d57) rfl rfl ?_
    exact Steps.refl _)
  have X8 := X6.wide (L' := []) (cells' := 1) (slots' := len) (fun x hx hlt => by
    simp only [List.nil_append, copyLocs, List.mem_map, List.mem_range] at hx
    obtain ⟨i, -, rfl⟩ := hx
    exact absurd hlt (Nat.lt_irrefl _)) (Nat.le_refl _) (by omega)
  exact ⟨T6, some (.ref s.heap.size), _, _, _, X8, rfl, rfl, rfl, (fun h => by cases h), ⟨⟨rfl, B6, ba3.like (X3.warmed.alike.symm.trans X6.warmed.alike) p6.1 f6.1 f6.2.1 f6.2.2.1, f6.2.1.trans bv3, by rw [X6.warmed.alike.findClass, f6.1]; exact bf3, by rw [f6.2.2.1, bs3]; simp, fun j hj => by rw [f6.2.2.2 j, if_pos (by omega)]; rfl, kp3.put p6 (Nat.le_refl _)⟩, by rw [p6.2.2, bh3, hh0]; simp⟩, fun fs hl => c8.trans (X8.areturnOut hexec rfl hret rfl (hb hbytes d58) hl)⟩
end Cmp3
namespace CodL
def yN : MethodName := ⟨"java/lang/StringUTF16", "coderFromArrayLen", "([BI)B"⟩
abbrev yB : ByteArray := jdk_52_method_15_code
theorem d0 : decode yB 0 = .ok (.iload_n 1, 1) := by decide +kernel
theorem d1 : decode yB 1 = .ok (.aload_n 0, 1) := by decide +kernel
theorem d2 : decode yB 2 = .ok (.arraylength, 1) := by decide +kernel
theorem d3 : decode yB 3 = .ok (.isub, 1) := by decide +kernel
theorem d4 : decode yB 4 = .ok (.bipush 31, 2) := by decide +kernel
theorem d6 : decode yB 6 = .ok (.iushr, 1) := by decide +kernel
theorem d7 : decode yB 7 = .ok (.i2b, 1) := by decide +kernel
theorem d8 : decode yB 8 = .ok (.ireturn, 1) := by decide +kernel
def site : List Cond := []
def tab : Cond := tabOf yN yB 2 (some .byte) site
def P (d : Addr) (B : Cell) (args : Array Value) (s : State) : Prop := args = #[.ref d, .int (Int32.ofNat B.slots.size)] ∧ Arr .byte d B s
def E (r : Option Value) (s u : State) : Prop := XT.PureE (some (.int 0)) r s u
/-- an array as long as the number of chars: LATIN1 -/
theorem law (l : Launch) (d : Addr) (B : Cell) : Law l yN 2 2 0 0 yB 2 (some .byte) site (P d B) E [] 0 0 := by
  refine Law.of_walk (plainFor_of_name (by decide +kernel)) (by decide +kernel) (by decide +kernel) (by decide) (fun _ _ h => by rw [h.1]; rfl) (fun _ U U' hal hh h => ⟨h.1, h.2.mv hal hh⟩) (fun r U U' V V' h1 hal h2 h => XT.PureE.mv r U U' V V' h1 hal h2 h) ?_
  intro p e s m args below meth c s₁ X0 hexec hbytes hml hret hlk hnm hown hh0 W hP
  obtain ⟨rfl, hB⟩ := hP
  have hB0 := hB.mv X0.warmed.alike hh0
  have c1 : Steps p.tables e below (s₁.setTop (entryFrame m #[.ref d, .int (Int32.ofNat B.slots.size)] 2)) (s₁.setTop (mkF m 0 #[.val (.ref d), .val (.int (Int32.ofNat B.slots.size))] [])) := entry rfl
  have c2 : Steps p.tables e below (s₁.setTop (entryFrame m #[.ref d, .int (Int32.ofNat B.slots.size)] 2)) (s₁.setTop (mkF m 2 #[.val (.ref d), .val (.int (Int32.ofNat B.slots.size))] [.ref d, .int (Int32.ofNat B.slots.size)])) := c1.trans (by
    refine XS.iloadN X0.here hexec rfl (hb hbytes d0) rfl ?_
    refine XS.aloadN X0.here hexec rfl (hb hbytes d1) rfl rfl ?_
    exact Steps.refl _)
  have c3 : Steps p.tables e below (s₁.setTop (entryFrame m #[.ref d, .int (Int32.ofNat B.slots.size)] 2)) (s₁.setTop (mkF m 8 #[.val (.ref d), .val (.int (Int32.ofNat B.slots.size))] [.int (lo8 (ushr (Int32.ofNat B.slots.size - Int32.ofNat B.slots.size) 31))])) := c2.trans (by
    refine X0.alen hexec hB0 rfl rfl (hb hbytes d2) ?_
    refine XS.isub X0.here hexec rfl (hb hbytes d3) rfl ?_
    refine bipushV X0.here hexec rfl 31 (hb hbytes d4) (by decide) ?_
    refine iushr X0.here hexec rfl (hb hbytes d6) rfl ?_
    refine i2b X0.here hexec rfl (hb hbytes d7) rfl ?_
    exact Steps.refl _)
  have e0 : lo8 (ushr (Int32.ofNat B.slots.size - Int32.ofNat B.slots.size) 31) = 0 := by rw [Int32.sub_self]; decide
  rw [e0] at c3
  exact ⟨s₁, some (.int 0), _, _, _, X0, rfl, rfl, rfl, (fun h => by cases h), ⟨rfl, hh0⟩, fun fs hl => c3.trans (X0.ireturnOut hexec hret rfl (Or.inr (Or.inr (Or.inl rfl))) (hb hbytes d8) hl)⟩
end CodL
/-- the String at a is Latin-1 over a new byte[] (the heap's one new cell): the low bytes of the len chars of A from o on; every cell but a is kept -/
def Got (a : Addr) (D : Cell) (fV fC : Field) (A : Cell) (o len : Nat) (r : Option Value) (s u : State) : Prop := r = none ∧ ∃ D' V : Cell, Blank "java/lang/String" a D' u ∧ Same D D' [fV.slot, fC.slot] ∧ D'.slots[fV.slot]? = some (.ref s.heap.size) ∧ D'.slots[fC.slot]? = some (.int 0) ∧ Arr .byte s.heap.size V u ∧ V.vm = .none ∧ u.vm.findClass "[B" = some V.cls ∧ V.slots.size = len ∧ (∀ j, j < len → V.slots[j]? = some (.int (lo8 (cv A (o + j))))) ∧ (∀ (y : Addr) (c : Cell), y ≠ a → s.heap[y]? = some c → u.heap[y]? = some c) ∧ u.heap.size = s.heap.size + 1
theorem Got.mv {a : Addr} {D A : Cell} {fV fC : Field} {o len : Nat} : ∀ r (U U' V V' : State), U'.heap = U.heap → V.vm.Alike V'.vm → V'.heap = V.heap → Got a D fV fC A o len r U V → Got a D fV fC A o len r U' V' :=
  fun r U U' V V' h1 hal h2 ⟨e0, D', X, a1, a2, a3, a4, a5, a6, a7, a8, a9, a10, a11⟩ => ⟨e0, D', X, a1.mv hal h2, a2, by rw [h1]; exact a3, a4, by rw [h1]; exact a5.mv hal h2, a6, by rw [hal.findClass]; exact a7, a8, a9, by rw [h1, h2]; exact a10, by rw [h1, h2]; exact a11⟩
namespace New4
def yN : MethodName := ⟨"java/lang/String", "<init>", "([CIILjava/lang/Void;)V"⟩
abbrev yB : ByteArray := jdk_42_method_149_code
theorem d0 : decode yB 0 = .ok (.aload_n 0, 1) := by decide +kernel
theorem d1 : decode yB 1 = .ok (.invokespecial 1, 3) := by decide +kernel
theorem d4 : decode yB 4 = .ok (.iload_n 3, 1) := by decide +kernel
theorem d5 : decode yB 5 = .ok (.ifCond (.ne) 22, 3) := by decide +kernel
theorem d27 : decode yB 27 = .ok (.getstatic 38, 3) := by decide +kernel
theorem d30 : decode yB 30 = .ok (.ifCond (.eq) 28, 3) := by decide +kernel
theorem d33 : decode yB 33 = .ok (.aload_n 1, 1) := by decide +kernel
theorem d34 : decode yB 34 = .ok (.iload_n 2, 1) := by decide +kernel
theorem d35 : decode yB 35 = .ok (.iload_n 3, 1) := by decide +kernel
theorem d36 : decode yB 36 = .ok (.invokestatic 177, 3) := by decide +kernel
theorem d39 : decode yB 39 = .ok (.astore 5, 2) := by decide +kernel
theorem d41 : decode yB 41 = .ok (.aload_n 0, 1) := by decide +kernel
theorem d42 : decode yB 42 = .ok (.aload 5, 2) := by decide +kernel
theorem d44 : decode yB 44 = .ok (.iload_n 3, 1) := by decide +kernel
theorem d45 : decode yB 45 = .ok (.invokestatic 47, 3) := by decide +kernel
theorem d48 : decode yB 48 = .ok (.putfield 15, 3) := by decide +kernel
theorem d51 : decode yB 51 = .ok (.aload_n 0, 1) := by decide +kernel
theorem d52 : decode yB 52 = .ok (.aload 5, 2) := by decide +kernel
theorem d54 : decode yB 54 = .ok (.putfield 9, 3) := by decide +kernel
theorem d57 : decode yB 57 = .ok (.return_, 1) := by decide +kernel
def site : List Cond := [.fieldLink "java/lang/String" 38 "java/lang/String" "COMPACT_STRINGS" "Z", Cmp3.tab, CodL.tab, .laysFinal "java/lang/String" "java/lang/String" "value" "[B", .fieldLink "java/lang/String" 9 "java/lang/String" "value" "[B", .laysFinal "java/lang/String" "java/lang/String" "coder" "B", .fieldLink "java/lang/String" 15 "java/lang/String" "coder" "B"] ++ objW "java/lang/String" 1 ++ staticW "java/lang/String" 177 Cmp3.yN ++ staticW "java/lang/String" 47 CodL.yN
def tab : Cond := tabOf yN yB 6 none site
def P (a : Addr) (D : Cell) (fV fC : Field) (b : Addr) (A : Cell) (z : Int32) (o len : Nat) (args : Array Value) (s : State) : Prop := args = #[.ref a, .ref b, .int (Int32.ofNat o), .int (Int32.ofNat len), .null] ∧ Blank "java/lang/String" a D s ∧ Found "java/lang/String" "value" "[B" fV s ∧ Found "java/lang/String" "coder" "B" fC s ∧ Ch b A s ∧ StaticIs s "java/lang/String" "COMPACT_STRINGS" "Z" (.int z) ∧ ¬ z = 0 ∧ 0 < len ∧ o + len ≤ A.slots.size ∧ len ≤ 536870912 ∧ ∀ i, i < len → ¬ 255 < cv A (o + i)
def E (a : Addr) (D : Cell) (fV fC : Field) (A : Cell) (o len : Nat) (r : Option Value) (s u : State) : Prop := Got a D fV fC A o len r s u
/-- len > 0, no char of the range above 255: a Latin-1 String of their low bytes -/
theorem law (l : Launch) (a : Addr) (D : Cell) (fV fC : Field) (b : Addr) (A : Cell) (z : Int32) (o len : Nat) : Law l yN 5 4 2 35 yB 6 none site (P a D fV fC b A z o len) (E a D fV fC A o len) [⟨a, fC.slot⟩, ⟨a, fV.slot⟩] 1 len := by
  refine Law.of_walk (plainFor_of_name (by decide +kernel)) (by decide +kernel) (by decide +kernel) (by decide) (fun _ _ h => by rw [h.1]; rfl) (fun _ U U' hal hh h => ⟨h.1, h.2.1.mv hal hh, h.2.2.1.al hal, h.2.2.2.1.al hal, h.2.2.2.2.1.mv hal hh, h.2.2.2.2.2.1.there hal hh, h.2.2.2.2.2.2⟩) (fun r U U' V V' h1 hal h2 h => Got.mv r U U' V V' h1 hal h2 h) ?_
  intro p e s m args below meth c s₁ X0 hexec hbytes hml hret hlk hnm hown hh0 W hP
  obtain ⟨rfl, hB, f1, f2, hA, s1, hz, l0, l1, l2, hp⟩ := hP
  have a31 := hA.1.2.2.2
  have c1 : Steps p.tables e below (s₁.setTop (entryFrame m #[.ref a, .ref b, .int (Int32.ofNat o), .int (Int32.ofNat len), .null] 6)) (s₁.setTop (mkF m 0 #[.val (.ref a), .val (.ref b), .val (.int (Int32.ofNat o)), .val (.int (Int32.ofNat len)), .val .null, .unset] [])) := entry rfl
  have c2 : Steps p.tables e below (s₁.setTop (entryFrame m #[.ref a, .ref b, .int (Int32.ofNat o), .int (Int32.ofNat len), .null] 6)) (s₁.setTop (mkF m 1 #[.val (.ref a), .val (.ref b), .val (.int (Int32.ofNat o)), .val (.int (Int32.ofNat len)), .val .null, .unset] [.ref a])) := c1.trans (by
    refine XS.aloadN X0.here hexec rfl (hb hbytes d0) rfl rfl ?_
    exact Steps.refl _)
  obtain ⟨T3, X3, q3, st3⟩ := X0.oinit hexec hown (wks W (objW "java/lang/String" 1)) (g := (mkF m 1 #[.val (.ref a), .val (.ref b), .val (.int (Int32.ofNat o)), .val (.int (Int32.ofNat len)), .val .null, .unset] [.ref a])) rfl (by rw [hml]; rfl) (rest := []) rfl (hb hbytes d1) (W := 0) (by show 2 * 0 + 0 ≤ _; decide) (Nat.le_of_ble_eq_true rfl) (Nat.le_of_ble_eq_true rfl)
  have hh3 := q3.trans hh0
  have c4 : Steps p.tables e below (s₁.setTop (entryFrame m #[.ref a, .ref b, .int (Int32.ofNat o), .int (Int32.ofNat len), .null] 6)) (T3.setTop (mkF m 27 #[.val (.ref a), .val (.ref b), .val (.int (Int32.ofNat o)), .val (.int (Int32.ofNat len)), .val .null, .unset] [])) := (c2.trans (st3 _ (Steps.refl _))).trans (by
    refine XS.iloadN X3.here hexec rfl (hb hbytes d4) rfl ?_
    refine XS.ifYes X3.here hexec rfl (pc0 := 5) rfl (hb hbytes d5) rfl (i0_ne_t (nz32 (by omega) l0)) (by decide) rfl ?_
    exact Steps.refl _)
  obtain ⟨T5, X5, q5, st5⟩ := X3.sget hexec hown (wk W (.fieldLink "java/lang/String" 38 "java/lang/String" "COMPACT_STRINGS" "Z")) s1 (fun _ _ h => by rw [hh3]; exact h) (g := (mkF m 27 #[.val (.ref a), .val (.ref b), .val (.int (Int32.ofNat o)), .val (.int (Int32.ofNat len)), .val .null, .unset] [])) rfl (hb hbytes d27)
  have hh5 := q5.trans hh3
  have c6 : Steps p.tables e below (s₁.setTop (entryFrame m #[.ref a, .ref b, .int (Int32.ofNat o), .int (Int32.ofNat len), .null] 6)) (T5.setTop (mkF m 30 #[.val (.ref a), .val (.ref b), .val (.int (Int32.ofNat o)), .val (.int (Int32.ofNat len)), .val .null, .unset] [.int z])) := c4.trans (st5 _ (Steps.refl _))
  have c7 : Steps p.tables e below (s₁.setTop (entryFrame m #[.ref a, .ref b, .int (Int32.ofNat o), .int (Int32.ofNat len), .null] 6)) (T5.setTop (mkF m 36 #[.val (.ref a), .val (.ref b), .val (.int (Int32.ofNat o)), .val (.int (Int32.ofNat len)), .val .null, .unset] [.int (Int32.ofNat len), .int (Int32.ofNat o), .ref b])) := c6.trans (by
    refine XS.ifNo X5.here hexec rfl (hb hbytes d30) rfl (i0_eq_f hz) ?_
    refine XS.aloadN X5.here hexec rfl (hb hbytes d33) rfl rfl ?_
    refine XS.iloadN X5.here hexec rfl (hb hbytes d34) rfl ?_
    refine XS.iloadN X5.here hexec rfl (hb hbytes d35) rfl ?_
    exact Steps.refl _)
  obtain ⟨v8, T8, X8, E8, g8⟩ := X5.callS hexec (Cmp3.law l b A o len) hown (wks W (staticW "java/lang/String" 177 Cmp3.yN)) (wk W Cmp3.tab) (W := 0) (Nat.le_of_ble_eq_true rfl) (Nat.le_of_ble_eq_true rfl) (Nat.le_refl _) (by show 0 + len ≤ len; omega) (g := (mkF m 36 #[.val (.ref a), .val (.ref b), .val (.int (Int32.ofNat o)), .val (.int (Int32.ofNat len)), .val .null, .unset] [.int (Int32.ofNat len), .int (Int32.ofNat o), .ref b])) rfl (by rw [hml]; rfl) c7 (argsL := [.ref b, .int (Int32.ofNat o), .int (Int32.ofNat len)]) (rest := []) rfl rfl (by show 2 * 0 + 0 ≤ _; decide) (hb hbytes d36) (⟨rfl, hA.mv X5.warmed.alike hh5, l1, l2, hp⟩)
  obtain ⟨e8, z8⟩ := E8
  obtain ⟨rfl, N, n1, n2, n3, n4, n5, n6⟩ := NewArr.mv _ T5 s _ _ hh5.symm (Vm.Alike.refl _) rfl e8
  rw [hh5] at z8
  have hB1 := hB.keep X8.warmed.alike (n6 _ _ hB.1)
  have hne : s.heap.size ≠ a := (Nat.ne_of_lt (Array.getElem?_eq_some_iff.mp hB.1).1).symm
  have c9 : Steps p.tables e below (s₁.setTop (entryFrame m #[.ref a, .ref b, .int (Int32.ofNat o), .int (Int32.ofNat len), .null] 6)) (T8.setTop (mkF m 39 #[.val (.ref a), .val (.ref b), .val (.int (Int32.ofNat o)), .val (.int (Int32.ofNat len)), .val .null, .unset] [.ref s.heap.size])) := g8
  have c10 : Steps p.tables e below (s₁.setTop (entryFrame m #[.ref a, .ref b, .int (Int32.ofNat o), .int (Int32.ofNat len), .null] 6)) (T8.setTop (mkF m 45 #[.val (.ref a), .val (.ref b), .val (.int (Int32.ofNat o)), .val (.int (Int32.ofNat len)), .val .null, .val (.ref s.heap.size)] [.int (Int32.ofNat N.slots.size), .ref s.heap.size, .ref a])) := by
    have hc : Steps p.tables e below (s₁.setTop (entryFrame m #[.ref a, .ref b, .int (Int32.ofNat o), .int (Int32.ofNat len), .null] 6)) (T8.setTop (mkF m 45 #[.val (.ref a), .val (.ref b), .val (.int (Int32.ofNat o)), .val (.int (Int32.ofNat len)), .val .null, .val (.ref s.heap.size)] [.int (Int32.ofNat len), .ref s.heap.size, .ref a])) := c9.trans (by
      refine XS.astore X8.here hexec rfl (hb hbytes d39) rfl rfl rfl ?_
      refine XS.aloadN X8.here hexec rfl (hb hbytes d41) rfl rfl ?_
      refine XS.aload X8.here hexec rfl (hb hbytes d42) rfl rfl ?_
      refine XS.iloadN X8.here hexec rfl (hb hbytes d44) rfl ?_
      exact Steps.refl _)
    rw [n4]; exact hc
  obtain ⟨v11, T11, X11, E11, g11⟩ := X8.callS hexec (CodL.law l s.heap.size N) hown (wks W (staticW "java/lang/String" 47 CodL.yN)) (wk W CodL.tab) (W := 1) (Nat.le_of_ble_eq_true rfl) (Nat.le_of_ble_eq_true rfl) (Nat.le_refl _) (by show 0 + len + 0 ≤ len; omega) (g := (mkF m 45 #[.val (.ref a), .val (.ref b), .val (.int (Int32.ofNat o)), .val (.int (Int32.ofNat len)), .val .null, .val (.ref s.heap.size)] [.int (Int32.ofNat N.slots.size), .ref s.heap.size, .ref a])) rfl (by rw [hml]; rfl) c10 (argsL := [.ref s.heap.size, .int (Int32.ofNat N.slots.size)]) (rest := [.ref a]) rfl rfl (by show 2 * 0 + (1 + 0) ≤ _; decide) (hb hbytes d45) (⟨rfl, n1⟩)
  obtain ⟨rfl, q11⟩ := E11
  have hB11 := hB1.mv (X8.warmed.alike.symm.trans X11.warmed.alike) q11
  have c12 : Steps p.tables e below (s₁.setTop (entryFrame m #[.ref a, .ref b, .int (Int32.ofNat o), .int (Int32.ofNat len), .null] 6)) (T11.setTop (mkF m 48 #[.val (.ref a), .val (.ref b), .val (.int (Int32.ofNat o)), .val (.int (Int32.ofNat len)), .val .null, .val (.ref s.heap.size)] [.int 0, .ref a])) := g11
  obtain ⟨T13, X13, p13, bl13, sl13, st13⟩ := X11.finit hexec hown (wk W (.fieldLink "java/lang/String" 15 "java/lang/String" "coder" "B")) (Or.inr ⟨_, (wk W (.laysFinal "java/lang/String" "java/lang/String" "coder" "B"))⟩) (Or.inl ⟨rfl, hnm⟩) f2 (Or.inl rfl) hB11 (t := .byte) (by decide +kernel) rfl (g := (mkF m 48 #[.val (.ref a), .val (.ref b), .val (.int (Int32.ofNat o)), .val (.int (Int32.ofNat len)), .val .null, .val (.ref s.heap.size)] [.int 0, .ref a])) rfl (rest := []) rfl (hb hbytes d48)
  have c14 : Steps p.tables e below (s₁.setTop (entryFrame m #[.ref a, .ref b, .int (Int32.ofNat o), .int (Int32.ofNat len), .null] 6)) (T13.setTop (mkF m 54 #[.val (.ref a), .val (.ref b), .val (.int (Int32.ofNat o)), .val (.int (Int32.ofNat len)), .val .null, .val (.ref s.heap.size)] [.ref s.heap.size, .ref a])) := (c12.trans (st13 _ (Steps.refl _))).trans (by
    refine XS.aloadN X13.here hexec rfl (hb hbytes d51) rfl rfl ?_
    refine XS.aload X13.here hexec rfl (hb hbytes d52) rfl rfl ?_
    exact Steps.refl _)
  obtain ⟨T15, X15, p15, bl15, sl15, st15⟩ := X13.finit hexec hown (wk W (.fieldLink "java/lang/String" 9 "java/lang/String" "value" "[B")) (Or.inr ⟨_, (wk W (.laysFinal "java/lang/String" "java/lang/String" "value" "[B"))⟩) (Or.inl ⟨rfl, hnm⟩) f1 (Or.inl rfl) bl13 (t := (.array .byte)) (by decide +kernel) rfl (g := (mkF m 54 #[.val (.ref a), .val (.ref b), .val (.int (Int32.ofNat o)), .val (.int (Int32.ofNat len)), .val .null, .val (.ref s.heap.size)] [.ref s.heap.size, .ref a])) rfl (rest := []) rfl (hb hbytes d54)
  have c16 : Steps p.tables e below (s₁.setTop (entryFrame m #[.ref a, .ref b, .int (Int32.ofNat o), .int (Int32.ofNat len), .null] 6)) (T15.setTop (mkF m 57 #[.val (.ref a), .val (.ref b), .val (.int (Int32.ofNat o)), .val (.int (Int32.ofNat len)), .val .null, .val (.ref s.heap.size)] [])) := c14.trans (st15 _ (Steps.refl _))
  have ap := apart (Or.inr ⟨_, (wk W (.laysFinal "java/lang/String" "java/lang/String" "value" "[B"))⟩) (Or.inr ⟨_, (wk W (.laysFinal "java/lang/String" "java/lang/String" "coder" "B"))⟩) f1 f2 (t₁ := .array .byte) (t₂ := .byte) (by decide +kernel) (by decide +kernel) (by decide)
  have al := X8.warmed.alike.symm.trans X15.warmed.alike
  have n7 : T11.heap[s.heap.size]? = some N := by rw [q11]; exact n1.1
  exact ⟨T15, none, _, _, _, X15, by simp, rfl, by omega, (fun _ => rfl), ⟨rfl, _, N, bl15, ((Same.refl D _).set _ (by simp)).set _ (by simp), sl15, (Cell.slots_setSlot_ne _ ap).trans sl13, n1.keep al (p15.other hne (p13.other hne n7)), n2, by rw [al.findClass]; exact n3, n4, n5, fun y c h1 h2 => p15.other h1 (p13.other h1 (by rw [q11]; exact n6 y c h2)), by rw [p15.2.2, p13.2.2, q11]; exact z8⟩, fun fs hl => c16.trans (X15.returnOut hexec hret (hb hbytes d57) hl)⟩
end New4
namespace New1
def yN : MethodName := ⟨"java/lang/String", "<init>", "([C)V"⟩
abbrev yB : ByteArray := jdk_42_method_3_code
theorem d0 : decode yB 0 = .ok (.aload_n 0, 1) := by decide +kernel
theorem d1 : decode yB 1 = .ok (.aload_n 1, 1) := by decide +kernel
theorem d2 : decode yB 2 = .ok (.iconst 0, 1) := by decide +kernel
theorem d3 : decode yB 3 = .ok (.aload_n 1, 1) := by decide +kernel
theorem d4 : decode yB 4 = .ok (.arraylength, 1) := by decide +kernel
theorem d5 : decode yB 5 = .ok (.aconst_null, 1) := by decide +kernel
theorem d6 : decode yB 6 = .ok (.invokespecial 27, 3) := by decide +kernel
theorem d9 : decode yB 9 = .ok (.return_, 1) := by decide +kernel
def site : List Cond := [New4.tab] ++ initW "java/lang/String" 27 New4.yN
def tab : Cond := tabOf yN yB 2 none site
def P (a : Addr) (D : Cell) (fV fC : Field) (b : Addr) (A : Cell) (z : Int32) (args : Array Value) (s : State) : Prop := args = #[.ref a, .ref b] ∧ Blank "java/lang/String" a D s ∧ Found "java/lang/String" "value" "[B" fV s ∧ Found "java/lang/String" "coder" "B" fC s ∧ Ch b A s ∧ StaticIs s "java/lang/String" "COMPACT_STRINGS" "Z" (.int z) ∧ ¬ z = 0 ∧ 0 < A.slots.size ∧ A.slots.size ≤ 536870912 ∧ ∀ i, i < A.slots.size → ¬ 255 < cv A i
def E (a : Addr) (D : Cell) (fV fC : Field) (A : Cell) (r : Option Value) (s u : State) : Prop := Got a D fV fC A 0 A.slots.size r s u
/-- new String(chars), not empty, no char above 255: a Latin-1 String of their low bytes -/
theorem law (l : Launch) (a : Addr) (D : Cell) (fV fC : Field) (b : Addr) (A : Cell) (z : Int32) : Law l yN 2 1 3 52 yB 2 none site (P a D fV fC b A z) (E a D fV fC A) [⟨a, fC.slot⟩, ⟨a, fV.slot⟩] 1 A.slots.size := by
  refine Law.of_walk (plainFor_of_name (by decide +kernel)) (by decide +kernel) (by decide +kernel) (by decide) (fun _ _ h => by rw [h.1]; rfl) (fun _ U U' hal hh h => ⟨h.1, h.2.1.mv hal hh, h.2.2.1.al hal, h.2.2.2.1.al hal, h.2.2.2.2.1.mv hal hh, h.2.2.2.2.2.1.there hal hh, h.2.2.2.2.2.2⟩) (fun r U U' V V' h1 hal h2 h => Got.mv r U U' V V' h1 hal h2 h) ?_
  intro p e s m args below meth c s₁ X0 hexec hbytes hml hret hlk hnm hown hh0 W hP
  obtain ⟨rfl, hB, f1, f2, hA, s1, hz, l0, l2, hp⟩ := hP
  have c1 : Steps p.tables e below (s₁.setTop (entryFrame m #[.ref a, .ref b] 2)) (s₁.setTop (mkF m 0 #[.val (.ref a), .val (.ref b)] [])) := entry rfl
  have c2 : Steps p.tables e below (s₁.setTop (entryFrame m #[.ref a, .ref b] 2)) (s₁.setTop (mkF m 6 #[.val (.ref a), .val (.ref b)] [.null, .int (Int32.ofNat A.slots.size), .int 0, .ref b, .ref a])) := c1.trans (by
    refine XS.aloadN X0.here hexec rfl (hb hbytes d0) rfl rfl ?_
    refine XS.aloadN X0.here hexec rfl (hb hbytes d1) rfl rfl ?_
    refine iconstV X0.here hexec rfl 0 (hb hbytes d2) (by decide) ?_
    refine XS.aloadN X0.here hexec rfl (hb hbytes d3) rfl rfl ?_
    refine X0.alen hexec (hA.1.mv X0.warmed.alike hh0) rfl rfl (hb hbytes d4) ?_
    refine XS.aconstNull X0.here hexec rfl (hb hbytes d5) ?_
    exact Steps.refl _)
  obtain ⟨v3, T3, X3, E3, g3⟩ := X0.callN hexec (New4.law l a D fV fC b A z 0 A.slots.size) rfl hown (wks W (initW "java/lang/String" 27 New4.yN)) (W New4.tab (by simp only [site, List.mem_cons, List.mem_append, true_or, or_true])) (W := 0) (Nat.le_of_ble_eq_true rfl) (Nat.le_of_ble_eq_true rfl) (Nat.le_refl _) (by show 0 + A.slots.size ≤ A.slots.size; omega) (g := (mkF m 6 #[.val (.ref a), .val (.ref b)] [.null, .int (Int32.ofNat A.slots.size), .int (Int32.ofNat 0), .ref b, .ref a])) rfl (by rw [hml]; rfl) c2 (argsL := [.ref b, .int (Int32.ofNat 0), .int (Int32.ofNat A.slots.size), .null]) (rest := []) rfl rfl (by show 2 * 0 + 0 ≤ _; decide) (hb hbytes d6) (⟨rfl, hB.mv X0.warmed.alike hh0, f1.al X0.warmed.alike, f2.al X0.warmed.alike, hA.mv X0.warmed.alike hh0, s1.there X0.warmed.alike hh0, hz, l0, by omega, l2, fun i hi => by rw [Nat.zero_add]; exact hp i hi⟩)
  have e0 := Got.mv _ s₁ s _ _ hh0.symm (Vm.Alike.refl _) rfl E3
  obtain rfl := e0.1
  have c4 : Steps p.tables e below (s₁.setTop (entryFrame m #[.ref a, .ref b] 2)) (T3.setTop (mkF m 9 #[.val (.ref a), .val (.ref b)] [])) := g3
  exact ⟨T3, none, _, _, _, X3, by simp, rfl, by omega, (fun _ => rfl), e0, fun fs hl => c4.trans (X3.returnOut hexec hret (hb hbytes d9) hl)⟩
theorem pays {l : Launch} {R : Room} {p : Program} {e : Env} {below : List Frame} {s : State} {sargs : Array Value} {len W : Nat} (a : Addr) (D : Cell) (fV fC : Field) (b : Addr) (A : Cell) (z : Int32) (htab : tab.before sargs s = true) (hfr : 4 ≤ R.frames) (hlo : W + 65 ≤ R.locals) :
    Back l R p e below s sargs yN len W (fun A₁ a₁ => A₁.cells + 1 ≤ R.cells ∧ A₁.slots + A.slots.size ≤ R.slots ∧ P a D fV fC b A z a₁ A₁.U) (fun A₁ _ v₁ B₁ => E a D fV fC A v₁ A₁.U B₁.U ∧ B₁.locs = A₁.locs ++ [⟨a, fC.slot⟩, ⟨a, fV.slot⟩] ∧ B₁.cells = A₁.cells + 1 ∧ B₁.slots = A₁.slots + A.slots.size) :=
  (law l a D fV fC b A z).pays htab hfr (by omega)
end New1
/-- the byte, read back as charAt reads it, is the char -/
theorem lo8_mask {x : Int32} (h0 : ¬ x < 0) (h1 : ¬ 255 < x) : lo8 x &&& 255 = x := by
  have t : ∀ k : Fin 256, lo8 (Int32.ofNat k.val) &&& 255 = Int32.ofNat k.val := by decide +kernel
  rw [Int32.lt_iff_toInt_lt] at h0 h1
  have e0 : (0 : Int32).toInt = 0 := rfl
  have e1 : (255 : Int32).toInt = 255 := rfl
  obtain ⟨k, hk⟩ : ∃ k : Nat, x.toInt = k := ⟨x.toInt.toNat, by omega⟩
  have hx : x = Int32.ofNat k := Int32.toInt_inj.mp (by rw [hk, Int32.toInt_ofNat_small (by omega)])
  rw [hx]
  exact t ⟨k, by omega⟩
end StrChars
namespace StrChars.Road
open Jvm Sem ClassFile Op Lib Jvm.Stand Jvm.Free Jvm.Free.XT
open Jvm.Lib.Cold (StaticIs)
abbrev ST : String := "java/lang/String"
/-- every table word that New1's law asks, flat -/
abbrev words : List Jvm.Cond := [.code New1.yN New1.yB 2 none, .initialized ST, .methodLink ST 27 New4.yN, .instanceMethod New4.yN,
  .code New4.yN New4.yB 6 none, .fieldLink ST 38 ST "COMPACT_STRINGS" "Z", .laysFinal ST ST "value" "[B", .fieldLink ST 9 ST "value" "[B", .laysFinal ST ST "coder" "B", .fieldLink ST 15 ST "coder" "B",
  .methodLink ST 1 Lib.objectInit, .instanceMethod Lib.objectInit, .code Lib.objectInit ⟨#[0xb1]⟩ 1 none, .methodLink ST 177 Cmp3.yN, .static Cmp3.yN, .methodLink ST 47 CodL.yN, .static CodL.yN,
  .code Cmp3.yN Cmp3.yB 6 (some (.array .byte)), .initialized U16, .arrayClass .byte, .methodLink U16 115 Cmp5.yN, .static Cmp5.yN, .code Cmp5.yN Cmp5.yB 7 (some .int), .code CodL.yN CodL.yB 2 (some .byte)]
theorem tab_of {a : Array Value} {s : State} (h : ∀ w ∈ words, w.before a s = true) : New1.tab.before a s = true := by
  have h5 : Cmp5.tab.before a s = true := unparts (wk h (.code Cmp5.yN Cmp5.yB 7 (some .int))) (wks h (.initialized Cmp5.yN.cls :: Cmp5.site))
  have hc : CodL.tab.before a s = true := unparts (wk h (.code CodL.yN CodL.yB 2 (some .byte))) (wks h (.initialized CodL.yN.cls :: CodL.site))
  have q5 : ∀ w ∈ Cmp5.tab :: words, w.before a s = true := fun w hw => (List.mem_cons.mp hw).elim (fun e => e ▸ h5) (h w)
  have h3 : Cmp3.tab.before a s = true := unparts (wk q5 (.code Cmp3.yN Cmp3.yB 6 (some (.array .byte)))) (wks q5 (.initialized Cmp3.yN.cls :: Cmp3.site))
  have q3 : ∀ w ∈ Cmp3.tab :: CodL.tab :: words, w.before a s = true := fun w hw => (List.mem_cons.mp hw).elim (fun e => e ▸ h3) fun hw => (List.mem_cons.mp hw).elim (fun e => e ▸ hc) (h w)
  have h4 : New4.tab.before a s = true := unparts (wk q3 (.code New4.yN New4.yB 6 none)) (wks q3 (.initialized New4.yN.cls :: New4.site))
  have q4 : ∀ w ∈ New4.tab :: words, w.before a s = true := fun w hw => (List.mem_cons.mp hw).elim (fun e => e ▸ h4) (h w)
  exact unparts (wk q4 (.code New1.yN New1.yB 2 none)) (wks q4 (.initialized New1.yN.cls :: New1.site))
/-- the words ride from the start Z to the walk's own state -/
theorem moved {Z s : State} {a0 args : Array Value} (hZ : Z.Warmed39 s.vm) (hw : ∀ d ∈ words, d.before a0 Z = true) : ∀ d ∈ words, d.before args s = true := fun d hd => by
  have q := hw d hd
  have t : ∀ d ∈ words, d = .arrayClass .byte ∨ (d.onTables && d.keepsFace) = true := by decide +kernel
  rcases t d hd with rfl | t
  · exact RoadKit.mvA hZ q
  · exact RoadKit.mv hZ q t
/-- WHAT COMES BACK, over the tables of the start Z: h the heap at the call, h' behind it -/
def Q (Z : State) (x : Addr) (A : Cell) (h : Heap) (v : Option Value) (h' : Heap) (L : List Loc) : Prop := v = none ∧ (∀ y ∈ L, y.base = x) ∧ RoadKit.Keep h h' [x] ∧ h'.size = h.size + 1 ∧ RoadKit.Exa Z h' x ST ∧ RoadKit.Fld Z h' x ST "value" "[B" (.ref h.size) ∧ RoadKit.Fld Z h' x ST "coder" "B" (.int 0) ∧
  (∃ V : Cell, RoadKit.Arr Z h' h.size V .byte ∧ V.vm = .none ∧ Z.vm.findClass "[B" = some V.cls ∧ V.slots.size = A.slots.size ∧ ∀ j, j < A.slots.size → V.slots[j]? = some (.int (lo8 (cv A j)))) ∧
  ∀ (O n d : String) (w : Value), RoadKit.Fld Z h x O n d w → RoadKit.slotOf Z O n d ≠ RoadKit.slotOf Z ST "value" "[B" → RoadKit.slotOf Z O n d ≠ RoadKit.slotOf Z ST "coder" "B" → RoadKit.Fld Z h' x O n d w
/-- **new String(chars) AT A CALL, IN THE ROAD'S FORM**: for specialBack behind newO: x the fresh String, b the char[] with the cell A -/
theorem back {p : Program} {l : Launch} {e : Env} {R : Room} {s : State} {args : Array Value} {below : List Frame} {len W : Nat} {Z : State} {a0 : Array Value} {h : Heap} (hZ : Z.Warmed39 s.vm) (hw : ∀ d ∈ words, d.before a0 Z = true) {kI : Nat} (wi : (Jvm.Cond.instantiable ST kI).before a0 Z = true)
    {x b : Addr} {A : Cell} {z : Int32} {v0 c0 : Value} (E : RoadKit.Exa Z h x ST) (V : RoadKit.Fld Z h x ST "value" "[B" v0) (C : RoadKit.Fld Z h x ST "coder" "B" c0) (K : RoadKit.Arr Z h b A .char) (hty : Typed .char A) (S : RoadKit.Sta Z h ST "COMPACT_STRINGS" "Z" (.int z)) (hz : ¬ z = 0)
    (l0 : 0 < A.slots.size) (l2 : A.slots.size ≤ 536870912) (hp : ∀ i, i < A.slots.size → ¬ 255 < cv A i) (hfr : 4 ≤ R.frames) (hlo : W + 65 ≤ R.locals) :
    Back l R p e below s args New1.yN len W (fun P a => a = #[.ref x, .ref b] ∧ P.U.heap = h ∧ P.cells + 1 ≤ R.cells ∧ P.slots + A.slots.size ≤ R.slots)
      (fun P _ v B => ∃ L, Q Z x A h v B.U.heap L ∧ B.locs = P.locs ++ L ∧ B.cells = P.cells + 1 ∧ B.slots = P.slots + A.slots.size) := by
  intro m meth c P g ig mk a X hg hsize hdg hW hn hp'
  obtain ⟨rfl, rfl, r1, r2⟩ := hp'
  have al : Z.vm.Alike P.U.vm := hZ.alike.trans X.warmed.alike
  obtain ⟨D, cfV, kV, iV, fV, hD, gV, stV, knV, obV, asV, slV⟩ := id V
  obtain ⟨D', cfC, kC, iC, fC, hD', gC, stC, -, -, asC, slC⟩ := id C
  cases hD.symm.trans hD'
  obtain ⟨D2, kD, e1, e2, e3, e4, e5⟩ := id E
  cases hD.symm.trans e1
  obtain ⟨c2, k2, i1, i2, i3, -⟩ := Cond.instantiable_spec wi
  cases e2.symm.trans i1
  cases e3.symm.trans i2
  obtain ⟨kU, u1, u2⟩ := al.2.2 _ _ e3
  have hB : Blank ST x D P.U := ⟨hD, ⟨knV, fun q hq => by rw [hq] at obV; cases obV⟩, by rw [al.findClass]; exact e2, kU, u1, by rw [u2]; exact i3, by rw [u2]; exact e5 i3⟩
  have F1 : Found ST "value" "[B" fV P.U := ⟨SBG.found_only al ⟨cfV, kV, iV, gV⟩, stV⟩
  have F2 : Found ST "coder" "B" fC P.U := ⟨SBG.found_only al ⟨cfC, kC, iC, gC⟩, stC⟩
  have hA : Ch b A P.U := ⟨⟨K.1, State.isArrayOf_alike al K.2.1, K.2.2, by omega⟩, hty⟩
  have hS : StaticIs P.U ST "COMPACT_STRINGS" "Z" (.int z) := by
    obtain ⟨cfS, iS, kS, fS, st, cS, t1, t2, t3, t4, t5, t6, t7⟩ := S
    exact StaticIs.there (s := { Z with heap := P.U.heap }) ⟨cfS, iS, kS, fS, st, cS, t1, t2, t3, t4, t5, (fun q => by rw [q] at t6; cases t6), t7⟩ al rfl
  obtain ⟨v, B, X', ⟨⟨hv, E', V', q1, q2, q3, q4, q5, q6, q7, q8, q9, q10, q11⟩, hl, hc, hs⟩, st⟩ := New1.pays x D fV fC b A z (tab_of (moved hZ hw)) hfr hlo m meth c P g ig mk _ X hg hsize hdg hW hn ⟨r1, r2, rfl, hB, F1, F2, hA, hS, hz, l0, l2, hp⟩
  have al' : Z.vm.Alike B.U.vm := hZ.alike.trans X'.warmed.alike
  have hsz : E'.slots.size = D.slots.size := by
    obtain ⟨-, -, -, kB, w1, w2, w3⟩ := q1
    obtain ⟨kB', y1, y2⟩ := al'.2.2 _ _ e3
    rw [q2.2.1] at w1
    cases w1.symm.trans y1
    rw [w3, e5 i3, y2]
  refine ⟨v, B, X', ⟨_, ⟨hv, ?_, ⟨by omega, fun y cy hy hn' => q10 y cy (by simpa using hn') hy, fun y cy hy => ?_⟩, q11, ⟨E', _, q1.1, by rw [q2.2.1]; exact e2, by rw [q2.2.1]; exact e3, by rw [q2.1]; exact obV, fun _ => by rw [hsz]; exact e5 i3⟩,
    ⟨E', cfV, kV, iV, fV, q1.1, gV, stV, by rw [q2.1]; exact knV, by rw [q2.1]; exact obV, by rw [q2.2.1]; exact asV, q3⟩, ⟨E', cfC, kC, iC, fC, q1.1, gC, stC, by rw [q2.1]; exact knV, by rw [q2.1]; exact obV, by rw [q2.2.1]; exact asC, q4⟩,
    ⟨V', ⟨q5.1, State.isArrayOf_alike al'.symm q5.2.1, q5.2.2.1⟩, q6, by rw [← al'.findClass]; exact q7, q8, fun j hj => by have := q9 j hj; rwa [Nat.zero_add] at this⟩, fun O n d w F n1 n2 => ?_⟩, hl, hc, hs⟩, st⟩
  · intro y hy
    simp only [List.mem_cons, List.not_mem_nil, or_false] at hy
    rcases hy with rfl | rfl <;> rfl
  · by_cases q : y = x
    · subst q
      cases hD.symm.trans hy
      exact ⟨E', q1.1, q2.2.1, q2.1, hsz⟩
    · exact ⟨cy, q10 y cy q hy, rfl, rfl, rfl⟩
  · obtain ⟨D3, cf, k, i, f, g1, g2, g3, g4, g5, g6, g7⟩ := F
    cases hD.symm.trans g1
    simp only [RoadKit.slotOf, g2, gV, gC, Option.map_some, Option.getD_some] at n1 n2
    exact ⟨E', cf, k, i, f, q1.1, g2, g3, by rw [q2.1]; exact g4, by rw [q2.1]; exact g5, by rw [q2.2.1]; exact g6, by rw [q2.2.2 f.slot (by simp [n1, n2])]; exact g7⟩
end StrChars.Road
namespace StrChars.Road
open Jvm Sem ClassFile Op Lib Jvm.Stand Jvm.Free Jvm.Free.XT
/-- WHAT COMES BACK, the byte[] as a list of values -/
def QA (Z : State) (x : Addr) (zn : Int32) (cs : List Int32) (h : Heap) (v : Option Value) (h' : Heap) (L : List Loc) : Prop := v = none ∧ (∀ y ∈ L, y.base = x) ∧ RoadKit.Keep h h' [x] ∧ h'.size = h.size + 1 ∧ RoadKit.Exa Z h' x ST ∧ RoadKit.Fld Z h' x ST "value" "[B" (.ref h.size) ∧ RoadKit.Fld Z h' x ST "coder" "B" (.int 0) ∧
  (∃ kb, Z.vm.findClass "[B" = some kb ∧ RoadKit.Arv Z h' h.size kb .byte zn (cs.map fun c => .int (lo8 c)) (.int 0)) ∧
  ∀ (O n d : String) (w : Value), RoadKit.Fld Z h x O n d w → RoadKit.slotOf Z O n d ≠ RoadKit.slotOf Z ST "value" "[B" → RoadKit.slotOf Z O n d ≠ RoadKit.slotOf Z ST "coder" "B" → RoadKit.Fld Z h' x O n d w
/-- **new String(chars) AT A CALL, THE ARRAYS AS LISTS**: the char[] at b holds cs, not empty, no char above 255 -/
theorem backArv {p : Program} {l : Launch} {e : Env} {R : Room} {s : State} {args : Array Value} {below : List Frame} {len W : Nat} {Z : State} {a0 : Array Value} {h : Heap} (hZ : Z.Warmed39 s.vm) (hw : ∀ d ∈ words, d.before a0 Z = true) {kI : Nat} (wi : (Jvm.Cond.instantiable ST kI).before a0 Z = true)
    {x b : Addr} {k : ClassId} {zn z : Int32} {cs : List Int32} {dv v0 c0 : Value} (E : RoadKit.Exa Z h x ST) (V : RoadKit.Fld Z h x ST "value" "[B" v0) (C : RoadKit.Fld Z h x ST "coder" "B" c0) (K : RoadKit.Arv Z h b k .char zn (cs.map Value.int) dv) (S : RoadKit.Sta Z h ST "COMPACT_STRINGS" "Z" (.int z)) (hz : ¬ z = 0)
    (hlen : zn.toNatClampNeg = cs.length) (h0 : 0 < cs.length) (hbig : cs.length ≤ 536870912) (hall : ∀ c ∈ cs, ¬ 255 < c) (hfr : 4 ≤ R.frames) (hlo : W + 65 ≤ R.locals) :
    Back l R p e below s args New1.yN len W (fun P a => a = #[.ref x, .ref b] ∧ P.U.heap = h ∧ P.cells + 1 ≤ R.cells ∧ P.slots + cs.length ≤ R.slots)
      (fun P _ v B => ∃ L, QA Z x zn cs h v B.U.heap L ∧ B.locs = P.locs ++ L ∧ B.cells = P.cells + 1 ∧ B.slots = P.slots + cs.length) := by
  obtain ⟨A, K1, K2, K3, K4, K5, K6⟩ := K
  have e : A.slots.size = cs.length := K3.trans hlen
  have hat : ∀ (i : Nat) (hi : i < cs.length), A.slots[i]? = some (.int cs[i]) := fun i hi => by rw [K5 i (by omega)]; simp [List.getD_eq_getElem?_getD, hi]
  have hcv : ∀ (i : Nat) (hi : i < cs.length), cv A i = cs[i] := fun i hi => by unfold cv; rw [hat i hi]
  have hty : Typed .char A := fun i v hv => by
    have hi : i < A.slots.size := (Array.getElem?_eq_some_iff.mp hv).1
    have q := K5 i hi
    rw [hv] at q
    rw [Option.some.inj q]
    exact K6 i hi
  refine Back.mono (back hZ hw wi E V C K1 hty S hz (by omega) (by omega) (fun i hi => by rw [hcv i (by omega)]; exact hall _ (List.getElem_mem _)) hfr hlo) (fun P a hp => ⟨hp.1, hp.2.1, hp.2.2.1, by rw [e]; exact hp.2.2.2⟩) (fun P a v B hp hq => ?_)
  obtain ⟨L, ⟨q1, q2, q3, q4, q5, q6, q7, ⟨V', v1, v2, v3, v4, v5⟩, q9⟩, hl, hc, hs⟩ := hq
  refine ⟨L, ⟨q1, q2, q3, q4, q5, q6, q7, ⟨V'.cls, v3, V', v1, rfl, by rw [v4, e, hlen], K4, fun i hi => ?_, fun i hi => ?_⟩, q9⟩, hl, hc, by rw [hs, e]⟩
  · have hi' : i < cs.length := by omega
    rw [v5 i (by omega), hcv i hi']; simp [List.getD_eq_getElem?_getD, hi']
  · have hi' : i < cs.length := by omega
    simp only [List.getD_eq_getElem?_getD, List.getElem?_map, List.getElem?_eq_getElem hi', Option.map_some, Option.getD_some]
    exact fits_lo8 _
end StrChars.Road
namespace StrChars.Road
open Jvm Sem ClassFile Op Lib Jvm.Stand Jvm.Free Jvm.Free.XT
/-- WHAT COMES BACK, in the writer's own shape -/
def QV (Z : State) (x : Addr) (N : Int32) (bs : List Int32) (h : Heap) (n0 : Nat) (v : Option Value) (h' : Heap) (L : List Loc) : Prop := v = none ∧ RoadKit.Fr n0 L ∧ RoadKit.Keep h h' [x] ∧ RoadKit.Exa Z h' x ST ∧ RoadKit.Fld Z h' x ST "coder" "B" (.int 0) ∧
  ∃ (t : Addr) (kb : ClassId), n0 ≤ t ∧ h.size ≤ t ∧ ¬ t = x ∧ RoadKit.Fld Z h' x ST "value" "[B" (.ref t) ∧ RoadKit.Arv Z h' t kb .byte N (bs.map Value.int) (.int 0)
/-- **new String(chars) AT A CALL, FOR THE WRITER**: a char[] of n known ints, each 0 to 255 -/
theorem backV {p : Program} {l : Launch} {e : Env} {R : Room} {s : State} {args : Array Value} {below : List Frame} {len W : Nat} {Z : State} {a0 : Array Value} {h : Heap} (hZ : Z.Warmed39 s.vm) (hw : ∀ d ∈ words, d.before a0 Z = true) {kI : Nat} (wi : (Jvm.Cond.instantiable ST kI).before a0 Z = true)
    {x b : Addr} {kC : ClassId} {cs bs : List Int32} {d v0 c0 : Value} {z N : Int32} {n n0 : Nat} (hx0 : n0 ≤ x) (hh0 : n0 ≤ h.size) (E : RoadKit.Exa Z h x ST) (V : RoadKit.Fld Z h x ST "value" "[B" v0) (C : RoadKit.Fld Z h x ST "coder" "B" c0) (K : RoadKit.Arv Z h b kC .char N (cs.map Value.int) d) (S : RoadKit.Sta Z h ST "COMPACT_STRINGS" "Z" (.int z)) (hz : ¬ z = 0)
    (hn : cs.length = n) (hN : N = Int32.ofNat n) (l0 : 0 < n) (l2 : n ≤ 4000) (hp : ∀ c ∈ cs, ¬ c < 0 ∧ ¬ (255 : Int32) < c) (hb : bs = cs.map (fun c => c.toInt8.toInt32)) (hfr : 4 ≤ R.frames) (hlo : W + 65 ≤ R.locals) :
    Back l R p e below s args (⟨"java/lang/String", "<init>", "([C)V"⟩ : MethodName) len W (fun P a => a = #[.ref x, .ref b] ∧ P.U.heap = h ∧ P.cells + 1 ≤ R.cells ∧ P.slots + n ≤ R.slots)
      (fun P _ v B => ∃ L, QV Z x N bs h n0 v B.U.heap L ∧ B.locs = P.locs ++ L ∧ B.cells = P.cells + 1 ∧ B.slots = P.slots + n) := by
  subst hn hN hb
  refine Back.mono (backArv hZ hw wi E V C K S hz (n32 (by omega)) l0 (by omega) (fun c hc => (hp c hc).2) hfr hlo) (fun P a hp => hp) (fun P a v B hp hq => ?_)
  obtain ⟨L, ⟨q1, q2, q3, q4, q5, q6, q7, ⟨kb, v1, v2⟩, q9⟩, hl, hc, hs⟩ := hq
  exact ⟨L, ⟨q1, fun y hy => by rw [q2 y hy]; exact hx0, q3, q5, q7, h.size, kb, hh0, Nat.le_refl _, Nat.ne_of_gt E.lt, q6, by rw [List.map_map]; exact v2⟩, hl, hc, hs⟩
end StrChars.Road
namespace StrChars
open Jvm Sem ClassFile Op Lib Jvm.Stand Jvm.Free.XT Jvm.Free.ALB Jvm.Free.JM Jvm.Free
open Jvm.Lib.Cold (StaticIs)
def hi8 (x : Int32) : Int32 := lo8 (x >>> ((8 : Int32) &&& 31))
/-- what StringUTF16.getChar makes of two bytes -/
def pairCh (u v : Int32) : Int32 := (((u &&& 255) <<< ((0 : Int32) &&& 31)) ||| ((v &&& 255) <<< ((8 : Int32) &&& 31))).toUInt32.toUInt16.toUInt32.toInt32
theorem shr0 (c : Int32) : c >>> ((0 : Int32) &&& 31) = c := by
  have e : ((0 : Int32) &&& 31) = 0 := by decide
  rw [e]
  apply Int32.toBitVec_inj.mp
  rw [Int32.toBitVec_shiftRight]
  have e1 : ((0 : Int32).toBitVec.smod 32) = 0#32 := by decide
  rw [e1, BitVec.sshiftRight_eq']
  exact BitVec.sshiftRight_zero
theorem lo8_and (x : Int32) : (lo8 x &&& 255).toBitVec.toNat = x.toBitVec.toNat % 256 := by
  have h : (lo8 x).toBitVec = (x.toBitVec.signExtend 8).signExtend 32 := by rw [lo8, Int8.toBitVec_toInt32, Int32.toBitVec_toInt8]
  rw [Int32.toBitVec_and, BitVec.toNat_and, h]
  have e : ((x.toBitVec.signExtend 8).signExtend 32).toNat % 256 = x.toBitVec.toNat % 256 := by
    rw [BitVec.toNat_signExtend]
    have hlt := x.toBitVec.isLt
    simp only [BitVec.toNat_setWidth, BitVec.toNat_signExtend]
    split <;> split <;> omega
  rw [← e]
  exact Nat.and_two_pow_sub_one_eq_mod _ 8
theorem pair_says {c : Int32} (h0 : ¬ c < 0) (h1 : ¬ 65535 < c) : pairCh (lo8 c) (hi8 c) = c := by
  rw [Int32.lt_iff_toInt_lt] at h0 h1
  have e0 : (0 : Int32).toInt = 0 := rfl
  have e1 : (65535 : Int32).toInt = 65535 := rfl
  have hc : c.toInt = c.toBitVec.toNat := by
    have := c.toBitVec.isLt
    have e : c.toInt = c.toBitVec.toInt := rfl
    rw [e] at h0 h1
    rw [e]
    rw [BitVec.toInt_eq_toNat_cond] at h0 h1 ⊢
    split at h0 <;> split <;> omega
  have hn : c.toBitVec.toNat < 65536 := by omega
  have a1 := lo8_and c
  have a2 : (hi8 c &&& 255).toBitVec.toNat = c.toBitVec.toNat / 256 := by
    rw [hi8, lo8_and]
    have e : ((8 : Int32) &&& 31) = 8 := by decide
    rw [e, Int32.toBitVec_shiftRight]
    have e2 : ((8 : Int32).toBitVec.smod 32) = 8#32 := by decide
    rw [e2, BitVec.sshiftRight_eq', BitVec.toNat_sshiftRight_of_msb_false (by rw [BitVec.msb_eq_false_iff_two_mul_lt]; omega)]
    show c.toBitVec.toNat >>> 8 % 256 = _
    rw [Nat.shiftRight_eq_div_pow]
    omega
  unfold pairCh
  apply Int32.toBitVec_inj.mp
  apply BitVec.eq_of_toNat_eq
  have f0 : ((0 : Int32) &&& 31) = 0 := by decide
  have f8 : ((8 : Int32) &&& 31) = 8 := by decide
  rw [f0, f8]
  have g : (((lo8 c &&& 255) <<< (0 : Int32)) ||| ((hi8 c &&& 255) <<< (8 : Int32))).toBitVec.toNat = c.toBitVec.toNat := by
    rw [Int32.toBitVec_or, Int32.toBitVec_shiftLeft, Int32.toBitVec_shiftLeft]
    have s0 : ((0 : Int32).toBitVec.smod 32) = 0#32 := by decide
    have s8 : ((8 : Int32).toBitVec.smod 32) = 8#32 := by decide
    rw [s0, s8, BitVec.toNat_or]
    simp only [BitVec.shiftLeft_eq', BitVec.toNat_shiftLeft, a1, a2]
    show (c.toBitVec.toNat % 256) <<< 0 % 2 ^ 32 ||| (c.toBitVec.toNat / 256) <<< 8 % 2 ^ 32 = _
    rw [Nat.shiftLeft_zero, Nat.mod_eq_of_lt (show c.toBitVec.toNat % 256 < 2 ^ 32 by omega), Nat.mod_eq_of_lt (show (c.toBitVec.toNat / 256) <<< 8 < 2 ^ 32 by rw [Nat.shiftLeft_eq]; omega), Nat.or_comm, ← Nat.shiftLeft_add_eq_or_of_lt (by omega), Nat.shiftLeft_eq]
    omega
  show BitVec.toNat (((((lo8 c &&& 255) <<< (0 : Int32)) ||| ((hi8 c &&& 255) <<< (8 : Int32))).toBitVec.setWidth 16).setWidth 32) = _
  rw [BitVec.toNat_setWidth, BitVec.toNat_setWidth, g]
  omega
end StrChars
namespace StrChars
open Jvm Sem ClassFile Op Lib Jvm.Stand Jvm.Free.XT Jvm.Free.ALB Jvm.Free.JM Jvm.Free
open Jvm.Lib.Cold (StaticIs)
theorem shr1 {n : Nat} (h : 2 * n < 2 ^ 31) : Int32.ofNat (2 * n) >>> ((1 : Int32) &&& 31) = Int32.ofNat n := by
  have e : ((1 : Int32) &&& 31) = 1 := by decide
  rw [e]
  apply Int32.toBitVec_inj.mp
  rw [Int32.toBitVec_shiftRight]
  have e1 : ((1 : Int32).toBitVec.smod 32) = 1#32 := by decide
  have hm : (BitVec.ofNat 32 (2 * n)).toNat = 2 * n := by rw [BitVec.toNat_ofNat, Nat.mod_eq_of_lt (by omega)]
  rw [e1, BitVec.sshiftRight_eq']
  apply BitVec.eq_of_toNat_eq
  show ((BitVec.ofNat 32 (2 * n)).sshiftRight 1).toNat = (BitVec.ofNat 32 n).toNat
  rw [BitVec.toNat_sshiftRight_of_msb_false (by rw [BitVec.msb_eq_false_iff_two_mul_lt, hm]; omega), hm, BitVec.toNat_ofNat, Nat.shiftRight_eq_div_pow]
  omega
/-- charAt's cast of a byte read back -/
def chr8 (u : Int32) : Int32 := (u &&& 255).toUInt32.toUInt16.toUInt32.toInt32
theorem chr8_lo8 {c : Int32} (h0 : ¬ c < 0) (h1 : ¬ 255 < c) : chr8 (lo8 c) = c := by
  have t : ∀ k : Fin 256, (Int32.ofNat k.val).toUInt32.toUInt16.toUInt32.toInt32 = Int32.ofNat k.val := by decide +kernel
  unfold chr8
  rw [lo8_mask h0 h1]
  rw [Int32.lt_iff_toInt_lt] at h0 h1
  have e0 : (0 : Int32).toInt = 0 := rfl
  have e1 : (255 : Int32).toInt = 255 := rfl
  obtain ⟨k, hk⟩ : ∃ k : Nat, c.toInt = k := ⟨c.toInt.toNat, by omega⟩
  have hx : c = Int32.ofNat k := Int32.toInt_inj.mp (by rw [hk, Int32.toInt_ofNat_small (by omega)])
  rw [hx]
  exact t ⟨k, by omega⟩
theorem narrow_ch {c : Int32} (h0 : ¬ c < 0) (h1 : ¬ 65535 < c) : narrow .char (.int c) = .int c := by
  have q : narrow .char (.int (pairCh (lo8 c) (hi8 c))) = .int (pairCh (lo8 c) (hi8 c)) := narrow_c _
  rwa [pair_says h0 h1] at q
/-- the array's cell V codes the n chars f 0 .. f (n - 1) by the coder cd, as the JDK does: coder 1 just where some char is above 255 -/
def Cod (cd : Int32) (n : Nat) (f : Nat → Int32) (V : Cell) : Prop := (cd = 0 ∧ V.slots.size = n ∧ ∀ j, j < n → V.slots[j]? = some (.int (lo8 (f j))) ∧ ¬ 255 < f j) ∨ (cd = 1 ∧ V.slots.size = 2 * n ∧ (∀ j, j < n → V.slots[2 * j]? = some (.int (lo8 (f j))) ∧ V.slots[2 * j + 1]? = some (.int (hi8 (f j)))) ∧ ∃ j, j < n ∧ 255 < f j)
theorem Cod.cd {cd : Int32} {n : Nat} {f : Nat → Int32} {V : Cell} (h : Cod cd n f V) : cd = 0 ∨ cd = 1 := h.imp (fun q => q.1) fun q => q.1
theorem Cod.len {cd : Int32} {n : Nat} {f : Nat → Int32} {V : Cell} (h : Cod cd n f V) (hs : V.slots.size < 2 ^ 31) : Int32.ofNat V.slots.size >>> (cd &&& 31) = Int32.ofNat n := by
  rcases h with ⟨rfl, h, -⟩ | ⟨rfl, h, -⟩
  · rw [shr0, h]
  · rw [h, shr1 (by omega)]
/-- **x is a String of the n chars f 0 .. f (n - 1)**, Latin-1 or UTF-16; its array at t has the cell V -/
def Txt (x t : Addr) (V : Cell) (cd : Int32) (n : Nat) (f : Nat → Int32) (U : State) : Prop := Exact "java/lang/String" x U ∧ Has x "java/lang/String" "value" "[B" (.ref t) U ∧ Has x "java/lang/String" "coder" "B" (.int cd) U ∧ XT.Arr .byte t V U ∧ Cod cd n f V ∧ ∀ j, j < n → ¬ f j < 0 ∧ ¬ 65535 < f j
theorem Txt.mv {x t : Addr} {V : Cell} {cd : Int32} {n : Nat} {f : Nat → Int32} {U U' : State} (h : Txt x t V cd n f U) (hal : U.vm.Alike U'.vm) (hh : U'.heap = U.heap) : Txt x t V cd n f U' := ⟨h.1.mv hal hh, h.2.1.mv hal hh, h.2.2.1.mv hal hh, h.2.2.2.1.mv hal hh, h.2.2.2.2⟩
namespace Cdr
def yN : MethodName := ⟨"java/lang/String", "coder", "()B"⟩
abbrev yB : ByteArray := jdk_42_method_152_code
theorem d0 : decode yB 0 = .ok (.getstatic 38, 3) := by decide +kernel
theorem d3 : decode yB 3 = .ok (.ifCond (.eq) 10, 3) := by decide +kernel
theorem d6 : decode yB 6 = .ok (.aload_n 0, 1) := by decide +kernel
theorem d7 : decode yB 7 = .ok (.getfield 15, 3) := by decide +kernel
theorem d10 : decode yB 10 = .ok (.goto 4, 3) := by decide +kernel
theorem d14 : decode yB 14 = .ok (.ireturn, 1) := by decide +kernel
def site : List Cond := [.fieldLink "java/lang/String" 38 "java/lang/String" "COMPACT_STRINGS" "Z", .fieldLink "java/lang/String" 15 "java/lang/String" "coder" "B"]
def tab : Cond := tabOf yN yB 1 (some .byte) site
def P (x : Addr) (cd z : Int32) (args : Array Value) (s : State) : Prop := args = #[.ref x] ∧ Has x "java/lang/String" "coder" "B" (.int cd) s ∧ (cd = 0 ∨ cd = 1) ∧ StaticIs s "java/lang/String" "COMPACT_STRINGS" "Z" (.int z) ∧ ¬ z = 0
def E (cd : Int32) (r : Option Value) (s u : State) : Prop := XT.PureE (some (.int cd)) r s u
theorem law (l : Launch) (x : Addr) (cd z : Int32) : Law l yN 1 0 0 0 yB 1 (some .byte) site (P x cd z) (E cd) [] 0 0 := by
  refine Law.of_walk (plainFor_of_name (by decide +kernel)) (by decide +kernel) (by decide +kernel) (by decide) (fun _ _ h => by rw [h.1]; rfl) (fun _ U U' hal hh h => ⟨h.1, h.2.1.mv hal hh, h.2.2.1, h.2.2.2.1.there hal hh, h.2.2.2.2⟩) (fun r U U' V V' h1 hal h2 h => XT.PureE.mv r U U' V V' h1 hal h2 h) ?_
  intro p e s m args below meth c s₁ X0 hexec hbytes hml hret hlk hnm hown hh0 W hP
  obtain ⟨rfl, hx, hc, s1, hz⟩ := hP
  have c1 : Steps p.tables e below (s₁.setTop (entryFrame m #[.ref x] 1)) (s₁.setTop (mkF m 0 #[.val (.ref x)] [])) := entry rfl
  obtain ⟨T2, X2, q2, st2⟩ := X0.sget hexec hown (wk W (.fieldLink "java/lang/String" 38 "java/lang/String" "COMPACT_STRINGS" "Z")) s1 (fun _ _ h => by rw [hh0]; exact h) (g := (mkF m 0 #[.val (.ref x)] [])) rfl (hb hbytes d0)
  have hh2 := q2.trans hh0
  have c3 : Steps p.tables e below (s₁.setTop (entryFrame m #[.ref x] 1)) (T2.setTop (mkF m 7 #[.val (.ref x)] [.ref x])) := (c1.trans (st2 _ (Steps.refl _))).trans (by
    refine XS.ifNo X2.here hexec rfl (hb hbytes d3) rfl (i0_eq_f hz) ?_
    refine XS.aloadN X2.here hexec rfl (hb hbytes d6) rfl rfl ?_
    exact Steps.refl _)
  obtain ⟨T4, X4, q4, st4⟩ := X2.hget hexec hown (wk W (.fieldLink "java/lang/String" 15 "java/lang/String" "coder" "B")) (hx.mv X2.warmed.alike hh2) (g := (mkF m 7 #[.val (.ref x)] [.ref x])) rfl (rest := []) rfl (hb hbytes d7)
  have c5 : Steps p.tables e below (s₁.setTop (entryFrame m #[.ref x] 1)) (T4.setTop (mkF m 14 #[.val (.ref x)] [.int cd])) := (c3.trans (st4 _ (Steps.refl _))).trans (by
    refine XS.goto X4.here hexec rfl (pc0 := 10) rfl (hb hbytes d10) (by decide) rfl ?_
    exact Steps.refl _)
  exact ⟨T4, some (.int cd), _, _, _, X4, rfl, rfl, rfl, (fun h => by cases h), ⟨rfl, q4.trans hh2⟩, fun fs hl => c5.trans (X4.ireturnOut hexec hret (by rcases hc with rfl | rfl <;> rfl) (Or.inr (Or.inr (Or.inl rfl))) (hb hbytes d14) hl)⟩
end Cdr
namespace Len
def yN : MethodName := ⟨"java/lang/String", "length", "()I"⟩
abbrev yB : ByteArray := jdk_42_method_54_code
theorem d0 : decode yB 0 = .ok (.aload_n 0, 1) := by decide +kernel
theorem d1 : decode yB 1 = .ok (.getfield 9, 3) := by decide +kernel
theorem d4 : decode yB 4 = .ok (.arraylength, 1) := by decide +kernel
theorem d5 : decode yB 5 = .ok (.aload_n 0, 1) := by decide +kernel
theorem d6 : decode yB 6 = .ok (.invokevirtual 335, 3) := by decide +kernel
theorem d9 : decode yB 9 = .ok (.ishr, 1) := by decide +kernel
theorem d10 : decode yB 10 = .ok (.ireturn, 1) := by decide +kernel
def site : List Cond := [.fieldLink "java/lang/String" 9 "java/lang/String" "value" "[B", Cdr.tab] ++ virtW "java/lang/String" 335 "java/lang/String" Cdr.yN Cdr.yN
def tab : Cond := tabOf yN yB 1 (some .int) site
def P (x t : Addr) (V : Cell) (cd : Int32) (n : Nat) (f : Nat → Int32) (z : Int32) (args : Array Value) (s : State) : Prop := args = #[.ref x] ∧ Txt x t V cd n f s ∧ StaticIs s "java/lang/String" "COMPACT_STRINGS" "Z" (.int z) ∧ ¬ z = 0
def E (n : Nat) (r : Option Value) (s u : State) : Prop := XT.PureE (some (.int (Int32.ofNat n))) r s u
/-- length() of a String of n chars, in either coding -/
theorem law (l : Launch) (x t : Addr) (V : Cell) (cd : Int32) (n : Nat) (f : Nat → Int32) (z : Int32) : Law l yN 1 0 1 13 yB 1 (some .int) site (P x t V cd n f z) (E n) [] 0 0 := by
  refine Law.of_walk (plainFor_of_name (by decide +kernel)) (by decide +kernel) (by decide +kernel) (by decide) (fun _ _ h => by rw [h.1]; rfl) (fun _ U U' hal hh h => ⟨h.1, h.2.1.mv hal hh, h.2.2.1.there hal hh, h.2.2.2⟩) (fun r U U' V V' h1 hal h2 h => XT.PureE.mv r U U' V V' h1 hal h2 h) ?_
  intro p e s m args below meth c s₁ X0 hexec hbytes hml hret hlk hnm hown hh0 W hP
  obtain ⟨rfl, hx, s1, hz⟩ := hP
  have v31 := hx.2.2.2.1.2.2.2
  have c1 : Steps p.tables e below (s₁.setTop (entryFrame m #[.ref x] 1)) (s₁.setTop (mkF m 1 #[.val (.ref x)] [.ref x])) := Steps.trans (entry rfl) (by
    show Steps p.tables e below (s₁.setTop (mkF m 0 #[.val (.ref x)] [])) _
    refine XS.aloadN X0.here hexec rfl (hb hbytes d0) rfl rfl ?_
    exact Steps.refl _)
  obtain ⟨T2, X2, q2, st2⟩ := X0.hget hexec hown (wk W (.fieldLink "java/lang/String" 9 "java/lang/String" "value" "[B")) (hx.mv X0.warmed.alike hh0).2.1 (g := (mkF m 1 #[.val (.ref x)] [.ref x])) rfl (rest := []) rfl (hb hbytes d1)
  have hh2 := q2.trans hh0
  have hx2 := hx.mv X2.warmed.alike hh2
  have c3 : Steps p.tables e below (s₁.setTop (entryFrame m #[.ref x] 1)) (T2.setTop (mkF m 6 #[.val (.ref x)] [.ref x, .int (Int32.ofNat V.slots.size)])) := (c1.trans (st2 _ (Steps.refl _))).trans (by
    refine X2.alen hexec hx2.2.2.2.1 rfl rfl (hb hbytes d4) ?_
    refine XS.aloadN X2.here hexec rfl (hb hbytes d5) rfl rfl ?_
    exact Steps.refl _)
  obtain ⟨v4, T4, X4, E4, g4⟩ := X2.callV hexec (Cdr.law l x cd z) hown (wks W (virtW "java/lang/String" 335 "java/lang/String" Cdr.yN Cdr.yN)) rfl (by decide) (wk W Cdr.tab) (W := 1) (Nat.le_of_ble_eq_true rfl) (Nat.le_of_ble_eq_true rfl) (Nat.le_refl _) (Nat.le_refl _) (hx2.1.fc X2.warmed.alike) hx2.1.is (g := (mkF m 6 #[.val (.ref x)] [.ref x, .int (Int32.ofNat V.slots.size)])) rfl (by rw [hml]; rfl) c3 (argsL := []) (rest := [.int (Int32.ofNat V.slots.size)]) rfl rfl (by show 2 * 0 + (1 + 0) ≤ _; decide) (hb hbytes d6) (⟨rfl, hx2.2.2.1, hx.2.2.2.2.1.cd, s1.there X2.warmed.alike hh2, hz⟩)
  obtain ⟨rfl, q4⟩ := E4
  have c5 : Steps p.tables e below (s₁.setTop (entryFrame m #[.ref x] 1)) (T4.setTop (mkF m 10 #[.val (.ref x)] [.int (Int32.ofNat V.slots.size >>> (cd &&& 31))])) := Steps.trans g4 (by
    refine ishr X4.here hexec rfl (hb hbytes d9) rfl ?_
    exact Steps.refl _)
  rw [hx.2.2.2.2.1.len v31] at c5
  exact ⟨T4, some (.int (Int32.ofNat n)), _, _, _, X4, rfl, rfl, rfl, (fun h => by cases h), ⟨rfl, q4.trans hh2⟩, fun fs hl => c5.trans (X4.ireturnOut hexec hret rfl (Or.inl rfl) (hb hbytes d10) hl)⟩
theorem pays {l : Launch} {R : Room} {p : Program} {e : Env} {below : List Frame} {s : State} {sargs : Array Value} {len W : Nat} (x t : Addr) (V : Cell) (cd : Int32) (n : Nat) (f : Nat → Int32) (z : Int32) (htab : tab.before sargs s = true) (hfr : 2 ≤ R.frames) (hlo : W + 25 ≤ R.locals) :
    Back l R p e below s sargs yN len W (fun A₁ a₁ => A₁.cells + 0 ≤ R.cells ∧ A₁.slots + 0 ≤ R.slots ∧ P x t V cd n f z a₁ A₁.U) (fun A₁ _ v₁ B₁ => E n v₁ A₁.U B₁.U ∧ B₁.locs = A₁.locs ++ [] ∧ B₁.cells = A₁.cells + 0 ∧ B₁.slots = A₁.slots + 0) :=
  (law l x t V cd n f z).pays htab hfr (by omega)
end Len
namespace IsL
def yN : MethodName := ⟨"java/lang/String", "isLatin1", "()Z"⟩
abbrev yB : ByteArray := jdk_42_method_154_code
theorem d0 : decode yB 0 = .ok (.getstatic 38, 3) := by decide +kernel
theorem d3 : decode yB 3 = .ok (.ifCond (.eq) 14, 3) := by decide +kernel
theorem d6 : decode yB 6 = .ok (.aload_n 0, 1) := by decide +kernel
theorem d7 : decode yB 7 = .ok (.getfield 15, 3) := by decide +kernel
theorem d10 : decode yB 10 = .ok (.ifCond (.ne) 7, 3) := by decide +kernel
theorem d13 : decode yB 13 = .ok (.iconst 1, 1) := by decide +kernel
theorem d14 : decode yB 14 = .ok (.goto 4, 3) := by decide +kernel
theorem d17 : decode yB 17 = .ok (.iconst 0, 1) := by decide +kernel
theorem d18 : decode yB 18 = .ok (.ireturn, 1) := by decide +kernel
def site : List Cond := [.fieldLink "java/lang/String" 38 "java/lang/String" "COMPACT_STRINGS" "Z", .fieldLink "java/lang/String" 15 "java/lang/String" "coder" "B"]
def tab : Cond := tabOf yN yB 1 (some .boolean) site
def P (x : Addr) (cd z : Int32) (args : Array Value) (s : State) : Prop := args = #[.ref x] ∧ Has x "java/lang/String" "coder" "B" (.int cd) s ∧ (cd = 0 ∨ cd = 1) ∧ StaticIs s "java/lang/String" "COMPACT_STRINGS" "Z" (.int z) ∧ ¬ z = 0
def E (cd : Int32) (r : Option Value) (s u : State) : Prop := XT.PureE (some (.int (1 - cd))) r s u
theorem law (l : Launch) (x : Addr) (cd z : Int32) : Law l yN 1 0 0 0 yB 1 (some .boolean) site (P x cd z) (E cd) [] 0 0 := by
  refine Law.of_walk (plainFor_of_name (by decide +kernel)) (by decide +kernel) (by decide +kernel) (by decide) (fun _ _ h => by rw [h.1]; rfl) (fun _ U U' hal hh h => ⟨h.1, h.2.1.mv hal hh, h.2.2.1, h.2.2.2.1.there hal hh, h.2.2.2.2⟩) (fun r U U' V V' h1 hal h2 h => XT.PureE.mv r U U' V V' h1 hal h2 h) ?_
  intro p e s m args below meth c s₁ X0 hexec hbytes hml hret hlk hnm hown hh0 W hP
  obtain ⟨rfl, hx, hc, s1, hz⟩ := hP
  have c1 : Steps p.tables e below (s₁.setTop (entryFrame m #[.ref x] 1)) (s₁.setTop (mkF m 0 #[.val (.ref x)] [])) := entry rfl
  obtain ⟨T2, X2, q2, st2⟩ := X0.sget hexec hown (wk W (.fieldLink "java/lang/String" 38 "java/lang/String" "COMPACT_STRINGS" "Z")) s1 (fun _ _ h => by rw [hh0]; exact h) (g := (mkF m 0 #[.val (.ref x)] [])) rfl (hb hbytes d0)
  have hh2 := q2.trans hh0
  have c3 : Steps p.tables e below (s₁.setTop (entryFrame m #[.ref x] 1)) (T2.setTop (mkF m 7 #[.val (.ref x)] [.ref x])) := (c1.trans (st2 _ (Steps.refl _))).trans (by
    refine XS.ifNo X2.here hexec rfl (hb hbytes d3) rfl (i0_eq_f hz) ?_
    refine XS.aloadN X2.here hexec rfl (hb hbytes d6) rfl rfl ?_
    exact Steps.refl _)
  obtain ⟨T4, X4, q4, st4⟩ := X2.hget hexec hown (wk W (.fieldLink "java/lang/String" 15 "java/lang/String" "coder" "B")) (hx.mv X2.warmed.alike hh2) (g := (mkF m 7 #[.val (.ref x)] [.ref x])) rfl (rest := []) rfl (hb hbytes d7)
  have c5 : Steps p.tables e below (s₁.setTop (entryFrame m #[.ref x] 1)) (T4.setTop (mkF m 10 #[.val (.ref x)] [.int cd])) := c3.trans (st4 _ (Steps.refl _))
  have c6 : Steps p.tables e below (s₁.setTop (entryFrame m #[.ref x] 1)) (T4.setTop (mkF m 18 #[.val (.ref x)] [.int (1 - cd)])) := by
    rcases hc with rfl | rfl
    · exact c5.trans (by
        refine XS.ifNo X4.here hexec rfl (hb hbytes d10) rfl (i0_ne_f rfl) ?_
        refine iconstV X4.here hexec rfl 1 (hb hbytes d13) (by decide) ?_
        refine XS.goto X4.here hexec rfl (pc0 := 14) rfl (hb hbytes d14) (by decide) rfl ?_
        exact Steps.refl _)
    · exact c5.trans (by
        refine XS.ifYes X4.here hexec rfl (pc0 := 10) rfl (hb hbytes d10) rfl (i0_ne_t (by decide)) (by decide) rfl ?_
        refine iconstV X4.here hexec rfl 0 (hb hbytes d17) (by decide) ?_
        exact Steps.refl _)
  exact ⟨T4, some (.int (1 - cd)), _, _, _, X4, rfl, rfl, rfl, (fun h => by cases h), ⟨rfl, q4.trans hh2⟩, fun fs hl => c6.trans (X4.ireturnOut hexec hret (by rcases hc with rfl | rfl <;> rfl) (Or.inr (Or.inl rfl)) (hb hbytes d18) hl)⟩
end IsL
namespace LChA
def yN : MethodName := ⟨"java/lang/StringLatin1", "charAt", "([BI)C"⟩
abbrev yB : ByteArray := jdk_43_method_2_code
theorem d0 : decode yB 0 = .ok (.iload_n 1, 1) := by decide +kernel
theorem d1 : decode yB 1 = .ok (.aload_n 0, 1) := by decide +kernel
theorem d2 : decode yB 2 = .ok (.arraylength, 1) := by decide +kernel
theorem d3 : decode yB 3 = .ok (.invokestatic 9, 3) := by decide +kernel
theorem d6 : decode yB 6 = .ok (.aload_n 0, 1) := by decide +kernel
theorem d7 : decode yB 7 = .ok (.iload_n 1, 1) := by decide +kernel
theorem d8 : decode yB 8 = .ok (.baload, 1) := by decide +kernel
theorem d9 : decode yB 9 = .ok (.sipush 255, 3) := by decide +kernel
theorem d12 : decode yB 12 = .ok (.iand, 1) := by decide +kernel
theorem d13 : decode yB 13 = .ok (.i2c, 1) := by decide +kernel
theorem d14 : decode yB 14 = .ok (.ireturn, 1) := by decide +kernel
def site : List Cond := [JO.Str_checkIndex.tab] ++ staticW "java/lang/StringLatin1" 9 JO.Str_checkIndex.yN
def tab : Cond := tabOf yN yB 2 (some .char) site
def P (t : Addr) (V : Cell) (i : Nat) (u : Int32) (fm : Value) (args : Array Value) (s : State) : Prop := args = #[.ref t, .int (Int32.ofNat i)] ∧ XT.Arr .byte t V s ∧ V.slots[i]? = some (.int u) ∧ (StaticIs s "jdk/internal/util/Preconditions" "SIOOBE_FORMATTER" "Ljava/util/function/BiFunction;" fm ∧ fm.isRef = true)
def E (u : Int32) (r : Option Value) (s w : State) : Prop := XT.PureE (some (.int (chr8 u))) r s w
theorem law (l : Launch) (t : Addr) (V : Cell) (i : Nat) (u : Int32) (fm : Value) : Law l yN 2 2 2 27 yB 2 (some .char) site (P t V i u fm) (E u) [] 0 0 := by
  refine Law.of_walk (plainFor_of_name (by decide +kernel)) (by decide +kernel) (by decide +kernel) (by decide) (fun _ _ h => by rw [h.1]; rfl) (fun _ U U' hal hh h => ⟨h.1, h.2.1.mv hal hh, h.2.2.1, h.2.2.2.1.there hal hh, h.2.2.2.2⟩) (fun r U U' V V' h1 hal h2 h => XT.PureE.mv r U U' V V' h1 hal h2 h) ?_
  intro p e s m args below meth c s₁ X0 hexec hbytes hml hret hlk hnm hown hh0 W hP
  obtain ⟨rfl, hV, hu, s1, rf⟩ := hP
  have v31 := hV.2.2.2
  have hi : i < V.slots.size := (Array.getElem?_eq_some_iff.mp hu).1
  have c1 : Steps p.tables e below (s₁.setTop (entryFrame m #[.ref t, .int (Int32.ofNat i)] 2)) (s₁.setTop (mkF m 0 #[.val (.ref t), .val (.int (Int32.ofNat i))] [])) := entry rfl
  have c2 : Steps p.tables e below (s₁.setTop (entryFrame m #[.ref t, .int (Int32.ofNat i)] 2)) (s₁.setTop (mkF m 3 #[.val (.ref t), .val (.int (Int32.ofNat i))] [.int (Int32.ofNat V.slots.size), .int (Int32.ofNat i)])) := c1.trans (by
    refine XS.iloadN X0.here hexec rfl (hb hbytes d0) rfl ?_
    refine XS.aloadN X0.here hexec rfl (hb hbytes d1) rfl rfl ?_
    refine X0.alen hexec (hV.mv X0.warmed.alike hh0) rfl rfl (hb hbytes d2) ?_
    exact Steps.refl _)
  obtain ⟨v3, T3, X3, E3, g3⟩ := X0.callS hexec (JO.Str_checkIndex.law l (Int32.ofNat i) (Int32.ofNat V.slots.size) fm) hown (wks W (staticW "java/lang/StringLatin1" 9 JO.Str_checkIndex.yN)) (wk W JO.Str_checkIndex.tab) (W := 0) (Nat.le_of_ble_eq_true rfl) (Nat.le_of_ble_eq_true rfl) (Nat.le_refl _) (Nat.le_refl _) (g := (mkF m 3 #[.val (.ref t), .val (.int (Int32.ofNat i))] [.int (Int32.ofNat V.slots.size), .int (Int32.ofNat i)])) rfl (by rw [hml]; rfl) c2 (argsL := [.int (Int32.ofNat i), .int (Int32.ofNat V.slots.size)]) (rest := []) rfl rfl (by show 2 * 0 + 0 ≤ _; decide) (hb hbytes d3) (⟨rfl, rf, s1.there X0.warmed.alike hh0, Int32.ofNat_not_neg (by omega), lt32 v31 hi⟩)
  obtain ⟨rfl, q3⟩ := E3
  have hh3 := q3.trans hh0
  have c4 : Steps p.tables e below (s₁.setTop (entryFrame m #[.ref t, .int (Int32.ofNat i)] 2)) (T3.setTop (mkF m 14 #[.val (.ref t), .val (.int (Int32.ofNat i))] [.int (chr8 u)])) := Steps.trans g3 (by
    refine XS.aloadN X3.here hexec rfl (hb hbytes d6) rfl rfl ?_
    refine XS.iloadN X3.here hexec rfl (hb hbytes d7) rfl ?_
    refine X3.aget hexec (hV.mv X3.warmed.alike hh3) rfl hu rfl rfl (hb hbytes d8) ?_
    refine sipushV X3.here hexec rfl 255 (hb hbytes d9) (by decide) ?_
    refine XS.iand X3.here hexec rfl (hb hbytes d12) rfl ?_
    refine i2c X3.here hexec rfl (hb hbytes d13) rfl ?_
    exact Steps.refl _)
  exact ⟨T3, some (.int (chr8 u)), _, _, _, X3, rfl, rfl, rfl, (fun h => by cases h), ⟨rfl, hh3⟩, fun fs hl => c4.trans (X3.ireturnOut hexec hret (narrow_c _) (Or.inr (Or.inr (Or.inr (Or.inl rfl)))) (hb hbytes d14) hl)⟩
end LChA
end StrChars
namespace StrChars.Road
open Jvm Sem ClassFile Op Lib Jvm.Stand Jvm.Free Jvm.Free.XT
open Jvm.Lib.Cold (StaticIs)
theorem consq {a : Array Value} {s : State} {c : Jvm.Cond} {L : List Jvm.Cond} (h0 : c.before a s = true) (h : ∀ w ∈ L, w.before a s = true) : ∀ w ∈ c :: L, w.before a s = true := fun w hw => (List.mem_cons.mp hw).elim (fun e => e ▸ h0) (h w)
/-- the words of String.length(), either coding -/
abbrev wordsLen : List Jvm.Cond := [.code Len.yN Len.yB 1 (some .int), .initialized ST, .fieldLink ST 9 ST "value" "[B", .fieldLink ST 38 ST "COMPACT_STRINGS" "Z", .fieldLink ST 15 ST "coder" "B", .code Cdr.yN Cdr.yB 1 (some .byte), .methodLink ST 335 Cdr.yN, .declares Cdr.yN, .selects ST Cdr.yN Cdr.yN, .instanceMethod Cdr.yN]
theorem tabLen_of {a : Array Value} {s : State} (h : ∀ w ∈ wordsLen, w.before a s = true) : Len.tab.before a s = true := by
  have hc : Cdr.tab.before a s = true := unparts (wk h (.code Cdr.yN Cdr.yB 1 (some .byte))) (wks h (.initialized Cdr.yN.cls :: Cdr.site))
  have q := consq hc h
  exact unparts (wk q (.code Len.yN Len.yB 1 (some .int))) (wks q (.initialized Len.yN.cls :: Len.site))
theorem movedLen {Z s : State} {a0 args : Array Value} (hZ : Z.Warmed39 s.vm) (hw : ∀ d ∈ wordsLen, d.before a0 Z = true) : ∀ d ∈ wordsLen, d.before args s = true := fun d hd => by
  have q := hw d hd
  have t : ∀ d ∈ wordsLen, d = .arrayClass .byte ∨ (d.onTables && d.keepsFace) = true := by decide +kernel
  rcases t d hd with rfl | t
  · exact RoadKit.mvA hZ q
  · exact RoadKit.mv hZ q t
/-- the bytes of the chars cs, low before high -/
def wideBytes : List Int32 → List Value
  | [] => []
  | c :: cs => .int (lo8 c) :: .int (hi8 c) :: wideBytes cs
theorem wide_lo (d : Value) : ∀ (cs : List Int32) (j : Nat), j < cs.length → (wideBytes cs).getD (2 * j) d = .int (lo8 (cs.getD j 0))
  | [], j, h => absurd h (Nat.not_lt_zero j)
  | c :: cs, 0, _ => rfl
  | c :: cs, j + 1, h => by
    have q := wide_lo d cs j (by simpa using h)
    rw [show 2 * (j + 1) = 2 * j + 1 + 1 from by omega]
    simpa [wideBytes] using q
theorem wide_hi (d : Value) : ∀ (cs : List Int32) (j : Nat), j < cs.length → (wideBytes cs).getD (2 * j + 1) d = .int (hi8 (cs.getD j 0))
  | [], j, h => absurd h (Nat.not_lt_zero j)
  | c :: cs, 0, _ => rfl
  | c :: cs, j + 1, h => by
    have q := wide_hi d cs j (by simpa using h)
    rw [show 2 * (j + 1) + 1 = 2 * j + 1 + 1 + 1 from by omega]
    simpa [wideBytes] using q
theorem low_at (d : Value) (cs : List Int32) (j : Nat) (h : j < cs.length) : (cs.map fun c => Value.int (lo8 c)).getD j d = .int (lo8 (cs.getD j 0)) := by
  simp [List.getD_eq_getElem?_getD, h]
/-- an array of N2 bytes vs codes the chars cs by the coder cd -/
def CodA (cs : List Int32) (cd N2 : Int32) (vs : List Value) : Prop := (cd = 0 ∧ N2 = Int32.ofNat cs.length ∧ vs = (cs.map fun c => Value.int (lo8 c)) ∧ ∀ c ∈ cs, ¬ 255 < c) ∨ (cd = 1 ∧ N2 = Int32.ofNat (2 * cs.length) ∧ vs = wideBytes cs ∧ ∃ c ∈ cs, 255 < c)
theorem CodA.cod {cs : List Int32} {cd N2 : Int32} {vs : List Value} {V : Cell} (h : CodA cs cd N2 vs) (hn : 2 * cs.length < 2 ^ 31) (hs : V.slots.size = N2.toNatClampNeg) (hv : RoadKit.Has V vs (.int 0)) : Cod cd cs.length (fun j => cs.getD j 0) V := by
  rcases h with ⟨rfl, rfl, rfl, h⟩ | ⟨rfl, rfl, rfl, c, hc, hw⟩
  · rw [n32 (by omega)] at hs
    exact Or.inl ⟨rfl, hs, fun j hj => ⟨by rw [hv j (by omega), low_at _ _ _ hj], by
      have e : cs.getD j 0 = cs[j] := by simp [List.getD_eq_getElem?_getD, hj]
      show ¬ 255 < cs.getD j 0
      rw [e]; exact h _ (List.getElem_mem _)⟩⟩
  · rw [n32 (by omega)] at hs
    obtain ⟨j, hj, rfl⟩ := List.getElem_of_mem hc
    exact Or.inr ⟨rfl, hs, fun j hj => ⟨by rw [hv _ (by omega), wide_lo _ _ _ hj], by rw [hv _ (by omega), wide_hi _ _ _ hj]⟩, j, hj, by
      have e : cs.getD j 0 = cs[j] := by simp [List.getD_eq_getElem?_getD, hj]
      show 255 < cs.getD j 0
      rw [e]; exact hw⟩
/-- an object of exactly java/lang/String, its two fields found: as the laws ask it -/
theorem strObj {Z U : State} {a0 : Array Value} {kI : Nat} (wi : (Jvm.Cond.instantiable ST kI).before a0 Z = true) (al : Z.vm.Alike U.vm) {x : Addr} {v0 c0 : Value} (E : RoadKit.Exa Z U.heap x ST) (V : RoadKit.Fld Z U.heap x ST "value" "[B" v0) (C : RoadKit.Fld Z U.heap x ST "coder" "B" c0) :
    ∃ (D : Cell) (fV fC : Field), Blank ST x D U ∧ Found ST "value" "[B" fV U ∧ Found ST "coder" "B" fC U ∧ D.slots[fV.slot]? = some v0 ∧ D.slots[fC.slot]? = some c0 ∧ RoadKit.slotOf Z ST "value" "[B" = fV.slot ∧ RoadKit.slotOf Z ST "coder" "B" = fC.slot := by
  obtain ⟨D, cfV, kV, iV, fV, hD, gV, stV, knV, obV, asV, slV⟩ := V
  obtain ⟨D', cfC, kC, iC, fC, hD', gC, stC, -, -, asC, slC⟩ := C
  cases hD.symm.trans hD'
  obtain ⟨D2, kD, e1, e2, e3, e4, e5⟩ := E
  cases hD.symm.trans e1
  obtain ⟨c2, k2, i1, i2, i3, -⟩ := Cond.instantiable_spec wi
  cases e2.symm.trans i1
  cases e3.symm.trans i2
  obtain ⟨kU, u1, u2⟩ := al.2.2 _ _ e3
  exact ⟨D, fV, fC, ⟨hD, ⟨knV, fun q hq => by rw [hq] at obV; cases obV⟩, by rw [al.findClass]; exact e2, kU, u1, by rw [u2]; exact i3, by rw [u2]; exact e5 i3⟩, ⟨SBG.found_only al ⟨cfV, kV, iV, gV⟩, stV⟩, ⟨SBG.found_only al ⟨cfC, kC, iC, gC⟩, stC⟩, slV, slC, by simp [RoadKit.slotOf, gV], by simp [RoadKit.slotOf, gC]⟩
theorem sta_is {Z U : State} (al : Z.vm.Alike U.vm) {C n d : String} {v : Value} (S : RoadKit.Sta Z U.heap C n d v) : StaticIs U C n d v := by
  obtain ⟨cfS, iS, kS, fS, st, cS, t1, t2, t3, t4, t5, t6, t7⟩ := S
  exact StaticIs.there (s := { Z with heap := U.heap }) ⟨cfS, iS, kS, fS, st, cS, t1, t2, t3, t4, t5, (fun q => by rw [q] at t6; cases t6), t7⟩ al rfl
/-- **length() OF SUCH A STRING** -/
theorem lenW {p : Program} {l : Launch} {e : Env} {R : Room} {s : State} {args : Array Value} {below : List Frame} {len W : Nat} {Z : State} {a0 : Array Value} {h : Heap} (hZ : Z.Warmed39 s.vm) (hw : ∀ d ∈ wordsLen, d.before a0 Z = true) {kI : Nat} (wi : (Jvm.Cond.instantiable ST kI).before a0 Z = true)
    {x t : Addr} {kb : ClassId} {cs : List Int32} {cd N2 z : Int32} {vs : List Value} (E : RoadKit.Exa Z h x ST) (V : RoadKit.Fld Z h x ST "value" "[B" (.ref t)) (C : RoadKit.Fld Z h x ST "coder" "B" (.int cd)) (K : RoadKit.Arv Z h t kb .byte N2 vs (.int 0)) (hc : CodA cs cd N2 vs) (hb : ∀ c ∈ cs, ¬ c < 0 ∧ ¬ (65535 : Int32) < c)
    (S : RoadKit.Sta Z h ST "COMPACT_STRINGS" "Z" (.int z)) (hz : ¬ z = 0) (l2 : cs.length ≤ 4000) (hfr : 2 ≤ R.frames) (hlo : W + 25 ≤ R.locals) :
    Back l R p e below s args (⟨"java/lang/String", "length", "()I"⟩ : MethodName) len W (fun P a => a = #[.ref x] ∧ P.U.heap = h ∧ P.cells + 0 ≤ R.cells ∧ P.slots + 0 ≤ R.slots)
      (fun P _ v B => ∃ L, (v = some (.int (Int32.ofNat cs.length)) ∧ L = [] ∧ B.U.heap = h) ∧ B.locs = P.locs ++ L ∧ B.cells = P.cells + 0 ∧ B.slots = P.slots + 0) := by
  obtain ⟨A, K1, K2, K3, K4, K5, K6⟩ := K
  have hcod := hc.cod (by omega) K3 K5
  intro m meth c P g ig mk a X hg hsize hdg hW hn hp'
  obtain ⟨rfl, rfl, r1, r2⟩ := hp'
  have al : Z.vm.Alike P.U.vm := hZ.alike.trans X.warmed.alike
  obtain ⟨D, fV, fC, hB, F1, F2, g1, g2, -, -⟩ := strObj wi al E V C
  have hx : Txt x t A cd cs.length (fun j => cs.getD j 0) P.U := ⟨⟨_, hB.2.2.1, D, hB.1, rfl, by cases q : D.vm <;> first | rfl | exact absurd q (hB.2.1.2 _)⟩, Has.of hB F1 g1, Has.of hB F2 g2, ⟨K1.1, State.isArrayOf_alike al K1.2.1, K1.2.2, by rcases hcod with ⟨-, q, -⟩ | ⟨-, q, -⟩ <;> omega⟩, hcod, fun j hj => by
    have e : cs.getD j 0 = cs[j] := by simp [List.getD_eq_getElem?_getD, hj]
    show ¬ cs.getD j 0 < 0 ∧ ¬ 65535 < cs.getD j 0
    rw [e]; exact hb _ (List.getElem_mem _)⟩
  obtain ⟨v, B, X', ⟨⟨hv, hh⟩, hl, hk, hs⟩, st⟩ := Len.pays x t A cd cs.length (fun j => cs.getD j 0) z (tabLen_of (movedLen hZ hw)) hfr hlo m meth c P g ig mk _ X hg hsize hdg hW hn ⟨r1, r2, rfl, hx, sta_is al S, hz⟩
  exact ⟨v, B, X', ⟨[], ⟨hv, rfl, hh⟩, hl, hk, hs⟩, st⟩
end StrChars.Road
namespace StrChars.Road
open Jvm Sem ClassFile Op Lib Jvm.Stand Jvm.Free Jvm.Free.XT
open Jvm.Lib.Cold (StaticIs)
/-- the road's facts of a String, as the laws ask it -/
theorem txt_of {Z U : State} {a0 : Array Value} {kI : Nat} (wi : (Jvm.Cond.instantiable ST kI).before a0 Z = true) (al : Z.vm.Alike U.vm) {x t : Addr} {kb : ClassId} {cs : List Int32} {cd N2 : Int32} {vs : List Value} (E : RoadKit.Exa Z U.heap x ST) (V : RoadKit.Fld Z U.heap x ST "value" "[B" (.ref t)) (C : RoadKit.Fld Z U.heap x ST "coder" "B" (.int cd)) (K : RoadKit.Arv Z U.heap t kb .byte N2 vs (.int 0)) (hc : CodA cs cd N2 vs) (hb : ∀ c ∈ cs, ¬ c < 0 ∧ ¬ (65535 : Int32) < c) (l2 : cs.length ≤ 4000) :
    ∃ A, Txt x t A cd cs.length (fun j => cs.getD j 0) U := by
  obtain ⟨A, K1, K2, K3, K4, K5, K6⟩ := K
  have hcod := hc.cod (by omega) K3 K5
  obtain ⟨D, fV, fC, hB, F1, F2, g1, g2, -, -⟩ := strObj wi al E V C
  exact ⟨A, ⟨_, hB.2.2.1, D, hB.1, rfl, by cases q : D.vm <;> first | rfl | exact absurd q (hB.2.1.2 _)⟩, Has.of hB F1 g1, Has.of hB F2 g2, ⟨K1.1, State.isArrayOf_alike al K1.2.1, K1.2.2, by rcases hcod with ⟨-, q, -⟩ | ⟨-, q, -⟩ <;> omega⟩, hcod, fun j hj => by
    have e : cs.getD j 0 = cs[j] := by simp [List.getD_eq_getElem?_getD, hj]
    show ¬ cs.getD j 0 < 0 ∧ ¬ 65535 < cs.getD j 0
    rw [e]; exact hb _ (List.getElem_mem _)⟩
end StrChars.Road
namespace StrChars
open Jvm Sem ClassFile Op Lib Jvm.Stand Jvm.Free.XT Jvm.Free.ALB Jvm.Free.JM Jvm.Free
open Jvm.Lib.Cold (StaticIs)
namespace ChN
def yN : MethodName := ⟨"java/lang/String", "charAt", "(I)C"⟩
abbrev yB : ByteArray := jdk_42_method_56_code
theorem d0 : decode yB 0 = .ok (.aload_n 0, 1) := by decide +kernel
theorem d1 : decode yB 1 = .ok (.invokevirtual 492, 3) := by decide +kernel
theorem d4 : decode yB 4 = .ok (.ifCond (.eq) 12, 3) := by decide +kernel
theorem d7 : decode yB 7 = .ok (.aload_n 0, 1) := by decide +kernel
theorem d8 : decode yB 8 = .ok (.getfield 9, 3) := by decide +kernel
theorem d11 : decode yB 11 = .ok (.iload_n 1, 1) := by decide +kernel
theorem d12 : decode yB 12 = .ok (.invokestatic 495, 3) := by decide +kernel
theorem d15 : decode yB 15 = .ok (.ireturn, 1) := by decide +kernel
def site : List Cond := [.fieldLink "java/lang/String" 9 "java/lang/String" "value" "[B", IsL.tab, LChA.tab] ++ virtW "java/lang/String" 492 "java/lang/String" IsL.yN IsL.yN ++ staticW "java/lang/String" 495 LChA.yN
def tab : Cond := tabOf yN yB 2 (some .char) site
def P (x t : Addr) (V : Cell) (n : Nat) (f : Nat → Int32) (z : Int32) (fm : Value) (i : Nat) (args : Array Value) (s : State) : Prop := args = #[.ref x, .int (Int32.ofNat i)] ∧ Txt x t V 0 n f s ∧ i < n ∧ StaticIs s "java/lang/String" "COMPACT_STRINGS" "Z" (.int z) ∧ ¬ z = 0 ∧ StaticIs s "jdk/internal/util/Preconditions" "SIOOBE_FORMATTER" "Ljava/util/function/BiFunction;" fm ∧ fm.isRef = true
def E (f : Nat → Int32) (i : Nat) (r : Option Value) (s u : State) : Prop := XT.PureE (some (.int (f i))) r s u
/-- charAt(i) of a Latin-1 String of n chars, i < n: f i -/
theorem law (l : Launch) (x t : Addr) (V : Cell) (n : Nat) (f : Nat → Int32) (z : Int32) (fm : Value) (i : Nat) : Law l yN 2 1 3 40 yB 2 (some .char) site (P x t V n f z fm i) (E f i) [] 0 0 := by
  refine Law.of_walk (plainFor_of_name (by decide +kernel)) (by decide +kernel) (by decide +kernel) (by decide) (fun _ _ h => by rw [h.1]; rfl) (fun _ U U' hal hh h => ⟨h.1, h.2.1.mv hal hh, h.2.2.1, h.2.2.2.1.there hal hh, h.2.2.2.2.1, h.2.2.2.2.2.1.there hal hh, h.2.2.2.2.2.2⟩) (fun r U U' V V' h1 hal h2 h => XT.PureE.mv r U U' V V' h1 hal h2 h) ?_
  intro p e s m args below meth c s₁ X0 hexec hbytes hml hret hlk hnm hown hh0 W hP
  obtain ⟨rfl, hx, hi, s1, hz, s3, rf⟩ := hP
  have v31 := hx.2.2.2.1.2.2.2
  have hr := hx.2.2.2.2.2 i hi
  have hx0 := hx.mv X0.warmed.alike hh0
  have c1 : Steps p.tables e below (s₁.setTop (entryFrame m #[.ref x, .int (Int32.ofNat i)] 2)) (s₁.setTop (mkF m 1 #[.val (.ref x), .val (.int (Int32.ofNat i))] [.ref x])) := Steps.trans (entry rfl) (by
    show Steps p.tables e below (s₁.setTop (mkF m 0 #[.val (.ref x), .val (.int (Int32.ofNat i))] [])) _
    refine XS.aloadN X0.here hexec rfl (hb hbytes d0) rfl rfl ?_
    exact Steps.refl _)
  obtain ⟨v2, T2, X2, E2, g2⟩ := X0.callV hexec (IsL.law l x 0 z) hown (wks W (virtW "java/lang/String" 492 "java/lang/String" IsL.yN IsL.yN)) rfl (by decide) (wk W IsL.tab) (W := 0) (Nat.le_of_ble_eq_true rfl) (Nat.le_of_ble_eq_true rfl) (Nat.le_refl _) (Nat.le_refl _) (hx0.1.fc X0.warmed.alike) hx0.1.is (g := (mkF m 1 #[.val (.ref x), .val (.int (Int32.ofNat i))] [.ref x])) rfl (by rw [hml]; rfl) c1 (argsL := []) (rest := []) rfl rfl (by show 2 * 0 + 0 ≤ _; decide) (hb hbytes d1) (⟨rfl, hx0.2.2.1, hx.2.2.2.2.1.cd, s1.there X0.warmed.alike hh0, hz⟩)
  obtain ⟨rfl, q2⟩ := E2
  have hh2 := q2.trans hh0
  have hx2 := hx.mv X2.warmed.alike hh2
  obtain ⟨-, k1, k2⟩ | ⟨k0, -⟩ := hx.2.2.2.2.1
  · have c3 : Steps p.tables e below (s₁.setTop (entryFrame m #[.ref x, .int (Int32.ofNat i)] 2)) (T2.setTop (mkF m 8 #[.val (.ref x), .val (.int (Int32.ofNat i))] [.ref x])) := Steps.trans g2 (by
      refine XS.ifNo X2.here hexec rfl (hb hbytes d4) rfl (i0_eq_f (by decide)) ?_
      refine XS.aloadN X2.here hexec rfl (hb hbytes d7) rfl rfl ?_
      exact Steps.refl _)
    obtain ⟨T4, X4, q4, st4⟩ := X2.hget hexec hown (wk W (.fieldLink "java/lang/String" 9 "java/lang/String" "value" "[B")) hx2.2.1 (g := (mkF m 8 #[.val (.ref x), .val (.int (Int32.ofNat i))] [.ref x])) rfl (rest := []) rfl (hb hbytes d8)
    have hh4 := q4.trans hh2
    have c5 : Steps p.tables e below (s₁.setTop (entryFrame m #[.ref x, .int (Int32.ofNat i)] 2)) (T4.setTop (mkF m 12 #[.val (.ref x), .val (.int (Int32.ofNat i))] [.int (Int32.ofNat i), .ref t])) := (c3.trans (st4 _ (Steps.refl _))).trans (by
      refine XS.iloadN X4.here hexec rfl (hb hbytes d11) rfl ?_
      exact Steps.refl _)
    obtain ⟨v6, T6, X6, E6, g6⟩ := X4.callS hexec (LChA.law l t V i (lo8 (f i)) fm) hown (wks W (staticW "java/lang/String" 495 LChA.yN)) (wk W LChA.tab) (W := 0) (Nat.le_of_ble_eq_true rfl) (Nat.le_of_ble_eq_true rfl) (Nat.le_refl _) (Nat.le_refl _) (g := (mkF m 12 #[.val (.ref x), .val (.int (Int32.ofNat i))] [.int (Int32.ofNat i), .ref t])) rfl (by rw [hml]; rfl) c5 (argsL := [.ref t, .int (Int32.ofNat i)]) (rest := []) rfl rfl (by show 2 * 0 + 0 ≤ _; decide) (hb hbytes d12) (⟨rfl, hx.2.2.2.1.mv X4.warmed.alike hh4, (k2 i hi).1, s3.there X4.warmed.alike hh4, rf⟩)
    obtain ⟨rfl, q6⟩ := E6
    rw [chr8_lo8 hr.1 (k2 i hi).2] at g6
    exact ⟨T6, some (.int (f i)), _, _, _, X6, rfl, rfl, rfl, (fun h => by cases h), ⟨rfl, q6.trans hh4⟩, fun fs hl => Steps.trans g6 (X6.ireturnOut hexec hret (narrow_ch hr.1 hr.2) (Or.inr (Or.inr (Or.inr (Or.inl rfl)))) (hb hbytes d15) hl)⟩
  · exact absurd k0 (by decide)
theorem pays {l : Launch} {R : Room} {p : Program} {e : Env} {below : List Frame} {s : State} {sargs : Array Value} {len W : Nat} (x t : Addr) (V : Cell) (n : Nat) (f : Nat → Int32) (z : Int32) (fm : Value) (i : Nat) (htab : tab.before sargs s = true) (hfr : 4 ≤ R.frames) (hlo : W + 53 ≤ R.locals) :
    Back l R p e below s sargs yN len W (fun A₁ a₁ => A₁.cells + 0 ≤ R.cells ∧ A₁.slots + 0 ≤ R.slots ∧ P x t V n f z fm i a₁ A₁.U) (fun A₁ _ v₁ B₁ => E f i v₁ A₁.U B₁.U ∧ B₁.locs = A₁.locs ++ [] ∧ B₁.cells = A₁.cells + 0 ∧ B₁.slots = A₁.slots + 0) :=
  (law l x t V n f z fm i).pays htab hfr (by omega)
end ChN
end StrChars
namespace StrChars.Road
open Jvm Sem ClassFile Op Lib Jvm.Stand Jvm.Free Jvm.Free.XT
open Jvm.Lib.Cold (StaticIs)
/-- the words of String.charAt(int), the Latin-1 road alone -/
abbrev wordsChN : List Jvm.Cond := [.code ChN.yN ChN.yB 2 (some .char), .initialized ST, .fieldLink ST 9 ST "value" "[B", .fieldLink ST 38 ST "COMPACT_STRINGS" "Z", .fieldLink ST 15 ST "coder" "B", .code IsL.yN IsL.yB 1 (some .boolean), .methodLink ST 492 IsL.yN, .declares IsL.yN, .selects ST IsL.yN IsL.yN, .instanceMethod IsL.yN,
  .methodLink ST 495 LChA.yN, .static LChA.yN, .code LChA.yN LChA.yB 2 (some .char), .initialized "java/lang/StringLatin1", .methodLink "java/lang/StringLatin1" 9 JO.Str_checkIndex.yN, .static JO.Str_checkIndex.yN, .code JO.Str_checkIndex.yN JO.Str_checkIndex.yB 2 none,
  .fieldLink ST 1053 "jdk/internal/util/Preconditions" "SIOOBE_FORMATTER" "Ljava/util/function/BiFunction;", .methodLink ST 1059 JC.PreCheck.yN, .static JC.PreCheck.yN, .code JC.PreCheck.yN JC.PreCheck.yB 3 (some .int), .initialized "jdk/internal/util/Preconditions"]
theorem tabChN_of {a : Array Value} {s : State} (h : ∀ w ∈ wordsChN, w.before a s = true) : ChN.tab.before a s = true := by
  have hp : JC.PreCheck.tab.before a s = true := unparts (wk h (.code JC.PreCheck.yN JC.PreCheck.yB 3 (some .int))) (wks h (.initialized JC.PreCheck.yN.cls :: JC.PreCheck.site))
  have qk := consq hp h
  have hk : JO.Str_checkIndex.tab.before a s = true := unparts (wk qk (.code JO.Str_checkIndex.yN JO.Str_checkIndex.yB 2 none)) (wks qk (.initialized JO.Str_checkIndex.yN.cls :: JO.Str_checkIndex.site))
  have ql := consq hk h
  have hl : LChA.tab.before a s = true := unparts (wk ql (.code LChA.yN LChA.yB 2 (some .char))) (wks ql (.initialized LChA.yN.cls :: LChA.site))
  have hi : IsL.tab.before a s = true := unparts (wk h (.code IsL.yN IsL.yB 1 (some .boolean))) (wks h (.initialized IsL.yN.cls :: IsL.site))
  have q := consq hi (consq hl h)
  exact unparts (wk q (.code ChN.yN ChN.yB 2 (some .char))) (wks q (.initialized ChN.yN.cls :: ChN.site))
theorem movedChN {Z s : State} {a0 args : Array Value} (hZ : Z.Warmed39 s.vm) (hw : ∀ d ∈ wordsChN, d.before a0 Z = true) : ∀ d ∈ wordsChN, d.before args s = true := fun d hd => by
  have t : ∀ d ∈ wordsChN, (d.onTables && d.keepsFace) = true := by decide +kernel
  exact RoadKit.mv hZ (hw d hd) (t d hd)
/-- **charAt(i) OF A LATIN-1 STRING**, i < n: the char -/
theorem chN {p : Program} {l : Launch} {e : Env} {R : Room} {s : State} {args : Array Value} {below : List Frame} {len W : Nat} {Z : State} {a0 : Array Value} {h : Heap} (hZ : Z.Warmed39 s.vm) (hw : ∀ d ∈ wordsChN, d.before a0 Z = true) {kI : Nat} (wi : (Jvm.Cond.instantiable ST kI).before a0 Z = true)
    {x t : Addr} {kb : ClassId} {cs : List Int32} {N2 z : Int32} {vs : List Value} {fm : Value} {i : Nat} {j : Int32} (E : RoadKit.Exa Z h x ST) (V : RoadKit.Fld Z h x ST "value" "[B" (.ref t)) (C : RoadKit.Fld Z h x ST "coder" "B" (.int 0)) (K : RoadKit.Arv Z h t kb .byte N2 vs (.int 0)) (hc : CodA cs 0 N2 vs) (hb : ∀ c ∈ cs, ¬ c < 0 ∧ ¬ (65535 : Int32) < c)
    (S : RoadKit.Sta Z h ST "COMPACT_STRINGS" "Z" (.int z)) (hz : ¬ z = 0) (F : RoadKit.Sta Z h "jdk/internal/util/Preconditions" "SIOOBE_FORMATTER" "Ljava/util/function/BiFunction;" fm) (rf : fm.isRef = true) (l2 : cs.length ≤ 4000) (hi : i < cs.length) (hj : j = Int32.ofNat i) (hfr : 4 ≤ R.frames) (hlo : W + 53 ≤ R.locals) :
    Back l R p e below s args (⟨"java/lang/String", "charAt", "(I)C"⟩ : MethodName) len W (fun P a => a = #[.ref x, .int j] ∧ P.U.heap = h ∧ P.cells + 0 ≤ R.cells ∧ P.slots + 0 ≤ R.slots)
      (fun P _ v B => ∃ L, (v = some (.int (cs.getD i 0)) ∧ L = [] ∧ B.U.heap = h) ∧ B.locs = P.locs ++ L ∧ B.cells = P.cells + 0 ∧ B.slots = P.slots + 0) := by
  subst hj
  intro m meth c P g ig mk a X hg hsize hdg hW hn hp'
  obtain ⟨rfl, rfl, r1, r2⟩ := hp'
  have al : Z.vm.Alike P.U.vm := hZ.alike.trans X.warmed.alike
  obtain ⟨A, hx⟩ := txt_of wi al E V C K hc hb l2
  obtain ⟨v, B, X', ⟨⟨hv, hh⟩, hl, hk, hs⟩, st⟩ := ChN.pays x t A cs.length (fun j => cs.getD j 0) z fm i (tabChN_of (movedChN hZ hw)) hfr hlo m meth c P g ig mk _ X hg hsize hdg hW hn ⟨r1, r2, rfl, hx, hi, sta_is al S, hz, sta_is al F, rf⟩
  exact ⟨v, B, X', ⟨[], ⟨hv, rfl, hh⟩, hl, hk, hs⟩, st⟩
/-- what backV says of its String, as the contracts of this text ask it: cs's low bytes, coder 0 -/
theorem codOf {cs : List Int32} {n : Nat} (hn : cs.length = n) (hb : ∀ c ∈ cs, ¬ 255 < c) : CodA cs 0 (Int32.ofNat n) ((cs.map lo8).map Value.int) := Or.inl ⟨rfl, by rw [hn], by simp [List.map_map, Function.comp_def], hb⟩
end StrChars.Road
end Jvm.Pilot.@@N@@
namespace Jvm.Pilot.@@N@@
def own_ushr (x y : Int32) : Int32 := (x.toUInt32 >>> (y &&& 31).toUInt32).toInt32
def own_ushrL (x : Int64) (y : Int32) : Int64 := (x.toUInt64 >>> (y &&& 0x3f).toInt64.toUInt64).toInt64
def own_cmpL (x y : Int64) : Int32 := if x > y then 1 else if x = y then 0 else -1
open Jvm Jvm.ClassFile Sem Op Lib Jvm.Free Jvm.Stand Jvm.LawKit Jvm.RoadKit Bundle Jvm.Pilot.@@N@@.Jvm.D
abbrev uu : Slot := .unset
theorem own_wt {w : Nat} : 2 * 0 + w ≤ w := Nat.le_of_eq (Nat.zero_add w)
theorem own_rem_eq (x y : Int32) : x - x / y * y = x % y := by
  apply Int32.toInt_inj.mp
  have h := Int.tmod_add_mul_tdiv x.toInt y.toInt
  have e : (x % y).toInt = (x % y).toInt.bmod (2 ^ 32) := (Int.bmod_eq_of_le (Int32.le_toInt _) (Int32.toInt_lt _)).symm
  rw [e, Int32.toInt_sub, Int32.toInt_mul, Int32.toInt_div, Int32.toInt_mod, Int.sub_bmod_bmod, Int.sub_bmod, Int.bmod_mul_bmod, ← Int.sub_bmod]
  congr 1
  rw [Int.mul_comm (x.toInt.tdiv y.toInt)]
  omega
theorem own_W {a0 : Array Value} {Z : State} (hw : ∀ d ∈ tables_1, d.before a0 Z = true) (i : Nat) {d : Jvm.Cond} (h : tables_1[i]? = some d) : d.before a0 Z = true := hw d (List.mem_of_getElem? h)
theorem own_small (x : Int32) (h : x.toBitVec.toNat < 256) : nar .char (x.toUInt32.toUInt16.toUInt32.toInt32) = x ∧ ¬ x < 0 ∧ ¬ (255 : Int32) < x := by
  have t : ∀ k : Fin 256, nar .char ((Int32.ofNat k.val).toUInt32.toUInt16.toUInt32.toInt32) = Int32.ofNat k.val ∧ ¬ Int32.ofNat k.val < 0 ∧ ¬ (255 : Int32) < Int32.ofNat k.val := by decide +kernel
  have e : x = Int32.ofNat x.toBitVec.toNat := by
    apply Int32.toBitVec_inj.mp
    show _ = BitVec.ofNat 32 _
    rw [BitVec.ofNat_toNat]; simp
  rw [e]
  exact t ⟨_, h⟩
theorem own_andlt (x y : Int32) {k : Nat} (h : y.toBitVec.toNat < k) : (x &&& y).toBitVec.toNat < k := by
  rw [Int32.toBitVec_and, BitVec.toNat_and]
  exact Nat.lt_of_le_of_lt Nat.and_le_right h
theorem own_xorlt (x y : Int32) (hx : x.toBitVec.toNat < 2 ^ 8) (hy : y.toBitVec.toNat < 2 ^ 8) : (x ^^^ y).toBitVec.toNat < 256 := by
  rw [Int32.toBitVec_xor, BitVec.toNat_xor]
  exact Nat.xor_lt_two_pow hx hy
theorem own_narb (y : Int32) : nar .byte (StrChars.lo8 y) = StrChars.lo8 y := by
  show (y.toInt8.toInt32).toInt8.toInt32 = y.toInt8.toInt32
  simp
theorem own_charnat (c : Int32) (h0 : ¬ c < 0) (h1 : ¬ (65535 : Int32) < c) : c.toBitVec.toNat < 65536 := by
  rw [Int32.lt_iff_toInt_lt] at h0 h1
  have e0 : (0 : Int32).toInt = 0 := rfl
  have e1 : (65535 : Int32).toInt = 65535 := rfl
  have e2 : c.toInt = c.toBitVec.toInt := rfl
  rw [e0, e2] at h0; rw [e1, e2] at h1
  have := BitVec.toInt_eq_toNat_cond c.toBitVec
  have := c.toBitVec.isLt
  split at * <;> omega
theorem own_narc (c : Int32) (h0 : ¬ c < 0) (h1 : ¬ (65535 : Int32) < c) : nar .char c = c := by
  have h := own_charnat c h0 h1
  apply Int32.toBitVec_inj.mp
  apply BitVec.eq_of_toNat_eq
  show (c.toUInt32.toUInt16.toUInt32).toNat = c.toUInt32.toNat
  have e : c.toUInt32.toNat = c.toBitVec.toNat := rfl
  simp only [UInt16.toNat_toUInt32, UInt32.toNat_toUInt16]
  rw [e]; omega
/-- x is a String of the chars cs at h, its two cells below k -/
def StrB (Z : State) (h : Heap) (k : Nat) (a : Addr) (cs : List Int32) : Prop := a < k ∧ Exa Z h a "java/lang/String" ∧ ∃ (t : Addr) (kb : ClassId) (cd N2 : Int32) (vs : List Value), t < k ∧ Fld Z h a "java/lang/String" "value" "[B" (.ref t) ∧ Fld Z h a "java/lang/String" "coder" "B" (.int cd) ∧ Arv Z h t kb .byte N2 vs (.int 0) ∧ StrChars.Road.CodA cs cd N2 vs ∧ (∀ c ∈ cs, ¬ c < 0 ∧ ¬ (65535 : Int32) < c) ∧ cs.length ≤ 4000
theorem StrB.ext {Z : State} {h h' : Heap} {k : Nat} {a : Addr} {cs : List Int32} (F : StrB Z h k a cs) (E : Ext h h') : StrB Z h' k a cs := by
  obtain ⟨a1, a2, t, kb, cd, N2, vs, b1, b2, b3, b4, r⟩ := F
  exact ⟨a1, a2.ext E, t, kb, cd, N2, vs, b1, b2.ext E, b3.ext E, b4.ext E, r⟩
theorem own_notin {x : Addr} {k : Nat} {ws : List Addr} (h : x < k) (q : ∀ y ∈ ws, k ≤ y) : x ∉ ws := fun z => absurd h (Nat.not_lt.mpr (q x z))
theorem StrB.keep {Z : State} {h h' : Heap} {k : Nat} {a : Addr} {cs : List Int32} {ws : List Addr} (F : StrB Z h k a cs) (K : Keep h h' ws) (q : ∀ x ∈ ws, k ≤ x) : StrB Z h' k a cs := by
  obtain ⟨a1, a2, t, kb, cd, N2, vs, b1, b2, b3, b4, r⟩ := F
  exact ⟨a1, a2.keep K, t, kb, cd, N2, vs, b1, b2.keep K (own_notin a1 q), b3.keep K (own_notin a1 q), b4.keep K (own_notin b1 q), r⟩
theorem StrB.wr {Z : State} {h h' : Heap} {k : Nat} {a x : Addr} {cs : List Int32} {sl : Nat} {v : Value} (F : StrB Z h k a cs) (W : Wr h h' x sl v) (q : k ≤ x) : StrB Z h' k a cs := F.keep (Keep.of_wr W) (allS q all0)
theorem StrB.now {Z : State} {h : Heap} {k : Nat} {a : Addr} {cs : List Int32} (F : StrB Z h k a cs) : StrB Z h h.size a cs := by
  obtain ⟨a1, a2, t, kb, cd, N2, vs, b1, b2, b3, b4, r⟩ := F
  exact ⟨a2.lt, a2, t, kb, cd, N2, vs, b4.lt, b2, b3, b4, r⟩
theorem StrB.exa {Z : State} {h : Heap} {k : Nat} {a : Addr} {cs : List Int32} (F : StrB Z h k a cs) : Exa Z h a "java/lang/String" := F.2.1
theorem own_lenS {p : Program} {l : Launch} {e : Env} {R : Room} {s : State} {args : Array Value} {below : List Frame} {len W : Nat} {Z : State} {a0 : Array Value} {h : Heap} (hZ : Z.Warmed39 s.vm) (hw : ∀ d ∈ StrChars.Road.wordsLen, d.before a0 Z = true) {kI : Nat} (wi : (Jvm.Cond.instantiable "java/lang/String" kI).before a0 Z = true)
    {x : Addr} {k : Nat} {cs : List Int32} (F : StrB Z h k x cs) {z : Int32} (S : Sta Z h "java/lang/String" "COMPACT_STRINGS" "Z" (.int z)) (hz : ¬ z = 0) (hfr : 2 ≤ R.frames) (hlo : W + 25 ≤ R.locals) :
    Back l R p e below s args (⟨"java/lang/String", "length", "()I"⟩ : MethodName) len W (fun P a => a = #[.ref x] ∧ P.U.heap = h ∧ P.cells + 0 ≤ R.cells ∧ P.slots + 0 ≤ R.slots)
      (fun P _ v B => ∃ L, (v = some (.int (Int32.ofNat cs.length)) ∧ L = [] ∧ B.U.heap = h) ∧ B.locs = P.locs ++ L ∧ B.cells = P.cells + 0 ∧ B.slots = P.slots + 0) := by
  obtain ⟨_, E1, t, kb, cd, N2, vs, _, V1, C1, K1, hc, hb, hl⟩ := F
  exact StrChars.Road.lenW hZ hw wi E1 V1 C1 K1 hc hb S hz hl hfr hlo
abbrev own_EL : List (String × Nat) := [("com/example/shush/shush/Occurrence", 7), ("java/lang/String", 7)]
theorem own_EW {Z : State} {a0 : Array Value} (hw : ∀ d ∈ tables_1, d.before a0 Z = true) : EW Z a0 own_EL := (EW.cons (own_W hw 38 rfl) (by decide) (EW.cons (own_W hw 22 rfl) (by decide) EW.nil))
def own_J (Z : State) (EL : List (String × Nat)) (xs : List Addr) (h : Heap) (vm : Vm) : Prop := CHv Z EL vm h ∧ ∀ x ∈ xs, Safe Z EL vm h x
theorem own_backX {p : Program} {l : Launch} {e : Env} {R : Room} {s : State} {args : Array Value} {below : List Frame} {Z : State} {a0 : Array Value} {EL : List (String × Nat)} {h : Heap} {vm0 : Vm} {y : MethodName} {bytes : ByteArray} {maxL : Nat} {ret : Option FieldType} {rm : Room} {len W : Nat} {as' : Array Value} {Q : Option Value → Heap → List Loc → Prop} {xs : List Addr}
    (hM : MetFree l y (head1 [Jvm.Cond.code y bytes maxL ret] rm) (fun a U => a = as' ∧ Z.Warmed39 U.vm ∧ U.heap = h ∧ own_J Z EL xs h U.vm) (fun _ _ _ _ _ => True) (fun _ U o U' => ∃ v L, o = .returned v ∧ Q v U'.heap L ∧ CHr Z EL U.vm U.heap U'.vm U'.heap ∧ ReturnedEndW U o U' L rm.cells rm.slots))
    (hZ : Z.Warmed39 vm0) (wc : (Jvm.Cond.code y bytes maxL ret).before a0 Z = true) (wz : (Jvm.Cond.initialized y.cls).before a0 Z = true) (hf : rm.frames + 1 ≤ R.frames) (hl : W + (maxL + 11) + rm.locals ≤ R.locals) (hEL : EW Z a0 EL) (H : own_J Z EL xs h vm0) (hlt : ∀ x ∈ xs, x < h.size) :
    BackS l R p e below (s.setVm vm0) args y len W (fun A a => a = as' ∧ A.U.heap = h ∧ A.cells + rm.cells ≤ R.cells ∧ A.slots + rm.slots ≤ R.slots)
      (fun A _ v B => ∃ L, Q v B.U.heap L ∧ B.locs = A.locs ++ L ∧ B.cells = A.cells + rm.cells ∧ B.slots = A.slots + rm.slots ∧ CHr Z EL vm0 h B.U.vm B.U.heap) := by
  refine BackS.of_freeW (bytes := bytes) (maxL := maxL) (ret := ret) (E := fun _ first o t L k n => k = rm.cells ∧ n = rm.slots ∧ (∃ v, o = .returned v ∧ Q v t.heap L) ∧ CHr Z EL first.vm first.heap t.vm t.heap) hM hf hl ?_ ?_ (fun _ _ _ _ _ _ _ _ _ => trivial) ?_ ?_
  · intro m meth c A a Y hp
    have hU : Z.Warmed39 A.U.vm := wtrans (s := s.setVm vm0) hZ Y.warmed
    exact ⟨by show (Jvm.Cond.and _ .tt).before a A.U = true; rw [Cond.before_and, mv hU wc]; rfl, mv hU wc, mv hU wz, hp.2.2.1, hp.2.2.2⟩
  · intro m meth c A a g mk Y hp
    have hr := CHv.at Y hZ hEL H.1
    exact ⟨hp.1, wtrans (s := s.setVm vm0) hZ Y.warmed, hp.2.1, hr.1, fun x hx => hr.safe (hlt x hx) (H.2 x hx)⟩
  · rintro _ _ _ _ ⟨v, L, h1, h2, h3, h4⟩
    exact ⟨L, _, _, h4, rfl, rfl, ⟨v, h1, h2⟩, h3⟩
  · rintro m meth c A a g mk v t L k n Y hp _ _ ⟨e1, e2, ⟨v', e3, e4⟩, e5⟩
    cases e3; subst e1 e2
    refine ⟨L, e4, rfl, rfl, rfl, (CHv.at Y hZ hEL H.1).trans ?_⟩
    rw [← hp.2.1]; exact e5

theorem own_pn_8 : plainName "jdk/internal/util/Preconditions" = true := by decide +kernel
theorem own_d3_0 : decode jdk_41_method_11_code 0 = .ok (.iload_n 0, 1) := by decide +kernel
theorem own_d3_1 : decode jdk_41_method_11_code 1 = .ok (.ifCond .lt 8, 3) := by decide +kernel
theorem own_d3_4 : decode jdk_41_method_11_code 4 = .ok (.iload_n 0, 1) := by decide +kernel
theorem own_d3_5 : decode jdk_41_method_11_code 5 = .ok (.iload_n 1, 1) := by decide +kernel
theorem own_d3_6 : decode jdk_41_method_11_code 6 = .ok (.if_icmp .lt 10, 3) := by decide +kernel
theorem own_d3_16 : decode jdk_41_method_11_code 16 = .ok (.iload_n 0, 1) := by decide +kernel
theorem own_d3_17 : decode jdk_41_method_11_code 17 = .ok (.ireturn, 1) := by decide +kernel
theorem own_ef_pcN (m : MethodId) (x0 : Int32) (x1 : Int32) : entryFrame m #[(.int x0), (.int x1), .null] 3 = mkF m 0 #[iv x0, iv x1, .val .null] [] := by first | (simp [entryFrame, mkF, argsToLocals, Value.category]; done) | rfl
def Q_pcN (Z : State) (i1 n1 : Int32) (h0 : Heap) (n0 : Nat) (v : Option Value) (h : Heap) (L : List Loc) : Prop := v = some (.int i1) ∧ Fr n0 L ∧ h = h0
set_option maxRecDepth 65536 in
set_option maxHeartbeats 40000000 in
theorem rm_pcN (l : Launch) (Z : State) (a0 : Array Value) (hw : ∀ d ∈ tables_1, d.before a0 Z = true) (ws : List Jvm.Cond) (i1 n1 : Int32) (h0 : Heap) (n0 : Nat) (Z0 : n0 ≤ h0.size) (hi : ¬ i1 < 0) (hn : i1 < n1) :
    MetFree l (⟨"jdk/internal/util/Preconditions", "checkIndex", "(IILjava/util/function/BiFunction;)I"⟩ : MethodName) (head1 (Jvm.Cond.code (⟨"jdk/internal/util/Preconditions", "checkIndex", "(IILjava/util/function/BiFunction;)I"⟩ : MethodName) jdk_41_method_11_code 3 (some .int) :: ws) ({ frames := 0, cells := 0, slots := 0, locals := 0 } : Room)) (fun a U => a = #[(.int i1), (.int n1), .null] ∧ Z.Warmed39 U.vm ∧ U.heap = h0) (fun _ _ _ _ _ => True) (fun _ U o U' => ∃ v L, o = .returned v ∧ Q_pcN Z i1 n1 h0 n0 v U'.heap L ∧ FrameEnd U o U' L ({ frames := 0, cells := 0, slots := 0, locals := 0 } : Room).cells ({ frames := 0, cells := 0, slots := 0, locals := 0 } : Room).slots) := by
  refine MetFree.of_bodySF (plainFor_of_name own_pn_8) hisR ?_
  intro p e s m args below meth c s₁ Bd hml0 hP hK
  obtain ⟨rfl, hZ, hh⟩ := hP
  have hx := Bd.exec
  have hby := Bd.bytes
  have hml : c.maxLocals = 3 := hml0
  have hown : s.vm.findClass "jdk/internal/util/Preconditions" = some m.cls := findClass_of_methodNamed Bd.named
  have hnm := (name_of_methodNamed Bd.named Bd.method).1
  have W := own_W hw
  have X0 : Stand p l e ({ frames := 0, cells := 0, slots := 0, locals := 0 } : Room) s m #[(.int i1), (.int n1), .null] below meth c s₁ [] 0 0 := Stand.of_body Bd
  have e0 : s₁.heap = h0 := by rw [← hh, Bd.state]; rfl
  have N0 := Fr.nil n0
  have pre0 : ∀ tq, Steps p.tables e below (s₁.setTop (mkF m 0 #[iv i1, iv n1, .val .null] [])) tq → Steps p.tables e below (s₁.setTop (entryFrame m #[(.int i1), (.int n1), .null] 3)) tq := fun tq k => castTop (own_ef_pcN m i1 n1) k
  obtain ⟨fs, hr, hrun, hended, hW, hsame⟩ := X0.leave (v := some (.int i1)) (fun h => by rw [Bd.returns] at h; cases h)
  refine ⟨_, _, pre0 _ (?_), hrun, hended, _, _, rfl, ?_, ⟨_, rfl⟩, hW, hsame.mono (by decide) (by decide)⟩
  · show Steps _ _ _ (s₁.setTop (mkF m 0 #[iv i1, iv n1, .val .null] [])) _
    refine XS.iloadN X0.here hx rfl (hb hby own_d3_0) rfl ?_
    show Steps _ _ _ (s₁.setTop (mkF m 1 _ [.int i1])) _
    refine XS.ifNo X0.here hx rfl (hb hby own_d3_1) rfl ((if0 _ _).trans (flt (hi : ¬ (i1 < (0 : Int32)))).1) ?_
    show Steps _ _ _ (s₁.setTop (mkF m 4 _ [])) _
    refine XS.iloadN X0.here hx rfl (hb hby own_d3_4) rfl ?_
    show Steps _ _ _ (s₁.setTop (mkF m 5 _ [.int i1])) _
    refine XS.iloadN X0.here hx rfl (hb hby own_d3_5) rfl ?_
    show Steps _ _ _ (s₁.setTop (mkF m 6 _ [.int n1, .int i1])) _
    refine XS.icmpYes X0.here hx rfl (pc0 := 6) (pc' := 16) rfl (hb hby own_d3_6) rfl (tlt (hn : i1 < n1)).1 (by decide) (by decide) ?_
    show Steps _ _ _ (s₁.setTop (mkF m 16 _ [])) _
    refine XS.iloadN X0.here hx rfl (hb hby own_d3_16) rfl ?_
    show Steps _ _ _ (s₁.setTop (mkF m 17 _ [.int i1])) _
    exact retI X0 hx Bd.returns (hb hby own_d3_17) hr
  · show Q_pcN Z i1 n1 h0 n0 _ s₁.heap _
    rw [e0]
    exact ⟨rfl, N0, rfl⟩
theorem own_ef_pcR (m : MethodId) (x0 : Int32) (x1 : Int32) (x2 : Addr) : entryFrame m #[(.int x0), (.int x1), (.ref x2)] 3 = mkF m 0 #[iv x0, iv x1, rv x2] [] := by first | (simp [entryFrame, mkF, argsToLocals, Value.category]; done) | rfl
def Q_pcR (Z : State) (i1 n1 : Int32) (f1 : Addr) (h0 : Heap) (n0 : Nat) (v : Option Value) (h : Heap) (L : List Loc) : Prop := v = some (.int i1) ∧ Fr n0 L ∧ h = h0
set_option maxRecDepth 65536 in
set_option maxHeartbeats 40000000 in
theorem rm_pcR (l : Launch) (Z : State) (a0 : Array Value) (hw : ∀ d ∈ tables_1, d.before a0 Z = true) (ws : List Jvm.Cond) (i1 n1 : Int32) (f1 : Addr) (h0 : Heap) (n0 : Nat) (Z0 : n0 ≤ h0.size) (hi : ¬ i1 < 0) (hn : i1 < n1) :
    MetFree l (⟨"jdk/internal/util/Preconditions", "checkIndex", "(IILjava/util/function/BiFunction;)I"⟩ : MethodName) (head1 (Jvm.Cond.code (⟨"jdk/internal/util/Preconditions", "checkIndex", "(IILjava/util/function/BiFunction;)I"⟩ : MethodName) jdk_41_method_11_code 3 (some .int) :: ws) ({ frames := 0, cells := 0, slots := 0, locals := 0 } : Room)) (fun a U => a = #[(.int i1), (.int n1), (.ref f1)] ∧ Z.Warmed39 U.vm ∧ U.heap = h0) (fun _ _ _ _ _ => True) (fun _ U o U' => ∃ v L, o = .returned v ∧ Q_pcR Z i1 n1 f1 h0 n0 v U'.heap L ∧ FrameEnd U o U' L ({ frames := 0, cells := 0, slots := 0, locals := 0 } : Room).cells ({ frames := 0, cells := 0, slots := 0, locals := 0 } : Room).slots) := by
  refine MetFree.of_bodySF (plainFor_of_name own_pn_8) hisR ?_
  intro p e s m args below meth c s₁ Bd hml0 hP hK
  obtain ⟨rfl, hZ, hh⟩ := hP
  have hx := Bd.exec
  have hby := Bd.bytes
  have hml : c.maxLocals = 3 := hml0
  have hown : s.vm.findClass "jdk/internal/util/Preconditions" = some m.cls := findClass_of_methodNamed Bd.named
  have hnm := (name_of_methodNamed Bd.named Bd.method).1
  have W := own_W hw
  have X0 : Stand p l e ({ frames := 0, cells := 0, slots := 0, locals := 0 } : Room) s m #[(.int i1), (.int n1), (.ref f1)] below meth c s₁ [] 0 0 := Stand.of_body Bd
  have e0 : s₁.heap = h0 := by rw [← hh, Bd.state]; rfl
  have N0 := Fr.nil n0
  have pre0 : ∀ tq, Steps p.tables e below (s₁.setTop (mkF m 0 #[iv i1, iv n1, rv f1] [])) tq → Steps p.tables e below (s₁.setTop (entryFrame m #[(.int i1), (.int n1), (.ref f1)] 3)) tq := fun tq k => castTop (own_ef_pcR m i1 n1 f1) k
  obtain ⟨fs, hr, hrun, hended, hW, hsame⟩ := X0.leave (v := some (.int i1)) (fun h => by rw [Bd.returns] at h; cases h)
  refine ⟨_, _, pre0 _ (?_), hrun, hended, _, _, rfl, ?_, ⟨_, rfl⟩, hW, hsame.mono (by decide) (by decide)⟩
  · show Steps _ _ _ (s₁.setTop (mkF m 0 #[iv i1, iv n1, rv f1] [])) _
    refine XS.iloadN X0.here hx rfl (hb hby own_d3_0) rfl ?_
    show Steps _ _ _ (s₁.setTop (mkF m 1 _ [.int i1])) _
    refine XS.ifNo X0.here hx rfl (hb hby own_d3_1) rfl ((if0 _ _).trans (flt (hi : ¬ (i1 < (0 : Int32)))).1) ?_
    show Steps _ _ _ (s₁.setTop (mkF m 4 _ [])) _
    refine XS.iloadN X0.here hx rfl (hb hby own_d3_4) rfl ?_
    show Steps _ _ _ (s₁.setTop (mkF m 5 _ [.int i1])) _
    refine XS.iloadN X0.here hx rfl (hb hby own_d3_5) rfl ?_
    show Steps _ _ _ (s₁.setTop (mkF m 6 _ [.int n1, .int i1])) _
    refine XS.icmpYes X0.here hx rfl (pc0 := 6) (pc' := 16) rfl (hb hby own_d3_6) rfl (tlt (hn : i1 < n1)).1 (by decide) (by decide) ?_
    show Steps _ _ _ (s₁.setTop (mkF m 16 _ [])) _
    refine XS.iloadN X0.here hx rfl (hb hby own_d3_16) rfl ?_
    show Steps _ _ _ (s₁.setTop (mkF m 17 _ [.int i1])) _
    exact retI X0 hx Bd.returns (hb hby own_d3_17) hr
  · show Q_pcR Z i1 n1 f1 h0 n0 _ s₁.heap _
    rw [e0]
    exact ⟨rfl, N0, rfl⟩
theorem own_pn_4 : plainName "java/lang/String" = true := by decide +kernel
theorem own_d8_0 : decode jdk_42_method_155_code 0 = .ok (.iload_n 0, 1) := by decide +kernel
theorem own_d8_1 : decode jdk_42_method_155_code 1 = .ok (.iload_n 1, 1) := by decide +kernel
theorem own_d8_2 : decode jdk_42_method_155_code 2 = .ok (.getstatic 1053, 3) := by decide +kernel
theorem own_d8_5 : decode jdk_42_method_155_code 5 = .ok (.invokestatic 1059, 3) := by decide +kernel
theorem own_pd_20 : parseMethodDescriptor "(IILjava/util/function/BiFunction;)I" = some ⟨[.int, .int, (.object "java/util/function/BiFunction")], some .int⟩ := by decide +kernel
theorem own_d8_8 : decode jdk_42_method_155_code 8 = .ok (.pop, 1) := by decide +kernel
theorem own_d8_9 : decode jdk_42_method_155_code 9 = .ok (.return_, 1) := by decide +kernel
theorem own_ef_sci (m : MethodId) (x0 : Int32) (x1 : Int32) : entryFrame m #[(.int x0), (.int x1)] 2 = mkF m 0 #[iv x0, iv x1] [] := by first | (simp [entryFrame, mkF, argsToLocals, Value.category]; done) | rfl
def Q_sci (Z : State) (i1 n1 : Int32) (G3 : Value) (h0 : Heap) (n0 : Nat) (v : Option Value) (h : Heap) (L : List Loc) : Prop := v = none ∧ Fr n0 L ∧ h = h0
set_option maxRecDepth 65536 in
set_option maxHeartbeats 40000000 in
theorem rm_sci (l : Launch) (Z : State) (a0 : Array Value) (hw : ∀ d ∈ tables_1, d.before a0 Z = true) (ws : List Jvm.Cond) (i1 n1 : Int32) (G3 : Value) (h0 : Heap) (n0 : Nat) (Z0 : n0 ≤ h0.size) (X00 : Old Z n0 h0) (hi : ¬ i1 < 0) (hn : i1 < n1) (O4 : Sta Z Z.heap "jdk/internal/util/Preconditions" "SIOOBE_FORMATTER" "Ljava/util/function/BiFunction;" G3) (rG3 : G3.isRef = true) :
    MetFree l (⟨"java/lang/String", "checkIndex", "(II)V"⟩ : MethodName) (head1 (Jvm.Cond.code (⟨"java/lang/String", "checkIndex", "(II)V"⟩ : MethodName) jdk_42_method_155_code 2 none :: ws) ({ frames := 1, cells := 0, slots := 0, locals := 16 } : Room)) (fun a U => a = #[(.int i1), (.int n1)] ∧ Z.Warmed39 U.vm ∧ U.heap = h0) (fun _ _ _ _ _ => True) (fun _ U o U' => ∃ v L, o = .returned v ∧ Q_sci Z i1 n1 G3 h0 n0 v U'.heap L ∧ FrameEnd U o U' L ({ frames := 1, cells := 0, slots := 0, locals := 16 } : Room).cells ({ frames := 1, cells := 0, slots := 0, locals := 16 } : Room).slots) := by
  refine MetFree.of_bodySF (plainFor_of_name own_pn_4) hisR ?_
  intro p e s m args below meth c s₁ Bd hml0 hP hK
  obtain ⟨rfl, hZ, hh⟩ := hP
  have hx := Bd.exec
  have hby := Bd.bytes
  have hml : c.maxLocals = 2 := hml0
  have hown : s.vm.findClass "java/lang/String" = some m.cls := findClass_of_methodNamed Bd.named
  have hnm := (name_of_methodNamed Bd.named Bd.method).1
  have W := own_W hw
  have X0 : Stand p l e ({ frames := 1, cells := 0, slots := 0, locals := 16 } : Room) s m #[(.int i1), (.int n1)] below meth c s₁ [] 0 0 := Stand.of_body Bd
  have e0 : s₁.heap = h0 := by rw [← hh, Bd.state]; rfl
  have N0 := Fr.nil n0
  have pre0 : ∀ tq, Steps p.tables e below (s₁.setTop (mkF m 0 #[iv i1, iv n1] [])) tq → Steps p.tables e below (s₁.setTop (entryFrame m #[(.int i1), (.int n1)] 2)) tq := fun tq k => castTop (own_ef_sci m i1 n1) k
  rcases ref_cases rG3 with rfl | ⟨f1, rfl⟩
  · obtain ⟨T1, X1, e1, st1⟩ := getS2 X0 hx hZ hown (host := "") (Or.inl (W 130 rfl)) Via.refl e0 (O4.ext X00.2) (g := (mkF m 2 #[iv i1, iv n1] [.int n1, .int i1])) rfl (hb hby own_d8_2)
    obtain ⟨_, _, ⟨T2, L2, k2, n2⟩, -, X2, ⟨Lc2, hQ2, l2, y2, z2⟩, st2⟩ := Jvm.LawKit.callS X1 hx (y := (⟨"jdk/internal/util/Preconditions", "checkIndex", "(IILjava/util/function/BiFunction;)I"⟩ : MethodName)) hown (mvT hZ (W 131 rfl)) (mvT hZ (W 132 rfl)) (mvT hZ (W 79 rfl)) (mvT hZ (W 133 rfl)) (by decide) (backOf (W := 0) (rm_pcN l Z a0 hw [] i1 n1 h0 n0 Z0 hi hn) hZ (W 133 rfl) (W 79 rfl) (by decide) (by decide)) (g := (mkF m 5 #[iv i1, iv n1] [.null, .int n1, .int i1])) rfl (by rw [hml]; rfl) (argsL := [.int i1, .int n1, .null]) (rest := []) (lenOf own_pd_20 rfl) rfl own_wt (hb hby own_d8_5) (fun _ _ => ⟨rfl, e1, (by decide : 0 + 0 ≤ _), (by decide : 0 + 0 ≤ _)⟩)
    dsimp only [Pt.U, Pt.locs, Pt.cells, Pt.slots] at X2 l2 y2 z2 st2 hQ2
    subst l2 y2 z2
    obtain ⟨rfl, Nq2, e2⟩ := hQ2
    have N2 := Fr.app N0 Nq2
    obtain ⟨fs, hr, hrun, hended, hW, hsame⟩ := X2.leave (v := none) (fun _ => rfl)
    refine ⟨_, _, pre0 _ (?_), hrun, hended, _, _, rfl, ?_, ⟨_, rfl⟩, hW, hsame.mono (by decide) (by decide)⟩
    · show Steps _ _ _ (s₁.setTop (mkF m 0 #[iv i1, iv n1] [])) _
      refine XS.iloadN X0.here hx rfl (hb hby own_d8_0) rfl ?_
      show Steps _ _ _ (s₁.setTop (mkF m 1 _ [.int i1])) _
      refine XS.iloadN X0.here hx rfl (hb hby own_d8_1) rfl ?_
      show Steps _ _ _ (s₁.setTop (mkF m 2 _ [.int n1, .int i1])) _
      refine st1 _ ?_
      show Steps _ _ _ (T1.setTop (mkF m 5 #[iv i1, iv n1] [.null, .int n1, .int i1])) _
      refine st2 _ ?_
      show Steps _ _ _ (T2.setTop (mkF m 8 #[iv i1, iv n1] [.int i1])) _
      refine XS.pop X2.here hx rfl (hb hby own_d8_8) rfl rfl ?_
      show Steps _ _ _ (T2.setTop (mkF m 9 _ [])) _
      exact X2.returnOut hx Bd.returns (hb hby own_d8_9) hr
    · show Q_sci Z i1 n1 _ h0 n0 _ T2.heap _
      rw [e2]
      exact ⟨rfl, N2, rfl⟩
  · obtain ⟨T3, X3, e3, st3⟩ := getS2 X0 hx hZ hown (host := "") (Or.inl (W 130 rfl)) Via.refl e0 (O4.ext X00.2) (g := (mkF m 2 #[iv i1, iv n1] [.int n1, .int i1])) rfl (hb hby own_d8_2)
    obtain ⟨_, _, ⟨T4, L4, k4, n4⟩, -, X4, ⟨Lc4, hQ4, l4, y4, z4⟩, st4⟩ := Jvm.LawKit.callS X3 hx (y := (⟨"jdk/internal/util/Preconditions", "checkIndex", "(IILjava/util/function/BiFunction;)I"⟩ : MethodName)) hown (mvT hZ (W 131 rfl)) (mvT hZ (W 132 rfl)) (mvT hZ (W 79 rfl)) (mvT hZ (W 133 rfl)) (by decide) (backOf (W := 0) (rm_pcR l Z a0 hw [] i1 n1 f1 h0 n0 Z0 hi hn) hZ (W 133 rfl) (W 79 rfl) (by decide) (by decide)) (g := (mkF m 5 #[iv i1, iv n1] [.ref f1, .int n1, .int i1])) rfl (by rw [hml]; rfl) (argsL := [.int i1, .int n1, .ref f1]) (rest := []) (lenOf own_pd_20 rfl) rfl own_wt (hb hby own_d8_5) (fun _ _ => ⟨rfl, e3, (by decide : 0 + 0 ≤ _), (by decide : 0 + 0 ≤ _)⟩)
    dsimp only [Pt.U, Pt.locs, Pt.cells, Pt.slots] at X4 l4 y4 z4 st4 hQ4
    subst l4 y4 z4
    obtain ⟨rfl, Nq4, e4⟩ := hQ4
    have N4 := Fr.app N0 Nq4
    obtain ⟨fs, hr, hrun, hended, hW, hsame⟩ := X4.leave (v := none) (fun _ => rfl)
    refine ⟨_, _, pre0 _ (?_), hrun, hended, _, _, rfl, ?_, ⟨_, rfl⟩, hW, hsame.mono (by decide) (by decide)⟩
    · show Steps _ _ _ (s₁.setTop (mkF m 0 #[iv i1, iv n1] [])) _
      refine XS.iloadN X0.here hx rfl (hb hby own_d8_0) rfl ?_
      show Steps _ _ _ (s₁.setTop (mkF m 1 _ [.int i1])) _
      refine XS.iloadN X0.here hx rfl (hb hby own_d8_1) rfl ?_
      show Steps _ _ _ (s₁.setTop (mkF m 2 _ [.int n1, .int i1])) _
      refine st3 _ ?_
      show Steps _ _ _ (T3.setTop (mkF m 5 #[iv i1, iv n1] [.ref f1, .int n1, .int i1])) _
      refine st4 _ ?_
      show Steps _ _ _ (T4.setTop (mkF m 8 #[iv i1, iv n1] [.int i1])) _
      refine XS.pop X4.here hx rfl (hb hby own_d8_8) rfl rfl ?_
      show Steps _ _ _ (T4.setTop (mkF m 9 _ [])) _
      exact X4.returnOut hx Bd.returns (hb hby own_d8_9) hr
    · show Q_sci Z i1 n1 _ h0 n0 _ T4.heap _
      rw [e4]
      exact ⟨rfl, N4, rfl⟩
theorem own_pn_6 : plainName "java/lang/StringUTF16" = true := by decide +kernel
theorem own_d25_0 : decode jdk_52_method_6_code 0 = .ok (.aload_n 0, 1) := by decide +kernel
theorem own_d25_1 : decode jdk_52_method_6_code 1 = .ok (.arraylength, 1) := by decide +kernel
theorem own_d25_2 : decode jdk_52_method_6_code 2 = .ok (.iconst 1, 1) := by decide +kernel
theorem own_d25_3 : decode jdk_52_method_6_code 3 = .ok (.ishr, 1) := by decide +kernel
theorem own_d25_4 : decode jdk_52_method_6_code 4 = .ok (.ireturn, 1) := by decide +kernel
theorem own_ef_ulen (m : MethodId) (x0 : Addr) : entryFrame m #[(.ref x0)] 1 = mkF m 0 #[rv x0] [] := by first | (simp [entryFrame, mkF, argsToLocals, Value.category]; done) | rfl
def Q_ulen (Z : State) (t1 : Addr) (kb : ClassId) (N2 n1 : Int32) (vs : List Value) (h0 : Heap) (n0 : Nat) (v : Option Value) (h : Heap) (L : List Loc) : Prop := v = some (.int n1) ∧ Fr n0 L ∧ h = h0
set_option maxRecDepth 65536 in
set_option maxHeartbeats 40000000 in
theorem rm_ulen (l : Launch) (Z : State) (a0 : Array Value) (hw : ∀ d ∈ tables_1, d.before a0 Z = true) (ws : List Jvm.Cond) (t1 : Addr) (kb : ClassId) (N2 n1 : Int32) (vs : List Value) (h0 : Heap) (n0 : Nat) (Z0 : n0 ≤ h0.size) (V1 : Arv Z h0 t1 kb .byte N2 vs (.int 0)) (hN : N2 >>> ((1 : Int32) &&& 31) = n1) :
    MetFree l (⟨"java/lang/StringUTF16", "length", "([B)I"⟩ : MethodName) (head1 (Jvm.Cond.code (⟨"java/lang/StringUTF16", "length", "([B)I"⟩ : MethodName) jdk_52_method_6_code 1 (some .int) :: ws) ({ frames := 0, cells := 0, slots := 0, locals := 0 } : Room)) (fun a U => a = #[(.ref t1)] ∧ Z.Warmed39 U.vm ∧ U.heap = h0) (fun _ _ _ _ _ => True) (fun _ U o U' => ∃ v L, o = .returned v ∧ Q_ulen Z t1 kb N2 n1 vs h0 n0 v U'.heap L ∧ FrameEnd U o U' L ({ frames := 0, cells := 0, slots := 0, locals := 0 } : Room).cells ({ frames := 0, cells := 0, slots := 0, locals := 0 } : Room).slots) := by
  refine MetFree.of_bodySF (plainFor_of_name own_pn_6) hisR ?_
  intro p e s m args below meth c s₁ Bd hml0 hP hK
  obtain ⟨rfl, hZ, hh⟩ := hP
  have hx := Bd.exec
  have hby := Bd.bytes
  have hml : c.maxLocals = 1 := hml0
  have hown : s.vm.findClass "java/lang/StringUTF16" = some m.cls := findClass_of_methodNamed Bd.named
  have hnm := (name_of_methodNamed Bd.named Bd.method).1
  have W := own_W hw
  have X0 : Stand p l e ({ frames := 0, cells := 0, slots := 0, locals := 0 } : Room) s m #[(.ref t1)] below meth c s₁ [] 0 0 := Stand.of_body Bd
  have e0 : s₁.heap = h0 := by rw [← hh, Bd.state]; rfl
  have N0 := Fr.nil n0
  have pre0 : ∀ tq, Steps p.tables e below (s₁.setTop (mkF m 0 #[rv t1] [])) tq → Steps p.tables e below (s₁.setTop (entryFrame m #[(.ref t1)] 1)) tq := fun tq k => castTop (own_ef_ulen m t1) k
  obtain ⟨cl5, Ar5, aq5, aS5, aN5, aH5, aG5⟩ := id V1
  obtain ⟨fs, hr, hrun, hended, hW, hsame⟩ := X0.leave (v := some (.int n1)) (fun h => by rw [Bd.returns] at h; cases h)
  refine ⟨_, _, pre0 _ (?_), hrun, hended, _, _, rfl, ?_, ⟨_, rfl⟩, hW, hsame.mono (by decide) (by decide)⟩
  · show Steps _ _ _ (s₁.setTop (mkF m 0 #[rv t1] [])) _
    refine XS.aloadN X0.here hx rfl (hb hby own_d25_0) rfl rfl ?_
    show Steps _ _ _ (s₁.setTop (mkF m 1 _ [.ref t1])) _
    refine X0.arraylength hx (by rw [e0]; exact Ar5.1) (State.isArrayOf_alike hZ.alike Ar5.2.1) (g := (mkF m 1 #[rv t1] [.ref t1])) rfl rfl (hb hby own_d25_1) _ ?_
    rw [len_of aS5 aN5]
    show Steps _ _ _ (s₁.setTop (mkF m 2 #[rv t1] [.int N2])) _
    refine XS.iconst X0.here hx rfl (hb hby own_d25_2) ?_
    show Steps _ _ _ (s₁.setTop (mkF m 3 _ [.int 1, .int N2])) _
    refine XS.ishr X0.here hx rfl (hb hby own_d25_3) rfl ?_
    rw [hN]
    show Steps _ _ _ (s₁.setTop (mkF m 4 #[rv t1] [.int n1])) _
    exact retI X0 hx Bd.returns (hb hby own_d25_4) hr
  · show Q_ulen Z t1 kb N2 n1 vs h0 n0 _ s₁.heap _
    rw [e0]
    exact ⟨rfl, N0, rfl⟩
theorem own_d27_0 : decode jdk_52_method_91_code 0 = .ok (.iload_n 0, 1) := by decide +kernel
theorem own_d27_1 : decode jdk_52_method_91_code 1 = .ok (.aload_n 1, 1) := by decide +kernel
theorem own_d27_2 : decode jdk_52_method_91_code 2 = .ok (.invokestatic 48, 3) := by decide +kernel
theorem own_pd_28 : parseMethodDescriptor "([B)I" = some ⟨[(.array .byte)], some .int⟩ := by decide +kernel
theorem own_d27_5 : decode jdk_52_method_91_code 5 = .ok (.invokestatic 414, 3) := by decide +kernel
theorem own_pd_19 : parseMethodDescriptor "(II)V" = some ⟨[.int, .int], none⟩ := by decide +kernel
theorem own_d27_8 : decode jdk_52_method_91_code 8 = .ok (.return_, 1) := by decide +kernel
theorem own_ef_uci (m : MethodId) (x0 : Int32) (x1 : Addr) : entryFrame m #[(.int x0), (.ref x1)] 2 = mkF m 0 #[iv x0, rv x1] [] := by first | (simp [entryFrame, mkF, argsToLocals, Value.category]; done) | rfl
def Q_uci (Z : State) (i1 : Int32) (t1 : Addr) (kb : ClassId) (N2 n1 : Int32) (vs : List Value) (G3 : Value) (h0 : Heap) (n0 : Nat) (v : Option Value) (h : Heap) (L : List Loc) : Prop := v = none ∧ Fr n0 L ∧ h = h0
set_option maxRecDepth 65536 in
set_option maxHeartbeats 40000000 in
theorem rm_uci (l : Launch) (Z : State) (a0 : Array Value) (hw : ∀ d ∈ tables_1, d.before a0 Z = true) (ws : List Jvm.Cond) (i1 : Int32) (t1 : Addr) (kb : ClassId) (N2 n1 : Int32) (vs : List Value) (G3 : Value) (h0 : Heap) (n0 : Nat) (Z0 : n0 ≤ h0.size) (X00 : Old Z n0 h0) (V1 : Arv Z h0 t1 kb .byte N2 vs (.int 0)) (hN : N2 >>> ((1 : Int32) &&& 31) = n1) (hi : ¬ i1 < 0) (hn : i1 < n1) (O4 : Sta Z Z.heap "jdk/internal/util/Preconditions" "SIOOBE_FORMATTER" "Ljava/util/function/BiFunction;" G3) (rG3 : G3.isRef = true) :
    MetFree l (⟨"java/lang/StringUTF16", "checkIndex", "(I[B)V"⟩ : MethodName) (head1 (Jvm.Cond.code (⟨"java/lang/StringUTF16", "checkIndex", "(I[B)V"⟩ : MethodName) jdk_52_method_91_code 2 none :: ws) ({ frames := 2, cells := 0, slots := 0, locals := 40 } : Room)) (fun a U => a = #[(.int i1), (.ref t1)] ∧ Z.Warmed39 U.vm ∧ U.heap = h0) (fun _ _ _ _ _ => True) (fun _ U o U' => ∃ v L, o = .returned v ∧ Q_uci Z i1 t1 kb N2 n1 vs G3 h0 n0 v U'.heap L ∧ FrameEnd U o U' L ({ frames := 2, cells := 0, slots := 0, locals := 40 } : Room).cells ({ frames := 2, cells := 0, slots := 0, locals := 40 } : Room).slots) := by
  refine MetFree.of_bodySF (plainFor_of_name own_pn_6) hisR ?_
  intro p e s m args below meth c s₁ Bd hml0 hP hK
  obtain ⟨rfl, hZ, hh⟩ := hP
  have hx := Bd.exec
  have hby := Bd.bytes
  have hml : c.maxLocals = 2 := hml0
  have hown : s.vm.findClass "java/lang/StringUTF16" = some m.cls := findClass_of_methodNamed Bd.named
  have hnm := (name_of_methodNamed Bd.named Bd.method).1
  have W := own_W hw
  have X0 : Stand p l e ({ frames := 2, cells := 0, slots := 0, locals := 40 } : Room) s m #[(.int i1), (.ref t1)] below meth c s₁ [] 0 0 := Stand.of_body Bd
  have e0 : s₁.heap = h0 := by rw [← hh, Bd.state]; rfl
  have N0 := Fr.nil n0
  have pre0 : ∀ tq, Steps p.tables e below (s₁.setTop (mkF m 0 #[iv i1, rv t1] [])) tq → Steps p.tables e below (s₁.setTop (entryFrame m #[(.int i1), (.ref t1)] 2)) tq := fun tq k => castTop (own_ef_uci m i1 t1) k
  obtain ⟨_, _, ⟨T6, L6, k6, n6⟩, -, X6, ⟨Lc6, hQ6, l6, y6, z6⟩, st6⟩ := Jvm.LawKit.callS X0 hx (y := (⟨"java/lang/StringUTF16", "length", "([B)I"⟩ : MethodName)) hown (mvT hZ (W 175 rfl)) (mvT hZ (W 176 rfl)) (mvT hZ (W 91 rfl)) (mvT hZ (W 177 rfl)) (by decide) (backOf (W := 1) (rm_ulen l Z a0 hw [] t1 kb N2 n1 vs h0 n0 Z0 V1 hN) hZ (W 177 rfl) (W 91 rfl) (by decide) (by decide)) (g := (mkF m 2 #[iv i1, rv t1] [.ref t1, .int i1])) rfl (by rw [hml]; rfl) (argsL := [.ref t1]) (rest := [.int i1]) (lenOf own_pd_28 rfl) rfl own_wt (hb hby own_d27_2) (fun _ _ => ⟨rfl, e0, (by decide : 0 + 0 ≤ _), (by decide : 0 + 0 ≤ _)⟩)
  dsimp only [Pt.U, Pt.locs, Pt.cells, Pt.slots] at X6 l6 y6 z6 st6 hQ6
  subst l6 y6 z6
  obtain ⟨rfl, Nq6, e6⟩ := hQ6
  have N6 := Fr.app N0 Nq6
  obtain ⟨_, _, ⟨T7, L7, k7, n7⟩, -, X7, ⟨Lc7, hQ7, l7, y7, z7⟩, st7⟩ := Jvm.LawKit.callS X6 hx (y := (⟨"java/lang/String", "checkIndex", "(II)V"⟩ : MethodName)) hown (mvT hZ (W 178 rfl)) (mvT hZ (W 128 rfl)) (mvT hZ (W 11 rfl)) (mvT hZ (W 129 rfl)) (by decide) (backOf (W := 0) (rm_sci l Z a0 hw [] i1 n1 G3 h0 n0 Z0 X00 hi hn O4 rG3) hZ (W 129 rfl) (W 11 rfl) (by decide) (by decide)) (g := (mkF m 5 #[iv i1, rv t1] [.int n1, .int i1])) rfl (by rw [hml]; rfl) (argsL := [.int i1, .int n1]) (rest := []) (lenOf own_pd_19 rfl) rfl own_wt (hb hby own_d27_5) (fun _ _ => ⟨rfl, e6, (by decide : 0 + 0 ≤ _), (by decide : 0 + 0 ≤ _)⟩)
  dsimp only [Pt.U, Pt.locs, Pt.cells, Pt.slots] at X7 l7 y7 z7 st7 hQ7
  subst l7 y7 z7
  obtain ⟨rfl, Nq7, e7⟩ := hQ7
  have N7 := Fr.app N6 Nq7
  obtain ⟨fs, hr, hrun, hended, hW, hsame⟩ := X7.leave (v := none) (fun _ => rfl)
  refine ⟨_, _, pre0 _ (?_), hrun, hended, _, _, rfl, ?_, ⟨_, rfl⟩, hW, hsame.mono (by decide) (by decide)⟩
  · show Steps _ _ _ (s₁.setTop (mkF m 0 #[iv i1, rv t1] [])) _
    refine XS.iloadN X0.here hx rfl (hb hby own_d27_0) rfl ?_
    show Steps _ _ _ (s₁.setTop (mkF m 1 _ [.int i1])) _
    refine XS.aloadN X0.here hx rfl (hb hby own_d27_1) rfl rfl ?_
    show Steps _ _ _ (s₁.setTop (mkF m 2 _ [.ref t1, .int i1])) _
    refine st6 _ ?_
    show Steps _ _ _ (T6.setTop (mkF m 5 #[iv i1, rv t1] [.int n1, .int i1])) _
    refine st7 _ ?_
    show Steps _ _ _ (T7.setTop (mkF m 8 #[iv i1, rv t1] [])) _
    exact X7.returnOut hx Bd.returns (hb hby own_d27_8) hr
  · show Q_uci Z i1 t1 kb N2 n1 vs G3 h0 n0 _ T7.heap _
    rw [e7]
    exact ⟨rfl, N7, rfl⟩
theorem own_d24_0 : decode jdk_52_method_5_code 0 = .ok (.getstatic 44, 3) := by decide +kernel
theorem own_d24_3 : decode jdk_52_method_5_code 3 = .ok (.ifCond .ne 25, 3) := by decide +kernel
theorem own_d24_28 : decode jdk_52_method_5_code 28 = .ok (.iload_n 1, 1) := by decide +kernel
theorem own_d24_29 : decode jdk_52_method_5_code 29 = .ok (.iconst 1, 1) := by decide +kernel
theorem own_d24_30 : decode jdk_52_method_5_code 30 = .ok (.ishl, 1) := by decide +kernel
theorem own_d24_31 : decode jdk_52_method_5_code 31 = .ok (.istore_n 1, 1) := by decide +kernel
theorem own_d24_32 : decode jdk_52_method_5_code 32 = .ok (.aload_n 0, 1) := by decide +kernel
theorem own_d24_33 : decode jdk_52_method_5_code 33 = .ok (.iload_n 1, 1) := by decide +kernel
theorem own_d24_34 : decode jdk_52_method_5_code 34 = .ok (.iinc 1 1, 3) := by decide +kernel
theorem own_d24_37 : decode jdk_52_method_5_code 37 = .ok (.baload, 1) := by decide +kernel
theorem own_d24_38 : decode jdk_52_method_5_code 38 = .ok (.sipush 255, 3) := by decide +kernel
theorem own_d24_41 : decode jdk_52_method_5_code 41 = .ok (.iand, 1) := by decide +kernel
theorem own_d24_42 : decode jdk_52_method_5_code 42 = .ok (.getstatic 59, 3) := by decide +kernel
theorem own_d24_45 : decode jdk_52_method_5_code 45 = .ok (.ishl, 1) := by decide +kernel
theorem own_d24_46 : decode jdk_52_method_5_code 46 = .ok (.aload_n 0, 1) := by decide +kernel
theorem own_d24_47 : decode jdk_52_method_5_code 47 = .ok (.iload_n 1, 1) := by decide +kernel
theorem own_d24_48 : decode jdk_52_method_5_code 48 = .ok (.baload, 1) := by decide +kernel
theorem own_d24_49 : decode jdk_52_method_5_code 49 = .ok (.sipush 255, 3) := by decide +kernel
theorem own_d24_52 : decode jdk_52_method_5_code 52 = .ok (.iand, 1) := by decide +kernel
theorem own_d24_53 : decode jdk_52_method_5_code 53 = .ok (.getstatic 63, 3) := by decide +kernel
theorem own_d24_56 : decode jdk_52_method_5_code 56 = .ok (.ishl, 1) := by decide +kernel
theorem own_d24_57 : decode jdk_52_method_5_code 57 = .ok (.ior, 1) := by decide +kernel
theorem own_d24_58 : decode jdk_52_method_5_code 58 = .ok (.i2c, 1) := by decide +kernel
theorem own_d24_59 : decode jdk_52_method_5_code 59 = .ok (.ireturn, 1) := by decide +kernel
theorem own_ef_uget (m : MethodId) (x0 : Addr) (x1 : Int32) : entryFrame m #[(.ref x0), (.int x1)] 2 = mkF m 0 #[rv x0, iv x1] [] := by first | (simp [entryFrame, mkF, argsToLocals, Value.category]; done) | rfl
def Q_uget (Z : State) (t1 : Addr) (i1 i2 i3 : Int32) (kb : ClassId) (N2 c1 : Int32) (vs : List Value) (h0 : Heap) (n0 : Nat) (v : Option Value) (h : Heap) (L : List Loc) : Prop := v = some (.int c1) ∧ Fr n0 L ∧ h = h0
set_option maxRecDepth 65536 in
set_option maxHeartbeats 40000000 in
theorem rm_uget (l : Launch) (Z : State) (a0 : Array Value) (hw : ∀ d ∈ tables_1, d.before a0 Z = true) (ws : List Jvm.Cond) (t1 : Addr) (i1 i2 i3 : Int32) (kb : ClassId) (N2 c1 : Int32) (vs : List Value) (h0 : Heap) (n0 : Nat) (Z0 : n0 ≤ h0.size) (X00 : Old Z n0 h0) (V1 : Arv Z h0 t1 kb .byte N2 vs (.int 0)) (e2 : i1 <<< ((1 : Int32) &&& 31) = i2) (e3 : i2 + 1 = i3) (b2 : ¬ i2 < 0 ∧ i2 < N2) (b3 : ¬ i3 < 0 ∧ i3 < N2) (v2 : vs.getD i2.toNatClampNeg (.int 0) = .int (StrChars.lo8 c1)) (v3 : vs.getD i3.toNatClampNeg (.int 0) = .int (StrChars.hi8 c1)) (hc : ¬ c1 < 0 ∧ ¬ (65535 : Int32) < c1) (OA : Sta Z Z.heap "java/lang/StringUTF16" "$assertionsDisabled" "Z" (.int (1 : Int32))) (OH : Sta Z Z.heap "java/lang/StringUTF16" "HI_BYTE_SHIFT" "I" (.int (0 : Int32))) (OL : Sta Z Z.heap "java/lang/StringUTF16" "LO_BYTE_SHIFT" "I" (.int (8 : Int32))) :
    MetFree l (⟨"java/lang/StringUTF16", "getChar", "([BI)C"⟩ : MethodName) (head1 (Jvm.Cond.code (⟨"java/lang/StringUTF16", "getChar", "([BI)C"⟩ : MethodName) jdk_52_method_5_code 2 (some .char) :: ws) ({ frames := 0, cells := 0, slots := 0, locals := 0 } : Room)) (fun a U => a = #[(.ref t1), (.int i1)] ∧ Z.Warmed39 U.vm ∧ U.heap = h0) (fun _ _ _ _ _ => True) (fun _ U o U' => ∃ v L, o = .returned v ∧ Q_uget Z t1 i1 i2 i3 kb N2 c1 vs h0 n0 v U'.heap L ∧ FrameEnd U o U' L ({ frames := 0, cells := 0, slots := 0, locals := 0 } : Room).cells ({ frames := 0, cells := 0, slots := 0, locals := 0 } : Room).slots) := by
  refine MetFree.of_bodySF (plainFor_of_name own_pn_6) hisR ?_
  intro p e s m args below meth c s₁ Bd hml0 hP hK
  obtain ⟨rfl, hZ, hh⟩ := hP
  have hx := Bd.exec
  have hby := Bd.bytes
  have hml : c.maxLocals = 2 := hml0
  have hown : s.vm.findClass "java/lang/StringUTF16" = some m.cls := findClass_of_methodNamed Bd.named
  have hnm := (name_of_methodNamed Bd.named Bd.method).1
  have W := own_W hw
  have X0 : Stand p l e ({ frames := 0, cells := 0, slots := 0, locals := 0 } : Room) s m #[(.ref t1), (.int i1)] below meth c s₁ [] 0 0 := Stand.of_body Bd
  have e0 : s₁.heap = h0 := by rw [← hh, Bd.state]; rfl
  have N0 := Fr.nil n0
  have pre0 : ∀ tq, Steps p.tables e below (s₁.setTop (mkF m 0 #[rv t1, iv i1] [])) tq → Steps p.tables e below (s₁.setTop (entryFrame m #[(.ref t1), (.int i1)] 2)) tq := fun tq k => castTop (own_ef_uget m t1 i1) k
  obtain ⟨cl8, Ar8, aq8, aS8, aN8, aH8, aG8⟩ := id V1
  have hi2 := inb_of aS8 b2
  have hi3 := inb_of aS8 b3
  have ha2 := Has.at aH8 hi2 v2
  have ha3 := Has.at aH8 hi3 v3
  obtain ⟨T9, X9, e9, st9⟩ := getS2 X0 hx hZ hown (host := "") (Or.inl (W 151 rfl)) Via.refl e0 (OA.ext X00.2) (g := (mkF m 0 #[rv t1, iv i1] [])) rfl (hb hby own_d24_0)
  obtain ⟨T10, X10, e10, st10⟩ := getS2 X9 hx hZ hown (host := "") (Or.inl (W 152 rfl)) Via.refl e9 (OH.ext X00.2) (g := (mkF m 42 #[rv t1, iv i3] [.int ((StrChars.lo8 c1) &&& (255 : Int32))])) rfl (hb hby own_d24_42)
  obtain ⟨T11, X11, e11, st11⟩ := getS2 X10 hx hZ hown (host := "") (Or.inl (W 153 rfl)) Via.refl e10 (OL.ext X00.2) (g := (mkF m 53 #[rv t1, iv i3] [.int ((StrChars.hi8 c1) &&& (255 : Int32)), .int (((StrChars.lo8 c1) &&& (255 : Int32)) <<< ((0 : Int32) &&& 31))])) rfl (hb hby own_d24_53)
  obtain ⟨fs, hr, hrun, hended, hW, hsame⟩ := X11.leave (v := some (.int (nar .char c1))) (fun h => by rw [Bd.returns] at h; cases h)
  refine ⟨_, _, pre0 _ (?_), hrun, hended, _, _, rfl, ?_, ⟨_, rfl⟩, hW, hsame.mono (by decide) (by decide)⟩
  · show Steps _ _ _ (s₁.setTop (mkF m 0 #[rv t1, iv i1] [])) _
    refine st9 _ ?_
    show Steps _ _ _ (T9.setTop (mkF m 3 #[rv t1, iv i1] [.int 1])) _
    refine XS.ifYes X9.here hx rfl (pc0 := 3) (pc' := 28) rfl (hb hby own_d24_3) rfl ((if0 _ _).trans (feq ((by decide) : ¬ ((1 : Int32) = (0 : Int32)))).2) (by decide) (by decide) ?_
    show Steps _ _ _ (T9.setTop (mkF m 28 _ [])) _
    refine XS.iloadN X9.here hx rfl (hb hby own_d24_28) rfl ?_
    show Steps _ _ _ (T9.setTop (mkF m 29 _ [.int i1])) _
    refine XS.iconst X9.here hx rfl (hb hby own_d24_29) ?_
    show Steps _ _ _ (T9.setTop (mkF m 30 _ [.int 1, .int i1])) _
    refine XS.ishl X9.here hx rfl (hb hby own_d24_30) rfl ?_
    rw [e2]
    show Steps _ _ _ (T9.setTop (mkF m 31 #[rv t1, iv i1] [.int i2])) _
    refine XS.istoreN X9.here hx rfl (hb hby own_d24_31) rfl (l' := #[rv t1, iv i2]) rfl ?_
    show Steps _ _ _ (T9.setTop (mkF m 32 _ [])) _
    refine XS.aloadN X9.here hx rfl (hb hby own_d24_32) rfl rfl ?_
    show Steps _ _ _ (T9.setTop (mkF m 33 _ [.ref t1])) _
    refine XS.iloadN X9.here hx rfl (hb hby own_d24_33) rfl ?_
    show Steps _ _ _ (T9.setTop (mkF m 34 _ [.int i2, .ref t1])) _
    refine XS.iinc X9.here hx rfl (hb hby own_d24_34) rfl (l' := #[rv t1, iv i3]) (by rw [show i2 + Int32.ofInt 1 = i3 from e3]; rfl) ?_
    show Steps _ _ _ (T9.setTop (mkF m 37 _ [.int i2, .ref t1])) _
    refine X9.baloadBytes hx (j := i2) (v := (.int (StrChars.lo8 c1))) (by rw [e9]; exact Ar8.1) (State.isArrayOf_alike hZ.alike Ar8.2.1) Ar8.2.2 hi2 ha2 (g := (mkF m 37 #[rv t1, iv i3] [.int i2, .ref t1])) rfl rfl (hb hby own_d24_37) _ ?_
    show Steps _ _ _ (T9.setTop (mkF m 38 #[rv t1, iv i3] [.int (StrChars.lo8 c1)])) _
    refine XS.sipush X9.here hx rfl (hb hby own_d24_38) ?_
    show Steps _ _ _ (T9.setTop (mkF m 41 _ [.int 255, .int (StrChars.lo8 c1)])) _
    refine XS.iand X9.here hx rfl (hb hby own_d24_41) rfl ?_
    show Steps _ _ _ (T9.setTop (mkF m 42 _ [.int ((StrChars.lo8 c1) &&& (255 : Int32))])) _
    refine st10 _ ?_
    show Steps _ _ _ (T10.setTop (mkF m 45 #[rv t1, iv i3] [.int 0, .int ((StrChars.lo8 c1) &&& (255 : Int32))])) _
    refine XS.ishl X10.here hx rfl (hb hby own_d24_45) rfl ?_
    show Steps _ _ _ (T10.setTop (mkF m 46 _ [.int (((StrChars.lo8 c1) &&& (255 : Int32)) <<< ((0 : Int32) &&& 31))])) _
    refine XS.aloadN X10.here hx rfl (hb hby own_d24_46) rfl rfl ?_
    show Steps _ _ _ (T10.setTop (mkF m 47 _ [.ref t1, .int (((StrChars.lo8 c1) &&& (255 : Int32)) <<< ((0 : Int32) &&& 31))])) _
    refine XS.iloadN X10.here hx rfl (hb hby own_d24_47) rfl ?_
    show Steps _ _ _ (T10.setTop (mkF m 48 _ [.int i3, .ref t1, .int (((StrChars.lo8 c1) &&& (255 : Int32)) <<< ((0 : Int32) &&& 31))])) _
    refine X10.baloadBytes hx (j := i3) (v := (.int (StrChars.hi8 c1))) (by rw [e10]; exact Ar8.1) (State.isArrayOf_alike hZ.alike Ar8.2.1) Ar8.2.2 hi3 ha3 (g := (mkF m 48 #[rv t1, iv i3] [.int i3, .ref t1, .int (((StrChars.lo8 c1) &&& (255 : Int32)) <<< ((0 : Int32) &&& 31))])) rfl rfl (hb hby own_d24_48) _ ?_
    show Steps _ _ _ (T10.setTop (mkF m 49 #[rv t1, iv i3] [.int (StrChars.hi8 c1), .int (((StrChars.lo8 c1) &&& (255 : Int32)) <<< ((0 : Int32) &&& 31))])) _
    refine XS.sipush X10.here hx rfl (hb hby own_d24_49) ?_
    show Steps _ _ _ (T10.setTop (mkF m 52 _ [.int 255, .int (StrChars.hi8 c1), .int (((StrChars.lo8 c1) &&& (255 : Int32)) <<< ((0 : Int32) &&& 31))])) _
    refine XS.iand X10.here hx rfl (hb hby own_d24_52) rfl ?_
    show Steps _ _ _ (T10.setTop (mkF m 53 _ [.int ((StrChars.hi8 c1) &&& (255 : Int32)), .int (((StrChars.lo8 c1) &&& (255 : Int32)) <<< ((0 : Int32) &&& 31))])) _
    refine st11 _ ?_
    show Steps _ _ _ (T11.setTop (mkF m 56 #[rv t1, iv i3] [.int 8, .int ((StrChars.hi8 c1) &&& (255 : Int32)), .int (((StrChars.lo8 c1) &&& (255 : Int32)) <<< ((0 : Int32) &&& 31))])) _
    refine XS.ishl X11.here hx rfl (hb hby own_d24_56) rfl ?_
    show Steps _ _ _ (T11.setTop (mkF m 57 _ [.int (((StrChars.hi8 c1) &&& (255 : Int32)) <<< ((8 : Int32) &&& 31)), .int (((StrChars.lo8 c1) &&& (255 : Int32)) <<< ((0 : Int32) &&& 31))])) _
    refine XS.ior X11.here hx rfl (hb hby own_d24_57) rfl ?_
    show Steps _ _ _ (T11.setTop (mkF m 58 _ [.int ((((StrChars.lo8 c1) &&& (255 : Int32)) <<< ((0 : Int32) &&& 31)) ||| (((StrChars.hi8 c1) &&& (255 : Int32)) <<< ((8 : Int32) &&& 31)))])) _
    refine XS.i2c X11.here hx rfl (hb hby own_d24_58) rfl ?_
    rw [show (((StrChars.lo8 c1 &&& (255 : Int32)) <<< ((0 : Int32) &&& 31)) ||| ((StrChars.hi8 c1 &&& (255 : Int32)) <<< ((8 : Int32) &&& 31))).toUInt32.toUInt16.toUInt32.toInt32 = c1 from StrChars.pair_says hc.1 hc.2]
    show Steps _ _ _ (T11.setTop (mkF m 59 #[rv t1, iv i3] [.int c1])) _
    exact retN X11 hx (t := .char) Bd.returns (by simp) (hb hby own_d24_59) hr
  · show Q_uget Z t1 i1 i2 i3 kb N2 c1 vs h0 n0 _ T11.heap _
    rw [e11]
    exact ⟨by rw [own_narc c1 hc.1 hc.2], N0, rfl⟩
theorem own_d26_0 : decode jdk_52_method_83_code 0 = .ok (.iload_n 1, 1) := by decide +kernel
theorem own_d26_1 : decode jdk_52_method_83_code 1 = .ok (.aload_n 0, 1) := by decide +kernel
theorem own_d26_2 : decode jdk_52_method_83_code 2 = .ok (.invokestatic 67, 3) := by decide +kernel
theorem own_pd_27 : parseMethodDescriptor "(I[B)V" = some ⟨[.int, (.array .byte)], none⟩ := by decide +kernel
theorem own_d26_5 : decode jdk_52_method_83_code 5 = .ok (.aload_n 0, 1) := by decide +kernel
theorem own_d26_6 : decode jdk_52_method_83_code 6 = .ok (.iload_n 1, 1) := by decide +kernel
theorem own_d26_7 : decode jdk_52_method_83_code 7 = .ok (.invokestatic 71, 3) := by decide +kernel
theorem own_pd_18 : parseMethodDescriptor "([BI)C" = some ⟨[(.array .byte), .int], some .char⟩ := by decide +kernel
theorem own_d26_10 : decode jdk_52_method_83_code 10 = .ok (.ireturn, 1) := by decide +kernel
theorem own_ef_uch (m : MethodId) (x0 : Addr) (x1 : Int32) : entryFrame m #[(.ref x0), (.int x1)] 2 = mkF m 0 #[rv x0, iv x1] [] := by first | (simp [entryFrame, mkF, argsToLocals, Value.category]; done) | rfl
def Q_uch (Z : State) (t1 : Addr) (i1 i2 i3 : Int32) (kb : ClassId) (N2 n1 c1 : Int32) (vs : List Value) (G3 : Value) (h0 : Heap) (n0 : Nat) (v : Option Value) (h : Heap) (L : List Loc) : Prop := v = some (.int c1) ∧ Fr n0 L ∧ h = h0
set_option maxRecDepth 65536 in
set_option maxHeartbeats 40000000 in
theorem rm_uch (l : Launch) (Z : State) (a0 : Array Value) (hw : ∀ d ∈ tables_1, d.before a0 Z = true) (ws : List Jvm.Cond) (t1 : Addr) (i1 i2 i3 : Int32) (kb : ClassId) (N2 n1 c1 : Int32) (vs : List Value) (G3 : Value) (h0 : Heap) (n0 : Nat) (Z0 : n0 ≤ h0.size) (X00 : Old Z n0 h0) (V1 : Arv Z h0 t1 kb .byte N2 vs (.int 0)) (hN : N2 >>> ((1 : Int32) &&& 31) = n1) (hi : ¬ i1 < 0) (hn : i1 < n1) (e2 : i1 <<< ((1 : Int32) &&& 31) = i2) (e3 : i2 + 1 = i3) (b2 : ¬ i2 < 0 ∧ i2 < N2) (b3 : ¬ i3 < 0 ∧ i3 < N2) (v2 : vs.getD i2.toNatClampNeg (.int 0) = .int (StrChars.lo8 c1)) (v3 : vs.getD i3.toNatClampNeg (.int 0) = .int (StrChars.hi8 c1)) (hc : ¬ c1 < 0 ∧ ¬ (65535 : Int32) < c1) (O4 : Sta Z Z.heap "jdk/internal/util/Preconditions" "SIOOBE_FORMATTER" "Ljava/util/function/BiFunction;" G3) (rG3 : G3.isRef = true) (OA : Sta Z Z.heap "java/lang/StringUTF16" "$assertionsDisabled" "Z" (.int (1 : Int32))) (OH : Sta Z Z.heap "java/lang/StringUTF16" "HI_BYTE_SHIFT" "I" (.int (0 : Int32))) (OL : Sta Z Z.heap "java/lang/StringUTF16" "LO_BYTE_SHIFT" "I" (.int (8 : Int32))) :
    MetFree l (⟨"java/lang/StringUTF16", "charAt", "([BI)C"⟩ : MethodName) (head1 (Jvm.Cond.code (⟨"java/lang/StringUTF16", "charAt", "([BI)C"⟩ : MethodName) jdk_52_method_83_code 2 (some .char) :: ws) ({ frames := 3, cells := 0, slots := 0, locals := 60 } : Room)) (fun a U => a = #[(.ref t1), (.int i1)] ∧ Z.Warmed39 U.vm ∧ U.heap = h0) (fun _ _ _ _ _ => True) (fun _ U o U' => ∃ v L, o = .returned v ∧ Q_uch Z t1 i1 i2 i3 kb N2 n1 c1 vs G3 h0 n0 v U'.heap L ∧ FrameEnd U o U' L ({ frames := 3, cells := 0, slots := 0, locals := 60 } : Room).cells ({ frames := 3, cells := 0, slots := 0, locals := 60 } : Room).slots) := by
  refine MetFree.of_bodySF (plainFor_of_name own_pn_6) hisR ?_
  intro p e s m args below meth c s₁ Bd hml0 hP hK
  obtain ⟨rfl, hZ, hh⟩ := hP
  have hx := Bd.exec
  have hby := Bd.bytes
  have hml : c.maxLocals = 2 := hml0
  have hown : s.vm.findClass "java/lang/StringUTF16" = some m.cls := findClass_of_methodNamed Bd.named
  have hnm := (name_of_methodNamed Bd.named Bd.method).1
  have W := own_W hw
  have X0 : Stand p l e ({ frames := 3, cells := 0, slots := 0, locals := 60 } : Room) s m #[(.ref t1), (.int i1)] below meth c s₁ [] 0 0 := Stand.of_body Bd
  have e0 : s₁.heap = h0 := by rw [← hh, Bd.state]; rfl
  have N0 := Fr.nil n0
  have pre0 : ∀ tq, Steps p.tables e below (s₁.setTop (mkF m 0 #[rv t1, iv i1] [])) tq → Steps p.tables e below (s₁.setTop (entryFrame m #[(.ref t1), (.int i1)] 2)) tq := fun tq k => castTop (own_ef_uch m t1 i1) k
  obtain ⟨_, _, ⟨T12, L12, k12, n12⟩, -, X12, ⟨Lc12, hQ12, l12, y12, z12⟩, st12⟩ := Jvm.LawKit.callS X0 hx (y := (⟨"java/lang/StringUTF16", "checkIndex", "(I[B)V"⟩ : MethodName)) hown (mvT hZ (W 172 rfl)) (mvT hZ (W 173 rfl)) (mvT hZ (W 91 rfl)) (mvT hZ (W 174 rfl)) (by decide) (backOf (W := 0) (rm_uci l Z a0 hw [] i1 t1 kb N2 n1 vs G3 h0 n0 Z0 X00 V1 hN hi hn O4 rG3) hZ (W 174 rfl) (W 91 rfl) (by decide) (by decide)) (g := (mkF m 2 #[rv t1, iv i1] [.ref t1, .int i1])) rfl (by rw [hml]; rfl) (argsL := [.int i1, .ref t1]) (rest := []) (lenOf own_pd_27 rfl) rfl own_wt (hb hby own_d26_2) (fun _ _ => ⟨rfl, e0, (by decide : 0 + 0 ≤ _), (by decide : 0 + 0 ≤ _)⟩)
  dsimp only [Pt.U, Pt.locs, Pt.cells, Pt.slots] at X12 l12 y12 z12 st12 hQ12
  subst l12 y12 z12
  obtain ⟨rfl, Nq12, e12⟩ := hQ12
  have N12 := Fr.app N0 Nq12
  obtain ⟨_, _, ⟨T13, L13, k13, n13⟩, -, X13, ⟨Lc13, hQ13, l13, y13, z13⟩, st13⟩ := Jvm.LawKit.callS X12 hx (y := (⟨"java/lang/StringUTF16", "getChar", "([BI)C"⟩ : MethodName)) hown (mvT hZ (W 154 rfl)) (mvT hZ (W 155 rfl)) (mvT hZ (W 91 rfl)) (mvT hZ (W 156 rfl)) (by decide) (backOf (W := 0) (rm_uget l Z a0 hw [] t1 i1 i2 i3 kb N2 c1 vs h0 n0 Z0 X00 V1 e2 e3 b2 b3 v2 v3 hc OA OH OL) hZ (W 156 rfl) (W 91 rfl) (by decide) (by decide)) (g := (mkF m 7 #[rv t1, iv i1] [.int i1, .ref t1])) rfl (by rw [hml]; rfl) (argsL := [.ref t1, .int i1]) (rest := []) (lenOf own_pd_18 rfl) rfl own_wt (hb hby own_d26_7) (fun _ _ => ⟨rfl, e12, (by decide : 0 + 0 ≤ _), (by decide : 0 + 0 ≤ _)⟩)
  dsimp only [Pt.U, Pt.locs, Pt.cells, Pt.slots] at X13 l13 y13 z13 st13 hQ13
  subst l13 y13 z13
  obtain ⟨rfl, Nq13, e13⟩ := hQ13
  have N13 := Fr.app N12 Nq13
  obtain ⟨fs, hr, hrun, hended, hW, hsame⟩ := X13.leave (v := some (.int (nar .char c1))) (fun h => by rw [Bd.returns] at h; cases h)
  refine ⟨_, _, pre0 _ (?_), hrun, hended, _, _, rfl, ?_, ⟨_, rfl⟩, hW, hsame.mono (by decide) (by decide)⟩
  · show Steps _ _ _ (s₁.setTop (mkF m 0 #[rv t1, iv i1] [])) _
    refine XS.iloadN X0.here hx rfl (hb hby own_d26_0) rfl ?_
    show Steps _ _ _ (s₁.setTop (mkF m 1 _ [.int i1])) _
    refine XS.aloadN X0.here hx rfl (hb hby own_d26_1) rfl rfl ?_
    show Steps _ _ _ (s₁.setTop (mkF m 2 _ [.ref t1, .int i1])) _
    refine st12 _ ?_
    show Steps _ _ _ (T12.setTop (mkF m 5 #[rv t1, iv i1] [])) _
    refine XS.aloadN X12.here hx rfl (hb hby own_d26_5) rfl rfl ?_
    show Steps _ _ _ (T12.setTop (mkF m 6 _ [.ref t1])) _
    refine XS.iloadN X12.here hx rfl (hb hby own_d26_6) rfl ?_
    show Steps _ _ _ (T12.setTop (mkF m 7 _ [.int i1, .ref t1])) _
    refine st13 _ ?_
    show Steps _ _ _ (T13.setTop (mkF m 10 #[rv t1, iv i1] [.int c1])) _
    exact retN X13 hx (t := .char) Bd.returns (by simp) (hb hby own_d26_10) hr
  · show Q_uch Z t1 i1 i2 i3 kb N2 n1 c1 vs G3 h0 n0 _ T13.heap _
    rw [e13]
    exact ⟨by rw [own_narc c1 hc.1 hc.2], N13, rfl⟩
theorem own_d23_0 : decode jdk_52_method_4_code 0 = .ok (.getstatic 44, 3) := by decide +kernel
theorem own_d23_3 : decode jdk_52_method_4_code 3 = .ok (.ifCond .ne 25, 3) := by decide +kernel
theorem own_d23_28 : decode jdk_52_method_4_code 28 = .ok (.iload_n 1, 1) := by decide +kernel
theorem own_d23_29 : decode jdk_52_method_4_code 29 = .ok (.iconst 1, 1) := by decide +kernel
theorem own_d23_30 : decode jdk_52_method_4_code 30 = .ok (.ishl, 1) := by decide +kernel
theorem own_d23_31 : decode jdk_52_method_4_code 31 = .ok (.istore_n 1, 1) := by decide +kernel
theorem own_d23_32 : decode jdk_52_method_4_code 32 = .ok (.aload_n 0, 1) := by decide +kernel
theorem own_d23_33 : decode jdk_52_method_4_code 33 = .ok (.iload_n 1, 1) := by decide +kernel
theorem own_d23_34 : decode jdk_52_method_4_code 34 = .ok (.iinc 1 1, 3) := by decide +kernel
theorem own_d23_37 : decode jdk_52_method_4_code 37 = .ok (.iload_n 2, 1) := by decide +kernel
theorem own_d23_38 : decode jdk_52_method_4_code 38 = .ok (.getstatic 59, 3) := by decide +kernel
theorem own_d23_41 : decode jdk_52_method_4_code 41 = .ok (.ishr, 1) := by decide +kernel
theorem own_d23_42 : decode jdk_52_method_4_code 42 = .ok (.i2b, 1) := by decide +kernel
theorem own_d23_43 : decode jdk_52_method_4_code 43 = .ok (.bastore, 1) := by decide +kernel
theorem own_d23_44 : decode jdk_52_method_4_code 44 = .ok (.aload_n 0, 1) := by decide +kernel
theorem own_d23_45 : decode jdk_52_method_4_code 45 = .ok (.iload_n 1, 1) := by decide +kernel
theorem own_d23_46 : decode jdk_52_method_4_code 46 = .ok (.iload_n 2, 1) := by decide +kernel
theorem own_d23_47 : decode jdk_52_method_4_code 47 = .ok (.getstatic 63, 3) := by decide +kernel
theorem own_d23_50 : decode jdk_52_method_4_code 50 = .ok (.ishr, 1) := by decide +kernel
theorem own_d23_51 : decode jdk_52_method_4_code 51 = .ok (.i2b, 1) := by decide +kernel
theorem own_d23_52 : decode jdk_52_method_4_code 52 = .ok (.bastore, 1) := by decide +kernel
theorem own_d23_53 : decode jdk_52_method_4_code 53 = .ok (.return_, 1) := by decide +kernel
theorem own_ef_uput (m : MethodId) (x0 : Addr) (x1 : Int32) (x2 : Int32) : entryFrame m #[(.ref x0), (.int x1), (.int x2)] 3 = mkF m 0 #[rv x0, iv x1, iv x2] [] := by first | (simp [entryFrame, mkF, argsToLocals, Value.category]; done) | rfl
def Q_uput (Z : State) (t1 : Addr) (i1 i2 i3 : Int32) (kb : ClassId) (N2 c1 : Int32) (vs : List Value) (h0 : Heap) (n0 : Nat) (v : Option Value) (h : Heap) (L : List Loc) : Prop := v = none ∧ Fr n0 L ∧ Keep h0 h [t1] ∧ Arv Z h t1 kb .byte N2 ((vs.set i2.toNatClampNeg (.int (StrChars.lo8 c1))).set i3.toNatClampNeg (.int (StrChars.hi8 c1))) (.int 0)
set_option maxRecDepth 65536 in
set_option maxHeartbeats 40000000 in
theorem rm_uput (l : Launch) (Z : State) (a0 : Array Value) (hw : ∀ d ∈ tables_1, d.before a0 Z = true) (ws : List Jvm.Cond) (t1 : Addr) (i1 i2 i3 : Int32) (kb : ClassId) (N2 c1 : Int32) (vs : List Value) (h0 : Heap) (n0 : Nat) (Z0 : n0 ≤ h0.size) (X00 : Old Z n0 h0) (V1 : Arv Z h0 t1 kb .byte N2 vs (.int 0)) (g1 : n0 ≤ t1) (e2 : i1 <<< ((1 : Int32) &&& 31) = i2) (e3 : i2 + 1 = i3) (b2 : ¬ i2 < 0 ∧ i2 < N2) (b3 : ¬ i3 < 0 ∧ i3 < N2) (l2 : i2.toNatClampNeg < vs.length) (l3 : i3.toNatClampNeg < vs.length) (OA : Sta Z Z.heap "java/lang/StringUTF16" "$assertionsDisabled" "Z" (.int (1 : Int32))) (OH : Sta Z Z.heap "java/lang/StringUTF16" "HI_BYTE_SHIFT" "I" (.int (0 : Int32))) (OL : Sta Z Z.heap "java/lang/StringUTF16" "LO_BYTE_SHIFT" "I" (.int (8 : Int32))) :
    MetFree l (⟨"java/lang/StringUTF16", "putChar", "([BII)V"⟩ : MethodName) (head1 (Jvm.Cond.code (⟨"java/lang/StringUTF16", "putChar", "([BII)V"⟩ : MethodName) jdk_52_method_4_code 3 none :: ws) ({ frames := 0, cells := 0, slots := 0, locals := 0 } : Room)) (fun a U => a = #[(.ref t1), (.int i1), (.int c1)] ∧ Z.Warmed39 U.vm ∧ U.heap = h0) (fun _ _ _ _ _ => True) (fun _ U o U' => ∃ v L, o = .returned v ∧ Q_uput Z t1 i1 i2 i3 kb N2 c1 vs h0 n0 v U'.heap L ∧ FrameEnd U o U' L ({ frames := 0, cells := 0, slots := 0, locals := 0 } : Room).cells ({ frames := 0, cells := 0, slots := 0, locals := 0 } : Room).slots) := by
  refine MetFree.of_bodySF (plainFor_of_name own_pn_6) hisR ?_
  intro p e s m args below meth c s₁ Bd hml0 hP hK
  obtain ⟨rfl, hZ, hh⟩ := hP
  have hx := Bd.exec
  have hby := Bd.bytes
  have hml : c.maxLocals = 3 := hml0
  have hown : s.vm.findClass "java/lang/StringUTF16" = some m.cls := findClass_of_methodNamed Bd.named
  have hnm := (name_of_methodNamed Bd.named Bd.method).1
  have W := own_W hw
  have X0 : Stand p l e ({ frames := 0, cells := 0, slots := 0, locals := 0 } : Room) s m #[(.ref t1), (.int i1), (.int c1)] below meth c s₁ [] 0 0 := Stand.of_body Bd
  have e0 : s₁.heap = h0 := by rw [← hh, Bd.state]; rfl
  have N0 := Fr.nil n0
  have pre0 : ∀ tq, Steps p.tables e below (s₁.setTop (mkF m 0 #[rv t1, iv i1, iv c1] [])) tq → Steps p.tables e below (s₁.setTop (entryFrame m #[(.ref t1), (.int i1), (.int c1)] 3)) tq := fun tq k => castTop (own_ef_uput m t1 i1 c1) k
  have K14 : Keep h0 h0 [t1] := Keep.refl h0 [t1]
  obtain ⟨T15, X15, e15, st15⟩ := getS2 X0 hx hZ hown (host := "") (Or.inl (W 151 rfl)) Via.refl e0 (OA.ext X00.2) (g := (mkF m 0 #[rv t1, iv i1, iv c1] [])) rfl (hb hby own_d23_0)
  obtain ⟨T16, X16, e16, st16⟩ := getS2 X15 hx hZ hown (host := "") (Or.inl (W 152 rfl)) Via.refl e15 (OH.ext X00.2) (g := (mkF m 38 #[rv t1, iv i3, iv c1] [.int c1, .int i2, .ref t1])) rfl (hb hby own_d23_38)
  obtain ⟨cl17, Ar17, aq17, aS17, aN17, aH17, aG17⟩ := id V1
  obtain ⟨T18, h18, X18, e18, W18, st18⟩ := stB X16 hx hZ e16 Ar17 (j := i2) (inb_of aS17 b2) (g := (mkF m 43 #[rv t1, iv i3, iv c1] [.int ((c1 >>> ((0 : Int32) &&& 31)).toInt8.toInt32), .int i2, .ref t1])) rfl rfl (hb hby own_d23_43)
  have N18 := Fr.snoc X18 N0 g1
  have V18 := Arv.set Ar17 aq17 aS17 aN17 aH17 aG17 (fits_nar_byte _) W18 _ rfl l2
  rw [show Value.int ((((c1 >>> ((0 : Int32) &&& 31)).toInt8.toInt32)).toInt8.toInt32) = .int (StrChars.lo8 c1) from congrArg Value.int ((own_narb _).trans (congrArg StrChars.lo8 (StrChars.shr0 c1)))] at V18
  have Z19 : n0 ≤ h18.size := Nat.le_trans Z0 (Keep.of_wr W18).1
  have O20 : Old Z n0 h18 := X00.wr W18 g1
  have K21 : Keep h0 h18 [t1] := K14.wr W18 (Or.inl (List.mem_of_getElem? (i := 0) rfl))
  obtain ⟨T22, X22, e22, st22⟩ := getS2 X18 hx hZ hown (host := "") (Or.inl (W 153 rfl)) Via.refl e18 (OL.ext O20.2) (g := (mkF m 47 #[rv t1, iv i3, iv c1] [.int c1, .int i3, .ref t1])) rfl (hb hby own_d23_47)
  obtain ⟨cl23, Ar23, aq23, aS23, aN23, aH23, aG23⟩ := id V18
  obtain ⟨T24, h24, X24, e24, W24, st24⟩ := stB X22 hx hZ e22 Ar23 (j := i3) (inb_of aS23 b3) (g := (mkF m 52 #[rv t1, iv i3, iv c1] [.int ((c1 >>> ((8 : Int32) &&& 31)).toInt8.toInt32), .int i3, .ref t1])) rfl rfl (hb hby own_d23_52)
  have N24 := Fr.snoc X24 N18 g1
  have V24 := Arv.set Ar23 aq23 aS23 aN23 aH23 aG23 (fits_nar_byte _) W24 _ rfl (by rw [List.length_set]; exact l3)
  rw [show Value.int ((((c1 >>> ((8 : Int32) &&& 31)).toInt8.toInt32)).toInt8.toInt32) = .int (StrChars.hi8 c1) from congrArg Value.int (own_narb _)] at V24
  have Z25 : n0 ≤ h24.size := Nat.le_trans Z19 (Keep.of_wr W24).1
  have O26 : Old Z n0 h24 := O20.wr W24 g1
  have K27 : Keep h0 h24 [t1] := K21.wr W24 (Or.inl (List.mem_of_getElem? (i := 0) rfl))
  obtain ⟨fs, hr, hrun, hended, hW, hsame⟩ := X24.leave (v := none) (fun _ => rfl)
  refine ⟨_, _, pre0 _ (?_), hrun, hended, _, _, rfl, ?_, ⟨_, rfl⟩, hW, hsame.mono (by decide) (by decide)⟩
  · show Steps _ _ _ (s₁.setTop (mkF m 0 #[rv t1, iv i1, iv c1] [])) _
    refine st15 _ ?_
    show Steps _ _ _ (T15.setTop (mkF m 3 #[rv t1, iv i1, iv c1] [.int 1])) _
    refine XS.ifYes X15.here hx rfl (pc0 := 3) (pc' := 28) rfl (hb hby own_d23_3) rfl ((if0 _ _).trans (feq ((by decide) : ¬ ((1 : Int32) = (0 : Int32)))).2) (by decide) (by decide) ?_
    show Steps _ _ _ (T15.setTop (mkF m 28 _ [])) _
    refine XS.iloadN X15.here hx rfl (hb hby own_d23_28) rfl ?_
    show Steps _ _ _ (T15.setTop (mkF m 29 _ [.int i1])) _
    refine XS.iconst X15.here hx rfl (hb hby own_d23_29) ?_
    show Steps _ _ _ (T15.setTop (mkF m 30 _ [.int 1, .int i1])) _
    refine XS.ishl X15.here hx rfl (hb hby own_d23_30) rfl ?_
    rw [e2]
    show Steps _ _ _ (T15.setTop (mkF m 31 #[rv t1, iv i1, iv c1] [.int i2])) _
    refine XS.istoreN X15.here hx rfl (hb hby own_d23_31) rfl (l' := #[rv t1, iv i2, iv c1]) rfl ?_
    show Steps _ _ _ (T15.setTop (mkF m 32 _ [])) _
    refine XS.aloadN X15.here hx rfl (hb hby own_d23_32) rfl rfl ?_
    show Steps _ _ _ (T15.setTop (mkF m 33 _ [.ref t1])) _
    refine XS.iloadN X15.here hx rfl (hb hby own_d23_33) rfl ?_
    show Steps _ _ _ (T15.setTop (mkF m 34 _ [.int i2, .ref t1])) _
    refine XS.iinc X15.here hx rfl (hb hby own_d23_34) rfl (l' := #[rv t1, iv i3, iv c1]) (by rw [show i2 + Int32.ofInt 1 = i3 from e3]; rfl) ?_
    show Steps _ _ _ (T15.setTop (mkF m 37 _ [.int i2, .ref t1])) _
    refine XS.iloadN X15.here hx rfl (hb hby own_d23_37) rfl ?_
    show Steps _ _ _ (T15.setTop (mkF m 38 _ [.int c1, .int i2, .ref t1])) _
    refine st16 _ ?_
    show Steps _ _ _ (T16.setTop (mkF m 41 #[rv t1, iv i3, iv c1] [.int 0, .int c1, .int i2, .ref t1])) _
    refine XS.ishr X16.here hx rfl (hb hby own_d23_41) rfl ?_
    show Steps _ _ _ (T16.setTop (mkF m 42 _ [.int (c1 >>> ((0 : Int32) &&& 31)), .int i2, .ref t1])) _
    refine XS.i2b X16.here hx rfl (hb hby own_d23_42) rfl ?_
    show Steps _ _ _ (T16.setTop (mkF m 43 _ [.int ((c1 >>> ((0 : Int32) &&& 31)).toInt8.toInt32), .int i2, .ref t1])) _
    refine st18 _ ?_
    show Steps _ _ _ (T18.setTop (mkF m 44 #[rv t1, iv i3, iv c1] [])) _
    refine XS.aloadN X18.here hx rfl (hb hby own_d23_44) rfl rfl ?_
    show Steps _ _ _ (T18.setTop (mkF m 45 _ [.ref t1])) _
    refine XS.iloadN X18.here hx rfl (hb hby own_d23_45) rfl ?_
    show Steps _ _ _ (T18.setTop (mkF m 46 _ [.int i3, .ref t1])) _
    refine XS.iloadN X18.here hx rfl (hb hby own_d23_46) rfl ?_
    show Steps _ _ _ (T18.setTop (mkF m 47 _ [.int c1, .int i3, .ref t1])) _
    refine st22 _ ?_
    show Steps _ _ _ (T22.setTop (mkF m 50 #[rv t1, iv i3, iv c1] [.int 8, .int c1, .int i3, .ref t1])) _
    refine XS.ishr X22.here hx rfl (hb hby own_d23_50) rfl ?_
    show Steps _ _ _ (T22.setTop (mkF m 51 _ [.int (c1 >>> ((8 : Int32) &&& 31)), .int i3, .ref t1])) _
    refine XS.i2b X22.here hx rfl (hb hby own_d23_51) rfl ?_
    show Steps _ _ _ (T22.setTop (mkF m 52 _ [.int ((c1 >>> ((8 : Int32) &&& 31)).toInt8.toInt32), .int i3, .ref t1])) _
    refine st24 _ ?_
    show Steps _ _ _ (T24.setTop (mkF m 53 #[rv t1, iv i3, iv c1] [])) _
    exact X24.returnOut hx Bd.returns (hb hby own_d23_53) hr
  · show Q_uput Z t1 i1 i2 i3 kb N2 c1 vs h0 n0 _ T24.heap _
    rw [e24]
    exact ⟨rfl, N24, K27, V24⟩
theorem own_d22_0 : decode jdk_52_method_3_code 0 = .ok (.iload_n 0, 1) := by decide +kernel
theorem own_d22_1 : decode jdk_52_method_3_code 1 = .ok (.ifCond .ge 11, 3) := by decide +kernel
theorem own_d22_12 : decode jdk_52_method_3_code 12 = .ok (.iload_n 0, 1) := by decide +kernel
theorem own_d22_13 : decode jdk_52_method_3_code 13 = .ok (.ldc 20, 2) := by decide +kernel
theorem own_d22_15 : decode jdk_52_method_3_code 15 = .ok (.if_icmp .lt 40, 3) := by decide +kernel
theorem own_d22_55 : decode jdk_52_method_3_code 55 = .ok (.iload_n 0, 1) := by decide +kernel
theorem own_d22_56 : decode jdk_52_method_3_code 56 = .ok (.iconst 1, 1) := by decide +kernel
theorem own_d22_57 : decode jdk_52_method_3_code 57 = .ok (.ishl, 1) := by decide +kernel
theorem own_d22_58 : decode jdk_52_method_3_code 58 = .ok (.ireturn, 1) := by decide +kernel
theorem own_ef_unbl (m : MethodId) (x0 : Int32) : entryFrame m #[(.int x0)] 1 = mkF m 0 #[iv x0] [] := by first | (simp [entryFrame, mkF, argsToLocals, Value.category]; done) | rfl
def Q_unbl (Z : State) (n1 N2 : Int32) (h0 : Heap) (n0 : Nat) (v : Option Value) (h : Heap) (L : List Loc) : Prop := v = some (.int N2) ∧ Fr n0 L ∧ h = h0
set_option maxRecDepth 65536 in
set_option maxHeartbeats 40000000 in
theorem rm_unbl (l : Launch) (Z : State) (a0 : Array Value) (hw : ∀ d ∈ tables_1, d.before a0 Z = true) (ws : List Jvm.Cond) (n1 N2 : Int32) (h0 : Heap) (n0 : Nat) (Z0 : n0 ≤ h0.size) (hn : ¬ n1 < 0) (hbn : n1 < (1073741823 : Int32)) (hN : n1 <<< ((1 : Int32) &&& 31) = N2) :
    MetFree l (⟨"java/lang/StringUTF16", "newBytesLength", "(I)I"⟩ : MethodName) (head1 (Jvm.Cond.code (⟨"java/lang/StringUTF16", "newBytesLength", "(I)I"⟩ : MethodName) jdk_52_method_3_code 1 (some .int) :: ws) ({ frames := 0, cells := 0, slots := 0, locals := 0 } : Room)) (fun a U => a = #[(.int n1)] ∧ Z.Warmed39 U.vm ∧ U.heap = h0) (fun _ _ _ _ _ => True) (fun _ U o U' => ∃ v L, o = .returned v ∧ Q_unbl Z n1 N2 h0 n0 v U'.heap L ∧ FrameEnd U o U' L ({ frames := 0, cells := 0, slots := 0, locals := 0 } : Room).cells ({ frames := 0, cells := 0, slots := 0, locals := 0 } : Room).slots) := by
  refine MetFree.of_bodySF (plainFor_of_name own_pn_6) hisR ?_
  intro p e s m args below meth c s₁ Bd hml0 hP hK
  obtain ⟨rfl, hZ, hh⟩ := hP
  have hx := Bd.exec
  have hby := Bd.bytes
  have hml : c.maxLocals = 1 := hml0
  have hown : s.vm.findClass "java/lang/StringUTF16" = some m.cls := findClass_of_methodNamed Bd.named
  have hnm := (name_of_methodNamed Bd.named Bd.method).1
  have W := own_W hw
  have X0 : Stand p l e ({ frames := 0, cells := 0, slots := 0, locals := 0 } : Room) s m #[(.int n1)] below meth c s₁ [] 0 0 := Stand.of_body Bd
  have e0 : s₁.heap = h0 := by rw [← hh, Bd.state]; rfl
  have N0 := Fr.nil n0
  have pre0 : ∀ tq, Steps p.tables e below (s₁.setTop (mkF m 0 #[iv n1] [])) tq → Steps p.tables e below (s₁.setTop (entryFrame m #[(.int n1)] 1)) tq := fun tq k => castTop (own_ef_unbl m n1) k
  obtain ⟨fs, hr, hrun, hended, hW, hsame⟩ := X0.leave (v := some (.int N2)) (fun h => by rw [Bd.returns] at h; cases h)
  refine ⟨_, _, pre0 _ (?_), hrun, hended, _, _, rfl, ?_, ⟨_, rfl⟩, hW, hsame.mono (by decide) (by decide)⟩
  · show Steps _ _ _ (s₁.setTop (mkF m 0 #[iv n1] [])) _
    refine XS.iloadN X0.here hx rfl (hb hby own_d22_0) rfl ?_
    show Steps _ _ _ (s₁.setTop (mkF m 1 _ [.int n1])) _
    refine XS.ifYes X0.here hx rfl (pc0 := 1) (pc' := 12) rfl (hb hby own_d22_1) rfl ((if0 _ _).trans (flt (hn : ¬ (n1 < (0 : Int32)))).2.1) (by decide) (by decide) ?_
    show Steps _ _ _ (s₁.setTop (mkF m 12 _ [])) _
    refine XS.iloadN X0.here hx rfl (hb hby own_d22_12) rfl ?_
    show Steps _ _ _ (s₁.setTop (mkF m 13 _ [.int n1])) _
    refine Jvm.Stand.ldcI X0 hx hown (mvT hZ (W 147 rfl)) rfl (hb hby own_d22_13) ?_
    show Steps _ _ _ (s₁.setTop (mkF m 15 _ [.int 1073741823, .int n1])) _
    refine XS.icmpYes X0.here hx rfl (pc0 := 15) (pc' := 55) rfl (hb hby own_d22_15) rfl (tlt (hbn : n1 < (1073741823 : Int32))).1 (by decide) (by decide) ?_
    show Steps _ _ _ (s₁.setTop (mkF m 55 _ [])) _
    refine XS.iloadN X0.here hx rfl (hb hby own_d22_55) rfl ?_
    show Steps _ _ _ (s₁.setTop (mkF m 56 _ [.int n1])) _
    refine XS.iconst X0.here hx rfl (hb hby own_d22_56) ?_
    show Steps _ _ _ (s₁.setTop (mkF m 57 _ [.int 1, .int n1])) _
    refine XS.ishl X0.here hx rfl (hb hby own_d22_57) rfl ?_
    rw [hN]
    show Steps _ _ _ (s₁.setTop (mkF m 58 #[iv n1] [.int N2])) _
    exact retI X0 hx Bd.returns (hb hby own_d22_58) hr
  · show Q_unbl Z n1 N2 h0 n0 _ s₁.heap _
    rw [e0]
    exact ⟨rfl, N0, rfl⟩
theorem own_ofNat2 {n : Nat} (h : 2 * n < 2147483648) : Int32.ofNat n <<< ((1 : Int32) &&& 31) = Int32.ofNat (2 * n) := by
  rw [show ((1 : Int32) &&& 31) = 1 from rfl]
  apply Int32.toBitVec_inj.mp
  rw [Int32.toBitVec_shiftLeft]
  show (BitVec.ofNat 32 n) <<< (((1 : Int32).toBitVec).smod 32) = BitVec.ofNat 32 (2 * n)
  rw [show ((1 : Int32).toBitVec).smod 32 = 1#32 from by decide]
  apply BitVec.eq_of_toNat_eq
  simp [BitVec.toNat_shiftLeft, Nat.shiftLeft_eq, Nat.mul_comm]
theorem own_n32 {n : Nat} (hn : n < 2147483648) : (Int32.ofNat n).toNatClampNeg = n := by
  rw [Int32.toNatClampNeg, Int32.toInt_ofNat_of_lt (by omega)]; rfl
theorem own_nn {n : Nat} (hn : n < 2147483648) : ¬ Int32.ofNat n < 0 := by
  rw [Int32.lt_iff_toInt_lt, Int32.toInt_ofNat_of_lt (by omega), show (0 : Int32).toInt = 0 from rfl]; omega
theorem own_ltI {i n : Nat} (hi : i < 2147483648) (hn : n < 2147483648) : Int32.ofNat i < Int32.ofNat n ↔ i < n := by
  rw [Int32.lt_iff_toInt_lt, Int32.toInt_ofNat_of_lt (by omega), Int32.toInt_ofNat_of_lt (by omega)]; omega
theorem own_one (i : Nat) : Int32.ofNat i + (1 : Int32) = Int32.ofNat (i + 1) := (Int32.ofNat_add i 1).symm

def own_lows (cs : List Int32) : List Value := cs.map fun c => .int (StrChars.lo8 c)
theorem own_take1 (cs : List Int32) {i : Nat} (h : i < cs.length) : cs.take (i + 1) = cs.take i ++ [cs.getD i 0] := by
  rw [List.take_add_one, List.getElem?_eq_getElem h]
  simp [List.getD_eq_getElem?_getD, h]
theorem own_lows_len (cs : List Int32) {i : Nat} (h : i ≤ cs.length) : (own_lows (cs.take i)).length = i := by
  simp [own_lows]; omega
theorem own_lows_next (cs : List Int32) {i : Nat} (h : i < cs.length) : (own_lows (cs.take i) ++ List.replicate 1 (Value.int (0 : Int32))).set i (.int (StrChars.lo8 (cs.getD i 0))) = own_lows (cs.take (i + 1)) := by
  have hl := own_lows_len cs (Nat.le_of_lt h)
  rw [List.set_append, if_neg (by omega), hl, Nat.sub_self, own_take1 cs h]
  simp [own_lows]
theorem own_wide_len : ∀ cs : List Int32, (StrChars.Road.wideBytes cs).length = 2 * cs.length
  | [] => rfl
  | c :: cs => by simp only [StrChars.Road.wideBytes, List.length_cons, own_wide_len cs]; omega
theorem own_wide_app : ∀ (as bs : List Int32), StrChars.Road.wideBytes (as ++ bs) = StrChars.Road.wideBytes as ++ StrChars.Road.wideBytes bs
  | [], bs => rfl
  | a :: as, bs => by simp only [List.cons_append, StrChars.Road.wideBytes, own_wide_app as bs]
theorem own_wide_next (cs : List Int32) {i : Nat} (h : i < cs.length) : ((StrChars.Road.wideBytes (cs.take i) ++ List.replicate 2 (Value.int (0 : Int32))).set (2 * i) (.int (StrChars.lo8 (cs.getD i 0)))).set (2 * i + 1) (.int (StrChars.hi8 (cs.getD i 0))) = StrChars.Road.wideBytes (cs.take (i + 1)) := by
  have hl : (StrChars.Road.wideBytes (cs.take i)).length = 2 * i := by rw [own_wide_len, List.length_take]; omega
  rw [own_take1 cs h, own_wide_app, List.set_append, if_neg (by omega), List.set_append, if_neg (by omega), hl, Nat.sub_self, show 2 * i + 1 - 2 * i = 1 by omega]
  rfl
theorem own_getc (cs : List Int32) {i : Nat} (h : i < cs.length) : (cs.map Value.int).getD i (.int 0) = .int (cs.getD i 0) := by
  simp [List.getD_eq_getElem?_getD, h]
theorem own_gmem (cs : List Int32) {i : Nat} (h : i < cs.length) : cs.getD i 0 ∈ cs := by
  have e : cs.getD i 0 = cs[i] := by simp [List.getD_eq_getElem?_getD, h]
  rw [e]; exact List.getElem_mem h
theorem own_four {n : Nat} (h0 : 0 < n) (h : n ≤ 4) : n = 1 ∨ n = 2 ∨ n = 3 ∨ n = 4 := by omega
theorem own_cfl {n : Nat} (h0 : 0 < n) (h : n ≤ 4) : nar .byte ((own_ushr (Int32.ofNat n - Int32.ofNat n) (31 : Int32)).toInt8.toInt32) = 0 := by rcases own_four h0 h with rfl | rfl | rfl | rfl <;> decide
theorem own_cfw {n : Nat} (h0 : 0 < n) (h : n ≤ 4) : nar .byte ((own_ushr (Int32.ofNat n - Int32.ofNat (2 * n)) (31 : Int32)).toInt8.toInt32) = 1 := by rcases own_four h0 h with rfl | rfl | rfl | rfl <;> decide
theorem own_nz {n : Nat} (h0 : 0 < n) (h : n ≤ 4) : ¬ (Int32.ofNat n = (0 : Int32)) := by rcases own_four h0 h with rfl | rfl | rfl | rfl <;> decide
theorem own_ofNat_inj {a b : Nat} (ha : a < 2147483648) (hb : b < 2147483648) (h : Int32.ofNat a = Int32.ofNat b) : a = b := by
  have := congrArg Int32.toInt h
  rw [Int32.toInt_ofNat_of_lt (by omega), Int32.toInt_ofNat_of_lt (by omega)] at this; omega
theorem own_st6 {z0 z1 z2 z3 z4 z5 : Value} {s6 : Slot} {v : Int32} (h : One s6) : storeLocals #[.val z0, .val z1, .val z2, .val z3, .val z4, .val z5, s6] 6 (.int v) = some #[.val z0, .val z1, .val z2, .val z3, .val z4, .val z5, .val (.int v)] := by
  rcases h with rfl | ⟨w, rfl, hw⟩
  · rfl
  · cases w <;> first | rfl | (simp [Value.category] at hw)

theorem own_d21_0 : decode jdk_52_method_2_code 0 = .ok (.iload_n 0, 1) := by decide +kernel
theorem own_d21_1 : decode jdk_52_method_2_code 1 = .ok (.invokestatic 11, 3) := by decide +kernel
theorem own_pd_23 : parseMethodDescriptor "(I)I" = some ⟨[.int], some .int⟩ := by decide +kernel
theorem own_d21_4 : decode jdk_52_method_2_code 4 = .ok (.newarray .byte, 2) := by decide +kernel
theorem own_d21_6 : decode jdk_52_method_2_code 6 = .ok (.areturn, 1) := by decide +kernel
theorem own_ef_unbf (m : MethodId) (x0 : Int32) : entryFrame m #[(.int x0)] 1 = mkF m 0 #[iv x0] [] := by first | (simp [entryFrame, mkF, argsToLocals, Value.category]; done) | rfl
def Q_unbf (Z : State) (cs : List Int32) (h0 : Heap) (n0 : Nat) (v : Option Value) (h : Heap) (L : List Loc) : Prop := ∃ b kb, v = some (.ref b) ∧ Fr n0 L ∧ Keep h0 h [] ∧ h0.size ≤ b ∧ Arv Z h b kb .byte (Int32.ofNat (2 * cs.length)) [] (.int 0)
set_option maxRecDepth 65536 in
set_option maxHeartbeats 40000000 in
theorem rm_unbf (l : Launch) (Z : State) (a0 : Array Value) (hw : ∀ d ∈ tables_1, d.before a0 Z = true) (ws : List Jvm.Cond) (cs : List Int32) (h0 : Heap) (n0 : Nat) (Z0 : n0 ≤ h0.size) (hn0 : 0 < cs.length) (hn4 : cs.length ≤ 4)  :
    MetFree l (⟨"java/lang/StringUTF16", "newBytesFor", "(I)[B"⟩ : MethodName) (head1 (Jvm.Cond.code (⟨"java/lang/StringUTF16", "newBytesFor", "(I)[B"⟩ : MethodName) jdk_52_method_2_code 1 (some (.array .byte)) :: ws) ({ frames := 1, cells := 1, slots := 8, locals := 12 } : Room)) (fun a U => a = #[(.int (Int32.ofNat cs.length))] ∧ Z.Warmed39 U.vm ∧ U.heap = h0) (fun _ _ _ _ _ => True) (fun _ U o U' => ∃ v L, o = .returned v ∧ Q_unbf Z cs h0 n0 v U'.heap L ∧ FrameEnd U o U' L ({ frames := 1, cells := 1, slots := 8, locals := 12 } : Room).cells ({ frames := 1, cells := 1, slots := 8, locals := 12 } : Room).slots) := by
  refine MetFree.of_bodySF (plainFor_of_name own_pn_6) hisR ?_
  intro p e s m args below meth c s₁ Bd hml0 hP hK
  obtain ⟨rfl, hZ, hh⟩ := hP
  have hx := Bd.exec
  have hby := Bd.bytes
  have hml : c.maxLocals = 1 := hml0
  have hown : s.vm.findClass "java/lang/StringUTF16" = some m.cls := findClass_of_methodNamed Bd.named
  have hnm := (name_of_methodNamed Bd.named Bd.method).1
  have W := own_W hw
  have X0 : Stand p l e ({ frames := 1, cells := 1, slots := 8, locals := 12 } : Room) s m #[(.int (Int32.ofNat cs.length))] below meth c s₁ [] 0 0 := Stand.of_body Bd
  have e0 : s₁.heap = h0 := by rw [← hh, Bd.state]; rfl
  have N0 := Fr.nil n0
  have pre0 : ∀ tq, Steps p.tables e below (s₁.setTop (mkF m 0 #[iv (Int32.ofNat cs.length)] [])) tq → Steps p.tables e below (s₁.setTop (entryFrame m #[(.int (Int32.ofNat cs.length))] 1)) tq := fun tq k => castTop (own_ef_unbf m (Int32.ofNat cs.length)) k
  have K28 : Keep h0 h0 [] := Keep.refl h0 []
  obtain ⟨_, _, ⟨T29, L29, k29, n29⟩, -, X29, ⟨Lc29, hQ29, l29, y29, z29⟩, st29⟩ := Jvm.LawKit.callS X0 hx (y := (⟨"java/lang/StringUTF16", "newBytesLength", "(I)I"⟩ : MethodName)) hown (mvT hZ (W 144 rfl)) (mvT hZ (W 145 rfl)) (mvT hZ (W 91 rfl)) (mvT hZ (W 146 rfl)) (by decide) (backOf (W := 0) (rm_unbl l Z a0 hw [] (Int32.ofNat cs.length) (Int32.ofNat (2 * cs.length)) h0 n0 Z0 (own_nn (by omega)) ((own_ltI (n := 1073741823) (by omega) (by omega)).mpr (by omega)) (own_ofNat2 (by omega))) hZ (W 146 rfl) (W 91 rfl) (by decide) (by decide)) (g := (mkF m 1 #[iv (Int32.ofNat cs.length)] [.int (Int32.ofNat cs.length)])) rfl (by rw [hml]; rfl) (argsL := [.int (Int32.ofNat cs.length)]) (rest := []) (lenOf own_pd_23 rfl) rfl own_wt (hb hby own_d21_1) (fun _ _ => ⟨rfl, e0, (by decide : 0 + 0 ≤ _), (by decide : 0 + 0 ≤ _)⟩)
  dsimp only [Pt.U, Pt.locs, Pt.cells, Pt.slots] at X29 l29 y29 z29 st29 hQ29
  subst l29 y29 z29
  obtain ⟨rfl, Nq29, e29⟩ := hQ29
  have N29 := Fr.app N0 Nq29
  obtain ⟨T30, h30, k30, X30, e30, E30, A30, st30⟩ := newP X29 hx hZ (W 23 rfl) e29 (g := (mkF m 4 #[iv (Int32.ofNat cs.length)] [.int (Int32.ofNat (2 * cs.length))])) rfl (hb hby own_d21_4) rfl (own_nn (by omega)) (cap := 8) (by rw [own_n32 (by omega)]; omega) (by decide) (by decide) (by decide)
  obtain ⟨b30, g30⟩ : ∃ z, z = h0.size := ⟨_, rfl⟩
  rw [← g30] at A30 st30
  have g31 : n0 ≤ b30 := Nat.le_trans Z0 (Nat.le_of_eq g30.symm)
  have g32 : h0.size ≤ b30 := Nat.le_trans K28.1 (Nat.le_of_eq g30.symm)
  have Z33 : n0 ≤ h30.size := Nat.le_trans Z0 E30.1
  have K34 : Keep h0 h30 [] := K28.ext E30
  have V30 : Arv Z h30 b30 k30 .byte (Int32.ofNat (2 * cs.length)) [] (.int (0 : Int32)) := Arv.new A30 (own_nn (by omega))
  obtain ⟨fs, hr, hrun, hended, hW, hsame⟩ := X30.leave (v := some (.ref b30)) (fun h => by rw [Bd.returns] at h; cases h)
  refine ⟨_, _, pre0 _ (?_), hrun, hended, _, _, rfl, ?_, ⟨_, rfl⟩, hW, hsame.mono (by decide) (by decide)⟩
  · show Steps _ _ _ (s₁.setTop (mkF m 0 #[iv (Int32.ofNat cs.length)] [])) _
    refine XS.iloadN X0.here hx rfl (hb hby own_d21_0) rfl ?_
    show Steps _ _ _ (s₁.setTop (mkF m 1 _ [.int (Int32.ofNat cs.length)])) _
    refine st29 _ ?_
    show Steps _ _ _ (T29.setTop (mkF m 4 #[iv (Int32.ofNat cs.length)] [.int (Int32.ofNat (2 * cs.length))])) _
    refine st30 _ ?_
    show Steps _ _ _ (T30.setTop (mkF m 6 #[iv (Int32.ofNat cs.length)] [.ref b30])) _
    exact retOut X30 hx Bd.returns rfl (Or.inr (Or.inr (Or.inr (Or.inr ⟨rfl, rfl, rfl⟩)))) (hb hby own_d21_6) hr
  · show Q_unbf Z cs h0 n0 _ T30.heap _
    rw [e30]
    exact ⟨b30, k30, rfl, N29, K34, g32, V30⟩
theorem own_d17_0 : decode jdk_52_method_14_code 0 = .ok (.iload_n 2, 1) := by decide +kernel
theorem own_d17_1 : decode jdk_52_method_14_code 1 = .ok (.invokestatic 107, 3) := by decide +kernel
theorem own_pd_22 : parseMethodDescriptor "(I)[B" = some ⟨[.int], some (.array .byte)⟩ := by decide +kernel
theorem own_d17_4 : decode jdk_52_method_14_code 4 = .ok (.astore_n 3, 1) := by decide +kernel
theorem own_d17_5 : decode jdk_52_method_14_code 5 = .ok (.iconst 0, 1) := by decide +kernel
theorem own_d17_6 : decode jdk_52_method_14_code 6 = .ok (.istore 4, 2) := by decide +kernel
theorem own_d17_8 : decode jdk_52_method_14_code 8 = .ok (.iload 4, 2) := by decide +kernel
theorem own_d17_10 : decode jdk_52_method_14_code 10 = .ok (.iload_n 2, 1) := by decide +kernel
theorem own_d17_11 : decode jdk_52_method_14_code 11 = .ok (.if_icmp .ge 21, 3) := by decide +kernel
theorem own_d17_14 : decode jdk_52_method_14_code 14 = .ok (.aload_n 3, 1) := by decide +kernel
theorem own_d17_15 : decode jdk_52_method_14_code 15 = .ok (.iload 4, 2) := by decide +kernel
theorem own_d17_17 : decode jdk_52_method_14_code 17 = .ok (.aload_n 0, 1) := by decide +kernel
theorem own_d17_18 : decode jdk_52_method_14_code 18 = .ok (.iload_n 1, 1) := by decide +kernel
theorem own_d17_19 : decode jdk_52_method_14_code 19 = .ok (.caload, 1) := by decide +kernel
theorem own_d17_20 : decode jdk_52_method_14_code 20 = .ok (.invokestatic 111, 3) := by decide +kernel
theorem own_pd_24 : parseMethodDescriptor "([BII)V" = some ⟨[(.array .byte), .int, .int], none⟩ := by decide +kernel
theorem own_d17_23 : decode jdk_52_method_14_code 23 = .ok (.iinc 1 1, 3) := by decide +kernel
theorem own_d17_26 : decode jdk_52_method_14_code 26 = .ok (.iinc 4 1, 3) := by decide +kernel
theorem own_d17_29 : decode jdk_52_method_14_code 29 = .ok (.goto (-21), 3) := by decide +kernel
theorem own_d17_32 : decode jdk_52_method_14_code 32 = .ok (.aload_n 3, 1) := by decide +kernel
theorem own_d17_33 : decode jdk_52_method_14_code 33 = .ok (.areturn, 1) := by decide +kernel
theorem own_ef_utb (m : MethodId) (x0 : Addr) (x1 : Int32) (x2 : Int32) : entryFrame m #[(.ref x0), (.int x1), (.int x2)] 5 = mkF m 0 #[rv x0, iv x1, iv x2, uu, uu] [] := by first | (simp [entryFrame, mkF, argsToLocals, Value.category]; done) | rfl
def Q_utb (Z : State) (b1 : Addr) (kc : ClassId) (cs : List Int32) (h0 : Heap) (n0 : Nat) (v : Option Value) (h : Heap) (L : List Loc) : Prop := ∃ b kb, v = some (.ref b) ∧ Fr n0 L ∧ Keep h0 h [] ∧ h0.size ≤ b ∧ Arv Z h b kb .byte (Int32.ofNat (2 * cs.length)) (StrChars.Road.wideBytes cs) (.int 0)
set_option maxRecDepth 65536 in
set_option maxHeartbeats 40000000 in
theorem rm_utb (l : Launch) (Z : State) (a0 : Array Value) (hw : ∀ d ∈ tables_1, d.before a0 Z = true) (ws : List Jvm.Cond) (b1 : Addr) (kc : ClassId) (cs : List Int32) (h0 : Heap) (n0 : Nat) (Z0 : n0 ≤ h0.size) (X00 : Old Z n0 h0) (V1 : Arv Z h0 b1 kc .char (Int32.ofNat cs.length) (cs.map Value.int) (.int 0)) (hn0 : 0 < cs.length) (hn4 : cs.length ≤ 4) (OA : Sta Z Z.heap "java/lang/StringUTF16" "$assertionsDisabled" "Z" (.int (1 : Int32))) (OH : Sta Z Z.heap "java/lang/StringUTF16" "HI_BYTE_SHIFT" "I" (.int (0 : Int32))) (OL : Sta Z Z.heap "java/lang/StringUTF16" "LO_BYTE_SHIFT" "I" (.int (8 : Int32))) :
    MetFree l (⟨"java/lang/StringUTF16", "toBytes", "([CII)[B"⟩ : MethodName) (head1 (Jvm.Cond.code (⟨"java/lang/StringUTF16", "toBytes", "([CII)[B"⟩ : MethodName) jdk_52_method_14_code 5 (some (.array .byte)) :: ws) ({ frames := 2, cells := 1, slots := 8, locals := 24 } : Room)) (fun a U => a = #[(.ref b1), (.int (0 : Int32)), (.int (Int32.ofNat cs.length))] ∧ Z.Warmed39 U.vm ∧ U.heap = h0) (fun _ _ _ _ _ => True) (fun _ U o U' => ∃ v L, o = .returned v ∧ Q_utb Z b1 kc cs h0 n0 v U'.heap L ∧ FrameEnd U o U' L ({ frames := 2, cells := 1, slots := 8, locals := 24 } : Room).cells ({ frames := 2, cells := 1, slots := 8, locals := 24 } : Room).slots) := by
  refine MetFree.of_bodySF (plainFor_of_name own_pn_6) hisR ?_
  intro p e s m args below meth c s₁ Bd hml0 hP hK
  obtain ⟨rfl, hZ, hh⟩ := hP
  have hx := Bd.exec
  have hby := Bd.bytes
  have hml : c.maxLocals = 5 := hml0
  have hown : s.vm.findClass "java/lang/StringUTF16" = some m.cls := findClass_of_methodNamed Bd.named
  have hnm := (name_of_methodNamed Bd.named Bd.method).1
  have W := own_W hw
  have X0 : Stand p l e ({ frames := 2, cells := 1, slots := 8, locals := 24 } : Room) s m #[(.ref b1), (.int (0 : Int32)), (.int (Int32.ofNat cs.length))] below meth c s₁ [] 0 0 := Stand.of_body Bd
  have e0 : s₁.heap = h0 := by rw [← hh, Bd.state]; rfl
  have N0 := Fr.nil n0
  have pre0 : ∀ tq, Steps p.tables e below (s₁.setTop (mkF m 0 #[rv b1, iv 0, iv (Int32.ofNat cs.length), uu, uu] [])) tq → Steps p.tables e below (s₁.setTop (entryFrame m #[(.ref b1), (.int (0 : Int32)), (.int (Int32.ofNat cs.length))] 5)) tq := fun tq k => castTop (own_ef_utb m b1 (0 : Int32) (Int32.ofNat cs.length)) k
  have K35 : Keep h0 h0 [] := Keep.refl h0 []
  obtain ⟨_, _, ⟨T36, L36, k36, n36⟩, -, X36, ⟨Lc36, hQ36, l36, y36, z36⟩, st36⟩ := Jvm.LawKit.callS X0 hx (y := (⟨"java/lang/StringUTF16", "newBytesFor", "(I)[B"⟩ : MethodName)) hown (mvT hZ (W 141 rfl)) (mvT hZ (W 142 rfl)) (mvT hZ (W 91 rfl)) (mvT hZ (W 143 rfl)) (by decide) (backOf (W := 0) (rm_unbf l Z a0 hw [] cs h0 n0 Z0 hn0 hn4) hZ (W 143 rfl) (W 91 rfl) (by decide) (by decide)) (g := (mkF m 1 #[rv b1, iv 0, iv (Int32.ofNat cs.length), uu, uu] [.int (Int32.ofNat cs.length)])) rfl (by rw [hml]; rfl) (argsL := [.int (Int32.ofNat cs.length)]) (rest := []) (lenOf own_pd_22 rfl) rfl own_wt (hb hby own_d17_1) (fun _ _ => ⟨rfl, e0, (by decide : 0 + 1 ≤ _), (by decide : 0 + 8 ≤ _)⟩)
  dsimp only [Pt.U, Pt.locs, Pt.cells, Pt.slots] at X36 l36 y36 z36 st36 hQ36
  subst l36 y36 z36
  obtain ⟨b36, kb36, hv36, Nq36, K36, sb36, V36⟩ := hQ36
  subst hv36
  have N36 := Fr.app N0 Nq36
  have g37 : n0 ≤ b36 := Nat.le_trans Z0 sb36
  have g38 : h0.size ≤ b36 := Nat.le_trans K35.1 sb36
  have Z39 : n0 ≤ T36.heap.size := Nat.le_trans Z0 K36.1
  have O40 : Old Z n0 T36.heap := X00.keep K36 all0
  have K41 : Keep h0 T36.heap [] := K35.trans K36 all0
  have G42 : ∀ tq, Steps p.tables e below (T36.setTop (mkF m 8 #[rv b1, iv 0, iv (Int32.ofNat cs.length), rv b36, iv 0] [])) tq → Steps p.tables e below (s₁.setTop (mkF m 0 #[rv b1, iv 0, iv (Int32.ofNat cs.length), uu, uu] [])) tq := by
    intro tq kk
    show Steps _ _ _ (s₁.setTop (mkF m 0 #[rv b1, iv 0, iv (Int32.ofNat cs.length), uu, uu] [])) _
    refine XS.iloadN X0.here hx rfl (hb hby own_d17_0) rfl ?_
    show Steps _ _ _ (s₁.setTop (mkF m 1 _ [.int (Int32.ofNat cs.length)])) _
    refine st36 _ ?_
    show Steps _ _ _ (T36.setTop (mkF m 4 #[rv b1, iv 0, iv (Int32.ofNat cs.length), uu, uu] [.ref b36])) _
    refine XS.astoreN X36.here hx rfl (hb hby own_d17_4) rfl rfl (l' := #[rv b1, iv 0, iv (Int32.ofNat cs.length), rv b36, uu]) rfl ?_
    show Steps _ _ _ (T36.setTop (mkF m 5 _ [])) _
    refine XS.iconst X36.here hx rfl (hb hby own_d17_5) ?_
    show Steps _ _ _ (T36.setTop (mkF m 6 _ [.int 0])) _
    refine XS.istore X36.here hx rfl (hb hby own_d17_6) rfl (l' := #[rv b1, iv 0, iv (Int32.ofNat cs.length), rv b36, iv 0]) rfl ?_
    exact kk
  have f43 := (V1.keep K36 nin0)
  have hne : b1 ≠ b36 := (Nat.ne_of_lt (Nat.lt_of_lt_of_le V1.lt sb36))
  have loop : ∀ (k i : Nat) (T : State) (locs : List Loc) (h : Heap), i + k = cs.length → Stand p l e ({ frames := 2, cells := 1, slots := 8, locals := 24 } : Room) s m #[(.ref b1), (.int (0 : Int32)), (.int (Int32.ofNat cs.length))] below meth c T locs 1 8 → T.heap = h → Fr n0 locs → n0 ≤ h.size → Old Z n0 h → Keep T36.heap h [b36] → Arv Z h b36 kb36 .byte (Int32.ofNat (2 * cs.length)) (StrChars.Road.wideBytes (cs.take i)) (.int 0) →
      ∃ (T' : State) (locs' : List Loc) (h' : Heap), Stand p l e ({ frames := 2, cells := 1, slots := 8, locals := 24 } : Room) s m #[(.ref b1), (.int (0 : Int32)), (.int (Int32.ofNat cs.length))] below meth c T' locs' 1 8 ∧ T'.heap = h' ∧ Fr n0 locs' ∧ Keep T36.heap h' [b36] ∧ Arv Z h' b36 kb36 .byte (Int32.ofNat (2 * cs.length)) (StrChars.Road.wideBytes cs) (.int 0) ∧ (∀ tgt, Steps p.tables e below (T'.setTop (mkF m 32 #[rv b1, iv (Int32.ofNat cs.length), iv (Int32.ofNat cs.length), rv b36, iv (Int32.ofNat cs.length)] [])) tgt → Steps p.tables e below (T.setTop (mkF m 8 #[rv b1, iv (Int32.ofNat i), iv (Int32.ofNat cs.length), rv b36, iv (Int32.ofNat i)] [])) tgt) := by
    intro k
    induction k with
    | zero =>
      intro i T locs h hi XT eT NT ZT OT KT VT
      have hii : i = cs.length := by omega
      subst hii
      rw [List.take_length] at VT
      have G44 : ∀ tq, Steps p.tables e below (T.setTop (mkF m 32 #[rv b1, iv (Int32.ofNat cs.length), iv (Int32.ofNat cs.length), rv b36, iv (Int32.ofNat cs.length)] [])) tq → Steps p.tables e below (T.setTop (mkF m 8 #[rv b1, iv (Int32.ofNat cs.length), iv (Int32.ofNat cs.length), rv b36, iv (Int32.ofNat cs.length)] [])) tq := by
        intro tq kk
        show Steps _ _ _ (T.setTop (mkF m 8 #[rv b1, iv (Int32.ofNat cs.length), iv (Int32.ofNat cs.length), rv b36, iv (Int32.ofNat cs.length)] [])) _
        refine XS.iload XT.here hx rfl (hb hby own_d17_8) rfl ?_
        show Steps _ _ _ (T.setTop (mkF m 10 _ [.int (Int32.ofNat cs.length)])) _
        refine XS.iloadN XT.here hx rfl (hb hby own_d17_10) rfl ?_
        show Steps _ _ _ (T.setTop (mkF m 11 _ [.int (Int32.ofNat cs.length), .int (Int32.ofNat cs.length)])) _
        refine XS.icmpYes XT.here hx rfl (pc0 := 11) (pc' := 32) rfl (hb hby own_d17_11) rfl (flt (Int32.lt_irrefl : ¬ ((Int32.ofNat cs.length) < (Int32.ofNat cs.length)))).2.1 (by decide) (by decide) ?_
        exact kk
      exact ⟨T, locs, h, XT, eT, NT, KT, VT, fun tgt kk => G44 _ kk⟩
    | succ k ih =>
      intro i T locs h hi XT eT NT ZT OT KT VT
      have hil : i < cs.length := by omega
      have hit : Int32.ofNat i < (Int32.ofNat cs.length) := (own_ltI (by omega) (by omega)).mpr hil
      have VC := f43.keep KT (ninS hne nin0)
      obtain ⟨cl45, Ar45, aq45, aS45, aN45, aH45, aG45⟩ := id VC
      have hin := inb_of aS45 ⟨own_nn (n := i) (by omega), hit⟩
      have hat := Has.at aH45 hin (show (cs.map Value.int).getD (Int32.ofNat i).toNatClampNeg (.int 0) = .int (cs.getD i 0) by rw [own_n32 (by omega)]; exact own_getc cs hil)
      have VP := VT.pad (pad_rep _ (.int (0 : Int32)) 2)
      obtain ⟨_, _, ⟨T46, L46, k46, n46⟩, -, X46, ⟨Lc46, hQ46, l46, y46, z46⟩, st46⟩ := Jvm.LawKit.callS XT hx (y := (⟨"java/lang/StringUTF16", "putChar", "([BII)V"⟩ : MethodName)) hown (mvT hZ (W 148 rfl)) (mvT hZ (W 149 rfl)) (mvT hZ (W 91 rfl)) (mvT hZ (W 150 rfl)) (by decide) (backOf (W := 0) (rm_uput l Z a0 hw [] b36 (Int32.ofNat i) (Int32.ofNat (2 * i)) (Int32.ofNat (2 * i + 1)) kb36 (Int32.ofNat (2 * cs.length)) (cs.getD i 0) _ h n0 ZT OT VP g37 (own_ofNat2 (by omega)) (own_one _) ⟨own_nn (by omega), (own_ltI (by omega) (by omega)).mpr (by omega)⟩ ⟨own_nn (by omega), (own_ltI (by omega) (by omega)).mpr (by omega)⟩ (by rw [own_n32 (by omega), List.length_append, own_wide_len, List.length_take, List.length_replicate]; omega) (by rw [own_n32 (by omega), List.length_append, own_wide_len, List.length_take, List.length_replicate]; omega) OA OH OL) hZ (W 150 rfl) (W 91 rfl) (by decide) (by decide)) (g := (mkF m 20 #[rv b1, iv (Int32.ofNat i), iv (Int32.ofNat cs.length), rv b36, iv (Int32.ofNat i)] [.int (cs.getD i 0), .int (Int32.ofNat i), .ref b36])) rfl (by rw [hml]; rfl) (argsL := [.ref b36, .int (Int32.ofNat i), .int (cs.getD i 0)]) (rest := []) (lenOf own_pd_24 rfl) rfl own_wt (hb hby own_d17_20) (fun _ _ => ⟨rfl, eT, (by decide : 1 + 0 ≤ _), (by decide : 8 + 0 ≤ _)⟩)
      dsimp only [Pt.U, Pt.locs, Pt.cells, Pt.slots] at X46 l46 y46 z46 st46 hQ46
      subst l46 y46 z46
      obtain ⟨rfl, Nq46, K46, Vx46⟩ := hQ46
      have N46 := Fr.app NT Nq46
      rw [own_n32 (by omega), own_n32 (by omega), own_wide_next cs hil] at Vx46
      have Z47 : n0 ≤ T46.heap.size := Nat.le_trans ZT K46.1
      have O48 : Old Z n0 T46.heap := OT.keep K46 (allS g37 all0)
      have G49 : ∀ tq, Steps p.tables e below (T46.setTop (mkF m 8 #[rv b1, iv (Int32.ofNat (i + 1)), iv (Int32.ofNat cs.length), rv b36, iv (Int32.ofNat (i + 1))] [])) tq → Steps p.tables e below (T.setTop (mkF m 8 #[rv b1, iv (Int32.ofNat i), iv (Int32.ofNat cs.length), rv b36, iv (Int32.ofNat i)] [])) tq := by
        intro tq kk
        show Steps _ _ _ (T.setTop (mkF m 8 #[rv b1, iv (Int32.ofNat i), iv (Int32.ofNat cs.length), rv b36, iv (Int32.ofNat i)] [])) _
        refine XS.iload XT.here hx rfl (hb hby own_d17_8) rfl ?_
        show Steps _ _ _ (T.setTop (mkF m 10 _ [.int (Int32.ofNat i)])) _
        refine XS.iloadN XT.here hx rfl (hb hby own_d17_10) rfl ?_
        show Steps _ _ _ (T.setTop (mkF m 11 _ [.int (Int32.ofNat cs.length), .int (Int32.ofNat i)])) _
        refine XS.icmpNo XT.here hx rfl (hb hby own_d17_11) rfl (tlt (hit : (Int32.ofNat i) < (Int32.ofNat cs.length))).2.1 ?_
        show Steps _ _ _ (T.setTop (mkF m 14 _ [])) _
        refine XS.aloadN XT.here hx rfl (hb hby own_d17_14) rfl rfl ?_
        show Steps _ _ _ (T.setTop (mkF m 15 _ [.ref b36])) _
        refine XS.iload XT.here hx rfl (hb hby own_d17_15) rfl ?_
        show Steps _ _ _ (T.setTop (mkF m 17 _ [.int (Int32.ofNat i), .ref b36])) _
        refine XS.aloadN XT.here hx rfl (hb hby own_d17_17) rfl rfl ?_
        show Steps _ _ _ (T.setTop (mkF m 18 _ [.ref b1, .int (Int32.ofNat i), .ref b36])) _
        refine XS.iloadN XT.here hx rfl (hb hby own_d17_18) rfl ?_
        show Steps _ _ _ (T.setTop (mkF m 19 _ [.int (Int32.ofNat i), .ref b1, .int (Int32.ofNat i), .ref b36])) _
        refine XT.caload hx (j := (Int32.ofNat i)) (v := (.int (cs.getD i 0))) (by rw [eT]; exact Ar45.1) (State.isArrayOf_alike hZ.alike Ar45.2.1) Ar45.2.2 hin hat (g := (mkF m 19 #[rv b1, iv (Int32.ofNat i), iv (Int32.ofNat cs.length), rv b36, iv (Int32.ofNat i)] [.int (Int32.ofNat i), .ref b1, .int (Int32.ofNat i), .ref b36])) rfl rfl (hb hby own_d17_19) _ ?_
        show Steps _ _ _ (T.setTop (mkF m 20 #[rv b1, iv (Int32.ofNat i), iv (Int32.ofNat cs.length), rv b36, iv (Int32.ofNat i)] [.int (cs.getD i 0), .int (Int32.ofNat i), .ref b36])) _
        refine st46 _ ?_
        show Steps _ _ _ (T46.setTop (mkF m 23 #[rv b1, iv (Int32.ofNat i), iv (Int32.ofNat cs.length), rv b36, iv (Int32.ofNat i)] [])) _
        refine XS.iinc X46.here hx rfl (hb hby own_d17_23) rfl (l' := #[rv b1, iv (Int32.ofNat (i + 1)), iv (Int32.ofNat cs.length), rv b36, iv (Int32.ofNat i)]) (by rw [show Int32.ofNat i + Int32.ofInt 1 = Int32.ofNat (i + 1) from own_one i]; rfl) ?_
        show Steps _ _ _ (T46.setTop (mkF m 26 _ [])) _
        refine XS.iinc X46.here hx rfl (hb hby own_d17_26) rfl (l' := #[rv b1, iv (Int32.ofNat (i + 1)), iv (Int32.ofNat cs.length), rv b36, iv (Int32.ofNat (i + 1))]) (by rw [show Int32.ofNat i + Int32.ofInt 1 = Int32.ofNat (i + 1) from own_one i]; rfl) ?_
        show Steps _ _ _ (T46.setTop (mkF m 29 _ [])) _
        refine XS.goto X46.here hx rfl (pc0 := 29) (pc' := 8) rfl (hb hby own_d17_29) (by decide) (by decide) ?_
        exact kk
      obtain ⟨T', locs', h', XA, eA, NA, KA, VA, GA⟩ := ih (i + 1) T46 _ T46.heap (by omega) X46 rfl N46 Z47 O48 (KT.trans K46 (allS (Or.inl (by simp)) all0)) Vx46
      exact ⟨T', locs', h', XA, eA, NA, KA, VA, fun tgt kk => G49 _ (GA _ kk)⟩
  obtain ⟨T9, locs9, h9, X9, e9, N9, K9, V9, G9⟩ := loop cs.length 0 T36 _ T36.heap (by omega) X36 rfl N36 Z39 O40 (Keep.refl _ _) V36
  have KF : Keep h0 h9 [] := K41.trans K9 (allS (Or.inr g38) all0)
  obtain ⟨fs, hr, hrun, hended, hW, hsame⟩ := X9.leave (v := some (.ref b36)) (fun h => by rw [Bd.returns] at h; cases h)
  refine ⟨_, _, pre0 _ (G42 _ (G9 _ (?_))), hrun, hended, _, _, rfl, ?_, ⟨_, rfl⟩, hW, hsame.mono (by decide) (by decide)⟩
  · show Steps _ _ _ (T9.setTop (mkF m 32 #[rv b1, iv (Int32.ofNat cs.length), iv (Int32.ofNat cs.length), rv b36, iv (Int32.ofNat cs.length)] [])) _
    refine XS.aloadN X9.here hx rfl (hb hby own_d17_32) rfl rfl ?_
    show Steps _ _ _ (T9.setTop (mkF m 33 _ [.ref b36])) _
    exact retOut X9 hx Bd.returns rfl (Or.inr (Or.inr (Or.inr (Or.inr ⟨rfl, rfl, rfl⟩)))) (hb hby own_d17_33) hr
  · show Q_utb Z b1 kc cs h0 n0 _ T9.heap _
    rw [e9]
    exact ⟨b36, kb36, rfl, N9, KF, g38, V9⟩
theorem own_d20_0 : decode jdk_52_method_21_code 0 = .ok (.iconst 0, 1) := by decide +kernel
theorem own_d20_1 : decode jdk_52_method_21_code 1 = .ok (.istore 5, 2) := by decide +kernel
theorem own_d20_3 : decode jdk_52_method_21_code 3 = .ok (.iload 5, 2) := by decide +kernel
theorem own_d20_5 : decode jdk_52_method_21_code 5 = .ok (.iload 4, 2) := by decide +kernel
theorem own_d20_7 : decode jdk_52_method_21_code 7 = .ok (.if_icmp .ge 37, 3) := by decide +kernel
theorem own_d20_10 : decode jdk_52_method_21_code 10 = .ok (.aload_n 0, 1) := by decide +kernel
theorem own_d20_11 : decode jdk_52_method_21_code 11 = .ok (.iload_n 1, 1) := by decide +kernel
theorem own_d20_12 : decode jdk_52_method_21_code 12 = .ok (.caload, 1) := by decide +kernel
theorem own_d20_13 : decode jdk_52_method_21_code 13 = .ok (.istore 6, 2) := by decide +kernel
theorem own_d20_15 : decode jdk_52_method_21_code 15 = .ok (.iload 6, 2) := by decide +kernel
theorem own_d20_17 : decode jdk_52_method_21_code 17 = .ok (.sipush 255, 3) := by decide +kernel
theorem own_d20_20 : decode jdk_52_method_21_code 20 = .ok (.if_icmp .le 6, 3) := by decide +kernel
theorem own_d20_26 : decode jdk_52_method_21_code 26 = .ok (.aload_n 2, 1) := by decide +kernel
theorem own_d20_27 : decode jdk_52_method_21_code 27 = .ok (.iload_n 3, 1) := by decide +kernel
theorem own_d20_28 : decode jdk_52_method_21_code 28 = .ok (.iload 6, 2) := by decide +kernel
theorem own_d20_30 : decode jdk_52_method_21_code 30 = .ok (.i2b, 1) := by decide +kernel
theorem own_d20_31 : decode jdk_52_method_21_code 31 = .ok (.bastore, 1) := by decide +kernel
theorem own_d20_32 : decode jdk_52_method_21_code 32 = .ok (.iinc 1 1, 3) := by decide +kernel
theorem own_d20_35 : decode jdk_52_method_21_code 35 = .ok (.iinc 3 1, 3) := by decide +kernel
theorem own_d20_38 : decode jdk_52_method_21_code 38 = .ok (.iinc 5 1, 3) := by decide +kernel
theorem own_d20_41 : decode jdk_52_method_21_code 41 = .ok (.goto (-38), 3) := by decide +kernel
theorem own_d20_44 : decode jdk_52_method_21_code 44 = .ok (.iload 4, 2) := by decide +kernel
theorem own_d20_46 : decode jdk_52_method_21_code 46 = .ok (.ireturn, 1) := by decide +kernel
theorem own_d20_23 : decode jdk_52_method_21_code 23 = .ok (.iload 5, 2) := by decide +kernel
theorem own_d20_25 : decode jdk_52_method_21_code 25 = .ok (.ireturn, 1) := by decide +kernel
theorem own_ef_ucl (m : MethodId) (x0 : Addr) (x1 : Int32) (x2 : Addr) (x3 : Int32) (x4 : Int32) : entryFrame m #[(.ref x0), (.int x1), (.ref x2), (.int x3), (.int x4)] 7 = mkF m 0 #[rv x0, iv x1, rv x2, iv x3, iv x4, uu, uu] [] := by first | (simp [entryFrame, mkF, argsToLocals, Value.category]; done) | rfl
def Q_ucl (Z : State) (b1 d1 : Addr) (kc kd : ClassId) (cs : List Int32) (h0 : Heap) (n0 : Nat) (v : Option Value) (h : Heap) (L : List Loc) : Prop := Fr n0 L ∧ Keep h0 h [d1] ∧ ((v = some (.int (Int32.ofNat cs.length)) ∧ (∀ c ∈ cs, ¬ (255 : Int32) < c) ∧ Arv Z h d1 kd .byte (Int32.ofNat cs.length) (own_lows cs) (.int 0)) ∨ (∃ i, v = some (.int (Int32.ofNat i)) ∧ i < cs.length ∧ (255 : Int32) < cs.getD i 0))
set_option maxRecDepth 65536 in
set_option maxHeartbeats 40000000 in
theorem rm_ucl (l : Launch) (Z : State) (a0 : Array Value) (hw : ∀ d ∈ tables_1, d.before a0 Z = true) (ws : List Jvm.Cond) (b1 d1 : Addr) (kc kd : ClassId) (cs : List Int32) (h0 : Heap) (n0 : Nat) (Z0 : n0 ≤ h0.size) (V1 : Arv Z h0 b1 kc .char (Int32.ofNat cs.length) (cs.map Value.int) (.int 0)) (V2 : Arv Z h0 d1 kd .byte (Int32.ofNat cs.length) [] (.int 0)) (hne : b1 ≠ d1) (g1 : n0 ≤ d1) (hn0 : 0 < cs.length) (hn4 : cs.length ≤ 4)  :
    MetFree l (⟨"java/lang/StringUTF16", "compress", "([CI[BII)I"⟩ : MethodName) (head1 (Jvm.Cond.code (⟨"java/lang/StringUTF16", "compress", "([CI[BII)I"⟩ : MethodName) jdk_52_method_21_code 7 (some .int) :: ws) ({ frames := 0, cells := 0, slots := 0, locals := 0 } : Room)) (fun a U => a = #[(.ref b1), (.int (0 : Int32)), (.ref d1), (.int (0 : Int32)), (.int (Int32.ofNat cs.length))] ∧ Z.Warmed39 U.vm ∧ U.heap = h0) (fun _ _ _ _ _ => True) (fun _ U o U' => ∃ v L, o = .returned v ∧ Q_ucl Z b1 d1 kc kd cs h0 n0 v U'.heap L ∧ FrameEnd U o U' L ({ frames := 0, cells := 0, slots := 0, locals := 0 } : Room).cells ({ frames := 0, cells := 0, slots := 0, locals := 0 } : Room).slots) := by
  refine MetFree.of_bodySF (plainFor_of_name own_pn_6) hisR ?_
  intro p e s m args below meth c s₁ Bd hml0 hP hK
  obtain ⟨rfl, hZ, hh⟩ := hP
  have hx := Bd.exec
  have hby := Bd.bytes
  have hml : c.maxLocals = 7 := hml0
  have hown : s.vm.findClass "java/lang/StringUTF16" = some m.cls := findClass_of_methodNamed Bd.named
  have hnm := (name_of_methodNamed Bd.named Bd.method).1
  have W := own_W hw
  have X0 : Stand p l e ({ frames := 0, cells := 0, slots := 0, locals := 0 } : Room) s m #[(.ref b1), (.int (0 : Int32)), (.ref d1), (.int (0 : Int32)), (.int (Int32.ofNat cs.length))] below meth c s₁ [] 0 0 := Stand.of_body Bd
  have e0 : s₁.heap = h0 := by rw [← hh, Bd.state]; rfl
  have N0 := Fr.nil n0
  have pre0 : ∀ tq, Steps p.tables e below (s₁.setTop (mkF m 0 #[rv b1, iv 0, rv d1, iv 0, iv (Int32.ofNat cs.length), uu, uu] [])) tq → Steps p.tables e below (s₁.setTop (entryFrame m #[(.ref b1), (.int (0 : Int32)), (.ref d1), (.int (0 : Int32)), (.int (Int32.ofNat cs.length))] 7)) tq := fun tq k => castTop (own_ef_ucl m b1 (0 : Int32) d1 (0 : Int32) (Int32.ofNat cs.length)) k
  have G50 : ∀ tq, Steps p.tables e below (s₁.setTop (mkF m 3 #[rv b1, iv 0, rv d1, iv 0, iv (Int32.ofNat cs.length), iv 0, uu] [])) tq → Steps p.tables e below (s₁.setTop (mkF m 0 #[rv b1, iv 0, rv d1, iv 0, iv (Int32.ofNat cs.length), uu, uu] [])) tq := by
    intro tq kk
    show Steps _ _ _ (s₁.setTop (mkF m 0 #[rv b1, iv 0, rv d1, iv 0, iv (Int32.ofNat cs.length), uu, uu] [])) _
    refine XS.iconst X0.here hx rfl (hb hby own_d20_0) ?_
    show Steps _ _ _ (s₁.setTop (mkF m 1 _ [.int 0])) _
    refine XS.istore X0.here hx rfl (hb hby own_d20_1) rfl (l' := #[rv b1, iv 0, rv d1, iv 0, iv (Int32.ofNat cs.length), iv 0, uu]) rfl ?_
    exact kk
  have loop : ∀ (k i : Nat) (s6 : Slot) (T : State) (locs : List Loc) (h : Heap), i + k = cs.length → One s6 → (∀ j, j < i → ¬ (255 : Int32) < cs.getD j 0) → Stand p l e ({ frames := 0, cells := 0, slots := 0, locals := 0 } : Room) s m #[(.ref b1), (.int (0 : Int32)), (.ref d1), (.int (0 : Int32)), (.int (Int32.ofNat cs.length))] below meth c T locs 0 0 → T.heap = h → Fr n0 locs → Keep h0 h [d1] → Arv Z h d1 kd .byte (Int32.ofNat cs.length) (own_lows (cs.take i)) (.int 0) →
      ∃ (T' : State) (locs' : List Loc) (h' : Heap) (s6' : Slot) (i' pc' : Nat), Stand p l e ({ frames := 0, cells := 0, slots := 0, locals := 0 } : Room) s m #[(.ref b1), (.int (0 : Int32)), (.ref d1), (.int (0 : Int32)), (.int (Int32.ofNat cs.length))] below meth c T' locs' 0 0 ∧ T'.heap = h' ∧ Fr n0 locs' ∧ Keep h0 h' [d1] ∧ ((pc' = 44 ∧ (∀ j, j < cs.length → ¬ (255 : Int32) < cs.getD j 0) ∧ Arv Z h' d1 kd .byte (Int32.ofNat cs.length) (own_lows cs) (.int 0)) ∨ (pc' = 23 ∧ i' < cs.length ∧ (255 : Int32) < cs.getD i' 0)) ∧ (∀ tgt, Steps p.tables e below (T'.setTop (mkF m pc' #[rv b1, iv (Int32.ofNat i'), rv d1, iv (Int32.ofNat i'), iv (Int32.ofNat cs.length), iv (Int32.ofNat i'), s6'] [])) tgt → Steps p.tables e below (T.setTop (mkF m 3 #[rv b1, iv (Int32.ofNat i), rv d1, iv (Int32.ofNat i), iv (Int32.ofNat cs.length), iv (Int32.ofNat i), s6] [])) tgt) := by
    intro k
    induction k with
    | zero =>
      intro i s6 T locs h hi h6 hd XT eT NT KT VT
      have hii : i = cs.length := by omega
      subst hii
      rw [List.take_length] at VT
      have G51 : ∀ tq, Steps p.tables e below (T.setTop (mkF m 44 #[rv b1, iv (Int32.ofNat cs.length), rv d1, iv (Int32.ofNat cs.length), iv (Int32.ofNat cs.length), iv (Int32.ofNat cs.length), s6] [])) tq → Steps p.tables e below (T.setTop (mkF m 3 #[rv b1, iv (Int32.ofNat cs.length), rv d1, iv (Int32.ofNat cs.length), iv (Int32.ofNat cs.length), iv (Int32.ofNat cs.length), s6] [])) tq := by
        intro tq kk
        show Steps _ _ _ (T.setTop (mkF m 3 #[rv b1, iv (Int32.ofNat cs.length), rv d1, iv (Int32.ofNat cs.length), iv (Int32.ofNat cs.length), iv (Int32.ofNat cs.length), s6] [])) _
        refine XS.iload XT.here hx rfl (hb hby own_d20_3) rfl ?_
        show Steps _ _ _ (T.setTop (mkF m 5 _ [.int (Int32.ofNat cs.length)])) _
        refine XS.iload XT.here hx rfl (hb hby own_d20_5) rfl ?_
        show Steps _ _ _ (T.setTop (mkF m 7 _ [.int (Int32.ofNat cs.length), .int (Int32.ofNat cs.length)])) _
        refine XS.icmpYes XT.here hx rfl (pc0 := 7) (pc' := 44) rfl (hb hby own_d20_7) rfl (flt (Int32.lt_irrefl : ¬ ((Int32.ofNat cs.length) < (Int32.ofNat cs.length)))).2.1 (by decide) (by decide) ?_
        exact kk
      exact ⟨T, locs, h, s6, cs.length, 44, XT, eT, NT, KT, Or.inl ⟨rfl, hd, VT⟩, fun tgt kk => G51 _ kk⟩
    | succ k ih =>
      intro i s6 T locs h hi h6 hd XT eT NT KT VT
      have hil : i < cs.length := by omega
      have hit : Int32.ofNat i < (Int32.ofNat cs.length) := (own_ltI (by omega) (by omega)).mpr hil
      have VC := V1.keep KT (ninS hne nin0)
      obtain ⟨cl52, Ar52, aq52, aS52, aN52, aH52, aG52⟩ := id VC
      have hin := inb_of aS52 ⟨own_nn (n := i) (by omega), hit⟩
      have hat := Has.at aH52 hin (show (cs.map Value.int).getD (Int32.ofNat i).toNatClampNeg (.int 0) = .int (cs.getD i 0) by rw [own_n32 (by omega)]; exact own_getc cs hil)
      have G53 : ∀ tq, Steps p.tables e below (T.setTop (mkF m 20 #[rv b1, iv (Int32.ofNat i), rv d1, iv (Int32.ofNat i), iv (Int32.ofNat cs.length), iv (Int32.ofNat i), iv (cs.getD i 0)] [.int 255, .int (cs.getD i 0)])) tq → Steps p.tables e below (T.setTop (mkF m 3 #[rv b1, iv (Int32.ofNat i), rv d1, iv (Int32.ofNat i), iv (Int32.ofNat cs.length), iv (Int32.ofNat i), s6] [])) tq := by
        intro tq kk
        show Steps _ _ _ (T.setTop (mkF m 3 #[rv b1, iv (Int32.ofNat i), rv d1, iv (Int32.ofNat i), iv (Int32.ofNat cs.length), iv (Int32.ofNat i), s6] [])) _
        refine XS.iload XT.here hx rfl (hb hby own_d20_3) rfl ?_
        show Steps _ _ _ (T.setTop (mkF m 5 _ [.int (Int32.ofNat i)])) _
        refine XS.iload XT.here hx rfl (hb hby own_d20_5) rfl ?_
        show Steps _ _ _ (T.setTop (mkF m 7 _ [.int (Int32.ofNat cs.length), .int (Int32.ofNat i)])) _
        refine XS.icmpNo XT.here hx rfl (hb hby own_d20_7) rfl (tlt (hit : (Int32.ofNat i) < (Int32.ofNat cs.length))).2.1 ?_
        show Steps _ _ _ (T.setTop (mkF m 10 _ [])) _
        refine XS.aloadN XT.here hx rfl (hb hby own_d20_10) rfl rfl ?_
        show Steps _ _ _ (T.setTop (mkF m 11 _ [.ref b1])) _
        refine XS.iloadN XT.here hx rfl (hb hby own_d20_11) rfl ?_
        show Steps _ _ _ (T.setTop (mkF m 12 _ [.int (Int32.ofNat i), .ref b1])) _
        refine XT.caload hx (j := (Int32.ofNat i)) (v := (.int (cs.getD i 0))) (by rw [eT]; exact Ar52.1) (State.isArrayOf_alike hZ.alike Ar52.2.1) Ar52.2.2 hin hat (g := (mkF m 12 #[rv b1, iv (Int32.ofNat i), rv d1, iv (Int32.ofNat i), iv (Int32.ofNat cs.length), iv (Int32.ofNat i), s6] [.int (Int32.ofNat i), .ref b1])) rfl rfl (hb hby own_d20_12) _ ?_
        show Steps _ _ _ (T.setTop (mkF m 13 #[rv b1, iv (Int32.ofNat i), rv d1, iv (Int32.ofNat i), iv (Int32.ofNat cs.length), iv (Int32.ofNat i), s6] [.int (cs.getD i 0)])) _
        refine XS.istore XT.here hx rfl (hb hby own_d20_13) rfl (l' := #[rv b1, iv (Int32.ofNat i), rv d1, iv (Int32.ofNat i), iv (Int32.ofNat cs.length), iv (Int32.ofNat i), iv (cs.getD i 0)]) (own_st6 h6) ?_
        show Steps _ _ _ (T.setTop (mkF m 15 _ [])) _
        refine XS.iload XT.here hx rfl (hb hby own_d20_15) rfl ?_
        show Steps _ _ _ (T.setTop (mkF m 17 _ [.int (cs.getD i 0)])) _
        refine XS.sipush XT.here hx rfl (hb hby own_d20_17) ?_
        exact kk
      by_cases hg : (255 : Int32) < cs.getD i 0
      · have G54 : ∀ tq, Steps p.tables e below (T.setTop (mkF m 23 #[rv b1, iv (Int32.ofNat i), rv d1, iv (Int32.ofNat i), iv (Int32.ofNat cs.length), iv (Int32.ofNat i), iv (cs.getD i 0)] [])) tq → Steps p.tables e below (T.setTop (mkF m 20 #[rv b1, iv (Int32.ofNat i), rv d1, iv (Int32.ofNat i), iv (Int32.ofNat cs.length), iv (Int32.ofNat i), iv (cs.getD i 0)] [.int 255, .int (cs.getD i 0)])) tq := by
          intro tq kk
          show Steps _ _ _ (T.setTop (mkF m 20 #[rv b1, iv (Int32.ofNat i), rv d1, iv (Int32.ofNat i), iv (Int32.ofNat cs.length), iv (Int32.ofNat i), iv (cs.getD i 0)] [.int 255, .int (cs.getD i 0)])) _
          refine XS.icmpNo XT.here hx rfl (hb hby own_d20_20) rfl (tlt (hg : (255 : Int32) < (cs.getD i 0))).2.2.2 ?_
          exact kk
        exact ⟨T, _, h, _, i, 23, XT, eT, NT, KT, Or.inr ⟨rfl, hil, hg⟩, fun tgt kk => G53 _ (G54 _ kk)⟩
      · have VP := VT.pad (pad_rep _ (.int (0 : Int32)) 1)
        obtain ⟨clD, ArD, aqD, aSD, aND, aHD, aGD⟩ := id VP
        obtain ⟨T55, h55, X55, e55, W55, st55⟩ := stB XT hx hZ eT ArD (j := Int32.ofNat i) (inb_of aSD ⟨own_nn (n := i) (by omega), hit⟩) (g := (mkF m 31 #[rv b1, iv (Int32.ofNat i), rv d1, iv (Int32.ofNat i), iv (Int32.ofNat cs.length), iv (Int32.ofNat i), iv (cs.getD i 0)] [.int ((cs.getD i 0).toInt8.toInt32), .int (Int32.ofNat i), .ref d1])) rfl rfl (hb hby own_d20_31)
        have N55 := Fr.snoc X55 NT g1
        have Vx55 := Arv.set ArD aqD aSD aND aHD aGD (fits_nar_byte _) W55 i (own_n32 (by omega)) (by rw [List.length_append, own_lows_len cs (by omega), List.length_replicate]; omega)
        rw [show Value.int (((cs.getD i 0).toInt8.toInt32).toInt8.toInt32) = .int (StrChars.lo8 (cs.getD i 0)) from congrArg Value.int (own_narb _), own_lows_next cs hil] at Vx55
        have G56 : ∀ tq, Steps p.tables e below (T55.setTop (mkF m 3 #[rv b1, iv (Int32.ofNat (i + 1)), rv d1, iv (Int32.ofNat (i + 1)), iv (Int32.ofNat cs.length), iv (Int32.ofNat (i + 1)), iv (cs.getD i 0)] [])) tq → Steps p.tables e below (T.setTop (mkF m 20 #[rv b1, iv (Int32.ofNat i), rv d1, iv (Int32.ofNat i), iv (Int32.ofNat cs.length), iv (Int32.ofNat i), iv (cs.getD i 0)] [.int 255, .int (cs.getD i 0)])) tq := by
          intro tq kk
          show Steps _ _ _ (T.setTop (mkF m 20 #[rv b1, iv (Int32.ofNat i), rv d1, iv (Int32.ofNat i), iv (Int32.ofNat cs.length), iv (Int32.ofNat i), iv (cs.getD i 0)] [.int 255, .int (cs.getD i 0)])) _
          refine XS.icmpYes XT.here hx rfl (pc0 := 20) (pc' := 26) rfl (hb hby own_d20_20) rfl (flt (hg : ¬ ((255 : Int32) < (cs.getD i 0)))).2.2.2 (by decide) (by decide) ?_
          show Steps _ _ _ (T.setTop (mkF m 26 _ [])) _
          refine XS.aloadN XT.here hx rfl (hb hby own_d20_26) rfl rfl ?_
          show Steps _ _ _ (T.setTop (mkF m 27 _ [.ref d1])) _
          refine XS.iloadN XT.here hx rfl (hb hby own_d20_27) rfl ?_
          show Steps _ _ _ (T.setTop (mkF m 28 _ [.int (Int32.ofNat i), .ref d1])) _
          refine XS.iload XT.here hx rfl (hb hby own_d20_28) rfl ?_
          show Steps _ _ _ (T.setTop (mkF m 30 _ [.int (cs.getD i 0), .int (Int32.ofNat i), .ref d1])) _
          refine XS.i2b XT.here hx rfl (hb hby own_d20_30) rfl ?_
          show Steps _ _ _ (T.setTop (mkF m 31 _ [.int ((cs.getD i 0).toInt8.toInt32), .int (Int32.ofNat i), .ref d1])) _
          refine st55 _ ?_
          show Steps _ _ _ (T55.setTop (mkF m 32 #[rv b1, iv (Int32.ofNat i), rv d1, iv (Int32.ofNat i), iv (Int32.ofNat cs.length), iv (Int32.ofNat i), iv (cs.getD i 0)] [])) _
          refine XS.iinc X55.here hx rfl (hb hby own_d20_32) rfl (l' := #[rv b1, iv (Int32.ofNat (i + 1)), rv d1, iv (Int32.ofNat i), iv (Int32.ofNat cs.length), iv (Int32.ofNat i), iv (cs.getD i 0)]) (by rw [show Int32.ofNat i + Int32.ofInt 1 = Int32.ofNat (i + 1) from own_one i]; rfl) ?_
          show Steps _ _ _ (T55.setTop (mkF m 35 _ [])) _
          refine XS.iinc X55.here hx rfl (hb hby own_d20_35) rfl (l' := #[rv b1, iv (Int32.ofNat (i + 1)), rv d1, iv (Int32.ofNat (i + 1)), iv (Int32.ofNat cs.length), iv (Int32.ofNat i), iv (cs.getD i 0)]) (by rw [show Int32.ofNat i + Int32.ofInt 1 = Int32.ofNat (i + 1) from own_one i]; rfl) ?_
          show Steps _ _ _ (T55.setTop (mkF m 38 _ [])) _
          refine XS.iinc X55.here hx rfl (hb hby own_d20_38) rfl (l' := #[rv b1, iv (Int32.ofNat (i + 1)), rv d1, iv (Int32.ofNat (i + 1)), iv (Int32.ofNat cs.length), iv (Int32.ofNat (i + 1)), iv (cs.getD i 0)]) (by rw [show Int32.ofNat i + Int32.ofInt 1 = Int32.ofNat (i + 1) from own_one i]; rfl) ?_
          show Steps _ _ _ (T55.setTop (mkF m 41 _ [])) _
          refine XS.goto X55.here hx rfl (pc0 := 41) (pc' := 3) rfl (hb hby own_d20_41) (by decide) (by decide) ?_
          exact kk
        obtain ⟨T', locs', h', s6', i', pc', XA, eA, NA, KA, hA, GA⟩ := ih (i + 1) (.val (.int (cs.getD i 0))) T55 _ h55 (by omega) (One.val rfl) (fun j hj => by
          by_cases hji : j = i
          · subst hji; exact hg
          · exact hd j (by omega)) X55 e55 N55 (KT.wr W55 (Or.inl (by simp))) Vx55
        exact ⟨T', locs', h', s6', i', pc', XA, eA, NA, KA, hA, fun tgt kk => G53 _ (G56 _ (GA _ kk))⟩
  obtain ⟨T9, locs9, h9, s9, i9, pc9, X9, e9, N9, K9, h9c, G9⟩ := loop cs.length 0 .unset s₁ _ h0 (by omega) One.u (fun j hj => absurd hj (by omega)) X0 e0 N0 (Keep.refl _ _) V2
  rcases h9c with ⟨rfl, hall, VA⟩ | ⟨rfl, hi9, hg9⟩
  · obtain ⟨fs, hr, hrun, hended, hW, hsame⟩ := X9.leave (v := some (.int (Int32.ofNat cs.length))) (fun h => by rw [Bd.returns] at h; cases h)
    refine ⟨_, _, pre0 _ (G50 _ (G9 _ (?_))), hrun, hended, _, _, rfl, ?_, ⟨_, rfl⟩, hW, hsame.mono (by decide) (by decide)⟩
    · show Steps _ _ _ (T9.setTop (mkF m 44 #[rv b1, iv (Int32.ofNat i9), rv d1, iv (Int32.ofNat i9), iv (Int32.ofNat cs.length), iv (Int32.ofNat i9), s9] [])) _
      refine XS.iload X9.here hx rfl (hb hby own_d20_44) rfl ?_
      show Steps _ _ _ (T9.setTop (mkF m 46 _ [.int (Int32.ofNat cs.length)])) _
      exact retI X9 hx Bd.returns (hb hby own_d20_46) hr
    · show Q_ucl Z b1 d1 kc kd cs h0 n0 _ T9.heap _
      rw [e9]
      exact ⟨N9, K9, Or.inl ⟨rfl, (fun c hc => by obtain ⟨j, hj, e⟩ := List.getElem_of_mem hc; have := hall j hj; simp only [List.getD_eq_getElem?_getD, List.getElem?_eq_getElem hj, Option.getD_some, e] at this; exact this), VA⟩⟩
  · obtain ⟨fs, hr, hrun, hended, hW, hsame⟩ := X9.leave (v := some (.int (Int32.ofNat i9))) (fun h => by rw [Bd.returns] at h; cases h)
    refine ⟨_, _, pre0 _ (G50 _ (G9 _ (?_))), hrun, hended, _, _, rfl, ?_, ⟨_, rfl⟩, hW, hsame.mono (by decide) (by decide)⟩
    · show Steps _ _ _ (T9.setTop (mkF m 23 #[rv b1, iv (Int32.ofNat i9), rv d1, iv (Int32.ofNat i9), iv (Int32.ofNat cs.length), iv (Int32.ofNat i9), s9] [])) _
      refine XS.iload X9.here hx rfl (hb hby own_d20_23) rfl ?_
      show Steps _ _ _ (T9.setTop (mkF m 25 _ [.int (Int32.ofNat i9)])) _
      exact retI X9 hx Bd.returns (hb hby own_d20_25) hr
    · show Q_ucl Z b1 d1 kc kd cs h0 n0 _ T9.heap _
      rw [e9]
      exact ⟨N9, K9, Or.inr ⟨i9, rfl, hi9, hg9⟩⟩
theorem own_d19_0 : decode jdk_52_method_16_code 0 = .ok (.iload_n 2, 1) := by decide +kernel
theorem own_d19_1 : decode jdk_52_method_16_code 1 = .ok (.newarray .byte, 2) := by decide +kernel
theorem own_d19_3 : decode jdk_52_method_16_code 3 = .ok (.astore_n 3, 1) := by decide +kernel
theorem own_d19_4 : decode jdk_52_method_16_code 4 = .ok (.aload_n 0, 1) := by decide +kernel
theorem own_d19_5 : decode jdk_52_method_16_code 5 = .ok (.iload_n 1, 1) := by decide +kernel
theorem own_d19_6 : decode jdk_52_method_16_code 6 = .ok (.aload_n 3, 1) := by decide +kernel
theorem own_d19_7 : decode jdk_52_method_16_code 7 = .ok (.iconst 0, 1) := by decide +kernel
theorem own_d19_8 : decode jdk_52_method_16_code 8 = .ok (.iload_n 2, 1) := by decide +kernel
theorem own_d19_9 : decode jdk_52_method_16_code 9 = .ok (.invokestatic 115, 3) := by decide +kernel
theorem own_pd_15 : parseMethodDescriptor "([CI[BII)I" = some ⟨[(.array .char), .int, (.array .byte), .int, .int], some .int⟩ := by decide +kernel
theorem own_d19_12 : decode jdk_52_method_16_code 12 = .ok (.istore 4, 2) := by decide +kernel
theorem own_d19_14 : decode jdk_52_method_16_code 14 = .ok (.iload 4, 2) := by decide +kernel
theorem own_d19_16 : decode jdk_52_method_16_code 16 = .ok (.iload_n 2, 1) := by decide +kernel
theorem own_d19_17 : decode jdk_52_method_16_code 17 = .ok (.if_icmp .eq 40, 3) := by decide +kernel
theorem own_d19_57 : decode jdk_52_method_16_code 57 = .ok (.aload_n 3, 1) := by decide +kernel
theorem own_d19_58 : decode jdk_52_method_16_code 58 = .ok (.areturn, 1) := by decide +kernel
theorem own_d19_20 : decode jdk_52_method_16_code 20 = .ok (.aload_n 0, 1) := by decide +kernel
theorem own_d19_21 : decode jdk_52_method_16_code 21 = .ok (.iload_n 1, 1) := by decide +kernel
theorem own_d19_22 : decode jdk_52_method_16_code 22 = .ok (.iload_n 2, 1) := by decide +kernel
theorem own_d19_23 : decode jdk_52_method_16_code 23 = .ok (.invokestatic 119, 3) := by decide +kernel
theorem own_pd_14 : parseMethodDescriptor "([CII)[B" = some ⟨[(.array .char), .int, .int], some (.array .byte)⟩ := by decide +kernel
theorem own_d19_26 : decode jdk_52_method_16_code 26 = .ok (.astore 5, 2) := by decide +kernel
theorem own_d19_28 : decode jdk_52_method_16_code 28 = .ok (.aload 5, 2) := by decide +kernel
theorem own_d19_30 : decode jdk_52_method_16_code 30 = .ok (.iload 4, 2) := by decide +kernel
theorem own_d19_32 : decode jdk_52_method_16_code 32 = .ok (.invokestatic 71, 3) := by decide +kernel
theorem own_d19_35 : decode jdk_52_method_16_code 35 = .ok (.sipush 255, 3) := by decide +kernel
theorem own_d19_38 : decode jdk_52_method_16_code 38 = .ok (.if_icmp .gt 16, 3) := by decide +kernel
theorem own_d19_54 : decode jdk_52_method_16_code 54 = .ok (.aload 5, 2) := by decide +kernel
theorem own_d19_56 : decode jdk_52_method_16_code 56 = .ok (.areturn, 1) := by decide +kernel
theorem own_ef_uc (m : MethodId) (x0 : Addr) (x1 : Int32) (x2 : Int32) : entryFrame m #[(.ref x0), (.int x1), (.int x2)] 6 = mkF m 0 #[rv x0, iv x1, iv x2, uu, uu, uu] [] := by first | (simp [entryFrame, mkF, argsToLocals, Value.category]; done) | rfl
def Q_uc (Z : State) (b1 : Addr) (kc : ClassId) (cs : List Int32) (h0 : Heap) (n0 : Nat) (v : Option Value) (h : Heap) (L : List Loc) : Prop := ∃ b kb, v = some (.ref b) ∧ Fr n0 L ∧ Keep h0 h [] ∧ h0.size ≤ b ∧ (((∀ c ∈ cs, ¬ (255 : Int32) < c) ∧ Arv Z h b kb .byte (Int32.ofNat cs.length) (own_lows cs) (.int 0)) ∨ ((∃ c ∈ cs, (255 : Int32) < c) ∧ Arv Z h b kb .byte (Int32.ofNat (2 * cs.length)) (StrChars.Road.wideBytes cs) (.int 0)))
set_option maxRecDepth 65536 in
set_option maxHeartbeats 40000000 in
theorem rm_uc (l : Launch) (Z : State) (a0 : Array Value) (hw : ∀ d ∈ tables_1, d.before a0 Z = true) (ws : List Jvm.Cond) (b1 : Addr) (kc : ClassId) (cs : List Int32) (h0 : Heap) (n0 : Nat) (Z0 : n0 ≤ h0.size) (X00 : Old Z n0 h0) (V1 : Arv Z h0 b1 kc .char (Int32.ofNat cs.length) (cs.map Value.int) (.int 0)) (hn0 : 0 < cs.length) (hn4 : cs.length ≤ 4) (hbs : ∀ c ∈ cs, ¬ c < 0 ∧ ¬ (65535 : Int32) < c) (OA : Sta Z Z.heap "java/lang/StringUTF16" "$assertionsDisabled" "Z" (.int (1 : Int32))) (OH : Sta Z Z.heap "java/lang/StringUTF16" "HI_BYTE_SHIFT" "I" (.int (0 : Int32))) (OL : Sta Z Z.heap "java/lang/StringUTF16" "LO_BYTE_SHIFT" "I" (.int (8 : Int32))) :
    MetFree l (⟨"java/lang/StringUTF16", "compress", "([CII)[B"⟩ : MethodName) (head1 (Jvm.Cond.code (⟨"java/lang/StringUTF16", "compress", "([CII)[B"⟩ : MethodName) jdk_52_method_16_code 6 (some (.array .byte)) :: ws) ({ frames := 3, cells := 2, slots := 12, locals := 48 } : Room)) (fun a U => a = #[(.ref b1), (.int (0 : Int32)), (.int (Int32.ofNat cs.length))] ∧ Z.Warmed39 U.vm ∧ U.heap = h0) (fun _ _ _ _ _ => True) (fun _ U o U' => ∃ v L, o = .returned v ∧ Q_uc Z b1 kc cs h0 n0 v U'.heap L ∧ FrameEnd U o U' L ({ frames := 3, cells := 2, slots := 12, locals := 48 } : Room).cells ({ frames := 3, cells := 2, slots := 12, locals := 48 } : Room).slots) := by
  refine MetFree.of_bodySF (plainFor_of_name own_pn_6) hisR ?_
  intro p e s m args below meth c s₁ Bd hml0 hP hK
  obtain ⟨rfl, hZ, hh⟩ := hP
  have hx := Bd.exec
  have hby := Bd.bytes
  have hml : c.maxLocals = 6 := hml0
  have hown : s.vm.findClass "java/lang/StringUTF16" = some m.cls := findClass_of_methodNamed Bd.named
  have hnm := (name_of_methodNamed Bd.named Bd.method).1
  have W := own_W hw
  have X0 : Stand p l e ({ frames := 3, cells := 2, slots := 12, locals := 48 } : Room) s m #[(.ref b1), (.int (0 : Int32)), (.int (Int32.ofNat cs.length))] below meth c s₁ [] 0 0 := Stand.of_body Bd
  have e0 : s₁.heap = h0 := by rw [← hh, Bd.state]; rfl
  have N0 := Fr.nil n0
  have pre0 : ∀ tq, Steps p.tables e below (s₁.setTop (mkF m 0 #[rv b1, iv 0, iv (Int32.ofNat cs.length), uu, uu, uu] [])) tq → Steps p.tables e below (s₁.setTop (entryFrame m #[(.ref b1), (.int (0 : Int32)), (.int (Int32.ofNat cs.length))] 6)) tq := fun tq k => castTop (own_ef_uc m b1 (0 : Int32) (Int32.ofNat cs.length)) k
  have K57 : Keep h0 h0 [] := Keep.refl h0 []
  obtain ⟨T58, h58, k58, X58, e58, E58, A58, st58⟩ := newP X0 hx hZ (W 23 rfl) e0 (g := (mkF m 1 #[rv b1, iv 0, iv (Int32.ofNat cs.length), uu, uu, uu] [.int (Int32.ofNat cs.length)])) rfl (hb hby own_d19_1) rfl (own_nn (by omega)) (cap := 4) (by rw [own_n32 (by omega)]; omega) (by decide) (by decide) (by decide)
  obtain ⟨b58, g58⟩ : ∃ z, z = h0.size := ⟨_, rfl⟩
  rw [← g58] at A58 st58
  have g59 : n0 ≤ b58 := Nat.le_trans Z0 (Nat.le_of_eq g58.symm)
  have g60 : h0.size ≤ b58 := Nat.le_trans K57.1 (Nat.le_of_eq g58.symm)
  have Z61 : n0 ≤ h58.size := Nat.le_trans Z0 E58.1
  have O62 : Old Z n0 h58 := X00.ext E58
  have K63 : Keep h0 h58 [] := K57.ext E58
  have V58 : Arv Z h58 b58 k58 .byte (Int32.ofNat cs.length) [] (.int (0 : Int32)) := Arv.new A58 (own_nn (by omega))
  have f64 := (V1.ext E58)
  obtain ⟨_, _, ⟨T65, L65, k65, n65⟩, -, X65, ⟨Lc65, hQ65, l65, y65, z65⟩, st65⟩ := Jvm.LawKit.callS X58 hx (y := (⟨"java/lang/StringUTF16", "compress", "([CI[BII)I"⟩ : MethodName)) hown (mvT hZ (W 93 rfl)) (mvT hZ (W 94 rfl)) (mvT hZ (W 91 rfl)) (mvT hZ (W 95 rfl)) (by decide) (backOf (W := 0) (rm_ucl l Z a0 hw [] b1 b58 kc k58 cs h58 n0 Z61 f64 V58 (Nat.ne_of_lt (Nat.lt_of_lt_of_le V1.lt (Nat.le_of_eq g58.symm))) g59 hn0 hn4) hZ (W 95 rfl) (W 91 rfl) (by decide) (by decide)) (g := (mkF m 9 #[rv b1, iv 0, iv (Int32.ofNat cs.length), rv b58, uu, uu] [.int (Int32.ofNat cs.length), .int 0, .ref b58, .int 0, .ref b1])) rfl (by rw [hml]; rfl) (argsL := [.ref b1, .int 0, .ref b58, .int 0, .int (Int32.ofNat cs.length)]) (rest := []) (lenOf own_pd_15 rfl) rfl own_wt (hb hby own_d19_9) (fun _ _ => ⟨rfl, e58, (by decide : 1 + 0 ≤ _), (by decide : 4 + 0 ≤ _)⟩)
  dsimp only [Pt.U, Pt.locs, Pt.cells, Pt.slots] at X65 l65 y65 z65 st65 hQ65
  subst l65 y65 z65
  obtain ⟨Nq65, K65, hcase⟩ := hQ65
  have N65 := Fr.app N0 Nq65
  have Z66 : n0 ≤ T65.heap.size := Nat.le_trans Z61 K65.1
  have O67 : Old Z n0 T65.heap := O62.keep K65 (allS g59 all0)
  have K68 : Keep h0 T65.heap [] := K63.trans K65 (allS (Or.inr g60) all0)
  rcases hcase with ⟨rfl, hla, hA⟩ | ⟨i, rfl, hil, hg⟩
  · obtain ⟨fs, hr, hrun, hended, hW, hsame⟩ := X65.leave (v := some (.ref b58)) (fun h => by rw [Bd.returns] at h; cases h)
    refine ⟨_, _, pre0 _ (?_), hrun, hended, _, _, rfl, ?_, ⟨_, rfl⟩, hW, hsame.mono (by decide) (by decide)⟩
    · show Steps _ _ _ (s₁.setTop (mkF m 0 #[rv b1, iv 0, iv (Int32.ofNat cs.length), uu, uu, uu] [])) _
      refine XS.iloadN X0.here hx rfl (hb hby own_d19_0) rfl ?_
      show Steps _ _ _ (s₁.setTop (mkF m 1 _ [.int (Int32.ofNat cs.length)])) _
      refine st58 _ ?_
      show Steps _ _ _ (T58.setTop (mkF m 3 #[rv b1, iv 0, iv (Int32.ofNat cs.length), uu, uu, uu] [.ref b58])) _
      refine XS.astoreN X58.here hx rfl (hb hby own_d19_3) rfl rfl (l' := #[rv b1, iv 0, iv (Int32.ofNat cs.length), rv b58, uu, uu]) rfl ?_
      show Steps _ _ _ (T58.setTop (mkF m 4 _ [])) _
      refine XS.aloadN X58.here hx rfl (hb hby own_d19_4) rfl rfl ?_
      show Steps _ _ _ (T58.setTop (mkF m 5 _ [.ref b1])) _
      refine XS.iloadN X58.here hx rfl (hb hby own_d19_5) rfl ?_
      show Steps _ _ _ (T58.setTop (mkF m 6 _ [.int 0, .ref b1])) _
      refine XS.aloadN X58.here hx rfl (hb hby own_d19_6) rfl rfl ?_
      show Steps _ _ _ (T58.setTop (mkF m 7 _ [.ref b58, .int 0, .ref b1])) _
      refine XS.iconst X58.here hx rfl (hb hby own_d19_7) ?_
      show Steps _ _ _ (T58.setTop (mkF m 8 _ [.int 0, .ref b58, .int 0, .ref b1])) _
      refine XS.iloadN X58.here hx rfl (hb hby own_d19_8) rfl ?_
      show Steps _ _ _ (T58.setTop (mkF m 9 _ [.int (Int32.ofNat cs.length), .int 0, .ref b58, .int 0, .ref b1])) _
      refine st65 _ ?_
      show Steps _ _ _ (T65.setTop (mkF m 12 #[rv b1, iv 0, iv (Int32.ofNat cs.length), rv b58, uu, uu] [.int (Int32.ofNat cs.length)])) _
      refine XS.istore X65.here hx rfl (hb hby own_d19_12) rfl (l' := #[rv b1, iv 0, iv (Int32.ofNat cs.length), rv b58, iv (Int32.ofNat cs.length), uu]) rfl ?_
      show Steps _ _ _ (T65.setTop (mkF m 14 _ [])) _
      refine XS.iload X65.here hx rfl (hb hby own_d19_14) rfl ?_
      show Steps _ _ _ (T65.setTop (mkF m 16 _ [.int (Int32.ofNat cs.length)])) _
      refine XS.iloadN X65.here hx rfl (hb hby own_d19_16) rfl ?_
      show Steps _ _ _ (T65.setTop (mkF m 17 _ [.int (Int32.ofNat cs.length), .int (Int32.ofNat cs.length)])) _
      refine XS.icmpYes X65.here hx rfl (pc0 := 17) (pc' := 57) rfl (hb hby own_d19_17) rfl (teq (rfl : (Int32.ofNat cs.length) = (Int32.ofNat cs.length))).1 (by decide) (by decide) ?_
      show Steps _ _ _ (T65.setTop (mkF m 57 _ [])) _
      refine XS.aloadN X65.here hx rfl (hb hby own_d19_57) rfl rfl ?_
      show Steps _ _ _ (T65.setTop (mkF m 58 _ [.ref b58])) _
      exact retOut X65 hx Bd.returns rfl (Or.inr (Or.inr (Or.inr (Or.inr ⟨rfl, rfl, rfl⟩)))) (hb hby own_d19_58) hr
    · show Q_uc Z b1 kc cs h0 n0 _ T65.heap _
      exact ⟨b58, k58, rfl, N65, K68, g60, Or.inl ⟨hla, hA⟩⟩
  · have hni : ¬ (Int32.ofNat i = (Int32.ofNat cs.length)) := fun q => absurd (own_ofNat_inj (by omega) (by omega) q) (by omega)
    have f69 := (f64.keep K65 (ninS (Nat.ne_of_lt (Nat.lt_of_lt_of_le V1.lt (Nat.le_of_eq g58.symm))) nin0))
    obtain ⟨_, _, ⟨T70, L70, k70, n70⟩, -, X70, ⟨Lc70, hQ70, l70, y70, z70⟩, st70⟩ := Jvm.LawKit.callS X65 hx (y := (⟨"java/lang/StringUTF16", "toBytes", "([CII)[B"⟩ : MethodName)) hown (mvT hZ (W 138 rfl)) (mvT hZ (W 139 rfl)) (mvT hZ (W 91 rfl)) (mvT hZ (W 140 rfl)) (by decide) (backOf (W := 0) (rm_utb l Z a0 hw [] b1 kc cs T65.heap n0 Z66 O67 f69 hn0 hn4 OA OH OL) hZ (W 140 rfl) (W 91 rfl) (by decide) (by decide)) (g := (mkF m 23 #[rv b1, iv 0, iv (Int32.ofNat cs.length), rv b58, iv (Int32.ofNat i), uu] [.int (Int32.ofNat cs.length), .int 0, .ref b1])) rfl (by rw [hml]; rfl) (argsL := [.ref b1, .int 0, .int (Int32.ofNat cs.length)]) (rest := []) (lenOf own_pd_14 rfl) rfl own_wt (hb hby own_d19_23) (fun _ _ => ⟨rfl, rfl, (by decide : 1 + 1 ≤ _), (by decide : 4 + 8 ≤ _)⟩)
    dsimp only [Pt.U, Pt.locs, Pt.cells, Pt.slots] at X70 l70 y70 z70 st70 hQ70
    subst l70 y70 z70
    obtain ⟨b70, kb70, hv70, Nq70, K70, sb70, V70⟩ := hQ70
    subst hv70
    have N70 := Fr.app N65 Nq70
    have g71 : n0 ≤ b70 := Nat.le_trans Z66 sb70
    have g72 : h0.size ≤ b70 := Nat.le_trans K68.1 sb70
    have Z73 : n0 ≤ T70.heap.size := Nat.le_trans Z66 K70.1
    have O74 : Old Z n0 T70.heap := O67.keep K70 all0
    have K75 : Keep h0 T70.heap [] := K68.trans K70 all0
    obtain ⟨_, _, ⟨T76, L76, k76, n76⟩, -, X76, ⟨Lc76, hQ76, l76, y76, z76⟩, st76⟩ := Jvm.LawKit.callS X70 hx (y := (⟨"java/lang/StringUTF16", "getChar", "([BI)C"⟩ : MethodName)) hown (mvT hZ (W 154 rfl)) (mvT hZ (W 155 rfl)) (mvT hZ (W 91 rfl)) (mvT hZ (W 156 rfl)) (by decide) (backOf (W := 0) (rm_uget l Z a0 hw [] b70 (Int32.ofNat i) (Int32.ofNat (2 * i)) (Int32.ofNat (2 * i + 1)) kb70 (Int32.ofNat (2 * cs.length)) (cs.getD i 0) (StrChars.Road.wideBytes cs) T70.heap n0 Z73 O74 V70 (own_ofNat2 (by omega)) (own_one _) ⟨own_nn (by omega), (own_ltI (by omega) (by omega)).mpr (by omega)⟩ ⟨own_nn (by omega), (own_ltI (by omega) (by omega)).mpr (by omega)⟩ (by rw [own_n32 (by omega)]; exact StrChars.Road.wide_lo _ cs i hil) (by rw [own_n32 (by omega)]; exact StrChars.Road.wide_hi _ cs i hil) (hbs _ (own_gmem cs hil)) OA OH OL) hZ (W 156 rfl) (W 91 rfl) (by decide) (by decide)) (g := (mkF m 32 #[rv b1, iv 0, iv (Int32.ofNat cs.length), rv b58, iv (Int32.ofNat i), rv b70] [.int (Int32.ofNat i), .ref b70])) rfl (by rw [hml]; rfl) (argsL := [.ref b70, .int (Int32.ofNat i)]) (rest := []) (lenOf own_pd_18 rfl) rfl own_wt (hb hby own_d19_32) (fun _ _ => ⟨rfl, rfl, (by decide : 2 + 0 ≤ _), (by decide : 12 + 0 ≤ _)⟩)
    dsimp only [Pt.U, Pt.locs, Pt.cells, Pt.slots] at X76 l76 y76 z76 st76 hQ76
    subst l76 y76 z76
    obtain ⟨rfl, Nq76, e76⟩ := hQ76
    have N76 := Fr.app N70 Nq76
    obtain ⟨fs, hr, hrun, hended, hW, hsame⟩ := X76.leave (v := some (.ref b70)) (fun h => by rw [Bd.returns] at h; cases h)
    refine ⟨_, _, pre0 _ (?_), hrun, hended, _, _, rfl, ?_, ⟨_, rfl⟩, hW, hsame.mono (by decide) (by decide)⟩
    · show Steps _ _ _ (s₁.setTop (mkF m 0 #[rv b1, iv 0, iv (Int32.ofNat cs.length), uu, uu, uu] [])) _
      refine XS.iloadN X0.here hx rfl (hb hby own_d19_0) rfl ?_
      show Steps _ _ _ (s₁.setTop (mkF m 1 _ [.int (Int32.ofNat cs.length)])) _
      refine st58 _ ?_
      show Steps _ _ _ (T58.setTop (mkF m 3 #[rv b1, iv 0, iv (Int32.ofNat cs.length), uu, uu, uu] [.ref b58])) _
      refine XS.astoreN X58.here hx rfl (hb hby own_d19_3) rfl rfl (l' := #[rv b1, iv 0, iv (Int32.ofNat cs.length), rv b58, uu, uu]) rfl ?_
      show Steps _ _ _ (T58.setTop (mkF m 4 _ [])) _
      refine XS.aloadN X58.here hx rfl (hb hby own_d19_4) rfl rfl ?_
      show Steps _ _ _ (T58.setTop (mkF m 5 _ [.ref b1])) _
      refine XS.iloadN X58.here hx rfl (hb hby own_d19_5) rfl ?_
      show Steps _ _ _ (T58.setTop (mkF m 6 _ [.int 0, .ref b1])) _
      refine XS.aloadN X58.here hx rfl (hb hby own_d19_6) rfl rfl ?_
      show Steps _ _ _ (T58.setTop (mkF m 7 _ [.ref b58, .int 0, .ref b1])) _
      refine XS.iconst X58.here hx rfl (hb hby own_d19_7) ?_
      show Steps _ _ _ (T58.setTop (mkF m 8 _ [.int 0, .ref b58, .int 0, .ref b1])) _
      refine XS.iloadN X58.here hx rfl (hb hby own_d19_8) rfl ?_
      show Steps _ _ _ (T58.setTop (mkF m 9 _ [.int (Int32.ofNat cs.length), .int 0, .ref b58, .int 0, .ref b1])) _
      refine st65 _ ?_
      show Steps _ _ _ (T65.setTop (mkF m 12 #[rv b1, iv 0, iv (Int32.ofNat cs.length), rv b58, uu, uu] [.int (Int32.ofNat i)])) _
      refine XS.istore X65.here hx rfl (hb hby own_d19_12) rfl (l' := #[rv b1, iv 0, iv (Int32.ofNat cs.length), rv b58, iv (Int32.ofNat i), uu]) rfl ?_
      show Steps _ _ _ (T65.setTop (mkF m 14 _ [])) _
      refine XS.iload X65.here hx rfl (hb hby own_d19_14) rfl ?_
      show Steps _ _ _ (T65.setTop (mkF m 16 _ [.int (Int32.ofNat i)])) _
      refine XS.iloadN X65.here hx rfl (hb hby own_d19_16) rfl ?_
      show Steps _ _ _ (T65.setTop (mkF m 17 _ [.int (Int32.ofNat cs.length), .int (Int32.ofNat i)])) _
      refine XS.icmpNo X65.here hx rfl (hb hby own_d19_17) rfl (feq (hni : ¬ ((Int32.ofNat i) = (Int32.ofNat cs.length)))).1 ?_
      show Steps _ _ _ (T65.setTop (mkF m 20 _ [])) _
      refine XS.aloadN X65.here hx rfl (hb hby own_d19_20) rfl rfl ?_
      show Steps _ _ _ (T65.setTop (mkF m 21 _ [.ref b1])) _
      refine XS.iloadN X65.here hx rfl (hb hby own_d19_21) rfl ?_
      show Steps _ _ _ (T65.setTop (mkF m 22 _ [.int 0, .ref b1])) _
      refine XS.iloadN X65.here hx rfl (hb hby own_d19_22) rfl ?_
      show Steps _ _ _ (T65.setTop (mkF m 23 _ [.int (Int32.ofNat cs.length), .int 0, .ref b1])) _
      refine st70 _ ?_
      show Steps _ _ _ (T70.setTop (mkF m 26 #[rv b1, iv 0, iv (Int32.ofNat cs.length), rv b58, iv (Int32.ofNat i), uu] [.ref b70])) _
      refine XS.astore X70.here hx rfl (hb hby own_d19_26) rfl rfl (l' := #[rv b1, iv 0, iv (Int32.ofNat cs.length), rv b58, iv (Int32.ofNat i), rv b70]) rfl ?_
      show Steps _ _ _ (T70.setTop (mkF m 28 _ [])) _
      refine XS.aload X70.here hx rfl (hb hby own_d19_28) rfl rfl ?_
      show Steps _ _ _ (T70.setTop (mkF m 30 _ [.ref b70])) _
      refine XS.iload X70.here hx rfl (hb hby own_d19_30) rfl ?_
      show Steps _ _ _ (T70.setTop (mkF m 32 _ [.int (Int32.ofNat i), .ref b70])) _
      refine st76 _ ?_
      show Steps _ _ _ (T76.setTop (mkF m 35 #[rv b1, iv 0, iv (Int32.ofNat cs.length), rv b58, iv (Int32.ofNat i), rv b70] [.int (cs.getD i 0)])) _
      refine XS.sipush X76.here hx rfl (hb hby own_d19_35) ?_
      show Steps _ _ _ (T76.setTop (mkF m 38 _ [.int 255, .int (cs.getD i 0)])) _
      refine XS.icmpYes X76.here hx rfl (pc0 := 38) (pc' := 54) rfl (hb hby own_d19_38) rfl (tlt (hg : (255 : Int32) < (cs.getD i 0))).2.2.1 (by decide) (by decide) ?_
      show Steps _ _ _ (T76.setTop (mkF m 54 _ [])) _
      refine XS.aload X76.here hx rfl (hb hby own_d19_54) rfl rfl ?_
      show Steps _ _ _ (T76.setTop (mkF m 56 _ [.ref b70])) _
      exact retOut X76 hx Bd.returns rfl (Or.inr (Or.inr (Or.inr (Or.inr ⟨rfl, rfl, rfl⟩)))) (hb hby own_d19_56) hr
    · show Q_uc Z b1 kc cs h0 n0 _ T76.heap _
      rw [e76]
      exact ⟨b70, kb70, rfl, N76, K75, g72, Or.inr ⟨⟨_, own_gmem cs hil, hg⟩, V70⟩⟩
theorem own_d18_0 : decode jdk_52_method_15_code 0 = .ok (.iload_n 1, 1) := by decide +kernel
theorem own_d18_1 : decode jdk_52_method_15_code 1 = .ok (.aload_n 0, 1) := by decide +kernel
theorem own_d18_2 : decode jdk_52_method_15_code 2 = .ok (.arraylength, 1) := by decide +kernel
theorem own_d18_3 : decode jdk_52_method_15_code 3 = .ok (.isub, 1) := by decide +kernel
theorem own_d18_4 : decode jdk_52_method_15_code 4 = .ok (.bipush 31, 2) := by decide +kernel
theorem own_d18_6 : decode jdk_52_method_15_code 6 = .ok (.iushr, 1) := by decide +kernel
theorem own_d18_7 : decode jdk_52_method_15_code 7 = .ok (.i2b, 1) := by decide +kernel
theorem own_d18_8 : decode jdk_52_method_15_code 8 = .ok (.ireturn, 1) := by decide +kernel
theorem own_ef_cfl (m : MethodId) (x0 : Addr) (x1 : Int32) : entryFrame m #[(.ref x0), (.int x1)] 2 = mkF m 0 #[rv x0, iv x1] [] := by first | (simp [entryFrame, mkF, argsToLocals, Value.category]; done) | rfl
def Q_cfl (Z : State) (t1 : Addr) (kb : ClassId) (vs : List Value) (cs : List Int32) (h0 : Heap) (n0 : Nat) (v : Option Value) (h : Heap) (L : List Loc) : Prop := v = some (.int (0 : Int32)) ∧ Fr n0 L ∧ h = h0
set_option maxRecDepth 65536 in
set_option maxHeartbeats 40000000 in
theorem rm_cfl (l : Launch) (Z : State) (a0 : Array Value) (hw : ∀ d ∈ tables_1, d.before a0 Z = true) (ws : List Jvm.Cond) (t1 : Addr) (kb : ClassId) (vs : List Value) (cs : List Int32) (h0 : Heap) (n0 : Nat) (Z0 : n0 ≤ h0.size) (V1 : Arv Z h0 t1 kb .byte (Int32.ofNat cs.length) vs (.int 0)) (hn0 : 0 < cs.length) (hn4 : cs.length ≤ 4)  :
    MetFree l (⟨"java/lang/StringUTF16", "coderFromArrayLen", "([BI)B"⟩ : MethodName) (head1 (Jvm.Cond.code (⟨"java/lang/StringUTF16", "coderFromArrayLen", "([BI)B"⟩ : MethodName) jdk_52_method_15_code 2 (some .byte) :: ws) ({ frames := 0, cells := 0, slots := 0, locals := 0 } : Room)) (fun a U => a = #[(.ref t1), (.int (Int32.ofNat cs.length))] ∧ Z.Warmed39 U.vm ∧ U.heap = h0) (fun _ _ _ _ _ => True) (fun _ U o U' => ∃ v L, o = .returned v ∧ Q_cfl Z t1 kb vs cs h0 n0 v U'.heap L ∧ FrameEnd U o U' L ({ frames := 0, cells := 0, slots := 0, locals := 0 } : Room).cells ({ frames := 0, cells := 0, slots := 0, locals := 0 } : Room).slots) := by
  refine MetFree.of_bodySF (plainFor_of_name own_pn_6) hisR ?_
  intro p e s m args below meth c s₁ Bd hml0 hP hK
  obtain ⟨rfl, hZ, hh⟩ := hP
  have hx := Bd.exec
  have hby := Bd.bytes
  have hml : c.maxLocals = 2 := hml0
  have hown : s.vm.findClass "java/lang/StringUTF16" = some m.cls := findClass_of_methodNamed Bd.named
  have hnm := (name_of_methodNamed Bd.named Bd.method).1
  have W := own_W hw
  have X0 : Stand p l e ({ frames := 0, cells := 0, slots := 0, locals := 0 } : Room) s m #[(.ref t1), (.int (Int32.ofNat cs.length))] below meth c s₁ [] 0 0 := Stand.of_body Bd
  have e0 : s₁.heap = h0 := by rw [← hh, Bd.state]; rfl
  have N0 := Fr.nil n0
  have pre0 : ∀ tq, Steps p.tables e below (s₁.setTop (mkF m 0 #[rv t1, iv (Int32.ofNat cs.length)] [])) tq → Steps p.tables e below (s₁.setTop (entryFrame m #[(.ref t1), (.int (Int32.ofNat cs.length))] 2)) tq := fun tq k => castTop (own_ef_cfl m t1 (Int32.ofNat cs.length)) k
  obtain ⟨cl77, Ar77, aq77, aS77, aN77, aH77, aG77⟩ := id V1
  obtain ⟨fs, hr, hrun, hended, hW, hsame⟩ := X0.leave (v := some (.int (nar .byte ((own_ushr ((Int32.ofNat cs.length) - (Int32.ofNat cs.length)) (31 : Int32)).toInt8.toInt32)))) (fun h => by rw [Bd.returns] at h; cases h)
  refine ⟨_, _, pre0 _ (?_), hrun, hended, _, _, rfl, ?_, ⟨_, rfl⟩, hW, hsame.mono (by decide) (by decide)⟩
  · show Steps _ _ _ (s₁.setTop (mkF m 0 #[rv t1, iv (Int32.ofNat cs.length)] [])) _
    refine XS.iloadN X0.here hx rfl (hb hby own_d18_0) rfl ?_
    show Steps _ _ _ (s₁.setTop (mkF m 1 _ [.int (Int32.ofNat cs.length)])) _
    refine XS.aloadN X0.here hx rfl (hb hby own_d18_1) rfl rfl ?_
    show Steps _ _ _ (s₁.setTop (mkF m 2 _ [.ref t1, .int (Int32.ofNat cs.length)])) _
    refine X0.arraylength hx (by rw [e0]; exact Ar77.1) (State.isArrayOf_alike hZ.alike Ar77.2.1) (g := (mkF m 2 #[rv t1, iv (Int32.ofNat cs.length)] [.ref t1, .int (Int32.ofNat cs.length)])) rfl rfl (hb hby own_d18_2) _ ?_
    rw [len_of aS77 aN77]
    show Steps _ _ _ (s₁.setTop (mkF m 3 #[rv t1, iv (Int32.ofNat cs.length)] [.int (Int32.ofNat cs.length), .int (Int32.ofNat cs.length)])) _
    refine XS.isub X0.here hx rfl (hb hby own_d18_3) rfl ?_
    show Steps _ _ _ (s₁.setTop (mkF m 4 _ [.int ((Int32.ofNat cs.length) - (Int32.ofNat cs.length))])) _
    refine XS.bipush X0.here hx rfl (hb hby own_d18_4) ?_
    show Steps _ _ _ (s₁.setTop (mkF m 6 _ [.int 31, .int ((Int32.ofNat cs.length) - (Int32.ofNat cs.length))])) _
    refine XS.iushr X0.here hx rfl (hb hby own_d18_6) rfl ?_
    show Steps _ _ _ (s₁.setTop (mkF m 7 _ [.int (own_ushr ((Int32.ofNat cs.length) - (Int32.ofNat cs.length)) (31 : Int32))])) _
    refine XS.i2b X0.here hx rfl (hb hby own_d18_7) rfl ?_
    show Steps _ _ _ (s₁.setTop (mkF m 8 _ [.int ((own_ushr ((Int32.ofNat cs.length) - (Int32.ofNat cs.length)) (31 : Int32)).toInt8.toInt32)])) _
    exact retN X0 hx (t := .byte) Bd.returns (by simp) (hb hby own_d18_8) hr
  · show Q_cfl Z t1 kb vs cs h0 n0 _ s₁.heap _
    rw [e0]
    exact ⟨by rw [own_cfl hn0 hn4], N0, rfl⟩
theorem own_ef_cfw (m : MethodId) (x0 : Addr) (x1 : Int32) : entryFrame m #[(.ref x0), (.int x1)] 2 = mkF m 0 #[rv x0, iv x1] [] := by first | (simp [entryFrame, mkF, argsToLocals, Value.category]; done) | rfl
def Q_cfw (Z : State) (t1 : Addr) (kb : ClassId) (vs : List Value) (cs : List Int32) (h0 : Heap) (n0 : Nat) (v : Option Value) (h : Heap) (L : List Loc) : Prop := v = some (.int (1 : Int32)) ∧ Fr n0 L ∧ h = h0
set_option maxRecDepth 65536 in
set_option maxHeartbeats 40000000 in
theorem rm_cfw (l : Launch) (Z : State) (a0 : Array Value) (hw : ∀ d ∈ tables_1, d.before a0 Z = true) (ws : List Jvm.Cond) (t1 : Addr) (kb : ClassId) (vs : List Value) (cs : List Int32) (h0 : Heap) (n0 : Nat) (Z0 : n0 ≤ h0.size) (V1 : Arv Z h0 t1 kb .byte (Int32.ofNat (2 * cs.length)) vs (.int 0)) (hn0 : 0 < cs.length) (hn4 : cs.length ≤ 4)  :
    MetFree l (⟨"java/lang/StringUTF16", "coderFromArrayLen", "([BI)B"⟩ : MethodName) (head1 (Jvm.Cond.code (⟨"java/lang/StringUTF16", "coderFromArrayLen", "([BI)B"⟩ : MethodName) jdk_52_method_15_code 2 (some .byte) :: ws) ({ frames := 0, cells := 0, slots := 0, locals := 0 } : Room)) (fun a U => a = #[(.ref t1), (.int (Int32.ofNat cs.length))] ∧ Z.Warmed39 U.vm ∧ U.heap = h0) (fun _ _ _ _ _ => True) (fun _ U o U' => ∃ v L, o = .returned v ∧ Q_cfw Z t1 kb vs cs h0 n0 v U'.heap L ∧ FrameEnd U o U' L ({ frames := 0, cells := 0, slots := 0, locals := 0 } : Room).cells ({ frames := 0, cells := 0, slots := 0, locals := 0 } : Room).slots) := by
  refine MetFree.of_bodySF (plainFor_of_name own_pn_6) hisR ?_
  intro p e s m args below meth c s₁ Bd hml0 hP hK
  obtain ⟨rfl, hZ, hh⟩ := hP
  have hx := Bd.exec
  have hby := Bd.bytes
  have hml : c.maxLocals = 2 := hml0
  have hown : s.vm.findClass "java/lang/StringUTF16" = some m.cls := findClass_of_methodNamed Bd.named
  have hnm := (name_of_methodNamed Bd.named Bd.method).1
  have W := own_W hw
  have X0 : Stand p l e ({ frames := 0, cells := 0, slots := 0, locals := 0 } : Room) s m #[(.ref t1), (.int (Int32.ofNat cs.length))] below meth c s₁ [] 0 0 := Stand.of_body Bd
  have e0 : s₁.heap = h0 := by rw [← hh, Bd.state]; rfl
  have N0 := Fr.nil n0
  have pre0 : ∀ tq, Steps p.tables e below (s₁.setTop (mkF m 0 #[rv t1, iv (Int32.ofNat cs.length)] [])) tq → Steps p.tables e below (s₁.setTop (entryFrame m #[(.ref t1), (.int (Int32.ofNat cs.length))] 2)) tq := fun tq k => castTop (own_ef_cfw m t1 (Int32.ofNat cs.length)) k
  obtain ⟨cl78, Ar78, aq78, aS78, aN78, aH78, aG78⟩ := id V1
  obtain ⟨fs, hr, hrun, hended, hW, hsame⟩ := X0.leave (v := some (.int (nar .byte ((own_ushr ((Int32.ofNat cs.length) - (Int32.ofNat (2 * cs.length))) (31 : Int32)).toInt8.toInt32)))) (fun h => by rw [Bd.returns] at h; cases h)
  refine ⟨_, _, pre0 _ (?_), hrun, hended, _, _, rfl, ?_, ⟨_, rfl⟩, hW, hsame.mono (by decide) (by decide)⟩
  · show Steps _ _ _ (s₁.setTop (mkF m 0 #[rv t1, iv (Int32.ofNat cs.length)] [])) _
    refine XS.iloadN X0.here hx rfl (hb hby own_d18_0) rfl ?_
    show Steps _ _ _ (s₁.setTop (mkF m 1 _ [.int (Int32.ofNat cs.length)])) _
    refine XS.aloadN X0.here hx rfl (hb hby own_d18_1) rfl rfl ?_
    show Steps _ _ _ (s₁.setTop (mkF m 2 _ [.ref t1, .int (Int32.ofNat cs.length)])) _
    refine X0.arraylength hx (by rw [e0]; exact Ar78.1) (State.isArrayOf_alike hZ.alike Ar78.2.1) (g := (mkF m 2 #[rv t1, iv (Int32.ofNat cs.length)] [.ref t1, .int (Int32.ofNat cs.length)])) rfl rfl (hb hby own_d18_2) _ ?_
    rw [len_of aS78 aN78]
    show Steps _ _ _ (s₁.setTop (mkF m 3 #[rv t1, iv (Int32.ofNat cs.length)] [.int (Int32.ofNat (2 * cs.length)), .int (Int32.ofNat cs.length)])) _
    refine XS.isub X0.here hx rfl (hb hby own_d18_3) rfl ?_
    show Steps _ _ _ (s₁.setTop (mkF m 4 _ [.int ((Int32.ofNat cs.length) - (Int32.ofNat (2 * cs.length)))])) _
    refine XS.bipush X0.here hx rfl (hb hby own_d18_4) ?_
    show Steps _ _ _ (s₁.setTop (mkF m 6 _ [.int 31, .int ((Int32.ofNat cs.length) - (Int32.ofNat (2 * cs.length)))])) _
    refine XS.iushr X0.here hx rfl (hb hby own_d18_6) rfl ?_
    show Steps _ _ _ (s₁.setTop (mkF m 7 _ [.int (own_ushr ((Int32.ofNat cs.length) - (Int32.ofNat (2 * cs.length))) (31 : Int32))])) _
    refine XS.i2b X0.here hx rfl (hb hby own_d18_7) rfl ?_
    show Steps _ _ _ (s₁.setTop (mkF m 8 _ [.int ((own_ushr ((Int32.ofNat cs.length) - (Int32.ofNat (2 * cs.length))) (31 : Int32)).toInt8.toInt32)])) _
    exact retN X0 hx (t := .byte) Bd.returns (by simp) (hb hby own_d18_8) hr
  · show Q_cfw Z t1 kb vs cs h0 n0 _ s₁.heap _
    rw [e0]
    exact ⟨by rw [own_cfw hn0 hn4], N0, rfl⟩
theorem own_d5_0 : decode jdk_42_method_149_code 0 = .ok (.aload_n 0, 1) := by decide +kernel
theorem own_d5_1 : decode jdk_42_method_149_code 1 = .ok (.invokespecial 1, 3) := by decide +kernel
theorem own_d5_4 : decode jdk_42_method_149_code 4 = .ok (.iload_n 3, 1) := by decide +kernel
theorem own_d5_5 : decode jdk_42_method_149_code 5 = .ok (.ifCond .ne 22, 3) := by decide +kernel
theorem own_d5_27 : decode jdk_42_method_149_code 27 = .ok (.getstatic 38, 3) := by decide +kernel
theorem own_d5_30 : decode jdk_42_method_149_code 30 = .ok (.ifCond .eq 28, 3) := by decide +kernel
theorem own_d5_33 : decode jdk_42_method_149_code 33 = .ok (.aload_n 1, 1) := by decide +kernel
theorem own_d5_34 : decode jdk_42_method_149_code 34 = .ok (.iload_n 2, 1) := by decide +kernel
theorem own_d5_35 : decode jdk_42_method_149_code 35 = .ok (.iload_n 3, 1) := by decide +kernel
theorem own_d5_36 : decode jdk_42_method_149_code 36 = .ok (.invokestatic 177, 3) := by decide +kernel
theorem own_d5_39 : decode jdk_42_method_149_code 39 = .ok (.astore 5, 2) := by decide +kernel
theorem own_d5_41 : decode jdk_42_method_149_code 41 = .ok (.aload_n 0, 1) := by decide +kernel
theorem own_d5_42 : decode jdk_42_method_149_code 42 = .ok (.aload 5, 2) := by decide +kernel
theorem own_d5_44 : decode jdk_42_method_149_code 44 = .ok (.iload_n 3, 1) := by decide +kernel
theorem own_d5_45 : decode jdk_42_method_149_code 45 = .ok (.invokestatic 47, 3) := by decide +kernel
theorem own_pd_16 : parseMethodDescriptor "([BI)B" = some ⟨[(.array .byte), .int], some .byte⟩ := by decide +kernel
theorem own_d5_48 : decode jdk_42_method_149_code 48 = .ok (.putfield 15, 3) := by decide +kernel
theorem own_d5_51 : decode jdk_42_method_149_code 51 = .ok (.aload_n 0, 1) := by decide +kernel
theorem own_d5_52 : decode jdk_42_method_149_code 52 = .ok (.aload 5, 2) := by decide +kernel
theorem own_d5_54 : decode jdk_42_method_149_code 54 = .ok (.putfield 9, 3) := by decide +kernel
theorem own_d5_57 : decode jdk_42_method_149_code 57 = .ok (.return_, 1) := by decide +kernel
theorem own_ef_sn4 (m : MethodId) (x0 : Addr) (x1 : Addr) (x2 : Int32) (x3 : Int32) : entryFrame m #[(.ref x0), (.ref x1), (.int x2), (.int x3), .null] 6 = mkF m 0 #[rv x0, rv x1, iv x2, iv x3, .val .null, uu] [] := by first | (simp [entryFrame, mkF, argsToLocals, Value.category]; done) | rfl
def Q_sn4 (Z : State) (a1 b1 : Addr) (kc : ClassId) (G1 : Int32) (cs : List Int32) (h0 : Heap) (n0 : Nat) (v : Option Value) (h : Heap) (L : List Loc) : Prop := v = none ∧ Fr n0 L ∧ Keep h0 h [a1] ∧ Exa Z h a1 "java/lang/String" ∧ ∃ t kb, h0.size ≤ t ∧ Fld Z h a1 "java/lang/String" "value" "[B" (.ref t) ∧ (((∀ c ∈ cs, ¬ (255 : Int32) < c) ∧ Fld Z h a1 "java/lang/String" "coder" "B" (.int (0 : Int32)) ∧ Arv Z h t kb .byte (Int32.ofNat cs.length) (own_lows cs) (.int 0)) ∨ ((∃ c ∈ cs, (255 : Int32) < c) ∧ Fld Z h a1 "java/lang/String" "coder" "B" (.int (1 : Int32)) ∧ Arv Z h t kb .byte (Int32.ofNat (2 * cs.length)) (StrChars.Road.wideBytes cs) (.int 0)))
set_option maxRecDepth 65536 in
set_option maxHeartbeats 40000000 in
theorem rm_sn4 (l : Launch) (Z : State) (a0 : Array Value) (hw : ∀ d ∈ tables_1, d.before a0 Z = true) (ws : List Jvm.Cond) (a1 b1 : Addr) (kc : ClassId) (G1 : Int32) (cs : List Int32) (h0 : Heap) (n0 : Nat) (Z0 : n0 ≤ h0.size) (X00 : Old Z n0 h0) (V1 : Arv Z h0 b1 kc .char (Int32.ofNat cs.length) (cs.map Value.int) (.int 0)) (hn0 : 0 < cs.length) (hn4 : cs.length ≤ 4)  (hbs : ∀ c ∈ cs, ¬ c < 0 ∧ ¬ (65535 : Int32) < c) (E1 : Exa Z h0 a1 "java/lang/String") (g1 : n0 ≤ a1) (F1 : Fld Z h0 a1 "java/lang/String" "value" "[B" .null) (F2 : Fld Z h0 a1 "java/lang/String" "coder" "B" (.int (0 : Int32))) (hne : b1 ≠ a1) (O2 : Sta Z Z.heap "java/lang/String" "COMPACT_STRINGS" "Z" (.int G1)) (P5 : ¬ (G1 = (0 : Int32))) (OA : Sta Z Z.heap "java/lang/StringUTF16" "$assertionsDisabled" "Z" (.int (1 : Int32))) (OH : Sta Z Z.heap "java/lang/StringUTF16" "HI_BYTE_SHIFT" "I" (.int (0 : Int32))) (OL : Sta Z Z.heap "java/lang/StringUTF16" "LO_BYTE_SHIFT" "I" (.int (8 : Int32))) :
    MetFree l (⟨"java/lang/String", "<init>", "([CIILjava/lang/Void;)V"⟩ : MethodName) (head1 (Jvm.Cond.code (⟨"java/lang/String", "<init>", "([CIILjava/lang/Void;)V"⟩ : MethodName) jdk_42_method_149_code 6 none :: ws) ({ frames := 4, cells := 2, slots := 12, locals := 66 } : Room)) (fun a U => a = #[(.ref a1), (.ref b1), (.int (0 : Int32)), (.int (Int32.ofNat cs.length)), .null] ∧ Z.Warmed39 U.vm ∧ U.heap = h0) (fun _ _ _ _ _ => True) (fun _ U o U' => ∃ v L, o = .returned v ∧ Q_sn4 Z a1 b1 kc G1 cs h0 n0 v U'.heap L ∧ FrameEnd U o U' L ({ frames := 4, cells := 2, slots := 12, locals := 66 } : Room).cells ({ frames := 4, cells := 2, slots := 12, locals := 66 } : Room).slots) := by
  refine MetFree.of_bodySF (plainFor_of_name own_pn_4) hisR ?_
  intro p e s m args below meth c s₁ Bd hml0 hP hK
  obtain ⟨rfl, hZ, hh⟩ := hP
  have hx := Bd.exec
  have hby := Bd.bytes
  have hml : c.maxLocals = 6 := hml0
  have hown : s.vm.findClass "java/lang/String" = some m.cls := findClass_of_methodNamed Bd.named
  have hnm := (name_of_methodNamed Bd.named Bd.method).1
  have W := own_W hw
  have X0 : Stand p l e ({ frames := 4, cells := 2, slots := 12, locals := 66 } : Room) s m #[(.ref a1), (.ref b1), (.int (0 : Int32)), (.int (Int32.ofNat cs.length)), .null] below meth c s₁ [] 0 0 := Stand.of_body Bd
  have e0 : s₁.heap = h0 := by rw [← hh, Bd.state]; rfl
  have N0 := Fr.nil n0
  have pre0 : ∀ tq, Steps p.tables e below (s₁.setTop (mkF m 0 #[rv a1, rv b1, iv 0, iv (Int32.ofNat cs.length), .val .null, uu] [])) tq → Steps p.tables e below (s₁.setTop (entryFrame m #[(.ref a1), (.ref b1), (.int (0 : Int32)), (.int (Int32.ofNat cs.length)), .null] 6)) tq := fun tq k => castTop (own_ef_sn4 m a1 b1 (0 : Int32) (Int32.ofNat cs.length)) k
  have K79 : Keep h0 h0 [a1] := Keep.refl h0 [a1]
  obtain ⟨T80, X80, e80, st80⟩ := initO X0 hx hZ hown (W 19 rfl) (W 20 rfl) (W 21 rfl) e0 (g := (mkF m 1 #[rv a1, rv b1, iv 0, iv (Int32.ofNat cs.length), .val .null, uu] [.ref a1])) rfl (by rw [hml]; rfl) rfl (hb hby own_d5_1) (by decide) (W := 0) own_wt (by decide)
  obtain ⟨T81, X81, e81, st81⟩ := getS2 X80 hx hZ hown (host := "") (Or.inl (W 67 rfl)) Via.refl e80 (O2.ext X00.2) (g := (mkF m 27 #[rv a1, rv b1, iv 0, iv (Int32.ofNat cs.length), .val .null, uu] [])) rfl (hb hby own_d5_27)
  obtain ⟨_, _, ⟨T82, L82, k82, n82⟩, -, X82, ⟨Lc82, hQ82, l82, y82, z82⟩, st82⟩ := Jvm.LawKit.callS X81 hx (y := (⟨"java/lang/StringUTF16", "compress", "([CII)[B"⟩ : MethodName)) hown (mvT hZ (W 89 rfl)) (mvT hZ (W 90 rfl)) (mvT hZ (W 91 rfl)) (mvT hZ (W 92 rfl)) (by decide) (backOf (W := 0) (rm_uc l Z a0 hw [] b1 kc cs h0 n0 Z0 X00 V1 hn0 hn4 hbs OA OH OL) hZ (W 92 rfl) (W 91 rfl) (by decide) (by decide)) (g := (mkF m 36 #[rv a1, rv b1, iv 0, iv (Int32.ofNat cs.length), .val .null, uu] [.int (Int32.ofNat cs.length), .int 0, .ref b1])) rfl (by rw [hml]; rfl) (argsL := [.ref b1, .int 0, .int (Int32.ofNat cs.length)]) (rest := []) (lenOf own_pd_14 rfl) rfl own_wt (hb hby own_d5_36) (fun _ _ => ⟨rfl, e81, (by decide : 0 + 2 ≤ _), (by decide : 0 + 12 ≤ _)⟩)
  dsimp only [Pt.U, Pt.locs, Pt.cells, Pt.slots] at X82 l82 y82 z82 st82 hQ82
  subst l82 y82 z82
  obtain ⟨b82, kb82, hv82, Nq82, K82, sb82, hcase⟩ := hQ82
  subst hv82
  have N82 := Fr.app N0 Nq82
  have g83 : n0 ≤ b82 := Nat.le_trans Z0 sb82
  have g84 : h0.size ≤ b82 := Nat.le_trans K79.1 sb82
  have Z85 : n0 ≤ T82.heap.size := Nat.le_trans Z0 K82.1
  have O86 : Old Z n0 T82.heap := X00.keep K82 all0
  have K87 : Keep h0 T82.heap [a1] := K79.trans K82 all0
  have G88 : ∀ tq, Steps p.tables e below (T82.setTop (mkF m 39 #[rv a1, rv b1, iv 0, iv (Int32.ofNat cs.length), .val .null, uu] [.ref b82])) tq → Steps p.tables e below (s₁.setTop (mkF m 0 #[rv a1, rv b1, iv 0, iv (Int32.ofNat cs.length), .val .null, uu] [])) tq := by
    intro tq kk
    show Steps _ _ _ (s₁.setTop (mkF m 0 #[rv a1, rv b1, iv 0, iv (Int32.ofNat cs.length), .val .null, uu] [])) _
    refine XS.aloadN X0.here hx rfl (hb hby own_d5_0) rfl rfl ?_
    show Steps _ _ _ (s₁.setTop (mkF m 1 _ [.ref a1])) _
    refine st80 _ ?_
    show Steps _ _ _ (T80.setTop (mkF m 4 #[rv a1, rv b1, iv 0, iv (Int32.ofNat cs.length), .val .null, uu] [])) _
    refine XS.iloadN X80.here hx rfl (hb hby own_d5_4) rfl ?_
    show Steps _ _ _ (T80.setTop (mkF m 5 _ [.int (Int32.ofNat cs.length)])) _
    refine XS.ifYes X80.here hx rfl (pc0 := 5) (pc' := 27) rfl (hb hby own_d5_5) rfl ((if0 _ _).trans (feq (own_nz hn0 hn4 : ¬ ((Int32.ofNat cs.length) = (0 : Int32)))).2) (by decide) (by decide) ?_
    show Steps _ _ _ (T80.setTop (mkF m 27 _ [])) _
    refine st81 _ ?_
    show Steps _ _ _ (T81.setTop (mkF m 30 #[rv a1, rv b1, iv 0, iv (Int32.ofNat cs.length), .val .null, uu] [.int G1])) _
    refine XS.ifNo X81.here hx rfl (hb hby own_d5_30) rfl ((if0 _ _).trans (feq (P5 : ¬ (G1 = (0 : Int32)))).1) ?_
    show Steps _ _ _ (T81.setTop (mkF m 33 _ [])) _
    refine XS.aloadN X81.here hx rfl (hb hby own_d5_33) rfl rfl ?_
    show Steps _ _ _ (T81.setTop (mkF m 34 _ [.ref b1])) _
    refine XS.iloadN X81.here hx rfl (hb hby own_d5_34) rfl ?_
    show Steps _ _ _ (T81.setTop (mkF m 35 _ [.int 0, .ref b1])) _
    refine XS.iloadN X81.here hx rfl (hb hby own_d5_35) rfl ?_
    show Steps _ _ _ (T81.setTop (mkF m 36 _ [.int (Int32.ofNat cs.length), .int 0, .ref b1])) _
    refine st82 _ ?_
    exact kk
  rcases hcase with ⟨hg, hA⟩ | ⟨hg, hA⟩
  · obtain ⟨_, _, ⟨T89, L89, k89, n89⟩, -, X89, ⟨Lc89, hQ89, l89, y89, z89⟩, st89⟩ := Jvm.LawKit.callS X82 hx (y := (⟨"java/lang/StringUTF16", "coderFromArrayLen", "([BI)B"⟩ : MethodName)) hown (mvT hZ (W 96 rfl)) (mvT hZ (W 97 rfl)) (mvT hZ (W 91 rfl)) (mvT hZ (W 98 rfl)) (by decide) (backOf (W := 1) (rm_cfl l Z a0 hw [] b82 kb82 (own_lows cs) cs T82.heap n0 Z85 hA hn0 hn4) hZ (W 98 rfl) (W 91 rfl) (by decide) (by decide)) (g := (mkF m 45 #[rv a1, rv b1, iv 0, iv (Int32.ofNat cs.length), .val .null, rv b82] [.int (Int32.ofNat cs.length), .ref b82, .ref a1])) rfl (by rw [hml]; rfl) (argsL := [.ref b82, .int (Int32.ofNat cs.length)]) (rest := [.ref a1]) (lenOf own_pd_16 rfl) rfl own_wt (hb hby own_d5_45) (fun _ _ => ⟨rfl, rfl, (by decide : 2 + 0 ≤ _), (by decide : 12 + 0 ≤ _)⟩)
    dsimp only [Pt.U, Pt.locs, Pt.cells, Pt.slots] at X89 l89 y89 z89 st89 hQ89
    subst l89 y89 z89
    obtain ⟨rfl, Nq89, e89⟩ := hQ89
    have N89 := Fr.app N82 Nq89
    have f91 := (F2.keep K82 nin0)
    have f92 := (E1.keep K82)
    obtain ⟨T90, h90, X90, e90, W90, st90⟩ := putFN X89 hx hZ hown (W 29 rfl) Via.refl e89 f91 f92 (Or.inr ⟨(W 25 rfl), rfl, hnm⟩) (W 10 rfl) (ty := .byte) (v' := (.int (0 : Int32))) (by decide) rfl rfl (g := (mkF m 48 #[rv a1, rv b1, iv 0, iv (Int32.ofNat cs.length), .val .null, rv b82] [.int 0, .ref a1])) rfl rfl (hb hby own_d5_48)
    have N90 := Fr.snoc X90 N89 g1
    have Fw90 := f91.same W90
    have Z93 : n0 ≤ h90.size := Nat.le_trans Z85 (Keep.of_wr W90).1
    have O94 : Old Z n0 h90 := O86.wr W90 g1
    have K95 : Keep h0 h90 [a1] := K87.wr W90 (Or.inl (List.mem_of_getElem? (i := 0) rfl))
    have f97 := ((F1.keep K82 nin0).other W90 (Or.inr (slot_ne (Or.inr (W 24 rfl)) (Or.inr (W 25 rfl)) (by decide) (t := (.array .byte)) (t' := .byte) (by decide) (by decide))))
    have f98 := (f92.wr W90)
    obtain ⟨T96, h96, X96, e96, W96, st96⟩ := putF X90 hx hZ hown (host := "") (Or.inl (W 28 rfl)) Via.refl e90 f97 f98 (Or.inr ⟨(W 24 rfl), rfl, hnm⟩) (W 10 rfl) (ty := (.array .byte)) (by decide) rfl rfl (g := (mkF m 54 #[rv a1, rv b1, iv 0, iv (Int32.ofNat cs.length), .val .null, rv b82] [.ref b82, .ref a1])) rfl rfl (hb hby own_d5_54)
    have N96 := Fr.snoc X96 N90 g1
    have Fw96 := f97.same W96
    have Z99 : n0 ≤ h96.size := Nat.le_trans Z93 (Keep.of_wr W96).1
    have O100 : Old Z n0 h96 := O94.wr W96 g1
    have K101 : Keep h0 h96 [a1] := K95.wr W96 (Or.inl (List.mem_of_getElem? (i := 0) rfl))
    have f102 := (f98.wr W96)
    have f103 := (Fw90.other W96 (Or.inr (slot_ne (Or.inr (W 25 rfl)) (Or.inr (W 24 rfl)) (by decide) (t := .byte) (t' := (.array .byte)) (by decide) (by decide))))
    have f104 := ((hA.other W90 (Ne.symm (Nat.ne_of_lt (Nat.lt_of_lt_of_le E1.lt sb82)))).other W96 (Ne.symm (Nat.ne_of_lt (Nat.lt_of_lt_of_le E1.lt sb82))))
    obtain ⟨fs, hr, hrun, hended, hW, hsame⟩ := X96.leave (v := none) (fun _ => rfl)
    refine ⟨_, _, pre0 _ (G88 _ (?_)), hrun, hended, _, _, rfl, ?_, ⟨_, rfl⟩, hW, hsame.mono (by decide) (by decide)⟩
    · show Steps _ _ _ (T82.setTop (mkF m 39 #[rv a1, rv b1, iv 0, iv (Int32.ofNat cs.length), .val .null, uu] [.ref b82])) _
      refine XS.astore X82.here hx rfl (hb hby own_d5_39) rfl rfl (l' := #[rv a1, rv b1, iv 0, iv (Int32.ofNat cs.length), .val .null, rv b82]) rfl ?_
      show Steps _ _ _ (T82.setTop (mkF m 41 _ [])) _
      refine XS.aloadN X82.here hx rfl (hb hby own_d5_41) rfl rfl ?_
      show Steps _ _ _ (T82.setTop (mkF m 42 _ [.ref a1])) _
      refine XS.aload X82.here hx rfl (hb hby own_d5_42) rfl rfl ?_
      show Steps _ _ _ (T82.setTop (mkF m 44 _ [.ref b82, .ref a1])) _
      refine XS.iloadN X82.here hx rfl (hb hby own_d5_44) rfl ?_
      show Steps _ _ _ (T82.setTop (mkF m 45 _ [.int (Int32.ofNat cs.length), .ref b82, .ref a1])) _
      refine st89 _ ?_
      show Steps _ _ _ (T89.setTop (mkF m 48 #[rv a1, rv b1, iv 0, iv (Int32.ofNat cs.length), .val .null, rv b82] [.int 0, .ref a1])) _
      refine st90 _ ?_
      show Steps _ _ _ (T90.setTop (mkF m 51 #[rv a1, rv b1, iv 0, iv (Int32.ofNat cs.length), .val .null, rv b82] [])) _
      refine XS.aloadN X90.here hx rfl (hb hby own_d5_51) rfl rfl ?_
      show Steps _ _ _ (T90.setTop (mkF m 52 _ [.ref a1])) _
      refine XS.aload X90.here hx rfl (hb hby own_d5_52) rfl rfl ?_
      show Steps _ _ _ (T90.setTop (mkF m 54 _ [.ref b82, .ref a1])) _
      refine st96 _ ?_
      show Steps _ _ _ (T96.setTop (mkF m 57 #[rv a1, rv b1, iv 0, iv (Int32.ofNat cs.length), .val .null, rv b82] [])) _
      exact X96.returnOut hx Bd.returns (hb hby own_d5_57) hr
    · show Q_sn4 Z a1 b1 kc G1 cs h0 n0 _ T96.heap _
      rw [e96]
      exact ⟨rfl, N96, K101, f102, b82, kb82, g84, Fw96, Or.inl ⟨hg, f103, f104⟩⟩
  · obtain ⟨_, _, ⟨T105, L105, k105, n105⟩, -, X105, ⟨Lc105, hQ105, l105, y105, z105⟩, st105⟩ := Jvm.LawKit.callS X82 hx (y := (⟨"java/lang/StringUTF16", "coderFromArrayLen", "([BI)B"⟩ : MethodName)) hown (mvT hZ (W 96 rfl)) (mvT hZ (W 97 rfl)) (mvT hZ (W 91 rfl)) (mvT hZ (W 98 rfl)) (by decide) (backOf (W := 1) (rm_cfw l Z a0 hw [] b82 kb82 (StrChars.Road.wideBytes cs) cs T82.heap n0 Z85 hA hn0 hn4) hZ (W 98 rfl) (W 91 rfl) (by decide) (by decide)) (g := (mkF m 45 #[rv a1, rv b1, iv 0, iv (Int32.ofNat cs.length), .val .null, rv b82] [.int (Int32.ofNat cs.length), .ref b82, .ref a1])) rfl (by rw [hml]; rfl) (argsL := [.ref b82, .int (Int32.ofNat cs.length)]) (rest := [.ref a1]) (lenOf own_pd_16 rfl) rfl own_wt (hb hby own_d5_45) (fun _ _ => ⟨rfl, rfl, (by decide : 2 + 0 ≤ _), (by decide : 12 + 0 ≤ _)⟩)
    dsimp only [Pt.U, Pt.locs, Pt.cells, Pt.slots] at X105 l105 y105 z105 st105 hQ105
    subst l105 y105 z105
    obtain ⟨rfl, Nq105, e105⟩ := hQ105
    have N105 := Fr.app N82 Nq105
    have f107 := (F2.keep K82 nin0)
    have f108 := (E1.keep K82)
    obtain ⟨T106, h106, X106, e106, W106, st106⟩ := putFN X105 hx hZ hown (W 29 rfl) Via.refl e105 f107 f108 (Or.inr ⟨(W 25 rfl), rfl, hnm⟩) (W 10 rfl) (ty := .byte) (v' := (.int (1 : Int32))) (by decide) rfl rfl (g := (mkF m 48 #[rv a1, rv b1, iv 0, iv (Int32.ofNat cs.length), .val .null, rv b82] [.int 1, .ref a1])) rfl rfl (hb hby own_d5_48)
    have N106 := Fr.snoc X106 N105 g1
    have Fw106 := f107.same W106
    have Z109 : n0 ≤ h106.size := Nat.le_trans Z85 (Keep.of_wr W106).1
    have O110 : Old Z n0 h106 := O86.wr W106 g1
    have K111 : Keep h0 h106 [a1] := K87.wr W106 (Or.inl (List.mem_of_getElem? (i := 0) rfl))
    have f113 := ((F1.keep K82 nin0).other W106 (Or.inr (slot_ne (Or.inr (W 24 rfl)) (Or.inr (W 25 rfl)) (by decide) (t := (.array .byte)) (t' := .byte) (by decide) (by decide))))
    have f114 := (f108.wr W106)
    obtain ⟨T112, h112, X112, e112, W112, st112⟩ := putF X106 hx hZ hown (host := "") (Or.inl (W 28 rfl)) Via.refl e106 f113 f114 (Or.inr ⟨(W 24 rfl), rfl, hnm⟩) (W 10 rfl) (ty := (.array .byte)) (by decide) rfl rfl (g := (mkF m 54 #[rv a1, rv b1, iv 0, iv (Int32.ofNat cs.length), .val .null, rv b82] [.ref b82, .ref a1])) rfl rfl (hb hby own_d5_54)
    have N112 := Fr.snoc X112 N106 g1
    have Fw112 := f113.same W112
    have Z115 : n0 ≤ h112.size := Nat.le_trans Z109 (Keep.of_wr W112).1
    have O116 : Old Z n0 h112 := O110.wr W112 g1
    have K117 : Keep h0 h112 [a1] := K111.wr W112 (Or.inl (List.mem_of_getElem? (i := 0) rfl))
    have f118 := (f114.wr W112)
    have f119 := (Fw106.other W112 (Or.inr (slot_ne (Or.inr (W 25 rfl)) (Or.inr (W 24 rfl)) (by decide) (t := .byte) (t' := (.array .byte)) (by decide) (by decide))))
    have f120 := ((hA.other W106 (Ne.symm (Nat.ne_of_lt (Nat.lt_of_lt_of_le E1.lt sb82)))).other W112 (Ne.symm (Nat.ne_of_lt (Nat.lt_of_lt_of_le E1.lt sb82))))
    obtain ⟨fs, hr, hrun, hended, hW, hsame⟩ := X112.leave (v := none) (fun _ => rfl)
    refine ⟨_, _, pre0 _ (G88 _ (?_)), hrun, hended, _, _, rfl, ?_, ⟨_, rfl⟩, hW, hsame.mono (by decide) (by decide)⟩
    · show Steps _ _ _ (T82.setTop (mkF m 39 #[rv a1, rv b1, iv 0, iv (Int32.ofNat cs.length), .val .null, uu] [.ref b82])) _
      refine XS.astore X82.here hx rfl (hb hby own_d5_39) rfl rfl (l' := #[rv a1, rv b1, iv 0, iv (Int32.ofNat cs.length), .val .null, rv b82]) rfl ?_
      show Steps _ _ _ (T82.setTop (mkF m 41 _ [])) _
      refine XS.aloadN X82.here hx rfl (hb hby own_d5_41) rfl rfl ?_
      show Steps _ _ _ (T82.setTop (mkF m 42 _ [.ref a1])) _
      refine XS.aload X82.here hx rfl (hb hby own_d5_42) rfl rfl ?_
      show Steps _ _ _ (T82.setTop (mkF m 44 _ [.ref b82, .ref a1])) _
      refine XS.iloadN X82.here hx rfl (hb hby own_d5_44) rfl ?_
      show Steps _ _ _ (T82.setTop (mkF m 45 _ [.int (Int32.ofNat cs.length), .ref b82, .ref a1])) _
      refine st105 _ ?_
      show Steps _ _ _ (T105.setTop (mkF m 48 #[rv a1, rv b1, iv 0, iv (Int32.ofNat cs.length), .val .null, rv b82] [.int 1, .ref a1])) _
      refine st106 _ ?_
      show Steps _ _ _ (T106.setTop (mkF m 51 #[rv a1, rv b1, iv 0, iv (Int32.ofNat cs.length), .val .null, rv b82] [])) _
      refine XS.aloadN X106.here hx rfl (hb hby own_d5_51) rfl rfl ?_
      show Steps _ _ _ (T106.setTop (mkF m 52 _ [.ref a1])) _
      refine XS.aload X106.here hx rfl (hb hby own_d5_52) rfl rfl ?_
      show Steps _ _ _ (T106.setTop (mkF m 54 _ [.ref b82, .ref a1])) _
      refine st112 _ ?_
      show Steps _ _ _ (T112.setTop (mkF m 57 #[rv a1, rv b1, iv 0, iv (Int32.ofNat cs.length), .val .null, rv b82] [])) _
      exact X112.returnOut hx Bd.returns (hb hby own_d5_57) hr
    · show Q_sn4 Z a1 b1 kc G1 cs h0 n0 _ T112.heap _
      rw [e112]
      exact ⟨rfl, N112, K117, f118, b82, kb82, g84, Fw112, Or.inr ⟨hg, f119, f120⟩⟩
theorem own_d9_0 : decode jdk_42_method_3_code 0 = .ok (.aload_n 0, 1) := by decide +kernel
theorem own_d9_1 : decode jdk_42_method_3_code 1 = .ok (.aload_n 1, 1) := by decide +kernel
theorem own_d9_2 : decode jdk_42_method_3_code 2 = .ok (.iconst 0, 1) := by decide +kernel
theorem own_d9_3 : decode jdk_42_method_3_code 3 = .ok (.aload_n 1, 1) := by decide +kernel
theorem own_d9_4 : decode jdk_42_method_3_code 4 = .ok (.arraylength, 1) := by decide +kernel
theorem own_d9_5 : decode jdk_42_method_3_code 5 = .ok (.aconst_null, 1) := by decide +kernel
theorem own_d9_6 : decode jdk_42_method_3_code 6 = .ok (.invokespecial 27, 3) := by decide +kernel
theorem own_pd_2 : parseMethodDescriptor "([CIILjava/lang/Void;)V" = some ⟨[(.array .char), .int, .int, (.object "java/lang/Void")], none⟩ := by decide +kernel
theorem own_d9_9 : decode jdk_42_method_3_code 9 = .ok (.return_, 1) := by decide +kernel
theorem own_ef_snew (m : MethodId) (x0 : Addr) (x1 : Addr) : entryFrame m #[(.ref x0), (.ref x1)] 2 = mkF m 0 #[rv x0, rv x1] [] := by first | (simp [entryFrame, mkF, argsToLocals, Value.category]; done) | rfl
def Q_snew (Z : State) (a1 b1 : Addr) (kc : ClassId) (G1 : Int32) (cs : List Int32) (h0 : Heap) (n0 : Nat) (v : Option Value) (h : Heap) (L : List Loc) : Prop := v = none ∧ Fr n0 L ∧ Keep h0 h [a1] ∧ StrB Z h h.size a1 cs
set_option maxRecDepth 65536 in
set_option maxHeartbeats 40000000 in
theorem rm_snew (l : Launch) (Z : State) (a0 : Array Value) (hw : ∀ d ∈ tables_1, d.before a0 Z = true) (ws : List Jvm.Cond) (a1 b1 : Addr) (kc : ClassId) (G1 : Int32) (cs : List Int32) (h0 : Heap) (n0 : Nat) (Z0 : n0 ≤ h0.size) (X00 : Old Z n0 h0) (V1 : Arv Z h0 b1 kc .char (Int32.ofNat cs.length) (cs.map Value.int) (.int 0)) (hn0 : 0 < cs.length) (hn4 : cs.length ≤ 4)  (hbs : ∀ c ∈ cs, ¬ c < 0 ∧ ¬ (65535 : Int32) < c) (E1 : Exa Z h0 a1 "java/lang/String") (g1 : n0 ≤ a1) (F1 : Fld Z h0 a1 "java/lang/String" "value" "[B" .null) (F2 : Fld Z h0 a1 "java/lang/String" "coder" "B" (.int (0 : Int32))) (hne : b1 ≠ a1) (O2 : Sta Z Z.heap "java/lang/String" "COMPACT_STRINGS" "Z" (.int G1)) (P5 : ¬ (G1 = (0 : Int32))) (OA : Sta Z Z.heap "java/lang/StringUTF16" "$assertionsDisabled" "Z" (.int (1 : Int32))) (OH : Sta Z Z.heap "java/lang/StringUTF16" "HI_BYTE_SHIFT" "I" (.int (0 : Int32))) (OL : Sta Z Z.heap "java/lang/StringUTF16" "LO_BYTE_SHIFT" "I" (.int (8 : Int32))) :
    MetFree l (⟨"java/lang/String", "<init>", "([C)V"⟩ : MethodName) (head1 (Jvm.Cond.code (⟨"java/lang/String", "<init>", "([C)V"⟩ : MethodName) jdk_42_method_3_code 2 none :: ws) ({ frames := 5, cells := 2, slots := 12, locals := 84 } : Room)) (fun a U => a = #[(.ref a1), (.ref b1)] ∧ Z.Warmed39 U.vm ∧ U.heap = h0) (fun _ _ _ _ _ => True) (fun _ U o U' => ∃ v L, o = .returned v ∧ Q_snew Z a1 b1 kc G1 cs h0 n0 v U'.heap L ∧ FrameEnd U o U' L ({ frames := 5, cells := 2, slots := 12, locals := 84 } : Room).cells ({ frames := 5, cells := 2, slots := 12, locals := 84 } : Room).slots) := by
  refine MetFree.of_bodySF (plainFor_of_name own_pn_4) hisR ?_
  intro p e s m args below meth c s₁ Bd hml0 hP hK
  obtain ⟨rfl, hZ, hh⟩ := hP
  have hx := Bd.exec
  have hby := Bd.bytes
  have hml : c.maxLocals = 2 := hml0
  have hown : s.vm.findClass "java/lang/String" = some m.cls := findClass_of_methodNamed Bd.named
  have hnm := (name_of_methodNamed Bd.named Bd.method).1
  have W := own_W hw
  have X0 : Stand p l e ({ frames := 5, cells := 2, slots := 12, locals := 84 } : Room) s m #[(.ref a1), (.ref b1)] below meth c s₁ [] 0 0 := Stand.of_body Bd
  have e0 : s₁.heap = h0 := by rw [← hh, Bd.state]; rfl
  have N0 := Fr.nil n0
  have pre0 : ∀ tq, Steps p.tables e below (s₁.setTop (mkF m 0 #[rv a1, rv b1] [])) tq → Steps p.tables e below (s₁.setTop (entryFrame m #[(.ref a1), (.ref b1)] 2)) tq := fun tq k => castTop (own_ef_snew m a1 b1) k
  have K121 : Keep h0 h0 [a1] := Keep.refl h0 [a1]
  obtain ⟨cl122, Ar122, aq122, aS122, aN122, aH122, aG122⟩ := id V1
  obtain ⟨_, _, ⟨T123, L123, k123, n123⟩, -, X123, ⟨Lc123, hQ123, l123, y123, z123⟩, st123⟩ := X0.specialBack hx (y := (⟨"java/lang/String", "<init>", "([CIILjava/lang/Void;)V"⟩ : MethodName)) rfl hown (mvT hZ (W 15 rfl)) (mvT hZ (W 16 rfl)) (mvT hZ (W 18 rfl)) (by decide) (backOf (W := 0) (rm_sn4 l Z a0 hw [] a1 b1 kc G1 cs h0 n0 Z0 X00 V1 hn0 hn4 hbs E1 g1 F1 F2 hne O2 P5 OA OH OL) hZ (W 18 rfl) (W 11 rfl) (by decide) (by decide)) (g := (mkF m 6 #[rv a1, rv b1] [.null, .int (Int32.ofNat cs.length), .int 0, .ref b1, .ref a1])) rfl (by rw [hml]; rfl) (Steps.refl _) (a := a1) (argsL := [.ref b1, .int 0, .int (Int32.ofNat cs.length), .null]) (rest := []) (lenOf own_pd_2 rfl) rfl own_wt (hb hby own_d9_6) (fun _ _ => ⟨rfl, e0, (by decide : 0 + 2 ≤ _), (by decide : 0 + 12 ≤ _)⟩)
  dsimp only [Pt.U, Pt.locs, Pt.cells, Pt.slots] at X123 l123 y123 z123 st123 hQ123
  subst l123 y123 z123
  obtain ⟨rfl, Nq123, K123, gE123, t123, kb123, st_123, gV123, hcase⟩ := hQ123
  have N123 := Fr.app N0 Nq123
  have Z124 : n0 ≤ T123.heap.size := Nat.le_trans Z0 K123.1
  have O125 : Old Z n0 T123.heap := X00.keep K123 (allS g1 all0)
  have K126 : Keep h0 T123.heap [a1] := K121.trans K123 (allS (Or.inl (List.mem_of_getElem? (i := 0) rfl)) all0)
  have hS : StrB Z T123.heap T123.heap.size a1 cs := by
    rcases hcase with ⟨hg, gC, gA⟩ | ⟨hg, gC, gA⟩
    · exact ⟨gE123.lt, gE123, t123, kb123, 0, _, _, gA.lt, gV123, gC, gA, Or.inl ⟨rfl, rfl, rfl, hg⟩, hbs, (by omega)⟩
    · exact ⟨gE123.lt, gE123, t123, kb123, 1, _, _, gA.lt, gV123, gC, gA, Or.inr ⟨rfl, rfl, rfl, hg⟩, hbs, (by omega)⟩
  obtain ⟨fs, hr, hrun, hended, hW, hsame⟩ := X123.leave (v := none) (fun _ => rfl)
  refine ⟨_, _, pre0 _ (?_), hrun, hended, _, _, rfl, ?_, ⟨_, rfl⟩, hW, hsame.mono (by decide) (by decide)⟩
  · show Steps _ _ _ (s₁.setTop (mkF m 0 #[rv a1, rv b1] [])) _
    refine XS.aloadN X0.here hx rfl (hb hby own_d9_0) rfl rfl ?_
    show Steps _ _ _ (s₁.setTop (mkF m 1 _ [.ref a1])) _
    refine XS.aloadN X0.here hx rfl (hb hby own_d9_1) rfl rfl ?_
    show Steps _ _ _ (s₁.setTop (mkF m 2 _ [.ref b1, .ref a1])) _
    refine XS.iconst X0.here hx rfl (hb hby own_d9_2) ?_
    show Steps _ _ _ (s₁.setTop (mkF m 3 _ [.int 0, .ref b1, .ref a1])) _
    refine XS.aloadN X0.here hx rfl (hb hby own_d9_3) rfl rfl ?_
    show Steps _ _ _ (s₁.setTop (mkF m 4 _ [.ref b1, .int 0, .ref b1, .ref a1])) _
    refine X0.arraylength hx (by rw [e0]; exact Ar122.1) (State.isArrayOf_alike hZ.alike Ar122.2.1) (g := (mkF m 4 #[rv a1, rv b1] [.ref b1, .int 0, .ref b1, .ref a1])) rfl rfl (hb hby own_d9_4) _ ?_
    rw [len_of aS122 aN122]
    show Steps _ _ _ (s₁.setTop (mkF m 5 #[rv a1, rv b1] [.int (Int32.ofNat cs.length), .int 0, .ref b1, .ref a1])) _
    refine XS.aconstNull X0.here hx rfl (hb hby own_d9_5) ?_
    show Steps _ _ _ (s₁.setTop (mkF m 6 _ [.null, .int (Int32.ofNat cs.length), .int 0, .ref b1, .ref a1])) _
    refine st123.trans ?_
    show Steps _ _ _ (T123.setTop (mkF m 9 #[rv a1, rv b1] [])) _
    exact X123.returnOut hx Bd.returns (hb hby own_d9_9) hr
  · show Q_snew Z a1 b1 kc G1 cs h0 n0 _ T123.heap _
    exact ⟨rfl, N123, K126, hS⟩
theorem own_d7_0 : decode jdk_42_method_154_code 0 = .ok (.getstatic 38, 3) := by decide +kernel
theorem own_d7_3 : decode jdk_42_method_154_code 3 = .ok (.ifCond .eq 14, 3) := by decide +kernel
theorem own_d7_6 : decode jdk_42_method_154_code 6 = .ok (.aload_n 0, 1) := by decide +kernel
theorem own_d7_7 : decode jdk_42_method_154_code 7 = .ok (.getfield 15, 3) := by decide +kernel
theorem own_d7_10 : decode jdk_42_method_154_code 10 = .ok (.ifCond .ne 7, 3) := by decide +kernel
theorem own_d7_17 : decode jdk_42_method_154_code 17 = .ok (.iconst 0, 1) := by decide +kernel
theorem own_d7_18 : decode jdk_42_method_154_code 18 = .ok (.ireturn, 1) := by decide +kernel
theorem own_ef_il0 (m : MethodId) (x0 : Addr) : entryFrame m #[(.ref x0)] 1 = mkF m 0 #[rv x0] [] := by first | (simp [entryFrame, mkF, argsToLocals, Value.category]; done) | rfl
def Q_il0 (Z : State) (a1 : Addr) (G1 : Int32) (h0 : Heap) (n0 : Nat) (v : Option Value) (h : Heap) (L : List Loc) : Prop := v = some (.int 0) ∧ Fr n0 L ∧ h = h0
set_option maxRecDepth 65536 in
set_option maxHeartbeats 40000000 in
theorem rm_il0 (l : Launch) (Z : State) (a0 : Array Value) (hw : ∀ d ∈ tables_1, d.before a0 Z = true) (ws : List Jvm.Cond) (a1 : Addr) (G1 : Int32) (h0 : Heap) (n0 : Nat) (Z0 : n0 ≤ h0.size) (X00 : Old Z n0 h0) (F2 : Fld Z h0 a1 "java/lang/String" "coder" "B" (.int (1 : Int32))) (O2 : Sta Z Z.heap "java/lang/String" "COMPACT_STRINGS" "Z" (.int G1)) (P5 : ¬ (G1 = (0 : Int32))) :
    MetFree l (⟨"java/lang/String", "isLatin1", "()Z"⟩ : MethodName) (head1 (Jvm.Cond.code (⟨"java/lang/String", "isLatin1", "()Z"⟩ : MethodName) jdk_42_method_154_code 1 (some .boolean) :: ws) ({ frames := 0, cells := 0, slots := 0, locals := 0 } : Room)) (fun a U => a = #[(.ref a1)] ∧ Z.Warmed39 U.vm ∧ U.heap = h0) (fun _ _ _ _ _ => True) (fun _ U o U' => ∃ v L, o = .returned v ∧ Q_il0 Z a1 G1 h0 n0 v U'.heap L ∧ FrameEnd U o U' L ({ frames := 0, cells := 0, slots := 0, locals := 0 } : Room).cells ({ frames := 0, cells := 0, slots := 0, locals := 0 } : Room).slots) := by
  refine MetFree.of_bodySF (plainFor_of_name own_pn_4) hisR ?_
  intro p e s m args below meth c s₁ Bd hml0 hP hK
  obtain ⟨rfl, hZ, hh⟩ := hP
  have hx := Bd.exec
  have hby := Bd.bytes
  have hml : c.maxLocals = 1 := hml0
  have hown : s.vm.findClass "java/lang/String" = some m.cls := findClass_of_methodNamed Bd.named
  have hnm := (name_of_methodNamed Bd.named Bd.method).1
  have W := own_W hw
  have X0 : Stand p l e ({ frames := 0, cells := 0, slots := 0, locals := 0 } : Room) s m #[(.ref a1)] below meth c s₁ [] 0 0 := Stand.of_body Bd
  have e0 : s₁.heap = h0 := by rw [← hh, Bd.state]; rfl
  have N0 := Fr.nil n0
  have pre0 : ∀ tq, Steps p.tables e below (s₁.setTop (mkF m 0 #[rv a1] [])) tq → Steps p.tables e below (s₁.setTop (entryFrame m #[(.ref a1)] 1)) tq := fun tq k => castTop (own_ef_il0 m a1) k
  obtain ⟨T127, X127, e127, st127⟩ := getS2 X0 hx hZ hown (host := "") (Or.inl (W 67 rfl)) Via.refl e0 (O2.ext X00.2) (g := (mkF m 0 #[rv a1] [])) rfl (hb hby own_d7_0)
  obtain ⟨T128, X128, e128, st128⟩ := getF X127 hx hZ hown (host := "") (Or.inl (W 29 rfl)) Via.refl e127 F2 (g := (mkF m 7 #[rv a1] [.ref a1])) rfl rfl (hb hby own_d7_7)
  obtain ⟨fs, hr, hrun, hended, hW, hsame⟩ := X128.leave (v := some (.int (0 : Int32))) (fun h => by rw [Bd.returns] at h; cases h)
  refine ⟨_, _, pre0 _ (?_), hrun, hended, _, _, rfl, ?_, ⟨_, rfl⟩, hW, hsame.mono (by decide) (by decide)⟩
  · show Steps _ _ _ (s₁.setTop (mkF m 0 #[rv a1] [])) _
    refine st127 _ ?_
    show Steps _ _ _ (T127.setTop (mkF m 3 #[rv a1] [.int G1])) _
    refine XS.ifNo X127.here hx rfl (hb hby own_d7_3) rfl ((if0 _ _).trans (feq (P5 : ¬ (G1 = (0 : Int32)))).1) ?_
    show Steps _ _ _ (T127.setTop (mkF m 6 _ [])) _
    refine XS.aloadN X127.here hx rfl (hb hby own_d7_6) rfl rfl ?_
    show Steps _ _ _ (T127.setTop (mkF m 7 _ [.ref a1])) _
    refine st128 _ ?_
    show Steps _ _ _ (T128.setTop (mkF m 10 #[rv a1] [.int 1])) _
    refine XS.ifYes X128.here hx rfl (pc0 := 10) (pc' := 17) rfl (hb hby own_d7_10) rfl ((if0 _ _).trans (feq ((by decide) : ¬ ((1 : Int32) = (0 : Int32)))).2) (by decide) (by decide) ?_
    show Steps _ _ _ (T128.setTop (mkF m 17 _ [])) _
    refine XS.iconst X128.here hx rfl (hb hby own_d7_17) ?_
    show Steps _ _ _ (T128.setTop (mkF m 18 _ [.int 0])) _
    exact retN X128 hx (t := .boolean) Bd.returns (by simp) (hb hby own_d7_18) hr
  · show Q_il0 Z a1 G1 h0 n0 _ T128.heap _
    rw [e128]
    exact ⟨rfl, N0, rfl⟩
theorem own_d11_0 : decode jdk_42_method_56_code 0 = .ok (.aload_n 0, 1) := by decide +kernel
theorem own_d11_1 : decode jdk_42_method_56_code 1 = .ok (.invokevirtual 492, 3) := by decide +kernel
theorem own_pd_12 : parseMethodDescriptor "()Z" = some ⟨[], some .boolean⟩ := by decide +kernel
theorem own_d11_4 : decode jdk_42_method_56_code 4 = .ok (.ifCond .eq 12, 3) := by decide +kernel
theorem own_d11_16 : decode jdk_42_method_56_code 16 = .ok (.aload_n 0, 1) := by decide +kernel
theorem own_d11_17 : decode jdk_42_method_56_code 17 = .ok (.getfield 9, 3) := by decide +kernel
theorem own_d11_20 : decode jdk_42_method_56_code 20 = .ok (.iload_n 1, 1) := by decide +kernel
theorem own_d11_21 : decode jdk_42_method_56_code 21 = .ok (.invokestatic 498, 3) := by decide +kernel
theorem own_d11_24 : decode jdk_42_method_56_code 24 = .ok (.ireturn, 1) := by decide +kernel
theorem own_ef_sch (m : MethodId) (x0 : Addr) (x1 : Int32) : entryFrame m #[(.ref x0), (.int x1)] 2 = mkF m 0 #[rv x0, iv x1] [] := by first | (simp [entryFrame, mkF, argsToLocals, Value.category]; done) | rfl
def Q_sch (Z : State) (a1 t1 : Addr) (i1 i2 i3 : Int32) (kb : ClassId) (N2 n1 c1 G1 : Int32) (vs : List Value) (G3 : Value) (h0 : Heap) (n0 : Nat) (v : Option Value) (h : Heap) (L : List Loc) : Prop := v = some (.int c1) ∧ Fr n0 L ∧ h = h0
set_option maxRecDepth 65536 in
set_option maxHeartbeats 40000000 in
theorem rm_sch (l : Launch) (Z : State) (a0 : Array Value) (hw : ∀ d ∈ tables_1, d.before a0 Z = true) (ws : List Jvm.Cond) (a1 t1 : Addr) (i1 i2 i3 : Int32) (kb : ClassId) (N2 n1 c1 G1 : Int32) (vs : List Value) (G3 : Value) (h0 : Heap) (n0 : Nat) (Z0 : n0 ≤ h0.size) (X00 : Old Z n0 h0) (E1 : Exa Z h0 a1 "java/lang/String") (F1 : Fld Z h0 a1 "java/lang/String" "value" "[B" (.ref t1)) (F2 : Fld Z h0 a1 "java/lang/String" "coder" "B" (.int (1 : Int32))) (V1 : Arv Z h0 t1 kb .byte N2 vs (.int 0)) (hN : N2 >>> ((1 : Int32) &&& 31) = n1) (hi : ¬ i1 < 0) (hn : i1 < n1) (e2 : i1 <<< ((1 : Int32) &&& 31) = i2) (e3 : i2 + 1 = i3) (b2 : ¬ i2 < 0 ∧ i2 < N2) (b3 : ¬ i3 < 0 ∧ i3 < N2) (v2 : vs.getD i2.toNatClampNeg (.int 0) = .int (StrChars.lo8 c1)) (v3 : vs.getD i3.toNatClampNeg (.int 0) = .int (StrChars.hi8 c1)) (hc : ¬ c1 < 0 ∧ ¬ (65535 : Int32) < c1) (O2 : Sta Z Z.heap "java/lang/String" "COMPACT_STRINGS" "Z" (.int G1)) (P5 : ¬ (G1 = (0 : Int32))) (O4 : Sta Z Z.heap "jdk/internal/util/Preconditions" "SIOOBE_FORMATTER" "Ljava/util/function/BiFunction;" G3) (rG3 : G3.isRef = true) (OA : Sta Z Z.heap "java/lang/StringUTF16" "$assertionsDisabled" "Z" (.int (1 : Int32))) (OH : Sta Z Z.heap "java/lang/StringUTF16" "HI_BYTE_SHIFT" "I" (.int (0 : Int32))) (OL : Sta Z Z.heap "java/lang/StringUTF16" "LO_BYTE_SHIFT" "I" (.int (8 : Int32))) :
    MetFree l (⟨"java/lang/String", "charAt", "(I)C"⟩ : MethodName) (head1 (Jvm.Cond.code (⟨"java/lang/String", "charAt", "(I)C"⟩ : MethodName) jdk_42_method_56_code 2 (some .char) :: ws) ({ frames := 4, cells := 0, slots := 0, locals := 73 } : Room)) (fun a U => a = #[(.ref a1), (.int i1)] ∧ Z.Warmed39 U.vm ∧ U.heap = h0) (fun _ _ _ _ _ => True) (fun _ U o U' => ∃ v L, o = .returned v ∧ Q_sch Z a1 t1 i1 i2 i3 kb N2 n1 c1 G1 vs G3 h0 n0 v U'.heap L ∧ FrameEnd U o U' L ({ frames := 4, cells := 0, slots := 0, locals := 73 } : Room).cells ({ frames := 4, cells := 0, slots := 0, locals := 73 } : Room).slots) := by
  refine MetFree.of_bodySF (plainFor_of_name own_pn_4) hisR ?_
  intro p e s m args below meth c s₁ Bd hml0 hP hK
  obtain ⟨rfl, hZ, hh⟩ := hP
  have hx := Bd.exec
  have hby := Bd.bytes
  have hml : c.maxLocals = 2 := hml0
  have hown : s.vm.findClass "java/lang/String" = some m.cls := findClass_of_methodNamed Bd.named
  have hnm := (name_of_methodNamed Bd.named Bd.method).1
  have W := own_W hw
  have X0 : Stand p l e ({ frames := 4, cells := 0, slots := 0, locals := 73 } : Room) s m #[(.ref a1), (.int i1)] below meth c s₁ [] 0 0 := Stand.of_body Bd
  have e0 : s₁.heap = h0 := by rw [← hh, Bd.state]; rfl
  have N0 := Fr.nil n0
  have pre0 : ∀ tq, Steps p.tables e below (s₁.setTop (mkF m 0 #[rv a1, iv i1] [])) tq → Steps p.tables e below (s₁.setTop (entryFrame m #[(.ref a1), (.int i1)] 2)) tq := fun tq k => castTop (own_ef_sch m a1 i1) k
  obtain ⟨cq129, kq129, q129a, q129b, q129c⟩ := isOf hZ e0 E1
  obtain ⟨_, _, ⟨T129, L129, k129, n129⟩, -, X129, ⟨Lc129, hQ129, l129, y129, z129⟩, st129⟩ := X0.virtualBack hx (y := (⟨"java/lang/String", "isLatin1", "()Z"⟩ : MethodName)) (z := (⟨"java/lang/String", "isLatin1", "()Z"⟩ : MethodName)) hown (mvT hZ (W 81 rfl)) (mvT hZ (W 82 rfl)) (notFace_of_selects (args := #[]) (mvT hZ (W 84 rfl))) (mvT hZ (W 84 rfl)) (mvT hZ (W 83 rfl)) (by decide) (backOf (W := 0) (rm_il0 l Z a0 hw [] a1 G1 h0 n0 Z0 X00 F2 O2 P5) hZ (W 85 rfl) (W 11 rfl) (by decide) (by decide)) q129a q129c (g := (mkF m 1 #[rv a1, iv i1] [.ref a1])) rfl (by rw [hml]; rfl) (Steps.refl _) (argsL := []) (rest := []) (lenOf own_pd_12 rfl) rfl own_wt (hb hby own_d11_1) (fun _ _ => ⟨rfl, e0, (by decide : 0 + 0 ≤ _), (by decide : 0 + 0 ≤ _)⟩)
  dsimp only [Pt.U, Pt.locs, Pt.cells, Pt.slots] at X129 l129 y129 z129 st129 hQ129
  subst l129 y129 z129
  obtain ⟨rfl, Nq129, e129⟩ := hQ129
  have N129 := Fr.app N0 Nq129
  obtain ⟨T130, X130, e130, st130⟩ := getF X129 hx hZ hown (host := "") (Or.inl (W 28 rfl)) Via.refl e129 F1 (g := (mkF m 17 #[rv a1, iv i1] [.ref a1])) rfl rfl (hb hby own_d11_17)
  obtain ⟨_, _, ⟨T131, L131, k131, n131⟩, -, X131, ⟨Lc131, hQ131, l131, y131, z131⟩, st131⟩ := Jvm.LawKit.callS X130 hx (y := (⟨"java/lang/StringUTF16", "charAt", "([BI)C"⟩ : MethodName)) hown (mvT hZ (W 169 rfl)) (mvT hZ (W 170 rfl)) (mvT hZ (W 91 rfl)) (mvT hZ (W 171 rfl)) (by decide) (backOf (W := 0) (rm_uch l Z a0 hw [] t1 i1 i2 i3 kb N2 n1 c1 vs G3 h0 n0 Z0 X00 V1 hN hi hn e2 e3 b2 b3 v2 v3 hc O4 rG3 OA OH OL) hZ (W 171 rfl) (W 91 rfl) (by decide) (by decide)) (g := (mkF m 21 #[rv a1, iv i1] [.int i1, .ref t1])) rfl (by rw [hml]; rfl) (argsL := [.ref t1, .int i1]) (rest := []) (lenOf own_pd_18 rfl) rfl own_wt (hb hby own_d11_21) (fun _ _ => ⟨rfl, e130, (by decide : 0 + 0 ≤ _), (by decide : 0 + 0 ≤ _)⟩)
  dsimp only [Pt.U, Pt.locs, Pt.cells, Pt.slots] at X131 l131 y131 z131 st131 hQ131
  subst l131 y131 z131
  obtain ⟨rfl, Nq131, e131⟩ := hQ131
  have N131 := Fr.app N129 Nq131
  obtain ⟨fs, hr, hrun, hended, hW, hsame⟩ := X131.leave (v := some (.int (nar .char c1))) (fun h => by rw [Bd.returns] at h; cases h)
  refine ⟨_, _, pre0 _ (?_), hrun, hended, _, _, rfl, ?_, ⟨_, rfl⟩, hW, hsame.mono (by decide) (by decide)⟩
  · show Steps _ _ _ (s₁.setTop (mkF m 0 #[rv a1, iv i1] [])) _
    refine XS.aloadN X0.here hx rfl (hb hby own_d11_0) rfl rfl ?_
    show Steps _ _ _ (s₁.setTop (mkF m 1 _ [.ref a1])) _
    refine st129.trans ?_
    show Steps _ _ _ (T129.setTop (mkF m 4 #[rv a1, iv i1] [.int 0])) _
    refine XS.ifYes X129.here hx rfl (pc0 := 4) (pc' := 16) rfl (hb hby own_d11_4) rfl ((if0 _ _).trans (teq (rfl : (0 : Int32) = (0 : Int32))).1) (by decide) (by decide) ?_
    show Steps _ _ _ (T129.setTop (mkF m 16 _ [])) _
    refine XS.aloadN X129.here hx rfl (hb hby own_d11_16) rfl rfl ?_
    show Steps _ _ _ (T129.setTop (mkF m 17 _ [.ref a1])) _
    refine st130 _ ?_
    show Steps _ _ _ (T130.setTop (mkF m 20 #[rv a1, iv i1] [.ref t1])) _
    refine XS.iloadN X130.here hx rfl (hb hby own_d11_20) rfl ?_
    show Steps _ _ _ (T130.setTop (mkF m 21 _ [.int i1, .ref t1])) _
    refine st131 _ ?_
    show Steps _ _ _ (T131.setTop (mkF m 24 #[rv a1, iv i1] [.int c1])) _
    exact retN X131 hx (t := .char) Bd.returns (by simp) (hb hby own_d11_24) hr
  · show Q_sch Z a1 t1 i1 i2 i3 kb N2 n1 c1 G1 vs G3 h0 n0 _ T131.heap _
    rw [e131]
    exact ⟨by rw [own_narc c1 hc.1 hc.2], N131, rfl⟩
set_option maxRecDepth 65536 in
theorem own_chS {p : Program} {l : Launch} {e : Env} {R : Room} {s : State} {args : Array Value} {below : List Frame} {len W : Nat} {Z : State} {a0 : Array Value} {h : Heap} (hZ : Z.Warmed39 s.vm) (hw : ∀ d ∈ tables_1, d.before a0 Z = true)
    {x : Addr} {k i n0 : Nat} {j : Int32} {cs : List Int32} (Z0 : n0 ≤ h.size) (X00 : Old Z n0 h) (F : StrB Z h k x cs) (hi : i < cs.length) (hj : j = Int32.ofNat i) {G1 : Int32} {G3 : Value} (O2 : Sta Z Z.heap "java/lang/String" "COMPACT_STRINGS" "Z" (.int G1)) (P5 : ¬ (G1 = (0 : Int32))) (O4 : Sta Z Z.heap "jdk/internal/util/Preconditions" "SIOOBE_FORMATTER" "Ljava/util/function/BiFunction;" G3) (rG3 : G3.isRef = true) (OA : Sta Z Z.heap "java/lang/StringUTF16" "$assertionsDisabled" "Z" (.int (1 : Int32))) (OH : Sta Z Z.heap "java/lang/StringUTF16" "HI_BYTE_SHIFT" "I" (.int (0 : Int32))) (OL : Sta Z Z.heap "java/lang/StringUTF16" "LO_BYTE_SHIFT" "I" (.int (8 : Int32))) (hfr : 5 ≤ R.frames) (hlo : W + (2 + 11) + 73 ≤ R.locals) :
    Back l R p e below s args (⟨"java/lang/String", "charAt", "(I)C"⟩ : MethodName) len W (fun P a => a = #[.ref x, .int j] ∧ P.U.heap = h ∧ P.cells + 0 ≤ R.cells ∧ P.slots + 0 ≤ R.slots)
      (fun P _ v B => ∃ L, (v = some (.int (cs.getD i 0)) ∧ Fr n0 L ∧ B.U.heap = h) ∧ B.locs = P.locs ++ L ∧ B.cells = P.cells + 0 ∧ B.slots = P.slots + 0) := by
  obtain ⟨_, E1, t, kb, cd, N2, vs, _, V1, C1, K1, hc, hb, hl⟩ := F
  have hcb : ¬ cs.getD i 0 < 0 ∧ ¬ (65535 : Int32) < cs.getD i 0 := by
    have e : cs.getD i 0 = cs[i] := by simp [List.getD_eq_getElem?_getD, hi]
    rw [e]; exact hb _ (List.getElem_mem hi)
  have hc' := hc
  rcases hc with ⟨rfl, hN, hv, hle⟩ | ⟨rfl, rfl, rfl, hgt⟩
  · have hch : ∀ d ∈ StrChars.Road.wordsChN, d.before a0 Z = true := fun d hd => hw d ((by decide +kernel : ∀ d ∈ StrChars.Road.wordsChN, d ∈ tables_1) d hd)
    refine Back.mono (StrChars.Road.chN (W := W) hZ hch (kI := 4) (own_W hw 10 rfl) E1 V1 C1 K1 hc' hb (O2.ext X00.2) P5 (O4.ext X00.2) rG3 hl hi hj (by omega) (by omega)) (fun P a hp => hp) (fun P a v B hp hq => ?_)
    obtain ⟨L, ⟨q1, q2, q3⟩, q4⟩ := hq
    exact ⟨L, ⟨q1, by rw [q2]; exact Fr.nil n0, q3⟩, q4⟩
  · subst hj
    refine backOf (W := W) (rm_sch l Z a0 hw [] x t (Int32.ofNat i) (Int32.ofNat (2 * i)) (Int32.ofNat (2 * i + 1)) kb (Int32.ofNat (2 * cs.length)) (Int32.ofNat cs.length) (cs.getD i 0) G1 (StrChars.Road.wideBytes cs) G3 h n0 Z0 X00 E1 V1 C1 K1 (StrChars.shr1 (by omega)) (own_nn (by omega)) ((own_ltI (by omega) (by omega)).mpr hi) (own_ofNat2 (by omega)) (own_one _) ⟨own_nn (by omega), (own_ltI (by omega) (by omega)).mpr (by omega)⟩ ⟨own_nn (by omega), (own_ltI (by omega) (by omega)).mpr (by omega)⟩ (by rw [own_n32 (by omega)]; exact StrChars.Road.wide_lo _ cs i hi) (by rw [own_n32 (by omega)]; exact StrChars.Road.wide_hi _ cs i hi) hcb O2 P5 O4 rG3 OA OH OL) hZ (own_W hw 122 rfl) (own_W hw 11 rfl) hfr hlo
theorem own_d5_8 : decode jdk_42_method_149_code 8 = .ok (.aload_n 0, 1) := by decide +kernel
theorem own_d5_9 : decode jdk_42_method_149_code 9 = .ok (.ldc 7, 2) := by decide +kernel
theorem own_d5_11 : decode jdk_42_method_149_code 11 = .ok (.getfield 9, 3) := by decide +kernel
theorem own_d5_14 : decode jdk_42_method_149_code 14 = .ok (.putfield 9, 3) := by decide +kernel
theorem own_d5_17 : decode jdk_42_method_149_code 17 = .ok (.aload_n 0, 1) := by decide +kernel
theorem own_d5_18 : decode jdk_42_method_149_code 18 = .ok (.ldc 7, 2) := by decide +kernel
theorem own_d5_20 : decode jdk_42_method_149_code 20 = .ok (.getfield 15, 3) := by decide +kernel
theorem own_d5_23 : decode jdk_42_method_149_code 23 = .ok (.putfield 15, 3) := by decide +kernel
theorem own_d5_26 : decode jdk_42_method_149_code 26 = .ok (.return_, 1) := by decide +kernel
theorem own_ef_sn4_0 (m : MethodId) (x0 : Addr) (x1 : Addr) (x2 : Int32) (x3 : Int32) : entryFrame m #[(.ref x0), (.ref x1), (.int x2), (.int x3), .null] 6 = mkF m 0 #[rv x0, rv x1, iv x2, iv x3, .val .null, uu] [] := by first | (simp [entryFrame, mkF, argsToLocals, Value.category]; done) | rfl
def Q_sn4_0 (Z : State) (a1 b1 : Addr) (h0 : Heap) (n0 : Nat) (v : Option Value) (h : Heap) (L : List Loc) : Prop := v = none ∧ Fr n0 L ∧ Keep h0 h [a1] ∧ StrB Z h h.size a1 []
set_option maxRecDepth 65536 in
set_option maxHeartbeats 40000000 in
theorem rm_sn4_0 (l : Launch) (Z : State) (a0 : Array Value) (hw : ∀ d ∈ tables_1, d.before a0 Z = true) (ws : List Jvm.Cond) (a1 b1 : Addr) (h0 : Heap) (n0 : Nat) (Z0 : n0 ≤ h0.size) (E1 : Exa Z h0 a1 "java/lang/String") (g1 : n0 ≤ a1) (F1 : Fld Z h0 a1 "java/lang/String" "value" "[B" .null) (F2 : Fld Z h0 a1 "java/lang/String" "coder" "B" (.int (0 : Int32))) :
    MetFree l (⟨"java/lang/String", "<init>", "([CIILjava/lang/Void;)V"⟩ : MethodName) (head1 (Jvm.Cond.code (⟨"java/lang/String", "<init>", "([CIILjava/lang/Void;)V"⟩ : MethodName) jdk_42_method_149_code 6 none :: ws) ({ frames := 1, cells := 4, slots := 8, locals := 12 } : Room)) (fun a U => a = #[(.ref a1), (.ref b1), (.int (0 : Int32)), (.int (0 : Int32)), .null] ∧ Z.Warmed39 U.vm ∧ U.heap = h0 ∧ own_J Z own_EL [a1] h0 U.vm) (fun _ _ _ _ _ => True) (fun _ U o U' => ∃ v L, o = .returned v ∧ Q_sn4_0 Z a1 b1 h0 n0 v U'.heap L ∧ CHr Z own_EL U.vm U.heap U'.vm U'.heap ∧ ReturnedEndW U o U' L ({ frames := 1, cells := 4, slots := 8, locals := 12 } : Room).cells ({ frames := 1, cells := 4, slots := 8, locals := 12 } : Room).slots) := by
  refine MetFree.of_bodySF (plainFor_of_name own_pn_4) hisR ?_
  intro p e s m args below meth c s₁ Bd hml0 hP hK
  obtain ⟨rfl, hZ, hh, hJ⟩ := hP
  have hx := Bd.exec
  have hby := Bd.bytes
  have hml : c.maxLocals = 6 := hml0
  have hown : s.vm.findClass "java/lang/String" = some m.cls := findClass_of_methodNamed Bd.named
  have hnm := (name_of_methodNamed Bd.named Bd.method).1
  have W := own_W hw
  have X0 : Stand p l e ({ frames := 1, cells := 4, slots := 8, locals := 12 } : Room) s m #[(.ref a1), (.ref b1), (.int (0 : Int32)), (.int (0 : Int32)), .null] below meth c s₁ [] 0 0 := Stand.of_body Bd
  have e0 : s₁.heap = h0 := by rw [← hh, Bd.state]; rfl
  have N0 := Fr.nil n0
  have pre0 : ∀ tq, Steps p.tables e below (s₁.setTop (mkF m 0 #[rv a1, rv b1, iv 0, iv 0, .val .null, uu] [])) tq → Steps p.tables e below (s₁.setTop (entryFrame m #[(.ref a1), (.ref b1), (.int (0 : Int32)), (.int (0 : Int32)), .null] 6)) tq := fun tq k => castTop (own_ef_sn4_0 m a1 b1 (0 : Int32) (0 : Int32)) k
  have hEL := own_EW hw
  have wS : ∀ d ∈ Bundle.stringAtoms, d.before a0 Z = true := fun d hd => hw d ((by decide +kernel : ∀ d ∈ Bundle.stringAtoms, d ∈ tables_1) d hd)
  have hS0 : s.Since s.vm 0 := (State.WarmedH.refl s).since 0
  have hk0 : 0 ≤ h0.size := Nat.zero_le _
  have CH0 : CHv Z own_EL s.vm h0 := hJ.1
  have CR0 : CHr Z own_EL s.vm h0 s.vm h0 := CHr.refl CH0
  have X0 : Stand p l e ({ frames := 1, cells := 4, slots := 8, locals := 12 } : Room) (s.setVm s.vm) m #[(.ref a1), (.ref b1), (.int (0 : Int32)), (.int (0 : Int32)), .null] below meth c s₁ [] 0 0 := X0
  have sf_a1 : Safe Z own_EL s.vm h0 a1 := hJ.2 a1 (by simp)
  have K132 : Keep h0 h0 [a1] := Keep.refl h0 [a1]
  obtain ⟨T133, X133, e133, st133⟩ := initO X0 hx hZ hown (W 19 rfl) (W 20 rfl) (W 21 rfl) e0 (g := (mkF m 1 #[rv a1, rv b1, iv 0, iv 0, .val .null, uu] [.ref a1])) rfl (by rw [hml]; rfl) rfl (hb hby own_d5_1) (by decide) (W := 0) own_wt (by decide)
  obtain ⟨la134, T134, h134, kx134, lb134, lk134, X134, e134, E134, hS134, hk134, hZ134, hown134, lE134, lC134, lV134, lA134, l1134, l2134, A134, lL134, lsf134, st134⟩ := ldcCH (s := s) X133 hx hZ hown (W 22 rfl) wS e133 hS0 hk0 hEL (by simp) CH0 (vs := []) (z := (0 : Int32)) ⟨by decide, by rfl⟩ (by decide) rfl (g := (mkF m 9 #[rv a1, rv b1, iv 0, iv 0, .val .null, uu] [.ref a1])) rfl (hb hby own_d5_9) (n := 0) (by decide) (by decide) (by decide) (by decide)
  have CR135 := CR0.trans A134
  have Z136 : n0 ≤ h134.size := Nat.le_trans Z0 E134.1
  have K137 : Keep h0 h134 [a1] := K132.ext E134
  have f138 := (A134.safe E1.lt sf_a1)
  have hna134 := lsf134 a1 f138
  obtain ⟨T139, X139, e139, st139⟩ := getF X134 hx hZ134 hown134 (host := "") (Or.inl (W 28 rfl)) Via.refl e134 lV134 (g := (mkF m 11 #[rv a1, rv b1, iv 0, iv 0, .val .null, uu] [.ref la134, .ref a1])) rfl rfl (hb hby own_d5_11)
  have f141 := (F1.ext E134)
  have f142 := (E1.ext E134)
  obtain ⟨T140, h140, X140, e140, W140, st140⟩ := putF X139 hx hZ134 hown134 (host := "") (Or.inl (W 28 rfl)) Via.refl e139 f141 f142 (Or.inr ⟨(W 24 rfl), rfl, hnm⟩) (W 10 rfl) (ty := (.array .byte)) (by decide) rfl rfl (g := (mkF m 14 #[rv a1, rv b1, iv 0, iv 0, .val .null, uu] [.ref lb134, .ref a1])) rfl rfl (hb hby own_d5_14)
  have N140 := Fr.snoc X140 N0 g1
  have Fw140 := f141.same W140
  have CR143 := CR135.trans (CHr.wr W140 f138 CR135.1)
  have Z144 : n0 ≤ h140.size := Nat.le_trans Z136 (Keep.of_wr W140).1
  have K145 : Keep h0 h140 [a1] := K137.wr W140 (Or.inl (List.mem_of_getElem? (i := 0) rfl))
  have hk146 := Nat.le_trans hk134 (Keep.of_wr W140).1
  obtain ⟨la147, T147, h147, kx147, lb147, lk147, X147, e147, E147, hS147, hk147, hZ147, hown147, lE147, lC147, lV147, lA147, l1147, l2147, A147, lL147, lsf147, st147⟩ := ldcCH (s := s) X140 hx hZ134 hown134 (W 22 rfl) wS e140 hS134 hk146 hEL (by simp) CR143.1 (vs := []) (z := (0 : Int32)) ⟨by decide, by rfl⟩ (by decide) rfl (g := (mkF m 18 #[rv a1, rv b1, iv 0, iv 0, .val .null, uu] [.ref a1])) rfl (hb hby own_d5_18) (n := 0) (by decide) (by decide) (by decide) (by decide)
  have CR148 := CR143.trans A147
  have Z149 : n0 ≤ h147.size := Nat.le_trans Z144 E147.1
  have K150 : Keep h0 h147 [a1] := K145.ext E147
  have f151 := (Nat.lt_of_lt_of_le E1.lt E134.1)
  have f152 := (Nat.lt_of_lt_of_le f151 (Keep.of_wr W140).1)
  have f153 := (A147.safe f152 ((CHr.wr W140 f138 CR135.1).safe f151 f138))
  have hna147 := lsf147 a1 f153
  obtain ⟨T154, X154, e154, st154⟩ := getF X147 hx hZ147 hown147 (host := "") (Or.inl (W 29 rfl)) Via.refl e147 lC147 (g := (mkF m 20 #[rv a1, rv b1, iv 0, iv 0, .val .null, uu] [.ref la147, .ref a1])) rfl rfl (hb hby own_d5_20)
  have f156 := (((F2.ext E134).other W140 (Or.inr (slot_ne (Or.inr (W 25 rfl)) (Or.inr (W 24 rfl)) (by decide) (t := .byte) (t' := (.array .byte)) (by decide) (by decide)))).ext E147)
  have f157 := ((f142.wr W140).ext E147)
  obtain ⟨T155, h155, X155, e155, W155, st155⟩ := putFN X154 hx hZ147 hown147 (W 29 rfl) Via.refl e154 f156 f157 (Or.inr ⟨(W 25 rfl), rfl, hnm⟩) (W 10 rfl) (ty := .byte) (v' := (.int (0 : Int32))) (by decide) rfl rfl (g := (mkF m 23 #[rv a1, rv b1, iv 0, iv 0, .val .null, uu] [.int 0, .ref a1])) rfl rfl (hb hby own_d5_23)
  have N155 := Fr.snoc X155 N140 g1
  have Fw155 := f156.same W155
  have CR158 := CR148.trans (CHr.wr W155 f153 CR148.1)
  have Z159 : n0 ≤ h155.size := Nat.le_trans Z149 (Keep.of_wr W155).1
  have K160 : Keep h0 h155 [a1] := K150.wr W155 (Or.inl (List.mem_of_getElem? (i := 0) rfl))
  have hk161 := Nat.le_trans hk147 (Keep.of_wr W155).1
  have f162 := (f157.wr W155)
  have f163 := (((lA134.other W140 (Ne.symm hna134.2)).ext E147).other W155 (Ne.symm hna134.2))
  have f164 := ((Fw140.ext E147).other W155 (Or.inr (slot_ne (Or.inr (W 24 rfl)) (Or.inr (W 25 rfl)) (by decide) (t := (.array .byte)) (t' := .byte) (by decide) (by decide))))
  have hS : StrB Z h155 h155.size a1 [] := ⟨f162.lt, f162, lb134, lk134, 0, 0, [], f163.lt, f164, Fw155, f163, Or.inl ⟨rfl, rfl, rfl, fun c hc => by cases hc⟩, (fun c hc => by cases hc), (by decide)⟩
  have CRe := CR158.trans (CHv.at X155 hZ147 hEL CR158.1)
  obtain ⟨fs, hr, hrun, hended, hRW⟩ := X155.leaveW hS147 (by rw [e155]; exact hk161) (v := none) (fun _ => rfl)
  refine ⟨_, _, pre0 _ (?_), hrun, hended, _, _, rfl, ?_, (by rw [hh]; show CHr Z _ s.vm h0 T155.vm T155.heap; rw [e155]; exact CRe), hRW.1, hRW.2.1, hRW.2.2.1, hRW.2.2.2.mono (by decide) (by decide)⟩
  · show Steps _ _ _ (s₁.setTop (mkF m 0 #[rv a1, rv b1, iv 0, iv 0, .val .null, uu] [])) _
    refine XS.aloadN X0.here hx rfl (hb hby own_d5_0) rfl rfl ?_
    show Steps _ _ _ (s₁.setTop (mkF m 1 _ [.ref a1])) _
    refine st133 _ ?_
    show Steps _ _ _ (T133.setTop (mkF m 4 #[rv a1, rv b1, iv 0, iv 0, .val .null, uu] [])) _
    refine XS.iloadN X133.here hx rfl (hb hby own_d5_4) rfl ?_
    show Steps _ _ _ (T133.setTop (mkF m 5 _ [.int 0])) _
    refine XS.ifNo X133.here hx rfl (hb hby own_d5_5) rfl ((if0 _ _).trans (teq (rfl : (0 : Int32) = (0 : Int32))).2) ?_
    show Steps _ _ _ (T133.setTop (mkF m 8 _ [])) _
    refine XS.aloadN X133.here hx rfl (hb hby own_d5_8) rfl rfl ?_
    show Steps _ _ _ (T133.setTop (mkF m 9 _ [.ref a1])) _
    refine st134 _ ?_
    show Steps _ _ _ (T134.setTop (mkF m 11 #[rv a1, rv b1, iv 0, iv 0, .val .null, uu] [.ref la134, .ref a1])) _
    refine st139 _ ?_
    show Steps _ _ _ (T139.setTop (mkF m 14 #[rv a1, rv b1, iv 0, iv 0, .val .null, uu] [.ref lb134, .ref a1])) _
    refine st140 _ ?_
    show Steps _ _ _ (T140.setTop (mkF m 17 #[rv a1, rv b1, iv 0, iv 0, .val .null, uu] [])) _
    refine XS.aloadN X140.here hx rfl (hb hby own_d5_17) rfl rfl ?_
    show Steps _ _ _ (T140.setTop (mkF m 18 _ [.ref a1])) _
    refine st147 _ ?_
    show Steps _ _ _ (T147.setTop (mkF m 20 #[rv a1, rv b1, iv 0, iv 0, .val .null, uu] [.ref la147, .ref a1])) _
    refine st154 _ ?_
    show Steps _ _ _ (T154.setTop (mkF m 23 #[rv a1, rv b1, iv 0, iv 0, .val .null, uu] [.int 0, .ref a1])) _
    refine st155 _ ?_
    show Steps _ _ _ (T155.setTop (mkF m 26 #[rv a1, rv b1, iv 0, iv 0, .val .null, uu] [])) _
    exact X155.returnOut hx Bd.returns (hb hby own_d5_26) hr
  · show Q_sn4_0 Z a1 b1 h0 n0 _ T155.heap _
    rw [e155]
    exact ⟨rfl, N155, K160, hS⟩
theorem own_ef_snew0 (m : MethodId) (x0 : Addr) (x1 : Addr) : entryFrame m #[(.ref x0), (.ref x1)] 2 = mkF m 0 #[rv x0, rv x1] [] := by first | (simp [entryFrame, mkF, argsToLocals, Value.category]; done) | rfl
def Q_snew0 (Z : State) (a1 b1 : Addr) (kc : ClassId) (h0 : Heap) (n0 : Nat) (v : Option Value) (h : Heap) (L : List Loc) : Prop := v = none ∧ Fr n0 L ∧ Keep h0 h [a1] ∧ StrB Z h h.size a1 []
set_option maxRecDepth 65536 in
set_option maxHeartbeats 40000000 in
theorem rm_snew0 (l : Launch) (Z : State) (a0 : Array Value) (hw : ∀ d ∈ tables_1, d.before a0 Z = true) (ws : List Jvm.Cond) (a1 b1 : Addr) (kc : ClassId) (h0 : Heap) (n0 : Nat) (Z0 : n0 ≤ h0.size) (V1 : Arv Z h0 b1 kc .char (0 : Int32) [] (.int 0)) (E1 : Exa Z h0 a1 "java/lang/String") (g1 : n0 ≤ a1) (F1 : Fld Z h0 a1 "java/lang/String" "value" "[B" .null) (F2 : Fld Z h0 a1 "java/lang/String" "coder" "B" (.int (0 : Int32))) :
    MetFree l (⟨"java/lang/String", "<init>", "([C)V"⟩ : MethodName) (head1 (Jvm.Cond.code (⟨"java/lang/String", "<init>", "([C)V"⟩ : MethodName) jdk_42_method_3_code 2 none :: ws) ({ frames := 2, cells := 4, slots := 8, locals := 32 } : Room)) (fun a U => a = #[(.ref a1), (.ref b1)] ∧ Z.Warmed39 U.vm ∧ U.heap = h0 ∧ own_J Z own_EL [a1] h0 U.vm) (fun _ _ _ _ _ => True) (fun _ U o U' => ∃ v L, o = .returned v ∧ Q_snew0 Z a1 b1 kc h0 n0 v U'.heap L ∧ CHr Z own_EL U.vm U.heap U'.vm U'.heap ∧ ReturnedEndW U o U' L ({ frames := 2, cells := 4, slots := 8, locals := 32 } : Room).cells ({ frames := 2, cells := 4, slots := 8, locals := 32 } : Room).slots) := by
  refine MetFree.of_bodySF (plainFor_of_name own_pn_4) hisR ?_
  intro p e s m args below meth c s₁ Bd hml0 hP hK
  obtain ⟨rfl, hZ, hh, hJ⟩ := hP
  have hx := Bd.exec
  have hby := Bd.bytes
  have hml : c.maxLocals = 2 := hml0
  have hown : s.vm.findClass "java/lang/String" = some m.cls := findClass_of_methodNamed Bd.named
  have hnm := (name_of_methodNamed Bd.named Bd.method).1
  have W := own_W hw
  have X0 : Stand p l e ({ frames := 2, cells := 4, slots := 8, locals := 32 } : Room) s m #[(.ref a1), (.ref b1)] below meth c s₁ [] 0 0 := Stand.of_body Bd
  have e0 : s₁.heap = h0 := by rw [← hh, Bd.state]; rfl
  have N0 := Fr.nil n0
  have pre0 : ∀ tq, Steps p.tables e below (s₁.setTop (mkF m 0 #[rv a1, rv b1] [])) tq → Steps p.tables e below (s₁.setTop (entryFrame m #[(.ref a1), (.ref b1)] 2)) tq := fun tq k => castTop (own_ef_snew0 m a1 b1) k
  have hEL := own_EW hw
  have wS : ∀ d ∈ Bundle.stringAtoms, d.before a0 Z = true := fun d hd => hw d ((by decide +kernel : ∀ d ∈ Bundle.stringAtoms, d ∈ tables_1) d hd)
  have hS0 : s.Since s.vm 0 := (State.WarmedH.refl s).since 0
  have hk0 : 0 ≤ h0.size := Nat.zero_le _
  have CH0 : CHv Z own_EL s.vm h0 := hJ.1
  have CR0 : CHr Z own_EL s.vm h0 s.vm h0 := CHr.refl CH0
  have X0 : Stand p l e ({ frames := 2, cells := 4, slots := 8, locals := 32 } : Room) (s.setVm s.vm) m #[(.ref a1), (.ref b1)] below meth c s₁ [] 0 0 := X0
  have sf_a1 : Safe Z own_EL s.vm h0 a1 := hJ.2 a1 (by simp)
  have K165 : Keep h0 h0 [a1] := Keep.refl h0 [a1]
  obtain ⟨cl166, Ar166, aq166, aS166, aN166, aH166, aG166⟩ := id V1
  obtain ⟨_, _, ⟨T167, L167, k167, n167⟩, -, Xw167, hSw167, hgw167, ⟨Lc167, hQ167, l167, y167, z167, A167⟩, st167⟩ := X0.specialBackS hx (y := (⟨"java/lang/String", "<init>", "([CIILjava/lang/Void;)V"⟩ : MethodName)) rfl hown (mvT hZ (W 15 rfl)) (mvT hZ (W 16 rfl)) (mvT hZ (W 18 rfl)) (by decide) (own_backX (s := s) (W := 0) (rm_sn4_0 l Z a0 hw [] a1 b1 h0 n0 Z0 E1 g1 F1 F2) hZ (W 18 rfl) (W 11 rfl) (by decide) (by decide) hEL (xs := [a1]) ⟨CH0, (allS sf_a1 all0)⟩ (allS E1.lt all0)) (g := (mkF m 6 #[rv a1, rv b1] [.null, .int 0, .int 0, .ref b1, .ref a1])) rfl (by rw [hml]; rfl) (Steps.refl _) (a := a1) (argsL := [.ref b1, .int 0, .int 0, .null]) (rest := []) (lenOf own_pd_2 rfl) rfl own_wt (hb hby own_d9_6) (fun _ _ => ⟨rfl, e0, (by decide : 0 + 4 ≤ _), (by decide : 0 + 8 ≤ _)⟩)
  dsimp only [Pt.U, Pt.locs, Pt.cells, Pt.slots] at Xw167 hSw167 hgw167 l167 y167 z167 A167 st167 hQ167
  subst l167 y167 z167
  obtain ⟨X167, hS167, hZ167, hown167⟩ := rebS (s := s) (T := T167) hS0 hk0 Xw167 hSw167 (by rw [← e0]; exact hgw167) hZ hown
  have hk167 : T167.heap.size ≤ T167.heap.size := Nat.le_refl _
  obtain ⟨rfl, Nq167, K167, hS⟩ := hQ167
  have N167 := Fr.app N0 Nq167
  have CR168 := CR0.trans A167
  have Z169 : n0 ≤ T167.heap.size := Nat.le_trans Z0 K167.1
  have K170 : Keep h0 T167.heap [a1] := K165.trans K167 (allS (Or.inl (List.mem_of_getElem? (i := 0) rfl)) all0)
  have CRe := CR168.trans (CHv.at X167 hZ167 hEL CR168.1)
  obtain ⟨fs, hr, hrun, hended, hRW⟩ := X167.leaveW hS167 hk167 (v := none) (fun _ => rfl)
  refine ⟨_, _, pre0 _ (?_), hrun, hended, _, _, rfl, ?_, (by rw [hh]; show CHr Z _ s.vm h0 T167.vm T167.heap; exact CRe), hRW.1, hRW.2.1, hRW.2.2.1, hRW.2.2.2.mono (by decide) (by decide)⟩
  · show Steps _ _ _ (s₁.setTop (mkF m 0 #[rv a1, rv b1] [])) _
    refine XS.aloadN X0.here hx rfl (hb hby own_d9_0) rfl rfl ?_
    show Steps _ _ _ (s₁.setTop (mkF m 1 _ [.ref a1])) _
    refine XS.aloadN X0.here hx rfl (hb hby own_d9_1) rfl rfl ?_
    show Steps _ _ _ (s₁.setTop (mkF m 2 _ [.ref b1, .ref a1])) _
    refine XS.iconst X0.here hx rfl (hb hby own_d9_2) ?_
    show Steps _ _ _ (s₁.setTop (mkF m 3 _ [.int 0, .ref b1, .ref a1])) _
    refine XS.aloadN X0.here hx rfl (hb hby own_d9_3) rfl rfl ?_
    show Steps _ _ _ (s₁.setTop (mkF m 4 _ [.ref b1, .int 0, .ref b1, .ref a1])) _
    refine X0.arraylength hx (by rw [e0]; exact Ar166.1) (State.isArrayOf_alike hZ.alike Ar166.2.1) (g := (mkF m 4 #[rv a1, rv b1] [.ref b1, .int 0, .ref b1, .ref a1])) rfl rfl (hb hby own_d9_4) _ ?_
    rw [len_of aS166 aN166]
    show Steps _ _ _ (s₁.setTop (mkF m 5 #[rv a1, rv b1] [.int 0, .int 0, .ref b1, .ref a1])) _
    refine XS.aconstNull X0.here hx rfl (hb hby own_d9_5) ?_
    show Steps _ _ _ (s₁.setTop (mkF m 6 _ [.null, .int 0, .int 0, .ref b1, .ref a1])) _
    refine st167.trans ?_
    show Steps _ _ _ (T167.setTop (mkF m 9 #[rv a1, rv b1] [])) _
    exact X167.returnOut hx Bd.returns (hb hby own_d9_9) hr
  · show Q_snew0 Z a1 b1 kc h0 n0 _ T167.heap _
    exact ⟨rfl, N167, K170, hS⟩
theorem own_staI {s : State} {args : Array Value} {C n d : String} {k : Int32} (h : (Jvm.Cond.eq (Jvm.Term.static C n d) (Jvm.Term.int k)).before args s = true) (hi : (Jvm.Cond.initializedFor C n d).before args s = true) : Sta s s.heap C n d (.int k) := by
  have hv := Cond.before_iff.mp h
  obtain ⟨x, y, ex, ey, k1, k2⟩ := cmp_v (Or.inl hv)
  have ey' : (Jvm.Term.int k).eval args s none [] s = some (.int k) := Term.int_eval k
  rw [ey'] at ey; cases ey
  obtain ⟨z, hz⟩ := k2
  subst hz
  have : z = k := by simpa [Cond.value, ex, ey'] using hv
  subst this
  exact Sta.start ex (Or.inl hi)
theorem own_charb (y : Int32) : ¬ nar .char y < 0 ∧ ¬ (65535 : Int32) < nar .char y := by
  have h := fits_nar_char y
  simp only [fits, Bool.and_eq_true, decide_eq_true_eq] at h
  exact ⟨Int32.not_lt.mpr h.1, Int32.not_lt.mpr h.2⟩
def own_hi (c : Int32) : Prop := ¬ c < (55296 : Int32) ∧ ¬ (56319 : Int32) < c
def own_lo (c : Int32) : Prop := ¬ c < (56320 : Int32) ∧ ¬ (57343 : Int32) < c
theorem own_le1 (c : Int32) : ¬ (56319 : Int32) < c ↔ c < (56320 : Int32) := by
  rw [Int32.lt_iff_toInt_lt, Int32.lt_iff_toInt_lt, show (56319 : Int32).toInt = 56319 from rfl, show (56320 : Int32).toInt = 56320 from rfl]; omega
theorem own_le2 (c : Int32) : ¬ (57343 : Int32) < c ↔ c < (57344 : Int32) := by
  rw [Int32.lt_iff_toInt_lt, Int32.lt_iff_toInt_lt, show (57343 : Int32).toInt = 57343 from rfl, show (57344 : Int32).toInt = 57344 from rfl]; omega
theorem own_higt {c : Int32} (h : own_hi c) : (255 : Int32) < c := by
  have h1 := h.1
  rw [Int32.lt_iff_toInt_lt, show (55296 : Int32).toInt = 55296 from rfl] at h1
  rw [Int32.lt_iff_toInt_lt, show (255 : Int32).toInt = 255 from rfl]; omega
theorem own_mask (x : Int32) : 0 ≤ (x &&& (2147483647 : Int32)).toInt := by
  have h1 : (x &&& (2147483647 : Int32)).toBitVec.toNat < 2147483648 := by
    rw [Int32.toBitVec_and, BitVec.toNat_and]
    exact Nat.lt_of_le_of_lt Nat.and_le_right (by decide)
  show 0 ≤ BitVec.toInt _
  rw [BitVec.toInt_eq_toNat_of_lt (by omega)]; exact Int.natCast_nonneg _
theorem own_mod4 (x : Int32) : (x &&& (2147483647 : Int32)) % (4 : Int32) = 0 ∨ (x &&& (2147483647 : Int32)) % (4 : Int32) = 1 ∨ (x &&& (2147483647 : Int32)) % (4 : Int32) = 2 ∨ (x &&& (2147483647 : Int32)) % (4 : Int32) = 3 := by
  have h0 := own_mask x
  generalize x &&& (2147483647 : Int32) = A at *
  have e : (4 : Int32).toInt = 4 := rfl
  have hA : (A % 4).toInt = A.toInt % 4 := by rw [Int32.toInt_mod, e, Int.tmod_eq_emod_of_nonneg h0]
  have a0 := Int.emod_nonneg A.toInt (show (4 : Int) ≠ 0 by decide)
  have a1 := Int.emod_lt_of_pos A.toInt (show (0 : Int) < 4 by decide)
  rcases (show A.toInt % 4 = 0 ∨ A.toInt % 4 = 1 ∨ A.toInt % 4 = 2 ∨ A.toInt % 4 = 3 by omega) with h | h | h | h
  · exact Or.inl (Int32.toInt_inj.mp (hA.trans h))
  · exact Or.inr (Or.inl (Int32.toInt_inj.mp (hA.trans h)))
  · exact Or.inr (Or.inr (Or.inl (Int32.toInt_inj.mp (hA.trans h))))
  · exact Or.inr (Or.inr (Or.inr (Int32.toInt_inj.mp (hA.trans h))))
theorem own_pn_1 : plainName "com/example/shush/shush/OccurrenceMatchedPinLaw" = true := by decide +kernel
theorem own_d32_0 : decode method_3_code 0 = .ok (.iload_n 0, 1) := by decide +kernel
theorem own_d32_1 : decode method_3_code 1 = .ok (.ldc 7, 2) := by decide +kernel
theorem own_d32_3 : decode method_3_code 3 = .ok (.if_icmp .lt 13, 3) := by decide +kernel
theorem own_d32_6 : decode method_3_code 6 = .ok (.iload_n 0, 1) := by decide +kernel
theorem own_d32_7 : decode method_3_code 7 = .ok (.ldc 10, 2) := by decide +kernel
theorem own_d32_9 : decode method_3_code 9 = .ok (.if_icmp .gt 7, 3) := by decide +kernel
theorem own_d32_12 : decode method_3_code 12 = .ok (.iconst 1, 1) := by decide +kernel
theorem own_d32_13 : decode method_3_code 13 = .ok (.goto 4, 3) := by decide +kernel
theorem own_d32_17 : decode method_3_code 17 = .ok (.ireturn, 1) := by decide +kernel
theorem own_ef_hi1 (m : MethodId) (x0 : Int32) : entryFrame m #[(.int x0)] 1 = mkF m 0 #[iv x0] [] := by first | (simp [entryFrame, mkF, argsToLocals, Value.category]; done) | rfl
def Q_hi1 (Z : State) (c1 : Int32) (h0 : Heap) (n0 : Nat) (v : Option Value) (h : Heap) (L : List Loc) : Prop := v = some (.int 1) ∧ Fr n0 L ∧ h = h0
set_option maxRecDepth 65536 in
set_option maxHeartbeats 40000000 in
theorem rm_hi1 (l : Launch) (Z : State) (a0 : Array Value) (hw : ∀ d ∈ tables_1, d.before a0 Z = true) (ws : List Jvm.Cond) (c1 : Int32) (h0 : Heap) (n0 : Nat) (Z0 : n0 ≤ h0.size) (h : own_hi c1) :
    MetFree l (⟨"com/example/shush/shush/OccurrenceMatchedPinLaw", "hi", "(C)Z"⟩ : MethodName) (head1 (Jvm.Cond.code (⟨"com/example/shush/shush/OccurrenceMatchedPinLaw", "hi", "(C)Z"⟩ : MethodName) method_3_code 1 (some .boolean) :: ws) ({ frames := 0, cells := 0, slots := 0, locals := 0 } : Room)) (fun a U => a = #[(.int c1)] ∧ Z.Warmed39 U.vm ∧ U.heap = h0) (fun _ _ _ _ _ => True) (fun _ U o U' => ∃ v L, o = .returned v ∧ Q_hi1 Z c1 h0 n0 v U'.heap L ∧ FrameEnd U o U' L ({ frames := 0, cells := 0, slots := 0, locals := 0 } : Room).cells ({ frames := 0, cells := 0, slots := 0, locals := 0 } : Room).slots) := by
  refine MetFree.of_bodySF (plainFor_of_name own_pn_1) hisR ?_
  intro p e s m args below meth c s₁ Bd hml0 hP hK
  obtain ⟨rfl, hZ, hh⟩ := hP
  have hx := Bd.exec
  have hby := Bd.bytes
  have hml : c.maxLocals = 1 := hml0
  have hown : s.vm.findClass "com/example/shush/shush/OccurrenceMatchedPinLaw" = some m.cls := findClass_of_methodNamed Bd.named
  have hnm := (name_of_methodNamed Bd.named Bd.method).1
  have W := own_W hw
  have X0 : Stand p l e ({ frames := 0, cells := 0, slots := 0, locals := 0 } : Room) s m #[(.int c1)] below meth c s₁ [] 0 0 := Stand.of_body Bd
  have e0 : s₁.heap = h0 := by rw [← hh, Bd.state]; rfl
  have N0 := Fr.nil n0
  have pre0 : ∀ tq, Steps p.tables e below (s₁.setTop (mkF m 0 #[iv c1] [])) tq → Steps p.tables e below (s₁.setTop (entryFrame m #[(.int c1)] 1)) tq := fun tq k => castTop (own_ef_hi1 m c1) k
  obtain ⟨fs, hr, hrun, hended, hW, hsame⟩ := X0.leave (v := some (.int (1 : Int32))) (fun h => by rw [Bd.returns] at h; cases h)
  refine ⟨_, _, pre0 _ (?_), hrun, hended, _, _, rfl, ?_, ⟨_, rfl⟩, hW, hsame.mono (by decide) (by decide)⟩
  · show Steps _ _ _ (s₁.setTop (mkF m 0 #[iv c1] [])) _
    refine XS.iloadN X0.here hx rfl (hb hby own_d32_0) rfl ?_
    show Steps _ _ _ (s₁.setTop (mkF m 1 _ [.int c1])) _
    refine Jvm.Stand.ldcI X0 hx hown (mvT hZ (W 7 rfl)) rfl (hb hby own_d32_1) ?_
    show Steps _ _ _ (s₁.setTop (mkF m 3 _ [.int 55296, .int c1])) _
    refine XS.icmpNo X0.here hx rfl (hb hby own_d32_3) rfl (flt (h.1 : ¬ (c1 < (55296 : Int32)))).1 ?_
    show Steps _ _ _ (s₁.setTop (mkF m 6 _ [])) _
    refine XS.iloadN X0.here hx rfl (hb hby own_d32_6) rfl ?_
    show Steps _ _ _ (s₁.setTop (mkF m 7 _ [.int c1])) _
    refine Jvm.Stand.ldcI X0 hx hown (mvT hZ (W 160 rfl)) rfl (hb hby own_d32_7) ?_
    show Steps _ _ _ (s₁.setTop (mkF m 9 _ [.int 56319, .int c1])) _
    refine XS.icmpNo X0.here hx rfl (hb hby own_d32_9) rfl (flt (h.2 : ¬ ((56319 : Int32) < c1))).2.2.1 ?_
    show Steps _ _ _ (s₁.setTop (mkF m 12 _ [])) _
    refine XS.iconst X0.here hx rfl (hb hby own_d32_12) ?_
    show Steps _ _ _ (s₁.setTop (mkF m 13 _ [.int 1])) _
    refine XS.goto X0.here hx rfl (pc0 := 13) (pc' := 17) rfl (hb hby own_d32_13) (by decide) (by decide) ?_
    show Steps _ _ _ (s₁.setTop (mkF m 17 #[iv c1] [.int 1])) _
    exact retN X0 hx (t := .boolean) Bd.returns (by simp) (hb hby own_d32_17) hr
  · show Q_hi1 Z c1 h0 n0 _ s₁.heap _
    rw [e0]
    exact ⟨rfl, N0, rfl⟩
theorem own_d32_16 : decode method_3_code 16 = .ok (.iconst 0, 1) := by decide +kernel
theorem own_ef_hi0 (m : MethodId) (x0 : Int32) : entryFrame m #[(.int x0)] 1 = mkF m 0 #[iv x0] [] := by first | (simp [entryFrame, mkF, argsToLocals, Value.category]; done) | rfl
def Q_hi0 (Z : State) (c1 : Int32) (h0 : Heap) (n0 : Nat) (v : Option Value) (h : Heap) (L : List Loc) : Prop := v = some (.int 0) ∧ Fr n0 L ∧ h = h0
set_option maxRecDepth 65536 in
set_option maxHeartbeats 40000000 in
theorem rm_hi0 (l : Launch) (Z : State) (a0 : Array Value) (hw : ∀ d ∈ tables_1, d.before a0 Z = true) (ws : List Jvm.Cond) (c1 : Int32) (h0 : Heap) (n0 : Nat) (Z0 : n0 ≤ h0.size) (h : ¬ own_hi c1) :
    MetFree l (⟨"com/example/shush/shush/OccurrenceMatchedPinLaw", "hi", "(C)Z"⟩ : MethodName) (head1 (Jvm.Cond.code (⟨"com/example/shush/shush/OccurrenceMatchedPinLaw", "hi", "(C)Z"⟩ : MethodName) method_3_code 1 (some .boolean) :: ws) ({ frames := 0, cells := 0, slots := 0, locals := 0 } : Room)) (fun a U => a = #[(.int c1)] ∧ Z.Warmed39 U.vm ∧ U.heap = h0) (fun _ _ _ _ _ => True) (fun _ U o U' => ∃ v L, o = .returned v ∧ Q_hi0 Z c1 h0 n0 v U'.heap L ∧ FrameEnd U o U' L ({ frames := 0, cells := 0, slots := 0, locals := 0 } : Room).cells ({ frames := 0, cells := 0, slots := 0, locals := 0 } : Room).slots) := by
  refine MetFree.of_bodySF (plainFor_of_name own_pn_1) hisR ?_
  intro p e s m args below meth c s₁ Bd hml0 hP hK
  obtain ⟨rfl, hZ, hh⟩ := hP
  have hx := Bd.exec
  have hby := Bd.bytes
  have hml : c.maxLocals = 1 := hml0
  have hown : s.vm.findClass "com/example/shush/shush/OccurrenceMatchedPinLaw" = some m.cls := findClass_of_methodNamed Bd.named
  have hnm := (name_of_methodNamed Bd.named Bd.method).1
  have W := own_W hw
  have X0 : Stand p l e ({ frames := 0, cells := 0, slots := 0, locals := 0 } : Room) s m #[(.int c1)] below meth c s₁ [] 0 0 := Stand.of_body Bd
  have e0 : s₁.heap = h0 := by rw [← hh, Bd.state]; rfl
  have N0 := Fr.nil n0
  have pre0 : ∀ tq, Steps p.tables e below (s₁.setTop (mkF m 0 #[iv c1] [])) tq → Steps p.tables e below (s₁.setTop (entryFrame m #[(.int c1)] 1)) tq := fun tq k => castTop (own_ef_hi0 m c1) k
  by_cases h1 : c1 < (55296 : Int32)
  · obtain ⟨fs, hr, hrun, hended, hW, hsame⟩ := X0.leave (v := some (.int (0 : Int32))) (fun h => by rw [Bd.returns] at h; cases h)
    refine ⟨_, _, pre0 _ (?_), hrun, hended, _, _, rfl, ?_, ⟨_, rfl⟩, hW, hsame.mono (by decide) (by decide)⟩
    · show Steps _ _ _ (s₁.setTop (mkF m 0 #[iv c1] [])) _
      refine XS.iloadN X0.here hx rfl (hb hby own_d32_0) rfl ?_
      show Steps _ _ _ (s₁.setTop (mkF m 1 _ [.int c1])) _
      refine Jvm.Stand.ldcI X0 hx hown (mvT hZ (W 7 rfl)) rfl (hb hby own_d32_1) ?_
      show Steps _ _ _ (s₁.setTop (mkF m 3 _ [.int 55296, .int c1])) _
      refine XS.icmpYes X0.here hx rfl (pc0 := 3) (pc' := 16) rfl (hb hby own_d32_3) rfl (tlt (h1 : c1 < (55296 : Int32))).1 (by decide) (by decide) ?_
      show Steps _ _ _ (s₁.setTop (mkF m 16 _ [])) _
      refine XS.iconst X0.here hx rfl (hb hby own_d32_16) ?_
      show Steps _ _ _ (s₁.setTop (mkF m 17 _ [.int 0])) _
      exact retN X0 hx (t := .boolean) Bd.returns (by simp) (hb hby own_d32_17) hr
    · show Q_hi0 Z c1 h0 n0 _ s₁.heap _
      rw [e0]
      exact ⟨rfl, N0, rfl⟩
  · have h2 : (56319 : Int32) < c1 := Classical.byContradiction fun q => h ⟨h1, q⟩
    obtain ⟨fs, hr, hrun, hended, hW, hsame⟩ := X0.leave (v := some (.int (0 : Int32))) (fun h => by rw [Bd.returns] at h; cases h)
    refine ⟨_, _, pre0 _ (?_), hrun, hended, _, _, rfl, ?_, ⟨_, rfl⟩, hW, hsame.mono (by decide) (by decide)⟩
    · show Steps _ _ _ (s₁.setTop (mkF m 0 #[iv c1] [])) _
      refine XS.iloadN X0.here hx rfl (hb hby own_d32_0) rfl ?_
      show Steps _ _ _ (s₁.setTop (mkF m 1 _ [.int c1])) _
      refine Jvm.Stand.ldcI X0 hx hown (mvT hZ (W 7 rfl)) rfl (hb hby own_d32_1) ?_
      show Steps _ _ _ (s₁.setTop (mkF m 3 _ [.int 55296, .int c1])) _
      refine XS.icmpNo X0.here hx rfl (hb hby own_d32_3) rfl (flt (h1 : ¬ (c1 < (55296 : Int32)))).1 ?_
      show Steps _ _ _ (s₁.setTop (mkF m 6 _ [])) _
      refine XS.iloadN X0.here hx rfl (hb hby own_d32_6) rfl ?_
      show Steps _ _ _ (s₁.setTop (mkF m 7 _ [.int c1])) _
      refine Jvm.Stand.ldcI X0 hx hown (mvT hZ (W 160 rfl)) rfl (hb hby own_d32_7) ?_
      show Steps _ _ _ (s₁.setTop (mkF m 9 _ [.int 56319, .int c1])) _
      refine XS.icmpYes X0.here hx rfl (pc0 := 9) (pc' := 16) rfl (hb hby own_d32_9) rfl (tlt (h2 : (56319 : Int32) < c1)).2.2.1 (by decide) (by decide) ?_
      show Steps _ _ _ (s₁.setTop (mkF m 16 _ [])) _
      refine XS.iconst X0.here hx rfl (hb hby own_d32_16) ?_
      show Steps _ _ _ (s₁.setTop (mkF m 17 _ [.int 0])) _
      exact retN X0 hx (t := .boolean) Bd.returns (by simp) (hb hby own_d32_17) hr
    · show Q_hi0 Z c1 h0 n0 _ s₁.heap _
      rw [e0]
      exact ⟨rfl, N0, rfl⟩
theorem own_d33_0 : decode method_4_code 0 = .ok (.iload_n 0, 1) := by decide +kernel
theorem own_d33_1 : decode method_4_code 1 = .ok (.ldc 8, 2) := by decide +kernel
theorem own_d33_3 : decode method_4_code 3 = .ok (.if_icmp .lt 13, 3) := by decide +kernel
theorem own_d33_6 : decode method_4_code 6 = .ok (.iload_n 0, 1) := by decide +kernel
theorem own_d33_7 : decode method_4_code 7 = .ok (.ldc 11, 2) := by decide +kernel
theorem own_d33_9 : decode method_4_code 9 = .ok (.if_icmp .gt 7, 3) := by decide +kernel
theorem own_d33_12 : decode method_4_code 12 = .ok (.iconst 1, 1) := by decide +kernel
theorem own_d33_13 : decode method_4_code 13 = .ok (.goto 4, 3) := by decide +kernel
theorem own_d33_17 : decode method_4_code 17 = .ok (.ireturn, 1) := by decide +kernel
theorem own_ef_lo1 (m : MethodId) (x0 : Int32) : entryFrame m #[(.int x0)] 1 = mkF m 0 #[iv x0] [] := by first | (simp [entryFrame, mkF, argsToLocals, Value.category]; done) | rfl
def Q_lo1 (Z : State) (c1 : Int32) (h0 : Heap) (n0 : Nat) (v : Option Value) (h : Heap) (L : List Loc) : Prop := v = some (.int 1) ∧ Fr n0 L ∧ h = h0
set_option maxRecDepth 65536 in
set_option maxHeartbeats 40000000 in
theorem rm_lo1 (l : Launch) (Z : State) (a0 : Array Value) (hw : ∀ d ∈ tables_1, d.before a0 Z = true) (ws : List Jvm.Cond) (c1 : Int32) (h0 : Heap) (n0 : Nat) (Z0 : n0 ≤ h0.size) (h : own_lo c1) :
    MetFree l (⟨"com/example/shush/shush/OccurrenceMatchedPinLaw", "lo", "(C)Z"⟩ : MethodName) (head1 (Jvm.Cond.code (⟨"com/example/shush/shush/OccurrenceMatchedPinLaw", "lo", "(C)Z"⟩ : MethodName) method_4_code 1 (some .boolean) :: ws) ({ frames := 0, cells := 0, slots := 0, locals := 0 } : Room)) (fun a U => a = #[(.int c1)] ∧ Z.Warmed39 U.vm ∧ U.heap = h0) (fun _ _ _ _ _ => True) (fun _ U o U' => ∃ v L, o = .returned v ∧ Q_lo1 Z c1 h0 n0 v U'.heap L ∧ FrameEnd U o U' L ({ frames := 0, cells := 0, slots := 0, locals := 0 } : Room).cells ({ frames := 0, cells := 0, slots := 0, locals := 0 } : Room).slots) := by
  refine MetFree.of_bodySF (plainFor_of_name own_pn_1) hisR ?_
  intro p e s m args below meth c s₁ Bd hml0 hP hK
  obtain ⟨rfl, hZ, hh⟩ := hP
  have hx := Bd.exec
  have hby := Bd.bytes
  have hml : c.maxLocals = 1 := hml0
  have hown : s.vm.findClass "com/example/shush/shush/OccurrenceMatchedPinLaw" = some m.cls := findClass_of_methodNamed Bd.named
  have hnm := (name_of_methodNamed Bd.named Bd.method).1
  have W := own_W hw
  have X0 : Stand p l e ({ frames := 0, cells := 0, slots := 0, locals := 0 } : Room) s m #[(.int c1)] below meth c s₁ [] 0 0 := Stand.of_body Bd
  have e0 : s₁.heap = h0 := by rw [← hh, Bd.state]; rfl
  have N0 := Fr.nil n0
  have pre0 : ∀ tq, Steps p.tables e below (s₁.setTop (mkF m 0 #[iv c1] [])) tq → Steps p.tables e below (s₁.setTop (entryFrame m #[(.int c1)] 1)) tq := fun tq k => castTop (own_ef_lo1 m c1) k
  obtain ⟨fs, hr, hrun, hended, hW, hsame⟩ := X0.leave (v := some (.int (1 : Int32))) (fun h => by rw [Bd.returns] at h; cases h)
  refine ⟨_, _, pre0 _ (?_), hrun, hended, _, _, rfl, ?_, ⟨_, rfl⟩, hW, hsame.mono (by decide) (by decide)⟩
  · show Steps _ _ _ (s₁.setTop (mkF m 0 #[iv c1] [])) _
    refine XS.iloadN X0.here hx rfl (hb hby own_d33_0) rfl ?_
    show Steps _ _ _ (s₁.setTop (mkF m 1 _ [.int c1])) _
    refine Jvm.Stand.ldcI X0 hx hown (mvT hZ (W 6 rfl)) rfl (hb hby own_d33_1) ?_
    show Steps _ _ _ (s₁.setTop (mkF m 3 _ [.int 56320, .int c1])) _
    refine XS.icmpNo X0.here hx rfl (hb hby own_d33_3) rfl (flt (h.1 : ¬ (c1 < (56320 : Int32)))).1 ?_
    show Steps _ _ _ (s₁.setTop (mkF m 6 _ [])) _
    refine XS.iloadN X0.here hx rfl (hb hby own_d33_6) rfl ?_
    show Steps _ _ _ (s₁.setTop (mkF m 7 _ [.int c1])) _
    refine Jvm.Stand.ldcI X0 hx hown (mvT hZ (W 186 rfl)) rfl (hb hby own_d33_7) ?_
    show Steps _ _ _ (s₁.setTop (mkF m 9 _ [.int 57343, .int c1])) _
    refine XS.icmpNo X0.here hx rfl (hb hby own_d33_9) rfl (flt (h.2 : ¬ ((57343 : Int32) < c1))).2.2.1 ?_
    show Steps _ _ _ (s₁.setTop (mkF m 12 _ [])) _
    refine XS.iconst X0.here hx rfl (hb hby own_d33_12) ?_
    show Steps _ _ _ (s₁.setTop (mkF m 13 _ [.int 1])) _
    refine XS.goto X0.here hx rfl (pc0 := 13) (pc' := 17) rfl (hb hby own_d33_13) (by decide) (by decide) ?_
    show Steps _ _ _ (s₁.setTop (mkF m 17 #[iv c1] [.int 1])) _
    exact retN X0 hx (t := .boolean) Bd.returns (by simp) (hb hby own_d33_17) hr
  · show Q_lo1 Z c1 h0 n0 _ s₁.heap _
    rw [e0]
    exact ⟨rfl, N0, rfl⟩
theorem own_d33_16 : decode method_4_code 16 = .ok (.iconst 0, 1) := by decide +kernel
theorem own_ef_lo0 (m : MethodId) (x0 : Int32) : entryFrame m #[(.int x0)] 1 = mkF m 0 #[iv x0] [] := by first | (simp [entryFrame, mkF, argsToLocals, Value.category]; done) | rfl
def Q_lo0 (Z : State) (c1 : Int32) (h0 : Heap) (n0 : Nat) (v : Option Value) (h : Heap) (L : List Loc) : Prop := v = some (.int 0) ∧ Fr n0 L ∧ h = h0
set_option maxRecDepth 65536 in
set_option maxHeartbeats 40000000 in
theorem rm_lo0 (l : Launch) (Z : State) (a0 : Array Value) (hw : ∀ d ∈ tables_1, d.before a0 Z = true) (ws : List Jvm.Cond) (c1 : Int32) (h0 : Heap) (n0 : Nat) (Z0 : n0 ≤ h0.size) (h : ¬ own_lo c1) :
    MetFree l (⟨"com/example/shush/shush/OccurrenceMatchedPinLaw", "lo", "(C)Z"⟩ : MethodName) (head1 (Jvm.Cond.code (⟨"com/example/shush/shush/OccurrenceMatchedPinLaw", "lo", "(C)Z"⟩ : MethodName) method_4_code 1 (some .boolean) :: ws) ({ frames := 0, cells := 0, slots := 0, locals := 0 } : Room)) (fun a U => a = #[(.int c1)] ∧ Z.Warmed39 U.vm ∧ U.heap = h0) (fun _ _ _ _ _ => True) (fun _ U o U' => ∃ v L, o = .returned v ∧ Q_lo0 Z c1 h0 n0 v U'.heap L ∧ FrameEnd U o U' L ({ frames := 0, cells := 0, slots := 0, locals := 0 } : Room).cells ({ frames := 0, cells := 0, slots := 0, locals := 0 } : Room).slots) := by
  refine MetFree.of_bodySF (plainFor_of_name own_pn_1) hisR ?_
  intro p e s m args below meth c s₁ Bd hml0 hP hK
  obtain ⟨rfl, hZ, hh⟩ := hP
  have hx := Bd.exec
  have hby := Bd.bytes
  have hml : c.maxLocals = 1 := hml0
  have hown : s.vm.findClass "com/example/shush/shush/OccurrenceMatchedPinLaw" = some m.cls := findClass_of_methodNamed Bd.named
  have hnm := (name_of_methodNamed Bd.named Bd.method).1
  have W := own_W hw
  have X0 : Stand p l e ({ frames := 0, cells := 0, slots := 0, locals := 0 } : Room) s m #[(.int c1)] below meth c s₁ [] 0 0 := Stand.of_body Bd
  have e0 : s₁.heap = h0 := by rw [← hh, Bd.state]; rfl
  have N0 := Fr.nil n0
  have pre0 : ∀ tq, Steps p.tables e below (s₁.setTop (mkF m 0 #[iv c1] [])) tq → Steps p.tables e below (s₁.setTop (entryFrame m #[(.int c1)] 1)) tq := fun tq k => castTop (own_ef_lo0 m c1) k
  by_cases h1 : c1 < (56320 : Int32)
  · obtain ⟨fs, hr, hrun, hended, hW, hsame⟩ := X0.leave (v := some (.int (0 : Int32))) (fun h => by rw [Bd.returns] at h; cases h)
    refine ⟨_, _, pre0 _ (?_), hrun, hended, _, _, rfl, ?_, ⟨_, rfl⟩, hW, hsame.mono (by decide) (by decide)⟩
    · show Steps _ _ _ (s₁.setTop (mkF m 0 #[iv c1] [])) _
      refine XS.iloadN X0.here hx rfl (hb hby own_d33_0) rfl ?_
      show Steps _ _ _ (s₁.setTop (mkF m 1 _ [.int c1])) _
      refine Jvm.Stand.ldcI X0 hx hown (mvT hZ (W 6 rfl)) rfl (hb hby own_d33_1) ?_
      show Steps _ _ _ (s₁.setTop (mkF m 3 _ [.int 56320, .int c1])) _
      refine XS.icmpYes X0.here hx rfl (pc0 := 3) (pc' := 16) rfl (hb hby own_d33_3) rfl (tlt (h1 : c1 < (56320 : Int32))).1 (by decide) (by decide) ?_
      show Steps _ _ _ (s₁.setTop (mkF m 16 _ [])) _
      refine XS.iconst X0.here hx rfl (hb hby own_d33_16) ?_
      show Steps _ _ _ (s₁.setTop (mkF m 17 _ [.int 0])) _
      exact retN X0 hx (t := .boolean) Bd.returns (by simp) (hb hby own_d33_17) hr
    · show Q_lo0 Z c1 h0 n0 _ s₁.heap _
      rw [e0]
      exact ⟨rfl, N0, rfl⟩
  · have h2 : (57343 : Int32) < c1 := Classical.byContradiction fun q => h ⟨h1, q⟩
    obtain ⟨fs, hr, hrun, hended, hW, hsame⟩ := X0.leave (v := some (.int (0 : Int32))) (fun h => by rw [Bd.returns] at h; cases h)
    refine ⟨_, _, pre0 _ (?_), hrun, hended, _, _, rfl, ?_, ⟨_, rfl⟩, hW, hsame.mono (by decide) (by decide)⟩
    · show Steps _ _ _ (s₁.setTop (mkF m 0 #[iv c1] [])) _
      refine XS.iloadN X0.here hx rfl (hb hby own_d33_0) rfl ?_
      show Steps _ _ _ (s₁.setTop (mkF m 1 _ [.int c1])) _
      refine Jvm.Stand.ldcI X0 hx hown (mvT hZ (W 6 rfl)) rfl (hb hby own_d33_1) ?_
      show Steps _ _ _ (s₁.setTop (mkF m 3 _ [.int 56320, .int c1])) _
      refine XS.icmpNo X0.here hx rfl (hb hby own_d33_3) rfl (flt (h1 : ¬ (c1 < (56320 : Int32)))).1 ?_
      show Steps _ _ _ (s₁.setTop (mkF m 6 _ [])) _
      refine XS.iloadN X0.here hx rfl (hb hby own_d33_6) rfl ?_
      show Steps _ _ _ (s₁.setTop (mkF m 7 _ [.int c1])) _
      refine Jvm.Stand.ldcI X0 hx hown (mvT hZ (W 186 rfl)) rfl (hb hby own_d33_7) ?_
      show Steps _ _ _ (s₁.setTop (mkF m 9 _ [.int 57343, .int c1])) _
      refine XS.icmpYes X0.here hx rfl (pc0 := 9) (pc' := 16) rfl (hb hby own_d33_9) rfl (tlt (h2 : (57343 : Int32) < c1)).2.2.1 (by decide) (by decide) ?_
      show Steps _ _ _ (s₁.setTop (mkF m 16 _ [])) _
      refine XS.iconst X0.here hx rfl (hb hby own_d33_16) ?_
      show Steps _ _ _ (s₁.setTop (mkF m 17 _ [.int 0])) _
      exact retN X0 hx (t := .boolean) Bd.returns (by simp) (hb hby own_d33_17) hr
    · show Q_lo0 Z c1 h0 n0 _ s₁.heap _
      rw [e0]
      exact ⟨rfl, N0, rfl⟩
theorem own_pn_2 : plainName "java/lang/Character" = true := by decide +kernel
theorem own_d28_0 : decode jdk_89_method_14_code 0 = .ok (.iload_n 0, 1) := by decide +kernel
theorem own_d28_1 : decode jdk_89_method_14_code 1 = .ok (.ldc 75, 2) := by decide +kernel
theorem own_d28_3 : decode jdk_89_method_14_code 3 = .ok (.if_icmp .lt 13, 3) := by decide +kernel
theorem own_d28_6 : decode jdk_89_method_14_code 6 = .ok (.iload_n 0, 1) := by decide +kernel
theorem own_d28_7 : decode jdk_89_method_14_code 7 = .ok (.ldc 76, 2) := by decide +kernel
theorem own_d28_9 : decode jdk_89_method_14_code 9 = .ok (.if_icmp .ge 7, 3) := by decide +kernel
theorem own_d28_12 : decode jdk_89_method_14_code 12 = .ok (.iconst 1, 1) := by decide +kernel
theorem own_d28_13 : decode jdk_89_method_14_code 13 = .ok (.goto 4, 3) := by decide +kernel
theorem own_d28_17 : decode jdk_89_method_14_code 17 = .ok (.ireturn, 1) := by decide +kernel
theorem own_ef_jhi1 (m : MethodId) (x0 : Int32) : entryFrame m #[(.int x0)] 1 = mkF m 0 #[iv x0] [] := by first | (simp [entryFrame, mkF, argsToLocals, Value.category]; done) | rfl
def Q_jhi1 (Z : State) (c1 : Int32) (h0 : Heap) (n0 : Nat) (v : Option Value) (h : Heap) (L : List Loc) : Prop := v = some (.int 1) ∧ Fr n0 L ∧ h = h0
set_option maxRecDepth 65536 in
set_option maxHeartbeats 40000000 in
theorem rm_jhi1 (l : Launch) (Z : State) (a0 : Array Value) (hw : ∀ d ∈ tables_1, d.before a0 Z = true) (ws : List Jvm.Cond) (c1 : Int32) (h0 : Heap) (n0 : Nat) (Z0 : n0 ≤ h0.size) (h : own_hi c1) :
    MetFree l (⟨"java/lang/Character", "isHighSurrogate", "(C)Z"⟩ : MethodName) (head1 (Jvm.Cond.code (⟨"java/lang/Character", "isHighSurrogate", "(C)Z"⟩ : MethodName) jdk_89_method_14_code 1 (some .boolean) :: ws) ({ frames := 0, cells := 0, slots := 0, locals := 0 } : Room)) (fun a U => a = #[(.int c1)] ∧ Z.Warmed39 U.vm ∧ U.heap = h0) (fun _ _ _ _ _ => True) (fun _ U o U' => ∃ v L, o = .returned v ∧ Q_jhi1 Z c1 h0 n0 v U'.heap L ∧ FrameEnd U o U' L ({ frames := 0, cells := 0, slots := 0, locals := 0 } : Room).cells ({ frames := 0, cells := 0, slots := 0, locals := 0 } : Room).slots) := by
  refine MetFree.of_bodySF (plainFor_of_name own_pn_2) hisR ?_
  intro p e s m args below meth c s₁ Bd hml0 hP hK
  obtain ⟨rfl, hZ, hh⟩ := hP
  have hx := Bd.exec
  have hby := Bd.bytes
  have hml : c.maxLocals = 1 := hml0
  have hown : s.vm.findClass "java/lang/Character" = some m.cls := findClass_of_methodNamed Bd.named
  have hnm := (name_of_methodNamed Bd.named Bd.method).1
  have W := own_W hw
  have X0 : Stand p l e ({ frames := 0, cells := 0, slots := 0, locals := 0 } : Room) s m #[(.int c1)] below meth c s₁ [] 0 0 := Stand.of_body Bd
  have e0 : s₁.heap = h0 := by rw [← hh, Bd.state]; rfl
  have N0 := Fr.nil n0
  have pre0 : ∀ tq, Steps p.tables e below (s₁.setTop (mkF m 0 #[iv c1] [])) tq → Steps p.tables e below (s₁.setTop (entryFrame m #[(.int c1)] 1)) tq := fun tq k => castTop (own_ef_jhi1 m c1) k
  obtain ⟨fs, hr, hrun, hended, hW, hsame⟩ := X0.leave (v := some (.int (1 : Int32))) (fun h => by rw [Bd.returns] at h; cases h)
  refine ⟨_, _, pre0 _ (?_), hrun, hended, _, _, rfl, ?_, ⟨_, rfl⟩, hW, hsame.mono (by decide) (by decide)⟩
  · show Steps _ _ _ (s₁.setTop (mkF m 0 #[iv c1] [])) _
    refine XS.iloadN X0.here hx rfl (hb hby own_d28_0) rfl ?_
    show Steps _ _ _ (s₁.setTop (mkF m 1 _ [.int c1])) _
    refine Jvm.Stand.ldcI X0 hx hown (mvT hZ (W 137 rfl)) rfl (hb hby own_d28_1) ?_
    show Steps _ _ _ (s₁.setTop (mkF m 3 _ [.int 55296, .int c1])) _
    refine XS.icmpNo X0.here hx rfl (hb hby own_d28_3) rfl (flt (h.1 : ¬ (c1 < (55296 : Int32)))).1 ?_
    show Steps _ _ _ (s₁.setTop (mkF m 6 _ [])) _
    refine XS.iloadN X0.here hx rfl (hb hby own_d28_6) rfl ?_
    show Steps _ _ _ (s₁.setTop (mkF m 7 _ [.int c1])) _
    refine Jvm.Stand.ldcI X0 hx hown (mvT hZ (W 168 rfl)) rfl (hb hby own_d28_7) ?_
    show Steps _ _ _ (s₁.setTop (mkF m 9 _ [.int 56320, .int c1])) _
    refine XS.icmpNo X0.here hx rfl (hb hby own_d28_9) rfl (tlt (((own_le1 _).mp h.2) : c1 < (56320 : Int32))).2.1 ?_
    show Steps _ _ _ (s₁.setTop (mkF m 12 _ [])) _
    refine XS.iconst X0.here hx rfl (hb hby own_d28_12) ?_
    show Steps _ _ _ (s₁.setTop (mkF m 13 _ [.int 1])) _
    refine XS.goto X0.here hx rfl (pc0 := 13) (pc' := 17) rfl (hb hby own_d28_13) (by decide) (by decide) ?_
    show Steps _ _ _ (s₁.setTop (mkF m 17 #[iv c1] [.int 1])) _
    exact retN X0 hx (t := .boolean) Bd.returns (by simp) (hb hby own_d28_17) hr
  · show Q_jhi1 Z c1 h0 n0 _ s₁.heap _
    rw [e0]
    exact ⟨rfl, N0, rfl⟩
theorem own_d28_16 : decode jdk_89_method_14_code 16 = .ok (.iconst 0, 1) := by decide +kernel
theorem own_ef_jhi0 (m : MethodId) (x0 : Int32) : entryFrame m #[(.int x0)] 1 = mkF m 0 #[iv x0] [] := by first | (simp [entryFrame, mkF, argsToLocals, Value.category]; done) | rfl
def Q_jhi0 (Z : State) (c1 : Int32) (h0 : Heap) (n0 : Nat) (v : Option Value) (h : Heap) (L : List Loc) : Prop := v = some (.int 0) ∧ Fr n0 L ∧ h = h0
set_option maxRecDepth 65536 in
set_option maxHeartbeats 40000000 in
theorem rm_jhi0 (l : Launch) (Z : State) (a0 : Array Value) (hw : ∀ d ∈ tables_1, d.before a0 Z = true) (ws : List Jvm.Cond) (c1 : Int32) (h0 : Heap) (n0 : Nat) (Z0 : n0 ≤ h0.size) (h : ¬ own_hi c1) :
    MetFree l (⟨"java/lang/Character", "isHighSurrogate", "(C)Z"⟩ : MethodName) (head1 (Jvm.Cond.code (⟨"java/lang/Character", "isHighSurrogate", "(C)Z"⟩ : MethodName) jdk_89_method_14_code 1 (some .boolean) :: ws) ({ frames := 0, cells := 0, slots := 0, locals := 0 } : Room)) (fun a U => a = #[(.int c1)] ∧ Z.Warmed39 U.vm ∧ U.heap = h0) (fun _ _ _ _ _ => True) (fun _ U o U' => ∃ v L, o = .returned v ∧ Q_jhi0 Z c1 h0 n0 v U'.heap L ∧ FrameEnd U o U' L ({ frames := 0, cells := 0, slots := 0, locals := 0 } : Room).cells ({ frames := 0, cells := 0, slots := 0, locals := 0 } : Room).slots) := by
  refine MetFree.of_bodySF (plainFor_of_name own_pn_2) hisR ?_
  intro p e s m args below meth c s₁ Bd hml0 hP hK
  obtain ⟨rfl, hZ, hh⟩ := hP
  have hx := Bd.exec
  have hby := Bd.bytes
  have hml : c.maxLocals = 1 := hml0
  have hown : s.vm.findClass "java/lang/Character" = some m.cls := findClass_of_methodNamed Bd.named
  have hnm := (name_of_methodNamed Bd.named Bd.method).1
  have W := own_W hw
  have X0 : Stand p l e ({ frames := 0, cells := 0, slots := 0, locals := 0 } : Room) s m #[(.int c1)] below meth c s₁ [] 0 0 := Stand.of_body Bd
  have e0 : s₁.heap = h0 := by rw [← hh, Bd.state]; rfl
  have N0 := Fr.nil n0
  have pre0 : ∀ tq, Steps p.tables e below (s₁.setTop (mkF m 0 #[iv c1] [])) tq → Steps p.tables e below (s₁.setTop (entryFrame m #[(.int c1)] 1)) tq := fun tq k => castTop (own_ef_jhi0 m c1) k
  by_cases h1 : c1 < (55296 : Int32)
  · obtain ⟨fs, hr, hrun, hended, hW, hsame⟩ := X0.leave (v := some (.int (0 : Int32))) (fun h => by rw [Bd.returns] at h; cases h)
    refine ⟨_, _, pre0 _ (?_), hrun, hended, _, _, rfl, ?_, ⟨_, rfl⟩, hW, hsame.mono (by decide) (by decide)⟩
    · show Steps _ _ _ (s₁.setTop (mkF m 0 #[iv c1] [])) _
      refine XS.iloadN X0.here hx rfl (hb hby own_d28_0) rfl ?_
      show Steps _ _ _ (s₁.setTop (mkF m 1 _ [.int c1])) _
      refine Jvm.Stand.ldcI X0 hx hown (mvT hZ (W 137 rfl)) rfl (hb hby own_d28_1) ?_
      show Steps _ _ _ (s₁.setTop (mkF m 3 _ [.int 55296, .int c1])) _
      refine XS.icmpYes X0.here hx rfl (pc0 := 3) (pc' := 16) rfl (hb hby own_d28_3) rfl (tlt (h1 : c1 < (55296 : Int32))).1 (by decide) (by decide) ?_
      show Steps _ _ _ (s₁.setTop (mkF m 16 _ [])) _
      refine XS.iconst X0.here hx rfl (hb hby own_d28_16) ?_
      show Steps _ _ _ (s₁.setTop (mkF m 17 _ [.int 0])) _
      exact retN X0 hx (t := .boolean) Bd.returns (by simp) (hb hby own_d28_17) hr
    · show Q_jhi0 Z c1 h0 n0 _ s₁.heap _
      rw [e0]
      exact ⟨rfl, N0, rfl⟩
  · have h2 : (56319 : Int32) < c1 := Classical.byContradiction fun q => h ⟨h1, q⟩
    obtain ⟨fs, hr, hrun, hended, hW, hsame⟩ := X0.leave (v := some (.int (0 : Int32))) (fun h => by rw [Bd.returns] at h; cases h)
    refine ⟨_, _, pre0 _ (?_), hrun, hended, _, _, rfl, ?_, ⟨_, rfl⟩, hW, hsame.mono (by decide) (by decide)⟩
    · show Steps _ _ _ (s₁.setTop (mkF m 0 #[iv c1] [])) _
      refine XS.iloadN X0.here hx rfl (hb hby own_d28_0) rfl ?_
      show Steps _ _ _ (s₁.setTop (mkF m 1 _ [.int c1])) _
      refine Jvm.Stand.ldcI X0 hx hown (mvT hZ (W 137 rfl)) rfl (hb hby own_d28_1) ?_
      show Steps _ _ _ (s₁.setTop (mkF m 3 _ [.int 55296, .int c1])) _
      refine XS.icmpNo X0.here hx rfl (hb hby own_d28_3) rfl (flt (h1 : ¬ (c1 < (55296 : Int32)))).1 ?_
      show Steps _ _ _ (s₁.setTop (mkF m 6 _ [])) _
      refine XS.iloadN X0.here hx rfl (hb hby own_d28_6) rfl ?_
      show Steps _ _ _ (s₁.setTop (mkF m 7 _ [.int c1])) _
      refine Jvm.Stand.ldcI X0 hx hown (mvT hZ (W 168 rfl)) rfl (hb hby own_d28_7) ?_
      show Steps _ _ _ (s₁.setTop (mkF m 9 _ [.int 56320, .int c1])) _
      refine XS.icmpYes X0.here hx rfl (pc0 := 9) (pc' := 16) rfl (hb hby own_d28_9) rfl (flt ((fun q => absurd h2 ((own_le1 _).mpr q)) : ¬ (c1 < (56320 : Int32)))).2.1 (by decide) (by decide) ?_
      show Steps _ _ _ (s₁.setTop (mkF m 16 _ [])) _
      refine XS.iconst X0.here hx rfl (hb hby own_d28_16) ?_
      show Steps _ _ _ (s₁.setTop (mkF m 17 _ [.int 0])) _
      exact retN X0 hx (t := .boolean) Bd.returns (by simp) (hb hby own_d28_17) hr
    · show Q_jhi0 Z c1 h0 n0 _ s₁.heap _
      rw [e0]
      exact ⟨rfl, N0, rfl⟩
theorem own_d29_0 : decode jdk_89_method_15_code 0 = .ok (.iload_n 0, 1) := by decide +kernel
theorem own_d29_1 : decode jdk_89_method_15_code 1 = .ok (.ldc 76, 2) := by decide +kernel
theorem own_d29_3 : decode jdk_89_method_15_code 3 = .ok (.if_icmp .lt 13, 3) := by decide +kernel
theorem own_d29_6 : decode jdk_89_method_15_code 6 = .ok (.iload_n 0, 1) := by decide +kernel
theorem own_d29_7 : decode jdk_89_method_15_code 7 = .ok (.ldc 77, 2) := by decide +kernel
theorem own_d29_9 : decode jdk_89_method_15_code 9 = .ok (.if_icmp .ge 7, 3) := by decide +kernel
theorem own_d29_12 : decode jdk_89_method_15_code 12 = .ok (.iconst 1, 1) := by decide +kernel
theorem own_d29_13 : decode jdk_89_method_15_code 13 = .ok (.goto 4, 3) := by decide +kernel
theorem own_d29_17 : decode jdk_89_method_15_code 17 = .ok (.ireturn, 1) := by decide +kernel
theorem own_ef_jlo1 (m : MethodId) (x0 : Int32) : entryFrame m #[(.int x0)] 1 = mkF m 0 #[iv x0] [] := by first | (simp [entryFrame, mkF, argsToLocals, Value.category]; done) | rfl
def Q_jlo1 (Z : State) (c1 : Int32) (h0 : Heap) (n0 : Nat) (v : Option Value) (h : Heap) (L : List Loc) : Prop := v = some (.int 1) ∧ Fr n0 L ∧ h = h0
set_option maxRecDepth 65536 in
set_option maxHeartbeats 40000000 in
theorem rm_jlo1 (l : Launch) (Z : State) (a0 : Array Value) (hw : ∀ d ∈ tables_1, d.before a0 Z = true) (ws : List Jvm.Cond) (c1 : Int32) (h0 : Heap) (n0 : Nat) (Z0 : n0 ≤ h0.size) (h : own_lo c1) :
    MetFree l (⟨"java/lang/Character", "isLowSurrogate", "(C)Z"⟩ : MethodName) (head1 (Jvm.Cond.code (⟨"java/lang/Character", "isLowSurrogate", "(C)Z"⟩ : MethodName) jdk_89_method_15_code 1 (some .boolean) :: ws) ({ frames := 0, cells := 0, slots := 0, locals := 0 } : Room)) (fun a U => a = #[(.int c1)] ∧ Z.Warmed39 U.vm ∧ U.heap = h0) (fun _ _ _ _ _ => True) (fun _ U o U' => ∃ v L, o = .returned v ∧ Q_jlo1 Z c1 h0 n0 v U'.heap L ∧ FrameEnd U o U' L ({ frames := 0, cells := 0, slots := 0, locals := 0 } : Room).cells ({ frames := 0, cells := 0, slots := 0, locals := 0 } : Room).slots) := by
  refine MetFree.of_bodySF (plainFor_of_name own_pn_2) hisR ?_
  intro p e s m args below meth c s₁ Bd hml0 hP hK
  obtain ⟨rfl, hZ, hh⟩ := hP
  have hx := Bd.exec
  have hby := Bd.bytes
  have hml : c.maxLocals = 1 := hml0
  have hown : s.vm.findClass "java/lang/Character" = some m.cls := findClass_of_methodNamed Bd.named
  have hnm := (name_of_methodNamed Bd.named Bd.method).1
  have W := own_W hw
  have X0 : Stand p l e ({ frames := 0, cells := 0, slots := 0, locals := 0 } : Room) s m #[(.int c1)] below meth c s₁ [] 0 0 := Stand.of_body Bd
  have e0 : s₁.heap = h0 := by rw [← hh, Bd.state]; rfl
  have N0 := Fr.nil n0
  have pre0 : ∀ tq, Steps p.tables e below (s₁.setTop (mkF m 0 #[iv c1] [])) tq → Steps p.tables e below (s₁.setTop (entryFrame m #[(.int c1)] 1)) tq := fun tq k => castTop (own_ef_jlo1 m c1) k
  obtain ⟨fs, hr, hrun, hended, hW, hsame⟩ := X0.leave (v := some (.int (1 : Int32))) (fun h => by rw [Bd.returns] at h; cases h)
  refine ⟨_, _, pre0 _ (?_), hrun, hended, _, _, rfl, ?_, ⟨_, rfl⟩, hW, hsame.mono (by decide) (by decide)⟩
  · show Steps _ _ _ (s₁.setTop (mkF m 0 #[iv c1] [])) _
    refine XS.iloadN X0.here hx rfl (hb hby own_d29_0) rfl ?_
    show Steps _ _ _ (s₁.setTop (mkF m 1 _ [.int c1])) _
    refine Jvm.Stand.ldcI X0 hx hown (mvT hZ (W 168 rfl)) rfl (hb hby own_d29_1) ?_
    show Steps _ _ _ (s₁.setTop (mkF m 3 _ [.int 56320, .int c1])) _
    refine XS.icmpNo X0.here hx rfl (hb hby own_d29_3) rfl (flt (h.1 : ¬ (c1 < (56320 : Int32)))).1 ?_
    show Steps _ _ _ (s₁.setTop (mkF m 6 _ [])) _
    refine XS.iloadN X0.here hx rfl (hb hby own_d29_6) rfl ?_
    show Steps _ _ _ (s₁.setTop (mkF m 7 _ [.int c1])) _
    refine Jvm.Stand.ldcI X0 hx hown (mvT hZ (W 187 rfl)) rfl (hb hby own_d29_7) ?_
    show Steps _ _ _ (s₁.setTop (mkF m 9 _ [.int 57344, .int c1])) _
    refine XS.icmpNo X0.here hx rfl (hb hby own_d29_9) rfl (tlt (((own_le2 _).mp h.2) : c1 < (57344 : Int32))).2.1 ?_
    show Steps _ _ _ (s₁.setTop (mkF m 12 _ [])) _
    refine XS.iconst X0.here hx rfl (hb hby own_d29_12) ?_
    show Steps _ _ _ (s₁.setTop (mkF m 13 _ [.int 1])) _
    refine XS.goto X0.here hx rfl (pc0 := 13) (pc' := 17) rfl (hb hby own_d29_13) (by decide) (by decide) ?_
    show Steps _ _ _ (s₁.setTop (mkF m 17 #[iv c1] [.int 1])) _
    exact retN X0 hx (t := .boolean) Bd.returns (by simp) (hb hby own_d29_17) hr
  · show Q_jlo1 Z c1 h0 n0 _ s₁.heap _
    rw [e0]
    exact ⟨rfl, N0, rfl⟩
theorem own_d29_16 : decode jdk_89_method_15_code 16 = .ok (.iconst 0, 1) := by decide +kernel
theorem own_ef_jlo0 (m : MethodId) (x0 : Int32) : entryFrame m #[(.int x0)] 1 = mkF m 0 #[iv x0] [] := by first | (simp [entryFrame, mkF, argsToLocals, Value.category]; done) | rfl
def Q_jlo0 (Z : State) (c1 : Int32) (h0 : Heap) (n0 : Nat) (v : Option Value) (h : Heap) (L : List Loc) : Prop := v = some (.int 0) ∧ Fr n0 L ∧ h = h0
set_option maxRecDepth 65536 in
set_option maxHeartbeats 40000000 in
theorem rm_jlo0 (l : Launch) (Z : State) (a0 : Array Value) (hw : ∀ d ∈ tables_1, d.before a0 Z = true) (ws : List Jvm.Cond) (c1 : Int32) (h0 : Heap) (n0 : Nat) (Z0 : n0 ≤ h0.size) (h : ¬ own_lo c1) :
    MetFree l (⟨"java/lang/Character", "isLowSurrogate", "(C)Z"⟩ : MethodName) (head1 (Jvm.Cond.code (⟨"java/lang/Character", "isLowSurrogate", "(C)Z"⟩ : MethodName) jdk_89_method_15_code 1 (some .boolean) :: ws) ({ frames := 0, cells := 0, slots := 0, locals := 0 } : Room)) (fun a U => a = #[(.int c1)] ∧ Z.Warmed39 U.vm ∧ U.heap = h0) (fun _ _ _ _ _ => True) (fun _ U o U' => ∃ v L, o = .returned v ∧ Q_jlo0 Z c1 h0 n0 v U'.heap L ∧ FrameEnd U o U' L ({ frames := 0, cells := 0, slots := 0, locals := 0 } : Room).cells ({ frames := 0, cells := 0, slots := 0, locals := 0 } : Room).slots) := by
  refine MetFree.of_bodySF (plainFor_of_name own_pn_2) hisR ?_
  intro p e s m args below meth c s₁ Bd hml0 hP hK
  obtain ⟨rfl, hZ, hh⟩ := hP
  have hx := Bd.exec
  have hby := Bd.bytes
  have hml : c.maxLocals = 1 := hml0
  have hown : s.vm.findClass "java/lang/Character" = some m.cls := findClass_of_methodNamed Bd.named
  have hnm := (name_of_methodNamed Bd.named Bd.method).1
  have W := own_W hw
  have X0 : Stand p l e ({ frames := 0, cells := 0, slots := 0, locals := 0 } : Room) s m #[(.int c1)] below meth c s₁ [] 0 0 := Stand.of_body Bd
  have e0 : s₁.heap = h0 := by rw [← hh, Bd.state]; rfl
  have N0 := Fr.nil n0
  have pre0 : ∀ tq, Steps p.tables e below (s₁.setTop (mkF m 0 #[iv c1] [])) tq → Steps p.tables e below (s₁.setTop (entryFrame m #[(.int c1)] 1)) tq := fun tq k => castTop (own_ef_jlo0 m c1) k
  by_cases h1 : c1 < (56320 : Int32)
  · obtain ⟨fs, hr, hrun, hended, hW, hsame⟩ := X0.leave (v := some (.int (0 : Int32))) (fun h => by rw [Bd.returns] at h; cases h)
    refine ⟨_, _, pre0 _ (?_), hrun, hended, _, _, rfl, ?_, ⟨_, rfl⟩, hW, hsame.mono (by decide) (by decide)⟩
    · show Steps _ _ _ (s₁.setTop (mkF m 0 #[iv c1] [])) _
      refine XS.iloadN X0.here hx rfl (hb hby own_d29_0) rfl ?_
      show Steps _ _ _ (s₁.setTop (mkF m 1 _ [.int c1])) _
      refine Jvm.Stand.ldcI X0 hx hown (mvT hZ (W 168 rfl)) rfl (hb hby own_d29_1) ?_
      show Steps _ _ _ (s₁.setTop (mkF m 3 _ [.int 56320, .int c1])) _
      refine XS.icmpYes X0.here hx rfl (pc0 := 3) (pc' := 16) rfl (hb hby own_d29_3) rfl (tlt (h1 : c1 < (56320 : Int32))).1 (by decide) (by decide) ?_
      show Steps _ _ _ (s₁.setTop (mkF m 16 _ [])) _
      refine XS.iconst X0.here hx rfl (hb hby own_d29_16) ?_
      show Steps _ _ _ (s₁.setTop (mkF m 17 _ [.int 0])) _
      exact retN X0 hx (t := .boolean) Bd.returns (by simp) (hb hby own_d29_17) hr
    · show Q_jlo0 Z c1 h0 n0 _ s₁.heap _
      rw [e0]
      exact ⟨rfl, N0, rfl⟩
  · have h2 : (57343 : Int32) < c1 := Classical.byContradiction fun q => h ⟨h1, q⟩
    obtain ⟨fs, hr, hrun, hended, hW, hsame⟩ := X0.leave (v := some (.int (0 : Int32))) (fun h => by rw [Bd.returns] at h; cases h)
    refine ⟨_, _, pre0 _ (?_), hrun, hended, _, _, rfl, ?_, ⟨_, rfl⟩, hW, hsame.mono (by decide) (by decide)⟩
    · show Steps _ _ _ (s₁.setTop (mkF m 0 #[iv c1] [])) _
      refine XS.iloadN X0.here hx rfl (hb hby own_d29_0) rfl ?_
      show Steps _ _ _ (s₁.setTop (mkF m 1 _ [.int c1])) _
      refine Jvm.Stand.ldcI X0 hx hown (mvT hZ (W 168 rfl)) rfl (hb hby own_d29_1) ?_
      show Steps _ _ _ (s₁.setTop (mkF m 3 _ [.int 56320, .int c1])) _
      refine XS.icmpNo X0.here hx rfl (hb hby own_d29_3) rfl (flt (h1 : ¬ (c1 < (56320 : Int32)))).1 ?_
      show Steps _ _ _ (s₁.setTop (mkF m 6 _ [])) _
      refine XS.iloadN X0.here hx rfl (hb hby own_d29_6) rfl ?_
      show Steps _ _ _ (s₁.setTop (mkF m 7 _ [.int c1])) _
      refine Jvm.Stand.ldcI X0 hx hown (mvT hZ (W 187 rfl)) rfl (hb hby own_d29_7) ?_
      show Steps _ _ _ (s₁.setTop (mkF m 9 _ [.int 57344, .int c1])) _
      refine XS.icmpYes X0.here hx rfl (pc0 := 9) (pc' := 16) rfl (hb hby own_d29_9) rfl (flt ((fun q => absurd h2 ((own_le2 _).mpr q)) : ¬ (c1 < (57344 : Int32)))).2.1 (by decide) (by decide) ?_
      show Steps _ _ _ (s₁.setTop (mkF m 16 _ [])) _
      refine XS.iconst X0.here hx rfl (hb hby own_d29_16) ?_
      show Steps _ _ _ (s₁.setTop (mkF m 17 _ [.int 0])) _
      exact retN X0 hx (t := .boolean) Bd.returns (by simp) (hb hby own_d29_17) hr
    · show Q_jlo0 Z c1 h0 n0 _ s₁.heap _
      rw [e0]
      exact ⟨rfl, N0, rfl⟩
theorem own_d31_0 : decode method_2_code 0 = .ok (.iload_n 0, 1) := by decide +kernel
theorem own_d31_1 : decode method_2_code 1 = .ok (.iconst 3, 1) := by decide +kernel
theorem own_d31_2 : decode method_2_code 2 = .ok (.iand, 1) := by decide +kernel
theorem own_d31_3 : decode method_2_code 3 = .ok (.istore_n 1, 1) := by decide +kernel
theorem own_d31_4 : decode method_2_code 4 = .ok (.iload_n 0, 1) := by decide +kernel
theorem own_d31_5 : decode method_2_code 5 = .ok (.iconst 2, 1) := by decide +kernel
theorem own_d31_6 : decode method_2_code 6 = .ok (.iushr, 1) := by decide +kernel
theorem own_d31_7 : decode method_2_code 7 = .ok (.istore_n 2, 1) := by decide +kernel
theorem own_d31_8 : decode method_2_code 8 = .ok (.iload_n 1, 1) := by decide +kernel
theorem own_d31_9 : decode method_2_code 9 = .ok (.ifCond .ne 10, 3) := by decide +kernel
theorem own_d31_12 : decode method_2_code 12 = .ok (.iload_n 2, 1) := by decide +kernel
theorem own_d31_13 : decode method_2_code 13 = .ok (.sipush 255, 3) := by decide +kernel
theorem own_d31_16 : decode method_2_code 16 = .ok (.iand, 1) := by decide +kernel
theorem own_d31_17 : decode method_2_code 17 = .ok (.i2c, 1) := by decide +kernel
theorem own_d31_18 : decode method_2_code 18 = .ok (.ireturn, 1) := by decide +kernel
theorem own_d31_19 : decode method_2_code 19 = .ok (.iload_n 1, 1) := by decide +kernel
theorem own_d31_20 : decode method_2_code 20 = .ok (.iconst 1, 1) := by decide +kernel
theorem own_d31_21 : decode method_2_code 21 = .ok (.if_icmp .ne 13, 3) := by decide +kernel
theorem own_d31_24 : decode method_2_code 24 = .ok (.ldc 7, 2) := by decide +kernel
theorem own_d31_26 : decode method_2_code 26 = .ok (.iload_n 2, 1) := by decide +kernel
theorem own_d31_27 : decode method_2_code 27 = .ok (.sipush 1023, 3) := by decide +kernel
theorem own_d31_30 : decode method_2_code 30 = .ok (.iand, 1) := by decide +kernel
theorem own_d31_31 : decode method_2_code 31 = .ok (.iadd, 1) := by decide +kernel
theorem own_d31_32 : decode method_2_code 32 = .ok (.i2c, 1) := by decide +kernel
theorem own_d31_33 : decode method_2_code 33 = .ok (.ireturn, 1) := by decide +kernel
theorem own_d31_34 : decode method_2_code 34 = .ok (.iload_n 1, 1) := by decide +kernel
theorem own_d31_35 : decode method_2_code 35 = .ok (.iconst 2, 1) := by decide +kernel
theorem own_d31_36 : decode method_2_code 36 = .ok (.if_icmp .ne 13, 3) := by decide +kernel
theorem own_d31_39 : decode method_2_code 39 = .ok (.ldc 8, 2) := by decide +kernel
theorem own_d31_41 : decode method_2_code 41 = .ok (.iload_n 2, 1) := by decide +kernel
theorem own_d31_42 : decode method_2_code 42 = .ok (.sipush 1023, 3) := by decide +kernel
theorem own_d31_45 : decode method_2_code 45 = .ok (.iand, 1) := by decide +kernel
theorem own_d31_46 : decode method_2_code 46 = .ok (.iadd, 1) := by decide +kernel
theorem own_d31_47 : decode method_2_code 47 = .ok (.i2c, 1) := by decide +kernel
theorem own_d31_48 : decode method_2_code 48 = .ok (.ireturn, 1) := by decide +kernel
theorem own_d31_49 : decode method_2_code 49 = .ok (.iload_n 2, 1) := by decide +kernel
theorem own_d31_50 : decode method_2_code 50 = .ok (.ldc 9, 2) := by decide +kernel
theorem own_d31_52 : decode method_2_code 52 = .ok (.iand, 1) := by decide +kernel
theorem own_d31_53 : decode method_2_code 53 = .ok (.i2c, 1) := by decide +kernel
theorem own_d31_54 : decode method_2_code 54 = .ok (.ireturn, 1) := by decide +kernel
theorem own_ef_draw (m : MethodId) (x0 : Int32) : entryFrame m #[(.int x0)] 3 = mkF m 0 #[iv x0, uu, uu] [] := by first | (simp [entryFrame, mkF, argsToLocals, Value.category]; done) | rfl
def Q_draw (Z : State) (p1 : Int32) (h0 : Heap) (n0 : Nat) (v : Option Value) (h : Heap) (L : List Loc) : Prop := ∃ c, v = some (.int c) ∧ (¬ c < 0 ∧ ¬ (65535 : Int32) < c) ∧ Fr n0 L ∧ h = h0
set_option maxRecDepth 65536 in
set_option maxHeartbeats 40000000 in
theorem rm_draw (l : Launch) (Z : State) (a0 : Array Value) (hw : ∀ d ∈ tables_1, d.before a0 Z = true) (ws : List Jvm.Cond) (p1 : Int32) (h0 : Heap) (n0 : Nat) (Z0 : n0 ≤ h0.size)  :
    MetFree l (⟨"com/example/shush/shush/OccurrenceMatchedPinLaw", "draw", "(I)C"⟩ : MethodName) (head1 (Jvm.Cond.code (⟨"com/example/shush/shush/OccurrenceMatchedPinLaw", "draw", "(I)C"⟩ : MethodName) method_2_code 3 (some .char) :: ws) ({ frames := 0, cells := 0, slots := 0, locals := 0 } : Room)) (fun a U => a = #[(.int p1)] ∧ Z.Warmed39 U.vm ∧ U.heap = h0) (fun _ _ _ _ _ => True) (fun _ U o U' => ∃ v L, o = .returned v ∧ Q_draw Z p1 h0 n0 v U'.heap L ∧ FrameEnd U o U' L ({ frames := 0, cells := 0, slots := 0, locals := 0 } : Room).cells ({ frames := 0, cells := 0, slots := 0, locals := 0 } : Room).slots) := by
  refine MetFree.of_bodySF (plainFor_of_name own_pn_1) hisR ?_
  intro p e s m args below meth c s₁ Bd hml0 hP hK
  obtain ⟨rfl, hZ, hh⟩ := hP
  have hx := Bd.exec
  have hby := Bd.bytes
  have hml : c.maxLocals = 3 := hml0
  have hown : s.vm.findClass "com/example/shush/shush/OccurrenceMatchedPinLaw" = some m.cls := findClass_of_methodNamed Bd.named
  have hnm := (name_of_methodNamed Bd.named Bd.method).1
  have W := own_W hw
  have X0 : Stand p l e ({ frames := 0, cells := 0, slots := 0, locals := 0 } : Room) s m #[(.int p1)] below meth c s₁ [] 0 0 := Stand.of_body Bd
  have e0 : s₁.heap = h0 := by rw [← hh, Bd.state]; rfl
  have N0 := Fr.nil n0
  have pre0 : ∀ tq, Steps p.tables e below (s₁.setTop (mkF m 0 #[iv p1, uu, uu] [])) tq → Steps p.tables e below (s₁.setTop (entryFrame m #[(.int p1)] 3)) tq := fun tq k => castTop (own_ef_draw m p1) k
  have G171 : ∀ tq, Steps p.tables e below (s₁.setTop (mkF m 9 #[iv p1, iv (p1 &&& (3 : Int32)), iv (own_ushr p1 (2 : Int32))] [.int (p1 &&& (3 : Int32))])) tq → Steps p.tables e below (s₁.setTop (mkF m 0 #[iv p1, uu, uu] [])) tq := by
    intro tq kk
    show Steps _ _ _ (s₁.setTop (mkF m 0 #[iv p1, uu, uu] [])) _
    refine XS.iloadN X0.here hx rfl (hb hby own_d31_0) rfl ?_
    show Steps _ _ _ (s₁.setTop (mkF m 1 _ [.int p1])) _
    refine XS.iconst X0.here hx rfl (hb hby own_d31_1) ?_
    show Steps _ _ _ (s₁.setTop (mkF m 2 _ [.int 3, .int p1])) _
    refine XS.iand X0.here hx rfl (hb hby own_d31_2) rfl ?_
    show Steps _ _ _ (s₁.setTop (mkF m 3 _ [.int (p1 &&& (3 : Int32))])) _
    refine XS.istoreN X0.here hx rfl (hb hby own_d31_3) rfl (l' := #[iv p1, iv (p1 &&& (3 : Int32)), uu]) rfl ?_
    show Steps _ _ _ (s₁.setTop (mkF m 4 _ [])) _
    refine XS.iloadN X0.here hx rfl (hb hby own_d31_4) rfl ?_
    show Steps _ _ _ (s₁.setTop (mkF m 5 _ [.int p1])) _
    refine XS.iconst X0.here hx rfl (hb hby own_d31_5) ?_
    show Steps _ _ _ (s₁.setTop (mkF m 6 _ [.int 2, .int p1])) _
    refine XS.iushr X0.here hx rfl (hb hby own_d31_6) rfl ?_
    show Steps _ _ _ (s₁.setTop (mkF m 7 _ [.int (own_ushr p1 (2 : Int32))])) _
    refine XS.istoreN X0.here hx rfl (hb hby own_d31_7) rfl (l' := #[iv p1, iv (p1 &&& (3 : Int32)), iv (own_ushr p1 (2 : Int32))]) rfl ?_
    show Steps _ _ _ (s₁.setTop (mkF m 8 #[iv p1, iv (p1 &&& (3 : Int32)), iv (own_ushr p1 (2 : Int32))] [])) _
    refine XS.iloadN X0.here hx rfl (hb hby own_d31_8) rfl ?_
    exact kk
  by_cases h1 : (p1 &&& (3 : Int32)) = (0 : Int32)
  · obtain ⟨fs, hr, hrun, hended, hW, hsame⟩ := X0.leave (v := some (.int (nar .char (((own_ushr p1 (2 : Int32)) &&& (255 : Int32)).toUInt32.toUInt16.toUInt32.toInt32)))) (fun h => by rw [Bd.returns] at h; cases h)
    refine ⟨_, _, pre0 _ (G171 _ (?_)), hrun, hended, _, _, rfl, ?_, ⟨_, rfl⟩, hW, hsame.mono (by decide) (by decide)⟩
    · show Steps _ _ _ (s₁.setTop (mkF m 9 #[iv p1, iv (p1 &&& (3 : Int32)), iv (own_ushr p1 (2 : Int32))] [.int (p1 &&& (3 : Int32))])) _
      refine XS.ifNo X0.here hx rfl (hb hby own_d31_9) rfl ((if0 _ _).trans (teq (h1 : (p1 &&& (3 : Int32)) = (0 : Int32))).2) ?_
      show Steps _ _ _ (s₁.setTop (mkF m 12 _ [])) _
      refine XS.iloadN X0.here hx rfl (hb hby own_d31_12) rfl ?_
      show Steps _ _ _ (s₁.setTop (mkF m 13 _ [.int (own_ushr p1 (2 : Int32))])) _
      refine XS.sipush X0.here hx rfl (hb hby own_d31_13) ?_
      show Steps _ _ _ (s₁.setTop (mkF m 16 _ [.int 255, .int (own_ushr p1 (2 : Int32))])) _
      refine XS.iand X0.here hx rfl (hb hby own_d31_16) rfl ?_
      show Steps _ _ _ (s₁.setTop (mkF m 17 _ [.int ((own_ushr p1 (2 : Int32)) &&& (255 : Int32))])) _
      refine XS.i2c X0.here hx rfl (hb hby own_d31_17) rfl ?_
      show Steps _ _ _ (s₁.setTop (mkF m 18 _ [.int (((own_ushr p1 (2 : Int32)) &&& (255 : Int32)).toUInt32.toUInt16.toUInt32.toInt32)])) _
      exact retN X0 hx (t := .char) Bd.returns (by simp) (hb hby own_d31_18) hr
    · show Q_draw Z p1 h0 n0 _ s₁.heap _
      rw [e0]
      exact ⟨_, rfl, own_charb _, N0, rfl⟩
  · by_cases h2 : (p1 &&& (3 : Int32)) = (1 : Int32)
    · obtain ⟨fs, hr, hrun, hended, hW, hsame⟩ := X0.leave (v := some (.int (nar .char (((55296 : Int32) + ((own_ushr p1 (2 : Int32)) &&& (1023 : Int32))).toUInt32.toUInt16.toUInt32.toInt32)))) (fun h => by rw [Bd.returns] at h; cases h)
      refine ⟨_, _, pre0 _ (G171 _ (?_)), hrun, hended, _, _, rfl, ?_, ⟨_, rfl⟩, hW, hsame.mono (by decide) (by decide)⟩
      · show Steps _ _ _ (s₁.setTop (mkF m 9 #[iv p1, iv (p1 &&& (3 : Int32)), iv (own_ushr p1 (2 : Int32))] [.int (p1 &&& (3 : Int32))])) _
        refine XS.ifYes X0.here hx rfl (pc0 := 9) (pc' := 19) rfl (hb hby own_d31_9) rfl ((if0 _ _).trans (feq (h1 : ¬ ((p1 &&& (3 : Int32)) = (0 : Int32)))).2) (by decide) (by decide) ?_
        show Steps _ _ _ (s₁.setTop (mkF m 19 _ [])) _
        refine XS.iloadN X0.here hx rfl (hb hby own_d31_19) rfl ?_
        show Steps _ _ _ (s₁.setTop (mkF m 20 _ [.int (p1 &&& (3 : Int32))])) _
        refine XS.iconst X0.here hx rfl (hb hby own_d31_20) ?_
        show Steps _ _ _ (s₁.setTop (mkF m 21 _ [.int 1, .int (p1 &&& (3 : Int32))])) _
        refine XS.icmpNo X0.here hx rfl (hb hby own_d31_21) rfl (teq (h2 : (p1 &&& (3 : Int32)) = (1 : Int32))).2 ?_
        show Steps _ _ _ (s₁.setTop (mkF m 24 _ [])) _
        refine Jvm.Stand.ldcI X0 hx hown (mvT hZ (W 7 rfl)) rfl (hb hby own_d31_24) ?_
        show Steps _ _ _ (s₁.setTop (mkF m 26 _ [.int 55296])) _
        refine XS.iloadN X0.here hx rfl (hb hby own_d31_26) rfl ?_
        show Steps _ _ _ (s₁.setTop (mkF m 27 _ [.int (own_ushr p1 (2 : Int32)), .int 55296])) _
        refine XS.sipush X0.here hx rfl (hb hby own_d31_27) ?_
        show Steps _ _ _ (s₁.setTop (mkF m 30 _ [.int 1023, .int (own_ushr p1 (2 : Int32)), .int 55296])) _
        refine XS.iand X0.here hx rfl (hb hby own_d31_30) rfl ?_
        show Steps _ _ _ (s₁.setTop (mkF m 31 #[iv p1, iv (p1 &&& (3 : Int32)), iv (own_ushr p1 (2 : Int32))] [.int ((own_ushr p1 (2 : Int32)) &&& (1023 : Int32)), .int 55296])) _
        refine XS.iadd X0.here hx rfl (hb hby own_d31_31) rfl ?_
        show Steps _ _ _ (s₁.setTop (mkF m 32 _ [.int ((55296 : Int32) + ((own_ushr p1 (2 : Int32)) &&& (1023 : Int32)))])) _
        refine XS.i2c X0.here hx rfl (hb hby own_d31_32) rfl ?_
        show Steps _ _ _ (s₁.setTop (mkF m 33 _ [.int (((55296 : Int32) + ((own_ushr p1 (2 : Int32)) &&& (1023 : Int32))).toUInt32.toUInt16.toUInt32.toInt32)])) _
        exact retN X0 hx (t := .char) Bd.returns (by simp) (hb hby own_d31_33) hr
      · show Q_draw Z p1 h0 n0 _ s₁.heap _
        rw [e0]
        exact ⟨_, rfl, own_charb _, N0, rfl⟩
    · by_cases h3 : (p1 &&& (3 : Int32)) = (2 : Int32)
      · obtain ⟨fs, hr, hrun, hended, hW, hsame⟩ := X0.leave (v := some (.int (nar .char (((56320 : Int32) + ((own_ushr p1 (2 : Int32)) &&& (1023 : Int32))).toUInt32.toUInt16.toUInt32.toInt32)))) (fun h => by rw [Bd.returns] at h; cases h)
        refine ⟨_, _, pre0 _ (G171 _ (?_)), hrun, hended, _, _, rfl, ?_, ⟨_, rfl⟩, hW, hsame.mono (by decide) (by decide)⟩
        · show Steps _ _ _ (s₁.setTop (mkF m 9 #[iv p1, iv (p1 &&& (3 : Int32)), iv (own_ushr p1 (2 : Int32))] [.int (p1 &&& (3 : Int32))])) _
          refine XS.ifYes X0.here hx rfl (pc0 := 9) (pc' := 19) rfl (hb hby own_d31_9) rfl ((if0 _ _).trans (feq (h1 : ¬ ((p1 &&& (3 : Int32)) = (0 : Int32)))).2) (by decide) (by decide) ?_
          show Steps _ _ _ (s₁.setTop (mkF m 19 _ [])) _
          refine XS.iloadN X0.here hx rfl (hb hby own_d31_19) rfl ?_
          show Steps _ _ _ (s₁.setTop (mkF m 20 _ [.int (p1 &&& (3 : Int32))])) _
          refine XS.iconst X0.here hx rfl (hb hby own_d31_20) ?_
          show Steps _ _ _ (s₁.setTop (mkF m 21 _ [.int 1, .int (p1 &&& (3 : Int32))])) _
          refine XS.icmpYes X0.here hx rfl (pc0 := 21) (pc' := 34) rfl (hb hby own_d31_21) rfl (feq (h2 : ¬ ((p1 &&& (3 : Int32)) = (1 : Int32)))).2 (by decide) (by decide) ?_
          show Steps _ _ _ (s₁.setTop (mkF m 34 _ [])) _
          refine XS.iloadN X0.here hx rfl (hb hby own_d31_34) rfl ?_
          show Steps _ _ _ (s₁.setTop (mkF m 35 _ [.int (p1 &&& (3 : Int32))])) _
          refine XS.iconst X0.here hx rfl (hb hby own_d31_35) ?_
          show Steps _ _ _ (s₁.setTop (mkF m 36 _ [.int 2, .int (p1 &&& (3 : Int32))])) _
          refine XS.icmpNo X0.here hx rfl (hb hby own_d31_36) rfl (teq (h3 : (p1 &&& (3 : Int32)) = (2 : Int32))).2 ?_
          show Steps _ _ _ (s₁.setTop (mkF m 39 _ [])) _
          refine Jvm.Stand.ldcI X0 hx hown (mvT hZ (W 6 rfl)) rfl (hb hby own_d31_39) ?_
          show Steps _ _ _ (s₁.setTop (mkF m 41 #[iv p1, iv (p1 &&& (3 : Int32)), iv (own_ushr p1 (2 : Int32))] [.int 56320])) _
          refine XS.iloadN X0.here hx rfl (hb hby own_d31_41) rfl ?_
          show Steps _ _ _ (s₁.setTop (mkF m 42 _ [.int (own_ushr p1 (2 : Int32)), .int 56320])) _
          refine XS.sipush X0.here hx rfl (hb hby own_d31_42) ?_
          show Steps _ _ _ (s₁.setTop (mkF m 45 _ [.int 1023, .int (own_ushr p1 (2 : Int32)), .int 56320])) _
          refine XS.iand X0.here hx rfl (hb hby own_d31_45) rfl ?_
          show Steps _ _ _ (s₁.setTop (mkF m 46 _ [.int ((own_ushr p1 (2 : Int32)) &&& (1023 : Int32)), .int 56320])) _
          refine XS.iadd X0.here hx rfl (hb hby own_d31_46) rfl ?_
          show Steps _ _ _ (s₁.setTop (mkF m 47 _ [.int ((56320 : Int32) + ((own_ushr p1 (2 : Int32)) &&& (1023 : Int32)))])) _
          refine XS.i2c X0.here hx rfl (hb hby own_d31_47) rfl ?_
          show Steps _ _ _ (s₁.setTop (mkF m 48 _ [.int (((56320 : Int32) + ((own_ushr p1 (2 : Int32)) &&& (1023 : Int32))).toUInt32.toUInt16.toUInt32.toInt32)])) _
          exact retN X0 hx (t := .char) Bd.returns (by simp) (hb hby own_d31_48) hr
        · show Q_draw Z p1 h0 n0 _ s₁.heap _
          rw [e0]
          exact ⟨_, rfl, own_charb _, N0, rfl⟩
      · obtain ⟨fs, hr, hrun, hended, hW, hsame⟩ := X0.leave (v := some (.int (nar .char (((own_ushr p1 (2 : Int32)) &&& (65535 : Int32)).toUInt32.toUInt16.toUInt32.toInt32)))) (fun h => by rw [Bd.returns] at h; cases h)
        refine ⟨_, _, pre0 _ (G171 _ (?_)), hrun, hended, _, _, rfl, ?_, ⟨_, rfl⟩, hW, hsame.mono (by decide) (by decide)⟩
        · show Steps _ _ _ (s₁.setTop (mkF m 9 #[iv p1, iv (p1 &&& (3 : Int32)), iv (own_ushr p1 (2 : Int32))] [.int (p1 &&& (3 : Int32))])) _
          refine XS.ifYes X0.here hx rfl (pc0 := 9) (pc' := 19) rfl (hb hby own_d31_9) rfl ((if0 _ _).trans (feq (h1 : ¬ ((p1 &&& (3 : Int32)) = (0 : Int32)))).2) (by decide) (by decide) ?_
          show Steps _ _ _ (s₁.setTop (mkF m 19 _ [])) _
          refine XS.iloadN X0.here hx rfl (hb hby own_d31_19) rfl ?_
          show Steps _ _ _ (s₁.setTop (mkF m 20 _ [.int (p1 &&& (3 : Int32))])) _
          refine XS.iconst X0.here hx rfl (hb hby own_d31_20) ?_
          show Steps _ _ _ (s₁.setTop (mkF m 21 _ [.int 1, .int (p1 &&& (3 : Int32))])) _
          refine XS.icmpYes X0.here hx rfl (pc0 := 21) (pc' := 34) rfl (hb hby own_d31_21) rfl (feq (h2 : ¬ ((p1 &&& (3 : Int32)) = (1 : Int32)))).2 (by decide) (by decide) ?_
          show Steps _ _ _ (s₁.setTop (mkF m 34 _ [])) _
          refine XS.iloadN X0.here hx rfl (hb hby own_d31_34) rfl ?_
          show Steps _ _ _ (s₁.setTop (mkF m 35 _ [.int (p1 &&& (3 : Int32))])) _
          refine XS.iconst X0.here hx rfl (hb hby own_d31_35) ?_
          show Steps _ _ _ (s₁.setTop (mkF m 36 _ [.int 2, .int (p1 &&& (3 : Int32))])) _
          refine XS.icmpYes X0.here hx rfl (pc0 := 36) (pc' := 49) rfl (hb hby own_d31_36) rfl (feq (h3 : ¬ ((p1 &&& (3 : Int32)) = (2 : Int32)))).2 (by decide) (by decide) ?_
          show Steps _ _ _ (s₁.setTop (mkF m 49 _ [])) _
          refine XS.iloadN X0.here hx rfl (hb hby own_d31_49) rfl ?_
          show Steps _ _ _ (s₁.setTop (mkF m 50 #[iv p1, iv (p1 &&& (3 : Int32)), iv (own_ushr p1 (2 : Int32))] [.int (own_ushr p1 (2 : Int32))])) _
          refine Jvm.Stand.ldcI X0 hx hown (mvT hZ (W 5 rfl)) rfl (hb hby own_d31_50) ?_
          show Steps _ _ _ (s₁.setTop (mkF m 52 _ [.int 65535, .int (own_ushr p1 (2 : Int32))])) _
          refine XS.iand X0.here hx rfl (hb hby own_d31_52) rfl ?_
          show Steps _ _ _ (s₁.setTop (mkF m 53 _ [.int ((own_ushr p1 (2 : Int32)) &&& (65535 : Int32))])) _
          refine XS.i2c X0.here hx rfl (hb hby own_d31_53) rfl ?_
          show Steps _ _ _ (s₁.setTop (mkF m 54 _ [.int (((own_ushr p1 (2 : Int32)) &&& (65535 : Int32)).toUInt32.toUInt16.toUInt32.toInt32)])) _
          exact retN X0 hx (t := .char) Bd.returns (by simp) (hb hby own_d31_54) hr
        · show Q_draw Z p1 h0 n0 _ s₁.heap _
          rw [e0]
          exact ⟨_, rfl, own_charb _, N0, rfl⟩
theorem own_d34_0 : decode method_5_code 0 = .ok (.aload_n 0, 1) := by decide +kernel
theorem own_d34_1 : decode method_5_code 1 = .ok (.arraylength, 1) := by decide +kernel
theorem own_d34_2 : decode method_5_code 2 = .ok (.iload_n 2, 1) := by decide +kernel
theorem own_d34_3 : decode method_5_code 3 = .ok (.if_icmp .ne 49, 3) := by decide +kernel
theorem own_d34_6 : decode method_5_code 6 = .ok (.iload_n 2, 1) := by decide +kernel
theorem own_d34_7 : decode method_5_code 7 = .ok (.iconst 1, 1) := by decide +kernel
theorem own_d34_8 : decode method_5_code 8 = .ok (.if_icmp .lt 12, 3) := by decide +kernel
theorem own_d34_20 : decode method_5_code 20 = .ok (.iload_n 2, 1) := by decide +kernel
theorem own_d34_21 : decode method_5_code 21 = .ok (.iconst 2, 1) := by decide +kernel
theorem own_d34_22 : decode method_5_code 22 = .ok (.if_icmp .lt 12, 3) := by decide +kernel
theorem own_d34_34 : decode method_5_code 34 = .ok (.iload_n 2, 1) := by decide +kernel
theorem own_d34_35 : decode method_5_code 35 = .ok (.iconst 3, 1) := by decide +kernel
theorem own_d34_36 : decode method_5_code 36 = .ok (.if_icmp .lt 12, 3) := by decide +kernel
theorem own_d34_48 : decode method_5_code 48 = .ok (.iconst 1, 1) := by decide +kernel
theorem own_d34_49 : decode method_5_code 49 = .ok (.goto 4, 3) := by decide +kernel
theorem own_d34_53 : decode method_5_code 53 = .ok (.ireturn, 1) := by decide +kernel
theorem own_ef_same0 (m : MethodId) (x0 : Addr) (x1 : Addr) (x2 : Int32) : entryFrame m #[(.ref x0), (.ref x1), (.int x2)] 3 = mkF m 0 #[rv x0, rv x1, iv x2] [] := by first | (simp [entryFrame, mkF, argsToLocals, Value.category]; done) | rfl
def Q_same0 (Z : State) (r1 e1 : Addr) (kr ke : ClassId) (h0 : Heap) (n0 : Nat) (v : Option Value) (h : Heap) (L : List Loc) : Prop := v = some (.int 1) ∧ Fr n0 L ∧ h = h0
set_option maxRecDepth 65536 in
set_option maxHeartbeats 40000000 in
theorem rm_same0 (l : Launch) (Z : State) (a0 : Array Value) (hw : ∀ d ∈ tables_1, d.before a0 Z = true) (ws : List Jvm.Cond) (r1 e1 : Addr) (kr ke : ClassId) (h0 : Heap) (n0 : Nat) (Z0 : n0 ≤ h0.size) (V1 : Arv Z h0 r1 kr .int (0 : Int32) [] (.int (0 : Int32))) (V2 : Arv Z h0 e1 ke .int (3 : Int32) [(.int (0 : Int32)), (.int (0 : Int32)), (.int (0 : Int32))] (.int (0 : Int32))) :
    MetFree l (⟨"com/example/shush/shush/OccurrenceMatchedPinLaw", "same", "([I[II)Z"⟩ : MethodName) (head1 (Jvm.Cond.code (⟨"com/example/shush/shush/OccurrenceMatchedPinLaw", "same", "([I[II)Z"⟩ : MethodName) method_5_code 3 (some .boolean) :: ws) ({ frames := 0, cells := 0, slots := 0, locals := 0 } : Room)) (fun a U => a = #[(.ref r1), (.ref e1), (.int (0 : Int32))] ∧ Z.Warmed39 U.vm ∧ U.heap = h0) (fun _ _ _ _ _ => True) (fun _ U o U' => ∃ v L, o = .returned v ∧ Q_same0 Z r1 e1 kr ke h0 n0 v U'.heap L ∧ FrameEnd U o U' L ({ frames := 0, cells := 0, slots := 0, locals := 0 } : Room).cells ({ frames := 0, cells := 0, slots := 0, locals := 0 } : Room).slots) := by
  refine MetFree.of_bodySF (plainFor_of_name own_pn_1) hisR ?_
  intro p e s m args below meth c s₁ Bd hml0 hP hK
  obtain ⟨rfl, hZ, hh⟩ := hP
  have hx := Bd.exec
  have hby := Bd.bytes
  have hml : c.maxLocals = 3 := hml0
  have hown : s.vm.findClass "com/example/shush/shush/OccurrenceMatchedPinLaw" = some m.cls := findClass_of_methodNamed Bd.named
  have hnm := (name_of_methodNamed Bd.named Bd.method).1
  have W := own_W hw
  have X0 : Stand p l e ({ frames := 0, cells := 0, slots := 0, locals := 0 } : Room) s m #[(.ref r1), (.ref e1), (.int (0 : Int32))] below meth c s₁ [] 0 0 := Stand.of_body Bd
  have e0 : s₁.heap = h0 := by rw [← hh, Bd.state]; rfl
  have N0 := Fr.nil n0
  have pre0 : ∀ tq, Steps p.tables e below (s₁.setTop (mkF m 0 #[rv r1, rv e1, iv 0] [])) tq → Steps p.tables e below (s₁.setTop (entryFrame m #[(.ref r1), (.ref e1), (.int (0 : Int32))] 3)) tq := fun tq k => castTop (own_ef_same0 m r1 e1 (0 : Int32)) k
  obtain ⟨cl172, Ar172, aq172, aS172, aN172, aH172, aG172⟩ := id V1
  obtain ⟨fs, hr, hrun, hended, hW, hsame⟩ := X0.leave (v := some (.int (1 : Int32))) (fun h => by rw [Bd.returns] at h; cases h)
  refine ⟨_, _, pre0 _ (?_), hrun, hended, _, _, rfl, ?_, ⟨_, rfl⟩, hW, hsame.mono (by decide) (by decide)⟩
  · show Steps _ _ _ (s₁.setTop (mkF m 0 #[rv r1, rv e1, iv 0] [])) _
    refine XS.aloadN X0.here hx rfl (hb hby own_d34_0) rfl rfl ?_
    show Steps _ _ _ (s₁.setTop (mkF m 1 _ [.ref r1])) _
    refine X0.arraylength hx (by rw [e0]; exact Ar172.1) (State.isArrayOf_alike hZ.alike Ar172.2.1) (g := (mkF m 1 #[rv r1, rv e1, iv 0] [.ref r1])) rfl rfl (hb hby own_d34_1) _ ?_
    rw [len_of aS172 aN172]
    show Steps _ _ _ (s₁.setTop (mkF m 2 #[rv r1, rv e1, iv 0] [.int 0])) _
    refine XS.iloadN X0.here hx rfl (hb hby own_d34_2) rfl ?_
    show Steps _ _ _ (s₁.setTop (mkF m 3 _ [.int 0, .int 0])) _
    refine XS.icmpNo X0.here hx rfl (hb hby own_d34_3) rfl (teq (rfl : (0 : Int32) = (0 : Int32))).2 ?_
    show Steps _ _ _ (s₁.setTop (mkF m 6 _ [])) _
    refine XS.iloadN X0.here hx rfl (hb hby own_d34_6) rfl ?_
    show Steps _ _ _ (s₁.setTop (mkF m 7 _ [.int 0])) _
    refine XS.iconst X0.here hx rfl (hb hby own_d34_7) ?_
    show Steps _ _ _ (s₁.setTop (mkF m 8 _ [.int 1, .int 0])) _
    refine XS.icmpYes X0.here hx rfl (pc0 := 8) (pc' := 20) rfl (hb hby own_d34_8) rfl (tlt ((by decide) : (0 : Int32) < (1 : Int32))).1 (by decide) (by decide) ?_
    show Steps _ _ _ (s₁.setTop (mkF m 20 _ [])) _
    refine XS.iloadN X0.here hx rfl (hb hby own_d34_20) rfl ?_
    show Steps _ _ _ (s₁.setTop (mkF m 21 _ [.int 0])) _
    refine XS.iconst X0.here hx rfl (hb hby own_d34_21) ?_
    show Steps _ _ _ (s₁.setTop (mkF m 22 _ [.int 2, .int 0])) _
    refine XS.icmpYes X0.here hx rfl (pc0 := 22) (pc' := 34) rfl (hb hby own_d34_22) rfl (tlt ((by decide) : (0 : Int32) < (2 : Int32))).1 (by decide) (by decide) ?_
    show Steps _ _ _ (s₁.setTop (mkF m 34 #[rv r1, rv e1, iv 0] [])) _
    refine XS.iloadN X0.here hx rfl (hb hby own_d34_34) rfl ?_
    show Steps _ _ _ (s₁.setTop (mkF m 35 _ [.int 0])) _
    refine XS.iconst X0.here hx rfl (hb hby own_d34_35) ?_
    show Steps _ _ _ (s₁.setTop (mkF m 36 _ [.int 3, .int 0])) _
    refine XS.icmpYes X0.here hx rfl (pc0 := 36) (pc' := 48) rfl (hb hby own_d34_36) rfl (tlt ((by decide) : (0 : Int32) < (3 : Int32))).1 (by decide) (by decide) ?_
    show Steps _ _ _ (s₁.setTop (mkF m 48 _ [])) _
    refine XS.iconst X0.here hx rfl (hb hby own_d34_48) ?_
    show Steps _ _ _ (s₁.setTop (mkF m 49 _ [.int 1])) _
    refine XS.goto X0.here hx rfl (pc0 := 49) (pc' := 53) rfl (hb hby own_d34_49) (by decide) (by decide) ?_
    show Steps _ _ _ (s₁.setTop (mkF m 53 _ [.int 1])) _
    exact retN X0 hx (t := .boolean) Bd.returns (by simp) (hb hby own_d34_53) hr
  · show Q_same0 Z r1 e1 kr ke h0 n0 _ s₁.heap _
    rw [e0]
    exact ⟨rfl, N0, rfl⟩
theorem own_d34_11 : decode method_5_code 11 = .ok (.aload_n 0, 1) := by decide +kernel
theorem own_d34_12 : decode method_5_code 12 = .ok (.iconst 0, 1) := by decide +kernel
theorem own_d34_13 : decode method_5_code 13 = .ok (.iaload, 1) := by decide +kernel
theorem own_d34_14 : decode method_5_code 14 = .ok (.aload_n 1, 1) := by decide +kernel
theorem own_d34_15 : decode method_5_code 15 = .ok (.iconst 0, 1) := by decide +kernel
theorem own_d34_16 : decode method_5_code 16 = .ok (.iaload, 1) := by decide +kernel
theorem own_d34_17 : decode method_5_code 17 = .ok (.if_icmp .ne 35, 3) := by decide +kernel
theorem own_ef_same1 (m : MethodId) (x0 : Addr) (x1 : Addr) (x2 : Int32) : entryFrame m #[(.ref x0), (.ref x1), (.int x2)] 3 = mkF m 0 #[rv x0, rv x1, iv x2] [] := by first | (simp [entryFrame, mkF, argsToLocals, Value.category]; done) | rfl
def Q_same1 (Z : State) (r1 e1 : Addr) (kr ke : ClassId) (x0 : Int32) (h0 : Heap) (n0 : Nat) (v : Option Value) (h : Heap) (L : List Loc) : Prop := v = some (.int 1) ∧ Fr n0 L ∧ h = h0
set_option maxRecDepth 65536 in
set_option maxHeartbeats 40000000 in
theorem rm_same1 (l : Launch) (Z : State) (a0 : Array Value) (hw : ∀ d ∈ tables_1, d.before a0 Z = true) (ws : List Jvm.Cond) (r1 e1 : Addr) (kr ke : ClassId) (x0 : Int32) (h0 : Heap) (n0 : Nat) (Z0 : n0 ≤ h0.size) (V1 : Arv Z h0 r1 kr .int (1 : Int32) [(.int x0)] (.int (0 : Int32))) (V2 : Arv Z h0 e1 ke .int (3 : Int32) [(.int x0), (.int (0 : Int32)), (.int (0 : Int32))] (.int (0 : Int32))) :
    MetFree l (⟨"com/example/shush/shush/OccurrenceMatchedPinLaw", "same", "([I[II)Z"⟩ : MethodName) (head1 (Jvm.Cond.code (⟨"com/example/shush/shush/OccurrenceMatchedPinLaw", "same", "([I[II)Z"⟩ : MethodName) method_5_code 3 (some .boolean) :: ws) ({ frames := 0, cells := 0, slots := 0, locals := 0 } : Room)) (fun a U => a = #[(.ref r1), (.ref e1), (.int (1 : Int32))] ∧ Z.Warmed39 U.vm ∧ U.heap = h0) (fun _ _ _ _ _ => True) (fun _ U o U' => ∃ v L, o = .returned v ∧ Q_same1 Z r1 e1 kr ke x0 h0 n0 v U'.heap L ∧ FrameEnd U o U' L ({ frames := 0, cells := 0, slots := 0, locals := 0 } : Room).cells ({ frames := 0, cells := 0, slots := 0, locals := 0 } : Room).slots) := by
  refine MetFree.of_bodySF (plainFor_of_name own_pn_1) hisR ?_
  intro p e s m args below meth c s₁ Bd hml0 hP hK
  obtain ⟨rfl, hZ, hh⟩ := hP
  have hx := Bd.exec
  have hby := Bd.bytes
  have hml : c.maxLocals = 3 := hml0
  have hown : s.vm.findClass "com/example/shush/shush/OccurrenceMatchedPinLaw" = some m.cls := findClass_of_methodNamed Bd.named
  have hnm := (name_of_methodNamed Bd.named Bd.method).1
  have W := own_W hw
  have X0 : Stand p l e ({ frames := 0, cells := 0, slots := 0, locals := 0 } : Room) s m #[(.ref r1), (.ref e1), (.int (1 : Int32))] below meth c s₁ [] 0 0 := Stand.of_body Bd
  have e0 : s₁.heap = h0 := by rw [← hh, Bd.state]; rfl
  have N0 := Fr.nil n0
  have pre0 : ∀ tq, Steps p.tables e below (s₁.setTop (mkF m 0 #[rv r1, rv e1, iv 1] [])) tq → Steps p.tables e below (s₁.setTop (entryFrame m #[(.ref r1), (.ref e1), (.int (1 : Int32))] 3)) tq := fun tq k => castTop (own_ef_same1 m r1 e1 (1 : Int32)) k
  obtain ⟨cl173, Ar173, aq173, aS173, aN173, aH173, aG173⟩ := id V1
  obtain ⟨cl174, Ar174, aq174, aS174, aN174, aH174, aG174⟩ := id V2
  obtain ⟨fs, hr, hrun, hended, hW, hsame⟩ := X0.leave (v := some (.int (1 : Int32))) (fun h => by rw [Bd.returns] at h; cases h)
  refine ⟨_, _, pre0 _ (?_), hrun, hended, _, _, rfl, ?_, ⟨_, rfl⟩, hW, hsame.mono (by decide) (by decide)⟩
  · show Steps _ _ _ (s₁.setTop (mkF m 0 #[rv r1, rv e1, iv 1] [])) _
    refine XS.aloadN X0.here hx rfl (hb hby own_d34_0) rfl rfl ?_
    show Steps _ _ _ (s₁.setTop (mkF m 1 _ [.ref r1])) _
    refine X0.arraylength hx (by rw [e0]; exact Ar173.1) (State.isArrayOf_alike hZ.alike Ar173.2.1) (g := (mkF m 1 #[rv r1, rv e1, iv 1] [.ref r1])) rfl rfl (hb hby own_d34_1) _ ?_
    rw [len_of aS173 aN173]
    show Steps _ _ _ (s₁.setTop (mkF m 2 #[rv r1, rv e1, iv 1] [.int 1])) _
    refine XS.iloadN X0.here hx rfl (hb hby own_d34_2) rfl ?_
    show Steps _ _ _ (s₁.setTop (mkF m 3 _ [.int 1, .int 1])) _
    refine XS.icmpNo X0.here hx rfl (hb hby own_d34_3) rfl (teq (rfl : (1 : Int32) = (1 : Int32))).2 ?_
    show Steps _ _ _ (s₁.setTop (mkF m 6 _ [])) _
    refine XS.iloadN X0.here hx rfl (hb hby own_d34_6) rfl ?_
    show Steps _ _ _ (s₁.setTop (mkF m 7 _ [.int 1])) _
    refine XS.iconst X0.here hx rfl (hb hby own_d34_7) ?_
    show Steps _ _ _ (s₁.setTop (mkF m 8 _ [.int 1, .int 1])) _
    refine XS.icmpNo X0.here hx rfl (hb hby own_d34_8) rfl (flt ((by decide) : ¬ ((1 : Int32) < (1 : Int32)))).1 ?_
    show Steps _ _ _ (s₁.setTop (mkF m 11 _ [])) _
    refine XS.aloadN X0.here hx rfl (hb hby own_d34_11) rfl rfl ?_
    show Steps _ _ _ (s₁.setTop (mkF m 12 _ [.ref r1])) _
    refine XS.iconst X0.here hx rfl (hb hby own_d34_12) ?_
    show Steps _ _ _ (s₁.setTop (mkF m 13 _ [.int 0, .ref r1])) _
    refine X0.iaload hx (j := (0 : Int32)) (v := (.int x0)) (by rw [e0]; exact Ar173.1) (State.isArrayOf_alike hZ.alike Ar173.2.1) Ar173.2.2 (inb_of aS173 ⟨(by decide), (by decide)⟩) (Has.at aH173 (inb_of aS173 ⟨(by decide), (by decide)⟩) rfl) (g := (mkF m 13 #[rv r1, rv e1, iv 1] [.int 0, .ref r1])) rfl rfl (hb hby own_d34_13) _ ?_
    show Steps _ _ _ (s₁.setTop (mkF m 14 #[rv r1, rv e1, iv 1] [.int x0])) _
    refine XS.aloadN X0.here hx rfl (hb hby own_d34_14) rfl rfl ?_
    show Steps _ _ _ (s₁.setTop (mkF m 15 _ [.ref e1, .int x0])) _
    refine XS.iconst X0.here hx rfl (hb hby own_d34_15) ?_
    show Steps _ _ _ (s₁.setTop (mkF m 16 _ [.int 0, .ref e1, .int x0])) _
    refine X0.iaload hx (j := (0 : Int32)) (v := (.int x0)) (by rw [e0]; exact Ar174.1) (State.isArrayOf_alike hZ.alike Ar174.2.1) Ar174.2.2 (inb_of aS174 ⟨(by decide), (by decide)⟩) (Has.at aH174 (inb_of aS174 ⟨(by decide), (by decide)⟩) rfl) (g := (mkF m 16 #[rv r1, rv e1, iv 1] [.int 0, .ref e1, .int x0])) rfl rfl (hb hby own_d34_16) _ ?_
    show Steps _ _ _ (s₁.setTop (mkF m 17 #[rv r1, rv e1, iv 1] [.int x0, .int x0])) _
    refine XS.icmpNo X0.here hx rfl (hb hby own_d34_17) rfl (teq (rfl : x0 = x0)).2 ?_
    show Steps _ _ _ (s₁.setTop (mkF m 20 _ [])) _
    refine XS.iloadN X0.here hx rfl (hb hby own_d34_20) rfl ?_
    show Steps _ _ _ (s₁.setTop (mkF m 21 _ [.int 1])) _
    refine XS.iconst X0.here hx rfl (hb hby own_d34_21) ?_
    show Steps _ _ _ (s₁.setTop (mkF m 22 _ [.int 2, .int 1])) _
    refine XS.icmpYes X0.here hx rfl (pc0 := 22) (pc' := 34) rfl (hb hby own_d34_22) rfl (tlt ((by decide) : (1 : Int32) < (2 : Int32))).1 (by decide) (by decide) ?_
    show Steps _ _ _ (s₁.setTop (mkF m 34 _ [])) _
    refine XS.iloadN X0.here hx rfl (hb hby own_d34_34) rfl ?_
    show Steps _ _ _ (s₁.setTop (mkF m 35 _ [.int 1])) _
    refine XS.iconst X0.here hx rfl (hb hby own_d34_35) ?_
    show Steps _ _ _ (s₁.setTop (mkF m 36 _ [.int 3, .int 1])) _
    refine XS.icmpYes X0.here hx rfl (pc0 := 36) (pc' := 48) rfl (hb hby own_d34_36) rfl (tlt ((by decide) : (1 : Int32) < (3 : Int32))).1 (by decide) (by decide) ?_
    show Steps _ _ _ (s₁.setTop (mkF m 48 _ [])) _
    refine XS.iconst X0.here hx rfl (hb hby own_d34_48) ?_
    show Steps _ _ _ (s₁.setTop (mkF m 49 #[rv r1, rv e1, iv 1] [.int 1])) _
    refine XS.goto X0.here hx rfl (pc0 := 49) (pc' := 53) rfl (hb hby own_d34_49) (by decide) (by decide) ?_
    show Steps _ _ _ (s₁.setTop (mkF m 53 _ [.int 1])) _
    exact retN X0 hx (t := .boolean) Bd.returns (by simp) (hb hby own_d34_53) hr
  · show Q_same1 Z r1 e1 kr ke x0 h0 n0 _ s₁.heap _
    rw [e0]
    exact ⟨rfl, N0, rfl⟩
theorem own_d34_25 : decode method_5_code 25 = .ok (.aload_n 0, 1) := by decide +kernel
theorem own_d34_26 : decode method_5_code 26 = .ok (.iconst 1, 1) := by decide +kernel
theorem own_d34_27 : decode method_5_code 27 = .ok (.iaload, 1) := by decide +kernel
theorem own_d34_28 : decode method_5_code 28 = .ok (.aload_n 1, 1) := by decide +kernel
theorem own_d34_29 : decode method_5_code 29 = .ok (.iconst 1, 1) := by decide +kernel
theorem own_d34_30 : decode method_5_code 30 = .ok (.iaload, 1) := by decide +kernel
theorem own_d34_31 : decode method_5_code 31 = .ok (.if_icmp .ne 21, 3) := by decide +kernel
theorem own_ef_same2 (m : MethodId) (x0 : Addr) (x1 : Addr) (x2 : Int32) : entryFrame m #[(.ref x0), (.ref x1), (.int x2)] 3 = mkF m 0 #[rv x0, rv x1, iv x2] [] := by first | (simp [entryFrame, mkF, argsToLocals, Value.category]; done) | rfl
def Q_same2 (Z : State) (r1 e1 : Addr) (kr ke : ClassId) (x0 x1 : Int32) (h0 : Heap) (n0 : Nat) (v : Option Value) (h : Heap) (L : List Loc) : Prop := v = some (.int 1) ∧ Fr n0 L ∧ h = h0
set_option maxRecDepth 65536 in
set_option maxHeartbeats 40000000 in
theorem rm_same2 (l : Launch) (Z : State) (a0 : Array Value) (hw : ∀ d ∈ tables_1, d.before a0 Z = true) (ws : List Jvm.Cond) (r1 e1 : Addr) (kr ke : ClassId) (x0 x1 : Int32) (h0 : Heap) (n0 : Nat) (Z0 : n0 ≤ h0.size) (V1 : Arv Z h0 r1 kr .int (2 : Int32) [(.int x0), (.int x1)] (.int (0 : Int32))) (V2 : Arv Z h0 e1 ke .int (3 : Int32) [(.int x0), (.int x1), (.int (0 : Int32))] (.int (0 : Int32))) :
    MetFree l (⟨"com/example/shush/shush/OccurrenceMatchedPinLaw", "same", "([I[II)Z"⟩ : MethodName) (head1 (Jvm.Cond.code (⟨"com/example/shush/shush/OccurrenceMatchedPinLaw", "same", "([I[II)Z"⟩ : MethodName) method_5_code 3 (some .boolean) :: ws) ({ frames := 0, cells := 0, slots := 0, locals := 0 } : Room)) (fun a U => a = #[(.ref r1), (.ref e1), (.int (2 : Int32))] ∧ Z.Warmed39 U.vm ∧ U.heap = h0) (fun _ _ _ _ _ => True) (fun _ U o U' => ∃ v L, o = .returned v ∧ Q_same2 Z r1 e1 kr ke x0 x1 h0 n0 v U'.heap L ∧ FrameEnd U o U' L ({ frames := 0, cells := 0, slots := 0, locals := 0 } : Room).cells ({ frames := 0, cells := 0, slots := 0, locals := 0 } : Room).slots) := by
  refine MetFree.of_bodySF (plainFor_of_name own_pn_1) hisR ?_
  intro p e s m args below meth c s₁ Bd hml0 hP hK
  obtain ⟨rfl, hZ, hh⟩ := hP
  have hx := Bd.exec
  have hby := Bd.bytes
  have hml : c.maxLocals = 3 := hml0
  have hown : s.vm.findClass "com/example/shush/shush/OccurrenceMatchedPinLaw" = some m.cls := findClass_of_methodNamed Bd.named
  have hnm := (name_of_methodNamed Bd.named Bd.method).1
  have W := own_W hw
  have X0 : Stand p l e ({ frames := 0, cells := 0, slots := 0, locals := 0 } : Room) s m #[(.ref r1), (.ref e1), (.int (2 : Int32))] below meth c s₁ [] 0 0 := Stand.of_body Bd
  have e0 : s₁.heap = h0 := by rw [← hh, Bd.state]; rfl
  have N0 := Fr.nil n0
  have pre0 : ∀ tq, Steps p.tables e below (s₁.setTop (mkF m 0 #[rv r1, rv e1, iv 2] [])) tq → Steps p.tables e below (s₁.setTop (entryFrame m #[(.ref r1), (.ref e1), (.int (2 : Int32))] 3)) tq := fun tq k => castTop (own_ef_same2 m r1 e1 (2 : Int32)) k
  obtain ⟨cl175, Ar175, aq175, aS175, aN175, aH175, aG175⟩ := id V1
  obtain ⟨cl176, Ar176, aq176, aS176, aN176, aH176, aG176⟩ := id V2
  obtain ⟨fs, hr, hrun, hended, hW, hsame⟩ := X0.leave (v := some (.int (1 : Int32))) (fun h => by rw [Bd.returns] at h; cases h)
  refine ⟨_, _, pre0 _ (?_), hrun, hended, _, _, rfl, ?_, ⟨_, rfl⟩, hW, hsame.mono (by decide) (by decide)⟩
  · show Steps _ _ _ (s₁.setTop (mkF m 0 #[rv r1, rv e1, iv 2] [])) _
    refine XS.aloadN X0.here hx rfl (hb hby own_d34_0) rfl rfl ?_
    show Steps _ _ _ (s₁.setTop (mkF m 1 _ [.ref r1])) _
    refine X0.arraylength hx (by rw [e0]; exact Ar175.1) (State.isArrayOf_alike hZ.alike Ar175.2.1) (g := (mkF m 1 #[rv r1, rv e1, iv 2] [.ref r1])) rfl rfl (hb hby own_d34_1) _ ?_
    rw [len_of aS175 aN175]
    show Steps _ _ _ (s₁.setTop (mkF m 2 #[rv r1, rv e1, iv 2] [.int 2])) _
    refine XS.iloadN X0.here hx rfl (hb hby own_d34_2) rfl ?_
    show Steps _ _ _ (s₁.setTop (mkF m 3 _ [.int 2, .int 2])) _
    refine XS.icmpNo X0.here hx rfl (hb hby own_d34_3) rfl (teq (rfl : (2 : Int32) = (2 : Int32))).2 ?_
    show Steps _ _ _ (s₁.setTop (mkF m 6 _ [])) _
    refine XS.iloadN X0.here hx rfl (hb hby own_d34_6) rfl ?_
    show Steps _ _ _ (s₁.setTop (mkF m 7 _ [.int 2])) _
    refine XS.iconst X0.here hx rfl (hb hby own_d34_7) ?_
    show Steps _ _ _ (s₁.setTop (mkF m 8 _ [.int 1, .int 2])) _
    refine XS.icmpNo X0.here hx rfl (hb hby own_d34_8) rfl (flt ((by decide) : ¬ ((2 : Int32) < (1 : Int32)))).1 ?_
    show Steps _ _ _ (s₁.setTop (mkF m 11 _ [])) _
    refine XS.aloadN X0.here hx rfl (hb hby own_d34_11) rfl rfl ?_
    show Steps _ _ _ (s₁.setTop (mkF m 12 _ [.ref r1])) _
    refine XS.iconst X0.here hx rfl (hb hby own_d34_12) ?_
    show Steps _ _ _ (s₁.setTop (mkF m 13 _ [.int 0, .ref r1])) _
    refine X0.iaload hx (j := (0 : Int32)) (v := (.int x0)) (by rw [e0]; exact Ar175.1) (State.isArrayOf_alike hZ.alike Ar175.2.1) Ar175.2.2 (inb_of aS175 ⟨(by decide), (by decide)⟩) (Has.at aH175 (inb_of aS175 ⟨(by decide), (by decide)⟩) rfl) (g := (mkF m 13 #[rv r1, rv e1, iv 2] [.int 0, .ref r1])) rfl rfl (hb hby own_d34_13) _ ?_
    show Steps _ _ _ (s₁.setTop (mkF m 14 #[rv r1, rv e1, iv 2] [.int x0])) _
    refine XS.aloadN X0.here hx rfl (hb hby own_d34_14) rfl rfl ?_
    show Steps _ _ _ (s₁.setTop (mkF m 15 _ [.ref e1, .int x0])) _
    refine XS.iconst X0.here hx rfl (hb hby own_d34_15) ?_
    show Steps _ _ _ (s₁.setTop (mkF m 16 _ [.int 0, .ref e1, .int x0])) _
    refine X0.iaload hx (j := (0 : Int32)) (v := (.int x0)) (by rw [e0]; exact Ar176.1) (State.isArrayOf_alike hZ.alike Ar176.2.1) Ar176.2.2 (inb_of aS176 ⟨(by decide), (by decide)⟩) (Has.at aH176 (inb_of aS176 ⟨(by decide), (by decide)⟩) rfl) (g := (mkF m 16 #[rv r1, rv e1, iv 2] [.int 0, .ref e1, .int x0])) rfl rfl (hb hby own_d34_16) _ ?_
    show Steps _ _ _ (s₁.setTop (mkF m 17 #[rv r1, rv e1, iv 2] [.int x0, .int x0])) _
    refine XS.icmpNo X0.here hx rfl (hb hby own_d34_17) rfl (teq (rfl : x0 = x0)).2 ?_
    show Steps _ _ _ (s₁.setTop (mkF m 20 _ [])) _
    refine XS.iloadN X0.here hx rfl (hb hby own_d34_20) rfl ?_
    show Steps _ _ _ (s₁.setTop (mkF m 21 _ [.int 2])) _
    refine XS.iconst X0.here hx rfl (hb hby own_d34_21) ?_
    show Steps _ _ _ (s₁.setTop (mkF m 22 _ [.int 2, .int 2])) _
    refine XS.icmpNo X0.here hx rfl (hb hby own_d34_22) rfl (flt ((by decide) : ¬ ((2 : Int32) < (2 : Int32)))).1 ?_
    show Steps _ _ _ (s₁.setTop (mkF m 25 _ [])) _
    refine XS.aloadN X0.here hx rfl (hb hby own_d34_25) rfl rfl ?_
    show Steps _ _ _ (s₁.setTop (mkF m 26 _ [.ref r1])) _
    refine XS.iconst X0.here hx rfl (hb hby own_d34_26) ?_
    show Steps _ _ _ (s₁.setTop (mkF m 27 _ [.int 1, .ref r1])) _
    refine X0.iaload hx (j := (1 : Int32)) (v := (.int x1)) (by rw [e0]; exact Ar175.1) (State.isArrayOf_alike hZ.alike Ar175.2.1) Ar175.2.2 (inb_of aS175 ⟨(by decide), (by decide)⟩) (Has.at aH175 (inb_of aS175 ⟨(by decide), (by decide)⟩) rfl) (g := (mkF m 27 #[rv r1, rv e1, iv 2] [.int 1, .ref r1])) rfl rfl (hb hby own_d34_27) _ ?_
    show Steps _ _ _ (s₁.setTop (mkF m 28 #[rv r1, rv e1, iv 2] [.int x1])) _
    refine XS.aloadN X0.here hx rfl (hb hby own_d34_28) rfl rfl ?_
    show Steps _ _ _ (s₁.setTop (mkF m 29 _ [.ref e1, .int x1])) _
    refine XS.iconst X0.here hx rfl (hb hby own_d34_29) ?_
    show Steps _ _ _ (s₁.setTop (mkF m 30 _ [.int 1, .ref e1, .int x1])) _
    refine X0.iaload hx (j := (1 : Int32)) (v := (.int x1)) (by rw [e0]; exact Ar176.1) (State.isArrayOf_alike hZ.alike Ar176.2.1) Ar176.2.2 (inb_of aS176 ⟨(by decide), (by decide)⟩) (Has.at aH176 (inb_of aS176 ⟨(by decide), (by decide)⟩) rfl) (g := (mkF m 30 #[rv r1, rv e1, iv 2] [.int 1, .ref e1, .int x1])) rfl rfl (hb hby own_d34_30) _ ?_
    show Steps _ _ _ (s₁.setTop (mkF m 31 #[rv r1, rv e1, iv 2] [.int x1, .int x1])) _
    refine XS.icmpNo X0.here hx rfl (hb hby own_d34_31) rfl (teq (rfl : x1 = x1)).2 ?_
    show Steps _ _ _ (s₁.setTop (mkF m 34 _ [])) _
    refine XS.iloadN X0.here hx rfl (hb hby own_d34_34) rfl ?_
    show Steps _ _ _ (s₁.setTop (mkF m 35 _ [.int 2])) _
    refine XS.iconst X0.here hx rfl (hb hby own_d34_35) ?_
    show Steps _ _ _ (s₁.setTop (mkF m 36 _ [.int 3, .int 2])) _
    refine XS.icmpYes X0.here hx rfl (pc0 := 36) (pc' := 48) rfl (hb hby own_d34_36) rfl (tlt ((by decide) : (2 : Int32) < (3 : Int32))).1 (by decide) (by decide) ?_
    show Steps _ _ _ (s₁.setTop (mkF m 48 _ [])) _
    refine XS.iconst X0.here hx rfl (hb hby own_d34_48) ?_
    show Steps _ _ _ (s₁.setTop (mkF m 49 _ [.int 1])) _
    refine XS.goto X0.here hx rfl (pc0 := 49) (pc' := 53) rfl (hb hby own_d34_49) (by decide) (by decide) ?_
    show Steps _ _ _ (s₁.setTop (mkF m 53 _ [.int 1])) _
    exact retN X0 hx (t := .boolean) Bd.returns (by simp) (hb hby own_d34_53) hr
  · show Q_same2 Z r1 e1 kr ke x0 x1 h0 n0 _ s₁.heap _
    rw [e0]
    exact ⟨rfl, N0, rfl⟩
theorem own_d34_39 : decode method_5_code 39 = .ok (.aload_n 0, 1) := by decide +kernel
theorem own_d34_40 : decode method_5_code 40 = .ok (.iconst 2, 1) := by decide +kernel
theorem own_d34_41 : decode method_5_code 41 = .ok (.iaload, 1) := by decide +kernel
theorem own_d34_42 : decode method_5_code 42 = .ok (.aload_n 1, 1) := by decide +kernel
theorem own_d34_43 : decode method_5_code 43 = .ok (.iconst 2, 1) := by decide +kernel
theorem own_d34_44 : decode method_5_code 44 = .ok (.iaload, 1) := by decide +kernel
theorem own_d34_45 : decode method_5_code 45 = .ok (.if_icmp .ne 7, 3) := by decide +kernel
theorem own_ef_same3 (m : MethodId) (x0 : Addr) (x1 : Addr) (x2 : Int32) : entryFrame m #[(.ref x0), (.ref x1), (.int x2)] 3 = mkF m 0 #[rv x0, rv x1, iv x2] [] := by first | (simp [entryFrame, mkF, argsToLocals, Value.category]; done) | rfl
def Q_same3 (Z : State) (r1 e1 : Addr) (kr ke : ClassId) (x0 x1 x2 : Int32) (h0 : Heap) (n0 : Nat) (v : Option Value) (h : Heap) (L : List Loc) : Prop := v = some (.int 1) ∧ Fr n0 L ∧ h = h0
set_option maxRecDepth 65536 in
set_option maxHeartbeats 40000000 in
theorem rm_same3 (l : Launch) (Z : State) (a0 : Array Value) (hw : ∀ d ∈ tables_1, d.before a0 Z = true) (ws : List Jvm.Cond) (r1 e1 : Addr) (kr ke : ClassId) (x0 x1 x2 : Int32) (h0 : Heap) (n0 : Nat) (Z0 : n0 ≤ h0.size) (V1 : Arv Z h0 r1 kr .int (3 : Int32) [(.int x0), (.int x1), (.int x2)] (.int (0 : Int32))) (V2 : Arv Z h0 e1 ke .int (3 : Int32) [(.int x0), (.int x1), (.int x2)] (.int (0 : Int32))) :
    MetFree l (⟨"com/example/shush/shush/OccurrenceMatchedPinLaw", "same", "([I[II)Z"⟩ : MethodName) (head1 (Jvm.Cond.code (⟨"com/example/shush/shush/OccurrenceMatchedPinLaw", "same", "([I[II)Z"⟩ : MethodName) method_5_code 3 (some .boolean) :: ws) ({ frames := 0, cells := 0, slots := 0, locals := 0 } : Room)) (fun a U => a = #[(.ref r1), (.ref e1), (.int (3 : Int32))] ∧ Z.Warmed39 U.vm ∧ U.heap = h0) (fun _ _ _ _ _ => True) (fun _ U o U' => ∃ v L, o = .returned v ∧ Q_same3 Z r1 e1 kr ke x0 x1 x2 h0 n0 v U'.heap L ∧ FrameEnd U o U' L ({ frames := 0, cells := 0, slots := 0, locals := 0 } : Room).cells ({ frames := 0, cells := 0, slots := 0, locals := 0 } : Room).slots) := by
  refine MetFree.of_bodySF (plainFor_of_name own_pn_1) hisR ?_
  intro p e s m args below meth c s₁ Bd hml0 hP hK
  obtain ⟨rfl, hZ, hh⟩ := hP
  have hx := Bd.exec
  have hby := Bd.bytes
  have hml : c.maxLocals = 3 := hml0
  have hown : s.vm.findClass "com/example/shush/shush/OccurrenceMatchedPinLaw" = some m.cls := findClass_of_methodNamed Bd.named
  have hnm := (name_of_methodNamed Bd.named Bd.method).1
  have W := own_W hw
  have X0 : Stand p l e ({ frames := 0, cells := 0, slots := 0, locals := 0 } : Room) s m #[(.ref r1), (.ref e1), (.int (3 : Int32))] below meth c s₁ [] 0 0 := Stand.of_body Bd
  have e0 : s₁.heap = h0 := by rw [← hh, Bd.state]; rfl
  have N0 := Fr.nil n0
  have pre0 : ∀ tq, Steps p.tables e below (s₁.setTop (mkF m 0 #[rv r1, rv e1, iv 3] [])) tq → Steps p.tables e below (s₁.setTop (entryFrame m #[(.ref r1), (.ref e1), (.int (3 : Int32))] 3)) tq := fun tq k => castTop (own_ef_same3 m r1 e1 (3 : Int32)) k
  obtain ⟨cl177, Ar177, aq177, aS177, aN177, aH177, aG177⟩ := id V1
  obtain ⟨cl178, Ar178, aq178, aS178, aN178, aH178, aG178⟩ := id V2
  obtain ⟨fs, hr, hrun, hended, hW, hsame⟩ := X0.leave (v := some (.int (1 : Int32))) (fun h => by rw [Bd.returns] at h; cases h)
  refine ⟨_, _, pre0 _ (?_), hrun, hended, _, _, rfl, ?_, ⟨_, rfl⟩, hW, hsame.mono (by decide) (by decide)⟩
  · show Steps _ _ _ (s₁.setTop (mkF m 0 #[rv r1, rv e1, iv 3] [])) _
    refine XS.aloadN X0.here hx rfl (hb hby own_d34_0) rfl rfl ?_
    show Steps _ _ _ (s₁.setTop (mkF m 1 _ [.ref r1])) _
    refine X0.arraylength hx (by rw [e0]; exact Ar177.1) (State.isArrayOf_alike hZ.alike Ar177.2.1) (g := (mkF m 1 #[rv r1, rv e1, iv 3] [.ref r1])) rfl rfl (hb hby own_d34_1) _ ?_
    rw [len_of aS177 aN177]
    show Steps _ _ _ (s₁.setTop (mkF m 2 #[rv r1, rv e1, iv 3] [.int 3])) _
    refine XS.iloadN X0.here hx rfl (hb hby own_d34_2) rfl ?_
    show Steps _ _ _ (s₁.setTop (mkF m 3 _ [.int 3, .int 3])) _
    refine XS.icmpNo X0.here hx rfl (hb hby own_d34_3) rfl (teq (rfl : (3 : Int32) = (3 : Int32))).2 ?_
    show Steps _ _ _ (s₁.setTop (mkF m 6 _ [])) _
    refine XS.iloadN X0.here hx rfl (hb hby own_d34_6) rfl ?_
    show Steps _ _ _ (s₁.setTop (mkF m 7 _ [.int 3])) _
    refine XS.iconst X0.here hx rfl (hb hby own_d34_7) ?_
    show Steps _ _ _ (s₁.setTop (mkF m 8 _ [.int 1, .int 3])) _
    refine XS.icmpNo X0.here hx rfl (hb hby own_d34_8) rfl (flt ((by decide) : ¬ ((3 : Int32) < (1 : Int32)))).1 ?_
    show Steps _ _ _ (s₁.setTop (mkF m 11 _ [])) _
    refine XS.aloadN X0.here hx rfl (hb hby own_d34_11) rfl rfl ?_
    show Steps _ _ _ (s₁.setTop (mkF m 12 _ [.ref r1])) _
    refine XS.iconst X0.here hx rfl (hb hby own_d34_12) ?_
    show Steps _ _ _ (s₁.setTop (mkF m 13 _ [.int 0, .ref r1])) _
    refine X0.iaload hx (j := (0 : Int32)) (v := (.int x0)) (by rw [e0]; exact Ar177.1) (State.isArrayOf_alike hZ.alike Ar177.2.1) Ar177.2.2 (inb_of aS177 ⟨(by decide), (by decide)⟩) (Has.at aH177 (inb_of aS177 ⟨(by decide), (by decide)⟩) rfl) (g := (mkF m 13 #[rv r1, rv e1, iv 3] [.int 0, .ref r1])) rfl rfl (hb hby own_d34_13) _ ?_
    show Steps _ _ _ (s₁.setTop (mkF m 14 #[rv r1, rv e1, iv 3] [.int x0])) _
    refine XS.aloadN X0.here hx rfl (hb hby own_d34_14) rfl rfl ?_
    show Steps _ _ _ (s₁.setTop (mkF m 15 _ [.ref e1, .int x0])) _
    refine XS.iconst X0.here hx rfl (hb hby own_d34_15) ?_
    show Steps _ _ _ (s₁.setTop (mkF m 16 _ [.int 0, .ref e1, .int x0])) _
    refine X0.iaload hx (j := (0 : Int32)) (v := (.int x0)) (by rw [e0]; exact Ar178.1) (State.isArrayOf_alike hZ.alike Ar178.2.1) Ar178.2.2 (inb_of aS178 ⟨(by decide), (by decide)⟩) (Has.at aH178 (inb_of aS178 ⟨(by decide), (by decide)⟩) rfl) (g := (mkF m 16 #[rv r1, rv e1, iv 3] [.int 0, .ref e1, .int x0])) rfl rfl (hb hby own_d34_16) _ ?_
    show Steps _ _ _ (s₁.setTop (mkF m 17 #[rv r1, rv e1, iv 3] [.int x0, .int x0])) _
    refine XS.icmpNo X0.here hx rfl (hb hby own_d34_17) rfl (teq (rfl : x0 = x0)).2 ?_
    show Steps _ _ _ (s₁.setTop (mkF m 20 _ [])) _
    refine XS.iloadN X0.here hx rfl (hb hby own_d34_20) rfl ?_
    show Steps _ _ _ (s₁.setTop (mkF m 21 _ [.int 3])) _
    refine XS.iconst X0.here hx rfl (hb hby own_d34_21) ?_
    show Steps _ _ _ (s₁.setTop (mkF m 22 _ [.int 2, .int 3])) _
    refine XS.icmpNo X0.here hx rfl (hb hby own_d34_22) rfl (flt ((by decide) : ¬ ((3 : Int32) < (2 : Int32)))).1 ?_
    show Steps _ _ _ (s₁.setTop (mkF m 25 _ [])) _
    refine XS.aloadN X0.here hx rfl (hb hby own_d34_25) rfl rfl ?_
    show Steps _ _ _ (s₁.setTop (mkF m 26 _ [.ref r1])) _
    refine XS.iconst X0.here hx rfl (hb hby own_d34_26) ?_
    show Steps _ _ _ (s₁.setTop (mkF m 27 _ [.int 1, .ref r1])) _
    refine X0.iaload hx (j := (1 : Int32)) (v := (.int x1)) (by rw [e0]; exact Ar177.1) (State.isArrayOf_alike hZ.alike Ar177.2.1) Ar177.2.2 (inb_of aS177 ⟨(by decide), (by decide)⟩) (Has.at aH177 (inb_of aS177 ⟨(by decide), (by decide)⟩) rfl) (g := (mkF m 27 #[rv r1, rv e1, iv 3] [.int 1, .ref r1])) rfl rfl (hb hby own_d34_27) _ ?_
    show Steps _ _ _ (s₁.setTop (mkF m 28 #[rv r1, rv e1, iv 3] [.int x1])) _
    refine XS.aloadN X0.here hx rfl (hb hby own_d34_28) rfl rfl ?_
    show Steps _ _ _ (s₁.setTop (mkF m 29 _ [.ref e1, .int x1])) _
    refine XS.iconst X0.here hx rfl (hb hby own_d34_29) ?_
    show Steps _ _ _ (s₁.setTop (mkF m 30 _ [.int 1, .ref e1, .int x1])) _
    refine X0.iaload hx (j := (1 : Int32)) (v := (.int x1)) (by rw [e0]; exact Ar178.1) (State.isArrayOf_alike hZ.alike Ar178.2.1) Ar178.2.2 (inb_of aS178 ⟨(by decide), (by decide)⟩) (Has.at aH178 (inb_of aS178 ⟨(by decide), (by decide)⟩) rfl) (g := (mkF m 30 #[rv r1, rv e1, iv 3] [.int 1, .ref e1, .int x1])) rfl rfl (hb hby own_d34_30) _ ?_
    show Steps _ _ _ (s₁.setTop (mkF m 31 #[rv r1, rv e1, iv 3] [.int x1, .int x1])) _
    refine XS.icmpNo X0.here hx rfl (hb hby own_d34_31) rfl (teq (rfl : x1 = x1)).2 ?_
    show Steps _ _ _ (s₁.setTop (mkF m 34 _ [])) _
    refine XS.iloadN X0.here hx rfl (hb hby own_d34_34) rfl ?_
    show Steps _ _ _ (s₁.setTop (mkF m 35 _ [.int 3])) _
    refine XS.iconst X0.here hx rfl (hb hby own_d34_35) ?_
    show Steps _ _ _ (s₁.setTop (mkF m 36 _ [.int 3, .int 3])) _
    refine XS.icmpNo X0.here hx rfl (hb hby own_d34_36) rfl (flt ((by decide) : ¬ ((3 : Int32) < (3 : Int32)))).1 ?_
    show Steps _ _ _ (s₁.setTop (mkF m 39 _ [])) _
    refine XS.aloadN X0.here hx rfl (hb hby own_d34_39) rfl rfl ?_
    show Steps _ _ _ (s₁.setTop (mkF m 40 _ [.ref r1])) _
    refine XS.iconst X0.here hx rfl (hb hby own_d34_40) ?_
    show Steps _ _ _ (s₁.setTop (mkF m 41 _ [.int 2, .ref r1])) _
    refine X0.iaload hx (j := (2 : Int32)) (v := (.int x2)) (by rw [e0]; exact Ar177.1) (State.isArrayOf_alike hZ.alike Ar177.2.1) Ar177.2.2 (inb_of aS177 ⟨(by decide), (by decide)⟩) (Has.at aH177 (inb_of aS177 ⟨(by decide), (by decide)⟩) rfl) (g := (mkF m 41 #[rv r1, rv e1, iv 3] [.int 2, .ref r1])) rfl rfl (hb hby own_d34_41) _ ?_
    show Steps _ _ _ (s₁.setTop (mkF m 42 #[rv r1, rv e1, iv 3] [.int x2])) _
    refine XS.aloadN X0.here hx rfl (hb hby own_d34_42) rfl rfl ?_
    show Steps _ _ _ (s₁.setTop (mkF m 43 _ [.ref e1, .int x2])) _
    refine XS.iconst X0.here hx rfl (hb hby own_d34_43) ?_
    show Steps _ _ _ (s₁.setTop (mkF m 44 _ [.int 2, .ref e1, .int x2])) _
    refine X0.iaload hx (j := (2 : Int32)) (v := (.int x2)) (by rw [e0]; exact Ar178.1) (State.isArrayOf_alike hZ.alike Ar178.2.1) Ar178.2.2 (inb_of aS178 ⟨(by decide), (by decide)⟩) (Has.at aH178 (inb_of aS178 ⟨(by decide), (by decide)⟩) rfl) (g := (mkF m 44 #[rv r1, rv e1, iv 3] [.int 2, .ref e1, .int x2])) rfl rfl (hb hby own_d34_44) _ ?_
    show Steps _ _ _ (s₁.setTop (mkF m 45 #[rv r1, rv e1, iv 3] [.int x2, .int x2])) _
    refine XS.icmpNo X0.here hx rfl (hb hby own_d34_45) rfl (teq (rfl : x2 = x2)).2 ?_
    show Steps _ _ _ (s₁.setTop (mkF m 48 _ [])) _
    refine XS.iconst X0.here hx rfl (hb hby own_d34_48) ?_
    show Steps _ _ _ (s₁.setTop (mkF m 49 _ [.int 1])) _
    refine XS.goto X0.here hx rfl (pc0 := 49) (pc' := 53) rfl (hb hby own_d34_49) (by decide) (by decide) ?_
    show Steps _ _ _ (s₁.setTop (mkF m 53 _ [.int 1])) _
    exact retN X0 hx (t := .boolean) Bd.returns (by simp) (hb hby own_d34_53) hr
  · show Q_same3 Z r1 e1 kr ke x0 x1 x2 h0 n0 _ s₁.heap _
    rw [e0]
    exact ⟨rfl, N0, rfl⟩
theorem own_pn_7 : plainName "java/util/Objects" = true := by decide +kernel
theorem own_d1_0 : decode jdk_31_method_11_code 0 = .ok (.aload_n 0, 1) := by decide +kernel
theorem own_d1_1 : decode jdk_31_method_11_code 1 = .ok (.ifnonnull 12, 3) := by decide +kernel
theorem own_d1_13 : decode jdk_31_method_11_code 13 = .ok (.aload_n 0, 1) := by decide +kernel
theorem own_d1_14 : decode jdk_31_method_11_code 14 = .ok (.areturn, 1) := by decide +kernel
theorem own_ef_rnn (m : MethodId) (x0 : Addr) (x1 : Addr) : entryFrame m #[(.ref x0), (.ref x1)] 2 = mkF m 0 #[rv x0, rv x1] [] := by first | (simp [entryFrame, mkF, argsToLocals, Value.category]; done) | rfl
def Q_rnn (Z : State) (a1 b1 : Addr) (h0 : Heap) (n0 : Nat) (v : Option Value) (h : Heap) (L : List Loc) : Prop := v = some (.ref a1) ∧ Fr n0 L ∧ h = h0
set_option maxRecDepth 65536 in
set_option maxHeartbeats 40000000 in
theorem rm_rnn (l : Launch) (Z : State) (a0 : Array Value) (hw : ∀ d ∈ tables_1, d.before a0 Z = true) (ws : List Jvm.Cond) (a1 b1 : Addr) (h0 : Heap) (n0 : Nat) (Z0 : n0 ≤ h0.size)  :
    MetFree l (⟨"java/util/Objects", "requireNonNull", "(Ljava/lang/Object;Ljava/lang/String;)Ljava/lang/Object;"⟩ : MethodName) (head1 (Jvm.Cond.code (⟨"java/util/Objects", "requireNonNull", "(Ljava/lang/Object;Ljava/lang/String;)Ljava/lang/Object;"⟩ : MethodName) jdk_31_method_11_code 2 (some (.object "java/lang/Object")) :: ws) ({ frames := 0, cells := 0, slots := 0, locals := 0 } : Room)) (fun a U => a = #[(.ref a1), (.ref b1)] ∧ Z.Warmed39 U.vm ∧ U.heap = h0) (fun _ _ _ _ _ => True) (fun _ U o U' => ∃ v L, o = .returned v ∧ Q_rnn Z a1 b1 h0 n0 v U'.heap L ∧ FrameEnd U o U' L ({ frames := 0, cells := 0, slots := 0, locals := 0 } : Room).cells ({ frames := 0, cells := 0, slots := 0, locals := 0 } : Room).slots) := by
  refine MetFree.of_bodySF (plainFor_of_name own_pn_7) hisR ?_
  intro p e s m args below meth c s₁ Bd hml0 hP hK
  obtain ⟨rfl, hZ, hh⟩ := hP
  have hx := Bd.exec
  have hby := Bd.bytes
  have hml : c.maxLocals = 2 := hml0
  have hown : s.vm.findClass "java/util/Objects" = some m.cls := findClass_of_methodNamed Bd.named
  have hnm := (name_of_methodNamed Bd.named Bd.method).1
  have W := own_W hw
  have X0 : Stand p l e ({ frames := 0, cells := 0, slots := 0, locals := 0 } : Room) s m #[(.ref a1), (.ref b1)] below meth c s₁ [] 0 0 := Stand.of_body Bd
  have e0 : s₁.heap = h0 := by rw [← hh, Bd.state]; rfl
  have N0 := Fr.nil n0
  have pre0 : ∀ tq, Steps p.tables e below (s₁.setTop (mkF m 0 #[rv a1, rv b1] [])) tq → Steps p.tables e below (s₁.setTop (entryFrame m #[(.ref a1), (.ref b1)] 2)) tq := fun tq k => castTop (own_ef_rnn m a1 b1) k
  obtain ⟨fs, hr, hrun, hended, hW, hsame⟩ := X0.leave (v := some (.ref a1)) (fun h => by rw [Bd.returns] at h; cases h)
  refine ⟨_, _, pre0 _ (?_), hrun, hended, _, _, rfl, ?_, ⟨_, rfl⟩, hW, hsame.mono (by decide) (by decide)⟩
  · show Steps _ _ _ (s₁.setTop (mkF m 0 #[rv a1, rv b1] [])) _
    refine XS.aloadN X0.here hx rfl (hb hby own_d1_0) rfl rfl ?_
    show Steps _ _ _ (s₁.setTop (mkF m 1 _ [.ref a1])) _
    refine XS.ifnonnullYes X0.here hx rfl (pc0 := 1) (pc' := 13) rfl (hb hby own_d1_1) rfl (by decide) (by decide) ?_
    show Steps _ _ _ (s₁.setTop (mkF m 13 _ [])) _
    refine XS.aloadN X0.here hx rfl (hb hby own_d1_13) rfl rfl ?_
    show Steps _ _ _ (s₁.setTop (mkF m 14 _ [.ref a1])) _
    exact retOut X0 hx Bd.returns rfl (Or.inr (Or.inr (Or.inr (Or.inr ⟨rfl, rfl, rfl⟩)))) (hb hby own_d1_14) hr
  · show Q_rnn Z a1 b1 h0 n0 _ s₁.heap _
    rw [e0]
    exact ⟨rfl, N0, rfl⟩
theorem own_pn_0 : plainName "com/example/shush/shush/Occurrence" = true := by decide +kernel
theorem own_d36_0 : decode prog_16_method_1_code 0 = .ok (.aload_n 0, 1) := by decide +kernel
theorem own_d36_1 : decode prog_16_method_1_code 1 = .ok (.invokespecial 1, 3) := by decide +kernel
theorem own_d36_4 : decode prog_16_method_1_code 4 = .ok (.aload_n 0, 1) := by decide +kernel
theorem own_d36_5 : decode prog_16_method_1_code 5 = .ok (.aload_n 1, 1) := by decide +kernel
theorem own_d36_6 : decode prog_16_method_1_code 6 = .ok (.ldc 7, 2) := by decide +kernel
theorem own_d36_8 : decode prog_16_method_1_code 8 = .ok (.invokestatic 9, 3) := by decide +kernel
theorem own_pd_5 : parseMethodDescriptor "(Ljava/lang/Object;Ljava/lang/String;)Ljava/lang/Object;" = some ⟨[(.object "java/lang/Object"), (.object "java/lang/String")], some (.object "java/lang/Object")⟩ := by decide +kernel
theorem own_d36_11 : decode prog_16_method_1_code 11 = .ok (.checkcast 15, 3) := by decide +kernel
theorem own_d36_14 : decode prog_16_method_1_code 14 = .ok (.putfield 17, 3) := by decide +kernel
theorem own_d36_17 : decode prog_16_method_1_code 17 = .ok (.aload_n 0, 1) := by decide +kernel
theorem own_d36_18 : decode prog_16_method_1_code 18 = .ok (.iload_n 2, 1) := by decide +kernel
theorem own_d36_19 : decode prog_16_method_1_code 19 = .ok (.putfield 22, 3) := by decide +kernel
theorem own_d36_22 : decode prog_16_method_1_code 22 = .ok (.aload_n 0, 1) := by decide +kernel
theorem own_d36_23 : decode prog_16_method_1_code 23 = .ok (.iload_n 3, 1) := by decide +kernel
theorem own_d36_24 : decode prog_16_method_1_code 24 = .ok (.putfield 26, 3) := by decide +kernel
theorem own_d36_27 : decode prog_16_method_1_code 27 = .ok (.aload_n 0, 1) := by decide +kernel
theorem own_d36_28 : decode prog_16_method_1_code 28 = .ok (.aconst_null, 1) := by decide +kernel
theorem own_d36_29 : decode prog_16_method_1_code 29 = .ok (.putfield 29, 3) := by decide +kernel
theorem own_d36_32 : decode prog_16_method_1_code 32 = .ok (.return_, 1) := by decide +kernel
theorem own_ef_oinit (m : MethodId) (x0 : Addr) (x1 : Addr) (x2 : Int32) (x3 : Int32) : entryFrame m #[(.ref x0), (.ref x1), (.int x2), (.int x3)] 4 = mkF m 0 #[rv x0, rv x1, iv x2, iv x3] [] := by first | (simp [entryFrame, mkF, argsToLocals, Value.category]; done) | rfl
def Q_oinit (Z : State) (a1 x1 : Addr) (b1 e1 : Int32) (h0 : Heap) (n0 : Nat) (v : Option Value) (h : Heap) (L : List Loc) : Prop := v = none ∧ Fr n0 L ∧ Keep h0 h [a1] ∧ Exa Z h a1 "com/example/shush/shush/Occurrence" ∧ Fld Z h a1 "com/example/shush/shush/Occurrence" "word" "Ljava/lang/String;" (.ref x1) ∧ Fld Z h a1 "com/example/shush/shush/Occurrence" "begin" "I" (.int b1) ∧ Fld Z h a1 "com/example/shush/shush/Occurrence" "matched" "[I" .null
set_option maxRecDepth 65536 in
set_option maxHeartbeats 40000000 in
theorem rm_oinit (l : Launch) (Z : State) (a0 : Array Value) (hw : ∀ d ∈ tables_1, d.before a0 Z = true) (ws : List Jvm.Cond) (a1 x1 : Addr) (b1 e1 : Int32) (h0 : Heap) (n0 : Nat) (Z0 : n0 ≤ h0.size) (E1 : Exa Z h0 a1 "com/example/shush/shush/Occurrence") (g1 : n0 ≤ a1) (F1 : Fld Z h0 a1 "com/example/shush/shush/Occurrence" "word" "Ljava/lang/String;" .null) (F2 : Fld Z h0 a1 "com/example/shush/shush/Occurrence" "begin" "I" (.int (0 : Int32))) (F3 : Fld Z h0 a1 "com/example/shush/shush/Occurrence" "end" "I" (.int (0 : Int32))) (F4 : Fld Z h0 a1 "com/example/shush/shush/Occurrence" "matched" "[I" .null) (E2 : Exa Z h0 x1 "java/lang/String") :
    MetFree l (⟨"com/example/shush/shush/Occurrence", "<init>", "(Ljava/lang/String;II)V"⟩ : MethodName) (head1 (Jvm.Cond.code (⟨"com/example/shush/shush/Occurrence", "<init>", "(Ljava/lang/String;II)V"⟩ : MethodName) prog_16_method_1_code 4 none :: ws) ({ frames := 1, cells := 2, slots := 20, locals := 16 } : Room)) (fun a U => a = #[(.ref a1), (.ref x1), (.int b1), (.int e1)] ∧ Z.Warmed39 U.vm ∧ U.heap = h0 ∧ own_J Z own_EL [a1] h0 U.vm) (fun _ _ _ _ _ => True) (fun _ U o U' => ∃ v L, o = .returned v ∧ Q_oinit Z a1 x1 b1 e1 h0 n0 v U'.heap L ∧ CHr Z own_EL U.vm U.heap U'.vm U'.heap ∧ ReturnedEndW U o U' L ({ frames := 1, cells := 2, slots := 20, locals := 16 } : Room).cells ({ frames := 1, cells := 2, slots := 20, locals := 16 } : Room).slots) := by
  refine MetFree.of_bodySF (plainFor_of_name own_pn_0) hisR ?_
  intro p e s m args below meth c s₁ Bd hml0 hP hK
  obtain ⟨rfl, hZ, hh, hJ⟩ := hP
  have hx := Bd.exec
  have hby := Bd.bytes
  have hml : c.maxLocals = 4 := hml0
  have hown : s.vm.findClass "com/example/shush/shush/Occurrence" = some m.cls := findClass_of_methodNamed Bd.named
  have hnm := (name_of_methodNamed Bd.named Bd.method).1
  have W := own_W hw
  have X0 : Stand p l e ({ frames := 1, cells := 2, slots := 20, locals := 16 } : Room) s m #[(.ref a1), (.ref x1), (.int b1), (.int e1)] below meth c s₁ [] 0 0 := Stand.of_body Bd
  have e0 : s₁.heap = h0 := by rw [← hh, Bd.state]; rfl
  have N0 := Fr.nil n0
  have pre0 : ∀ tq, Steps p.tables e below (s₁.setTop (mkF m 0 #[rv a1, rv x1, iv b1, iv e1] [])) tq → Steps p.tables e below (s₁.setTop (entryFrame m #[(.ref a1), (.ref x1), (.int b1), (.int e1)] 4)) tq := fun tq k => castTop (own_ef_oinit m a1 x1 b1 e1) k
  have hEL := own_EW hw
  have wS : ∀ d ∈ Bundle.stringAtoms, d.before a0 Z = true := fun d hd => hw d ((by decide +kernel : ∀ d ∈ Bundle.stringAtoms, d ∈ tables_1) d hd)
  have hS0 : s.Since s.vm 0 := (State.WarmedH.refl s).since 0
  have hk0 : 0 ≤ h0.size := Nat.zero_le _
  have CH0 : CHv Z own_EL s.vm h0 := hJ.1
  have CR0 : CHr Z own_EL s.vm h0 s.vm h0 := CHr.refl CH0
  have X0 : Stand p l e ({ frames := 1, cells := 2, slots := 20, locals := 16 } : Room) (s.setVm s.vm) m #[(.ref a1), (.ref x1), (.int b1), (.int e1)] below meth c s₁ [] 0 0 := X0
  have sf_a1 : Safe Z own_EL s.vm h0 a1 := hJ.2 a1 (by simp)
  have K179 : Keep h0 h0 [a1] := Keep.refl h0 [a1]
  obtain ⟨T180, X180, e180, st180⟩ := initO X0 hx hZ hown (W 37 rfl) (W 20 rfl) (W 21 rfl) e0 (g := (mkF m 1 #[rv a1, rv x1, iv b1, iv e1] [.ref a1])) rfl (by rw [hml]; rfl) rfl (hb hby own_d36_1) (by decide) (W := 0) own_wt (by decide)
  obtain ⟨la181, T181, h181, kx181, lb181, lk181, X181, e181, E181, hS181, hk181, hZ181, hown181, lE181, lC181, lV181, lA181, l1181, l2181, A181, lL181, lsf181, st181⟩ := ldcCH (s := s) X180 hx hZ hown (W 38 rfl) wS e180 hS0 hk0 hEL (by simp) CH0 (vs := [(.int (119 : Int32)), (.int (111 : Int32)), (.int (114 : Int32)), (.int (100 : Int32))]) (z := (4 : Int32)) ⟨by decide, by rfl⟩ (by decide) rfl (g := (mkF m 6 #[rv a1, rv x1, iv b1, iv e1] [.ref x1, .ref a1])) rfl (hb hby own_d36_6) (n := 16) (by decide) (by decide) (by decide) (by decide)
  have CR182 := CR0.trans A181
  have Z183 : n0 ≤ h181.size := Nat.le_trans Z0 E181.1
  have K184 : Keep h0 h181 [a1] := K179.ext E181
  obtain ⟨_, _, ⟨T185, L185, k185, n185⟩, -, X185, ⟨Lc185, hQ185, l185, y185, z185⟩, st185⟩ := Jvm.LawKit.callS X181 hx (y := (⟨"java/util/Objects", "requireNonNull", "(Ljava/lang/Object;Ljava/lang/String;)Ljava/lang/Object;"⟩ : MethodName)) hown181 (mvT hZ181 (W 39 rfl)) (mvT hZ181 (W 40 rfl)) (mvT hZ181 (W 41 rfl)) (mvT hZ181 (W 42 rfl)) (by decide) (backOf (W := 1) (rm_rnn l Z a0 hw [] x1 la181 h181 n0 Z183 ) hZ181 (W 42 rfl) (W 41 rfl) (by decide) (by decide)) (g := (mkF m 8 #[rv a1, rv x1, iv b1, iv e1] [.ref la181, .ref x1, .ref a1])) rfl (by rw [hml]; rfl) (argsL := [.ref x1, .ref la181]) (rest := [.ref a1]) (lenOf own_pd_5 rfl) rfl own_wt (hb hby own_d36_8) (fun _ _ => ⟨rfl, e181, (by decide : 2 + 0 ≤ _), (by decide : 20 + 0 ≤ _)⟩)
  dsimp only [Pt.U, Pt.locs, Pt.cells, Pt.slots] at X185 l185 y185 z185 st185 hQ185
  subst l185 y185 z185
  obtain ⟨rfl, Nq185, e185⟩ := hQ185
  have N185 := Fr.app N0 Nq185
  have f187 := (E2.ext E181)
  obtain ⟨T186, X186, e186, st186⟩ := castY X185 hx hZ181 hown181 (W 43 rfl) e185 (Ins.self f187) (g := (mkF m 11 #[rv a1, rv x1, iv b1, iv e1] [.ref x1, .ref a1])) rfl rfl (hb hby own_d36_11)
  have f189 := (F1.ext E181)
  have f190 := (E1.ext E181)
  obtain ⟨T188, h188, X188, e188, W188, st188⟩ := putF X186 hx hZ181 hown181 (host := "") (Or.inl (W 44 rfl)) Via.refl e186 f189 f190 (Or.inr ⟨(W 45 rfl), rfl, hnm⟩) (W 32 rfl) (ty := (.object "java/lang/String")) (by decide) rfl rfl (g := (mkF m 14 #[rv a1, rv x1, iv b1, iv e1] [.ref x1, .ref a1])) rfl rfl (hb hby own_d36_14)
  have N188 := Fr.snoc X188 N185 g1
  have Fw188 := f189.same W188
  have f192 := (A181.safe E1.lt sf_a1)
  have CR191 := CR182.trans (CHr.wr W188 f192 CR182.1)
  have Z193 : n0 ≤ h188.size := Nat.le_trans Z183 (Keep.of_wr W188).1
  have K194 : Keep h0 h188 [a1] := K184.wr W188 (Or.inl (List.mem_of_getElem? (i := 0) rfl))
  have hk195 := Nat.le_trans hk181 (Keep.of_wr W188).1
  have f197 := ((F2.ext E181).other W188 (Or.inr (slot_ne (Or.inr (W 47 rfl)) (Or.inr (W 45 rfl)) (by decide) (t := .int) (t' := (.object "java/lang/String")) (by decide) (by decide))))
  have f198 := (f190.wr W188)
  obtain ⟨T196, h196, X196, e196, W196, st196⟩ := putF X188 hx hZ181 hown181 (host := "") (Or.inl (W 46 rfl)) Via.refl e188 f197 f198 (Or.inr ⟨(W 47 rfl), rfl, hnm⟩) (W 32 rfl) (ty := .int) (by decide) rfl rfl (g := (mkF m 19 #[rv a1, rv x1, iv b1, iv e1] [.int b1, .ref a1])) rfl rfl (hb hby own_d36_19)
  have N196 := Fr.snoc X196 N188 g1
  have Fw196 := f197.same W196
  have f200 := (Nat.lt_of_lt_of_le E1.lt E181.1)
  have f201 := ((CHr.wr W188 f192 CR182.1).safe f200 f192)
  have CR199 := CR191.trans (CHr.wr W196 f201 CR191.1)
  have Z202 : n0 ≤ h196.size := Nat.le_trans Z193 (Keep.of_wr W196).1
  have K203 : Keep h0 h196 [a1] := K194.wr W196 (Or.inl (List.mem_of_getElem? (i := 0) rfl))
  have hk204 := Nat.le_trans hk195 (Keep.of_wr W196).1
  have f206 := (((F3.ext E181).other W188 (Or.inr (slot_ne (Or.inr (W 49 rfl)) (Or.inr (W 45 rfl)) (by decide) (t := .int) (t' := (.object "java/lang/String")) (by decide) (by decide)))).other W196 (Or.inr (slot_ne (Or.inr (W 49 rfl)) (Or.inr (W 47 rfl)) (by decide) (t := .int) (t' := .int) (by decide) (by decide))))
  have f207 := (f198.wr W196)
  obtain ⟨T205, h205, X205, e205, W205, st205⟩ := putF X196 hx hZ181 hown181 (host := "") (Or.inl (W 48 rfl)) Via.refl e196 f206 f207 (Or.inr ⟨(W 49 rfl), rfl, hnm⟩) (W 32 rfl) (ty := .int) (by decide) rfl rfl (g := (mkF m 24 #[rv a1, rv x1, iv b1, iv e1] [.int e1, .ref a1])) rfl rfl (hb hby own_d36_24)
  have N205 := Fr.snoc X205 N196 g1
  have Fw205 := f206.same W205
  have f209 := (Nat.lt_of_lt_of_le f200 (Keep.of_wr W188).1)
  have f210 := ((CHr.wr W196 f201 CR191.1).safe f209 f201)
  have CR208 := CR199.trans (CHr.wr W205 f210 CR199.1)
  have Z211 : n0 ≤ h205.size := Nat.le_trans Z202 (Keep.of_wr W205).1
  have K212 : Keep h0 h205 [a1] := K203.wr W205 (Or.inl (List.mem_of_getElem? (i := 0) rfl))
  have hk213 := Nat.le_trans hk204 (Keep.of_wr W205).1
  have f215 := ((((F4.ext E181).other W188 (Or.inr (slot_ne (Or.inr (W 51 rfl)) (Or.inr (W 45 rfl)) (by decide) (t := (.array .int)) (t' := (.object "java/lang/String")) (by decide) (by decide)))).other W196 (Or.inr (slot_ne (Or.inr (W 51 rfl)) (Or.inr (W 47 rfl)) (by decide) (t := (.array .int)) (t' := .int) (by decide) (by decide)))).other W205 (Or.inr (slot_ne (Or.inr (W 51 rfl)) (Or.inr (W 49 rfl)) (by decide) (t := (.array .int)) (t' := .int) (by decide) (by decide))))
  have f216 := (f207.wr W205)
  obtain ⟨T214, h214, X214, e214, W214, st214⟩ := putF X205 hx hZ181 hown181 (host := "") (Or.inl (W 50 rfl)) Via.refl e205 f215 f216 (Or.inr ⟨(W 51 rfl), rfl, hnm⟩) (W 32 rfl) (ty := (.array .int)) (by decide) rfl rfl (g := (mkF m 29 #[rv a1, rv x1, iv b1, iv e1] [.null, .ref a1])) rfl rfl (hb hby own_d36_29)
  have N214 := Fr.snoc X214 N205 g1
  have Fw214 := f215.same W214
  have f218 := (Nat.lt_of_lt_of_le f209 (Keep.of_wr W196).1)
  have f219 := ((CHr.wr W205 f210 CR199.1).safe f218 f210)
  have CR217 := CR208.trans (CHr.wr W214 f219 CR208.1)
  have Z220 : n0 ≤ h214.size := Nat.le_trans Z211 (Keep.of_wr W214).1
  have K221 : Keep h0 h214 [a1] := K212.wr W214 (Or.inl (List.mem_of_getElem? (i := 0) rfl))
  have hk222 := Nat.le_trans hk213 (Keep.of_wr W214).1
  have f223 := (f216.wr W214)
  have f224 := (((Fw188.other W196 (Or.inr (slot_ne (Or.inr (W 45 rfl)) (Or.inr (W 47 rfl)) (by decide) (t := (.object "java/lang/String")) (t' := .int) (by decide) (by decide)))).other W205 (Or.inr (slot_ne (Or.inr (W 45 rfl)) (Or.inr (W 49 rfl)) (by decide) (t := (.object "java/lang/String")) (t' := .int) (by decide) (by decide)))).other W214 (Or.inr (slot_ne (Or.inr (W 45 rfl)) (Or.inr (W 51 rfl)) (by decide) (t := (.object "java/lang/String")) (t' := (.array .int)) (by decide) (by decide))))
  have f225 := ((Fw196.other W205 (Or.inr (slot_ne (Or.inr (W 47 rfl)) (Or.inr (W 49 rfl)) (by decide) (t := .int) (t' := .int) (by decide) (by decide)))).other W214 (Or.inr (slot_ne (Or.inr (W 47 rfl)) (Or.inr (W 51 rfl)) (by decide) (t := .int) (t' := (.array .int)) (by decide) (by decide))))
  have CRe := CR217.trans (CHv.at X214 hZ181 hEL CR217.1)
  obtain ⟨fs, hr, hrun, hended, hRW⟩ := X214.leaveW hS181 (by rw [e214]; exact hk222) (v := none) (fun _ => rfl)
  refine ⟨_, _, pre0 _ (?_), hrun, hended, _, _, rfl, ?_, (by rw [hh]; show CHr Z _ s.vm h0 T214.vm T214.heap; rw [e214]; exact CRe), hRW.1, hRW.2.1, hRW.2.2.1, hRW.2.2.2.mono (by decide) (by decide)⟩
  · show Steps _ _ _ (s₁.setTop (mkF m 0 #[rv a1, rv x1, iv b1, iv e1] [])) _
    refine XS.aloadN X0.here hx rfl (hb hby own_d36_0) rfl rfl ?_
    show Steps _ _ _ (s₁.setTop (mkF m 1 _ [.ref a1])) _
    refine st180 _ ?_
    show Steps _ _ _ (T180.setTop (mkF m 4 #[rv a1, rv x1, iv b1, iv e1] [])) _
    refine XS.aloadN X180.here hx rfl (hb hby own_d36_4) rfl rfl ?_
    show Steps _ _ _ (T180.setTop (mkF m 5 _ [.ref a1])) _
    refine XS.aloadN X180.here hx rfl (hb hby own_d36_5) rfl rfl ?_
    show Steps _ _ _ (T180.setTop (mkF m 6 _ [.ref x1, .ref a1])) _
    refine st181 _ ?_
    show Steps _ _ _ (T181.setTop (mkF m 8 #[rv a1, rv x1, iv b1, iv e1] [.ref la181, .ref x1, .ref a1])) _
    refine st185 _ ?_
    show Steps _ _ _ (T185.setTop (mkF m 11 #[rv a1, rv x1, iv b1, iv e1] [.ref x1, .ref a1])) _
    refine st186 _ ?_
    show Steps _ _ _ (T186.setTop (mkF m 14 #[rv a1, rv x1, iv b1, iv e1] [.ref x1, .ref a1])) _
    refine st188 _ ?_
    show Steps _ _ _ (T188.setTop (mkF m 17 #[rv a1, rv x1, iv b1, iv e1] [])) _
    refine XS.aloadN X188.here hx rfl (hb hby own_d36_17) rfl rfl ?_
    show Steps _ _ _ (T188.setTop (mkF m 18 _ [.ref a1])) _
    refine XS.iloadN X188.here hx rfl (hb hby own_d36_18) rfl ?_
    show Steps _ _ _ (T188.setTop (mkF m 19 _ [.int b1, .ref a1])) _
    refine st196 _ ?_
    show Steps _ _ _ (T196.setTop (mkF m 22 #[rv a1, rv x1, iv b1, iv e1] [])) _
    refine XS.aloadN X196.here hx rfl (hb hby own_d36_22) rfl rfl ?_
    show Steps _ _ _ (T196.setTop (mkF m 23 _ [.ref a1])) _
    refine XS.iloadN X196.here hx rfl (hb hby own_d36_23) rfl ?_
    show Steps _ _ _ (T196.setTop (mkF m 24 _ [.int e1, .ref a1])) _
    refine st205 _ ?_
    show Steps _ _ _ (T205.setTop (mkF m 27 #[rv a1, rv x1, iv b1, iv e1] [])) _
    refine XS.aloadN X205.here hx rfl (hb hby own_d36_27) rfl rfl ?_
    show Steps _ _ _ (T205.setTop (mkF m 28 _ [.ref a1])) _
    refine XS.aconstNull X205.here hx rfl (hb hby own_d36_28) ?_
    show Steps _ _ _ (T205.setTop (mkF m 29 _ [.null, .ref a1])) _
    refine st214 _ ?_
    show Steps _ _ _ (T214.setTop (mkF m 32 #[rv a1, rv x1, iv b1, iv e1] [])) _
    exact X214.returnOut hx Bd.returns (hb hby own_d36_32) hr
  · show Q_oinit Z a1 x1 b1 e1 h0 n0 _ T214.heap _
    rw [e214]
    exact ⟨rfl, N214, K221, f223, f224, f225, Fw214⟩
theorem own_d4_0 : decode jdk_41_method_12_code 0 = .ok (.iload_n 0, 1) := by decide +kernel
theorem own_d4_1 : decode jdk_41_method_12_code 1 = .ok (.ifCond .lt 13, 3) := by decide +kernel
theorem own_d4_4 : decode jdk_41_method_12_code 4 = .ok (.iload_n 0, 1) := by decide +kernel
theorem own_d4_5 : decode jdk_41_method_12_code 5 = .ok (.iload_n 1, 1) := by decide +kernel
theorem own_d4_6 : decode jdk_41_method_12_code 6 = .ok (.if_icmp .gt 8, 3) := by decide +kernel
theorem own_d4_9 : decode jdk_41_method_12_code 9 = .ok (.iload_n 1, 1) := by decide +kernel
theorem own_d4_10 : decode jdk_41_method_12_code 10 = .ok (.iload_n 2, 1) := by decide +kernel
theorem own_d4_11 : decode jdk_41_method_12_code 11 = .ok (.if_icmp .le 11, 3) := by decide +kernel
theorem own_d4_22 : decode jdk_41_method_12_code 22 = .ok (.iload_n 0, 1) := by decide +kernel
theorem own_d4_23 : decode jdk_41_method_12_code 23 = .ok (.ireturn, 1) := by decide +kernel
theorem own_ef_pft (m : MethodId) (x0 : Int32) (x1 : Int32) (x2 : Int32) : entryFrame m #[(.int x0), (.int x1), (.int x2), .null] 4 = mkF m 0 #[iv x0, iv x1, iv x2, .val .null] [] := by first | (simp [entryFrame, mkF, argsToLocals, Value.category]; done) | rfl
def Q_pft (Z : State) (n1 : Int32) (h0 : Heap) (n0 : Nat) (v : Option Value) (h : Heap) (L : List Loc) : Prop := v = some (.int 0) ∧ Fr n0 L ∧ h = h0
set_option maxRecDepth 65536 in
set_option maxHeartbeats 40000000 in
theorem rm_pft (l : Launch) (Z : State) (a0 : Array Value) (hw : ∀ d ∈ tables_1, d.before a0 Z = true) (ws : List Jvm.Cond) (n1 : Int32) (h0 : Heap) (n0 : Nat) (Z0 : n0 ≤ h0.size) (hn : ¬ n1 < 0) :
    MetFree l (⟨"jdk/internal/util/Preconditions", "checkFromToIndex", "(IIILjava/util/function/BiFunction;)I"⟩ : MethodName) (head1 (Jvm.Cond.code (⟨"jdk/internal/util/Preconditions", "checkFromToIndex", "(IIILjava/util/function/BiFunction;)I"⟩ : MethodName) jdk_41_method_12_code 4 (some .int) :: ws) ({ frames := 0, cells := 0, slots := 0, locals := 0 } : Room)) (fun a U => a = #[(.int (0 : Int32)), (.int n1), (.int n1), .null] ∧ Z.Warmed39 U.vm ∧ U.heap = h0) (fun _ _ _ _ _ => True) (fun _ U o U' => ∃ v L, o = .returned v ∧ Q_pft Z n1 h0 n0 v U'.heap L ∧ FrameEnd U o U' L ({ frames := 0, cells := 0, slots := 0, locals := 0 } : Room).cells ({ frames := 0, cells := 0, slots := 0, locals := 0 } : Room).slots) := by
  refine MetFree.of_bodySF (plainFor_of_name own_pn_8) hisR ?_
  intro p e s m args below meth c s₁ Bd hml0 hP hK
  obtain ⟨rfl, hZ, hh⟩ := hP
  have hx := Bd.exec
  have hby := Bd.bytes
  have hml : c.maxLocals = 4 := hml0
  have hown : s.vm.findClass "jdk/internal/util/Preconditions" = some m.cls := findClass_of_methodNamed Bd.named
  have hnm := (name_of_methodNamed Bd.named Bd.method).1
  have W := own_W hw
  have X0 : Stand p l e ({ frames := 0, cells := 0, slots := 0, locals := 0 } : Room) s m #[(.int (0 : Int32)), (.int n1), (.int n1), .null] below meth c s₁ [] 0 0 := Stand.of_body Bd
  have e0 : s₁.heap = h0 := by rw [← hh, Bd.state]; rfl
  have N0 := Fr.nil n0
  have pre0 : ∀ tq, Steps p.tables e below (s₁.setTop (mkF m 0 #[iv 0, iv n1, iv n1, .val .null] [])) tq → Steps p.tables e below (s₁.setTop (entryFrame m #[(.int (0 : Int32)), (.int n1), (.int n1), .null] 4)) tq := fun tq k => castTop (own_ef_pft m (0 : Int32) n1 n1) k
  obtain ⟨fs, hr, hrun, hended, hW, hsame⟩ := X0.leave (v := some (.int (0 : Int32))) (fun h => by rw [Bd.returns] at h; cases h)
  refine ⟨_, _, pre0 _ (?_), hrun, hended, _, _, rfl, ?_, ⟨_, rfl⟩, hW, hsame.mono (by decide) (by decide)⟩
  · show Steps _ _ _ (s₁.setTop (mkF m 0 #[iv 0, iv n1, iv n1, .val .null] [])) _
    refine XS.iloadN X0.here hx rfl (hb hby own_d4_0) rfl ?_
    show Steps _ _ _ (s₁.setTop (mkF m 1 _ [.int 0])) _
    refine XS.ifNo X0.here hx rfl (hb hby own_d4_1) rfl ((if0 _ _).trans (flt ((by decide) : ¬ ((0 : Int32) < (0 : Int32)))).1) ?_
    show Steps _ _ _ (s₁.setTop (mkF m 4 _ [])) _
    refine XS.iloadN X0.here hx rfl (hb hby own_d4_4) rfl ?_
    show Steps _ _ _ (s₁.setTop (mkF m 5 _ [.int 0])) _
    refine XS.iloadN X0.here hx rfl (hb hby own_d4_5) rfl ?_
    show Steps _ _ _ (s₁.setTop (mkF m 6 _ [.int n1, .int 0])) _
    refine XS.icmpNo X0.here hx rfl (hb hby own_d4_6) rfl (flt (hn : ¬ (n1 < (0 : Int32)))).2.2.1 ?_
    show Steps _ _ _ (s₁.setTop (mkF m 9 _ [])) _
    refine XS.iloadN X0.here hx rfl (hb hby own_d4_9) rfl ?_
    show Steps _ _ _ (s₁.setTop (mkF m 10 _ [.int n1])) _
    refine XS.iloadN X0.here hx rfl (hb hby own_d4_10) rfl ?_
    show Steps _ _ _ (s₁.setTop (mkF m 11 _ [.int n1, .int n1])) _
    refine XS.icmpYes X0.here hx rfl (pc0 := 11) (pc' := 22) rfl (hb hby own_d4_11) rfl (flt (Int32.lt_irrefl : ¬ (n1 < n1))).2.2.2 (by decide) (by decide) ?_
    show Steps _ _ _ (s₁.setTop (mkF m 22 #[iv 0, iv n1, iv n1, .val .null] [])) _
    refine XS.iloadN X0.here hx rfl (hb hby own_d4_22) rfl ?_
    show Steps _ _ _ (s₁.setTop (mkF m 23 _ [.int 0])) _
    exact retI X0 hx Bd.returns (hb hby own_d4_23) hr
  · show Q_pft Z n1 h0 n0 _ s₁.heap _
    rw [e0]
    exact ⟨rfl, N0, rfl⟩
theorem own_d2_0 : decode jdk_31_method_18_code 0 = .ok (.iload_n 0, 1) := by decide +kernel
theorem own_d2_1 : decode jdk_31_method_18_code 1 = .ok (.iload_n 1, 1) := by decide +kernel
theorem own_d2_2 : decode jdk_31_method_18_code 2 = .ok (.iload_n 2, 1) := by decide +kernel
theorem own_d2_3 : decode jdk_31_method_18_code 3 = .ok (.aconst_null, 1) := by decide +kernel
theorem own_d2_4 : decode jdk_31_method_18_code 4 = .ok (.invokestatic 111, 3) := by decide +kernel
theorem own_pd_11 : parseMethodDescriptor "(IIILjava/util/function/BiFunction;)I" = some ⟨[.int, .int, .int, (.object "java/util/function/BiFunction")], some .int⟩ := by decide +kernel
theorem own_d2_7 : decode jdk_31_method_18_code 7 = .ok (.ireturn, 1) := by decide +kernel
theorem own_ef_oft (m : MethodId) (x0 : Int32) (x1 : Int32) (x2 : Int32) : entryFrame m #[(.int x0), (.int x1), (.int x2)] 3 = mkF m 0 #[iv x0, iv x1, iv x2] [] := by first | (simp [entryFrame, mkF, argsToLocals, Value.category]; done) | rfl
def Q_oft (Z : State) (n1 : Int32) (h0 : Heap) (n0 : Nat) (v : Option Value) (h : Heap) (L : List Loc) : Prop := v = some (.int 0) ∧ Fr n0 L ∧ h = h0
set_option maxRecDepth 65536 in
set_option maxHeartbeats 40000000 in
theorem rm_oft (l : Launch) (Z : State) (a0 : Array Value) (hw : ∀ d ∈ tables_1, d.before a0 Z = true) (ws : List Jvm.Cond) (n1 : Int32) (h0 : Heap) (n0 : Nat) (Z0 : n0 ≤ h0.size) (hn : ¬ n1 < 0) :
    MetFree l (⟨"java/util/Objects", "checkFromToIndex", "(III)I"⟩ : MethodName) (head1 (Jvm.Cond.code (⟨"java/util/Objects", "checkFromToIndex", "(III)I"⟩ : MethodName) jdk_31_method_18_code 3 (some .int) :: ws) ({ frames := 1, cells := 0, slots := 0, locals := 15 } : Room)) (fun a U => a = #[(.int (0 : Int32)), (.int n1), (.int n1)] ∧ Z.Warmed39 U.vm ∧ U.heap = h0) (fun _ _ _ _ _ => True) (fun _ U o U' => ∃ v L, o = .returned v ∧ Q_oft Z n1 h0 n0 v U'.heap L ∧ FrameEnd U o U' L ({ frames := 1, cells := 0, slots := 0, locals := 15 } : Room).cells ({ frames := 1, cells := 0, slots := 0, locals := 15 } : Room).slots) := by
  refine MetFree.of_bodySF (plainFor_of_name own_pn_7) hisR ?_
  intro p e s m args below meth c s₁ Bd hml0 hP hK
  obtain ⟨rfl, hZ, hh⟩ := hP
  have hx := Bd.exec
  have hby := Bd.bytes
  have hml : c.maxLocals = 3 := hml0
  have hown : s.vm.findClass "java/util/Objects" = some m.cls := findClass_of_methodNamed Bd.named
  have hnm := (name_of_methodNamed Bd.named Bd.method).1
  have W := own_W hw
  have X0 : Stand p l e ({ frames := 1, cells := 0, slots := 0, locals := 15 } : Room) s m #[(.int (0 : Int32)), (.int n1), (.int n1)] below meth c s₁ [] 0 0 := Stand.of_body Bd
  have e0 : s₁.heap = h0 := by rw [← hh, Bd.state]; rfl
  have N0 := Fr.nil n0
  have pre0 : ∀ tq, Steps p.tables e below (s₁.setTop (mkF m 0 #[iv 0, iv n1, iv n1] [])) tq → Steps p.tables e below (s₁.setTop (entryFrame m #[(.int (0 : Int32)), (.int n1), (.int n1)] 3)) tq := fun tq k => castTop (own_ef_oft m (0 : Int32) n1 n1) k
  obtain ⟨_, _, ⟨T226, L226, k226, n226⟩, -, X226, ⟨Lc226, hQ226, l226, y226, z226⟩, st226⟩ := Jvm.LawKit.callS X0 hx (y := (⟨"jdk/internal/util/Preconditions", "checkFromToIndex", "(IIILjava/util/function/BiFunction;)I"⟩ : MethodName)) hown (mvT hZ (W 77 rfl)) (mvT hZ (W 78 rfl)) (mvT hZ (W 79 rfl)) (mvT hZ (W 80 rfl)) (by decide) (backOf (W := 0) (rm_pft l Z a0 hw [] n1 h0 n0 Z0 hn) hZ (W 80 rfl) (W 79 rfl) (by decide) (by decide)) (g := (mkF m 4 #[iv 0, iv n1, iv n1] [.null, .int n1, .int n1, .int 0])) rfl (by rw [hml]; rfl) (argsL := [.int 0, .int n1, .int n1, .null]) (rest := []) (lenOf own_pd_11 rfl) rfl own_wt (hb hby own_d2_4) (fun _ _ => ⟨rfl, e0, (by decide : 0 + 0 ≤ _), (by decide : 0 + 0 ≤ _)⟩)
  dsimp only [Pt.U, Pt.locs, Pt.cells, Pt.slots] at X226 l226 y226 z226 st226 hQ226
  subst l226 y226 z226
  obtain ⟨rfl, Nq226, e226⟩ := hQ226
  have N226 := Fr.app N0 Nq226
  obtain ⟨fs, hr, hrun, hended, hW, hsame⟩ := X226.leave (v := some (.int (0 : Int32))) (fun h => by rw [Bd.returns] at h; cases h)
  refine ⟨_, _, pre0 _ (?_), hrun, hended, _, _, rfl, ?_, ⟨_, rfl⟩, hW, hsame.mono (by decide) (by decide)⟩
  · show Steps _ _ _ (s₁.setTop (mkF m 0 #[iv 0, iv n1, iv n1] [])) _
    refine XS.iloadN X0.here hx rfl (hb hby own_d2_0) rfl ?_
    show Steps _ _ _ (s₁.setTop (mkF m 1 _ [.int 0])) _
    refine XS.iloadN X0.here hx rfl (hb hby own_d2_1) rfl ?_
    show Steps _ _ _ (s₁.setTop (mkF m 2 _ [.int n1, .int 0])) _
    refine XS.iloadN X0.here hx rfl (hb hby own_d2_2) rfl ?_
    show Steps _ _ _ (s₁.setTop (mkF m 3 _ [.int n1, .int n1, .int 0])) _
    refine XS.aconstNull X0.here hx rfl (hb hby own_d2_3) ?_
    show Steps _ _ _ (s₁.setTop (mkF m 4 _ [.null, .int n1, .int n1, .int 0])) _
    refine st226 _ ?_
    show Steps _ _ _ (T226.setTop (mkF m 7 #[iv 0, iv n1, iv n1] [.int 0])) _
    exact retI X226 hx Bd.returns (hb hby own_d2_7) hr
  · show Q_oft Z n1 h0 n0 _ T226.heap _
    rw [e226]
    exact ⟨rfl, N226, rfl⟩
theorem own_d7_13 : decode jdk_42_method_154_code 13 = .ok (.iconst 1, 1) := by decide +kernel
theorem own_d7_14 : decode jdk_42_method_154_code 14 = .ok (.goto 4, 3) := by decide +kernel
theorem own_ef_il1 (m : MethodId) (x0 : Addr) : entryFrame m #[(.ref x0)] 1 = mkF m 0 #[rv x0] [] := by first | (simp [entryFrame, mkF, argsToLocals, Value.category]; done) | rfl
def Q_il1 (Z : State) (a1 : Addr) (G1 : Int32) (h0 : Heap) (n0 : Nat) (v : Option Value) (h : Heap) (L : List Loc) : Prop := v = some (.int 1) ∧ Fr n0 L ∧ h = h0
set_option maxRecDepth 65536 in
set_option maxHeartbeats 40000000 in
theorem rm_il1 (l : Launch) (Z : State) (a0 : Array Value) (hw : ∀ d ∈ tables_1, d.before a0 Z = true) (ws : List Jvm.Cond) (a1 : Addr) (G1 : Int32) (h0 : Heap) (n0 : Nat) (Z0 : n0 ≤ h0.size) (X00 : Old Z n0 h0) (F2 : Fld Z h0 a1 "java/lang/String" "coder" "B" (.int (0 : Int32))) (O2 : Sta Z Z.heap "java/lang/String" "COMPACT_STRINGS" "Z" (.int G1)) (P5 : ¬ (G1 = (0 : Int32))) :
    MetFree l (⟨"java/lang/String", "isLatin1", "()Z"⟩ : MethodName) (head1 (Jvm.Cond.code (⟨"java/lang/String", "isLatin1", "()Z"⟩ : MethodName) jdk_42_method_154_code 1 (some .boolean) :: ws) ({ frames := 0, cells := 0, slots := 0, locals := 0 } : Room)) (fun a U => a = #[(.ref a1)] ∧ Z.Warmed39 U.vm ∧ U.heap = h0) (fun _ _ _ _ _ => True) (fun _ U o U' => ∃ v L, o = .returned v ∧ Q_il1 Z a1 G1 h0 n0 v U'.heap L ∧ FrameEnd U o U' L ({ frames := 0, cells := 0, slots := 0, locals := 0 } : Room).cells ({ frames := 0, cells := 0, slots := 0, locals := 0 } : Room).slots) := by
  refine MetFree.of_bodySF (plainFor_of_name own_pn_4) hisR ?_
  intro p e s m args below meth c s₁ Bd hml0 hP hK
  obtain ⟨rfl, hZ, hh⟩ := hP
  have hx := Bd.exec
  have hby := Bd.bytes
  have hml : c.maxLocals = 1 := hml0
  have hown : s.vm.findClass "java/lang/String" = some m.cls := findClass_of_methodNamed Bd.named
  have hnm := (name_of_methodNamed Bd.named Bd.method).1
  have W := own_W hw
  have X0 : Stand p l e ({ frames := 0, cells := 0, slots := 0, locals := 0 } : Room) s m #[(.ref a1)] below meth c s₁ [] 0 0 := Stand.of_body Bd
  have e0 : s₁.heap = h0 := by rw [← hh, Bd.state]; rfl
  have N0 := Fr.nil n0
  have pre0 : ∀ tq, Steps p.tables e below (s₁.setTop (mkF m 0 #[rv a1] [])) tq → Steps p.tables e below (s₁.setTop (entryFrame m #[(.ref a1)] 1)) tq := fun tq k => castTop (own_ef_il1 m a1) k
  obtain ⟨T227, X227, e227, st227⟩ := getS2 X0 hx hZ hown (host := "") (Or.inl (W 67 rfl)) Via.refl e0 (O2.ext X00.2) (g := (mkF m 0 #[rv a1] [])) rfl (hb hby own_d7_0)
  obtain ⟨T228, X228, e228, st228⟩ := getF X227 hx hZ hown (host := "") (Or.inl (W 29 rfl)) Via.refl e227 F2 (g := (mkF m 7 #[rv a1] [.ref a1])) rfl rfl (hb hby own_d7_7)
  obtain ⟨fs, hr, hrun, hended, hW, hsame⟩ := X228.leave (v := some (.int (1 : Int32))) (fun h => by rw [Bd.returns] at h; cases h)
  refine ⟨_, _, pre0 _ (?_), hrun, hended, _, _, rfl, ?_, ⟨_, rfl⟩, hW, hsame.mono (by decide) (by decide)⟩
  · show Steps _ _ _ (s₁.setTop (mkF m 0 #[rv a1] [])) _
    refine st227 _ ?_
    show Steps _ _ _ (T227.setTop (mkF m 3 #[rv a1] [.int G1])) _
    refine XS.ifNo X227.here hx rfl (hb hby own_d7_3) rfl ((if0 _ _).trans (feq (P5 : ¬ (G1 = (0 : Int32)))).1) ?_
    show Steps _ _ _ (T227.setTop (mkF m 6 _ [])) _
    refine XS.aloadN X227.here hx rfl (hb hby own_d7_6) rfl rfl ?_
    show Steps _ _ _ (T227.setTop (mkF m 7 _ [.ref a1])) _
    refine st228 _ ?_
    show Steps _ _ _ (T228.setTop (mkF m 10 #[rv a1] [.int 0])) _
    refine XS.ifNo X228.here hx rfl (hb hby own_d7_10) rfl ((if0 _ _).trans (teq (rfl : (0 : Int32) = (0 : Int32))).2) ?_
    show Steps _ _ _ (T228.setTop (mkF m 13 _ [])) _
    refine XS.iconst X228.here hx rfl (hb hby own_d7_13) ?_
    show Steps _ _ _ (T228.setTop (mkF m 14 _ [.int 1])) _
    refine XS.goto X228.here hx rfl (pc0 := 14) (pc' := 18) rfl (hb hby own_d7_14) (by decide) (by decide) ?_
    show Steps _ _ _ (T228.setTop (mkF m 18 _ [.int 1])) _
    exact retN X228 hx (t := .boolean) Bd.returns (by simp) (hb hby own_d7_18) hr
  · show Q_il1 Z a1 G1 h0 n0 _ T228.heap _
    rw [e228]
    exact ⟨rfl, N0, rfl⟩
def Q_cnt (k : Int32) (h0 : Heap) (n0 : Nat) (v : Option Value) (h : Heap) (L : List Loc) : Prop := v = some (.int k) ∧ Fr n0 L ∧ h = h0
theorem own_d15_0 : decode jdk_52_method_11_code 0 = .ok (.getstatic 44, 3) := by decide +kernel
theorem own_d15_3 : decode jdk_52_method_11_code 3 = .ok (.ifCond .ne 16, 3) := by decide +kernel
theorem own_d15_19 : decode jdk_52_method_11_code 19 = .ok (.iload_n 2, 1) := by decide +kernel
theorem own_d15_20 : decode jdk_52_method_11_code 20 = .ok (.iload_n 1, 1) := by decide +kernel
theorem own_d15_21 : decode jdk_52_method_11_code 21 = .ok (.isub, 1) := by decide +kernel
theorem own_d15_22 : decode jdk_52_method_11_code 22 = .ok (.istore 4, 2) := by decide +kernel
theorem own_d15_24 : decode jdk_52_method_11_code 24 = .ok (.iload_n 1, 1) := by decide +kernel
theorem own_d15_25 : decode jdk_52_method_11_code 25 = .ok (.istore 5, 2) := by decide +kernel
theorem own_d15_27 : decode jdk_52_method_11_code 27 = .ok (.iload_n 3, 1) := by decide +kernel
theorem own_d15_28 : decode jdk_52_method_11_code 28 = .ok (.ifCond .eq 16, 3) := by decide +kernel
theorem own_d15_44 : decode jdk_52_method_11_code 44 = .ok (.iload 5, 2) := by decide +kernel
theorem own_d15_46 : decode jdk_52_method_11_code 46 = .ok (.iload_n 2, 1) := by decide +kernel
theorem own_d15_47 : decode jdk_52_method_11_code 47 = .ok (.iconst 1, 1) := by decide +kernel
theorem own_d15_48 : decode jdk_52_method_11_code 48 = .ok (.isub, 1) := by decide +kernel
theorem own_d15_49 : decode jdk_52_method_11_code 49 = .ok (.if_icmp .ge 39, 3) := by decide +kernel
theorem own_d15_88 : decode jdk_52_method_11_code 88 = .ok (.iload 4, 2) := by decide +kernel
theorem own_d15_90 : decode jdk_52_method_11_code 90 = .ok (.ireturn, 1) := by decide +kernel
theorem own_ef_uczB1 (m : MethodId) (x0 : Addr) (x1 : Int32) (x2 : Int32) (x3 : Int32) : entryFrame m #[(.ref x0), (.int x1), (.int x2), (.int x3)] 6 = mkF m 0 #[rv x0, iv x1, iv x2, iv x3, uu, uu] [] := by first | (simp [entryFrame, mkF, argsToLocals, Value.category]; done) | rfl
def Q_uczB1 (Z : State) (t1 : Addr) (kb : ClassId) (c0 : Int32) (h0 : Heap) (n0 : Nat) (v : Option Value) (h : Heap) (L : List Loc) : Prop := v = some (.int 1) ∧ Fr n0 L ∧ h = h0
set_option maxRecDepth 65536 in
set_option maxHeartbeats 40000000 in
theorem rm_uczB1 (l : Launch) (Z : State) (a0 : Array Value) (hw : ∀ d ∈ tables_1, d.before a0 Z = true) (ws : List Jvm.Cond) (t1 : Addr) (kb : ClassId) (c0 : Int32) (h0 : Heap) (n0 : Nat) (Z0 : n0 ≤ h0.size) (X00 : Old Z n0 h0) (V1 : Arv Z h0 t1 kb .byte (2 : Int32) [(.int (StrChars.lo8 c0)), (.int (StrChars.hi8 c0))] (.int 0)) (hb0 : ¬ c0 < 0 ∧ ¬ (65535 : Int32) < c0)  (OA : Sta Z Z.heap "java/lang/StringUTF16" "$assertionsDisabled" "Z" (.int (1 : Int32))) (OH : Sta Z Z.heap "java/lang/StringUTF16" "HI_BYTE_SHIFT" "I" (.int (0 : Int32))) (OL : Sta Z Z.heap "java/lang/StringUTF16" "LO_BYTE_SHIFT" "I" (.int (8 : Int32))) :
    MetFree l (⟨"java/lang/StringUTF16", "codePointCount", "([BIIZ)I"⟩ : MethodName) (head1 (Jvm.Cond.code (⟨"java/lang/StringUTF16", "codePointCount", "([BIIZ)I"⟩ : MethodName) jdk_52_method_11_code 6 (some .int) :: ws) ({ frames := 1, cells := 0, slots := 0, locals := 13 } : Room)) (fun a U => a = #[(.ref t1), (.int (0 : Int32)), (.int (1 : Int32)), (.int (0 : Int32))] ∧ Z.Warmed39 U.vm ∧ U.heap = h0) (fun _ _ _ _ _ => True) (fun _ U o U' => ∃ v L, o = .returned v ∧ Q_uczB1 Z t1 kb c0 h0 n0 v U'.heap L ∧ FrameEnd U o U' L ({ frames := 1, cells := 0, slots := 0, locals := 13 } : Room).cells ({ frames := 1, cells := 0, slots := 0, locals := 13 } : Room).slots) := by
  refine MetFree.of_bodySF (plainFor_of_name own_pn_6) hisR ?_
  intro p e s m args below meth c s₁ Bd hml0 hP hK
  obtain ⟨rfl, hZ, hh⟩ := hP
  have hx := Bd.exec
  have hby := Bd.bytes
  have hml : c.maxLocals = 6 := hml0
  have hown : s.vm.findClass "java/lang/StringUTF16" = some m.cls := findClass_of_methodNamed Bd.named
  have hnm := (name_of_methodNamed Bd.named Bd.method).1
  have W := own_W hw
  have X0 : Stand p l e ({ frames := 1, cells := 0, slots := 0, locals := 13 } : Room) s m #[(.ref t1), (.int (0 : Int32)), (.int (1 : Int32)), (.int (0 : Int32))] below meth c s₁ [] 0 0 := Stand.of_body Bd
  have e0 : s₁.heap = h0 := by rw [← hh, Bd.state]; rfl
  have N0 := Fr.nil n0
  have pre0 : ∀ tq, Steps p.tables e below (s₁.setTop (mkF m 0 #[rv t1, iv 0, iv 1, iv 0, uu, uu] [])) tq → Steps p.tables e below (s₁.setTop (entryFrame m #[(.ref t1), (.int (0 : Int32)), (.int (1 : Int32)), (.int (0 : Int32))] 6)) tq := fun tq k => castTop (own_ef_uczB1 m t1 (0 : Int32) (1 : Int32) (0 : Int32)) k
  obtain ⟨T229, X229, e229, st229⟩ := getS2 X0 hx hZ hown (host := "") (Or.inl (W 151 rfl)) Via.refl e0 (OA.ext X00.2) (g := (mkF m 0 #[rv t1, iv 0, iv 1, iv 0, uu, uu] [])) rfl (hb hby own_d15_0)
  have G230 : ∀ tq, Steps p.tables e below (T229.setTop (mkF m 44 #[rv t1, iv 0, iv 1, iv 0, iv 1, iv 0] [])) tq → Steps p.tables e below (s₁.setTop (mkF m 0 #[rv t1, iv 0, iv 1, iv 0, uu, uu] [])) tq := by
    intro tq kk
    show Steps _ _ _ (s₁.setTop (mkF m 0 #[rv t1, iv 0, iv 1, iv 0, uu, uu] [])) _
    refine st229 _ ?_
    show Steps _ _ _ (T229.setTop (mkF m 3 #[rv t1, iv 0, iv 1, iv 0, uu, uu] [.int 1])) _
    refine XS.ifYes X229.here hx rfl (pc0 := 3) (pc' := 19) rfl (hb hby own_d15_3) rfl ((if0 _ _).trans (feq ((by decide) : ¬ ((1 : Int32) = (0 : Int32)))).2) (by decide) (by decide) ?_
    show Steps _ _ _ (T229.setTop (mkF m 19 _ [])) _
    refine XS.iloadN X229.here hx rfl (hb hby own_d15_19) rfl ?_
    show Steps _ _ _ (T229.setTop (mkF m 20 _ [.int 1])) _
    refine XS.iloadN X229.here hx rfl (hb hby own_d15_20) rfl ?_
    show Steps _ _ _ (T229.setTop (mkF m 21 _ [.int 0, .int 1])) _
    refine XS.isub X229.here hx rfl (hb hby own_d15_21) rfl ?_
    show Steps _ _ _ (T229.setTop (mkF m 22 _ [.int 1])) _
    refine XS.istore X229.here hx rfl (hb hby own_d15_22) rfl (l' := #[rv t1, iv 0, iv 1, iv 0, iv 1, uu]) rfl ?_
    show Steps _ _ _ (T229.setTop (mkF m 24 _ [])) _
    refine XS.iloadN X229.here hx rfl (hb hby own_d15_24) rfl ?_
    show Steps _ _ _ (T229.setTop (mkF m 25 _ [.int 0])) _
    refine XS.istore X229.here hx rfl (hb hby own_d15_25) rfl (l' := #[rv t1, iv 0, iv 1, iv 0, iv 1, iv 0]) rfl ?_
    show Steps _ _ _ (T229.setTop (mkF m 27 _ [])) _
    refine XS.iloadN X229.here hx rfl (hb hby own_d15_27) rfl ?_
    show Steps _ _ _ (T229.setTop (mkF m 28 #[rv t1, iv 0, iv 1, iv 0, iv 1, iv 0] [.int 0])) _
    refine XS.ifYes X229.here hx rfl (pc0 := 28) (pc' := 44) rfl (hb hby own_d15_28) rfl ((if0 _ _).trans (teq (rfl : (0 : Int32) = (0 : Int32))).1) (by decide) (by decide) ?_
    exact kk
  obtain ⟨fs, hr, hrun, hended, hW, hsame⟩ := X229.leave (v := some (.int (1 : Int32))) (fun h => by rw [Bd.returns] at h; cases h)
  refine ⟨_, _, pre0 _ (G230 _ (?_)), hrun, hended, _, _, rfl, ?_, ⟨_, rfl⟩, hW, hsame.mono (by decide) (by decide)⟩
  · show Steps _ _ _ (T229.setTop (mkF m 44 #[rv t1, iv 0, iv 1, iv 0, iv 1, iv 0] [])) _
    refine XS.iload X229.here hx rfl (hb hby own_d15_44) rfl ?_
    show Steps _ _ _ (T229.setTop (mkF m 46 _ [.int 0])) _
    refine XS.iloadN X229.here hx rfl (hb hby own_d15_46) rfl ?_
    show Steps _ _ _ (T229.setTop (mkF m 47 _ [.int 1, .int 0])) _
    refine XS.iconst X229.here hx rfl (hb hby own_d15_47) ?_
    show Steps _ _ _ (T229.setTop (mkF m 48 _ [.int 1, .int 1, .int 0])) _
    refine XS.isub X229.here hx rfl (hb hby own_d15_48) rfl ?_
    show Steps _ _ _ (T229.setTop (mkF m 49 _ [.int 0, .int 0])) _
    refine XS.icmpYes X229.here hx rfl (pc0 := 49) (pc' := 88) rfl (hb hby own_d15_49) rfl (flt ((by decide) : ¬ ((0 : Int32) < (0 : Int32)))).2.1 (by decide) (by decide) ?_
    show Steps _ _ _ (T229.setTop (mkF m 88 _ [])) _
    refine XS.iload X229.here hx rfl (hb hby own_d15_88) rfl ?_
    show Steps _ _ _ (T229.setTop (mkF m 90 _ [.int 1])) _
    exact retI X229 hx Bd.returns (hb hby own_d15_90) hr
  · show Q_uczB1 Z t1 kb c0 h0 n0 _ T229.heap _
    rw [e229]
    exact ⟨rfl, N0, rfl⟩
theorem own_d15_52 : decode jdk_52_method_11_code 52 = .ok (.aload_n 0, 1) := by decide +kernel
theorem own_d15_53 : decode jdk_52_method_11_code 53 = .ok (.iload 5, 2) := by decide +kernel
theorem own_d15_55 : decode jdk_52_method_11_code 55 = .ok (.iinc 5 1, 3) := by decide +kernel
theorem own_d15_58 : decode jdk_52_method_11_code 58 = .ok (.invokestatic 71, 3) := by decide +kernel
theorem own_d15_61 : decode jdk_52_method_11_code 61 = .ok (.invokestatic 75, 3) := by decide +kernel
theorem own_pd_21 : parseMethodDescriptor "(C)Z" = some ⟨[.char], some .boolean⟩ := by decide +kernel
theorem own_d15_64 : decode jdk_52_method_11_code 64 = .ok (.ifCond .eq (-20), 3) := by decide +kernel
theorem own_d15_67 : decode jdk_52_method_11_code 67 = .ok (.aload_n 0, 1) := by decide +kernel
theorem own_d15_68 : decode jdk_52_method_11_code 68 = .ok (.iload 5, 2) := by decide +kernel
theorem own_d15_70 : decode jdk_52_method_11_code 70 = .ok (.invokestatic 71, 3) := by decide +kernel
theorem own_d15_73 : decode jdk_52_method_11_code 73 = .ok (.invokestatic 81, 3) := by decide +kernel
theorem own_d15_76 : decode jdk_52_method_11_code 76 = .ok (.ifCond .eq (-32), 3) := by decide +kernel
theorem own_d15_79 : decode jdk_52_method_11_code 79 = .ok (.iinc 4 (-1), 3) := by decide +kernel
theorem own_d15_82 : decode jdk_52_method_11_code 82 = .ok (.iinc 5 1, 3) := by decide +kernel
theorem own_d15_85 : decode jdk_52_method_11_code 85 = .ok (.goto (-41), 3) := by decide +kernel
theorem own_ef_uczC2 (m : MethodId) (x0 : Addr) (x1 : Int32) (x2 : Int32) (x3 : Int32) : entryFrame m #[(.ref x0), (.int x1), (.int x2), (.int x3)] 6 = mkF m 0 #[rv x0, iv x1, iv x2, iv x3, uu, uu] [] := by first | (simp [entryFrame, mkF, argsToLocals, Value.category]; done) | rfl
def Q_uczC2 (Z : State) (t1 : Addr) (kb : ClassId) (c0 c1 : Int32) (h0 : Heap) (n0 : Nat) (v : Option Value) (h : Heap) (L : List Loc) : Prop := v = some (.int 1) ∧ Fr n0 L ∧ h = h0
set_option maxRecDepth 65536 in
set_option maxHeartbeats 40000000 in
theorem rm_uczC2 (l : Launch) (Z : State) (a0 : Array Value) (hw : ∀ d ∈ tables_1, d.before a0 Z = true) (ws : List Jvm.Cond) (t1 : Addr) (kb : ClassId) (c0 c1 : Int32) (h0 : Heap) (n0 : Nat) (Z0 : n0 ≤ h0.size) (X00 : Old Z n0 h0) (V1 : Arv Z h0 t1 kb .byte (4 : Int32) [(.int (StrChars.lo8 c0)), (.int (StrChars.hi8 c0)), (.int (StrChars.lo8 c1)), (.int (StrChars.hi8 c1))] (.int 0)) (hb0 : ¬ c0 < 0 ∧ ¬ (65535 : Int32) < c0) (hb1 : ¬ c1 < 0 ∧ ¬ (65535 : Int32) < c1) (hP0 : (own_hi c0 ∧ own_lo c1)) (OA : Sta Z Z.heap "java/lang/StringUTF16" "$assertionsDisabled" "Z" (.int (1 : Int32))) (OH : Sta Z Z.heap "java/lang/StringUTF16" "HI_BYTE_SHIFT" "I" (.int (0 : Int32))) (OL : Sta Z Z.heap "java/lang/StringUTF16" "LO_BYTE_SHIFT" "I" (.int (8 : Int32))) :
    MetFree l (⟨"java/lang/StringUTF16", "codePointCount", "([BIIZ)I"⟩ : MethodName) (head1 (Jvm.Cond.code (⟨"java/lang/StringUTF16", "codePointCount", "([BIIZ)I"⟩ : MethodName) jdk_52_method_11_code 6 (some .int) :: ws) ({ frames := 1, cells := 0, slots := 0, locals := 13 } : Room)) (fun a U => a = #[(.ref t1), (.int (0 : Int32)), (.int (2 : Int32)), (.int (0 : Int32))] ∧ Z.Warmed39 U.vm ∧ U.heap = h0) (fun _ _ _ _ _ => True) (fun _ U o U' => ∃ v L, o = .returned v ∧ Q_uczC2 Z t1 kb c0 c1 h0 n0 v U'.heap L ∧ FrameEnd U o U' L ({ frames := 1, cells := 0, slots := 0, locals := 13 } : Room).cells ({ frames := 1, cells := 0, slots := 0, locals := 13 } : Room).slots) := by
  refine MetFree.of_bodySF (plainFor_of_name own_pn_6) hisR ?_
  intro p e s m args below meth c s₁ Bd hml0 hP hK
  obtain ⟨rfl, hZ, hh⟩ := hP
  have hx := Bd.exec
  have hby := Bd.bytes
  have hml : c.maxLocals = 6 := hml0
  have hown : s.vm.findClass "java/lang/StringUTF16" = some m.cls := findClass_of_methodNamed Bd.named
  have hnm := (name_of_methodNamed Bd.named Bd.method).1
  have W := own_W hw
  have X0 : Stand p l e ({ frames := 1, cells := 0, slots := 0, locals := 13 } : Room) s m #[(.ref t1), (.int (0 : Int32)), (.int (2 : Int32)), (.int (0 : Int32))] below meth c s₁ [] 0 0 := Stand.of_body Bd
  have e0 : s₁.heap = h0 := by rw [← hh, Bd.state]; rfl
  have N0 := Fr.nil n0
  have pre0 : ∀ tq, Steps p.tables e below (s₁.setTop (mkF m 0 #[rv t1, iv 0, iv 2, iv 0, uu, uu] [])) tq → Steps p.tables e below (s₁.setTop (entryFrame m #[(.ref t1), (.int (0 : Int32)), (.int (2 : Int32)), (.int (0 : Int32))] 6)) tq := fun tq k => castTop (own_ef_uczC2 m t1 (0 : Int32) (2 : Int32) (0 : Int32)) k
  obtain ⟨T231, X231, e231, st231⟩ := getS2 X0 hx hZ hown (host := "") (Or.inl (W 151 rfl)) Via.refl e0 (OA.ext X00.2) (g := (mkF m 0 #[rv t1, iv 0, iv 2, iv 0, uu, uu] [])) rfl (hb hby own_d15_0)
  have G232 : ∀ tq, Steps p.tables e below (T231.setTop (mkF m 44 #[rv t1, iv 0, iv 2, iv 0, iv 2, iv 0] [])) tq → Steps p.tables e below (s₁.setTop (mkF m 0 #[rv t1, iv 0, iv 2, iv 0, uu, uu] [])) tq := by
    intro tq kk
    show Steps _ _ _ (s₁.setTop (mkF m 0 #[rv t1, iv 0, iv 2, iv 0, uu, uu] [])) _
    refine st231 _ ?_
    show Steps _ _ _ (T231.setTop (mkF m 3 #[rv t1, iv 0, iv 2, iv 0, uu, uu] [.int 1])) _
    refine XS.ifYes X231.here hx rfl (pc0 := 3) (pc' := 19) rfl (hb hby own_d15_3) rfl ((if0 _ _).trans (feq ((by decide) : ¬ ((1 : Int32) = (0 : Int32)))).2) (by decide) (by decide) ?_
    show Steps _ _ _ (T231.setTop (mkF m 19 _ [])) _
    refine XS.iloadN X231.here hx rfl (hb hby own_d15_19) rfl ?_
    show Steps _ _ _ (T231.setTop (mkF m 20 _ [.int 2])) _
    refine XS.iloadN X231.here hx rfl (hb hby own_d15_20) rfl ?_
    show Steps _ _ _ (T231.setTop (mkF m 21 _ [.int 0, .int 2])) _
    refine XS.isub X231.here hx rfl (hb hby own_d15_21) rfl ?_
    show Steps _ _ _ (T231.setTop (mkF m 22 _ [.int 2])) _
    refine XS.istore X231.here hx rfl (hb hby own_d15_22) rfl (l' := #[rv t1, iv 0, iv 2, iv 0, iv 2, uu]) rfl ?_
    show Steps _ _ _ (T231.setTop (mkF m 24 _ [])) _
    refine XS.iloadN X231.here hx rfl (hb hby own_d15_24) rfl ?_
    show Steps _ _ _ (T231.setTop (mkF m 25 _ [.int 0])) _
    refine XS.istore X231.here hx rfl (hb hby own_d15_25) rfl (l' := #[rv t1, iv 0, iv 2, iv 0, iv 2, iv 0]) rfl ?_
    show Steps _ _ _ (T231.setTop (mkF m 27 _ [])) _
    refine XS.iloadN X231.here hx rfl (hb hby own_d15_27) rfl ?_
    show Steps _ _ _ (T231.setTop (mkF m 28 #[rv t1, iv 0, iv 2, iv 0, iv 2, iv 0] [.int 0])) _
    refine XS.ifYes X231.here hx rfl (pc0 := 28) (pc' := 44) rfl (hb hby own_d15_28) rfl ((if0 _ _).trans (teq (rfl : (0 : Int32) = (0 : Int32))).1) (by decide) (by decide) ?_
    exact kk
  obtain ⟨_, _, ⟨T233, L233, k233, n233⟩, -, X233, ⟨Lc233, hQ233, l233, y233, z233⟩, st233⟩ := Jvm.LawKit.callS X231 hx (y := (⟨"java/lang/StringUTF16", "getChar", "([BI)C"⟩ : MethodName)) hown (mvT hZ (W 154 rfl)) (mvT hZ (W 155 rfl)) (mvT hZ (W 91 rfl)) (mvT hZ (W 156 rfl)) (by decide) (backOf (W := 0) (rm_uget l Z a0 hw [] t1 (0 : Int32) (0 : Int32) (1 : Int32) kb (4 : Int32) c0 [(.int (StrChars.lo8 c0)), (.int (StrChars.hi8 c0)), (.int (StrChars.lo8 c1)), (.int (StrChars.hi8 c1))] h0 n0 Z0 X00 V1 (by decide) (by decide) (by decide) (by decide) rfl rfl hb0 OA OH OL) hZ (W 156 rfl) (W 91 rfl) (by decide) (by decide)) (g := (mkF m 58 #[rv t1, iv 0, iv 2, iv 0, iv 2, iv 1] [.int 0, .ref t1])) rfl (by rw [hml]; rfl) (argsL := [.ref t1, .int 0]) (rest := []) (lenOf own_pd_18 rfl) rfl own_wt (hb hby own_d15_58) (fun _ _ => ⟨rfl, e231, (by decide : 0 + 0 ≤ _), (by decide : 0 + 0 ≤ _)⟩)
  dsimp only [Pt.U, Pt.locs, Pt.cells, Pt.slots] at X233 l233 y233 z233 st233 hQ233
  subst l233 y233 z233
  obtain ⟨rfl, Nq233, e233⟩ := hQ233
  have N233 := Fr.app N0 Nq233
  obtain ⟨_, _, ⟨T234, L234, k234, n234⟩, -, X234, ⟨Lc234, hQ234, l234, y234, z234⟩, st234⟩ := Jvm.LawKit.callS X233 hx (y := (⟨"java/lang/Character", "isHighSurrogate", "(C)Z"⟩ : MethodName)) hown (mvT hZ (W 167 rfl)) (mvT hZ (W 135 rfl)) (mvT hZ (W 106 rfl)) (mvT hZ (W 136 rfl)) (by decide) (backOf (W := 0) (rm_jhi1 l Z a0 hw [] c0 h0 n0 Z0 hP0.1) hZ (W 136 rfl) (W 106 rfl) (by decide) (by decide)) (g := (mkF m 61 #[rv t1, iv 0, iv 2, iv 0, iv 2, iv 1] [.int c0])) rfl (by rw [hml]; rfl) (argsL := [.int c0]) (rest := []) (lenOf own_pd_21 rfl) rfl own_wt (hb hby own_d15_61) (fun _ _ => ⟨rfl, e233, (by decide : 0 + 0 ≤ _), (by decide : 0 + 0 ≤ _)⟩)
  dsimp only [Pt.U, Pt.locs, Pt.cells, Pt.slots] at X234 l234 y234 z234 st234 hQ234
  subst l234 y234 z234
  obtain ⟨rfl, Nq234, e234⟩ := hQ234
  have N234 := Fr.app N233 Nq234
  obtain ⟨_, _, ⟨T235, L235, k235, n235⟩, -, X235, ⟨Lc235, hQ235, l235, y235, z235⟩, st235⟩ := Jvm.LawKit.callS X234 hx (y := (⟨"java/lang/StringUTF16", "getChar", "([BI)C"⟩ : MethodName)) hown (mvT hZ (W 154 rfl)) (mvT hZ (W 155 rfl)) (mvT hZ (W 91 rfl)) (mvT hZ (W 156 rfl)) (by decide) (backOf (W := 0) (rm_uget l Z a0 hw [] t1 (1 : Int32) (2 : Int32) (3 : Int32) kb (4 : Int32) c1 [(.int (StrChars.lo8 c0)), (.int (StrChars.hi8 c0)), (.int (StrChars.lo8 c1)), (.int (StrChars.hi8 c1))] h0 n0 Z0 X00 V1 (by decide) (by decide) (by decide) (by decide) rfl rfl hb1 OA OH OL) hZ (W 156 rfl) (W 91 rfl) (by decide) (by decide)) (g := (mkF m 70 #[rv t1, iv 0, iv 2, iv 0, iv 2, iv 1] [.int 1, .ref t1])) rfl (by rw [hml]; rfl) (argsL := [.ref t1, .int 1]) (rest := []) (lenOf own_pd_18 rfl) rfl own_wt (hb hby own_d15_70) (fun _ _ => ⟨rfl, e234, (by decide : 0 + 0 ≤ _), (by decide : 0 + 0 ≤ _)⟩)
  dsimp only [Pt.U, Pt.locs, Pt.cells, Pt.slots] at X235 l235 y235 z235 st235 hQ235
  subst l235 y235 z235
  obtain ⟨rfl, Nq235, e235⟩ := hQ235
  have N235 := Fr.app N234 Nq235
  obtain ⟨_, _, ⟨T236, L236, k236, n236⟩, -, X236, ⟨Lc236, hQ236, l236, y236, z236⟩, st236⟩ := Jvm.LawKit.callS X235 hx (y := (⟨"java/lang/Character", "isLowSurrogate", "(C)Z"⟩ : MethodName)) hown (mvT hZ (W 182 rfl)) (mvT hZ (W 183 rfl)) (mvT hZ (W 106 rfl)) (mvT hZ (W 184 rfl)) (by decide) (backOf (W := 0) (rm_jlo1 l Z a0 hw [] c1 h0 n0 Z0 hP0.2) hZ (W 184 rfl) (W 106 rfl) (by decide) (by decide)) (g := (mkF m 73 #[rv t1, iv 0, iv 2, iv 0, iv 2, iv 1] [.int c1])) rfl (by rw [hml]; rfl) (argsL := [.int c1]) (rest := []) (lenOf own_pd_21 rfl) rfl own_wt (hb hby own_d15_73) (fun _ _ => ⟨rfl, e235, (by decide : 0 + 0 ≤ _), (by decide : 0 + 0 ≤ _)⟩)
  dsimp only [Pt.U, Pt.locs, Pt.cells, Pt.slots] at X236 l236 y236 z236 st236 hQ236
  subst l236 y236 z236
  obtain ⟨rfl, Nq236, e236⟩ := hQ236
  have N236 := Fr.app N235 Nq236
  have G237 : ∀ tq, Steps p.tables e below (T236.setTop (mkF m 44 #[rv t1, iv 0, iv 2, iv 0, iv 1, iv 2] [])) tq → Steps p.tables e below (T231.setTop (mkF m 44 #[rv t1, iv 0, iv 2, iv 0, iv 2, iv 0] [])) tq := by
    intro tq kk
    show Steps _ _ _ (T231.setTop (mkF m 44 #[rv t1, iv 0, iv 2, iv 0, iv 2, iv 0] [])) _
    refine XS.iload X231.here hx rfl (hb hby own_d15_44) rfl ?_
    show Steps _ _ _ (T231.setTop (mkF m 46 _ [.int 0])) _
    refine XS.iloadN X231.here hx rfl (hb hby own_d15_46) rfl ?_
    show Steps _ _ _ (T231.setTop (mkF m 47 _ [.int 2, .int 0])) _
    refine XS.iconst X231.here hx rfl (hb hby own_d15_47) ?_
    show Steps _ _ _ (T231.setTop (mkF m 48 _ [.int 1, .int 2, .int 0])) _
    refine XS.isub X231.here hx rfl (hb hby own_d15_48) rfl ?_
    show Steps _ _ _ (T231.setTop (mkF m 49 _ [.int 1, .int 0])) _
    refine XS.icmpNo X231.here hx rfl (hb hby own_d15_49) rfl (tlt ((by decide) : (0 : Int32) < (1 : Int32))).2.1 ?_
    show Steps _ _ _ (T231.setTop (mkF m 52 _ [])) _
    refine XS.aloadN X231.here hx rfl (hb hby own_d15_52) rfl rfl ?_
    show Steps _ _ _ (T231.setTop (mkF m 53 _ [.ref t1])) _
    refine XS.iload X231.here hx rfl (hb hby own_d15_53) rfl ?_
    show Steps _ _ _ (T231.setTop (mkF m 55 _ [.int 0, .ref t1])) _
    refine XS.iinc X231.here hx rfl (hb hby own_d15_55) rfl (l' := #[rv t1, iv 0, iv 2, iv 0, iv 2, iv 1]) rfl ?_
    show Steps _ _ _ (T231.setTop (mkF m 58 #[rv t1, iv 0, iv 2, iv 0, iv 2, iv 1] [.int 0, .ref t1])) _
    refine st233 _ ?_
    show Steps _ _ _ (T233.setTop (mkF m 61 #[rv t1, iv 0, iv 2, iv 0, iv 2, iv 1] [.int c0])) _
    refine st234 _ ?_
    show Steps _ _ _ (T234.setTop (mkF m 64 #[rv t1, iv 0, iv 2, iv 0, iv 2, iv 1] [.int 1])) _
    refine XS.ifNo X234.here hx rfl (hb hby own_d15_64) rfl ((if0 _ _).trans (feq ((by decide) : ¬ ((1 : Int32) = (0 : Int32)))).1) ?_
    show Steps _ _ _ (T234.setTop (mkF m 67 _ [])) _
    refine XS.aloadN X234.here hx rfl (hb hby own_d15_67) rfl rfl ?_
    show Steps _ _ _ (T234.setTop (mkF m 68 _ [.ref t1])) _
    refine XS.iload X234.here hx rfl (hb hby own_d15_68) rfl ?_
    show Steps _ _ _ (T234.setTop (mkF m 70 _ [.int 1, .ref t1])) _
    refine st235 _ ?_
    show Steps _ _ _ (T235.setTop (mkF m 73 #[rv t1, iv 0, iv 2, iv 0, iv 2, iv 1] [.int c1])) _
    refine st236 _ ?_
    show Steps _ _ _ (T236.setTop (mkF m 76 #[rv t1, iv 0, iv 2, iv 0, iv 2, iv 1] [.int 1])) _
    refine XS.ifNo X236.here hx rfl (hb hby own_d15_76) rfl ((if0 _ _).trans (feq ((by decide) : ¬ ((1 : Int32) = (0 : Int32)))).1) ?_
    show Steps _ _ _ (T236.setTop (mkF m 79 _ [])) _
    refine XS.iinc X236.here hx rfl (hb hby own_d15_79) rfl (l' := #[rv t1, iv 0, iv 2, iv 0, iv 1, iv 1]) rfl ?_
    show Steps _ _ _ (T236.setTop (mkF m 82 _ [])) _
    refine XS.iinc X236.here hx rfl (hb hby own_d15_82) rfl (l' := #[rv t1, iv 0, iv 2, iv 0, iv 1, iv 2]) rfl ?_
    show Steps _ _ _ (T236.setTop (mkF m 85 _ [])) _
    refine XS.goto X236.here hx rfl (pc0 := 85) (pc' := 44) rfl (hb hby own_d15_85) (by decide) (by decide) ?_
    exact kk
  obtain ⟨fs, hr, hrun, hended, hW, hsame⟩ := X236.leave (v := some (.int (1 : Int32))) (fun h => by rw [Bd.returns] at h; cases h)
  refine ⟨_, _, pre0 _ (G232 _ (G237 _ (?_))), hrun, hended, _, _, rfl, ?_, ⟨_, rfl⟩, hW, hsame.mono (by decide) (by decide)⟩
  · show Steps _ _ _ (T236.setTop (mkF m 44 #[rv t1, iv 0, iv 2, iv 0, iv 1, iv 2] [])) _
    refine XS.iload X236.here hx rfl (hb hby own_d15_44) rfl ?_
    show Steps _ _ _ (T236.setTop (mkF m 46 _ [.int 2])) _
    refine XS.iloadN X236.here hx rfl (hb hby own_d15_46) rfl ?_
    show Steps _ _ _ (T236.setTop (mkF m 47 _ [.int 2, .int 2])) _
    refine XS.iconst X236.here hx rfl (hb hby own_d15_47) ?_
    show Steps _ _ _ (T236.setTop (mkF m 48 _ [.int 1, .int 2, .int 2])) _
    refine XS.isub X236.here hx rfl (hb hby own_d15_48) rfl ?_
    show Steps _ _ _ (T236.setTop (mkF m 49 _ [.int 1, .int 2])) _
    refine XS.icmpYes X236.here hx rfl (pc0 := 49) (pc' := 88) rfl (hb hby own_d15_49) rfl (flt ((by decide) : ¬ ((2 : Int32) < (1 : Int32)))).2.1 (by decide) (by decide) ?_
    show Steps _ _ _ (T236.setTop (mkF m 88 _ [])) _
    refine XS.iload X236.here hx rfl (hb hby own_d15_88) rfl ?_
    show Steps _ _ _ (T236.setTop (mkF m 90 _ [.int 1])) _
    exact retI X236 hx Bd.returns (hb hby own_d15_90) hr
  · show Q_uczC2 Z t1 kb c0 c1 h0 n0 _ T236.heap _
    rw [e236]
    exact ⟨rfl, N236, rfl⟩
theorem own_ef_uczD2 (m : MethodId) (x0 : Addr) (x1 : Int32) (x2 : Int32) (x3 : Int32) : entryFrame m #[(.ref x0), (.int x1), (.int x2), (.int x3)] 6 = mkF m 0 #[rv x0, iv x1, iv x2, iv x3, uu, uu] [] := by first | (simp [entryFrame, mkF, argsToLocals, Value.category]; done) | rfl
def Q_uczD2 (Z : State) (t1 : Addr) (kb : ClassId) (c0 c1 : Int32) (h0 : Heap) (n0 : Nat) (v : Option Value) (h : Heap) (L : List Loc) : Prop := v = some (.int 2) ∧ Fr n0 L ∧ h = h0
set_option maxRecDepth 65536 in
set_option maxHeartbeats 40000000 in
theorem rm_uczD2 (l : Launch) (Z : State) (a0 : Array Value) (hw : ∀ d ∈ tables_1, d.before a0 Z = true) (ws : List Jvm.Cond) (t1 : Addr) (kb : ClassId) (c0 c1 : Int32) (h0 : Heap) (n0 : Nat) (Z0 : n0 ≤ h0.size) (X00 : Old Z n0 h0) (V1 : Arv Z h0 t1 kb .byte (4 : Int32) [(.int (StrChars.lo8 c0)), (.int (StrChars.hi8 c0)), (.int (StrChars.lo8 c1)), (.int (StrChars.hi8 c1))] (.int 0)) (hb0 : ¬ c0 < 0 ∧ ¬ (65535 : Int32) < c0) (hb1 : ¬ c1 < 0 ∧ ¬ (65535 : Int32) < c1) (hP0 : ¬ (own_hi c0 ∧ own_lo c1)) (OA : Sta Z Z.heap "java/lang/StringUTF16" "$assertionsDisabled" "Z" (.int (1 : Int32))) (OH : Sta Z Z.heap "java/lang/StringUTF16" "HI_BYTE_SHIFT" "I" (.int (0 : Int32))) (OL : Sta Z Z.heap "java/lang/StringUTF16" "LO_BYTE_SHIFT" "I" (.int (8 : Int32))) :
    MetFree l (⟨"java/lang/StringUTF16", "codePointCount", "([BIIZ)I"⟩ : MethodName) (head1 (Jvm.Cond.code (⟨"java/lang/StringUTF16", "codePointCount", "([BIIZ)I"⟩ : MethodName) jdk_52_method_11_code 6 (some .int) :: ws) ({ frames := 1, cells := 0, slots := 0, locals := 13 } : Room)) (fun a U => a = #[(.ref t1), (.int (0 : Int32)), (.int (2 : Int32)), (.int (0 : Int32))] ∧ Z.Warmed39 U.vm ∧ U.heap = h0) (fun _ _ _ _ _ => True) (fun _ U o U' => ∃ v L, o = .returned v ∧ Q_uczD2 Z t1 kb c0 c1 h0 n0 v U'.heap L ∧ FrameEnd U o U' L ({ frames := 1, cells := 0, slots := 0, locals := 13 } : Room).cells ({ frames := 1, cells := 0, slots := 0, locals := 13 } : Room).slots) := by
  refine MetFree.of_bodySF (plainFor_of_name own_pn_6) hisR ?_
  intro p e s m args below meth c s₁ Bd hml0 hP hK
  obtain ⟨rfl, hZ, hh⟩ := hP
  have hx := Bd.exec
  have hby := Bd.bytes
  have hml : c.maxLocals = 6 := hml0
  have hown : s.vm.findClass "java/lang/StringUTF16" = some m.cls := findClass_of_methodNamed Bd.named
  have hnm := (name_of_methodNamed Bd.named Bd.method).1
  have W := own_W hw
  have X0 : Stand p l e ({ frames := 1, cells := 0, slots := 0, locals := 13 } : Room) s m #[(.ref t1), (.int (0 : Int32)), (.int (2 : Int32)), (.int (0 : Int32))] below meth c s₁ [] 0 0 := Stand.of_body Bd
  have e0 : s₁.heap = h0 := by rw [← hh, Bd.state]; rfl
  have N0 := Fr.nil n0
  have pre0 : ∀ tq, Steps p.tables e below (s₁.setTop (mkF m 0 #[rv t1, iv 0, iv 2, iv 0, uu, uu] [])) tq → Steps p.tables e below (s₁.setTop (entryFrame m #[(.ref t1), (.int (0 : Int32)), (.int (2 : Int32)), (.int (0 : Int32))] 6)) tq := fun tq k => castTop (own_ef_uczD2 m t1 (0 : Int32) (2 : Int32) (0 : Int32)) k
  obtain ⟨T238, X238, e238, st238⟩ := getS2 X0 hx hZ hown (host := "") (Or.inl (W 151 rfl)) Via.refl e0 (OA.ext X00.2) (g := (mkF m 0 #[rv t1, iv 0, iv 2, iv 0, uu, uu] [])) rfl (hb hby own_d15_0)
  have G239 : ∀ tq, Steps p.tables e below (T238.setTop (mkF m 44 #[rv t1, iv 0, iv 2, iv 0, iv 2, iv 0] [])) tq → Steps p.tables e below (s₁.setTop (mkF m 0 #[rv t1, iv 0, iv 2, iv 0, uu, uu] [])) tq := by
    intro tq kk
    show Steps _ _ _ (s₁.setTop (mkF m 0 #[rv t1, iv 0, iv 2, iv 0, uu, uu] [])) _
    refine st238 _ ?_
    show Steps _ _ _ (T238.setTop (mkF m 3 #[rv t1, iv 0, iv 2, iv 0, uu, uu] [.int 1])) _
    refine XS.ifYes X238.here hx rfl (pc0 := 3) (pc' := 19) rfl (hb hby own_d15_3) rfl ((if0 _ _).trans (feq ((by decide) : ¬ ((1 : Int32) = (0 : Int32)))).2) (by decide) (by decide) ?_
    show Steps _ _ _ (T238.setTop (mkF m 19 _ [])) _
    refine XS.iloadN X238.here hx rfl (hb hby own_d15_19) rfl ?_
    show Steps _ _ _ (T238.setTop (mkF m 20 _ [.int 2])) _
    refine XS.iloadN X238.here hx rfl (hb hby own_d15_20) rfl ?_
    show Steps _ _ _ (T238.setTop (mkF m 21 _ [.int 0, .int 2])) _
    refine XS.isub X238.here hx rfl (hb hby own_d15_21) rfl ?_
    show Steps _ _ _ (T238.setTop (mkF m 22 _ [.int 2])) _
    refine XS.istore X238.here hx rfl (hb hby own_d15_22) rfl (l' := #[rv t1, iv 0, iv 2, iv 0, iv 2, uu]) rfl ?_
    show Steps _ _ _ (T238.setTop (mkF m 24 _ [])) _
    refine XS.iloadN X238.here hx rfl (hb hby own_d15_24) rfl ?_
    show Steps _ _ _ (T238.setTop (mkF m 25 _ [.int 0])) _
    refine XS.istore X238.here hx rfl (hb hby own_d15_25) rfl (l' := #[rv t1, iv 0, iv 2, iv 0, iv 2, iv 0]) rfl ?_
    show Steps _ _ _ (T238.setTop (mkF m 27 _ [])) _
    refine XS.iloadN X238.here hx rfl (hb hby own_d15_27) rfl ?_
    show Steps _ _ _ (T238.setTop (mkF m 28 #[rv t1, iv 0, iv 2, iv 0, iv 2, iv 0] [.int 0])) _
    refine XS.ifYes X238.here hx rfl (pc0 := 28) (pc' := 44) rfl (hb hby own_d15_28) rfl ((if0 _ _).trans (teq (rfl : (0 : Int32) = (0 : Int32))).1) (by decide) (by decide) ?_
    exact kk
  obtain ⟨TE240, lE240, XE240, eE240, NE240, GE240⟩ : ∃ (TE : State) (lE : List Loc), Stand p l e ({ frames := 1, cells := 0, slots := 0, locals := 13 } : Room) s m #[(.ref t1), (.int (0 : Int32)), (.int (2 : Int32)), (.int (0 : Int32))] below meth c TE lE 0 0 ∧ TE.heap = h0 ∧ Fr n0 lE ∧ (∀ tgt, Steps p.tables e below (TE.setTop (mkF m 44 #[rv t1, iv 0, iv 2, iv 0, iv 2, iv 1] [])) tgt → Steps p.tables e below (T238.setTop (mkF m 44 #[rv t1, iv 0, iv 2, iv 0, iv 2, iv 0] [])) tgt) := by
    by_cases hh : own_hi c0
    · obtain ⟨_, _, ⟨T241, L241, k241, n241⟩, -, X241, ⟨Lc241, hQ241, l241, y241, z241⟩, st241⟩ := Jvm.LawKit.callS X238 hx (y := (⟨"java/lang/StringUTF16", "getChar", "([BI)C"⟩ : MethodName)) hown (mvT hZ (W 154 rfl)) (mvT hZ (W 155 rfl)) (mvT hZ (W 91 rfl)) (mvT hZ (W 156 rfl)) (by decide) (backOf (W := 0) (rm_uget l Z a0 hw [] t1 (0 : Int32) (0 : Int32) (1 : Int32) kb (4 : Int32) c0 [(.int (StrChars.lo8 c0)), (.int (StrChars.hi8 c0)), (.int (StrChars.lo8 c1)), (.int (StrChars.hi8 c1))] h0 n0 Z0 X00 V1 (by decide) (by decide) (by decide) (by decide) rfl rfl hb0 OA OH OL) hZ (W 156 rfl) (W 91 rfl) (by decide) (by decide)) (g := (mkF m 58 #[rv t1, iv 0, iv 2, iv 0, iv 2, iv 1] [.int 0, .ref t1])) rfl (by rw [hml]; rfl) (argsL := [.ref t1, .int 0]) (rest := []) (lenOf own_pd_18 rfl) rfl own_wt (hb hby own_d15_58) (fun _ _ => ⟨rfl, e238, (by decide : 0 + 0 ≤ _), (by decide : 0 + 0 ≤ _)⟩)
      dsimp only [Pt.U, Pt.locs, Pt.cells, Pt.slots] at X241 l241 y241 z241 st241 hQ241
      subst l241 y241 z241
      obtain ⟨rfl, Nq241, e241⟩ := hQ241
      have N241 := Fr.app N0 Nq241
      obtain ⟨_, _, ⟨T242, L242, k242, n242⟩, -, X242, ⟨Lc242, hQ242, l242, y242, z242⟩, st242⟩ := Jvm.LawKit.callS X241 hx (y := (⟨"java/lang/Character", "isHighSurrogate", "(C)Z"⟩ : MethodName)) hown (mvT hZ (W 167 rfl)) (mvT hZ (W 135 rfl)) (mvT hZ (W 106 rfl)) (mvT hZ (W 136 rfl)) (by decide) (backOf (W := 0) (rm_jhi1 l Z a0 hw [] c0 h0 n0 Z0 hh) hZ (W 136 rfl) (W 106 rfl) (by decide) (by decide)) (g := (mkF m 61 #[rv t1, iv 0, iv 2, iv 0, iv 2, iv 1] [.int c0])) rfl (by rw [hml]; rfl) (argsL := [.int c0]) (rest := []) (lenOf own_pd_21 rfl) rfl own_wt (hb hby own_d15_61) (fun _ _ => ⟨rfl, e241, (by decide : 0 + 0 ≤ _), (by decide : 0 + 0 ≤ _)⟩)
      dsimp only [Pt.U, Pt.locs, Pt.cells, Pt.slots] at X242 l242 y242 z242 st242 hQ242
      subst l242 y242 z242
      obtain ⟨rfl, Nq242, e242⟩ := hQ242
      have N242 := Fr.app N241 Nq242
      obtain ⟨_, _, ⟨T243, L243, k243, n243⟩, -, X243, ⟨Lc243, hQ243, l243, y243, z243⟩, st243⟩ := Jvm.LawKit.callS X242 hx (y := (⟨"java/lang/StringUTF16", "getChar", "([BI)C"⟩ : MethodName)) hown (mvT hZ (W 154 rfl)) (mvT hZ (W 155 rfl)) (mvT hZ (W 91 rfl)) (mvT hZ (W 156 rfl)) (by decide) (backOf (W := 0) (rm_uget l Z a0 hw [] t1 (1 : Int32) (2 : Int32) (3 : Int32) kb (4 : Int32) c1 [(.int (StrChars.lo8 c0)), (.int (StrChars.hi8 c0)), (.int (StrChars.lo8 c1)), (.int (StrChars.hi8 c1))] h0 n0 Z0 X00 V1 (by decide) (by decide) (by decide) (by decide) rfl rfl hb1 OA OH OL) hZ (W 156 rfl) (W 91 rfl) (by decide) (by decide)) (g := (mkF m 70 #[rv t1, iv 0, iv 2, iv 0, iv 2, iv 1] [.int 1, .ref t1])) rfl (by rw [hml]; rfl) (argsL := [.ref t1, .int 1]) (rest := []) (lenOf own_pd_18 rfl) rfl own_wt (hb hby own_d15_70) (fun _ _ => ⟨rfl, e242, (by decide : 0 + 0 ≤ _), (by decide : 0 + 0 ≤ _)⟩)
      dsimp only [Pt.U, Pt.locs, Pt.cells, Pt.slots] at X243 l243 y243 z243 st243 hQ243
      subst l243 y243 z243
      obtain ⟨rfl, Nq243, e243⟩ := hQ243
      have N243 := Fr.app N242 Nq243
      obtain ⟨_, _, ⟨T244, L244, k244, n244⟩, -, X244, ⟨Lc244, hQ244, l244, y244, z244⟩, st244⟩ := Jvm.LawKit.callS X243 hx (y := (⟨"java/lang/Character", "isLowSurrogate", "(C)Z"⟩ : MethodName)) hown (mvT hZ (W 182 rfl)) (mvT hZ (W 183 rfl)) (mvT hZ (W 106 rfl)) (mvT hZ (W 184 rfl)) (by decide) (backOf (W := 0) (rm_jlo0 l Z a0 hw [] c1 h0 n0 Z0 (fun q => hP0 ⟨hh, q⟩)) hZ (W 184 rfl) (W 106 rfl) (by decide) (by decide)) (g := (mkF m 73 #[rv t1, iv 0, iv 2, iv 0, iv 2, iv 1] [.int c1])) rfl (by rw [hml]; rfl) (argsL := [.int c1]) (rest := []) (lenOf own_pd_21 rfl) rfl own_wt (hb hby own_d15_73) (fun _ _ => ⟨rfl, e243, (by decide : 0 + 0 ≤ _), (by decide : 0 + 0 ≤ _)⟩)
      dsimp only [Pt.U, Pt.locs, Pt.cells, Pt.slots] at X244 l244 y244 z244 st244 hQ244
      subst l244 y244 z244
      obtain ⟨rfl, Nq244, e244⟩ := hQ244
      have N244 := Fr.app N243 Nq244
      have G245 : ∀ tq, Steps p.tables e below (T244.setTop (mkF m 44 #[rv t1, iv 0, iv 2, iv 0, iv 2, iv 1] [])) tq → Steps p.tables e below (T238.setTop (mkF m 44 #[rv t1, iv 0, iv 2, iv 0, iv 2, iv 0] [])) tq := by
        intro tq kk
        show Steps _ _ _ (T238.setTop (mkF m 44 #[rv t1, iv 0, iv 2, iv 0, iv 2, iv 0] [])) _
        refine XS.iload X238.here hx rfl (hb hby own_d15_44) rfl ?_
        show Steps _ _ _ (T238.setTop (mkF m 46 _ [.int 0])) _
        refine XS.iloadN X238.here hx rfl (hb hby own_d15_46) rfl ?_
        show Steps _ _ _ (T238.setTop (mkF m 47 _ [.int 2, .int 0])) _
        refine XS.iconst X238.here hx rfl (hb hby own_d15_47) ?_
        show Steps _ _ _ (T238.setTop (mkF m 48 _ [.int 1, .int 2, .int 0])) _
        refine XS.isub X238.here hx rfl (hb hby own_d15_48) rfl ?_
        show Steps _ _ _ (T238.setTop (mkF m 49 _ [.int 1, .int 0])) _
        refine XS.icmpNo X238.here hx rfl (hb hby own_d15_49) rfl (tlt ((by decide) : (0 : Int32) < (1 : Int32))).2.1 ?_
        show Steps _ _ _ (T238.setTop (mkF m 52 _ [])) _
        refine XS.aloadN X238.here hx rfl (hb hby own_d15_52) rfl rfl ?_
        show Steps _ _ _ (T238.setTop (mkF m 53 _ [.ref t1])) _
        refine XS.iload X238.here hx rfl (hb hby own_d15_53) rfl ?_
        show Steps _ _ _ (T238.setTop (mkF m 55 _ [.int 0, .ref t1])) _
        refine XS.iinc X238.here hx rfl (hb hby own_d15_55) rfl (l' := #[rv t1, iv 0, iv 2, iv 0, iv 2, iv 1]) rfl ?_
        show Steps _ _ _ (T238.setTop (mkF m 58 #[rv t1, iv 0, iv 2, iv 0, iv 2, iv 1] [.int 0, .ref t1])) _
        refine st241 _ ?_
        show Steps _ _ _ (T241.setTop (mkF m 61 #[rv t1, iv 0, iv 2, iv 0, iv 2, iv 1] [.int c0])) _
        refine st242 _ ?_
        show Steps _ _ _ (T242.setTop (mkF m 64 #[rv t1, iv 0, iv 2, iv 0, iv 2, iv 1] [.int 1])) _
        refine XS.ifNo X242.here hx rfl (hb hby own_d15_64) rfl ((if0 _ _).trans (feq ((by decide) : ¬ ((1 : Int32) = (0 : Int32)))).1) ?_
        show Steps _ _ _ (T242.setTop (mkF m 67 _ [])) _
        refine XS.aloadN X242.here hx rfl (hb hby own_d15_67) rfl rfl ?_
        show Steps _ _ _ (T242.setTop (mkF m 68 _ [.ref t1])) _
        refine XS.iload X242.here hx rfl (hb hby own_d15_68) rfl ?_
        show Steps _ _ _ (T242.setTop (mkF m 70 _ [.int 1, .ref t1])) _
        refine st243 _ ?_
        show Steps _ _ _ (T243.setTop (mkF m 73 #[rv t1, iv 0, iv 2, iv 0, iv 2, iv 1] [.int c1])) _
        refine st244 _ ?_
        show Steps _ _ _ (T244.setTop (mkF m 76 #[rv t1, iv 0, iv 2, iv 0, iv 2, iv 1] [.int 0])) _
        refine XS.ifYes X244.here hx rfl (pc0 := 76) (pc' := 44) rfl (hb hby own_d15_76) rfl ((if0 _ _).trans (teq (rfl : (0 : Int32) = (0 : Int32))).1) (by decide) (by decide) ?_
        exact kk
      exact ⟨T244, _, X244, e244, N244, fun tgt kk => G245 _ kk⟩
    · obtain ⟨_, _, ⟨T246, L246, k246, n246⟩, -, X246, ⟨Lc246, hQ246, l246, y246, z246⟩, st246⟩ := Jvm.LawKit.callS X238 hx (y := (⟨"java/lang/StringUTF16", "getChar", "([BI)C"⟩ : MethodName)) hown (mvT hZ (W 154 rfl)) (mvT hZ (W 155 rfl)) (mvT hZ (W 91 rfl)) (mvT hZ (W 156 rfl)) (by decide) (backOf (W := 0) (rm_uget l Z a0 hw [] t1 (0 : Int32) (0 : Int32) (1 : Int32) kb (4 : Int32) c0 [(.int (StrChars.lo8 c0)), (.int (StrChars.hi8 c0)), (.int (StrChars.lo8 c1)), (.int (StrChars.hi8 c1))] h0 n0 Z0 X00 V1 (by decide) (by decide) (by decide) (by decide) rfl rfl hb0 OA OH OL) hZ (W 156 rfl) (W 91 rfl) (by decide) (by decide)) (g := (mkF m 58 #[rv t1, iv 0, iv 2, iv 0, iv 2, iv 1] [.int 0, .ref t1])) rfl (by rw [hml]; rfl) (argsL := [.ref t1, .int 0]) (rest := []) (lenOf own_pd_18 rfl) rfl own_wt (hb hby own_d15_58) (fun _ _ => ⟨rfl, e238, (by decide : 0 + 0 ≤ _), (by decide : 0 + 0 ≤ _)⟩)
      dsimp only [Pt.U, Pt.locs, Pt.cells, Pt.slots] at X246 l246 y246 z246 st246 hQ246
      subst l246 y246 z246
      obtain ⟨rfl, Nq246, e246⟩ := hQ246
      have N246 := Fr.app N0 Nq246
      obtain ⟨_, _, ⟨T247, L247, k247, n247⟩, -, X247, ⟨Lc247, hQ247, l247, y247, z247⟩, st247⟩ := Jvm.LawKit.callS X246 hx (y := (⟨"java/lang/Character", "isHighSurrogate", "(C)Z"⟩ : MethodName)) hown (mvT hZ (W 167 rfl)) (mvT hZ (W 135 rfl)) (mvT hZ (W 106 rfl)) (mvT hZ (W 136 rfl)) (by decide) (backOf (W := 0) (rm_jhi0 l Z a0 hw [] c0 h0 n0 Z0 hh) hZ (W 136 rfl) (W 106 rfl) (by decide) (by decide)) (g := (mkF m 61 #[rv t1, iv 0, iv 2, iv 0, iv 2, iv 1] [.int c0])) rfl (by rw [hml]; rfl) (argsL := [.int c0]) (rest := []) (lenOf own_pd_21 rfl) rfl own_wt (hb hby own_d15_61) (fun _ _ => ⟨rfl, e246, (by decide : 0 + 0 ≤ _), (by decide : 0 + 0 ≤ _)⟩)
      dsimp only [Pt.U, Pt.locs, Pt.cells, Pt.slots] at X247 l247 y247 z247 st247 hQ247
      subst l247 y247 z247
      obtain ⟨rfl, Nq247, e247⟩ := hQ247
      have N247 := Fr.app N246 Nq247
      have G248 : ∀ tq, Steps p.tables e below (T247.setTop (mkF m 44 #[rv t1, iv 0, iv 2, iv 0, iv 2, iv 1] [])) tq → Steps p.tables e below (T238.setTop (mkF m 44 #[rv t1, iv 0, iv 2, iv 0, iv 2, iv 0] [])) tq := by
        intro tq kk
        show Steps _ _ _ (T238.setTop (mkF m 44 #[rv t1, iv 0, iv 2, iv 0, iv 2, iv 0] [])) _
        refine XS.iload X238.here hx rfl (hb hby own_d15_44) rfl ?_
        show Steps _ _ _ (T238.setTop (mkF m 46 _ [.int 0])) _
        refine XS.iloadN X238.here hx rfl (hb hby own_d15_46) rfl ?_
        show Steps _ _ _ (T238.setTop (mkF m 47 _ [.int 2, .int 0])) _
        refine XS.iconst X238.here hx rfl (hb hby own_d15_47) ?_
        show Steps _ _ _ (T238.setTop (mkF m 48 _ [.int 1, .int 2, .int 0])) _
        refine XS.isub X238.here hx rfl (hb hby own_d15_48) rfl ?_
        show Steps _ _ _ (T238.setTop (mkF m 49 _ [.int 1, .int 0])) _
        refine XS.icmpNo X238.here hx rfl (hb hby own_d15_49) rfl (tlt ((by decide) : (0 : Int32) < (1 : Int32))).2.1 ?_
        show Steps _ _ _ (T238.setTop (mkF m 52 _ [])) _
        refine XS.aloadN X238.here hx rfl (hb hby own_d15_52) rfl rfl ?_
        show Steps _ _ _ (T238.setTop (mkF m 53 _ [.ref t1])) _
        refine XS.iload X238.here hx rfl (hb hby own_d15_53) rfl ?_
        show Steps _ _ _ (T238.setTop (mkF m 55 _ [.int 0, .ref t1])) _
        refine XS.iinc X238.here hx rfl (hb hby own_d15_55) rfl (l' := #[rv t1, iv 0, iv 2, iv 0, iv 2, iv 1]) rfl ?_
        show Steps _ _ _ (T238.setTop (mkF m 58 #[rv t1, iv 0, iv 2, iv 0, iv 2, iv 1] [.int 0, .ref t1])) _
        refine st246 _ ?_
        show Steps _ _ _ (T246.setTop (mkF m 61 #[rv t1, iv 0, iv 2, iv 0, iv 2, iv 1] [.int c0])) _
        refine st247 _ ?_
        show Steps _ _ _ (T247.setTop (mkF m 64 #[rv t1, iv 0, iv 2, iv 0, iv 2, iv 1] [.int 0])) _
        refine XS.ifYes X247.here hx rfl (pc0 := 64) (pc' := 44) rfl (hb hby own_d15_64) rfl ((if0 _ _).trans (teq (rfl : (0 : Int32) = (0 : Int32))).1) (by decide) (by decide) ?_
        exact kk
      exact ⟨T247, _, X247, e247, N247, fun tgt kk => G248 _ kk⟩
  obtain ⟨fs, hr, hrun, hended, hW, hsame⟩ := XE240.leave (v := some (.int (2 : Int32))) (fun h => by rw [Bd.returns] at h; cases h)
  refine ⟨_, _, pre0 _ (G239 _ (GE240 _ (?_))), hrun, hended, _, _, rfl, ?_, ⟨_, rfl⟩, hW, hsame.mono (by decide) (by decide)⟩
  · show Steps _ _ _ (TE240.setTop (mkF m 44 #[rv t1, iv 0, iv 2, iv 0, iv 2, iv 1] [])) _
    refine XS.iload XE240.here hx rfl (hb hby own_d15_44) rfl ?_
    show Steps _ _ _ (TE240.setTop (mkF m 46 _ [.int 1])) _
    refine XS.iloadN XE240.here hx rfl (hb hby own_d15_46) rfl ?_
    show Steps _ _ _ (TE240.setTop (mkF m 47 _ [.int 2, .int 1])) _
    refine XS.iconst XE240.here hx rfl (hb hby own_d15_47) ?_
    show Steps _ _ _ (TE240.setTop (mkF m 48 _ [.int 1, .int 2, .int 1])) _
    refine XS.isub XE240.here hx rfl (hb hby own_d15_48) rfl ?_
    show Steps _ _ _ (TE240.setTop (mkF m 49 _ [.int 1, .int 1])) _
    refine XS.icmpYes XE240.here hx rfl (pc0 := 49) (pc' := 88) rfl (hb hby own_d15_49) rfl (flt ((by decide) : ¬ ((1 : Int32) < (1 : Int32)))).2.1 (by decide) (by decide) ?_
    show Steps _ _ _ (TE240.setTop (mkF m 88 _ [])) _
    refine XS.iload XE240.here hx rfl (hb hby own_d15_88) rfl ?_
    show Steps _ _ _ (TE240.setTop (mkF m 90 _ [.int 2])) _
    exact retI XE240 hx Bd.returns (hb hby own_d15_90) hr
  · show Q_uczD2 Z t1 kb c0 c1 h0 n0 _ TE240.heap _
    rw [eE240]
    exact ⟨rfl, NE240, rfl⟩
theorem own_ef_uczE3 (m : MethodId) (x0 : Addr) (x1 : Int32) (x2 : Int32) (x3 : Int32) : entryFrame m #[(.ref x0), (.int x1), (.int x2), (.int x3)] 6 = mkF m 0 #[rv x0, iv x1, iv x2, iv x3, uu, uu] [] := by first | (simp [entryFrame, mkF, argsToLocals, Value.category]; done) | rfl
def Q_uczE3 (Z : State) (t1 : Addr) (kb : ClassId) (c0 c1 c2 : Int32) (h0 : Heap) (n0 : Nat) (v : Option Value) (h : Heap) (L : List Loc) : Prop := v = some (.int 2) ∧ Fr n0 L ∧ h = h0
set_option maxRecDepth 65536 in
set_option maxHeartbeats 40000000 in
theorem rm_uczE3 (l : Launch) (Z : State) (a0 : Array Value) (hw : ∀ d ∈ tables_1, d.before a0 Z = true) (ws : List Jvm.Cond) (t1 : Addr) (kb : ClassId) (c0 c1 c2 : Int32) (h0 : Heap) (n0 : Nat) (Z0 : n0 ≤ h0.size) (X00 : Old Z n0 h0) (V1 : Arv Z h0 t1 kb .byte (6 : Int32) [(.int (StrChars.lo8 c0)), (.int (StrChars.hi8 c0)), (.int (StrChars.lo8 c1)), (.int (StrChars.hi8 c1)), (.int (StrChars.lo8 c2)), (.int (StrChars.hi8 c2))] (.int 0)) (hb0 : ¬ c0 < 0 ∧ ¬ (65535 : Int32) < c0) (hb1 : ¬ c1 < 0 ∧ ¬ (65535 : Int32) < c1) (hb2 : ¬ c2 < 0 ∧ ¬ (65535 : Int32) < c2) (hP0 : (own_hi c0 ∧ own_lo c1)) (OA : Sta Z Z.heap "java/lang/StringUTF16" "$assertionsDisabled" "Z" (.int (1 : Int32))) (OH : Sta Z Z.heap "java/lang/StringUTF16" "HI_BYTE_SHIFT" "I" (.int (0 : Int32))) (OL : Sta Z Z.heap "java/lang/StringUTF16" "LO_BYTE_SHIFT" "I" (.int (8 : Int32))) :
    MetFree l (⟨"java/lang/StringUTF16", "codePointCount", "([BIIZ)I"⟩ : MethodName) (head1 (Jvm.Cond.code (⟨"java/lang/StringUTF16", "codePointCount", "([BIIZ)I"⟩ : MethodName) jdk_52_method_11_code 6 (some .int) :: ws) ({ frames := 1, cells := 0, slots := 0, locals := 13 } : Room)) (fun a U => a = #[(.ref t1), (.int (0 : Int32)), (.int (3 : Int32)), (.int (0 : Int32))] ∧ Z.Warmed39 U.vm ∧ U.heap = h0) (fun _ _ _ _ _ => True) (fun _ U o U' => ∃ v L, o = .returned v ∧ Q_uczE3 Z t1 kb c0 c1 c2 h0 n0 v U'.heap L ∧ FrameEnd U o U' L ({ frames := 1, cells := 0, slots := 0, locals := 13 } : Room).cells ({ frames := 1, cells := 0, slots := 0, locals := 13 } : Room).slots) := by
  refine MetFree.of_bodySF (plainFor_of_name own_pn_6) hisR ?_
  intro p e s m args below meth c s₁ Bd hml0 hP hK
  obtain ⟨rfl, hZ, hh⟩ := hP
  have hx := Bd.exec
  have hby := Bd.bytes
  have hml : c.maxLocals = 6 := hml0
  have hown : s.vm.findClass "java/lang/StringUTF16" = some m.cls := findClass_of_methodNamed Bd.named
  have hnm := (name_of_methodNamed Bd.named Bd.method).1
  have W := own_W hw
  have X0 : Stand p l e ({ frames := 1, cells := 0, slots := 0, locals := 13 } : Room) s m #[(.ref t1), (.int (0 : Int32)), (.int (3 : Int32)), (.int (0 : Int32))] below meth c s₁ [] 0 0 := Stand.of_body Bd
  have e0 : s₁.heap = h0 := by rw [← hh, Bd.state]; rfl
  have N0 := Fr.nil n0
  have pre0 : ∀ tq, Steps p.tables e below (s₁.setTop (mkF m 0 #[rv t1, iv 0, iv 3, iv 0, uu, uu] [])) tq → Steps p.tables e below (s₁.setTop (entryFrame m #[(.ref t1), (.int (0 : Int32)), (.int (3 : Int32)), (.int (0 : Int32))] 6)) tq := fun tq k => castTop (own_ef_uczE3 m t1 (0 : Int32) (3 : Int32) (0 : Int32)) k
  obtain ⟨T249, X249, e249, st249⟩ := getS2 X0 hx hZ hown (host := "") (Or.inl (W 151 rfl)) Via.refl e0 (OA.ext X00.2) (g := (mkF m 0 #[rv t1, iv 0, iv 3, iv 0, uu, uu] [])) rfl (hb hby own_d15_0)
  have G250 : ∀ tq, Steps p.tables e below (T249.setTop (mkF m 44 #[rv t1, iv 0, iv 3, iv 0, iv 3, iv 0] [])) tq → Steps p.tables e below (s₁.setTop (mkF m 0 #[rv t1, iv 0, iv 3, iv 0, uu, uu] [])) tq := by
    intro tq kk
    show Steps _ _ _ (s₁.setTop (mkF m 0 #[rv t1, iv 0, iv 3, iv 0, uu, uu] [])) _
    refine st249 _ ?_
    show Steps _ _ _ (T249.setTop (mkF m 3 #[rv t1, iv 0, iv 3, iv 0, uu, uu] [.int 1])) _
    refine XS.ifYes X249.here hx rfl (pc0 := 3) (pc' := 19) rfl (hb hby own_d15_3) rfl ((if0 _ _).trans (feq ((by decide) : ¬ ((1 : Int32) = (0 : Int32)))).2) (by decide) (by decide) ?_
    show Steps _ _ _ (T249.setTop (mkF m 19 _ [])) _
    refine XS.iloadN X249.here hx rfl (hb hby own_d15_19) rfl ?_
    show Steps _ _ _ (T249.setTop (mkF m 20 _ [.int 3])) _
    refine XS.iloadN X249.here hx rfl (hb hby own_d15_20) rfl ?_
    show Steps _ _ _ (T249.setTop (mkF m 21 _ [.int 0, .int 3])) _
    refine XS.isub X249.here hx rfl (hb hby own_d15_21) rfl ?_
    show Steps _ _ _ (T249.setTop (mkF m 22 _ [.int 3])) _
    refine XS.istore X249.here hx rfl (hb hby own_d15_22) rfl (l' := #[rv t1, iv 0, iv 3, iv 0, iv 3, uu]) rfl ?_
    show Steps _ _ _ (T249.setTop (mkF m 24 _ [])) _
    refine XS.iloadN X249.here hx rfl (hb hby own_d15_24) rfl ?_
    show Steps _ _ _ (T249.setTop (mkF m 25 _ [.int 0])) _
    refine XS.istore X249.here hx rfl (hb hby own_d15_25) rfl (l' := #[rv t1, iv 0, iv 3, iv 0, iv 3, iv 0]) rfl ?_
    show Steps _ _ _ (T249.setTop (mkF m 27 _ [])) _
    refine XS.iloadN X249.here hx rfl (hb hby own_d15_27) rfl ?_
    show Steps _ _ _ (T249.setTop (mkF m 28 #[rv t1, iv 0, iv 3, iv 0, iv 3, iv 0] [.int 0])) _
    refine XS.ifYes X249.here hx rfl (pc0 := 28) (pc' := 44) rfl (hb hby own_d15_28) rfl ((if0 _ _).trans (teq (rfl : (0 : Int32) = (0 : Int32))).1) (by decide) (by decide) ?_
    exact kk
  obtain ⟨_, _, ⟨T251, L251, k251, n251⟩, -, X251, ⟨Lc251, hQ251, l251, y251, z251⟩, st251⟩ := Jvm.LawKit.callS X249 hx (y := (⟨"java/lang/StringUTF16", "getChar", "([BI)C"⟩ : MethodName)) hown (mvT hZ (W 154 rfl)) (mvT hZ (W 155 rfl)) (mvT hZ (W 91 rfl)) (mvT hZ (W 156 rfl)) (by decide) (backOf (W := 0) (rm_uget l Z a0 hw [] t1 (0 : Int32) (0 : Int32) (1 : Int32) kb (6 : Int32) c0 [(.int (StrChars.lo8 c0)), (.int (StrChars.hi8 c0)), (.int (StrChars.lo8 c1)), (.int (StrChars.hi8 c1)), (.int (StrChars.lo8 c2)), (.int (StrChars.hi8 c2))] h0 n0 Z0 X00 V1 (by decide) (by decide) (by decide) (by decide) rfl rfl hb0 OA OH OL) hZ (W 156 rfl) (W 91 rfl) (by decide) (by decide)) (g := (mkF m 58 #[rv t1, iv 0, iv 3, iv 0, iv 3, iv 1] [.int 0, .ref t1])) rfl (by rw [hml]; rfl) (argsL := [.ref t1, .int 0]) (rest := []) (lenOf own_pd_18 rfl) rfl own_wt (hb hby own_d15_58) (fun _ _ => ⟨rfl, e249, (by decide : 0 + 0 ≤ _), (by decide : 0 + 0 ≤ _)⟩)
  dsimp only [Pt.U, Pt.locs, Pt.cells, Pt.slots] at X251 l251 y251 z251 st251 hQ251
  subst l251 y251 z251
  obtain ⟨rfl, Nq251, e251⟩ := hQ251
  have N251 := Fr.app N0 Nq251
  obtain ⟨_, _, ⟨T252, L252, k252, n252⟩, -, X252, ⟨Lc252, hQ252, l252, y252, z252⟩, st252⟩ := Jvm.LawKit.callS X251 hx (y := (⟨"java/lang/Character", "isHighSurrogate", "(C)Z"⟩ : MethodName)) hown (mvT hZ (W 167 rfl)) (mvT hZ (W 135 rfl)) (mvT hZ (W 106 rfl)) (mvT hZ (W 136 rfl)) (by decide) (backOf (W := 0) (rm_jhi1 l Z a0 hw [] c0 h0 n0 Z0 hP0.1) hZ (W 136 rfl) (W 106 rfl) (by decide) (by decide)) (g := (mkF m 61 #[rv t1, iv 0, iv 3, iv 0, iv 3, iv 1] [.int c0])) rfl (by rw [hml]; rfl) (argsL := [.int c0]) (rest := []) (lenOf own_pd_21 rfl) rfl own_wt (hb hby own_d15_61) (fun _ _ => ⟨rfl, e251, (by decide : 0 + 0 ≤ _), (by decide : 0 + 0 ≤ _)⟩)
  dsimp only [Pt.U, Pt.locs, Pt.cells, Pt.slots] at X252 l252 y252 z252 st252 hQ252
  subst l252 y252 z252
  obtain ⟨rfl, Nq252, e252⟩ := hQ252
  have N252 := Fr.app N251 Nq252
  obtain ⟨_, _, ⟨T253, L253, k253, n253⟩, -, X253, ⟨Lc253, hQ253, l253, y253, z253⟩, st253⟩ := Jvm.LawKit.callS X252 hx (y := (⟨"java/lang/StringUTF16", "getChar", "([BI)C"⟩ : MethodName)) hown (mvT hZ (W 154 rfl)) (mvT hZ (W 155 rfl)) (mvT hZ (W 91 rfl)) (mvT hZ (W 156 rfl)) (by decide) (backOf (W := 0) (rm_uget l Z a0 hw [] t1 (1 : Int32) (2 : Int32) (3 : Int32) kb (6 : Int32) c1 [(.int (StrChars.lo8 c0)), (.int (StrChars.hi8 c0)), (.int (StrChars.lo8 c1)), (.int (StrChars.hi8 c1)), (.int (StrChars.lo8 c2)), (.int (StrChars.hi8 c2))] h0 n0 Z0 X00 V1 (by decide) (by decide) (by decide) (by decide) rfl rfl hb1 OA OH OL) hZ (W 156 rfl) (W 91 rfl) (by decide) (by decide)) (g := (mkF m 70 #[rv t1, iv 0, iv 3, iv 0, iv 3, iv 1] [.int 1, .ref t1])) rfl (by rw [hml]; rfl) (argsL := [.ref t1, .int 1]) (rest := []) (lenOf own_pd_18 rfl) rfl own_wt (hb hby own_d15_70) (fun _ _ => ⟨rfl, e252, (by decide : 0 + 0 ≤ _), (by decide : 0 + 0 ≤ _)⟩)
  dsimp only [Pt.U, Pt.locs, Pt.cells, Pt.slots] at X253 l253 y253 z253 st253 hQ253
  subst l253 y253 z253
  obtain ⟨rfl, Nq253, e253⟩ := hQ253
  have N253 := Fr.app N252 Nq253
  obtain ⟨_, _, ⟨T254, L254, k254, n254⟩, -, X254, ⟨Lc254, hQ254, l254, y254, z254⟩, st254⟩ := Jvm.LawKit.callS X253 hx (y := (⟨"java/lang/Character", "isLowSurrogate", "(C)Z"⟩ : MethodName)) hown (mvT hZ (W 182 rfl)) (mvT hZ (W 183 rfl)) (mvT hZ (W 106 rfl)) (mvT hZ (W 184 rfl)) (by decide) (backOf (W := 0) (rm_jlo1 l Z a0 hw [] c1 h0 n0 Z0 hP0.2) hZ (W 184 rfl) (W 106 rfl) (by decide) (by decide)) (g := (mkF m 73 #[rv t1, iv 0, iv 3, iv 0, iv 3, iv 1] [.int c1])) rfl (by rw [hml]; rfl) (argsL := [.int c1]) (rest := []) (lenOf own_pd_21 rfl) rfl own_wt (hb hby own_d15_73) (fun _ _ => ⟨rfl, e253, (by decide : 0 + 0 ≤ _), (by decide : 0 + 0 ≤ _)⟩)
  dsimp only [Pt.U, Pt.locs, Pt.cells, Pt.slots] at X254 l254 y254 z254 st254 hQ254
  subst l254 y254 z254
  obtain ⟨rfl, Nq254, e254⟩ := hQ254
  have N254 := Fr.app N253 Nq254
  have G255 : ∀ tq, Steps p.tables e below (T254.setTop (mkF m 44 #[rv t1, iv 0, iv 3, iv 0, iv 2, iv 2] [])) tq → Steps p.tables e below (T249.setTop (mkF m 44 #[rv t1, iv 0, iv 3, iv 0, iv 3, iv 0] [])) tq := by
    intro tq kk
    show Steps _ _ _ (T249.setTop (mkF m 44 #[rv t1, iv 0, iv 3, iv 0, iv 3, iv 0] [])) _
    refine XS.iload X249.here hx rfl (hb hby own_d15_44) rfl ?_
    show Steps _ _ _ (T249.setTop (mkF m 46 _ [.int 0])) _
    refine XS.iloadN X249.here hx rfl (hb hby own_d15_46) rfl ?_
    show Steps _ _ _ (T249.setTop (mkF m 47 _ [.int 3, .int 0])) _
    refine XS.iconst X249.here hx rfl (hb hby own_d15_47) ?_
    show Steps _ _ _ (T249.setTop (mkF m 48 _ [.int 1, .int 3, .int 0])) _
    refine XS.isub X249.here hx rfl (hb hby own_d15_48) rfl ?_
    show Steps _ _ _ (T249.setTop (mkF m 49 _ [.int 2, .int 0])) _
    refine XS.icmpNo X249.here hx rfl (hb hby own_d15_49) rfl (tlt ((by decide) : (0 : Int32) < (2 : Int32))).2.1 ?_
    show Steps _ _ _ (T249.setTop (mkF m 52 _ [])) _
    refine XS.aloadN X249.here hx rfl (hb hby own_d15_52) rfl rfl ?_
    show Steps _ _ _ (T249.setTop (mkF m 53 _ [.ref t1])) _
    refine XS.iload X249.here hx rfl (hb hby own_d15_53) rfl ?_
    show Steps _ _ _ (T249.setTop (mkF m 55 _ [.int 0, .ref t1])) _
    refine XS.iinc X249.here hx rfl (hb hby own_d15_55) rfl (l' := #[rv t1, iv 0, iv 3, iv 0, iv 3, iv 1]) rfl ?_
    show Steps _ _ _ (T249.setTop (mkF m 58 #[rv t1, iv 0, iv 3, iv 0, iv 3, iv 1] [.int 0, .ref t1])) _
    refine st251 _ ?_
    show Steps _ _ _ (T251.setTop (mkF m 61 #[rv t1, iv 0, iv 3, iv 0, iv 3, iv 1] [.int c0])) _
    refine st252 _ ?_
    show Steps _ _ _ (T252.setTop (mkF m 64 #[rv t1, iv 0, iv 3, iv 0, iv 3, iv 1] [.int 1])) _
    refine XS.ifNo X252.here hx rfl (hb hby own_d15_64) rfl ((if0 _ _).trans (feq ((by decide) : ¬ ((1 : Int32) = (0 : Int32)))).1) ?_
    show Steps _ _ _ (T252.setTop (mkF m 67 _ [])) _
    refine XS.aloadN X252.here hx rfl (hb hby own_d15_67) rfl rfl ?_
    show Steps _ _ _ (T252.setTop (mkF m 68 _ [.ref t1])) _
    refine XS.iload X252.here hx rfl (hb hby own_d15_68) rfl ?_
    show Steps _ _ _ (T252.setTop (mkF m 70 _ [.int 1, .ref t1])) _
    refine st253 _ ?_
    show Steps _ _ _ (T253.setTop (mkF m 73 #[rv t1, iv 0, iv 3, iv 0, iv 3, iv 1] [.int c1])) _
    refine st254 _ ?_
    show Steps _ _ _ (T254.setTop (mkF m 76 #[rv t1, iv 0, iv 3, iv 0, iv 3, iv 1] [.int 1])) _
    refine XS.ifNo X254.here hx rfl (hb hby own_d15_76) rfl ((if0 _ _).trans (feq ((by decide) : ¬ ((1 : Int32) = (0 : Int32)))).1) ?_
    show Steps _ _ _ (T254.setTop (mkF m 79 _ [])) _
    refine XS.iinc X254.here hx rfl (hb hby own_d15_79) rfl (l' := #[rv t1, iv 0, iv 3, iv 0, iv 2, iv 1]) rfl ?_
    show Steps _ _ _ (T254.setTop (mkF m 82 _ [])) _
    refine XS.iinc X254.here hx rfl (hb hby own_d15_82) rfl (l' := #[rv t1, iv 0, iv 3, iv 0, iv 2, iv 2]) rfl ?_
    show Steps _ _ _ (T254.setTop (mkF m 85 _ [])) _
    refine XS.goto X254.here hx rfl (pc0 := 85) (pc' := 44) rfl (hb hby own_d15_85) (by decide) (by decide) ?_
    exact kk
  obtain ⟨fs, hr, hrun, hended, hW, hsame⟩ := X254.leave (v := some (.int (2 : Int32))) (fun h => by rw [Bd.returns] at h; cases h)
  refine ⟨_, _, pre0 _ (G250 _ (G255 _ (?_))), hrun, hended, _, _, rfl, ?_, ⟨_, rfl⟩, hW, hsame.mono (by decide) (by decide)⟩
  · show Steps _ _ _ (T254.setTop (mkF m 44 #[rv t1, iv 0, iv 3, iv 0, iv 2, iv 2] [])) _
    refine XS.iload X254.here hx rfl (hb hby own_d15_44) rfl ?_
    show Steps _ _ _ (T254.setTop (mkF m 46 _ [.int 2])) _
    refine XS.iloadN X254.here hx rfl (hb hby own_d15_46) rfl ?_
    show Steps _ _ _ (T254.setTop (mkF m 47 _ [.int 3, .int 2])) _
    refine XS.iconst X254.here hx rfl (hb hby own_d15_47) ?_
    show Steps _ _ _ (T254.setTop (mkF m 48 _ [.int 1, .int 3, .int 2])) _
    refine XS.isub X254.here hx rfl (hb hby own_d15_48) rfl ?_
    show Steps _ _ _ (T254.setTop (mkF m 49 _ [.int 2, .int 2])) _
    refine XS.icmpYes X254.here hx rfl (pc0 := 49) (pc' := 88) rfl (hb hby own_d15_49) rfl (flt ((by decide) : ¬ ((2 : Int32) < (2 : Int32)))).2.1 (by decide) (by decide) ?_
    show Steps _ _ _ (T254.setTop (mkF m 88 _ [])) _
    refine XS.iload X254.here hx rfl (hb hby own_d15_88) rfl ?_
    show Steps _ _ _ (T254.setTop (mkF m 90 _ [.int 2])) _
    exact retI X254 hx Bd.returns (hb hby own_d15_90) hr
  · show Q_uczE3 Z t1 kb c0 c1 c2 h0 n0 _ T254.heap _
    rw [e254]
    exact ⟨rfl, N254, rfl⟩
theorem own_ef_uczF3 (m : MethodId) (x0 : Addr) (x1 : Int32) (x2 : Int32) (x3 : Int32) : entryFrame m #[(.ref x0), (.int x1), (.int x2), (.int x3)] 6 = mkF m 0 #[rv x0, iv x1, iv x2, iv x3, uu, uu] [] := by first | (simp [entryFrame, mkF, argsToLocals, Value.category]; done) | rfl
def Q_uczF3 (Z : State) (t1 : Addr) (kb : ClassId) (c0 c1 c2 : Int32) (h0 : Heap) (n0 : Nat) (v : Option Value) (h : Heap) (L : List Loc) : Prop := v = some (.int 2) ∧ Fr n0 L ∧ h = h0
set_option maxRecDepth 65536 in
set_option maxHeartbeats 40000000 in
theorem rm_uczF3 (l : Launch) (Z : State) (a0 : Array Value) (hw : ∀ d ∈ tables_1, d.before a0 Z = true) (ws : List Jvm.Cond) (t1 : Addr) (kb : ClassId) (c0 c1 c2 : Int32) (h0 : Heap) (n0 : Nat) (Z0 : n0 ≤ h0.size) (X00 : Old Z n0 h0) (V1 : Arv Z h0 t1 kb .byte (6 : Int32) [(.int (StrChars.lo8 c0)), (.int (StrChars.hi8 c0)), (.int (StrChars.lo8 c1)), (.int (StrChars.hi8 c1)), (.int (StrChars.lo8 c2)), (.int (StrChars.hi8 c2))] (.int 0)) (hb0 : ¬ c0 < 0 ∧ ¬ (65535 : Int32) < c0) (hb1 : ¬ c1 < 0 ∧ ¬ (65535 : Int32) < c1) (hb2 : ¬ c2 < 0 ∧ ¬ (65535 : Int32) < c2) (hP0 : ¬ (own_hi c0 ∧ own_lo c1)) (hP1 : (own_hi c1 ∧ own_lo c2)) (OA : Sta Z Z.heap "java/lang/StringUTF16" "$assertionsDisabled" "Z" (.int (1 : Int32))) (OH : Sta Z Z.heap "java/lang/StringUTF16" "HI_BYTE_SHIFT" "I" (.int (0 : Int32))) (OL : Sta Z Z.heap "java/lang/StringUTF16" "LO_BYTE_SHIFT" "I" (.int (8 : Int32))) :
    MetFree l (⟨"java/lang/StringUTF16", "codePointCount", "([BIIZ)I"⟩ : MethodName) (head1 (Jvm.Cond.code (⟨"java/lang/StringUTF16", "codePointCount", "([BIIZ)I"⟩ : MethodName) jdk_52_method_11_code 6 (some .int) :: ws) ({ frames := 1, cells := 0, slots := 0, locals := 13 } : Room)) (fun a U => a = #[(.ref t1), (.int (0 : Int32)), (.int (3 : Int32)), (.int (0 : Int32))] ∧ Z.Warmed39 U.vm ∧ U.heap = h0) (fun _ _ _ _ _ => True) (fun _ U o U' => ∃ v L, o = .returned v ∧ Q_uczF3 Z t1 kb c0 c1 c2 h0 n0 v U'.heap L ∧ FrameEnd U o U' L ({ frames := 1, cells := 0, slots := 0, locals := 13 } : Room).cells ({ frames := 1, cells := 0, slots := 0, locals := 13 } : Room).slots) := by
  refine MetFree.of_bodySF (plainFor_of_name own_pn_6) hisR ?_
  intro p e s m args below meth c s₁ Bd hml0 hP hK
  obtain ⟨rfl, hZ, hh⟩ := hP
  have hx := Bd.exec
  have hby := Bd.bytes
  have hml : c.maxLocals = 6 := hml0
  have hown : s.vm.findClass "java/lang/StringUTF16" = some m.cls := findClass_of_methodNamed Bd.named
  have hnm := (name_of_methodNamed Bd.named Bd.method).1
  have W := own_W hw
  have X0 : Stand p l e ({ frames := 1, cells := 0, slots := 0, locals := 13 } : Room) s m #[(.ref t1), (.int (0 : Int32)), (.int (3 : Int32)), (.int (0 : Int32))] below meth c s₁ [] 0 0 := Stand.of_body Bd
  have e0 : s₁.heap = h0 := by rw [← hh, Bd.state]; rfl
  have N0 := Fr.nil n0
  have pre0 : ∀ tq, Steps p.tables e below (s₁.setTop (mkF m 0 #[rv t1, iv 0, iv 3, iv 0, uu, uu] [])) tq → Steps p.tables e below (s₁.setTop (entryFrame m #[(.ref t1), (.int (0 : Int32)), (.int (3 : Int32)), (.int (0 : Int32))] 6)) tq := fun tq k => castTop (own_ef_uczF3 m t1 (0 : Int32) (3 : Int32) (0 : Int32)) k
  obtain ⟨T256, X256, e256, st256⟩ := getS2 X0 hx hZ hown (host := "") (Or.inl (W 151 rfl)) Via.refl e0 (OA.ext X00.2) (g := (mkF m 0 #[rv t1, iv 0, iv 3, iv 0, uu, uu] [])) rfl (hb hby own_d15_0)
  have G257 : ∀ tq, Steps p.tables e below (T256.setTop (mkF m 44 #[rv t1, iv 0, iv 3, iv 0, iv 3, iv 0] [])) tq → Steps p.tables e below (s₁.setTop (mkF m 0 #[rv t1, iv 0, iv 3, iv 0, uu, uu] [])) tq := by
    intro tq kk
    show Steps _ _ _ (s₁.setTop (mkF m 0 #[rv t1, iv 0, iv 3, iv 0, uu, uu] [])) _
    refine st256 _ ?_
    show Steps _ _ _ (T256.setTop (mkF m 3 #[rv t1, iv 0, iv 3, iv 0, uu, uu] [.int 1])) _
    refine XS.ifYes X256.here hx rfl (pc0 := 3) (pc' := 19) rfl (hb hby own_d15_3) rfl ((if0 _ _).trans (feq ((by decide) : ¬ ((1 : Int32) = (0 : Int32)))).2) (by decide) (by decide) ?_
    show Steps _ _ _ (T256.setTop (mkF m 19 _ [])) _
    refine XS.iloadN X256.here hx rfl (hb hby own_d15_19) rfl ?_
    show Steps _ _ _ (T256.setTop (mkF m 20 _ [.int 3])) _
    refine XS.iloadN X256.here hx rfl (hb hby own_d15_20) rfl ?_
    show Steps _ _ _ (T256.setTop (mkF m 21 _ [.int 0, .int 3])) _
    refine XS.isub X256.here hx rfl (hb hby own_d15_21) rfl ?_
    show Steps _ _ _ (T256.setTop (mkF m 22 _ [.int 3])) _
    refine XS.istore X256.here hx rfl (hb hby own_d15_22) rfl (l' := #[rv t1, iv 0, iv 3, iv 0, iv 3, uu]) rfl ?_
    show Steps _ _ _ (T256.setTop (mkF m 24 _ [])) _
    refine XS.iloadN X256.here hx rfl (hb hby own_d15_24) rfl ?_
    show Steps _ _ _ (T256.setTop (mkF m 25 _ [.int 0])) _
    refine XS.istore X256.here hx rfl (hb hby own_d15_25) rfl (l' := #[rv t1, iv 0, iv 3, iv 0, iv 3, iv 0]) rfl ?_
    show Steps _ _ _ (T256.setTop (mkF m 27 _ [])) _
    refine XS.iloadN X256.here hx rfl (hb hby own_d15_27) rfl ?_
    show Steps _ _ _ (T256.setTop (mkF m 28 #[rv t1, iv 0, iv 3, iv 0, iv 3, iv 0] [.int 0])) _
    refine XS.ifYes X256.here hx rfl (pc0 := 28) (pc' := 44) rfl (hb hby own_d15_28) rfl ((if0 _ _).trans (teq (rfl : (0 : Int32) = (0 : Int32))).1) (by decide) (by decide) ?_
    exact kk
  obtain ⟨TE258, lE258, XE258, eE258, NE258, GE258⟩ : ∃ (TE : State) (lE : List Loc), Stand p l e ({ frames := 1, cells := 0, slots := 0, locals := 13 } : Room) s m #[(.ref t1), (.int (0 : Int32)), (.int (3 : Int32)), (.int (0 : Int32))] below meth c TE lE 0 0 ∧ TE.heap = h0 ∧ Fr n0 lE ∧ (∀ tgt, Steps p.tables e below (TE.setTop (mkF m 44 #[rv t1, iv 0, iv 3, iv 0, iv 3, iv 1] [])) tgt → Steps p.tables e below (T256.setTop (mkF m 44 #[rv t1, iv 0, iv 3, iv 0, iv 3, iv 0] [])) tgt) := by
    by_cases hh : own_hi c0
    · obtain ⟨_, _, ⟨T259, L259, k259, n259⟩, -, X259, ⟨Lc259, hQ259, l259, y259, z259⟩, st259⟩ := Jvm.LawKit.callS X256 hx (y := (⟨"java/lang/StringUTF16", "getChar", "([BI)C"⟩ : MethodName)) hown (mvT hZ (W 154 rfl)) (mvT hZ (W 155 rfl)) (mvT hZ (W 91 rfl)) (mvT hZ (W 156 rfl)) (by decide) (backOf (W := 0) (rm_uget l Z a0 hw [] t1 (0 : Int32) (0 : Int32) (1 : Int32) kb (6 : Int32) c0 [(.int (StrChars.lo8 c0)), (.int (StrChars.hi8 c0)), (.int (StrChars.lo8 c1)), (.int (StrChars.hi8 c1)), (.int (StrChars.lo8 c2)), (.int (StrChars.hi8 c2))] h0 n0 Z0 X00 V1 (by decide) (by decide) (by decide) (by decide) rfl rfl hb0 OA OH OL) hZ (W 156 rfl) (W 91 rfl) (by decide) (by decide)) (g := (mkF m 58 #[rv t1, iv 0, iv 3, iv 0, iv 3, iv 1] [.int 0, .ref t1])) rfl (by rw [hml]; rfl) (argsL := [.ref t1, .int 0]) (rest := []) (lenOf own_pd_18 rfl) rfl own_wt (hb hby own_d15_58) (fun _ _ => ⟨rfl, e256, (by decide : 0 + 0 ≤ _), (by decide : 0 + 0 ≤ _)⟩)
      dsimp only [Pt.U, Pt.locs, Pt.cells, Pt.slots] at X259 l259 y259 z259 st259 hQ259
      subst l259 y259 z259
      obtain ⟨rfl, Nq259, e259⟩ := hQ259
      have N259 := Fr.app N0 Nq259
      obtain ⟨_, _, ⟨T260, L260, k260, n260⟩, -, X260, ⟨Lc260, hQ260, l260, y260, z260⟩, st260⟩ := Jvm.LawKit.callS X259 hx (y := (⟨"java/lang/Character", "isHighSurrogate", "(C)Z"⟩ : MethodName)) hown (mvT hZ (W 167 rfl)) (mvT hZ (W 135 rfl)) (mvT hZ (W 106 rfl)) (mvT hZ (W 136 rfl)) (by decide) (backOf (W := 0) (rm_jhi1 l Z a0 hw [] c0 h0 n0 Z0 hh) hZ (W 136 rfl) (W 106 rfl) (by decide) (by decide)) (g := (mkF m 61 #[rv t1, iv 0, iv 3, iv 0, iv 3, iv 1] [.int c0])) rfl (by rw [hml]; rfl) (argsL := [.int c0]) (rest := []) (lenOf own_pd_21 rfl) rfl own_wt (hb hby own_d15_61) (fun _ _ => ⟨rfl, e259, (by decide : 0 + 0 ≤ _), (by decide : 0 + 0 ≤ _)⟩)
      dsimp only [Pt.U, Pt.locs, Pt.cells, Pt.slots] at X260 l260 y260 z260 st260 hQ260
      subst l260 y260 z260
      obtain ⟨rfl, Nq260, e260⟩ := hQ260
      have N260 := Fr.app N259 Nq260
      obtain ⟨_, _, ⟨T261, L261, k261, n261⟩, -, X261, ⟨Lc261, hQ261, l261, y261, z261⟩, st261⟩ := Jvm.LawKit.callS X260 hx (y := (⟨"java/lang/StringUTF16", "getChar", "([BI)C"⟩ : MethodName)) hown (mvT hZ (W 154 rfl)) (mvT hZ (W 155 rfl)) (mvT hZ (W 91 rfl)) (mvT hZ (W 156 rfl)) (by decide) (backOf (W := 0) (rm_uget l Z a0 hw [] t1 (1 : Int32) (2 : Int32) (3 : Int32) kb (6 : Int32) c1 [(.int (StrChars.lo8 c0)), (.int (StrChars.hi8 c0)), (.int (StrChars.lo8 c1)), (.int (StrChars.hi8 c1)), (.int (StrChars.lo8 c2)), (.int (StrChars.hi8 c2))] h0 n0 Z0 X00 V1 (by decide) (by decide) (by decide) (by decide) rfl rfl hb1 OA OH OL) hZ (W 156 rfl) (W 91 rfl) (by decide) (by decide)) (g := (mkF m 70 #[rv t1, iv 0, iv 3, iv 0, iv 3, iv 1] [.int 1, .ref t1])) rfl (by rw [hml]; rfl) (argsL := [.ref t1, .int 1]) (rest := []) (lenOf own_pd_18 rfl) rfl own_wt (hb hby own_d15_70) (fun _ _ => ⟨rfl, e260, (by decide : 0 + 0 ≤ _), (by decide : 0 + 0 ≤ _)⟩)
      dsimp only [Pt.U, Pt.locs, Pt.cells, Pt.slots] at X261 l261 y261 z261 st261 hQ261
      subst l261 y261 z261
      obtain ⟨rfl, Nq261, e261⟩ := hQ261
      have N261 := Fr.app N260 Nq261
      obtain ⟨_, _, ⟨T262, L262, k262, n262⟩, -, X262, ⟨Lc262, hQ262, l262, y262, z262⟩, st262⟩ := Jvm.LawKit.callS X261 hx (y := (⟨"java/lang/Character", "isLowSurrogate", "(C)Z"⟩ : MethodName)) hown (mvT hZ (W 182 rfl)) (mvT hZ (W 183 rfl)) (mvT hZ (W 106 rfl)) (mvT hZ (W 184 rfl)) (by decide) (backOf (W := 0) (rm_jlo0 l Z a0 hw [] c1 h0 n0 Z0 (fun q => hP0 ⟨hh, q⟩)) hZ (W 184 rfl) (W 106 rfl) (by decide) (by decide)) (g := (mkF m 73 #[rv t1, iv 0, iv 3, iv 0, iv 3, iv 1] [.int c1])) rfl (by rw [hml]; rfl) (argsL := [.int c1]) (rest := []) (lenOf own_pd_21 rfl) rfl own_wt (hb hby own_d15_73) (fun _ _ => ⟨rfl, e261, (by decide : 0 + 0 ≤ _), (by decide : 0 + 0 ≤ _)⟩)
      dsimp only [Pt.U, Pt.locs, Pt.cells, Pt.slots] at X262 l262 y262 z262 st262 hQ262
      subst l262 y262 z262
      obtain ⟨rfl, Nq262, e262⟩ := hQ262
      have N262 := Fr.app N261 Nq262
      have G263 : ∀ tq, Steps p.tables e below (T262.setTop (mkF m 44 #[rv t1, iv 0, iv 3, iv 0, iv 3, iv 1] [])) tq → Steps p.tables e below (T256.setTop (mkF m 44 #[rv t1, iv 0, iv 3, iv 0, iv 3, iv 0] [])) tq := by
        intro tq kk
        show Steps _ _ _ (T256.setTop (mkF m 44 #[rv t1, iv 0, iv 3, iv 0, iv 3, iv 0] [])) _
        refine XS.iload X256.here hx rfl (hb hby own_d15_44) rfl ?_
        show Steps _ _ _ (T256.setTop (mkF m 46 _ [.int 0])) _
        refine XS.iloadN X256.here hx rfl (hb hby own_d15_46) rfl ?_
        show Steps _ _ _ (T256.setTop (mkF m 47 _ [.int 3, .int 0])) _
        refine XS.iconst X256.here hx rfl (hb hby own_d15_47) ?_
        show Steps _ _ _ (T256.setTop (mkF m 48 _ [.int 1, .int 3, .int 0])) _
        refine XS.isub X256.here hx rfl (hb hby own_d15_48) rfl ?_
        show Steps _ _ _ (T256.setTop (mkF m 49 _ [.int 2, .int 0])) _
        refine XS.icmpNo X256.here hx rfl (hb hby own_d15_49) rfl (tlt ((by decide) : (0 : Int32) < (2 : Int32))).2.1 ?_
        show Steps _ _ _ (T256.setTop (mkF m 52 _ [])) _
        refine XS.aloadN X256.here hx rfl (hb hby own_d15_52) rfl rfl ?_
        show Steps _ _ _ (T256.setTop (mkF m 53 _ [.ref t1])) _
        refine XS.iload X256.here hx rfl (hb hby own_d15_53) rfl ?_
        show Steps _ _ _ (T256.setTop (mkF m 55 _ [.int 0, .ref t1])) _
        refine XS.iinc X256.here hx rfl (hb hby own_d15_55) rfl (l' := #[rv t1, iv 0, iv 3, iv 0, iv 3, iv 1]) rfl ?_
        show Steps _ _ _ (T256.setTop (mkF m 58 #[rv t1, iv 0, iv 3, iv 0, iv 3, iv 1] [.int 0, .ref t1])) _
        refine st259 _ ?_
        show Steps _ _ _ (T259.setTop (mkF m 61 #[rv t1, iv 0, iv 3, iv 0, iv 3, iv 1] [.int c0])) _
        refine st260 _ ?_
        show Steps _ _ _ (T260.setTop (mkF m 64 #[rv t1, iv 0, iv 3, iv 0, iv 3, iv 1] [.int 1])) _
        refine XS.ifNo X260.here hx rfl (hb hby own_d15_64) rfl ((if0 _ _).trans (feq ((by decide) : ¬ ((1 : Int32) = (0 : Int32)))).1) ?_
        show Steps _ _ _ (T260.setTop (mkF m 67 _ [])) _
        refine XS.aloadN X260.here hx rfl (hb hby own_d15_67) rfl rfl ?_
        show Steps _ _ _ (T260.setTop (mkF m 68 _ [.ref t1])) _
        refine XS.iload X260.here hx rfl (hb hby own_d15_68) rfl ?_
        show Steps _ _ _ (T260.setTop (mkF m 70 _ [.int 1, .ref t1])) _
        refine st261 _ ?_
        show Steps _ _ _ (T261.setTop (mkF m 73 #[rv t1, iv 0, iv 3, iv 0, iv 3, iv 1] [.int c1])) _
        refine st262 _ ?_
        show Steps _ _ _ (T262.setTop (mkF m 76 #[rv t1, iv 0, iv 3, iv 0, iv 3, iv 1] [.int 0])) _
        refine XS.ifYes X262.here hx rfl (pc0 := 76) (pc' := 44) rfl (hb hby own_d15_76) rfl ((if0 _ _).trans (teq (rfl : (0 : Int32) = (0 : Int32))).1) (by decide) (by decide) ?_
        exact kk
      exact ⟨T262, _, X262, e262, N262, fun tgt kk => G263 _ kk⟩
    · obtain ⟨_, _, ⟨T264, L264, k264, n264⟩, -, X264, ⟨Lc264, hQ264, l264, y264, z264⟩, st264⟩ := Jvm.LawKit.callS X256 hx (y := (⟨"java/lang/StringUTF16", "getChar", "([BI)C"⟩ : MethodName)) hown (mvT hZ (W 154 rfl)) (mvT hZ (W 155 rfl)) (mvT hZ (W 91 rfl)) (mvT hZ (W 156 rfl)) (by decide) (backOf (W := 0) (rm_uget l Z a0 hw [] t1 (0 : Int32) (0 : Int32) (1 : Int32) kb (6 : Int32) c0 [(.int (StrChars.lo8 c0)), (.int (StrChars.hi8 c0)), (.int (StrChars.lo8 c1)), (.int (StrChars.hi8 c1)), (.int (StrChars.lo8 c2)), (.int (StrChars.hi8 c2))] h0 n0 Z0 X00 V1 (by decide) (by decide) (by decide) (by decide) rfl rfl hb0 OA OH OL) hZ (W 156 rfl) (W 91 rfl) (by decide) (by decide)) (g := (mkF m 58 #[rv t1, iv 0, iv 3, iv 0, iv 3, iv 1] [.int 0, .ref t1])) rfl (by rw [hml]; rfl) (argsL := [.ref t1, .int 0]) (rest := []) (lenOf own_pd_18 rfl) rfl own_wt (hb hby own_d15_58) (fun _ _ => ⟨rfl, e256, (by decide : 0 + 0 ≤ _), (by decide : 0 + 0 ≤ _)⟩)
      dsimp only [Pt.U, Pt.locs, Pt.cells, Pt.slots] at X264 l264 y264 z264 st264 hQ264
      subst l264 y264 z264
      obtain ⟨rfl, Nq264, e264⟩ := hQ264
      have N264 := Fr.app N0 Nq264
      obtain ⟨_, _, ⟨T265, L265, k265, n265⟩, -, X265, ⟨Lc265, hQ265, l265, y265, z265⟩, st265⟩ := Jvm.LawKit.callS X264 hx (y := (⟨"java/lang/Character", "isHighSurrogate", "(C)Z"⟩ : MethodName)) hown (mvT hZ (W 167 rfl)) (mvT hZ (W 135 rfl)) (mvT hZ (W 106 rfl)) (mvT hZ (W 136 rfl)) (by decide) (backOf (W := 0) (rm_jhi0 l Z a0 hw [] c0 h0 n0 Z0 hh) hZ (W 136 rfl) (W 106 rfl) (by decide) (by decide)) (g := (mkF m 61 #[rv t1, iv 0, iv 3, iv 0, iv 3, iv 1] [.int c0])) rfl (by rw [hml]; rfl) (argsL := [.int c0]) (rest := []) (lenOf own_pd_21 rfl) rfl own_wt (hb hby own_d15_61) (fun _ _ => ⟨rfl, e264, (by decide : 0 + 0 ≤ _), (by decide : 0 + 0 ≤ _)⟩)
      dsimp only [Pt.U, Pt.locs, Pt.cells, Pt.slots] at X265 l265 y265 z265 st265 hQ265
      subst l265 y265 z265
      obtain ⟨rfl, Nq265, e265⟩ := hQ265
      have N265 := Fr.app N264 Nq265
      have G266 : ∀ tq, Steps p.tables e below (T265.setTop (mkF m 44 #[rv t1, iv 0, iv 3, iv 0, iv 3, iv 1] [])) tq → Steps p.tables e below (T256.setTop (mkF m 44 #[rv t1, iv 0, iv 3, iv 0, iv 3, iv 0] [])) tq := by
        intro tq kk
        show Steps _ _ _ (T256.setTop (mkF m 44 #[rv t1, iv 0, iv 3, iv 0, iv 3, iv 0] [])) _
        refine XS.iload X256.here hx rfl (hb hby own_d15_44) rfl ?_
        show Steps _ _ _ (T256.setTop (mkF m 46 _ [.int 0])) _
        refine XS.iloadN X256.here hx rfl (hb hby own_d15_46) rfl ?_
        show Steps _ _ _ (T256.setTop (mkF m 47 _ [.int 3, .int 0])) _
        refine XS.iconst X256.here hx rfl (hb hby own_d15_47) ?_
        show Steps _ _ _ (T256.setTop (mkF m 48 _ [.int 1, .int 3, .int 0])) _
        refine XS.isub X256.here hx rfl (hb hby own_d15_48) rfl ?_
        show Steps _ _ _ (T256.setTop (mkF m 49 _ [.int 2, .int 0])) _
        refine XS.icmpNo X256.here hx rfl (hb hby own_d15_49) rfl (tlt ((by decide) : (0 : Int32) < (2 : Int32))).2.1 ?_
        show Steps _ _ _ (T256.setTop (mkF m 52 _ [])) _
        refine XS.aloadN X256.here hx rfl (hb hby own_d15_52) rfl rfl ?_
        show Steps _ _ _ (T256.setTop (mkF m 53 _ [.ref t1])) _
        refine XS.iload X256.here hx rfl (hb hby own_d15_53) rfl ?_
        show Steps _ _ _ (T256.setTop (mkF m 55 _ [.int 0, .ref t1])) _
        refine XS.iinc X256.here hx rfl (hb hby own_d15_55) rfl (l' := #[rv t1, iv 0, iv 3, iv 0, iv 3, iv 1]) rfl ?_
        show Steps _ _ _ (T256.setTop (mkF m 58 #[rv t1, iv 0, iv 3, iv 0, iv 3, iv 1] [.int 0, .ref t1])) _
        refine st264 _ ?_
        show Steps _ _ _ (T264.setTop (mkF m 61 #[rv t1, iv 0, iv 3, iv 0, iv 3, iv 1] [.int c0])) _
        refine st265 _ ?_
        show Steps _ _ _ (T265.setTop (mkF m 64 #[rv t1, iv 0, iv 3, iv 0, iv 3, iv 1] [.int 0])) _
        refine XS.ifYes X265.here hx rfl (pc0 := 64) (pc' := 44) rfl (hb hby own_d15_64) rfl ((if0 _ _).trans (teq (rfl : (0 : Int32) = (0 : Int32))).1) (by decide) (by decide) ?_
        exact kk
      exact ⟨T265, _, X265, e265, N265, fun tgt kk => G266 _ kk⟩
  obtain ⟨_, _, ⟨T267, L267, k267, n267⟩, -, X267, ⟨Lc267, hQ267, l267, y267, z267⟩, st267⟩ := Jvm.LawKit.callS XE258 hx (y := (⟨"java/lang/StringUTF16", "getChar", "([BI)C"⟩ : MethodName)) hown (mvT hZ (W 154 rfl)) (mvT hZ (W 155 rfl)) (mvT hZ (W 91 rfl)) (mvT hZ (W 156 rfl)) (by decide) (backOf (W := 0) (rm_uget l Z a0 hw [] t1 (1 : Int32) (2 : Int32) (3 : Int32) kb (6 : Int32) c1 [(.int (StrChars.lo8 c0)), (.int (StrChars.hi8 c0)), (.int (StrChars.lo8 c1)), (.int (StrChars.hi8 c1)), (.int (StrChars.lo8 c2)), (.int (StrChars.hi8 c2))] h0 n0 Z0 X00 V1 (by decide) (by decide) (by decide) (by decide) rfl rfl hb1 OA OH OL) hZ (W 156 rfl) (W 91 rfl) (by decide) (by decide)) (g := (mkF m 58 #[rv t1, iv 0, iv 3, iv 0, iv 3, iv 2] [.int 1, .ref t1])) rfl (by rw [hml]; rfl) (argsL := [.ref t1, .int 1]) (rest := []) (lenOf own_pd_18 rfl) rfl own_wt (hb hby own_d15_58) (fun _ _ => ⟨rfl, eE258, (by decide : 0 + 0 ≤ _), (by decide : 0 + 0 ≤ _)⟩)
  dsimp only [Pt.U, Pt.locs, Pt.cells, Pt.slots] at X267 l267 y267 z267 st267 hQ267
  subst l267 y267 z267
  obtain ⟨rfl, Nq267, e267⟩ := hQ267
  have N267 := Fr.app NE258 Nq267
  obtain ⟨_, _, ⟨T268, L268, k268, n268⟩, -, X268, ⟨Lc268, hQ268, l268, y268, z268⟩, st268⟩ := Jvm.LawKit.callS X267 hx (y := (⟨"java/lang/Character", "isHighSurrogate", "(C)Z"⟩ : MethodName)) hown (mvT hZ (W 167 rfl)) (mvT hZ (W 135 rfl)) (mvT hZ (W 106 rfl)) (mvT hZ (W 136 rfl)) (by decide) (backOf (W := 0) (rm_jhi1 l Z a0 hw [] c1 h0 n0 Z0 hP1.1) hZ (W 136 rfl) (W 106 rfl) (by decide) (by decide)) (g := (mkF m 61 #[rv t1, iv 0, iv 3, iv 0, iv 3, iv 2] [.int c1])) rfl (by rw [hml]; rfl) (argsL := [.int c1]) (rest := []) (lenOf own_pd_21 rfl) rfl own_wt (hb hby own_d15_61) (fun _ _ => ⟨rfl, e267, (by decide : 0 + 0 ≤ _), (by decide : 0 + 0 ≤ _)⟩)
  dsimp only [Pt.U, Pt.locs, Pt.cells, Pt.slots] at X268 l268 y268 z268 st268 hQ268
  subst l268 y268 z268
  obtain ⟨rfl, Nq268, e268⟩ := hQ268
  have N268 := Fr.app N267 Nq268
  obtain ⟨_, _, ⟨T269, L269, k269, n269⟩, -, X269, ⟨Lc269, hQ269, l269, y269, z269⟩, st269⟩ := Jvm.LawKit.callS X268 hx (y := (⟨"java/lang/StringUTF16", "getChar", "([BI)C"⟩ : MethodName)) hown (mvT hZ (W 154 rfl)) (mvT hZ (W 155 rfl)) (mvT hZ (W 91 rfl)) (mvT hZ (W 156 rfl)) (by decide) (backOf (W := 0) (rm_uget l Z a0 hw [] t1 (2 : Int32) (4 : Int32) (5 : Int32) kb (6 : Int32) c2 [(.int (StrChars.lo8 c0)), (.int (StrChars.hi8 c0)), (.int (StrChars.lo8 c1)), (.int (StrChars.hi8 c1)), (.int (StrChars.lo8 c2)), (.int (StrChars.hi8 c2))] h0 n0 Z0 X00 V1 (by decide) (by decide) (by decide) (by decide) rfl rfl hb2 OA OH OL) hZ (W 156 rfl) (W 91 rfl) (by decide) (by decide)) (g := (mkF m 70 #[rv t1, iv 0, iv 3, iv 0, iv 3, iv 2] [.int 2, .ref t1])) rfl (by rw [hml]; rfl) (argsL := [.ref t1, .int 2]) (rest := []) (lenOf own_pd_18 rfl) rfl own_wt (hb hby own_d15_70) (fun _ _ => ⟨rfl, e268, (by decide : 0 + 0 ≤ _), (by decide : 0 + 0 ≤ _)⟩)
  dsimp only [Pt.U, Pt.locs, Pt.cells, Pt.slots] at X269 l269 y269 z269 st269 hQ269
  subst l269 y269 z269
  obtain ⟨rfl, Nq269, e269⟩ := hQ269
  have N269 := Fr.app N268 Nq269
  obtain ⟨_, _, ⟨T270, L270, k270, n270⟩, -, X270, ⟨Lc270, hQ270, l270, y270, z270⟩, st270⟩ := Jvm.LawKit.callS X269 hx (y := (⟨"java/lang/Character", "isLowSurrogate", "(C)Z"⟩ : MethodName)) hown (mvT hZ (W 182 rfl)) (mvT hZ (W 183 rfl)) (mvT hZ (W 106 rfl)) (mvT hZ (W 184 rfl)) (by decide) (backOf (W := 0) (rm_jlo1 l Z a0 hw [] c2 h0 n0 Z0 hP1.2) hZ (W 184 rfl) (W 106 rfl) (by decide) (by decide)) (g := (mkF m 73 #[rv t1, iv 0, iv 3, iv 0, iv 3, iv 2] [.int c2])) rfl (by rw [hml]; rfl) (argsL := [.int c2]) (rest := []) (lenOf own_pd_21 rfl) rfl own_wt (hb hby own_d15_73) (fun _ _ => ⟨rfl, e269, (by decide : 0 + 0 ≤ _), (by decide : 0 + 0 ≤ _)⟩)
  dsimp only [Pt.U, Pt.locs, Pt.cells, Pt.slots] at X270 l270 y270 z270 st270 hQ270
  subst l270 y270 z270
  obtain ⟨rfl, Nq270, e270⟩ := hQ270
  have N270 := Fr.app N269 Nq270
  have G271 : ∀ tq, Steps p.tables e below (T270.setTop (mkF m 44 #[rv t1, iv 0, iv 3, iv 0, iv 2, iv 3] [])) tq → Steps p.tables e below (TE258.setTop (mkF m 44 #[rv t1, iv 0, iv 3, iv 0, iv 3, iv 1] [])) tq := by
    intro tq kk
    show Steps _ _ _ (TE258.setTop (mkF m 44 #[rv t1, iv 0, iv 3, iv 0, iv 3, iv 1] [])) _
    refine XS.iload XE258.here hx rfl (hb hby own_d15_44) rfl ?_
    show Steps _ _ _ (TE258.setTop (mkF m 46 _ [.int 1])) _
    refine XS.iloadN XE258.here hx rfl (hb hby own_d15_46) rfl ?_
    show Steps _ _ _ (TE258.setTop (mkF m 47 _ [.int 3, .int 1])) _
    refine XS.iconst XE258.here hx rfl (hb hby own_d15_47) ?_
    show Steps _ _ _ (TE258.setTop (mkF m 48 _ [.int 1, .int 3, .int 1])) _
    refine XS.isub XE258.here hx rfl (hb hby own_d15_48) rfl ?_
    show Steps _ _ _ (TE258.setTop (mkF m 49 _ [.int 2, .int 1])) _
    refine XS.icmpNo XE258.here hx rfl (hb hby own_d15_49) rfl (tlt ((by decide) : (1 : Int32) < (2 : Int32))).2.1 ?_
    show Steps _ _ _ (TE258.setTop (mkF m 52 _ [])) _
    refine XS.aloadN XE258.here hx rfl (hb hby own_d15_52) rfl rfl ?_
    show Steps _ _ _ (TE258.setTop (mkF m 53 _ [.ref t1])) _
    refine XS.iload XE258.here hx rfl (hb hby own_d15_53) rfl ?_
    show Steps _ _ _ (TE258.setTop (mkF m 55 _ [.int 1, .ref t1])) _
    refine XS.iinc XE258.here hx rfl (hb hby own_d15_55) rfl (l' := #[rv t1, iv 0, iv 3, iv 0, iv 3, iv 2]) rfl ?_
    show Steps _ _ _ (TE258.setTop (mkF m 58 #[rv t1, iv 0, iv 3, iv 0, iv 3, iv 2] [.int 1, .ref t1])) _
    refine st267 _ ?_
    show Steps _ _ _ (T267.setTop (mkF m 61 #[rv t1, iv 0, iv 3, iv 0, iv 3, iv 2] [.int c1])) _
    refine st268 _ ?_
    show Steps _ _ _ (T268.setTop (mkF m 64 #[rv t1, iv 0, iv 3, iv 0, iv 3, iv 2] [.int 1])) _
    refine XS.ifNo X268.here hx rfl (hb hby own_d15_64) rfl ((if0 _ _).trans (feq ((by decide) : ¬ ((1 : Int32) = (0 : Int32)))).1) ?_
    show Steps _ _ _ (T268.setTop (mkF m 67 _ [])) _
    refine XS.aloadN X268.here hx rfl (hb hby own_d15_67) rfl rfl ?_
    show Steps _ _ _ (T268.setTop (mkF m 68 _ [.ref t1])) _
    refine XS.iload X268.here hx rfl (hb hby own_d15_68) rfl ?_
    show Steps _ _ _ (T268.setTop (mkF m 70 _ [.int 2, .ref t1])) _
    refine st269 _ ?_
    show Steps _ _ _ (T269.setTop (mkF m 73 #[rv t1, iv 0, iv 3, iv 0, iv 3, iv 2] [.int c2])) _
    refine st270 _ ?_
    show Steps _ _ _ (T270.setTop (mkF m 76 #[rv t1, iv 0, iv 3, iv 0, iv 3, iv 2] [.int 1])) _
    refine XS.ifNo X270.here hx rfl (hb hby own_d15_76) rfl ((if0 _ _).trans (feq ((by decide) : ¬ ((1 : Int32) = (0 : Int32)))).1) ?_
    show Steps _ _ _ (T270.setTop (mkF m 79 _ [])) _
    refine XS.iinc X270.here hx rfl (hb hby own_d15_79) rfl (l' := #[rv t1, iv 0, iv 3, iv 0, iv 2, iv 2]) rfl ?_
    show Steps _ _ _ (T270.setTop (mkF m 82 _ [])) _
    refine XS.iinc X270.here hx rfl (hb hby own_d15_82) rfl (l' := #[rv t1, iv 0, iv 3, iv 0, iv 2, iv 3]) rfl ?_
    show Steps _ _ _ (T270.setTop (mkF m 85 _ [])) _
    refine XS.goto X270.here hx rfl (pc0 := 85) (pc' := 44) rfl (hb hby own_d15_85) (by decide) (by decide) ?_
    exact kk
  obtain ⟨fs, hr, hrun, hended, hW, hsame⟩ := X270.leave (v := some (.int (2 : Int32))) (fun h => by rw [Bd.returns] at h; cases h)
  refine ⟨_, _, pre0 _ (G257 _ (GE258 _ (G271 _ (?_)))), hrun, hended, _, _, rfl, ?_, ⟨_, rfl⟩, hW, hsame.mono (by decide) (by decide)⟩
  · show Steps _ _ _ (T270.setTop (mkF m 44 #[rv t1, iv 0, iv 3, iv 0, iv 2, iv 3] [])) _
    refine XS.iload X270.here hx rfl (hb hby own_d15_44) rfl ?_
    show Steps _ _ _ (T270.setTop (mkF m 46 _ [.int 3])) _
    refine XS.iloadN X270.here hx rfl (hb hby own_d15_46) rfl ?_
    show Steps _ _ _ (T270.setTop (mkF m 47 _ [.int 3, .int 3])) _
    refine XS.iconst X270.here hx rfl (hb hby own_d15_47) ?_
    show Steps _ _ _ (T270.setTop (mkF m 48 _ [.int 1, .int 3, .int 3])) _
    refine XS.isub X270.here hx rfl (hb hby own_d15_48) rfl ?_
    show Steps _ _ _ (T270.setTop (mkF m 49 _ [.int 2, .int 3])) _
    refine XS.icmpYes X270.here hx rfl (pc0 := 49) (pc' := 88) rfl (hb hby own_d15_49) rfl (flt ((by decide) : ¬ ((3 : Int32) < (2 : Int32)))).2.1 (by decide) (by decide) ?_
    show Steps _ _ _ (T270.setTop (mkF m 88 _ [])) _
    refine XS.iload X270.here hx rfl (hb hby own_d15_88) rfl ?_
    show Steps _ _ _ (T270.setTop (mkF m 90 _ [.int 2])) _
    exact retI X270 hx Bd.returns (hb hby own_d15_90) hr
  · show Q_uczF3 Z t1 kb c0 c1 c2 h0 n0 _ T270.heap _
    rw [e270]
    exact ⟨rfl, N270, rfl⟩
theorem own_ef_uczG3 (m : MethodId) (x0 : Addr) (x1 : Int32) (x2 : Int32) (x3 : Int32) : entryFrame m #[(.ref x0), (.int x1), (.int x2), (.int x3)] 6 = mkF m 0 #[rv x0, iv x1, iv x2, iv x3, uu, uu] [] := by first | (simp [entryFrame, mkF, argsToLocals, Value.category]; done) | rfl
def Q_uczG3 (Z : State) (t1 : Addr) (kb : ClassId) (c0 c1 c2 : Int32) (h0 : Heap) (n0 : Nat) (v : Option Value) (h : Heap) (L : List Loc) : Prop := v = some (.int 3) ∧ Fr n0 L ∧ h = h0
set_option maxRecDepth 65536 in
set_option maxHeartbeats 40000000 in
theorem rm_uczG3 (l : Launch) (Z : State) (a0 : Array Value) (hw : ∀ d ∈ tables_1, d.before a0 Z = true) (ws : List Jvm.Cond) (t1 : Addr) (kb : ClassId) (c0 c1 c2 : Int32) (h0 : Heap) (n0 : Nat) (Z0 : n0 ≤ h0.size) (X00 : Old Z n0 h0) (V1 : Arv Z h0 t1 kb .byte (6 : Int32) [(.int (StrChars.lo8 c0)), (.int (StrChars.hi8 c0)), (.int (StrChars.lo8 c1)), (.int (StrChars.hi8 c1)), (.int (StrChars.lo8 c2)), (.int (StrChars.hi8 c2))] (.int 0)) (hb0 : ¬ c0 < 0 ∧ ¬ (65535 : Int32) < c0) (hb1 : ¬ c1 < 0 ∧ ¬ (65535 : Int32) < c1) (hb2 : ¬ c2 < 0 ∧ ¬ (65535 : Int32) < c2) (hP0 : ¬ (own_hi c0 ∧ own_lo c1)) (hP1 : ¬ (own_hi c1 ∧ own_lo c2)) (OA : Sta Z Z.heap "java/lang/StringUTF16" "$assertionsDisabled" "Z" (.int (1 : Int32))) (OH : Sta Z Z.heap "java/lang/StringUTF16" "HI_BYTE_SHIFT" "I" (.int (0 : Int32))) (OL : Sta Z Z.heap "java/lang/StringUTF16" "LO_BYTE_SHIFT" "I" (.int (8 : Int32))) :
    MetFree l (⟨"java/lang/StringUTF16", "codePointCount", "([BIIZ)I"⟩ : MethodName) (head1 (Jvm.Cond.code (⟨"java/lang/StringUTF16", "codePointCount", "([BIIZ)I"⟩ : MethodName) jdk_52_method_11_code 6 (some .int) :: ws) ({ frames := 1, cells := 0, slots := 0, locals := 13 } : Room)) (fun a U => a = #[(.ref t1), (.int (0 : Int32)), (.int (3 : Int32)), (.int (0 : Int32))] ∧ Z.Warmed39 U.vm ∧ U.heap = h0) (fun _ _ _ _ _ => True) (fun _ U o U' => ∃ v L, o = .returned v ∧ Q_uczG3 Z t1 kb c0 c1 c2 h0 n0 v U'.heap L ∧ FrameEnd U o U' L ({ frames := 1, cells := 0, slots := 0, locals := 13 } : Room).cells ({ frames := 1, cells := 0, slots := 0, locals := 13 } : Room).slots) := by
  refine MetFree.of_bodySF (plainFor_of_name own_pn_6) hisR ?_
  intro p e s m args below meth c s₁ Bd hml0 hP hK
  obtain ⟨rfl, hZ, hh⟩ := hP
  have hx := Bd.exec
  have hby := Bd.bytes
  have hml : c.maxLocals = 6 := hml0
  have hown : s.vm.findClass "java/lang/StringUTF16" = some m.cls := findClass_of_methodNamed Bd.named
  have hnm := (name_of_methodNamed Bd.named Bd.method).1
  have W := own_W hw
  have X0 : Stand p l e ({ frames := 1, cells := 0, slots := 0, locals := 13 } : Room) s m #[(.ref t1), (.int (0 : Int32)), (.int (3 : Int32)), (.int (0 : Int32))] below meth c s₁ [] 0 0 := Stand.of_body Bd
  have e0 : s₁.heap = h0 := by rw [← hh, Bd.state]; rfl
  have N0 := Fr.nil n0
  have pre0 : ∀ tq, Steps p.tables e below (s₁.setTop (mkF m 0 #[rv t1, iv 0, iv 3, iv 0, uu, uu] [])) tq → Steps p.tables e below (s₁.setTop (entryFrame m #[(.ref t1), (.int (0 : Int32)), (.int (3 : Int32)), (.int (0 : Int32))] 6)) tq := fun tq k => castTop (own_ef_uczG3 m t1 (0 : Int32) (3 : Int32) (0 : Int32)) k
  obtain ⟨T272, X272, e272, st272⟩ := getS2 X0 hx hZ hown (host := "") (Or.inl (W 151 rfl)) Via.refl e0 (OA.ext X00.2) (g := (mkF m 0 #[rv t1, iv 0, iv 3, iv 0, uu, uu] [])) rfl (hb hby own_d15_0)
  have G273 : ∀ tq, Steps p.tables e below (T272.setTop (mkF m 44 #[rv t1, iv 0, iv 3, iv 0, iv 3, iv 0] [])) tq → Steps p.tables e below (s₁.setTop (mkF m 0 #[rv t1, iv 0, iv 3, iv 0, uu, uu] [])) tq := by
    intro tq kk
    show Steps _ _ _ (s₁.setTop (mkF m 0 #[rv t1, iv 0, iv 3, iv 0, uu, uu] [])) _
    refine st272 _ ?_
    show Steps _ _ _ (T272.setTop (mkF m 3 #[rv t1, iv 0, iv 3, iv 0, uu, uu] [.int 1])) _
    refine XS.ifYes X272.here hx rfl (pc0 := 3) (pc' := 19) rfl (hb hby own_d15_3) rfl ((if0 _ _).trans (feq ((by decide) : ¬ ((1 : Int32) = (0 : Int32)))).2) (by decide) (by decide) ?_
    show Steps _ _ _ (T272.setTop (mkF m 19 _ [])) _
    refine XS.iloadN X272.here hx rfl (hb hby own_d15_19) rfl ?_
    show Steps _ _ _ (T272.setTop (mkF m 20 _ [.int 3])) _
    refine XS.iloadN X272.here hx rfl (hb hby own_d15_20) rfl ?_
    show Steps _ _ _ (T272.setTop (mkF m 21 _ [.int 0, .int 3])) _
    refine XS.isub X272.here hx rfl (hb hby own_d15_21) rfl ?_
    show Steps _ _ _ (T272.setTop (mkF m 22 _ [.int 3])) _
    refine XS.istore X272.here hx rfl (hb hby own_d15_22) rfl (l' := #[rv t1, iv 0, iv 3, iv 0, iv 3, uu]) rfl ?_
    show Steps _ _ _ (T272.setTop (mkF m 24 _ [])) _
    refine XS.iloadN X272.here hx rfl (hb hby own_d15_24) rfl ?_
    show Steps _ _ _ (T272.setTop (mkF m 25 _ [.int 0])) _
    refine XS.istore X272.here hx rfl (hb hby own_d15_25) rfl (l' := #[rv t1, iv 0, iv 3, iv 0, iv 3, iv 0]) rfl ?_
    show Steps _ _ _ (T272.setTop (mkF m 27 _ [])) _
    refine XS.iloadN X272.here hx rfl (hb hby own_d15_27) rfl ?_
    show Steps _ _ _ (T272.setTop (mkF m 28 #[rv t1, iv 0, iv 3, iv 0, iv 3, iv 0] [.int 0])) _
    refine XS.ifYes X272.here hx rfl (pc0 := 28) (pc' := 44) rfl (hb hby own_d15_28) rfl ((if0 _ _).trans (teq (rfl : (0 : Int32) = (0 : Int32))).1) (by decide) (by decide) ?_
    exact kk
  obtain ⟨TE274, lE274, XE274, eE274, NE274, GE274⟩ : ∃ (TE : State) (lE : List Loc), Stand p l e ({ frames := 1, cells := 0, slots := 0, locals := 13 } : Room) s m #[(.ref t1), (.int (0 : Int32)), (.int (3 : Int32)), (.int (0 : Int32))] below meth c TE lE 0 0 ∧ TE.heap = h0 ∧ Fr n0 lE ∧ (∀ tgt, Steps p.tables e below (TE.setTop (mkF m 44 #[rv t1, iv 0, iv 3, iv 0, iv 3, iv 1] [])) tgt → Steps p.tables e below (T272.setTop (mkF m 44 #[rv t1, iv 0, iv 3, iv 0, iv 3, iv 0] [])) tgt) := by
    by_cases hh : own_hi c0
    · obtain ⟨_, _, ⟨T275, L275, k275, n275⟩, -, X275, ⟨Lc275, hQ275, l275, y275, z275⟩, st275⟩ := Jvm.LawKit.callS X272 hx (y := (⟨"java/lang/StringUTF16", "getChar", "([BI)C"⟩ : MethodName)) hown (mvT hZ (W 154 rfl)) (mvT hZ (W 155 rfl)) (mvT hZ (W 91 rfl)) (mvT hZ (W 156 rfl)) (by decide) (backOf (W := 0) (rm_uget l Z a0 hw [] t1 (0 : Int32) (0 : Int32) (1 : Int32) kb (6 : Int32) c0 [(.int (StrChars.lo8 c0)), (.int (StrChars.hi8 c0)), (.int (StrChars.lo8 c1)), (.int (StrChars.hi8 c1)), (.int (StrChars.lo8 c2)), (.int (StrChars.hi8 c2))] h0 n0 Z0 X00 V1 (by decide) (by decide) (by decide) (by decide) rfl rfl hb0 OA OH OL) hZ (W 156 rfl) (W 91 rfl) (by decide) (by decide)) (g := (mkF m 58 #[rv t1, iv 0, iv 3, iv 0, iv 3, iv 1] [.int 0, .ref t1])) rfl (by rw [hml]; rfl) (argsL := [.ref t1, .int 0]) (rest := []) (lenOf own_pd_18 rfl) rfl own_wt (hb hby own_d15_58) (fun _ _ => ⟨rfl, e272, (by decide : 0 + 0 ≤ _), (by decide : 0 + 0 ≤ _)⟩)
      dsimp only [Pt.U, Pt.locs, Pt.cells, Pt.slots] at X275 l275 y275 z275 st275 hQ275
      subst l275 y275 z275
      obtain ⟨rfl, Nq275, e275⟩ := hQ275
      have N275 := Fr.app N0 Nq275
      obtain ⟨_, _, ⟨T276, L276, k276, n276⟩, -, X276, ⟨Lc276, hQ276, l276, y276, z276⟩, st276⟩ := Jvm.LawKit.callS X275 hx (y := (⟨"java/lang/Character", "isHighSurrogate", "(C)Z"⟩ : MethodName)) hown (mvT hZ (W 167 rfl)) (mvT hZ (W 135 rfl)) (mvT hZ (W 106 rfl)) (mvT hZ (W 136 rfl)) (by decide) (backOf (W := 0) (rm_jhi1 l Z a0 hw [] c0 h0 n0 Z0 hh) hZ (W 136 rfl) (W 106 rfl) (by decide) (by decide)) (g := (mkF m 61 #[rv t1, iv 0, iv 3, iv 0, iv 3, iv 1] [.int c0])) rfl (by rw [hml]; rfl) (argsL := [.int c0]) (rest := []) (lenOf own_pd_21 rfl) rfl own_wt (hb hby own_d15_61) (fun _ _ => ⟨rfl, e275, (by decide : 0 + 0 ≤ _), (by decide : 0 + 0 ≤ _)⟩)
      dsimp only [Pt.U, Pt.locs, Pt.cells, Pt.slots] at X276 l276 y276 z276 st276 hQ276
      subst l276 y276 z276
      obtain ⟨rfl, Nq276, e276⟩ := hQ276
      have N276 := Fr.app N275 Nq276
      obtain ⟨_, _, ⟨T277, L277, k277, n277⟩, -, X277, ⟨Lc277, hQ277, l277, y277, z277⟩, st277⟩ := Jvm.LawKit.callS X276 hx (y := (⟨"java/lang/StringUTF16", "getChar", "([BI)C"⟩ : MethodName)) hown (mvT hZ (W 154 rfl)) (mvT hZ (W 155 rfl)) (mvT hZ (W 91 rfl)) (mvT hZ (W 156 rfl)) (by decide) (backOf (W := 0) (rm_uget l Z a0 hw [] t1 (1 : Int32) (2 : Int32) (3 : Int32) kb (6 : Int32) c1 [(.int (StrChars.lo8 c0)), (.int (StrChars.hi8 c0)), (.int (StrChars.lo8 c1)), (.int (StrChars.hi8 c1)), (.int (StrChars.lo8 c2)), (.int (StrChars.hi8 c2))] h0 n0 Z0 X00 V1 (by decide) (by decide) (by decide) (by decide) rfl rfl hb1 OA OH OL) hZ (W 156 rfl) (W 91 rfl) (by decide) (by decide)) (g := (mkF m 70 #[rv t1, iv 0, iv 3, iv 0, iv 3, iv 1] [.int 1, .ref t1])) rfl (by rw [hml]; rfl) (argsL := [.ref t1, .int 1]) (rest := []) (lenOf own_pd_18 rfl) rfl own_wt (hb hby own_d15_70) (fun _ _ => ⟨rfl, e276, (by decide : 0 + 0 ≤ _), (by decide : 0 + 0 ≤ _)⟩)
      dsimp only [Pt.U, Pt.locs, Pt.cells, Pt.slots] at X277 l277 y277 z277 st277 hQ277
      subst l277 y277 z277
      obtain ⟨rfl, Nq277, e277⟩ := hQ277
      have N277 := Fr.app N276 Nq277
      obtain ⟨_, _, ⟨T278, L278, k278, n278⟩, -, X278, ⟨Lc278, hQ278, l278, y278, z278⟩, st278⟩ := Jvm.LawKit.callS X277 hx (y := (⟨"java/lang/Character", "isLowSurrogate", "(C)Z"⟩ : MethodName)) hown (mvT hZ (W 182 rfl)) (mvT hZ (W 183 rfl)) (mvT hZ (W 106 rfl)) (mvT hZ (W 184 rfl)) (by decide) (backOf (W := 0) (rm_jlo0 l Z a0 hw [] c1 h0 n0 Z0 (fun q => hP0 ⟨hh, q⟩)) hZ (W 184 rfl) (W 106 rfl) (by decide) (by decide)) (g := (mkF m 73 #[rv t1, iv 0, iv 3, iv 0, iv 3, iv 1] [.int c1])) rfl (by rw [hml]; rfl) (argsL := [.int c1]) (rest := []) (lenOf own_pd_21 rfl) rfl own_wt (hb hby own_d15_73) (fun _ _ => ⟨rfl, e277, (by decide : 0 + 0 ≤ _), (by decide : 0 + 0 ≤ _)⟩)
      dsimp only [Pt.U, Pt.locs, Pt.cells, Pt.slots] at X278 l278 y278 z278 st278 hQ278
      subst l278 y278 z278
      obtain ⟨rfl, Nq278, e278⟩ := hQ278
      have N278 := Fr.app N277 Nq278
      have G279 : ∀ tq, Steps p.tables e below (T278.setTop (mkF m 44 #[rv t1, iv 0, iv 3, iv 0, iv 3, iv 1] [])) tq → Steps p.tables e below (T272.setTop (mkF m 44 #[rv t1, iv 0, iv 3, iv 0, iv 3, iv 0] [])) tq := by
        intro tq kk
        show Steps _ _ _ (T272.setTop (mkF m 44 #[rv t1, iv 0, iv 3, iv 0, iv 3, iv 0] [])) _
        refine XS.iload X272.here hx rfl (hb hby own_d15_44) rfl ?_
        show Steps _ _ _ (T272.setTop (mkF m 46 _ [.int 0])) _
        refine XS.iloadN X272.here hx rfl (hb hby own_d15_46) rfl ?_
        show Steps _ _ _ (T272.setTop (mkF m 47 _ [.int 3, .int 0])) _
        refine XS.iconst X272.here hx rfl (hb hby own_d15_47) ?_
        show Steps _ _ _ (T272.setTop (mkF m 48 _ [.int 1, .int 3, .int 0])) _
        refine XS.isub X272.here hx rfl (hb hby own_d15_48) rfl ?_
        show Steps _ _ _ (T272.setTop (mkF m 49 _ [.int 2, .int 0])) _
        refine XS.icmpNo X272.here hx rfl (hb hby own_d15_49) rfl (tlt ((by decide) : (0 : Int32) < (2 : Int32))).2.1 ?_
        show Steps _ _ _ (T272.setTop (mkF m 52 _ [])) _
        refine XS.aloadN X272.here hx rfl (hb hby own_d15_52) rfl rfl ?_
        show Steps _ _ _ (T272.setTop (mkF m 53 _ [.ref t1])) _
        refine XS.iload X272.here hx rfl (hb hby own_d15_53) rfl ?_
        show Steps _ _ _ (T272.setTop (mkF m 55 _ [.int 0, .ref t1])) _
        refine XS.iinc X272.here hx rfl (hb hby own_d15_55) rfl (l' := #[rv t1, iv 0, iv 3, iv 0, iv 3, iv 1]) rfl ?_
        show Steps _ _ _ (T272.setTop (mkF m 58 #[rv t1, iv 0, iv 3, iv 0, iv 3, iv 1] [.int 0, .ref t1])) _
        refine st275 _ ?_
        show Steps _ _ _ (T275.setTop (mkF m 61 #[rv t1, iv 0, iv 3, iv 0, iv 3, iv 1] [.int c0])) _
        refine st276 _ ?_
        show Steps _ _ _ (T276.setTop (mkF m 64 #[rv t1, iv 0, iv 3, iv 0, iv 3, iv 1] [.int 1])) _
        refine XS.ifNo X276.here hx rfl (hb hby own_d15_64) rfl ((if0 _ _).trans (feq ((by decide) : ¬ ((1 : Int32) = (0 : Int32)))).1) ?_
        show Steps _ _ _ (T276.setTop (mkF m 67 _ [])) _
        refine XS.aloadN X276.here hx rfl (hb hby own_d15_67) rfl rfl ?_
        show Steps _ _ _ (T276.setTop (mkF m 68 _ [.ref t1])) _
        refine XS.iload X276.here hx rfl (hb hby own_d15_68) rfl ?_
        show Steps _ _ _ (T276.setTop (mkF m 70 _ [.int 1, .ref t1])) _
        refine st277 _ ?_
        show Steps _ _ _ (T277.setTop (mkF m 73 #[rv t1, iv 0, iv 3, iv 0, iv 3, iv 1] [.int c1])) _
        refine st278 _ ?_
        show Steps _ _ _ (T278.setTop (mkF m 76 #[rv t1, iv 0, iv 3, iv 0, iv 3, iv 1] [.int 0])) _
        refine XS.ifYes X278.here hx rfl (pc0 := 76) (pc' := 44) rfl (hb hby own_d15_76) rfl ((if0 _ _).trans (teq (rfl : (0 : Int32) = (0 : Int32))).1) (by decide) (by decide) ?_
        exact kk
      exact ⟨T278, _, X278, e278, N278, fun tgt kk => G279 _ kk⟩
    · obtain ⟨_, _, ⟨T280, L280, k280, n280⟩, -, X280, ⟨Lc280, hQ280, l280, y280, z280⟩, st280⟩ := Jvm.LawKit.callS X272 hx (y := (⟨"java/lang/StringUTF16", "getChar", "([BI)C"⟩ : MethodName)) hown (mvT hZ (W 154 rfl)) (mvT hZ (W 155 rfl)) (mvT hZ (W 91 rfl)) (mvT hZ (W 156 rfl)) (by decide) (backOf (W := 0) (rm_uget l Z a0 hw [] t1 (0 : Int32) (0 : Int32) (1 : Int32) kb (6 : Int32) c0 [(.int (StrChars.lo8 c0)), (.int (StrChars.hi8 c0)), (.int (StrChars.lo8 c1)), (.int (StrChars.hi8 c1)), (.int (StrChars.lo8 c2)), (.int (StrChars.hi8 c2))] h0 n0 Z0 X00 V1 (by decide) (by decide) (by decide) (by decide) rfl rfl hb0 OA OH OL) hZ (W 156 rfl) (W 91 rfl) (by decide) (by decide)) (g := (mkF m 58 #[rv t1, iv 0, iv 3, iv 0, iv 3, iv 1] [.int 0, .ref t1])) rfl (by rw [hml]; rfl) (argsL := [.ref t1, .int 0]) (rest := []) (lenOf own_pd_18 rfl) rfl own_wt (hb hby own_d15_58) (fun _ _ => ⟨rfl, e272, (by decide : 0 + 0 ≤ _), (by decide : 0 + 0 ≤ _)⟩)
      dsimp only [Pt.U, Pt.locs, Pt.cells, Pt.slots] at X280 l280 y280 z280 st280 hQ280
      subst l280 y280 z280
      obtain ⟨rfl, Nq280, e280⟩ := hQ280
      have N280 := Fr.app N0 Nq280
      obtain ⟨_, _, ⟨T281, L281, k281, n281⟩, -, X281, ⟨Lc281, hQ281, l281, y281, z281⟩, st281⟩ := Jvm.LawKit.callS X280 hx (y := (⟨"java/lang/Character", "isHighSurrogate", "(C)Z"⟩ : MethodName)) hown (mvT hZ (W 167 rfl)) (mvT hZ (W 135 rfl)) (mvT hZ (W 106 rfl)) (mvT hZ (W 136 rfl)) (by decide) (backOf (W := 0) (rm_jhi0 l Z a0 hw [] c0 h0 n0 Z0 hh) hZ (W 136 rfl) (W 106 rfl) (by decide) (by decide)) (g := (mkF m 61 #[rv t1, iv 0, iv 3, iv 0, iv 3, iv 1] [.int c0])) rfl (by rw [hml]; rfl) (argsL := [.int c0]) (rest := []) (lenOf own_pd_21 rfl) rfl own_wt (hb hby own_d15_61) (fun _ _ => ⟨rfl, e280, (by decide : 0 + 0 ≤ _), (by decide : 0 + 0 ≤ _)⟩)
      dsimp only [Pt.U, Pt.locs, Pt.cells, Pt.slots] at X281 l281 y281 z281 st281 hQ281
      subst l281 y281 z281
      obtain ⟨rfl, Nq281, e281⟩ := hQ281
      have N281 := Fr.app N280 Nq281
      have G282 : ∀ tq, Steps p.tables e below (T281.setTop (mkF m 44 #[rv t1, iv 0, iv 3, iv 0, iv 3, iv 1] [])) tq → Steps p.tables e below (T272.setTop (mkF m 44 #[rv t1, iv 0, iv 3, iv 0, iv 3, iv 0] [])) tq := by
        intro tq kk
        show Steps _ _ _ (T272.setTop (mkF m 44 #[rv t1, iv 0, iv 3, iv 0, iv 3, iv 0] [])) _
        refine XS.iload X272.here hx rfl (hb hby own_d15_44) rfl ?_
        show Steps _ _ _ (T272.setTop (mkF m 46 _ [.int 0])) _
        refine XS.iloadN X272.here hx rfl (hb hby own_d15_46) rfl ?_
        show Steps _ _ _ (T272.setTop (mkF m 47 _ [.int 3, .int 0])) _
        refine XS.iconst X272.here hx rfl (hb hby own_d15_47) ?_
        show Steps _ _ _ (T272.setTop (mkF m 48 _ [.int 1, .int 3, .int 0])) _
        refine XS.isub X272.here hx rfl (hb hby own_d15_48) rfl ?_
        show Steps _ _ _ (T272.setTop (mkF m 49 _ [.int 2, .int 0])) _
        refine XS.icmpNo X272.here hx rfl (hb hby own_d15_49) rfl (tlt ((by decide) : (0 : Int32) < (2 : Int32))).2.1 ?_
        show Steps _ _ _ (T272.setTop (mkF m 52 _ [])) _
        refine XS.aloadN X272.here hx rfl (hb hby own_d15_52) rfl rfl ?_
        show Steps _ _ _ (T272.setTop (mkF m 53 _ [.ref t1])) _
        refine XS.iload X272.here hx rfl (hb hby own_d15_53) rfl ?_
        show Steps _ _ _ (T272.setTop (mkF m 55 _ [.int 0, .ref t1])) _
        refine XS.iinc X272.here hx rfl (hb hby own_d15_55) rfl (l' := #[rv t1, iv 0, iv 3, iv 0, iv 3, iv 1]) rfl ?_
        show Steps _ _ _ (T272.setTop (mkF m 58 #[rv t1, iv 0, iv 3, iv 0, iv 3, iv 1] [.int 0, .ref t1])) _
        refine st280 _ ?_
        show Steps _ _ _ (T280.setTop (mkF m 61 #[rv t1, iv 0, iv 3, iv 0, iv 3, iv 1] [.int c0])) _
        refine st281 _ ?_
        show Steps _ _ _ (T281.setTop (mkF m 64 #[rv t1, iv 0, iv 3, iv 0, iv 3, iv 1] [.int 0])) _
        refine XS.ifYes X281.here hx rfl (pc0 := 64) (pc' := 44) rfl (hb hby own_d15_64) rfl ((if0 _ _).trans (teq (rfl : (0 : Int32) = (0 : Int32))).1) (by decide) (by decide) ?_
        exact kk
      exact ⟨T281, _, X281, e281, N281, fun tgt kk => G282 _ kk⟩
  obtain ⟨TE283, lE283, XE283, eE283, NE283, GE283⟩ : ∃ (TE : State) (lE : List Loc), Stand p l e ({ frames := 1, cells := 0, slots := 0, locals := 13 } : Room) s m #[(.ref t1), (.int (0 : Int32)), (.int (3 : Int32)), (.int (0 : Int32))] below meth c TE lE 0 0 ∧ TE.heap = h0 ∧ Fr n0 lE ∧ (∀ tgt, Steps p.tables e below (TE.setTop (mkF m 44 #[rv t1, iv 0, iv 3, iv 0, iv 3, iv 2] [])) tgt → Steps p.tables e below (TE274.setTop (mkF m 44 #[rv t1, iv 0, iv 3, iv 0, iv 3, iv 1] [])) tgt) := by
    by_cases hh : own_hi c1
    · obtain ⟨_, _, ⟨T284, L284, k284, n284⟩, -, X284, ⟨Lc284, hQ284, l284, y284, z284⟩, st284⟩ := Jvm.LawKit.callS XE274 hx (y := (⟨"java/lang/StringUTF16", "getChar", "([BI)C"⟩ : MethodName)) hown (mvT hZ (W 154 rfl)) (mvT hZ (W 155 rfl)) (mvT hZ (W 91 rfl)) (mvT hZ (W 156 rfl)) (by decide) (backOf (W := 0) (rm_uget l Z a0 hw [] t1 (1 : Int32) (2 : Int32) (3 : Int32) kb (6 : Int32) c1 [(.int (StrChars.lo8 c0)), (.int (StrChars.hi8 c0)), (.int (StrChars.lo8 c1)), (.int (StrChars.hi8 c1)), (.int (StrChars.lo8 c2)), (.int (StrChars.hi8 c2))] h0 n0 Z0 X00 V1 (by decide) (by decide) (by decide) (by decide) rfl rfl hb1 OA OH OL) hZ (W 156 rfl) (W 91 rfl) (by decide) (by decide)) (g := (mkF m 58 #[rv t1, iv 0, iv 3, iv 0, iv 3, iv 2] [.int 1, .ref t1])) rfl (by rw [hml]; rfl) (argsL := [.ref t1, .int 1]) (rest := []) (lenOf own_pd_18 rfl) rfl own_wt (hb hby own_d15_58) (fun _ _ => ⟨rfl, eE274, (by decide : 0 + 0 ≤ _), (by decide : 0 + 0 ≤ _)⟩)
      dsimp only [Pt.U, Pt.locs, Pt.cells, Pt.slots] at X284 l284 y284 z284 st284 hQ284
      subst l284 y284 z284
      obtain ⟨rfl, Nq284, e284⟩ := hQ284
      have N284 := Fr.app NE274 Nq284
      obtain ⟨_, _, ⟨T285, L285, k285, n285⟩, -, X285, ⟨Lc285, hQ285, l285, y285, z285⟩, st285⟩ := Jvm.LawKit.callS X284 hx (y := (⟨"java/lang/Character", "isHighSurrogate", "(C)Z"⟩ : MethodName)) hown (mvT hZ (W 167 rfl)) (mvT hZ (W 135 rfl)) (mvT hZ (W 106 rfl)) (mvT hZ (W 136 rfl)) (by decide) (backOf (W := 0) (rm_jhi1 l Z a0 hw [] c1 h0 n0 Z0 hh) hZ (W 136 rfl) (W 106 rfl) (by decide) (by decide)) (g := (mkF m 61 #[rv t1, iv 0, iv 3, iv 0, iv 3, iv 2] [.int c1])) rfl (by rw [hml]; rfl) (argsL := [.int c1]) (rest := []) (lenOf own_pd_21 rfl) rfl own_wt (hb hby own_d15_61) (fun _ _ => ⟨rfl, e284, (by decide : 0 + 0 ≤ _), (by decide : 0 + 0 ≤ _)⟩)
      dsimp only [Pt.U, Pt.locs, Pt.cells, Pt.slots] at X285 l285 y285 z285 st285 hQ285
      subst l285 y285 z285
      obtain ⟨rfl, Nq285, e285⟩ := hQ285
      have N285 := Fr.app N284 Nq285
      obtain ⟨_, _, ⟨T286, L286, k286, n286⟩, -, X286, ⟨Lc286, hQ286, l286, y286, z286⟩, st286⟩ := Jvm.LawKit.callS X285 hx (y := (⟨"java/lang/StringUTF16", "getChar", "([BI)C"⟩ : MethodName)) hown (mvT hZ (W 154 rfl)) (mvT hZ (W 155 rfl)) (mvT hZ (W 91 rfl)) (mvT hZ (W 156 rfl)) (by decide) (backOf (W := 0) (rm_uget l Z a0 hw [] t1 (2 : Int32) (4 : Int32) (5 : Int32) kb (6 : Int32) c2 [(.int (StrChars.lo8 c0)), (.int (StrChars.hi8 c0)), (.int (StrChars.lo8 c1)), (.int (StrChars.hi8 c1)), (.int (StrChars.lo8 c2)), (.int (StrChars.hi8 c2))] h0 n0 Z0 X00 V1 (by decide) (by decide) (by decide) (by decide) rfl rfl hb2 OA OH OL) hZ (W 156 rfl) (W 91 rfl) (by decide) (by decide)) (g := (mkF m 70 #[rv t1, iv 0, iv 3, iv 0, iv 3, iv 2] [.int 2, .ref t1])) rfl (by rw [hml]; rfl) (argsL := [.ref t1, .int 2]) (rest := []) (lenOf own_pd_18 rfl) rfl own_wt (hb hby own_d15_70) (fun _ _ => ⟨rfl, e285, (by decide : 0 + 0 ≤ _), (by decide : 0 + 0 ≤ _)⟩)
      dsimp only [Pt.U, Pt.locs, Pt.cells, Pt.slots] at X286 l286 y286 z286 st286 hQ286
      subst l286 y286 z286
      obtain ⟨rfl, Nq286, e286⟩ := hQ286
      have N286 := Fr.app N285 Nq286
      obtain ⟨_, _, ⟨T287, L287, k287, n287⟩, -, X287, ⟨Lc287, hQ287, l287, y287, z287⟩, st287⟩ := Jvm.LawKit.callS X286 hx (y := (⟨"java/lang/Character", "isLowSurrogate", "(C)Z"⟩ : MethodName)) hown (mvT hZ (W 182 rfl)) (mvT hZ (W 183 rfl)) (mvT hZ (W 106 rfl)) (mvT hZ (W 184 rfl)) (by decide) (backOf (W := 0) (rm_jlo0 l Z a0 hw [] c2 h0 n0 Z0 (fun q => hP1 ⟨hh, q⟩)) hZ (W 184 rfl) (W 106 rfl) (by decide) (by decide)) (g := (mkF m 73 #[rv t1, iv 0, iv 3, iv 0, iv 3, iv 2] [.int c2])) rfl (by rw [hml]; rfl) (argsL := [.int c2]) (rest := []) (lenOf own_pd_21 rfl) rfl own_wt (hb hby own_d15_73) (fun _ _ => ⟨rfl, e286, (by decide : 0 + 0 ≤ _), (by decide : 0 + 0 ≤ _)⟩)
      dsimp only [Pt.U, Pt.locs, Pt.cells, Pt.slots] at X287 l287 y287 z287 st287 hQ287
      subst l287 y287 z287
      obtain ⟨rfl, Nq287, e287⟩ := hQ287
      have N287 := Fr.app N286 Nq287
      have G288 : ∀ tq, Steps p.tables e below (T287.setTop (mkF m 44 #[rv t1, iv 0, iv 3, iv 0, iv 3, iv 2] [])) tq → Steps p.tables e below (TE274.setTop (mkF m 44 #[rv t1, iv 0, iv 3, iv 0, iv 3, iv 1] [])) tq := by
        intro tq kk
        show Steps _ _ _ (TE274.setTop (mkF m 44 #[rv t1, iv 0, iv 3, iv 0, iv 3, iv 1] [])) _
        refine XS.iload XE274.here hx rfl (hb hby own_d15_44) rfl ?_
        show Steps _ _ _ (TE274.setTop (mkF m 46 _ [.int 1])) _
        refine XS.iloadN XE274.here hx rfl (hb hby own_d15_46) rfl ?_
        show Steps _ _ _ (TE274.setTop (mkF m 47 _ [.int 3, .int 1])) _
        refine XS.iconst XE274.here hx rfl (hb hby own_d15_47) ?_
        show Steps _ _ _ (TE274.setTop (mkF m 48 _ [.int 1, .int 3, .int 1])) _
        refine XS.isub XE274.here hx rfl (hb hby own_d15_48) rfl ?_
        show Steps _ _ _ (TE274.setTop (mkF m 49 _ [.int 2, .int 1])) _
        refine XS.icmpNo XE274.here hx rfl (hb hby own_d15_49) rfl (tlt ((by decide) : (1 : Int32) < (2 : Int32))).2.1 ?_
        show Steps _ _ _ (TE274.setTop (mkF m 52 _ [])) _
        refine XS.aloadN XE274.here hx rfl (hb hby own_d15_52) rfl rfl ?_
        show Steps _ _ _ (TE274.setTop (mkF m 53 _ [.ref t1])) _
        refine XS.iload XE274.here hx rfl (hb hby own_d15_53) rfl ?_
        show Steps _ _ _ (TE274.setTop (mkF m 55 _ [.int 1, .ref t1])) _
        refine XS.iinc XE274.here hx rfl (hb hby own_d15_55) rfl (l' := #[rv t1, iv 0, iv 3, iv 0, iv 3, iv 2]) rfl ?_
        show Steps _ _ _ (TE274.setTop (mkF m 58 #[rv t1, iv 0, iv 3, iv 0, iv 3, iv 2] [.int 1, .ref t1])) _
        refine st284 _ ?_
        show Steps _ _ _ (T284.setTop (mkF m 61 #[rv t1, iv 0, iv 3, iv 0, iv 3, iv 2] [.int c1])) _
        refine st285 _ ?_
        show Steps _ _ _ (T285.setTop (mkF m 64 #[rv t1, iv 0, iv 3, iv 0, iv 3, iv 2] [.int 1])) _
        refine XS.ifNo X285.here hx rfl (hb hby own_d15_64) rfl ((if0 _ _).trans (feq ((by decide) : ¬ ((1 : Int32) = (0 : Int32)))).1) ?_
        show Steps _ _ _ (T285.setTop (mkF m 67 _ [])) _
        refine XS.aloadN X285.here hx rfl (hb hby own_d15_67) rfl rfl ?_
        show Steps _ _ _ (T285.setTop (mkF m 68 _ [.ref t1])) _
        refine XS.iload X285.here hx rfl (hb hby own_d15_68) rfl ?_
        show Steps _ _ _ (T285.setTop (mkF m 70 _ [.int 2, .ref t1])) _
        refine st286 _ ?_
        show Steps _ _ _ (T286.setTop (mkF m 73 #[rv t1, iv 0, iv 3, iv 0, iv 3, iv 2] [.int c2])) _
        refine st287 _ ?_
        show Steps _ _ _ (T287.setTop (mkF m 76 #[rv t1, iv 0, iv 3, iv 0, iv 3, iv 2] [.int 0])) _
        refine XS.ifYes X287.here hx rfl (pc0 := 76) (pc' := 44) rfl (hb hby own_d15_76) rfl ((if0 _ _).trans (teq (rfl : (0 : Int32) = (0 : Int32))).1) (by decide) (by decide) ?_
        exact kk
      exact ⟨T287, _, X287, e287, N287, fun tgt kk => G288 _ kk⟩
    · obtain ⟨_, _, ⟨T289, L289, k289, n289⟩, -, X289, ⟨Lc289, hQ289, l289, y289, z289⟩, st289⟩ := Jvm.LawKit.callS XE274 hx (y := (⟨"java/lang/StringUTF16", "getChar", "([BI)C"⟩ : MethodName)) hown (mvT hZ (W 154 rfl)) (mvT hZ (W 155 rfl)) (mvT hZ (W 91 rfl)) (mvT hZ (W 156 rfl)) (by decide) (backOf (W := 0) (rm_uget l Z a0 hw [] t1 (1 : Int32) (2 : Int32) (3 : Int32) kb (6 : Int32) c1 [(.int (StrChars.lo8 c0)), (.int (StrChars.hi8 c0)), (.int (StrChars.lo8 c1)), (.int (StrChars.hi8 c1)), (.int (StrChars.lo8 c2)), (.int (StrChars.hi8 c2))] h0 n0 Z0 X00 V1 (by decide) (by decide) (by decide) (by decide) rfl rfl hb1 OA OH OL) hZ (W 156 rfl) (W 91 rfl) (by decide) (by decide)) (g := (mkF m 58 #[rv t1, iv 0, iv 3, iv 0, iv 3, iv 2] [.int 1, .ref t1])) rfl (by rw [hml]; rfl) (argsL := [.ref t1, .int 1]) (rest := []) (lenOf own_pd_18 rfl) rfl own_wt (hb hby own_d15_58) (fun _ _ => ⟨rfl, eE274, (by decide : 0 + 0 ≤ _), (by decide : 0 + 0 ≤ _)⟩)
      dsimp only [Pt.U, Pt.locs, Pt.cells, Pt.slots] at X289 l289 y289 z289 st289 hQ289
      subst l289 y289 z289
      obtain ⟨rfl, Nq289, e289⟩ := hQ289
      have N289 := Fr.app NE274 Nq289
      obtain ⟨_, _, ⟨T290, L290, k290, n290⟩, -, X290, ⟨Lc290, hQ290, l290, y290, z290⟩, st290⟩ := Jvm.LawKit.callS X289 hx (y := (⟨"java/lang/Character", "isHighSurrogate", "(C)Z"⟩ : MethodName)) hown (mvT hZ (W 167 rfl)) (mvT hZ (W 135 rfl)) (mvT hZ (W 106 rfl)) (mvT hZ (W 136 rfl)) (by decide) (backOf (W := 0) (rm_jhi0 l Z a0 hw [] c1 h0 n0 Z0 hh) hZ (W 136 rfl) (W 106 rfl) (by decide) (by decide)) (g := (mkF m 61 #[rv t1, iv 0, iv 3, iv 0, iv 3, iv 2] [.int c1])) rfl (by rw [hml]; rfl) (argsL := [.int c1]) (rest := []) (lenOf own_pd_21 rfl) rfl own_wt (hb hby own_d15_61) (fun _ _ => ⟨rfl, e289, (by decide : 0 + 0 ≤ _), (by decide : 0 + 0 ≤ _)⟩)
      dsimp only [Pt.U, Pt.locs, Pt.cells, Pt.slots] at X290 l290 y290 z290 st290 hQ290
      subst l290 y290 z290
      obtain ⟨rfl, Nq290, e290⟩ := hQ290
      have N290 := Fr.app N289 Nq290
      have G291 : ∀ tq, Steps p.tables e below (T290.setTop (mkF m 44 #[rv t1, iv 0, iv 3, iv 0, iv 3, iv 2] [])) tq → Steps p.tables e below (TE274.setTop (mkF m 44 #[rv t1, iv 0, iv 3, iv 0, iv 3, iv 1] [])) tq := by
        intro tq kk
        show Steps _ _ _ (TE274.setTop (mkF m 44 #[rv t1, iv 0, iv 3, iv 0, iv 3, iv 1] [])) _
        refine XS.iload XE274.here hx rfl (hb hby own_d15_44) rfl ?_
        show Steps _ _ _ (TE274.setTop (mkF m 46 _ [.int 1])) _
        refine XS.iloadN XE274.here hx rfl (hb hby own_d15_46) rfl ?_
        show Steps _ _ _ (TE274.setTop (mkF m 47 _ [.int 3, .int 1])) _
        refine XS.iconst XE274.here hx rfl (hb hby own_d15_47) ?_
        show Steps _ _ _ (TE274.setTop (mkF m 48 _ [.int 1, .int 3, .int 1])) _
        refine XS.isub XE274.here hx rfl (hb hby own_d15_48) rfl ?_
        show Steps _ _ _ (TE274.setTop (mkF m 49 _ [.int 2, .int 1])) _
        refine XS.icmpNo XE274.here hx rfl (hb hby own_d15_49) rfl (tlt ((by decide) : (1 : Int32) < (2 : Int32))).2.1 ?_
        show Steps _ _ _ (TE274.setTop (mkF m 52 _ [])) _
        refine XS.aloadN XE274.here hx rfl (hb hby own_d15_52) rfl rfl ?_
        show Steps _ _ _ (TE274.setTop (mkF m 53 _ [.ref t1])) _
        refine XS.iload XE274.here hx rfl (hb hby own_d15_53) rfl ?_
        show Steps _ _ _ (TE274.setTop (mkF m 55 _ [.int 1, .ref t1])) _
        refine XS.iinc XE274.here hx rfl (hb hby own_d15_55) rfl (l' := #[rv t1, iv 0, iv 3, iv 0, iv 3, iv 2]) rfl ?_
        show Steps _ _ _ (TE274.setTop (mkF m 58 #[rv t1, iv 0, iv 3, iv 0, iv 3, iv 2] [.int 1, .ref t1])) _
        refine st289 _ ?_
        show Steps _ _ _ (T289.setTop (mkF m 61 #[rv t1, iv 0, iv 3, iv 0, iv 3, iv 2] [.int c1])) _
        refine st290 _ ?_
        show Steps _ _ _ (T290.setTop (mkF m 64 #[rv t1, iv 0, iv 3, iv 0, iv 3, iv 2] [.int 0])) _
        refine XS.ifYes X290.here hx rfl (pc0 := 64) (pc' := 44) rfl (hb hby own_d15_64) rfl ((if0 _ _).trans (teq (rfl : (0 : Int32) = (0 : Int32))).1) (by decide) (by decide) ?_
        exact kk
      exact ⟨T290, _, X290, e290, N290, fun tgt kk => G291 _ kk⟩
  obtain ⟨fs, hr, hrun, hended, hW, hsame⟩ := XE283.leave (v := some (.int (3 : Int32))) (fun h => by rw [Bd.returns] at h; cases h)
  refine ⟨_, _, pre0 _ (G273 _ (GE274 _ (GE283 _ (?_)))), hrun, hended, _, _, rfl, ?_, ⟨_, rfl⟩, hW, hsame.mono (by decide) (by decide)⟩
  · show Steps _ _ _ (TE283.setTop (mkF m 44 #[rv t1, iv 0, iv 3, iv 0, iv 3, iv 2] [])) _
    refine XS.iload XE283.here hx rfl (hb hby own_d15_44) rfl ?_
    show Steps _ _ _ (TE283.setTop (mkF m 46 _ [.int 2])) _
    refine XS.iloadN XE283.here hx rfl (hb hby own_d15_46) rfl ?_
    show Steps _ _ _ (TE283.setTop (mkF m 47 _ [.int 3, .int 2])) _
    refine XS.iconst XE283.here hx rfl (hb hby own_d15_47) ?_
    show Steps _ _ _ (TE283.setTop (mkF m 48 _ [.int 1, .int 3, .int 2])) _
    refine XS.isub XE283.here hx rfl (hb hby own_d15_48) rfl ?_
    show Steps _ _ _ (TE283.setTop (mkF m 49 _ [.int 2, .int 2])) _
    refine XS.icmpYes XE283.here hx rfl (pc0 := 49) (pc' := 88) rfl (hb hby own_d15_49) rfl (flt ((by decide) : ¬ ((2 : Int32) < (2 : Int32)))).2.1 (by decide) (by decide) ?_
    show Steps _ _ _ (TE283.setTop (mkF m 88 _ [])) _
    refine XS.iload XE283.here hx rfl (hb hby own_d15_88) rfl ?_
    show Steps _ _ _ (TE283.setTop (mkF m 90 _ [.int 3])) _
    exact retI XE283 hx Bd.returns (hb hby own_d15_90) hr
  · show Q_uczG3 Z t1 kb c0 c1 c2 h0 n0 _ TE283.heap _
    rw [eE283]
    exact ⟨rfl, NE283, rfl⟩
theorem own_d16_0 : decode jdk_52_method_12_code 0 = .ok (.aload_n 0, 1) := by decide +kernel
theorem own_d16_1 : decode jdk_52_method_12_code 1 = .ok (.iload_n 1, 1) := by decide +kernel
theorem own_d16_2 : decode jdk_52_method_12_code 2 = .ok (.iload_n 2, 1) := by decide +kernel
theorem own_d16_3 : decode jdk_52_method_12_code 3 = .ok (.iconst 0, 1) := by decide +kernel
theorem own_d16_4 : decode jdk_52_method_12_code 4 = .ok (.invokestatic 100, 3) := by decide +kernel
theorem own_pd_26 : parseMethodDescriptor "([BIIZ)I" = some ⟨[(.array .byte), .int, .int, .boolean], some .int⟩ := by decide +kernel
theorem own_d16_7 : decode jdk_52_method_12_code 7 = .ok (.ireturn, 1) := by decide +kernel
theorem own_ef_ucn (m : MethodId) (x0 : Addr) (x1 : Int32) (x2 : Int32) : entryFrame m #[(.ref x0), (.int x1), (.int x2)] 3 = mkF m 0 #[rv x0, iv x1, iv x2] [] := by first | (simp [entryFrame, mkF, argsToLocals, Value.category]; done) | rfl
def Q_ucn (Z : State) (t1 : Addr) (n1 k : Int32) (h0 : Heap) (n0 : Nat) (v : Option Value) (h : Heap) (L : List Loc) : Prop := Q_cnt k h0 n0 v h L
set_option maxRecDepth 65536 in
set_option maxHeartbeats 40000000 in
theorem rm_ucn (l : Launch) (Z : State) (a0 : Array Value) (hw : ∀ d ∈ tables_1, d.before a0 Z = true) (ws : List Jvm.Cond) (t1 : Addr) (n1 k : Int32) (h0 : Heap) (n0 : Nat) (Z0 : n0 ≤ h0.size) (U : MetFree l (⟨"java/lang/StringUTF16", "codePointCount", "([BIIZ)I"⟩ : MethodName) (head1 [Jvm.Cond.code (⟨"java/lang/StringUTF16", "codePointCount", "([BIIZ)I"⟩ : MethodName) jdk_52_method_11_code 6 (some .int)] ({ frames := 1, cells := 0, slots := 0, locals := 13 } : Room)) (fun a U => a = #[.ref t1, .int 0, .int n1, .int 0] ∧ Z.Warmed39 U.vm ∧ U.heap = h0) (fun _ _ _ _ _ => True) (fun _ U o U' => ∃ v L, o = .returned v ∧ Q_cnt k h0 n0 v U'.heap L ∧ FrameEnd U o U' L 0 0)) :
    MetFree l (⟨"java/lang/StringUTF16", "codePointCount", "([BII)I"⟩ : MethodName) (head1 (Jvm.Cond.code (⟨"java/lang/StringUTF16", "codePointCount", "([BII)I"⟩ : MethodName) jdk_52_method_12_code 3 (some .int) :: ws) ({ frames := 2, cells := 0, slots := 0, locals := 30 } : Room)) (fun a U => a = #[(.ref t1), (.int (0 : Int32)), (.int n1)] ∧ Z.Warmed39 U.vm ∧ U.heap = h0) (fun _ _ _ _ _ => True) (fun _ U o U' => ∃ v L, o = .returned v ∧ Q_ucn Z t1 n1 k h0 n0 v U'.heap L ∧ FrameEnd U o U' L ({ frames := 2, cells := 0, slots := 0, locals := 30 } : Room).cells ({ frames := 2, cells := 0, slots := 0, locals := 30 } : Room).slots) := by
  refine MetFree.of_bodySF (plainFor_of_name own_pn_6) hisR ?_
  intro p e s m args below meth c s₁ Bd hml0 hP hK
  obtain ⟨rfl, hZ, hh⟩ := hP
  have hx := Bd.exec
  have hby := Bd.bytes
  have hml : c.maxLocals = 3 := hml0
  have hown : s.vm.findClass "java/lang/StringUTF16" = some m.cls := findClass_of_methodNamed Bd.named
  have hnm := (name_of_methodNamed Bd.named Bd.method).1
  have W := own_W hw
  have X0 : Stand p l e ({ frames := 2, cells := 0, slots := 0, locals := 30 } : Room) s m #[(.ref t1), (.int (0 : Int32)), (.int n1)] below meth c s₁ [] 0 0 := Stand.of_body Bd
  have e0 : s₁.heap = h0 := by rw [← hh, Bd.state]; rfl
  have N0 := Fr.nil n0
  have pre0 : ∀ tq, Steps p.tables e below (s₁.setTop (mkF m 0 #[rv t1, iv 0, iv n1] [])) tq → Steps p.tables e below (s₁.setTop (entryFrame m #[(.ref t1), (.int (0 : Int32)), (.int n1)] 3)) tq := fun tq k => castTop (own_ef_ucn m t1 (0 : Int32) n1) k
  obtain ⟨_, _, ⟨T292, L292, k292, n292⟩, -, X292, ⟨Lc292, hQ292, l292, y292, z292⟩, st292⟩ := Jvm.LawKit.callS X0 hx (y := (⟨"java/lang/StringUTF16", "codePointCount", "([BIIZ)I"⟩ : MethodName)) hown (mvT hZ (W 164 rfl)) (mvT hZ (W 165 rfl)) (mvT hZ (W 91 rfl)) (mvT hZ (W 166 rfl)) (by decide) (backOf (W := 0) U hZ (W 166 rfl) (W 91 rfl) (by decide) (by decide)) (g := (mkF m 4 #[rv t1, iv 0, iv n1] [.int 0, .int n1, .int 0, .ref t1])) rfl (by rw [hml]; rfl) (argsL := [.ref t1, .int 0, .int n1, .int 0]) (rest := []) (lenOf own_pd_26 rfl) rfl own_wt (hb hby own_d16_4) (fun _ _ => ⟨rfl, e0, (by decide : 0 + 0 ≤ _), (by decide : 0 + 0 ≤ _)⟩)
  dsimp only [Pt.U, Pt.locs, Pt.cells, Pt.slots] at X292 l292 y292 z292 st292 hQ292
  subst l292 y292 z292
  obtain ⟨rfl, Nq292, e292⟩ := hQ292
  have N292 := Fr.app N0 Nq292
  obtain ⟨fs, hr, hrun, hended, hW, hsame⟩ := X292.leave (v := some (.int k)) (fun h => by rw [Bd.returns] at h; cases h)
  refine ⟨_, _, pre0 _ (?_), hrun, hended, _, _, rfl, ?_, ⟨_, rfl⟩, hW, hsame.mono (by decide) (by decide)⟩
  · show Steps _ _ _ (s₁.setTop (mkF m 0 #[rv t1, iv 0, iv n1] [])) _
    refine XS.aloadN X0.here hx rfl (hb hby own_d16_0) rfl rfl ?_
    show Steps _ _ _ (s₁.setTop (mkF m 1 _ [.ref t1])) _
    refine XS.iloadN X0.here hx rfl (hb hby own_d16_1) rfl ?_
    show Steps _ _ _ (s₁.setTop (mkF m 2 _ [.int 0, .ref t1])) _
    refine XS.iloadN X0.here hx rfl (hb hby own_d16_2) rfl ?_
    show Steps _ _ _ (s₁.setTop (mkF m 3 _ [.int n1, .int 0, .ref t1])) _
    refine XS.iconst X0.here hx rfl (hb hby own_d16_3) ?_
    show Steps _ _ _ (s₁.setTop (mkF m 4 _ [.int 0, .int n1, .int 0, .ref t1])) _
    refine st292 _ ?_
    show Steps _ _ _ (T292.setTop (mkF m 7 #[rv t1, iv 0, iv n1] [.int k])) _
    exact retI X292 hx Bd.returns (hb hby own_d16_7) hr
  · show Q_ucn Z t1 n1 k h0 n0 _ T292.heap _
    rw [e292]
    exact ⟨rfl, N292, rfl⟩
theorem own_d12_0 : decode jdk_42_method_59_code 0 = .ok (.iload_n 1, 1) := by decide +kernel
theorem own_d12_1 : decode jdk_42_method_59_code 1 = .ok (.iload_n 2, 1) := by decide +kernel
theorem own_d12_2 : decode jdk_42_method_59_code 2 = .ok (.aload_n 0, 1) := by decide +kernel
theorem own_d12_3 : decode jdk_42_method_59_code 3 = .ok (.invokevirtual 505, 3) := by decide +kernel
theorem own_pd_7 : parseMethodDescriptor "()I" = some ⟨[], some .int⟩ := by decide +kernel
theorem own_d12_6 : decode jdk_42_method_59_code 6 = .ok (.invokestatic 511, 3) := by decide +kernel
theorem own_pd_10 : parseMethodDescriptor "(III)I" = some ⟨[.int, .int, .int], some .int⟩ := by decide +kernel
theorem own_d12_9 : decode jdk_42_method_59_code 9 = .ok (.pop, 1) := by decide +kernel
theorem own_d12_10 : decode jdk_42_method_59_code 10 = .ok (.aload_n 0, 1) := by decide +kernel
theorem own_d12_11 : decode jdk_42_method_59_code 11 = .ok (.invokevirtual 492, 3) := by decide +kernel
theorem own_d12_14 : decode jdk_42_method_59_code 14 = .ok (.ifCond .eq 7, 3) := by decide +kernel
theorem own_d12_17 : decode jdk_42_method_59_code 17 = .ok (.iload_n 2, 1) := by decide +kernel
theorem own_d12_18 : decode jdk_42_method_59_code 18 = .ok (.iload_n 1, 1) := by decide +kernel
theorem own_d12_19 : decode jdk_42_method_59_code 19 = .ok (.isub, 1) := by decide +kernel
theorem own_d12_20 : decode jdk_42_method_59_code 20 = .ok (.ireturn, 1) := by decide +kernel
theorem own_d12_21 : decode jdk_42_method_59_code 21 = .ok (.aload_n 0, 1) := by decide +kernel
theorem own_d12_22 : decode jdk_42_method_59_code 22 = .ok (.getfield 9, 3) := by decide +kernel
theorem own_d12_25 : decode jdk_42_method_59_code 25 = .ok (.iload_n 1, 1) := by decide +kernel
theorem own_d12_26 : decode jdk_42_method_59_code 26 = .ok (.iload_n 2, 1) := by decide +kernel
theorem own_d12_27 : decode jdk_42_method_59_code 27 = .ok (.invokestatic 514, 3) := by decide +kernel
theorem own_pd_25 : parseMethodDescriptor "([BII)I" = some ⟨[(.array .byte), .int, .int], some .int⟩ := by decide +kernel
theorem own_d12_30 : decode jdk_42_method_59_code 30 = .ok (.ireturn, 1) := by decide +kernel
theorem own_ef_scp (m : MethodId) (x0 : Addr) (x1 : Int32) (x2 : Int32) : entryFrame m #[(.ref x0), (.int x1), (.int x2)] 3 = mkF m 0 #[rv x0, iv x1, iv x2] [] := by first | (simp [entryFrame, mkF, argsToLocals, Value.category]; done) | rfl
def Q_scp (Z : State) (x1 : Addr) (kx : Nat) (G1 k : Int32) (cs : List Int32) (h0 : Heap) (n0 : Nat) (v : Option Value) (h : Heap) (L : List Loc) : Prop := Q_cnt k h0 n0 v h L
set_option maxRecDepth 65536 in
set_option maxHeartbeats 40000000 in
theorem rm_scp (l : Launch) (Z : State) (a0 : Array Value) (hw : ∀ d ∈ tables_1, d.before a0 Z = true) (ws : List Jvm.Cond) (x1 : Addr) (kx : Nat) (G1 k : Int32) (cs : List Int32) (h0 : Heap) (n0 : Nat) (Z0 : n0 ≤ h0.size) (X00 : Old Z n0 h0) (SX : StrB Z h0 kx x1 cs) (hl4 : cs.length ≤ 4) (hL : (∀ c ∈ cs, ¬ (255 : Int32) < c) → Int32.ofNat cs.length = k) (U : ∀ (t : Addr) (kb : ClassId), Arv Z h0 t kb .byte (Int32.ofNat (2 * cs.length)) (StrChars.Road.wideBytes cs) (.int 0) → (∀ c ∈ cs, ¬ c < 0 ∧ ¬ (65535 : Int32) < c) → (∃ c ∈ cs, (255 : Int32) < c) → MetFree l (⟨"java/lang/StringUTF16", "codePointCount", "([BII)I"⟩ : MethodName) (head1 [Jvm.Cond.code (⟨"java/lang/StringUTF16", "codePointCount", "([BII)I"⟩ : MethodName) jdk_52_method_12_code 3 (some .int)] ({ frames := 2, cells := 0, slots := 0, locals := 30 } : Room)) (fun a U => a = #[.ref t, .int 0, .int (Int32.ofNat cs.length)] ∧ Z.Warmed39 U.vm ∧ U.heap = h0) (fun _ _ _ _ _ => True) (fun _ U o U' => ∃ v L, o = .returned v ∧ Q_cnt k h0 n0 v U'.heap L ∧ FrameEnd U o U' L 0 0)) (O2 : Sta Z Z.heap "java/lang/String" "COMPACT_STRINGS" "Z" (.int G1)) (P5 : ¬ (G1 = (0 : Int32))) :
    MetFree l (⟨"java/lang/String", "codePointCount", "(II)I"⟩ : MethodName) (head1 (Jvm.Cond.code (⟨"java/lang/String", "codePointCount", "(II)I"⟩ : MethodName) jdk_42_method_59_code 3 (some .int) :: ws) ({ frames := 3, cells := 0, slots := 0, locals := 44 } : Room)) (fun a U => a = #[(.ref x1), (.int (0 : Int32)), (.int (Int32.ofNat cs.length))] ∧ Z.Warmed39 U.vm ∧ U.heap = h0) (fun _ _ _ _ _ => True) (fun _ U o U' => ∃ v L, o = .returned v ∧ Q_scp Z x1 kx G1 k cs h0 n0 v U'.heap L ∧ FrameEnd U o U' L ({ frames := 3, cells := 0, slots := 0, locals := 44 } : Room).cells ({ frames := 3, cells := 0, slots := 0, locals := 44 } : Room).slots) := by
  refine MetFree.of_bodySF (plainFor_of_name own_pn_4) hisR ?_
  intro p e s m args below meth c s₁ Bd hml0 hP hK
  obtain ⟨rfl, hZ, hh⟩ := hP
  have hx := Bd.exec
  have hby := Bd.bytes
  have hml : c.maxLocals = 3 := hml0
  have hown : s.vm.findClass "java/lang/String" = some m.cls := findClass_of_methodNamed Bd.named
  have hnm := (name_of_methodNamed Bd.named Bd.method).1
  have W := own_W hw
  have X0 : Stand p l e ({ frames := 3, cells := 0, slots := 0, locals := 44 } : Room) s m #[(.ref x1), (.int (0 : Int32)), (.int (Int32.ofNat cs.length))] below meth c s₁ [] 0 0 := Stand.of_body Bd
  have e0 : s₁.heap = h0 := by rw [← hh, Bd.state]; rfl
  have N0 := Fr.nil n0
  have pre0 : ∀ tq, Steps p.tables e below (s₁.setTop (mkF m 0 #[rv x1, iv 0, iv (Int32.ofNat cs.length)] [])) tq → Steps p.tables e below (s₁.setTop (entryFrame m #[(.ref x1), (.int (0 : Int32)), (.int (Int32.ofNat cs.length))] 3)) tq := fun tq k => castTop (own_ef_scp m x1 (0 : Int32) (Int32.ofNat cs.length)) k
  have hln : ∀ d ∈ StrChars.Road.wordsLen, d.before a0 Z = true := fun d hd => hw d ((by decide +kernel : ∀ d ∈ StrChars.Road.wordsLen, d ∈ tables_1) d hd)
  have EX := SX.exa
  obtain ⟨cq293, kq293, q293a, q293b, q293c⟩ := isOf hZ e0 EX
  obtain ⟨_, _, ⟨T293, L293, k293, n293⟩, -, X293, ⟨Lc293, hQ293, l293, y293, z293⟩, st293⟩ := X0.virtualBack hx (y := (⟨"java/lang/String", "length", "()I"⟩ : MethodName)) (z := (⟨"java/lang/String", "length", "()I"⟩ : MethodName)) hown (mvT hZ (W 73 rfl)) (mvT hZ (W 58 rfl)) (notFace_of_selects (args := #[]) (mvT hZ (W 60 rfl))) (mvT hZ (W 60 rfl)) (mvT hZ (W 59 rfl)) (by decide) (own_lenS (W := 2) hZ hln (kI := 4) (W 10 rfl) SX (O2.ext X00.2) P5 (by decide) (by decide)) q293a q293c (g := (mkF m 3 #[rv x1, iv 0, iv (Int32.ofNat cs.length)] [.ref x1, .int (Int32.ofNat cs.length), .int 0])) rfl (by rw [hml]; rfl) (Steps.refl _) (argsL := []) (rest := [.int (Int32.ofNat cs.length), .int 0]) (lenOf own_pd_7 rfl) rfl own_wt (hb hby own_d12_3) (fun _ _ => ⟨rfl, e0, (by decide : 0 + 0 ≤ _), (by decide : 0 + 0 ≤ _)⟩)
  dsimp only [Pt.U, Pt.locs, Pt.cells, Pt.slots] at X293 l293 y293 z293 st293 hQ293
  subst l293 y293 z293
  obtain ⟨rfl, rfl, e293⟩ := hQ293
  have N293 := Fr.app N0 (Fr.nil n0)
  obtain ⟨_, _, ⟨T294, L294, k294, n294⟩, -, X294, ⟨Lc294, hQ294, l294, y294, z294⟩, st294⟩ := Jvm.LawKit.callS X293 hx (y := (⟨"java/util/Objects", "checkFromToIndex", "(III)I"⟩ : MethodName)) hown (mvT hZ (W 74 rfl)) (mvT hZ (W 75 rfl)) (mvT hZ (W 41 rfl)) (mvT hZ (W 76 rfl)) (by decide) (backOf (W := 0) (rm_oft l Z a0 hw [] (Int32.ofNat cs.length) h0 n0 Z0 (own_nn (by omega))) hZ (W 76 rfl) (W 41 rfl) (by decide) (by decide)) (g := (mkF m 6 #[rv x1, iv 0, iv (Int32.ofNat cs.length)] [.int (Int32.ofNat cs.length), .int (Int32.ofNat cs.length), .int 0])) rfl (by rw [hml]; rfl) (argsL := [.int 0, .int (Int32.ofNat cs.length), .int (Int32.ofNat cs.length)]) (rest := []) (lenOf own_pd_10 rfl) rfl own_wt (hb hby own_d12_6) (fun _ _ => ⟨rfl, e293, (by decide : 0 + 0 ≤ _), (by decide : 0 + 0 ≤ _)⟩)
  dsimp only [Pt.U, Pt.locs, Pt.cells, Pt.slots] at X294 l294 y294 z294 st294 hQ294
  subst l294 y294 z294
  obtain ⟨rfl, Nq294, e294⟩ := hQ294
  have N294 := Fr.app N293 Nq294
  have G295 : ∀ tq, Steps p.tables e below (T294.setTop (mkF m 11 #[rv x1, iv 0, iv (Int32.ofNat cs.length)] [.ref x1])) tq → Steps p.tables e below (s₁.setTop (mkF m 0 #[rv x1, iv 0, iv (Int32.ofNat cs.length)] [])) tq := by
    intro tq kk
    show Steps _ _ _ (s₁.setTop (mkF m 0 #[rv x1, iv 0, iv (Int32.ofNat cs.length)] [])) _
    refine XS.iloadN X0.here hx rfl (hb hby own_d12_0) rfl ?_
    show Steps _ _ _ (s₁.setTop (mkF m 1 _ [.int 0])) _
    refine XS.iloadN X0.here hx rfl (hb hby own_d12_1) rfl ?_
    show Steps _ _ _ (s₁.setTop (mkF m 2 _ [.int (Int32.ofNat cs.length), .int 0])) _
    refine XS.aloadN X0.here hx rfl (hb hby own_d12_2) rfl rfl ?_
    show Steps _ _ _ (s₁.setTop (mkF m 3 _ [.ref x1, .int (Int32.ofNat cs.length), .int 0])) _
    refine st293.trans ?_
    show Steps _ _ _ (T293.setTop (mkF m 6 #[rv x1, iv 0, iv (Int32.ofNat cs.length)] [.int (Int32.ofNat cs.length), .int (Int32.ofNat cs.length), .int 0])) _
    refine st294 _ ?_
    show Steps _ _ _ (T294.setTop (mkF m 9 #[rv x1, iv 0, iv (Int32.ofNat cs.length)] [.int 0])) _
    refine XS.pop X294.here hx rfl (hb hby own_d12_9) rfl rfl ?_
    show Steps _ _ _ (T294.setTop (mkF m 10 _ [])) _
    refine XS.aloadN X294.here hx rfl (hb hby own_d12_10) rfl rfl ?_
    exact kk
  obtain ⟨_, E1, t, kb, cd, N2, vs, _, V1, C1, K1, hc, hbd, hl⟩ := id SX
  rcases hc with ⟨rfl, hN, hv, hle⟩ | ⟨rfl, rfl, rfl, hgt⟩
  · obtain ⟨cq296, kq296, q296a, q296b, q296c⟩ := isOf hZ e294 EX
    obtain ⟨_, _, ⟨T296, L296, k296, n296⟩, -, X296, ⟨Lc296, hQ296, l296, y296, z296⟩, st296⟩ := X294.virtualBack hx (y := (⟨"java/lang/String", "isLatin1", "()Z"⟩ : MethodName)) (z := (⟨"java/lang/String", "isLatin1", "()Z"⟩ : MethodName)) hown (mvT hZ (W 81 rfl)) (mvT hZ (W 82 rfl)) (notFace_of_selects (args := #[]) (mvT hZ (W 84 rfl))) (mvT hZ (W 84 rfl)) (mvT hZ (W 83 rfl)) (by decide) (backOf (W := 0) (rm_il1 l Z a0 hw [] x1 G1 h0 n0 Z0 X00 C1 O2 P5) hZ (W 85 rfl) (W 11 rfl) (by decide) (by decide)) q296a q296c (g := (mkF m 11 #[rv x1, iv 0, iv (Int32.ofNat cs.length)] [.ref x1])) rfl (by rw [hml]; rfl) (Steps.refl _) (argsL := []) (rest := []) (lenOf own_pd_12 rfl) rfl own_wt (hb hby own_d12_11) (fun _ _ => ⟨rfl, e294, (by decide : 0 + 0 ≤ _), (by decide : 0 + 0 ≤ _)⟩)
    dsimp only [Pt.U, Pt.locs, Pt.cells, Pt.slots] at X296 l296 y296 z296 st296 hQ296
    subst l296 y296 z296
    obtain ⟨rfl, Nq296, e296⟩ := hQ296
    have N296 := Fr.app N294 Nq296
    obtain ⟨fs, hr, hrun, hended, hW, hsame⟩ := X296.leave (v := some (.int k)) (fun h => by rw [Bd.returns] at h; cases h)
    refine ⟨_, _, pre0 _ (G295 _ (?_)), hrun, hended, _, _, rfl, ?_, ⟨_, rfl⟩, hW, hsame.mono (by decide) (by decide)⟩
    · show Steps _ _ _ (T294.setTop (mkF m 11 #[rv x1, iv 0, iv (Int32.ofNat cs.length)] [.ref x1])) _
      refine st296.trans ?_
      show Steps _ _ _ (T296.setTop (mkF m 14 #[rv x1, iv 0, iv (Int32.ofNat cs.length)] [.int 1])) _
      refine XS.ifNo X296.here hx rfl (hb hby own_d12_14) rfl ((if0 _ _).trans (feq ((by decide) : ¬ ((1 : Int32) = (0 : Int32)))).1) ?_
      show Steps _ _ _ (T296.setTop (mkF m 17 _ [])) _
      refine XS.iloadN X296.here hx rfl (hb hby own_d12_17) rfl ?_
      show Steps _ _ _ (T296.setTop (mkF m 18 _ [.int (Int32.ofNat cs.length)])) _
      refine XS.iloadN X296.here hx rfl (hb hby own_d12_18) rfl ?_
      show Steps _ _ _ (T296.setTop (mkF m 19 _ [.int 0, .int (Int32.ofNat cs.length)])) _
      refine XS.isub X296.here hx rfl (hb hby own_d12_19) rfl ?_
      rw [show Int32.ofNat cs.length - (0 : Int32) = k from (Int32.sub_zero _).trans (hL hle)]
      show Steps _ _ _ (T296.setTop (mkF m 20 #[rv x1, iv 0, iv (Int32.ofNat cs.length)] [.int k])) _
      exact retI X296 hx Bd.returns (hb hby own_d12_20) hr
    · show Q_scp Z x1 kx G1 k cs h0 n0 _ T296.heap _
      rw [e296]
      exact ⟨rfl, N296, rfl⟩
  · obtain ⟨cq297, kq297, q297a, q297b, q297c⟩ := isOf hZ e294 EX
    obtain ⟨_, _, ⟨T297, L297, k297, n297⟩, -, X297, ⟨Lc297, hQ297, l297, y297, z297⟩, st297⟩ := X294.virtualBack hx (y := (⟨"java/lang/String", "isLatin1", "()Z"⟩ : MethodName)) (z := (⟨"java/lang/String", "isLatin1", "()Z"⟩ : MethodName)) hown (mvT hZ (W 81 rfl)) (mvT hZ (W 82 rfl)) (notFace_of_selects (args := #[]) (mvT hZ (W 84 rfl))) (mvT hZ (W 84 rfl)) (mvT hZ (W 83 rfl)) (by decide) (backOf (W := 0) (rm_il0 l Z a0 hw [] x1 G1 h0 n0 Z0 X00 C1 O2 P5) hZ (W 85 rfl) (W 11 rfl) (by decide) (by decide)) q297a q297c (g := (mkF m 11 #[rv x1, iv 0, iv (Int32.ofNat cs.length)] [.ref x1])) rfl (by rw [hml]; rfl) (Steps.refl _) (argsL := []) (rest := []) (lenOf own_pd_12 rfl) rfl own_wt (hb hby own_d12_11) (fun _ _ => ⟨rfl, e294, (by decide : 0 + 0 ≤ _), (by decide : 0 + 0 ≤ _)⟩)
    dsimp only [Pt.U, Pt.locs, Pt.cells, Pt.slots] at X297 l297 y297 z297 st297 hQ297
    subst l297 y297 z297
    obtain ⟨rfl, Nq297, e297⟩ := hQ297
    have N297 := Fr.app N294 Nq297
    obtain ⟨T298, X298, e298, st298⟩ := getF X297 hx hZ hown (host := "") (Or.inl (W 28 rfl)) Via.refl e297 V1 (g := (mkF m 22 #[rv x1, iv 0, iv (Int32.ofNat cs.length)] [.ref x1])) rfl rfl (hb hby own_d12_22)
    obtain ⟨_, _, ⟨T299, L299, k299, n299⟩, -, X299, ⟨Lc299, hQ299, l299, y299, z299⟩, st299⟩ := Jvm.LawKit.callS X298 hx (y := (⟨"java/lang/StringUTF16", "codePointCount", "([BII)I"⟩ : MethodName)) hown (mvT hZ (W 161 rfl)) (mvT hZ (W 162 rfl)) (mvT hZ (W 91 rfl)) (mvT hZ (W 163 rfl)) (by decide) (backOf (W := 0) (U t kb K1 hbd hgt) hZ (W 163 rfl) (W 91 rfl) (by decide) (by decide)) (g := (mkF m 27 #[rv x1, iv 0, iv (Int32.ofNat cs.length)] [.int (Int32.ofNat cs.length), .int 0, .ref t])) rfl (by rw [hml]; rfl) (argsL := [.ref t, .int 0, .int (Int32.ofNat cs.length)]) (rest := []) (lenOf own_pd_25 rfl) rfl own_wt (hb hby own_d12_27) (fun _ _ => ⟨rfl, e298, (by decide : 0 + 0 ≤ _), (by decide : 0 + 0 ≤ _)⟩)
    dsimp only [Pt.U, Pt.locs, Pt.cells, Pt.slots] at X299 l299 y299 z299 st299 hQ299
    subst l299 y299 z299
    obtain ⟨rfl, Nq299, e299⟩ := hQ299
    have N299 := Fr.app N297 Nq299
    obtain ⟨fs, hr, hrun, hended, hW, hsame⟩ := X299.leave (v := some (.int k)) (fun h => by rw [Bd.returns] at h; cases h)
    refine ⟨_, _, pre0 _ (G295 _ (?_)), hrun, hended, _, _, rfl, ?_, ⟨_, rfl⟩, hW, hsame.mono (by decide) (by decide)⟩
    · show Steps _ _ _ (T294.setTop (mkF m 11 #[rv x1, iv 0, iv (Int32.ofNat cs.length)] [.ref x1])) _
      refine st297.trans ?_
      show Steps _ _ _ (T297.setTop (mkF m 14 #[rv x1, iv 0, iv (Int32.ofNat cs.length)] [.int 0])) _
      refine XS.ifYes X297.here hx rfl (pc0 := 14) (pc' := 21) rfl (hb hby own_d12_14) rfl ((if0 _ _).trans (teq (rfl : (0 : Int32) = (0 : Int32))).1) (by decide) (by decide) ?_
      show Steps _ _ _ (T297.setTop (mkF m 21 _ [])) _
      refine XS.aloadN X297.here hx rfl (hb hby own_d12_21) rfl rfl ?_
      show Steps _ _ _ (T297.setTop (mkF m 22 _ [.ref x1])) _
      refine st298 _ ?_
      show Steps _ _ _ (T298.setTop (mkF m 25 #[rv x1, iv 0, iv (Int32.ofNat cs.length)] [.ref t])) _
      refine XS.iloadN X298.here hx rfl (hb hby own_d12_25) rfl ?_
      show Steps _ _ _ (T298.setTop (mkF m 26 _ [.int 0, .ref t])) _
      refine XS.iloadN X298.here hx rfl (hb hby own_d12_26) rfl ?_
      show Steps _ _ _ (T298.setTop (mkF m 27 _ [.int (Int32.ofNat cs.length), .int 0, .ref t])) _
      refine st299 _ ?_
      show Steps _ _ _ (T299.setTop (mkF m 30 #[rv x1, iv 0, iv (Int32.ofNat cs.length)] [.int k])) _
      exact retI X299 hx Bd.returns (hb hby own_d12_30) hr
    · show Q_scp Z x1 kx G1 k cs h0 n0 _ T299.heap _
      rw [e299]
      exact ⟨rfl, N299, rfl⟩
theorem own_d30_0 : decode jdk_89_method_36_code 0 = .ok (.aload_n 0, 1) := by decide +kernel
theorem own_d30_1 : decode jdk_89_method_36_code 1 = .ok (.invokeinterface 92 1, 5) := by decide +kernel
theorem own_d30_6 : decode jdk_89_method_36_code 6 = .ok (.istore_n 3, 1) := by decide +kernel
theorem own_d30_7 : decode jdk_89_method_36_code 7 = .ok (.iload_n 1, 1) := by decide +kernel
theorem own_d30_8 : decode jdk_89_method_36_code 8 = .ok (.ifCond .lt 8, 3) := by decide +kernel
theorem own_d30_11 : decode jdk_89_method_36_code 11 = .ok (.iload_n 1, 1) := by decide +kernel
theorem own_d30_12 : decode jdk_89_method_36_code 12 = .ok (.iload_n 3, 1) := by decide +kernel
theorem own_d30_13 : decode jdk_89_method_36_code 13 = .ok (.if_icmp .le 11, 3) := by decide +kernel
theorem own_d30_24 : decode jdk_89_method_36_code 24 = .ok (.iload_n 1, 1) := by decide +kernel
theorem own_d30_25 : decode jdk_89_method_36_code 25 = .ok (.istore 4, 2) := by decide +kernel
theorem own_d30_27 : decode jdk_89_method_36_code 27 = .ok (.iload_n 2, 1) := by decide +kernel
theorem own_d30_28 : decode jdk_89_method_36_code 28 = .ok (.ifCond .lt 81, 3) := by decide +kernel
theorem own_d30_31 : decode jdk_89_method_36_code 31 = .ok (.iconst 0, 1) := by decide +kernel
theorem own_d30_32 : decode jdk_89_method_36_code 32 = .ok (.istore 5, 2) := by decide +kernel
theorem own_d30_34 : decode jdk_89_method_36_code 34 = .ok (.iload 4, 2) := by decide +kernel
theorem own_d30_36 : decode jdk_89_method_36_code 36 = .ok (.iload_n 3, 1) := by decide +kernel
theorem own_d30_37 : decode jdk_89_method_36_code 37 = .ok (.if_icmp .ge 55, 3) := by decide +kernel
theorem own_d30_40 : decode jdk_89_method_36_code 40 = .ok (.iload 5, 2) := by decide +kernel
theorem own_d30_42 : decode jdk_89_method_36_code 42 = .ok (.iload_n 2, 1) := by decide +kernel
theorem own_d30_43 : decode jdk_89_method_36_code 43 = .ok (.if_icmp .ge 49, 3) := by decide +kernel
theorem own_d30_46 : decode jdk_89_method_36_code 46 = .ok (.aload_n 0, 1) := by decide +kernel
theorem own_d30_47 : decode jdk_89_method_36_code 47 = .ok (.iload 4, 2) := by decide +kernel
theorem own_d30_49 : decode jdk_89_method_36_code 49 = .ok (.iinc 4 1, 3) := by decide +kernel
theorem own_d30_52 : decode jdk_89_method_36_code 52 = .ok (.invokeinterface 86 2, 5) := by decide +kernel
theorem own_pd_0 : parseMethodDescriptor "(I)C" = some ⟨[.int], some .char⟩ := by decide +kernel
theorem own_d30_57 : decode jdk_89_method_36_code 57 = .ok (.invokestatic 78, 3) := by decide +kernel
theorem own_d30_60 : decode jdk_89_method_36_code 60 = .ok (.ifCond .eq 26, 3) := by decide +kernel
theorem own_d30_63 : decode jdk_89_method_36_code 63 = .ok (.iload 4, 2) := by decide +kernel
theorem own_d30_65 : decode jdk_89_method_36_code 65 = .ok (.iload_n 3, 1) := by decide +kernel
theorem own_d30_66 : decode jdk_89_method_36_code 66 = .ok (.if_icmp .ge 20, 3) := by decide +kernel
theorem own_d30_69 : decode jdk_89_method_36_code 69 = .ok (.aload_n 0, 1) := by decide +kernel
theorem own_d30_70 : decode jdk_89_method_36_code 70 = .ok (.iload 4, 2) := by decide +kernel
theorem own_d30_72 : decode jdk_89_method_36_code 72 = .ok (.invokeinterface 86 2, 5) := by decide +kernel
theorem own_d30_77 : decode jdk_89_method_36_code 77 = .ok (.invokestatic 82, 3) := by decide +kernel
theorem own_d30_80 : decode jdk_89_method_36_code 80 = .ok (.ifCond .eq 6, 3) := by decide +kernel
theorem own_d30_86 : decode jdk_89_method_36_code 86 = .ok (.iinc 5 1, 3) := by decide +kernel
theorem own_d30_89 : decode jdk_89_method_36_code 89 = .ok (.goto (-55), 3) := by decide +kernel
theorem own_d30_92 : decode jdk_89_method_36_code 92 = .ok (.iload 5, 2) := by decide +kernel
theorem own_d30_94 : decode jdk_89_method_36_code 94 = .ok (.iload_n 2, 1) := by decide +kernel
theorem own_d30_95 : decode jdk_89_method_36_code 95 = .ok (.if_icmp .ge 11, 3) := by decide +kernel
theorem own_d30_106 : decode jdk_89_method_36_code 106 = .ok (.goto 76, 3) := by decide +kernel
theorem own_d30_182 : decode jdk_89_method_36_code 182 = .ok (.iload 4, 2) := by decide +kernel
theorem own_d30_184 : decode jdk_89_method_36_code 184 = .ok (.ireturn, 1) := by decide +kernel
theorem own_ef_cob1 (m : MethodId) (x0 : Addr) (x1 : Int32) (x2 : Int32) : entryFrame m #[(.ref x0), (.int x1), (.int x2)] 6 = mkF m 0 #[rv x0, iv x1, iv x2, uu, uu, uu] [] := by first | (simp [entryFrame, mkF, argsToLocals, Value.category]; done) | rfl
def Q_cob1 (Z : State) (x1 : Addr) (kx i : Nat) (cs : List Int32) (G1 : Int32) (G3 : Value) (h0 : Heap) (n0 : Nat) (v : Option Value) (h : Heap) (L : List Loc) : Prop := v = some (.int (Int32.ofNat (i + 1))) ∧ Fr n0 L ∧ h = h0
set_option maxRecDepth 65536 in
set_option maxHeartbeats 40000000 in
theorem rm_cob1 (l : Launch) (Z : State) (a0 : Array Value) (hw : ∀ d ∈ tables_1, d.before a0 Z = true) (ws : List Jvm.Cond) (x1 : Addr) (kx i : Nat) (cs : List Int32) (G1 : Int32) (G3 : Value) (h0 : Heap) (n0 : Nat) (Z0 : n0 ≤ h0.size) (X00 : Old Z n0 h0) (SX : StrB Z h0 kx x1 cs) (hil : i < cs.length) (hl4 : cs.length ≤ 4) (hP : ¬ (i + 1 < cs.length ∧ own_hi (cs.getD i 0) ∧ own_lo (cs.getD (i + 1) 0))) (O2 : Sta Z Z.heap "java/lang/String" "COMPACT_STRINGS" "Z" (.int G1)) (P5 : ¬ (G1 = (0 : Int32))) (O4 : Sta Z Z.heap "jdk/internal/util/Preconditions" "SIOOBE_FORMATTER" "Ljava/util/function/BiFunction;" G3) (rG3 : G3.isRef = true) (OA : Sta Z Z.heap "java/lang/StringUTF16" "$assertionsDisabled" "Z" (.int (1 : Int32))) (OH : Sta Z Z.heap "java/lang/StringUTF16" "HI_BYTE_SHIFT" "I" (.int (0 : Int32))) (OL : Sta Z Z.heap "java/lang/StringUTF16" "LO_BYTE_SHIFT" "I" (.int (8 : Int32))) :
    MetFree l (⟨"java/lang/Character", "offsetByCodePoints", "(Ljava/lang/CharSequence;II)I"⟩ : MethodName) (head1 (Jvm.Cond.code (⟨"java/lang/Character", "offsetByCodePoints", "(Ljava/lang/CharSequence;II)I"⟩ : MethodName) jdk_89_method_36_code 6 (some .int) :: ws) ({ frames := 5, cells := 0, slots := 0, locals := 86 } : Room)) (fun a U => a = #[(.ref x1), (.int (Int32.ofNat i)), (.int (1 : Int32))] ∧ Z.Warmed39 U.vm ∧ U.heap = h0) (fun _ _ _ _ _ => True) (fun _ U o U' => ∃ v L, o = .returned v ∧ Q_cob1 Z x1 kx i cs G1 G3 h0 n0 v U'.heap L ∧ FrameEnd U o U' L ({ frames := 5, cells := 0, slots := 0, locals := 86 } : Room).cells ({ frames := 5, cells := 0, slots := 0, locals := 86 } : Room).slots) := by
  refine MetFree.of_bodySF (plainFor_of_name own_pn_2) hisR ?_
  intro p e s m args below meth c s₁ Bd hml0 hP hK
  obtain ⟨rfl, hZ, hh⟩ := hP
  have hx := Bd.exec
  have hby := Bd.bytes
  have hml : c.maxLocals = 6 := hml0
  have hown : s.vm.findClass "java/lang/Character" = some m.cls := findClass_of_methodNamed Bd.named
  have hnm := (name_of_methodNamed Bd.named Bd.method).1
  have W := own_W hw
  have X0 : Stand p l e ({ frames := 5, cells := 0, slots := 0, locals := 86 } : Room) s m #[(.ref x1), (.int (Int32.ofNat i)), (.int (1 : Int32))] below meth c s₁ [] 0 0 := Stand.of_body Bd
  have e0 : s₁.heap = h0 := by rw [← hh, Bd.state]; rfl
  have N0 := Fr.nil n0
  have pre0 : ∀ tq, Steps p.tables e below (s₁.setTop (mkF m 0 #[rv x1, iv (Int32.ofNat i), iv 1, uu, uu, uu] [])) tq → Steps p.tables e below (s₁.setTop (entryFrame m #[(.ref x1), (.int (Int32.ofNat i)), (.int (1 : Int32))] 6)) tq := fun tq k => castTop (own_ef_cob1 m x1 (Int32.ofNat i) (1 : Int32)) k
  have hln : ∀ d ∈ StrChars.Road.wordsLen, d.before a0 Z = true := fun d hd => hw d ((by decide +kernel : ∀ d ∈ StrChars.Road.wordsLen, d ∈ tables_1) d hd)
  have EX := SX.exa
  have hit : Int32.ofNat i < Int32.ofNat cs.length := (own_ltI (by omega) (by omega)).mpr hil
  obtain ⟨cq300, kq300, q300a, q300b, q300c⟩ := isOf hZ e0 EX
  obtain ⟨_, _, ⟨T300, L300, k300, n300⟩, -, X300, ⟨Lc300, hQ300, l300, y300, z300⟩, st300⟩ := X0.interfaceBack hx (xi := (⟨"java/lang/CharSequence", "length", "()I"⟩ : MethodName)) (y := (⟨"java/lang/String", "length", "()I"⟩ : MethodName)) hown (mvT hZ (W 108 rfl)) (mvT hZ (W 109 rfl)) (mvT hZ (W 110 rfl)) (mvT hZ (W 111 rfl)) (mvT hZ (W 59 rfl)) (mvT hZ (W 112 rfl)) (mvT hZ (W 113 rfl)) (mvT hZ (W 114 rfl)) (by decide) (own_lenS (W := 0) hZ hln (kI := 4) (W 10 rfl) SX (O2.ext X00.2) P5 (by decide) (by decide)) q300a q300b q300c (g := (mkF m 1 #[rv x1, iv (Int32.ofNat i), iv 1, uu, uu, uu] [.ref x1])) rfl (by rw [hml]; rfl) (Steps.refl _) (argsL := []) (rest := []) (lenOf own_pd_7 rfl) rfl own_wt (hb hby own_d30_1) (fun _ _ => ⟨rfl, e0, (by decide : 0 + 0 ≤ _), (by decide : 0 + 0 ≤ _)⟩)
  dsimp only [Pt.U, Pt.locs, Pt.cells, Pt.slots] at X300 l300 y300 z300 st300 hQ300
  subst l300 y300 z300
  obtain ⟨rfl, rfl, e300⟩ := hQ300
  have N300 := Fr.app N0 (Fr.nil n0)
  obtain ⟨cq301, kq301, q301a, q301b, q301c⟩ := isOf hZ e300 EX
  obtain ⟨_, _, ⟨T301, L301, k301, n301⟩, -, X301, ⟨Lc301, hQ301, l301, y301, z301⟩, st301⟩ := X300.interfaceBack hx (xi := (⟨"java/lang/CharSequence", "charAt", "(I)C"⟩ : MethodName)) (y := (⟨"java/lang/String", "charAt", "(I)C"⟩ : MethodName)) hown (mvT hZ (W 115 rfl)) (mvT hZ (W 116 rfl)) (mvT hZ (W 117 rfl)) (mvT hZ (W 118 rfl)) (mvT hZ (W 119 rfl)) (mvT hZ (W 120 rfl)) (mvT hZ (W 121 rfl)) (mvT hZ (W 114 rfl)) (by decide) (own_chS (W := 0) hZ hw (i := i) (n0 := n0) Z0 X00 SX hil rfl O2 P5 O4 rG3 OA OH OL (by decide) (by decide)) q301a q301b q301c (g := (mkF m 52 #[rv x1, iv (Int32.ofNat i), iv 1, iv (Int32.ofNat cs.length), iv (Int32.ofNat (i + 1)), iv 0] [.int (Int32.ofNat i), .ref x1])) rfl (by rw [hml]; rfl) (Steps.refl _) (argsL := [.int (Int32.ofNat i)]) (rest := []) (lenOf own_pd_0 rfl) rfl own_wt (hb hby own_d30_52) (fun _ _ => ⟨rfl, e300, (by decide : 0 + 0 ≤ _), (by decide : 0 + 0 ≤ _)⟩)
  dsimp only [Pt.U, Pt.locs, Pt.cells, Pt.slots] at X301 l301 y301 z301 st301 hQ301
  subst l301 y301 z301
  obtain ⟨rfl, Nq301, e301⟩ := hQ301
  have N301 := Fr.app N300 Nq301
  have G302 : ∀ tq, Steps p.tables e below (T301.setTop (mkF m 57 #[rv x1, iv (Int32.ofNat i), iv 1, iv (Int32.ofNat cs.length), iv (Int32.ofNat (i + 1)), iv 0] [.int (cs.getD i 0)])) tq → Steps p.tables e below (s₁.setTop (mkF m 0 #[rv x1, iv (Int32.ofNat i), iv 1, uu, uu, uu] [])) tq := by
    intro tq kk
    show Steps _ _ _ (s₁.setTop (mkF m 0 #[rv x1, iv (Int32.ofNat i), iv 1, uu, uu, uu] [])) _
    refine XS.aloadN X0.here hx rfl (hb hby own_d30_0) rfl rfl ?_
    show Steps _ _ _ (s₁.setTop (mkF m 1 _ [.ref x1])) _
    refine st300.trans ?_
    show Steps _ _ _ (T300.setTop (mkF m 6 #[rv x1, iv (Int32.ofNat i), iv 1, uu, uu, uu] [.int (Int32.ofNat cs.length)])) _
    refine XS.istoreN X300.here hx rfl (hb hby own_d30_6) rfl (l' := #[rv x1, iv (Int32.ofNat i), iv 1, iv (Int32.ofNat cs.length), uu, uu]) rfl ?_
    show Steps _ _ _ (T300.setTop (mkF m 7 _ [])) _
    refine XS.iloadN X300.here hx rfl (hb hby own_d30_7) rfl ?_
    show Steps _ _ _ (T300.setTop (mkF m 8 _ [.int (Int32.ofNat i)])) _
    refine XS.ifNo X300.here hx rfl (hb hby own_d30_8) rfl ((if0 _ _).trans (flt (own_nn (by omega) : ¬ ((Int32.ofNat i) < (0 : Int32)))).1) ?_
    show Steps _ _ _ (T300.setTop (mkF m 11 _ [])) _
    refine XS.iloadN X300.here hx rfl (hb hby own_d30_11) rfl ?_
    show Steps _ _ _ (T300.setTop (mkF m 12 _ [.int (Int32.ofNat i)])) _
    refine XS.iloadN X300.here hx rfl (hb hby own_d30_12) rfl ?_
    show Steps _ _ _ (T300.setTop (mkF m 13 _ [.int (Int32.ofNat cs.length), .int (Int32.ofNat i)])) _
    refine XS.icmpYes X300.here hx rfl (pc0 := 13) (pc' := 24) rfl (hb hby own_d30_13) rfl (flt (fun q => absurd ((own_ltI (by omega) (by omega)).mp q) (by omega) : ¬ ((Int32.ofNat cs.length) < (Int32.ofNat i)))).2.2.2 (by decide) (by decide) ?_
    show Steps _ _ _ (T300.setTop (mkF m 24 _ [])) _
    refine XS.iloadN X300.here hx rfl (hb hby own_d30_24) rfl ?_
    show Steps _ _ _ (T300.setTop (mkF m 25 _ [.int (Int32.ofNat i)])) _
    refine XS.istore X300.here hx rfl (hb hby own_d30_25) rfl (l' := #[rv x1, iv (Int32.ofNat i), iv 1, iv (Int32.ofNat cs.length), iv (Int32.ofNat i), uu]) rfl ?_
    show Steps _ _ _ (T300.setTop (mkF m 27 #[rv x1, iv (Int32.ofNat i), iv 1, iv (Int32.ofNat cs.length), iv (Int32.ofNat i), uu] [])) _
    refine XS.iloadN X300.here hx rfl (hb hby own_d30_27) rfl ?_
    show Steps _ _ _ (T300.setTop (mkF m 28 _ [.int 1])) _
    refine XS.ifNo X300.here hx rfl (hb hby own_d30_28) rfl ((if0 _ _).trans (flt ((by decide) : ¬ ((1 : Int32) < (0 : Int32)))).1) ?_
    show Steps _ _ _ (T300.setTop (mkF m 31 _ [])) _
    refine XS.iconst X300.here hx rfl (hb hby own_d30_31) ?_
    show Steps _ _ _ (T300.setTop (mkF m 32 _ [.int 0])) _
    refine XS.istore X300.here hx rfl (hb hby own_d30_32) rfl (l' := #[rv x1, iv (Int32.ofNat i), iv 1, iv (Int32.ofNat cs.length), iv (Int32.ofNat i), iv 0]) rfl ?_
    show Steps _ _ _ (T300.setTop (mkF m 34 _ [])) _
    refine XS.iload X300.here hx rfl (hb hby own_d30_34) rfl ?_
    show Steps _ _ _ (T300.setTop (mkF m 36 _ [.int (Int32.ofNat i)])) _
    refine XS.iloadN X300.here hx rfl (hb hby own_d30_36) rfl ?_
    show Steps _ _ _ (T300.setTop (mkF m 37 _ [.int (Int32.ofNat cs.length), .int (Int32.ofNat i)])) _
    refine XS.icmpNo X300.here hx rfl (hb hby own_d30_37) rfl (tlt (hit : (Int32.ofNat i) < (Int32.ofNat cs.length))).2.1 ?_
    show Steps _ _ _ (T300.setTop (mkF m 40 _ [])) _
    refine XS.iload X300.here hx rfl (hb hby own_d30_40) rfl ?_
    show Steps _ _ _ (T300.setTop (mkF m 42 #[rv x1, iv (Int32.ofNat i), iv 1, iv (Int32.ofNat cs.length), iv (Int32.ofNat i), iv 0] [.int 0])) _
    refine XS.iloadN X300.here hx rfl (hb hby own_d30_42) rfl ?_
    show Steps _ _ _ (T300.setTop (mkF m 43 _ [.int 1, .int 0])) _
    refine XS.icmpNo X300.here hx rfl (hb hby own_d30_43) rfl (tlt ((by decide) : (0 : Int32) < (1 : Int32))).2.1 ?_
    show Steps _ _ _ (T300.setTop (mkF m 46 _ [])) _
    refine XS.aloadN X300.here hx rfl (hb hby own_d30_46) rfl rfl ?_
    show Steps _ _ _ (T300.setTop (mkF m 47 _ [.ref x1])) _
    refine XS.iload X300.here hx rfl (hb hby own_d30_47) rfl ?_
    show Steps _ _ _ (T300.setTop (mkF m 49 _ [.int (Int32.ofNat i), .ref x1])) _
    refine XS.iinc X300.here hx rfl (hb hby own_d30_49) rfl (l' := #[rv x1, iv (Int32.ofNat i), iv 1, iv (Int32.ofNat cs.length), iv (Int32.ofNat (i + 1)), iv 0]) (by rw [show Int32.ofNat i + Int32.ofInt 1 = Int32.ofNat (i + 1) from own_one i]; rfl) ?_
    show Steps _ _ _ (T300.setTop (mkF m 52 _ [.int (Int32.ofNat i), .ref x1])) _
    refine st301.trans ?_
    exact kk
  by_cases hh : own_hi (cs.getD i 0)
  · obtain ⟨_, _, ⟨T303, L303, k303, n303⟩, -, X303, ⟨Lc303, hQ303, l303, y303, z303⟩, st303⟩ := Jvm.LawKit.callS X301 hx (y := (⟨"java/lang/Character", "isHighSurrogate", "(C)Z"⟩ : MethodName)) hown (mvT hZ (W 134 rfl)) (mvT hZ (W 135 rfl)) (mvT hZ (W 106 rfl)) (mvT hZ (W 136 rfl)) (by decide) (backOf (W := 0) (rm_jhi1 l Z a0 hw [] (cs.getD i 0) h0 n0 Z0 hh) hZ (W 136 rfl) (W 106 rfl) (by decide) (by decide)) (g := (mkF m 57 #[rv x1, iv (Int32.ofNat i), iv 1, iv (Int32.ofNat cs.length), iv (Int32.ofNat (i + 1)), iv 0] [.int (cs.getD i 0)])) rfl (by rw [hml]; rfl) (argsL := [.int (cs.getD i 0)]) (rest := []) (lenOf own_pd_21 rfl) rfl own_wt (hb hby own_d30_57) (fun _ _ => ⟨rfl, e301, (by decide : 0 + 0 ≤ _), (by decide : 0 + 0 ≤ _)⟩)
    dsimp only [Pt.U, Pt.locs, Pt.cells, Pt.slots] at X303 l303 y303 z303 st303 hQ303
    subst l303 y303 z303
    obtain ⟨rfl, Nq303, e303⟩ := hQ303
    have N303 := Fr.app N301 Nq303
    have G304 : ∀ tq, Steps p.tables e below (T303.setTop (mkF m 63 #[rv x1, iv (Int32.ofNat i), iv 1, iv (Int32.ofNat cs.length), iv (Int32.ofNat (i + 1)), iv 0] [])) tq → Steps p.tables e below (T301.setTop (mkF m 57 #[rv x1, iv (Int32.ofNat i), iv 1, iv (Int32.ofNat cs.length), iv (Int32.ofNat (i + 1)), iv 0] [.int (cs.getD i 0)])) tq := by
      intro tq kk
      show Steps _ _ _ (T301.setTop (mkF m 57 #[rv x1, iv (Int32.ofNat i), iv 1, iv (Int32.ofNat cs.length), iv (Int32.ofNat (i + 1)), iv 0] [.int (cs.getD i 0)])) _
      refine st303 _ ?_
      show Steps _ _ _ (T303.setTop (mkF m 60 #[rv x1, iv (Int32.ofNat i), iv 1, iv (Int32.ofNat cs.length), iv (Int32.ofNat (i + 1)), iv 0] [.int 1])) _
      refine XS.ifNo X303.here hx rfl (hb hby own_d30_60) rfl ((if0 _ _).trans (feq ((by decide) : ¬ ((1 : Int32) = (0 : Int32)))).1) ?_
      exact kk
    by_cases h2 : i + 1 < cs.length
    · have hit2 : Int32.ofNat (i + 1) < Int32.ofNat cs.length := (own_ltI (by omega) (by omega)).mpr h2
      obtain ⟨cq305, kq305, q305a, q305b, q305c⟩ := isOf hZ e303 EX
      obtain ⟨_, _, ⟨T305, L305, k305, n305⟩, -, X305, ⟨Lc305, hQ305, l305, y305, z305⟩, st305⟩ := X303.interfaceBack hx (xi := (⟨"java/lang/CharSequence", "charAt", "(I)C"⟩ : MethodName)) (y := (⟨"java/lang/String", "charAt", "(I)C"⟩ : MethodName)) hown (mvT hZ (W 115 rfl)) (mvT hZ (W 116 rfl)) (mvT hZ (W 117 rfl)) (mvT hZ (W 118 rfl)) (mvT hZ (W 119 rfl)) (mvT hZ (W 120 rfl)) (mvT hZ (W 121 rfl)) (mvT hZ (W 114 rfl)) (by decide) (own_chS (W := 0) hZ hw (i := (i + 1)) (n0 := n0) Z0 X00 SX h2 rfl O2 P5 O4 rG3 OA OH OL (by decide) (by decide)) q305a q305b q305c (g := (mkF m 72 #[rv x1, iv (Int32.ofNat i), iv 1, iv (Int32.ofNat cs.length), iv (Int32.ofNat (i + 1)), iv 0] [.int (Int32.ofNat (i + 1)), .ref x1])) rfl (by rw [hml]; rfl) (Steps.refl _) (argsL := [.int (Int32.ofNat (i + 1))]) (rest := []) (lenOf own_pd_0 rfl) rfl own_wt (hb hby own_d30_72) (fun _ _ => ⟨rfl, e303, (by decide : 0 + 0 ≤ _), (by decide : 0 + 0 ≤ _)⟩)
      dsimp only [Pt.U, Pt.locs, Pt.cells, Pt.slots] at X305 l305 y305 z305 st305 hQ305
      subst l305 y305 z305
      obtain ⟨rfl, Nq305, e305⟩ := hQ305
      have N305 := Fr.app N303 Nq305
      obtain ⟨_, _, ⟨T306, L306, k306, n306⟩, -, X306, ⟨Lc306, hQ306, l306, y306, z306⟩, st306⟩ := Jvm.LawKit.callS X305 hx (y := (⟨"java/lang/Character", "isLowSurrogate", "(C)Z"⟩ : MethodName)) hown (mvT hZ (W 185 rfl)) (mvT hZ (W 183 rfl)) (mvT hZ (W 106 rfl)) (mvT hZ (W 184 rfl)) (by decide) (backOf (W := 0) (rm_jlo0 l Z a0 hw [] (cs.getD (i + 1) 0) h0 n0 Z0 (fun q => hP ⟨h2, hh, q⟩)) hZ (W 184 rfl) (W 106 rfl) (by decide) (by decide)) (g := (mkF m 77 #[rv x1, iv (Int32.ofNat i), iv 1, iv (Int32.ofNat cs.length), iv (Int32.ofNat (i + 1)), iv 0] [.int (cs.getD (i + 1) 0)])) rfl (by rw [hml]; rfl) (argsL := [.int (cs.getD (i + 1) 0)]) (rest := []) (lenOf own_pd_21 rfl) rfl own_wt (hb hby own_d30_77) (fun _ _ => ⟨rfl, e305, (by decide : 0 + 0 ≤ _), (by decide : 0 + 0 ≤ _)⟩)
      dsimp only [Pt.U, Pt.locs, Pt.cells, Pt.slots] at X306 l306 y306 z306 st306 hQ306
      subst l306 y306 z306
      obtain ⟨rfl, Nq306, e306⟩ := hQ306
      have N306 := Fr.app N305 Nq306
      have G307 : ∀ tq, Steps p.tables e below (T306.setTop (mkF m 34 #[rv x1, iv (Int32.ofNat i), iv 1, iv (Int32.ofNat cs.length), iv (Int32.ofNat (i + 1)), iv 1] [])) tq → Steps p.tables e below (T303.setTop (mkF m 63 #[rv x1, iv (Int32.ofNat i), iv 1, iv (Int32.ofNat cs.length), iv (Int32.ofNat (i + 1)), iv 0] [])) tq := by
        intro tq kk
        show Steps _ _ _ (T303.setTop (mkF m 63 #[rv x1, iv (Int32.ofNat i), iv 1, iv (Int32.ofNat cs.length), iv (Int32.ofNat (i + 1)), iv 0] [])) _
        refine XS.iload X303.here hx rfl (hb hby own_d30_63) rfl ?_
        show Steps _ _ _ (T303.setTop (mkF m 65 _ [.int (Int32.ofNat (i + 1))])) _
        refine XS.iloadN X303.here hx rfl (hb hby own_d30_65) rfl ?_
        show Steps _ _ _ (T303.setTop (mkF m 66 _ [.int (Int32.ofNat cs.length), .int (Int32.ofNat (i + 1))])) _
        refine XS.icmpNo X303.here hx rfl (hb hby own_d30_66) rfl (tlt (hit2 : (Int32.ofNat (i + 1)) < (Int32.ofNat cs.length))).2.1 ?_
        show Steps _ _ _ (T303.setTop (mkF m 69 _ [])) _
        refine XS.aloadN X303.here hx rfl (hb hby own_d30_69) rfl rfl ?_
        show Steps _ _ _ (T303.setTop (mkF m 70 _ [.ref x1])) _
        refine XS.iload X303.here hx rfl (hb hby own_d30_70) rfl ?_
        show Steps _ _ _ (T303.setTop (mkF m 72 _ [.int (Int32.ofNat (i + 1)), .ref x1])) _
        refine st305.trans ?_
        show Steps _ _ _ (T305.setTop (mkF m 77 #[rv x1, iv (Int32.ofNat i), iv 1, iv (Int32.ofNat cs.length), iv (Int32.ofNat (i + 1)), iv 0] [.int (cs.getD (i + 1) 0)])) _
        refine st306 _ ?_
        show Steps _ _ _ (T306.setTop (mkF m 80 #[rv x1, iv (Int32.ofNat i), iv 1, iv (Int32.ofNat cs.length), iv (Int32.ofNat (i + 1)), iv 0] [.int 0])) _
        refine XS.ifYes X306.here hx rfl (pc0 := 80) (pc' := 86) rfl (hb hby own_d30_80) rfl ((if0 _ _).trans (teq (rfl : (0 : Int32) = (0 : Int32))).1) (by decide) (by decide) ?_
        show Steps _ _ _ (T306.setTop (mkF m 86 _ [])) _
        refine XS.iinc X306.here hx rfl (hb hby own_d30_86) rfl (l' := #[rv x1, iv (Int32.ofNat i), iv 1, iv (Int32.ofNat cs.length), iv (Int32.ofNat (i + 1)), iv 1]) rfl ?_
        show Steps _ _ _ (T306.setTop (mkF m 89 _ [])) _
        refine XS.goto X306.here hx rfl (pc0 := 89) (pc' := 34) rfl (hb hby own_d30_89) (by decide) (by decide) ?_
        exact kk
      obtain ⟨fs, hr, hrun, hended, hW, hsame⟩ := X306.leave (v := some (.int (Int32.ofNat (i + 1)))) (fun h => by rw [Bd.returns] at h; cases h)
      refine ⟨_, _, pre0 _ (G302 _ (G304 _ (G307 _ (?_)))), hrun, hended, _, _, rfl, ?_, ⟨_, rfl⟩, hW, hsame.mono (by decide) (by decide)⟩
      · show Steps _ _ _ (T306.setTop (mkF m 34 #[rv x1, iv (Int32.ofNat i), iv 1, iv (Int32.ofNat cs.length), iv (Int32.ofNat (i + 1)), iv 1] [])) _
        refine XS.iload X306.here hx rfl (hb hby own_d30_34) rfl ?_
        show Steps _ _ _ (T306.setTop (mkF m 36 _ [.int (Int32.ofNat (i + 1))])) _
        refine XS.iloadN X306.here hx rfl (hb hby own_d30_36) rfl ?_
        show Steps _ _ _ (T306.setTop (mkF m 37 _ [.int (Int32.ofNat cs.length), .int (Int32.ofNat (i + 1))])) _
        refine XS.icmpNo X306.here hx rfl (hb hby own_d30_37) rfl (tlt (hit2 : (Int32.ofNat (i + 1)) < (Int32.ofNat cs.length))).2.1 ?_
        show Steps _ _ _ (T306.setTop (mkF m 40 _ [])) _
        refine XS.iload X306.here hx rfl (hb hby own_d30_40) rfl ?_
        show Steps _ _ _ (T306.setTop (mkF m 42 _ [.int 1])) _
        refine XS.iloadN X306.here hx rfl (hb hby own_d30_42) rfl ?_
        show Steps _ _ _ (T306.setTop (mkF m 43 _ [.int 1, .int 1])) _
        refine XS.icmpYes X306.here hx rfl (pc0 := 43) (pc' := 92) rfl (hb hby own_d30_43) rfl (flt ((by decide) : ¬ ((1 : Int32) < (1 : Int32)))).2.1 (by decide) (by decide) ?_
        show Steps _ _ _ (T306.setTop (mkF m 92 _ [])) _
        refine XS.iload X306.here hx rfl (hb hby own_d30_92) rfl ?_
        show Steps _ _ _ (T306.setTop (mkF m 94 _ [.int 1])) _
        refine XS.iloadN X306.here hx rfl (hb hby own_d30_94) rfl ?_
        show Steps _ _ _ (T306.setTop (mkF m 95 #[rv x1, iv (Int32.ofNat i), iv 1, iv (Int32.ofNat cs.length), iv (Int32.ofNat (i + 1)), iv 1] [.int 1, .int 1])) _
        refine XS.icmpYes X306.here hx rfl (pc0 := 95) (pc' := 106) rfl (hb hby own_d30_95) rfl (flt ((by decide) : ¬ ((1 : Int32) < (1 : Int32)))).2.1 (by decide) (by decide) ?_
        show Steps _ _ _ (T306.setTop (mkF m 106 _ [])) _
        refine XS.goto X306.here hx rfl (pc0 := 106) (pc' := 182) rfl (hb hby own_d30_106) (by decide) (by decide) ?_
        show Steps _ _ _ (T306.setTop (mkF m 182 _ [])) _
        refine XS.iload X306.here hx rfl (hb hby own_d30_182) rfl ?_
        show Steps _ _ _ (T306.setTop (mkF m 184 _ [.int (Int32.ofNat (i + 1))])) _
        exact retI X306 hx Bd.returns (hb hby own_d30_184) hr
      · show Q_cob1 Z x1 kx i cs G1 G3 h0 n0 _ T306.heap _
        rw [e306]
        exact ⟨rfl, N306, rfl⟩
    · have hit2 : ¬ Int32.ofNat (i + 1) < Int32.ofNat cs.length := fun q => h2 ((own_ltI (by omega) (by omega)).mp q)
      have G308 : ∀ tq, Steps p.tables e below (T303.setTop (mkF m 34 #[rv x1, iv (Int32.ofNat i), iv 1, iv (Int32.ofNat cs.length), iv (Int32.ofNat (i + 1)), iv 1] [])) tq → Steps p.tables e below (T303.setTop (mkF m 63 #[rv x1, iv (Int32.ofNat i), iv 1, iv (Int32.ofNat cs.length), iv (Int32.ofNat (i + 1)), iv 0] [])) tq := by
        intro tq kk
        show Steps _ _ _ (T303.setTop (mkF m 63 #[rv x1, iv (Int32.ofNat i), iv 1, iv (Int32.ofNat cs.length), iv (Int32.ofNat (i + 1)), iv 0] [])) _
        refine XS.iload X303.here hx rfl (hb hby own_d30_63) rfl ?_
        show Steps _ _ _ (T303.setTop (mkF m 65 _ [.int (Int32.ofNat (i + 1))])) _
        refine XS.iloadN X303.here hx rfl (hb hby own_d30_65) rfl ?_
        show Steps _ _ _ (T303.setTop (mkF m 66 _ [.int (Int32.ofNat cs.length), .int (Int32.ofNat (i + 1))])) _
        refine XS.icmpYes X303.here hx rfl (pc0 := 66) (pc' := 86) rfl (hb hby own_d30_66) rfl (flt (hit2 : ¬ ((Int32.ofNat (i + 1)) < (Int32.ofNat cs.length)))).2.1 (by decide) (by decide) ?_
        show Steps _ _ _ (T303.setTop (mkF m 86 _ [])) _
        refine XS.iinc X303.here hx rfl (hb hby own_d30_86) rfl (l' := #[rv x1, iv (Int32.ofNat i), iv 1, iv (Int32.ofNat cs.length), iv (Int32.ofNat (i + 1)), iv 1]) rfl ?_
        show Steps _ _ _ (T303.setTop (mkF m 89 _ [])) _
        refine XS.goto X303.here hx rfl (pc0 := 89) (pc' := 34) rfl (hb hby own_d30_89) (by decide) (by decide) ?_
        exact kk
      obtain ⟨fs, hr, hrun, hended, hW, hsame⟩ := X303.leave (v := some (.int (Int32.ofNat (i + 1)))) (fun h => by rw [Bd.returns] at h; cases h)
      refine ⟨_, _, pre0 _ (G302 _ (G304 _ (G308 _ (?_)))), hrun, hended, _, _, rfl, ?_, ⟨_, rfl⟩, hW, hsame.mono (by decide) (by decide)⟩
      · show Steps _ _ _ (T303.setTop (mkF m 34 #[rv x1, iv (Int32.ofNat i), iv 1, iv (Int32.ofNat cs.length), iv (Int32.ofNat (i + 1)), iv 1] [])) _
        refine XS.iload X303.here hx rfl (hb hby own_d30_34) rfl ?_
        show Steps _ _ _ (T303.setTop (mkF m 36 _ [.int (Int32.ofNat (i + 1))])) _
        refine XS.iloadN X303.here hx rfl (hb hby own_d30_36) rfl ?_
        show Steps _ _ _ (T303.setTop (mkF m 37 _ [.int (Int32.ofNat cs.length), .int (Int32.ofNat (i + 1))])) _
        refine XS.icmpYes X303.here hx rfl (pc0 := 37) (pc' := 92) rfl (hb hby own_d30_37) rfl (flt (hit2 : ¬ ((Int32.ofNat (i + 1)) < (Int32.ofNat cs.length)))).2.1 (by decide) (by decide) ?_
        show Steps _ _ _ (T303.setTop (mkF m 92 _ [])) _
        refine XS.iload X303.here hx rfl (hb hby own_d30_92) rfl ?_
        show Steps _ _ _ (T303.setTop (mkF m 94 _ [.int 1])) _
        refine XS.iloadN X303.here hx rfl (hb hby own_d30_94) rfl ?_
        show Steps _ _ _ (T303.setTop (mkF m 95 _ [.int 1, .int 1])) _
        refine XS.icmpYes X303.here hx rfl (pc0 := 95) (pc' := 106) rfl (hb hby own_d30_95) rfl (flt ((by decide) : ¬ ((1 : Int32) < (1 : Int32)))).2.1 (by decide) (by decide) ?_
        show Steps _ _ _ (T303.setTop (mkF m 106 _ [])) _
        refine XS.goto X303.here hx rfl (pc0 := 106) (pc' := 182) rfl (hb hby own_d30_106) (by decide) (by decide) ?_
        show Steps _ _ _ (T303.setTop (mkF m 182 _ [])) _
        refine XS.iload X303.here hx rfl (hb hby own_d30_182) rfl ?_
        show Steps _ _ _ (T303.setTop (mkF m 184 #[rv x1, iv (Int32.ofNat i), iv 1, iv (Int32.ofNat cs.length), iv (Int32.ofNat (i + 1)), iv 1] [.int (Int32.ofNat (i + 1))])) _
        exact retI X303 hx Bd.returns (hb hby own_d30_184) hr
      · show Q_cob1 Z x1 kx i cs G1 G3 h0 n0 _ T303.heap _
        rw [e303]
        exact ⟨rfl, N303, rfl⟩
  · obtain ⟨_, _, ⟨T309, L309, k309, n309⟩, -, X309, ⟨Lc309, hQ309, l309, y309, z309⟩, st309⟩ := Jvm.LawKit.callS X301 hx (y := (⟨"java/lang/Character", "isHighSurrogate", "(C)Z"⟩ : MethodName)) hown (mvT hZ (W 134 rfl)) (mvT hZ (W 135 rfl)) (mvT hZ (W 106 rfl)) (mvT hZ (W 136 rfl)) (by decide) (backOf (W := 0) (rm_jhi0 l Z a0 hw [] (cs.getD i 0) h0 n0 Z0 hh) hZ (W 136 rfl) (W 106 rfl) (by decide) (by decide)) (g := (mkF m 57 #[rv x1, iv (Int32.ofNat i), iv 1, iv (Int32.ofNat cs.length), iv (Int32.ofNat (i + 1)), iv 0] [.int (cs.getD i 0)])) rfl (by rw [hml]; rfl) (argsL := [.int (cs.getD i 0)]) (rest := []) (lenOf own_pd_21 rfl) rfl own_wt (hb hby own_d30_57) (fun _ _ => ⟨rfl, e301, (by decide : 0 + 0 ≤ _), (by decide : 0 + 0 ≤ _)⟩)
    dsimp only [Pt.U, Pt.locs, Pt.cells, Pt.slots] at X309 l309 y309 z309 st309 hQ309
    subst l309 y309 z309
    obtain ⟨rfl, Nq309, e309⟩ := hQ309
    have N309 := Fr.app N301 Nq309
    have G310 : ∀ tq, Steps p.tables e below (T309.setTop (mkF m 34 #[rv x1, iv (Int32.ofNat i), iv 1, iv (Int32.ofNat cs.length), iv (Int32.ofNat (i + 1)), iv 1] [])) tq → Steps p.tables e below (T301.setTop (mkF m 57 #[rv x1, iv (Int32.ofNat i), iv 1, iv (Int32.ofNat cs.length), iv (Int32.ofNat (i + 1)), iv 0] [.int (cs.getD i 0)])) tq := by
      intro tq kk
      show Steps _ _ _ (T301.setTop (mkF m 57 #[rv x1, iv (Int32.ofNat i), iv 1, iv (Int32.ofNat cs.length), iv (Int32.ofNat (i + 1)), iv 0] [.int (cs.getD i 0)])) _
      refine st309 _ ?_
      show Steps _ _ _ (T309.setTop (mkF m 60 #[rv x1, iv (Int32.ofNat i), iv 1, iv (Int32.ofNat cs.length), iv (Int32.ofNat (i + 1)), iv 0] [.int 0])) _
      refine XS.ifYes X309.here hx rfl (pc0 := 60) (pc' := 86) rfl (hb hby own_d30_60) rfl ((if0 _ _).trans (teq (rfl : (0 : Int32) = (0 : Int32))).1) (by decide) (by decide) ?_
      show Steps _ _ _ (T309.setTop (mkF m 86 _ [])) _
      refine XS.iinc X309.here hx rfl (hb hby own_d30_86) rfl (l' := #[rv x1, iv (Int32.ofNat i), iv 1, iv (Int32.ofNat cs.length), iv (Int32.ofNat (i + 1)), iv 1]) rfl ?_
      show Steps _ _ _ (T309.setTop (mkF m 89 _ [])) _
      refine XS.goto X309.here hx rfl (pc0 := 89) (pc' := 34) rfl (hb hby own_d30_89) (by decide) (by decide) ?_
      exact kk
    by_cases h2 : i + 1 < cs.length
    · have hit2 : Int32.ofNat (i + 1) < Int32.ofNat cs.length := (own_ltI (by omega) (by omega)).mpr h2
      obtain ⟨fs, hr, hrun, hended, hW, hsame⟩ := X309.leave (v := some (.int (Int32.ofNat (i + 1)))) (fun h => by rw [Bd.returns] at h; cases h)
      refine ⟨_, _, pre0 _ (G302 _ (G310 _ (?_))), hrun, hended, _, _, rfl, ?_, ⟨_, rfl⟩, hW, hsame.mono (by decide) (by decide)⟩
      · show Steps _ _ _ (T309.setTop (mkF m 34 #[rv x1, iv (Int32.ofNat i), iv 1, iv (Int32.ofNat cs.length), iv (Int32.ofNat (i + 1)), iv 1] [])) _
        refine XS.iload X309.here hx rfl (hb hby own_d30_34) rfl ?_
        show Steps _ _ _ (T309.setTop (mkF m 36 _ [.int (Int32.ofNat (i + 1))])) _
        refine XS.iloadN X309.here hx rfl (hb hby own_d30_36) rfl ?_
        show Steps _ _ _ (T309.setTop (mkF m 37 _ [.int (Int32.ofNat cs.length), .int (Int32.ofNat (i + 1))])) _
        refine XS.icmpNo X309.here hx rfl (hb hby own_d30_37) rfl (tlt (hit2 : (Int32.ofNat (i + 1)) < (Int32.ofNat cs.length))).2.1 ?_
        show Steps _ _ _ (T309.setTop (mkF m 40 _ [])) _
        refine XS.iload X309.here hx rfl (hb hby own_d30_40) rfl ?_
        show Steps _ _ _ (T309.setTop (mkF m 42 _ [.int 1])) _
        refine XS.iloadN X309.here hx rfl (hb hby own_d30_42) rfl ?_
        show Steps _ _ _ (T309.setTop (mkF m 43 _ [.int 1, .int 1])) _
        refine XS.icmpYes X309.here hx rfl (pc0 := 43) (pc' := 92) rfl (hb hby own_d30_43) rfl (flt ((by decide) : ¬ ((1 : Int32) < (1 : Int32)))).2.1 (by decide) (by decide) ?_
        show Steps _ _ _ (T309.setTop (mkF m 92 _ [])) _
        refine XS.iload X309.here hx rfl (hb hby own_d30_92) rfl ?_
        show Steps _ _ _ (T309.setTop (mkF m 94 _ [.int 1])) _
        refine XS.iloadN X309.here hx rfl (hb hby own_d30_94) rfl ?_
        show Steps _ _ _ (T309.setTop (mkF m 95 #[rv x1, iv (Int32.ofNat i), iv 1, iv (Int32.ofNat cs.length), iv (Int32.ofNat (i + 1)), iv 1] [.int 1, .int 1])) _
        refine XS.icmpYes X309.here hx rfl (pc0 := 95) (pc' := 106) rfl (hb hby own_d30_95) rfl (flt ((by decide) : ¬ ((1 : Int32) < (1 : Int32)))).2.1 (by decide) (by decide) ?_
        show Steps _ _ _ (T309.setTop (mkF m 106 _ [])) _
        refine XS.goto X309.here hx rfl (pc0 := 106) (pc' := 182) rfl (hb hby own_d30_106) (by decide) (by decide) ?_
        show Steps _ _ _ (T309.setTop (mkF m 182 _ [])) _
        refine XS.iload X309.here hx rfl (hb hby own_d30_182) rfl ?_
        show Steps _ _ _ (T309.setTop (mkF m 184 _ [.int (Int32.ofNat (i + 1))])) _
        exact retI X309 hx Bd.returns (hb hby own_d30_184) hr
      · show Q_cob1 Z x1 kx i cs G1 G3 h0 n0 _ T309.heap _
        rw [e309]
        exact ⟨rfl, N309, rfl⟩
    · have hit2 : ¬ Int32.ofNat (i + 1) < Int32.ofNat cs.length := fun q => h2 ((own_ltI (by omega) (by omega)).mp q)
      obtain ⟨fs, hr, hrun, hended, hW, hsame⟩ := X309.leave (v := some (.int (Int32.ofNat (i + 1)))) (fun h => by rw [Bd.returns] at h; cases h)
      refine ⟨_, _, pre0 _ (G302 _ (G310 _ (?_))), hrun, hended, _, _, rfl, ?_, ⟨_, rfl⟩, hW, hsame.mono (by decide) (by decide)⟩
      · show Steps _ _ _ (T309.setTop (mkF m 34 #[rv x1, iv (Int32.ofNat i), iv 1, iv (Int32.ofNat cs.length), iv (Int32.ofNat (i + 1)), iv 1] [])) _
        refine XS.iload X309.here hx rfl (hb hby own_d30_34) rfl ?_
        show Steps _ _ _ (T309.setTop (mkF m 36 _ [.int (Int32.ofNat (i + 1))])) _
        refine XS.iloadN X309.here hx rfl (hb hby own_d30_36) rfl ?_
        show Steps _ _ _ (T309.setTop (mkF m 37 _ [.int (Int32.ofNat cs.length), .int (Int32.ofNat (i + 1))])) _
        refine XS.icmpYes X309.here hx rfl (pc0 := 37) (pc' := 92) rfl (hb hby own_d30_37) rfl (flt (hit2 : ¬ ((Int32.ofNat (i + 1)) < (Int32.ofNat cs.length)))).2.1 (by decide) (by decide) ?_
        show Steps _ _ _ (T309.setTop (mkF m 92 _ [])) _
        refine XS.iload X309.here hx rfl (hb hby own_d30_92) rfl ?_
        show Steps _ _ _ (T309.setTop (mkF m 94 _ [.int 1])) _
        refine XS.iloadN X309.here hx rfl (hb hby own_d30_94) rfl ?_
        show Steps _ _ _ (T309.setTop (mkF m 95 _ [.int 1, .int 1])) _
        refine XS.icmpYes X309.here hx rfl (pc0 := 95) (pc' := 106) rfl (hb hby own_d30_95) rfl (flt ((by decide) : ¬ ((1 : Int32) < (1 : Int32)))).2.1 (by decide) (by decide) ?_
        show Steps _ _ _ (T309.setTop (mkF m 106 _ [])) _
        refine XS.goto X309.here hx rfl (pc0 := 106) (pc' := 182) rfl (hb hby own_d30_106) (by decide) (by decide) ?_
        show Steps _ _ _ (T309.setTop (mkF m 182 _ [])) _
        refine XS.iload X309.here hx rfl (hb hby own_d30_182) rfl ?_
        show Steps _ _ _ (T309.setTop (mkF m 184 #[rv x1, iv (Int32.ofNat i), iv 1, iv (Int32.ofNat cs.length), iv (Int32.ofNat (i + 1)), iv 1] [.int (Int32.ofNat (i + 1))])) _
        exact retI X309 hx Bd.returns (hb hby own_d30_184) hr
      · show Q_cob1 Z x1 kx i cs G1 G3 h0 n0 _ T309.heap _
        rw [e309]
        exact ⟨rfl, N309, rfl⟩
theorem own_d30_83 : decode jdk_89_method_36_code 83 = .ok (.iinc 4 1, 3) := by decide +kernel
theorem own_ef_cob2 (m : MethodId) (x0 : Addr) (x1 : Int32) (x2 : Int32) : entryFrame m #[(.ref x0), (.int x1), (.int x2)] 6 = mkF m 0 #[rv x0, iv x1, iv x2, uu, uu, uu] [] := by first | (simp [entryFrame, mkF, argsToLocals, Value.category]; done) | rfl
def Q_cob2 (Z : State) (x1 : Addr) (kx i : Nat) (cs : List Int32) (G1 : Int32) (G3 : Value) (h0 : Heap) (n0 : Nat) (v : Option Value) (h : Heap) (L : List Loc) : Prop := v = some (.int (Int32.ofNat (i + 1 + 1))) ∧ Fr n0 L ∧ h = h0
set_option maxRecDepth 65536 in
set_option maxHeartbeats 40000000 in
theorem rm_cob2 (l : Launch) (Z : State) (a0 : Array Value) (hw : ∀ d ∈ tables_1, d.before a0 Z = true) (ws : List Jvm.Cond) (x1 : Addr) (kx i : Nat) (cs : List Int32) (G1 : Int32) (G3 : Value) (h0 : Heap) (n0 : Nat) (Z0 : n0 ≤ h0.size) (X00 : Old Z n0 h0) (SX : StrB Z h0 kx x1 cs) (hil : i < cs.length) (hl4 : cs.length ≤ 4) (hP : (i + 1 < cs.length ∧ own_hi (cs.getD i 0) ∧ own_lo (cs.getD (i + 1) 0))) (O2 : Sta Z Z.heap "java/lang/String" "COMPACT_STRINGS" "Z" (.int G1)) (P5 : ¬ (G1 = (0 : Int32))) (O4 : Sta Z Z.heap "jdk/internal/util/Preconditions" "SIOOBE_FORMATTER" "Ljava/util/function/BiFunction;" G3) (rG3 : G3.isRef = true) (OA : Sta Z Z.heap "java/lang/StringUTF16" "$assertionsDisabled" "Z" (.int (1 : Int32))) (OH : Sta Z Z.heap "java/lang/StringUTF16" "HI_BYTE_SHIFT" "I" (.int (0 : Int32))) (OL : Sta Z Z.heap "java/lang/StringUTF16" "LO_BYTE_SHIFT" "I" (.int (8 : Int32))) :
    MetFree l (⟨"java/lang/Character", "offsetByCodePoints", "(Ljava/lang/CharSequence;II)I"⟩ : MethodName) (head1 (Jvm.Cond.code (⟨"java/lang/Character", "offsetByCodePoints", "(Ljava/lang/CharSequence;II)I"⟩ : MethodName) jdk_89_method_36_code 6 (some .int) :: ws) ({ frames := 5, cells := 0, slots := 0, locals := 86 } : Room)) (fun a U => a = #[(.ref x1), (.int (Int32.ofNat i)), (.int (1 : Int32))] ∧ Z.Warmed39 U.vm ∧ U.heap = h0) (fun _ _ _ _ _ => True) (fun _ U o U' => ∃ v L, o = .returned v ∧ Q_cob2 Z x1 kx i cs G1 G3 h0 n0 v U'.heap L ∧ FrameEnd U o U' L ({ frames := 5, cells := 0, slots := 0, locals := 86 } : Room).cells ({ frames := 5, cells := 0, slots := 0, locals := 86 } : Room).slots) := by
  refine MetFree.of_bodySF (plainFor_of_name own_pn_2) hisR ?_
  intro p e s m args below meth c s₁ Bd hml0 hP hK
  obtain ⟨rfl, hZ, hh⟩ := hP
  have hx := Bd.exec
  have hby := Bd.bytes
  have hml : c.maxLocals = 6 := hml0
  have hown : s.vm.findClass "java/lang/Character" = some m.cls := findClass_of_methodNamed Bd.named
  have hnm := (name_of_methodNamed Bd.named Bd.method).1
  have W := own_W hw
  have X0 : Stand p l e ({ frames := 5, cells := 0, slots := 0, locals := 86 } : Room) s m #[(.ref x1), (.int (Int32.ofNat i)), (.int (1 : Int32))] below meth c s₁ [] 0 0 := Stand.of_body Bd
  have e0 : s₁.heap = h0 := by rw [← hh, Bd.state]; rfl
  have N0 := Fr.nil n0
  have pre0 : ∀ tq, Steps p.tables e below (s₁.setTop (mkF m 0 #[rv x1, iv (Int32.ofNat i), iv 1, uu, uu, uu] [])) tq → Steps p.tables e below (s₁.setTop (entryFrame m #[(.ref x1), (.int (Int32.ofNat i)), (.int (1 : Int32))] 6)) tq := fun tq k => castTop (own_ef_cob2 m x1 (Int32.ofNat i) (1 : Int32)) k
  have hln : ∀ d ∈ StrChars.Road.wordsLen, d.before a0 Z = true := fun d hd => hw d ((by decide +kernel : ∀ d ∈ StrChars.Road.wordsLen, d ∈ tables_1) d hd)
  have EX := SX.exa
  have hit : Int32.ofNat i < Int32.ofNat cs.length := (own_ltI (by omega) (by omega)).mpr hil
  obtain ⟨cq311, kq311, q311a, q311b, q311c⟩ := isOf hZ e0 EX
  obtain ⟨_, _, ⟨T311, L311, k311, n311⟩, -, X311, ⟨Lc311, hQ311, l311, y311, z311⟩, st311⟩ := X0.interfaceBack hx (xi := (⟨"java/lang/CharSequence", "length", "()I"⟩ : MethodName)) (y := (⟨"java/lang/String", "length", "()I"⟩ : MethodName)) hown (mvT hZ (W 108 rfl)) (mvT hZ (W 109 rfl)) (mvT hZ (W 110 rfl)) (mvT hZ (W 111 rfl)) (mvT hZ (W 59 rfl)) (mvT hZ (W 112 rfl)) (mvT hZ (W 113 rfl)) (mvT hZ (W 114 rfl)) (by decide) (own_lenS (W := 0) hZ hln (kI := 4) (W 10 rfl) SX (O2.ext X00.2) P5 (by decide) (by decide)) q311a q311b q311c (g := (mkF m 1 #[rv x1, iv (Int32.ofNat i), iv 1, uu, uu, uu] [.ref x1])) rfl (by rw [hml]; rfl) (Steps.refl _) (argsL := []) (rest := []) (lenOf own_pd_7 rfl) rfl own_wt (hb hby own_d30_1) (fun _ _ => ⟨rfl, e0, (by decide : 0 + 0 ≤ _), (by decide : 0 + 0 ≤ _)⟩)
  dsimp only [Pt.U, Pt.locs, Pt.cells, Pt.slots] at X311 l311 y311 z311 st311 hQ311
  subst l311 y311 z311
  obtain ⟨rfl, rfl, e311⟩ := hQ311
  have N311 := Fr.app N0 (Fr.nil n0)
  obtain ⟨cq312, kq312, q312a, q312b, q312c⟩ := isOf hZ e311 EX
  obtain ⟨_, _, ⟨T312, L312, k312, n312⟩, -, X312, ⟨Lc312, hQ312, l312, y312, z312⟩, st312⟩ := X311.interfaceBack hx (xi := (⟨"java/lang/CharSequence", "charAt", "(I)C"⟩ : MethodName)) (y := (⟨"java/lang/String", "charAt", "(I)C"⟩ : MethodName)) hown (mvT hZ (W 115 rfl)) (mvT hZ (W 116 rfl)) (mvT hZ (W 117 rfl)) (mvT hZ (W 118 rfl)) (mvT hZ (W 119 rfl)) (mvT hZ (W 120 rfl)) (mvT hZ (W 121 rfl)) (mvT hZ (W 114 rfl)) (by decide) (own_chS (W := 0) hZ hw (i := i) (n0 := n0) Z0 X00 SX hil rfl O2 P5 O4 rG3 OA OH OL (by decide) (by decide)) q312a q312b q312c (g := (mkF m 52 #[rv x1, iv (Int32.ofNat i), iv 1, iv (Int32.ofNat cs.length), iv (Int32.ofNat (i + 1)), iv 0] [.int (Int32.ofNat i), .ref x1])) rfl (by rw [hml]; rfl) (Steps.refl _) (argsL := [.int (Int32.ofNat i)]) (rest := []) (lenOf own_pd_0 rfl) rfl own_wt (hb hby own_d30_52) (fun _ _ => ⟨rfl, e311, (by decide : 0 + 0 ≤ _), (by decide : 0 + 0 ≤ _)⟩)
  dsimp only [Pt.U, Pt.locs, Pt.cells, Pt.slots] at X312 l312 y312 z312 st312 hQ312
  subst l312 y312 z312
  obtain ⟨rfl, Nq312, e312⟩ := hQ312
  have N312 := Fr.app N311 Nq312
  have G313 : ∀ tq, Steps p.tables e below (T312.setTop (mkF m 57 #[rv x1, iv (Int32.ofNat i), iv 1, iv (Int32.ofNat cs.length), iv (Int32.ofNat (i + 1)), iv 0] [.int (cs.getD i 0)])) tq → Steps p.tables e below (s₁.setTop (mkF m 0 #[rv x1, iv (Int32.ofNat i), iv 1, uu, uu, uu] [])) tq := by
    intro tq kk
    show Steps _ _ _ (s₁.setTop (mkF m 0 #[rv x1, iv (Int32.ofNat i), iv 1, uu, uu, uu] [])) _
    refine XS.aloadN X0.here hx rfl (hb hby own_d30_0) rfl rfl ?_
    show Steps _ _ _ (s₁.setTop (mkF m 1 _ [.ref x1])) _
    refine st311.trans ?_
    show Steps _ _ _ (T311.setTop (mkF m 6 #[rv x1, iv (Int32.ofNat i), iv 1, uu, uu, uu] [.int (Int32.ofNat cs.length)])) _
    refine XS.istoreN X311.here hx rfl (hb hby own_d30_6) rfl (l' := #[rv x1, iv (Int32.ofNat i), iv 1, iv (Int32.ofNat cs.length), uu, uu]) rfl ?_
    show Steps _ _ _ (T311.setTop (mkF m 7 _ [])) _
    refine XS.iloadN X311.here hx rfl (hb hby own_d30_7) rfl ?_
    show Steps _ _ _ (T311.setTop (mkF m 8 _ [.int (Int32.ofNat i)])) _
    refine XS.ifNo X311.here hx rfl (hb hby own_d30_8) rfl ((if0 _ _).trans (flt (own_nn (by omega) : ¬ ((Int32.ofNat i) < (0 : Int32)))).1) ?_
    show Steps _ _ _ (T311.setTop (mkF m 11 _ [])) _
    refine XS.iloadN X311.here hx rfl (hb hby own_d30_11) rfl ?_
    show Steps _ _ _ (T311.setTop (mkF m 12 _ [.int (Int32.ofNat i)])) _
    refine XS.iloadN X311.here hx rfl (hb hby own_d30_12) rfl ?_
    show Steps _ _ _ (T311.setTop (mkF m 13 _ [.int (Int32.ofNat cs.length), .int (Int32.ofNat i)])) _
    refine XS.icmpYes X311.here hx rfl (pc0 := 13) (pc' := 24) rfl (hb hby own_d30_13) rfl (flt (fun q => absurd ((own_ltI (by omega) (by omega)).mp q) (by omega) : ¬ ((Int32.ofNat cs.length) < (Int32.ofNat i)))).2.2.2 (by decide) (by decide) ?_
    show Steps _ _ _ (T311.setTop (mkF m 24 _ [])) _
    refine XS.iloadN X311.here hx rfl (hb hby own_d30_24) rfl ?_
    show Steps _ _ _ (T311.setTop (mkF m 25 _ [.int (Int32.ofNat i)])) _
    refine XS.istore X311.here hx rfl (hb hby own_d30_25) rfl (l' := #[rv x1, iv (Int32.ofNat i), iv 1, iv (Int32.ofNat cs.length), iv (Int32.ofNat i), uu]) rfl ?_
    show Steps _ _ _ (T311.setTop (mkF m 27 #[rv x1, iv (Int32.ofNat i), iv 1, iv (Int32.ofNat cs.length), iv (Int32.ofNat i), uu] [])) _
    refine XS.iloadN X311.here hx rfl (hb hby own_d30_27) rfl ?_
    show Steps _ _ _ (T311.setTop (mkF m 28 _ [.int 1])) _
    refine XS.ifNo X311.here hx rfl (hb hby own_d30_28) rfl ((if0 _ _).trans (flt ((by decide) : ¬ ((1 : Int32) < (0 : Int32)))).1) ?_
    show Steps _ _ _ (T311.setTop (mkF m 31 _ [])) _
    refine XS.iconst X311.here hx rfl (hb hby own_d30_31) ?_
    show Steps _ _ _ (T311.setTop (mkF m 32 _ [.int 0])) _
    refine XS.istore X311.here hx rfl (hb hby own_d30_32) rfl (l' := #[rv x1, iv (Int32.ofNat i), iv 1, iv (Int32.ofNat cs.length), iv (Int32.ofNat i), iv 0]) rfl ?_
    show Steps _ _ _ (T311.setTop (mkF m 34 _ [])) _
    refine XS.iload X311.here hx rfl (hb hby own_d30_34) rfl ?_
    show Steps _ _ _ (T311.setTop (mkF m 36 _ [.int (Int32.ofNat i)])) _
    refine XS.iloadN X311.here hx rfl (hb hby own_d30_36) rfl ?_
    show Steps _ _ _ (T311.setTop (mkF m 37 _ [.int (Int32.ofNat cs.length), .int (Int32.ofNat i)])) _
    refine XS.icmpNo X311.here hx rfl (hb hby own_d30_37) rfl (tlt (hit : (Int32.ofNat i) < (Int32.ofNat cs.length))).2.1 ?_
    show Steps _ _ _ (T311.setTop (mkF m 40 _ [])) _
    refine XS.iload X311.here hx rfl (hb hby own_d30_40) rfl ?_
    show Steps _ _ _ (T311.setTop (mkF m 42 #[rv x1, iv (Int32.ofNat i), iv 1, iv (Int32.ofNat cs.length), iv (Int32.ofNat i), iv 0] [.int 0])) _
    refine XS.iloadN X311.here hx rfl (hb hby own_d30_42) rfl ?_
    show Steps _ _ _ (T311.setTop (mkF m 43 _ [.int 1, .int 0])) _
    refine XS.icmpNo X311.here hx rfl (hb hby own_d30_43) rfl (tlt ((by decide) : (0 : Int32) < (1 : Int32))).2.1 ?_
    show Steps _ _ _ (T311.setTop (mkF m 46 _ [])) _
    refine XS.aloadN X311.here hx rfl (hb hby own_d30_46) rfl rfl ?_
    show Steps _ _ _ (T311.setTop (mkF m 47 _ [.ref x1])) _
    refine XS.iload X311.here hx rfl (hb hby own_d30_47) rfl ?_
    show Steps _ _ _ (T311.setTop (mkF m 49 _ [.int (Int32.ofNat i), .ref x1])) _
    refine XS.iinc X311.here hx rfl (hb hby own_d30_49) rfl (l' := #[rv x1, iv (Int32.ofNat i), iv 1, iv (Int32.ofNat cs.length), iv (Int32.ofNat (i + 1)), iv 0]) (by rw [show Int32.ofNat i + Int32.ofInt 1 = Int32.ofNat (i + 1) from own_one i]; rfl) ?_
    show Steps _ _ _ (T311.setTop (mkF m 52 _ [.int (Int32.ofNat i), .ref x1])) _
    refine st312.trans ?_
    exact kk
  obtain ⟨h2, hh, hlo⟩ := hP
  have hit2 : Int32.ofNat (i + 1) < Int32.ofNat cs.length := (own_ltI (by omega) (by omega)).mpr h2
  obtain ⟨_, _, ⟨T314, L314, k314, n314⟩, -, X314, ⟨Lc314, hQ314, l314, y314, z314⟩, st314⟩ := Jvm.LawKit.callS X312 hx (y := (⟨"java/lang/Character", "isHighSurrogate", "(C)Z"⟩ : MethodName)) hown (mvT hZ (W 134 rfl)) (mvT hZ (W 135 rfl)) (mvT hZ (W 106 rfl)) (mvT hZ (W 136 rfl)) (by decide) (backOf (W := 0) (rm_jhi1 l Z a0 hw [] (cs.getD i 0) h0 n0 Z0 hh) hZ (W 136 rfl) (W 106 rfl) (by decide) (by decide)) (g := (mkF m 57 #[rv x1, iv (Int32.ofNat i), iv 1, iv (Int32.ofNat cs.length), iv (Int32.ofNat (i + 1)), iv 0] [.int (cs.getD i 0)])) rfl (by rw [hml]; rfl) (argsL := [.int (cs.getD i 0)]) (rest := []) (lenOf own_pd_21 rfl) rfl own_wt (hb hby own_d30_57) (fun _ _ => ⟨rfl, e312, (by decide : 0 + 0 ≤ _), (by decide : 0 + 0 ≤ _)⟩)
  dsimp only [Pt.U, Pt.locs, Pt.cells, Pt.slots] at X314 l314 y314 z314 st314 hQ314
  subst l314 y314 z314
  obtain ⟨rfl, Nq314, e314⟩ := hQ314
  have N314 := Fr.app N312 Nq314
  obtain ⟨cq315, kq315, q315a, q315b, q315c⟩ := isOf hZ e314 EX
  obtain ⟨_, _, ⟨T315, L315, k315, n315⟩, -, X315, ⟨Lc315, hQ315, l315, y315, z315⟩, st315⟩ := X314.interfaceBack hx (xi := (⟨"java/lang/CharSequence", "charAt", "(I)C"⟩ : MethodName)) (y := (⟨"java/lang/String", "charAt", "(I)C"⟩ : MethodName)) hown (mvT hZ (W 115 rfl)) (mvT hZ (W 116 rfl)) (mvT hZ (W 117 rfl)) (mvT hZ (W 118 rfl)) (mvT hZ (W 119 rfl)) (mvT hZ (W 120 rfl)) (mvT hZ (W 121 rfl)) (mvT hZ (W 114 rfl)) (by decide) (own_chS (W := 0) hZ hw (i := (i + 1)) (n0 := n0) Z0 X00 SX h2 rfl O2 P5 O4 rG3 OA OH OL (by decide) (by decide)) q315a q315b q315c (g := (mkF m 72 #[rv x1, iv (Int32.ofNat i), iv 1, iv (Int32.ofNat cs.length), iv (Int32.ofNat (i + 1)), iv 0] [.int (Int32.ofNat (i + 1)), .ref x1])) rfl (by rw [hml]; rfl) (Steps.refl _) (argsL := [.int (Int32.ofNat (i + 1))]) (rest := []) (lenOf own_pd_0 rfl) rfl own_wt (hb hby own_d30_72) (fun _ _ => ⟨rfl, e314, (by decide : 0 + 0 ≤ _), (by decide : 0 + 0 ≤ _)⟩)
  dsimp only [Pt.U, Pt.locs, Pt.cells, Pt.slots] at X315 l315 y315 z315 st315 hQ315
  subst l315 y315 z315
  obtain ⟨rfl, Nq315, e315⟩ := hQ315
  have N315 := Fr.app N314 Nq315
  obtain ⟨_, _, ⟨T316, L316, k316, n316⟩, -, X316, ⟨Lc316, hQ316, l316, y316, z316⟩, st316⟩ := Jvm.LawKit.callS X315 hx (y := (⟨"java/lang/Character", "isLowSurrogate", "(C)Z"⟩ : MethodName)) hown (mvT hZ (W 185 rfl)) (mvT hZ (W 183 rfl)) (mvT hZ (W 106 rfl)) (mvT hZ (W 184 rfl)) (by decide) (backOf (W := 0) (rm_jlo1 l Z a0 hw [] (cs.getD (i + 1) 0) h0 n0 Z0 hlo) hZ (W 184 rfl) (W 106 rfl) (by decide) (by decide)) (g := (mkF m 77 #[rv x1, iv (Int32.ofNat i), iv 1, iv (Int32.ofNat cs.length), iv (Int32.ofNat (i + 1)), iv 0] [.int (cs.getD (i + 1) 0)])) rfl (by rw [hml]; rfl) (argsL := [.int (cs.getD (i + 1) 0)]) (rest := []) (lenOf own_pd_21 rfl) rfl own_wt (hb hby own_d30_77) (fun _ _ => ⟨rfl, e315, (by decide : 0 + 0 ≤ _), (by decide : 0 + 0 ≤ _)⟩)
  dsimp only [Pt.U, Pt.locs, Pt.cells, Pt.slots] at X316 l316 y316 z316 st316 hQ316
  subst l316 y316 z316
  obtain ⟨rfl, Nq316, e316⟩ := hQ316
  have N316 := Fr.app N315 Nq316
  have G317 : ∀ tq, Steps p.tables e below (T316.setTop (mkF m 34 #[rv x1, iv (Int32.ofNat i), iv 1, iv (Int32.ofNat cs.length), iv (Int32.ofNat ((i + 1) + 1)), iv 1] [])) tq → Steps p.tables e below (T312.setTop (mkF m 57 #[rv x1, iv (Int32.ofNat i), iv 1, iv (Int32.ofNat cs.length), iv (Int32.ofNat (i + 1)), iv 0] [.int (cs.getD i 0)])) tq := by
    intro tq kk
    show Steps _ _ _ (T312.setTop (mkF m 57 #[rv x1, iv (Int32.ofNat i), iv 1, iv (Int32.ofNat cs.length), iv (Int32.ofNat (i + 1)), iv 0] [.int (cs.getD i 0)])) _
    refine st314 _ ?_
    show Steps _ _ _ (T314.setTop (mkF m 60 #[rv x1, iv (Int32.ofNat i), iv 1, iv (Int32.ofNat cs.length), iv (Int32.ofNat (i + 1)), iv 0] [.int 1])) _
    refine XS.ifNo X314.here hx rfl (hb hby own_d30_60) rfl ((if0 _ _).trans (feq ((by decide) : ¬ ((1 : Int32) = (0 : Int32)))).1) ?_
    show Steps _ _ _ (T314.setTop (mkF m 63 _ [])) _
    refine XS.iload X314.here hx rfl (hb hby own_d30_63) rfl ?_
    show Steps _ _ _ (T314.setTop (mkF m 65 _ [.int (Int32.ofNat (i + 1))])) _
    refine XS.iloadN X314.here hx rfl (hb hby own_d30_65) rfl ?_
    show Steps _ _ _ (T314.setTop (mkF m 66 _ [.int (Int32.ofNat cs.length), .int (Int32.ofNat (i + 1))])) _
    refine XS.icmpNo X314.here hx rfl (hb hby own_d30_66) rfl (tlt (hit2 : (Int32.ofNat (i + 1)) < (Int32.ofNat cs.length))).2.1 ?_
    show Steps _ _ _ (T314.setTop (mkF m 69 _ [])) _
    refine XS.aloadN X314.here hx rfl (hb hby own_d30_69) rfl rfl ?_
    show Steps _ _ _ (T314.setTop (mkF m 70 _ [.ref x1])) _
    refine XS.iload X314.here hx rfl (hb hby own_d30_70) rfl ?_
    show Steps _ _ _ (T314.setTop (mkF m 72 _ [.int (Int32.ofNat (i + 1)), .ref x1])) _
    refine st315.trans ?_
    show Steps _ _ _ (T315.setTop (mkF m 77 #[rv x1, iv (Int32.ofNat i), iv 1, iv (Int32.ofNat cs.length), iv (Int32.ofNat (i + 1)), iv 0] [.int (cs.getD (i + 1) 0)])) _
    refine st316 _ ?_
    show Steps _ _ _ (T316.setTop (mkF m 80 #[rv x1, iv (Int32.ofNat i), iv 1, iv (Int32.ofNat cs.length), iv (Int32.ofNat (i + 1)), iv 0] [.int 1])) _
    refine XS.ifNo X316.here hx rfl (hb hby own_d30_80) rfl ((if0 _ _).trans (feq ((by decide) : ¬ ((1 : Int32) = (0 : Int32)))).1) ?_
    show Steps _ _ _ (T316.setTop (mkF m 83 _ [])) _
    refine XS.iinc X316.here hx rfl (hb hby own_d30_83) rfl (l' := #[rv x1, iv (Int32.ofNat i), iv 1, iv (Int32.ofNat cs.length), iv (Int32.ofNat ((i + 1) + 1)), iv 0]) (by rw [show Int32.ofNat (i + 1) + Int32.ofInt 1 = Int32.ofNat ((i + 1) + 1) from own_one (i + 1)]; rfl) ?_
    show Steps _ _ _ (T316.setTop (mkF m 86 _ [])) _
    refine XS.iinc X316.here hx rfl (hb hby own_d30_86) rfl (l' := #[rv x1, iv (Int32.ofNat i), iv 1, iv (Int32.ofNat cs.length), iv (Int32.ofNat ((i + 1) + 1)), iv 1]) rfl ?_
    show Steps _ _ _ (T316.setTop (mkF m 89 _ [])) _
    refine XS.goto X316.here hx rfl (pc0 := 89) (pc' := 34) rfl (hb hby own_d30_89) (by decide) (by decide) ?_
    exact kk
  by_cases h3 : i + 1 + 1 < cs.length
  · have hit3 : Int32.ofNat (i + 1 + 1) < Int32.ofNat cs.length := (own_ltI (by omega) (by omega)).mpr h3
    obtain ⟨fs, hr, hrun, hended, hW, hsame⟩ := X316.leave (v := some (.int (Int32.ofNat (i + 1 + 1)))) (fun h => by rw [Bd.returns] at h; cases h)
    refine ⟨_, _, pre0 _ (G313 _ (G317 _ (?_))), hrun, hended, _, _, rfl, ?_, ⟨_, rfl⟩, hW, hsame.mono (by decide) (by decide)⟩
    · show Steps _ _ _ (T316.setTop (mkF m 34 #[rv x1, iv (Int32.ofNat i), iv 1, iv (Int32.ofNat cs.length), iv (Int32.ofNat ((i + 1) + 1)), iv 1] [])) _
      refine XS.iload X316.here hx rfl (hb hby own_d30_34) rfl ?_
      show Steps _ _ _ (T316.setTop (mkF m 36 _ [.int (Int32.ofNat ((i + 1) + 1))])) _
      refine XS.iloadN X316.here hx rfl (hb hby own_d30_36) rfl ?_
      show Steps _ _ _ (T316.setTop (mkF m 37 _ [.int (Int32.ofNat cs.length), .int (Int32.ofNat ((i + 1) + 1))])) _
      refine XS.icmpNo X316.here hx rfl (hb hby own_d30_37) rfl (tlt (hit3 : (Int32.ofNat ((i + 1) + 1)) < (Int32.ofNat cs.length))).2.1 ?_
      show Steps _ _ _ (T316.setTop (mkF m 40 _ [])) _
      refine XS.iload X316.here hx rfl (hb hby own_d30_40) rfl ?_
      show Steps _ _ _ (T316.setTop (mkF m 42 _ [.int 1])) _
      refine XS.iloadN X316.here hx rfl (hb hby own_d30_42) rfl ?_
      show Steps _ _ _ (T316.setTop (mkF m 43 _ [.int 1, .int 1])) _
      refine XS.icmpYes X316.here hx rfl (pc0 := 43) (pc' := 92) rfl (hb hby own_d30_43) rfl (flt ((by decide) : ¬ ((1 : Int32) < (1 : Int32)))).2.1 (by decide) (by decide) ?_
      show Steps _ _ _ (T316.setTop (mkF m 92 _ [])) _
      refine XS.iload X316.here hx rfl (hb hby own_d30_92) rfl ?_
      show Steps _ _ _ (T316.setTop (mkF m 94 _ [.int 1])) _
      refine XS.iloadN X316.here hx rfl (hb hby own_d30_94) rfl ?_
      show Steps _ _ _ (T316.setTop (mkF m 95 #[rv x1, iv (Int32.ofNat i), iv 1, iv (Int32.ofNat cs.length), iv (Int32.ofNat ((i + 1) + 1)), iv 1] [.int 1, .int 1])) _
      refine XS.icmpYes X316.here hx rfl (pc0 := 95) (pc' := 106) rfl (hb hby own_d30_95) rfl (flt ((by decide) : ¬ ((1 : Int32) < (1 : Int32)))).2.1 (by decide) (by decide) ?_
      show Steps _ _ _ (T316.setTop (mkF m 106 _ [])) _
      refine XS.goto X316.here hx rfl (pc0 := 106) (pc' := 182) rfl (hb hby own_d30_106) (by decide) (by decide) ?_
      show Steps _ _ _ (T316.setTop (mkF m 182 _ [])) _
      refine XS.iload X316.here hx rfl (hb hby own_d30_182) rfl ?_
      show Steps _ _ _ (T316.setTop (mkF m 184 _ [.int (Int32.ofNat ((i + 1) + 1))])) _
      exact retI X316 hx Bd.returns (hb hby own_d30_184) hr
    · show Q_cob2 Z x1 kx i cs G1 G3 h0 n0 _ T316.heap _
      rw [e316]
      exact ⟨rfl, N316, rfl⟩
  · have hit3 : ¬ Int32.ofNat (i + 1 + 1) < Int32.ofNat cs.length := fun q => h3 ((own_ltI (by omega) (by omega)).mp q)
    obtain ⟨fs, hr, hrun, hended, hW, hsame⟩ := X316.leave (v := some (.int (Int32.ofNat (i + 1 + 1)))) (fun h => by rw [Bd.returns] at h; cases h)
    refine ⟨_, _, pre0 _ (G313 _ (G317 _ (?_))), hrun, hended, _, _, rfl, ?_, ⟨_, rfl⟩, hW, hsame.mono (by decide) (by decide)⟩
    · show Steps _ _ _ (T316.setTop (mkF m 34 #[rv x1, iv (Int32.ofNat i), iv 1, iv (Int32.ofNat cs.length), iv (Int32.ofNat ((i + 1) + 1)), iv 1] [])) _
      refine XS.iload X316.here hx rfl (hb hby own_d30_34) rfl ?_
      show Steps _ _ _ (T316.setTop (mkF m 36 _ [.int (Int32.ofNat ((i + 1) + 1))])) _
      refine XS.iloadN X316.here hx rfl (hb hby own_d30_36) rfl ?_
      show Steps _ _ _ (T316.setTop (mkF m 37 _ [.int (Int32.ofNat cs.length), .int (Int32.ofNat ((i + 1) + 1))])) _
      refine XS.icmpYes X316.here hx rfl (pc0 := 37) (pc' := 92) rfl (hb hby own_d30_37) rfl (flt (hit3 : ¬ ((Int32.ofNat ((i + 1) + 1)) < (Int32.ofNat cs.length)))).2.1 (by decide) (by decide) ?_
      show Steps _ _ _ (T316.setTop (mkF m 92 _ [])) _
      refine XS.iload X316.here hx rfl (hb hby own_d30_92) rfl ?_
      show Steps _ _ _ (T316.setTop (mkF m 94 _ [.int 1])) _
      refine XS.iloadN X316.here hx rfl (hb hby own_d30_94) rfl ?_
      show Steps _ _ _ (T316.setTop (mkF m 95 _ [.int 1, .int 1])) _
      refine XS.icmpYes X316.here hx rfl (pc0 := 95) (pc' := 106) rfl (hb hby own_d30_95) rfl (flt ((by decide) : ¬ ((1 : Int32) < (1 : Int32)))).2.1 (by decide) (by decide) ?_
      show Steps _ _ _ (T316.setTop (mkF m 106 _ [])) _
      refine XS.goto X316.here hx rfl (pc0 := 106) (pc' := 182) rfl (hb hby own_d30_106) (by decide) (by decide) ?_
      show Steps _ _ _ (T316.setTop (mkF m 182 _ [])) _
      refine XS.iload X316.here hx rfl (hb hby own_d30_182) rfl ?_
      show Steps _ _ _ (T316.setTop (mkF m 184 #[rv x1, iv (Int32.ofNat i), iv 1, iv (Int32.ofNat cs.length), iv (Int32.ofNat ((i + 1) + 1)), iv 1] [.int (Int32.ofNat ((i + 1) + 1))])) _
      exact retI X316 hx Bd.returns (hb hby own_d30_184) hr
    · show Q_cob2 Z x1 kx i cs G1 G3 h0 n0 _ T316.heap _
      rw [e316]
      exact ⟨rfl, N316, rfl⟩
theorem own_d13_0 : decode jdk_42_method_60_code 0 = .ok (.aload_n 0, 1) := by decide +kernel
theorem own_d13_1 : decode jdk_42_method_60_code 1 = .ok (.iload_n 1, 1) := by decide +kernel
theorem own_d13_2 : decode jdk_42_method_60_code 2 = .ok (.iload_n 2, 1) := by decide +kernel
theorem own_d13_3 : decode jdk_42_method_60_code 3 = .ok (.invokestatic 517, 3) := by decide +kernel
theorem own_pd_17 : parseMethodDescriptor "(Ljava/lang/CharSequence;II)I" = some ⟨[(.object "java/lang/CharSequence"), .int, .int], some .int⟩ := by decide +kernel
theorem own_d13_6 : decode jdk_42_method_60_code 6 = .ok (.ireturn, 1) := by decide +kernel
theorem own_ef_sob (m : MethodId) (x0 : Addr) (x1 : Int32) (x2 : Int32) : entryFrame m #[(.ref x0), (.int x1), (.int x2)] 3 = mkF m 0 #[rv x0, iv x1, iv x2] [] := by first | (simp [entryFrame, mkF, argsToLocals, Value.category]; done) | rfl
def Q_sob (Z : State) (x1 : Addr) (kx i r : Nat) (cs : List Int32) (G1 : Int32) (G3 : Value) (h0 : Heap) (n0 : Nat) (v : Option Value) (h : Heap) (L : List Loc) : Prop := v = some (.int (Int32.ofNat r)) ∧ Fr n0 L ∧ h = h0
set_option maxRecDepth 65536 in
set_option maxHeartbeats 40000000 in
theorem rm_sob (l : Launch) (Z : State) (a0 : Array Value) (hw : ∀ d ∈ tables_1, d.before a0 Z = true) (ws : List Jvm.Cond) (x1 : Addr) (kx i r : Nat) (cs : List Int32) (G1 : Int32) (G3 : Value) (h0 : Heap) (n0 : Nat) (Z0 : n0 ≤ h0.size) (X00 : Old Z n0 h0) (SX : StrB Z h0 kx x1 cs) (hil : i < cs.length) (hl4 : cs.length ≤ 4) (hP : (r = i + 1 ∧ ¬ (i + 1 < cs.length ∧ own_hi (cs.getD i 0) ∧ own_lo (cs.getD (i + 1) 0))) ∨ (r = i + 1 + 1 ∧ (i + 1 < cs.length ∧ own_hi (cs.getD i 0) ∧ own_lo (cs.getD (i + 1) 0)))) (O2 : Sta Z Z.heap "java/lang/String" "COMPACT_STRINGS" "Z" (.int G1)) (P5 : ¬ (G1 = (0 : Int32))) (O4 : Sta Z Z.heap "jdk/internal/util/Preconditions" "SIOOBE_FORMATTER" "Ljava/util/function/BiFunction;" G3) (rG3 : G3.isRef = true) (OA : Sta Z Z.heap "java/lang/StringUTF16" "$assertionsDisabled" "Z" (.int (1 : Int32))) (OH : Sta Z Z.heap "java/lang/StringUTF16" "HI_BYTE_SHIFT" "I" (.int (0 : Int32))) (OL : Sta Z Z.heap "java/lang/StringUTF16" "LO_BYTE_SHIFT" "I" (.int (8 : Int32))) :
    MetFree l (⟨"java/lang/String", "offsetByCodePoints", "(II)I"⟩ : MethodName) (head1 (Jvm.Cond.code (⟨"java/lang/String", "offsetByCodePoints", "(II)I"⟩ : MethodName) jdk_42_method_60_code 3 (some .int) :: ws) ({ frames := 6, cells := 0, slots := 0, locals := 103 } : Room)) (fun a U => a = #[(.ref x1), (.int (Int32.ofNat i)), (.int (1 : Int32))] ∧ Z.Warmed39 U.vm ∧ U.heap = h0) (fun _ _ _ _ _ => True) (fun _ U o U' => ∃ v L, o = .returned v ∧ Q_sob Z x1 kx i r cs G1 G3 h0 n0 v U'.heap L ∧ FrameEnd U o U' L ({ frames := 6, cells := 0, slots := 0, locals := 103 } : Room).cells ({ frames := 6, cells := 0, slots := 0, locals := 103 } : Room).slots) := by
  refine MetFree.of_bodySF (plainFor_of_name own_pn_4) hisR ?_
  intro p e s m args below meth c s₁ Bd hml0 hP hK
  obtain ⟨rfl, hZ, hh⟩ := hP
  have hx := Bd.exec
  have hby := Bd.bytes
  have hml : c.maxLocals = 3 := hml0
  have hown : s.vm.findClass "java/lang/String" = some m.cls := findClass_of_methodNamed Bd.named
  have hnm := (name_of_methodNamed Bd.named Bd.method).1
  have W := own_W hw
  have X0 : Stand p l e ({ frames := 6, cells := 0, slots := 0, locals := 103 } : Room) s m #[(.ref x1), (.int (Int32.ofNat i)), (.int (1 : Int32))] below meth c s₁ [] 0 0 := Stand.of_body Bd
  have e0 : s₁.heap = h0 := by rw [← hh, Bd.state]; rfl
  have N0 := Fr.nil n0
  have pre0 : ∀ tq, Steps p.tables e below (s₁.setTop (mkF m 0 #[rv x1, iv (Int32.ofNat i), iv 1] [])) tq → Steps p.tables e below (s₁.setTop (entryFrame m #[(.ref x1), (.int (Int32.ofNat i)), (.int (1 : Int32))] 3)) tq := fun tq k => castTop (own_ef_sob m x1 (Int32.ofNat i) (1 : Int32)) k
  rcases hP with ⟨rfl, hP⟩ | ⟨rfl, hP⟩
  · obtain ⟨_, _, ⟨T318, L318, k318, n318⟩, -, X318, ⟨Lc318, hQ318, l318, y318, z318⟩, st318⟩ := Jvm.LawKit.callS X0 hx (y := (⟨"java/lang/Character", "offsetByCodePoints", "(Ljava/lang/CharSequence;II)I"⟩ : MethodName)) hown (mvT hZ (W 104 rfl)) (mvT hZ (W 105 rfl)) (mvT hZ (W 106 rfl)) (mvT hZ (W 107 rfl)) (by decide) (backOf (W := 0) (rm_cob1 l Z a0 hw [] x1 kx i cs G1 G3 h0 n0 Z0 X00 SX hil hl4 hP O2 P5 O4 rG3 OA OH OL) hZ (W 107 rfl) (W 106 rfl) (by decide) (by decide)) (g := (mkF m 3 #[rv x1, iv (Int32.ofNat i), iv 1] [.int 1, .int (Int32.ofNat i), .ref x1])) rfl (by rw [hml]; rfl) (argsL := [.ref x1, .int (Int32.ofNat i), .int 1]) (rest := []) (lenOf own_pd_17 rfl) rfl own_wt (hb hby own_d13_3) (fun _ _ => ⟨rfl, e0, (by decide : 0 + 0 ≤ _), (by decide : 0 + 0 ≤ _)⟩)
    dsimp only [Pt.U, Pt.locs, Pt.cells, Pt.slots] at X318 l318 y318 z318 st318 hQ318
    subst l318 y318 z318
    obtain ⟨rfl, Nq318, e318⟩ := hQ318
    have N318 := Fr.app N0 Nq318
    obtain ⟨fs, hr, hrun, hended, hW, hsame⟩ := X318.leave (v := some (.int (Int32.ofNat (i + 1)))) (fun h => by rw [Bd.returns] at h; cases h)
    refine ⟨_, _, pre0 _ (?_), hrun, hended, _, _, rfl, ?_, ⟨_, rfl⟩, hW, hsame.mono (by decide) (by decide)⟩
    · show Steps _ _ _ (s₁.setTop (mkF m 0 #[rv x1, iv (Int32.ofNat i), iv 1] [])) _
      refine XS.aloadN X0.here hx rfl (hb hby own_d13_0) rfl rfl ?_
      show Steps _ _ _ (s₁.setTop (mkF m 1 _ [.ref x1])) _
      refine XS.iloadN X0.here hx rfl (hb hby own_d13_1) rfl ?_
      show Steps _ _ _ (s₁.setTop (mkF m 2 _ [.int (Int32.ofNat i), .ref x1])) _
      refine XS.iloadN X0.here hx rfl (hb hby own_d13_2) rfl ?_
      show Steps _ _ _ (s₁.setTop (mkF m 3 _ [.int 1, .int (Int32.ofNat i), .ref x1])) _
      refine st318 _ ?_
      show Steps _ _ _ (T318.setTop (mkF m 6 #[rv x1, iv (Int32.ofNat i), iv 1] [.int (Int32.ofNat (i + 1))])) _
      exact retI X318 hx Bd.returns (hb hby own_d13_6) hr
    · show Q_sob Z x1 kx i _ cs G1 G3 h0 n0 _ T318.heap _
      rw [e318]
      exact ⟨rfl, N318, rfl⟩
  · obtain ⟨_, _, ⟨T319, L319, k319, n319⟩, -, X319, ⟨Lc319, hQ319, l319, y319, z319⟩, st319⟩ := Jvm.LawKit.callS X0 hx (y := (⟨"java/lang/Character", "offsetByCodePoints", "(Ljava/lang/CharSequence;II)I"⟩ : MethodName)) hown (mvT hZ (W 104 rfl)) (mvT hZ (W 105 rfl)) (mvT hZ (W 106 rfl)) (mvT hZ (W 107 rfl)) (by decide) (backOf (W := 0) (rm_cob2 l Z a0 hw [] x1 kx i cs G1 G3 h0 n0 Z0 X00 SX hil hl4 hP O2 P5 O4 rG3 OA OH OL) hZ (W 107 rfl) (W 106 rfl) (by decide) (by decide)) (g := (mkF m 3 #[rv x1, iv (Int32.ofNat i), iv 1] [.int 1, .int (Int32.ofNat i), .ref x1])) rfl (by rw [hml]; rfl) (argsL := [.ref x1, .int (Int32.ofNat i), .int 1]) (rest := []) (lenOf own_pd_17 rfl) rfl own_wt (hb hby own_d13_3) (fun _ _ => ⟨rfl, e0, (by decide : 0 + 0 ≤ _), (by decide : 0 + 0 ≤ _)⟩)
    dsimp only [Pt.U, Pt.locs, Pt.cells, Pt.slots] at X319 l319 y319 z319 st319 hQ319
    subst l319 y319 z319
    obtain ⟨rfl, Nq319, e319⟩ := hQ319
    have N319 := Fr.app N0 Nq319
    obtain ⟨fs, hr, hrun, hended, hW, hsame⟩ := X319.leave (v := some (.int (Int32.ofNat (i + 1 + 1)))) (fun h => by rw [Bd.returns] at h; cases h)
    refine ⟨_, _, pre0 _ (?_), hrun, hended, _, _, rfl, ?_, ⟨_, rfl⟩, hW, hsame.mono (by decide) (by decide)⟩
    · show Steps _ _ _ (s₁.setTop (mkF m 0 #[rv x1, iv (Int32.ofNat i), iv 1] [])) _
      refine XS.aloadN X0.here hx rfl (hb hby own_d13_0) rfl rfl ?_
      show Steps _ _ _ (s₁.setTop (mkF m 1 _ [.ref x1])) _
      refine XS.iloadN X0.here hx rfl (hb hby own_d13_1) rfl ?_
      show Steps _ _ _ (s₁.setTop (mkF m 2 _ [.int (Int32.ofNat i), .ref x1])) _
      refine XS.iloadN X0.here hx rfl (hb hby own_d13_2) rfl ?_
      show Steps _ _ _ (s₁.setTop (mkF m 3 _ [.int 1, .int (Int32.ofNat i), .ref x1])) _
      refine st319 _ ?_
      show Steps _ _ _ (T319.setTop (mkF m 6 #[rv x1, iv (Int32.ofNat i), iv 1] [.int (Int32.ofNat (i + 1 + 1))])) _
      exact retI X319 hx Bd.returns (hb hby own_d13_6) hr
    · show Q_sob Z x1 kx i _ cs G1 G3 h0 n0 _ T319.heap _
      rw [e319]
      exact ⟨rfl, N319, rfl⟩
def own_vals (b1 : Int32) (nx : Nat → Nat) (j : Nat) : List Value := (List.range j).map fun i => .int (b1 + Int32.ofNat (nx i))
theorem own_vals_len (b1 : Int32) (nx : Nat → Nat) (j : Nat) : (own_vals b1 nx j).length = j := by simp [own_vals]
theorem own_vals_next (b1 : Int32) (nx : Nat → Nat) (j : Nat) : (own_vals b1 nx j ++ List.replicate 1 (Value.int (0 : Int32))).set j (.int (b1 + Int32.ofNat (nx j))) = own_vals b1 nx (j + 1) := by
  have hl := own_vals_len b1 nx j
  rw [List.set_append, if_neg (by omega), hl, Nat.sub_self]
  simp [own_vals, List.range_succ]
def own_cfg (l : Launch) (Z : State) (n0 : Nat) (cs : List Int32) (nx : Nat → Nat) (k : Nat) : Prop := cs.length ≤ 4 ∧ k ≤ 3 ∧ ((∀ c ∈ cs, ¬ (255 : Int32) < c) → Int32.ofNat cs.length = Int32.ofNat k) ∧ (∀ h0 : Heap, n0 ≤ h0.size → Old Z n0 h0 → ∀ (t : Addr) (kb : ClassId), Arv Z h0 t kb .byte (Int32.ofNat (2 * cs.length)) (StrChars.Road.wideBytes cs) (.int 0) → (∀ c ∈ cs, ¬ c < 0 ∧ ¬ (65535 : Int32) < c) → (∃ c ∈ cs, (255 : Int32) < c) → MetFree l (⟨"java/lang/StringUTF16", "codePointCount", "([BII)I"⟩ : MethodName) (head1 [Jvm.Cond.code (⟨"java/lang/StringUTF16", "codePointCount", "([BII)I"⟩ : MethodName) jdk_52_method_12_code 3 (some .int)] ({ frames := 2, cells := 0, slots := 0, locals := 30 } : Room)) (fun a U => a = #[.ref t, .int 0, .int (Int32.ofNat cs.length)] ∧ Z.Warmed39 U.vm ∧ U.heap = h0) (fun _ _ _ _ _ => True) (fun _ U o U' => ∃ v L, o = .returned v ∧ Q_cnt (Int32.ofNat k) h0 n0 v U'.heap L ∧ FrameEnd U o U' L 0 0)) ∧ nx 0 = 0 ∧ nx k = cs.length ∧ (∀ i, i < k → nx i < cs.length ∧ ((nx (i + 1) = nx i + 1 ∧ ¬ (nx i + 1 < cs.length ∧ own_hi (cs.getD (nx i) 0) ∧ own_lo (cs.getD (nx i + 1) 0))) ∨ (nx (i + 1) = nx i + 1 + 1 ∧ (nx i + 1 < cs.length ∧ own_hi (cs.getD (nx i) 0) ∧ own_lo (cs.getD (nx i + 1) 0)))))
theorem own_d37_0 : decode prog_16_method_6_code 0 = .ok (.aload_n 0, 1) := by decide +kernel
theorem own_d37_1 : decode prog_16_method_6_code 1 = .ok (.getfield 29, 3) := by decide +kernel
theorem own_d37_4 : decode prog_16_method_6_code 4 = .ok (.ifnonnull 64, 3) := by decide +kernel
theorem own_d37_7 : decode prog_16_method_6_code 7 = .ok (.aload_n 0, 1) := by decide +kernel
theorem own_d37_8 : decode prog_16_method_6_code 8 = .ok (.getfield 17, 3) := by decide +kernel
theorem own_d37_11 : decode prog_16_method_6_code 11 = .ok (.iconst 0, 1) := by decide +kernel
theorem own_d37_12 : decode prog_16_method_6_code 12 = .ok (.aload_n 0, 1) := by decide +kernel
theorem own_d37_13 : decode prog_16_method_6_code 13 = .ok (.getfield 17, 3) := by decide +kernel
theorem own_d37_16 : decode prog_16_method_6_code 16 = .ok (.invokevirtual 33, 3) := by decide +kernel
theorem own_d37_19 : decode prog_16_method_6_code 19 = .ok (.invokevirtual 37, 3) := by decide +kernel
theorem own_pd_9 : parseMethodDescriptor "(II)I" = some ⟨[.int, .int], some .int⟩ := by decide +kernel
theorem own_d37_22 : decode prog_16_method_6_code 22 = .ok (.newarray .int, 2) := by decide +kernel
theorem own_d37_24 : decode prog_16_method_6_code 24 = .ok (.astore_n 1, 1) := by decide +kernel
theorem own_d37_25 : decode prog_16_method_6_code 25 = .ok (.iconst 0, 1) := by decide +kernel
theorem own_d37_26 : decode prog_16_method_6_code 26 = .ok (.istore_n 2, 1) := by decide +kernel
theorem own_d37_27 : decode prog_16_method_6_code 27 = .ok (.iconst 0, 1) := by decide +kernel
theorem own_d37_28 : decode prog_16_method_6_code 28 = .ok (.istore_n 3, 1) := by decide +kernel
theorem own_d37_29 : decode prog_16_method_6_code 29 = .ok (.iload_n 3, 1) := by decide +kernel
theorem own_d37_30 : decode prog_16_method_6_code 30 = .ok (.aload_n 0, 1) := by decide +kernel
theorem own_d37_31 : decode prog_16_method_6_code 31 = .ok (.getfield 17, 3) := by decide +kernel
theorem own_d37_34 : decode prog_16_method_6_code 34 = .ok (.invokevirtual 33, 3) := by decide +kernel
theorem own_d37_37 : decode prog_16_method_6_code 37 = .ok (.if_icmp .ge 28, 3) := by decide +kernel
theorem own_d37_40 : decode prog_16_method_6_code 40 = .ok (.aload_n 1, 1) := by decide +kernel
theorem own_d37_41 : decode prog_16_method_6_code 41 = .ok (.iload_n 2, 1) := by decide +kernel
theorem own_d37_42 : decode prog_16_method_6_code 42 = .ok (.iinc 2 1, 3) := by decide +kernel
theorem own_d37_45 : decode prog_16_method_6_code 45 = .ok (.aload_n 0, 1) := by decide +kernel
theorem own_d37_46 : decode prog_16_method_6_code 46 = .ok (.getfield 22, 3) := by decide +kernel
theorem own_d37_49 : decode prog_16_method_6_code 49 = .ok (.iload_n 3, 1) := by decide +kernel
theorem own_d37_50 : decode prog_16_method_6_code 50 = .ok (.iadd, 1) := by decide +kernel
theorem own_d37_51 : decode prog_16_method_6_code 51 = .ok (.iastore, 1) := by decide +kernel
theorem own_d37_52 : decode prog_16_method_6_code 52 = .ok (.aload_n 0, 1) := by decide +kernel
theorem own_d37_53 : decode prog_16_method_6_code 53 = .ok (.getfield 17, 3) := by decide +kernel
theorem own_d37_56 : decode prog_16_method_6_code 56 = .ok (.iload_n 3, 1) := by decide +kernel
theorem own_d37_57 : decode prog_16_method_6_code 57 = .ok (.iconst 1, 1) := by decide +kernel
theorem own_d37_58 : decode prog_16_method_6_code 58 = .ok (.invokevirtual 41, 3) := by decide +kernel
theorem own_d37_61 : decode prog_16_method_6_code 61 = .ok (.istore_n 3, 1) := by decide +kernel
theorem own_d37_62 : decode prog_16_method_6_code 62 = .ok (.goto (-33), 3) := by decide +kernel
theorem own_d37_65 : decode prog_16_method_6_code 65 = .ok (.goto 14, 3) := by decide +kernel
theorem own_d37_79 : decode prog_16_method_6_code 79 = .ok (.aload_n 1, 1) := by decide +kernel
theorem own_d37_80 : decode prog_16_method_6_code 80 = .ok (.areturn, 1) := by decide +kernel
theorem own_ef_mt (m : MethodId) (x0 : Addr) : entryFrame m #[(.ref x0)] 4 = mkF m 0 #[rv x0, uu, uu, uu] [] := by first | (simp [entryFrame, mkF, argsToLocals, Value.category]; done) | rfl
def Q_mt (Z : State) (o1 x1 : Addr) (kx : Nat) (b1 G1 : Int32) (G3 : Value) (k : Nat) (nx : Nat → Nat) (cs : List Int32) (h0 : Heap) (n0 : Nat) (v : Option Value) (h : Heap) (L : List Loc) : Prop := ∃ b kb, v = some (.ref b) ∧ Fr n0 L ∧ Keep h0 h [] ∧ h0.size ≤ b ∧ Arv Z h b kb .int (Int32.ofNat k) (own_vals b1 nx k) (.int (0 : Int32))
set_option maxRecDepth 65536 in
set_option maxHeartbeats 40000000 in
theorem rm_mt (l : Launch) (Z : State) (a0 : Array Value) (hw : ∀ d ∈ tables_1, d.before a0 Z = true) (ws : List Jvm.Cond) (o1 x1 : Addr) (kx : Nat) (b1 G1 : Int32) (G3 : Value) (k : Nat) (nx : Nat → Nat) (cs : List Int32) (h0 : Heap) (n0 : Nat) (Z0 : n0 ≤ h0.size) (X00 : Old Z n0 h0) (F1 : Fld Z h0 o1 "com/example/shush/shush/Occurrence" "word" "Ljava/lang/String;" (.ref x1)) (F2 : Fld Z h0 o1 "com/example/shush/shush/Occurrence" "begin" "I" (.int b1)) (F3 : Fld Z h0 o1 "com/example/shush/shush/Occurrence" "matched" "[I" .null) (SX0 : StrB Z h0 kx x1 cs) (M : own_cfg l Z n0 cs nx k) (O2 : Sta Z Z.heap "java/lang/String" "COMPACT_STRINGS" "Z" (.int G1)) (P5 : ¬ (G1 = (0 : Int32))) (O4 : Sta Z Z.heap "jdk/internal/util/Preconditions" "SIOOBE_FORMATTER" "Ljava/util/function/BiFunction;" G3) (rG3 : G3.isRef = true) (OA : Sta Z Z.heap "java/lang/StringUTF16" "$assertionsDisabled" "Z" (.int (1 : Int32))) (OH : Sta Z Z.heap "java/lang/StringUTF16" "HI_BYTE_SHIFT" "I" (.int (0 : Int32))) (OL : Sta Z Z.heap "java/lang/StringUTF16" "LO_BYTE_SHIFT" "I" (.int (8 : Int32))) :
    MetFree l (⟨"com/example/shush/shush/Occurrence", "matched", "()[I"⟩ : MethodName) (head1 (Jvm.Cond.code (⟨"com/example/shush/shush/Occurrence", "matched", "()[I"⟩ : MethodName) prog_16_method_6_code 4 (some (.array .int)) :: ws) ({ frames := 7, cells := 1, slots := 3, locals := 117 } : Room)) (fun a U => a = #[(.ref o1)] ∧ Z.Warmed39 U.vm ∧ U.heap = h0) (fun _ _ _ _ _ => True) (fun _ U o U' => ∃ v L, o = .returned v ∧ Q_mt Z o1 x1 kx b1 G1 G3 k nx cs h0 n0 v U'.heap L ∧ FrameEnd U o U' L ({ frames := 7, cells := 1, slots := 3, locals := 117 } : Room).cells ({ frames := 7, cells := 1, slots := 3, locals := 117 } : Room).slots) := by
  refine MetFree.of_bodySF (plainFor_of_name own_pn_0) hisR ?_
  intro p e s m args below meth c s₁ Bd hml0 hP hK
  obtain ⟨rfl, hZ, hh⟩ := hP
  have hx := Bd.exec
  have hby := Bd.bytes
  have hml : c.maxLocals = 4 := hml0
  have hown : s.vm.findClass "com/example/shush/shush/Occurrence" = some m.cls := findClass_of_methodNamed Bd.named
  have hnm := (name_of_methodNamed Bd.named Bd.method).1
  have W := own_W hw
  have X0 : Stand p l e ({ frames := 7, cells := 1, slots := 3, locals := 117 } : Room) s m #[(.ref o1)] below meth c s₁ [] 0 0 := Stand.of_body Bd
  have e0 : s₁.heap = h0 := by rw [← hh, Bd.state]; rfl
  have N0 := Fr.nil n0
  have pre0 : ∀ tq, Steps p.tables e below (s₁.setTop (mkF m 0 #[rv o1, uu, uu, uu] [])) tq → Steps p.tables e below (s₁.setTop (entryFrame m #[(.ref o1)] 4)) tq := fun tq k => castTop (own_ef_mt m o1) k
  have K320 : Keep h0 h0 [] := Keep.refl h0 []
  obtain ⟨hl4, hk3, hL, U0, hs0, hsk, hst⟩ := M
  have U := U0 h0 Z0 X00
  have hln : ∀ d ∈ StrChars.Road.wordsLen, d.before a0 Z = true := fun d hd => hw d ((by decide +kernel : ∀ d ∈ StrChars.Road.wordsLen, d ∈ tables_1) d hd)
  have SX := SX0.now
  have EX := SX.exa
  obtain ⟨T321, X321, e321, st321⟩ := getF X0 hx hZ hown (host := "") (Or.inl (W 50 rfl)) Via.refl e0 F3 (g := (mkF m 1 #[rv o1, uu, uu, uu] [.ref o1])) rfl rfl (hb hby own_d37_1)
  obtain ⟨T322, X322, e322, st322⟩ := getF X321 hx hZ hown (host := "") (Or.inl (W 44 rfl)) Via.refl e321 F1 (g := (mkF m 8 #[rv o1, uu, uu, uu] [.ref o1])) rfl rfl (hb hby own_d37_8)
  obtain ⟨T323, X323, e323, st323⟩ := getF X322 hx hZ hown (host := "") (Or.inl (W 44 rfl)) Via.refl e322 F1 (g := (mkF m 13 #[rv o1, uu, uu, uu] [.ref o1, .int 0, .ref x1])) rfl rfl (hb hby own_d37_13)
  obtain ⟨cq324, kq324, q324a, q324b, q324c⟩ := isOf hZ e323 EX
  obtain ⟨_, _, ⟨T324, L324, k324, n324⟩, -, X324, ⟨Lc324, hQ324, l324, y324, z324⟩, st324⟩ := X323.virtualBack hx (y := (⟨"java/lang/String", "length", "()I"⟩ : MethodName)) (z := (⟨"java/lang/String", "length", "()I"⟩ : MethodName)) hown (mvT hZ (W 57 rfl)) (mvT hZ (W 58 rfl)) (notFace_of_selects (args := #[]) (mvT hZ (W 60 rfl))) (mvT hZ (W 60 rfl)) (mvT hZ (W 59 rfl)) (by decide) (own_lenS (W := 2) hZ hln (kI := 4) (W 10 rfl) SX (O2.ext X00.2) P5 (by decide) (by decide)) q324a q324c (g := (mkF m 16 #[rv o1, uu, uu, uu] [.ref x1, .int 0, .ref x1])) rfl (by rw [hml]; rfl) (Steps.refl _) (argsL := []) (rest := [.int 0, .ref x1]) (lenOf own_pd_7 rfl) rfl own_wt (hb hby own_d37_16) (fun _ _ => ⟨rfl, e323, (by decide : 0 + 0 ≤ _), (by decide : 0 + 0 ≤ _)⟩)
  dsimp only [Pt.U, Pt.locs, Pt.cells, Pt.slots] at X324 l324 y324 z324 st324 hQ324
  subst l324 y324 z324
  obtain ⟨rfl, rfl, e324⟩ := hQ324
  have N324 := Fr.app N0 (Fr.nil n0)
  obtain ⟨cq325, kq325, q325a, q325b, q325c⟩ := isOf hZ e324 EX
  obtain ⟨_, _, ⟨T325, L325, k325, n325⟩, -, X325, ⟨Lc325, hQ325, l325, y325, z325⟩, st325⟩ := X324.virtualBack hx (y := (⟨"java/lang/String", "codePointCount", "(II)I"⟩ : MethodName)) (z := (⟨"java/lang/String", "codePointCount", "(II)I"⟩ : MethodName)) hown (mvT hZ (W 68 rfl)) (mvT hZ (W 69 rfl)) (notFace_of_selects (args := #[]) (mvT hZ (W 71 rfl))) (mvT hZ (W 71 rfl)) (mvT hZ (W 70 rfl)) (by decide) (backOf (W := 0) (rm_scp l Z a0 hw [] x1 _ G1 (Int32.ofNat k) cs h0 n0 Z0 X00 SX hl4 hL U O2 P5) hZ (W 72 rfl) (W 11 rfl) (by decide) (by decide)) q325a q325c (g := (mkF m 19 #[rv o1, uu, uu, uu] [.int (Int32.ofNat cs.length), .int 0, .ref x1])) rfl (by rw [hml]; rfl) (Steps.refl _) (argsL := [.int 0, .int (Int32.ofNat cs.length)]) (rest := []) (lenOf own_pd_9 rfl) rfl own_wt (hb hby own_d37_19) (fun _ _ => ⟨rfl, e324, (by decide : 0 + 0 ≤ _), (by decide : 0 + 0 ≤ _)⟩)
  dsimp only [Pt.U, Pt.locs, Pt.cells, Pt.slots] at X325 l325 y325 z325 st325 hQ325
  subst l325 y325 z325
  obtain ⟨rfl, Nq325, e325⟩ := hQ325
  have N325 := Fr.app N324 Nq325
  obtain ⟨T326, h326, k326, X326, e326, E326, A326, st326⟩ := newP X325 hx hZ (W 30 rfl) e325 (g := (mkF m 22 #[rv o1, uu, uu, uu] [.int (Int32.ofNat k)])) rfl (hb hby own_d37_22) rfl (own_nn (by omega)) (cap := 3) (by rw [own_n32 (by omega)]; omega) (by decide) (by decide) (by decide)
  obtain ⟨b326, g326⟩ : ∃ z, z = h0.size := ⟨_, rfl⟩
  rw [← g326] at A326 st326
  have g327 : n0 ≤ b326 := Nat.le_trans Z0 (Nat.le_of_eq g326.symm)
  have g328 : h0.size ≤ b326 := Nat.le_trans K320.1 (Nat.le_of_eq g326.symm)
  have Z329 : n0 ≤ h326.size := Nat.le_trans Z0 E326.1
  have O330 : Old Z n0 h326 := X00.ext E326
  have K331 : Keep h0 h326 [] := K320.ext E326
  have V326 : Arv Z h326 b326 k326 .int (Int32.ofNat k) [] (.int (0 : Int32)) := Arv.new A326 (own_nn (by omega))
  have G332 : ∀ tq, Steps p.tables e below (T326.setTop (mkF m 29 #[rv o1, rv b326, iv 0, iv 0] [])) tq → Steps p.tables e below (s₁.setTop (mkF m 0 #[rv o1, uu, uu, uu] [])) tq := by
    intro tq kk
    show Steps _ _ _ (s₁.setTop (mkF m 0 #[rv o1, uu, uu, uu] [])) _
    refine XS.aloadN X0.here hx rfl (hb hby own_d37_0) rfl rfl ?_
    show Steps _ _ _ (s₁.setTop (mkF m 1 _ [.ref o1])) _
    refine st321 _ ?_
    show Steps _ _ _ (T321.setTop (mkF m 4 #[rv o1, uu, uu, uu] [.null])) _
    refine XS.ifnonnullNo X321.here hx rfl (hb hby own_d37_4) rfl ?_
    show Steps _ _ _ (T321.setTop (mkF m 7 _ [])) _
    refine XS.aloadN X321.here hx rfl (hb hby own_d37_7) rfl rfl ?_
    show Steps _ _ _ (T321.setTop (mkF m 8 _ [.ref o1])) _
    refine st322 _ ?_
    show Steps _ _ _ (T322.setTop (mkF m 11 #[rv o1, uu, uu, uu] [.ref x1])) _
    refine XS.iconst X322.here hx rfl (hb hby own_d37_11) ?_
    show Steps _ _ _ (T322.setTop (mkF m 12 _ [.int 0, .ref x1])) _
    refine XS.aloadN X322.here hx rfl (hb hby own_d37_12) rfl rfl ?_
    show Steps _ _ _ (T322.setTop (mkF m 13 _ [.ref o1, .int 0, .ref x1])) _
    refine st323 _ ?_
    show Steps _ _ _ (T323.setTop (mkF m 16 #[rv o1, uu, uu, uu] [.ref x1, .int 0, .ref x1])) _
    refine st324.trans ?_
    show Steps _ _ _ (T324.setTop (mkF m 19 #[rv o1, uu, uu, uu] [.int (Int32.ofNat cs.length), .int 0, .ref x1])) _
    refine st325.trans ?_
    show Steps _ _ _ (T325.setTop (mkF m 22 #[rv o1, uu, uu, uu] [.int (Int32.ofNat k)])) _
    refine st326 _ ?_
    show Steps _ _ _ (T326.setTop (mkF m 24 #[rv o1, uu, uu, uu] [.ref b326])) _
    refine XS.astoreN X326.here hx rfl (hb hby own_d37_24) rfl rfl (l' := #[rv o1, rv b326, uu, uu]) rfl ?_
    show Steps _ _ _ (T326.setTop (mkF m 25 _ [])) _
    refine XS.iconst X326.here hx rfl (hb hby own_d37_25) ?_
    show Steps _ _ _ (T326.setTop (mkF m 26 _ [.int 0])) _
    refine XS.istoreN X326.here hx rfl (hb hby own_d37_26) rfl (l' := #[rv o1, rv b326, iv 0, uu]) rfl ?_
    show Steps _ _ _ (T326.setTop (mkF m 27 _ [])) _
    refine XS.iconst X326.here hx rfl (hb hby own_d37_27) ?_
    show Steps _ _ _ (T326.setTop (mkF m 28 _ [.int 0])) _
    refine XS.istoreN X326.here hx rfl (hb hby own_d37_28) rfl (l' := #[rv o1, rv b326, iv 0, iv 0]) rfl ?_
    exact kk
  have f333 := (F1.ext E326)
  have f334 := (F2.ext E326)
  have f335 := (SX.ext E326)
  have hne : o1 ≠ b326 := (Nat.ne_of_lt (Nat.lt_of_lt_of_le F1.lt (Nat.le_of_eq g326.symm)))
  have loop : ∀ (d j : Nat) (T : State) (locs : List Loc) (h : Heap), j + d = k → Stand p l e ({ frames := 7, cells := 1, slots := 3, locals := 117 } : Room) s m #[.ref o1] below meth c T locs 1 3 → T.heap = h → Fr n0 locs → n0 ≤ h.size → Old Z n0 h → Keep h326 h [b326] → Arv Z h b326 k326 .int (Int32.ofNat k) (own_vals b1 nx j) (.int (0 : Int32)) →
      ∃ (T' : State) (locs' : List Loc) (h' : Heap), Stand p l e ({ frames := 7, cells := 1, slots := 3, locals := 117 } : Room) s m #[.ref o1] below meth c T' locs' 1 3 ∧ T'.heap = h' ∧ Fr n0 locs' ∧ Keep h326 h' [b326] ∧ Arv Z h' b326 k326 .int (Int32.ofNat k) (own_vals b1 nx k) (.int (0 : Int32)) ∧ (∀ tgt, Steps p.tables e below (T'.setTop (mkF m 65 #[rv o1, rv b326, iv (Int32.ofNat k), iv (Int32.ofNat (nx k))] [])) tgt → Steps p.tables e below (T.setTop (mkF m 29 #[rv o1, rv b326, iv (Int32.ofNat j), iv (Int32.ofNat (nx j))] [])) tgt) := by
    intro d
    induction d with
    | zero =>
      intro j T locs h hj XT eT NT ZT OT KT VT
      have hjk : j = k := by omega
      subst hjk
      have FWt := f333.keep KT (ninS hne nin0)
      have FBt := f334.keep KT (ninS hne nin0)
      have SXt := f335.keep KT (allS g328 all0)
      have EXt := SXt.exa
      obtain ⟨T336, X336, e336, st336⟩ := getF XT hx hZ hown (host := "") (Or.inl (W 44 rfl)) Via.refl eT FWt (g := (mkF m 31 #[rv o1, rv b326, iv (Int32.ofNat j), iv (Int32.ofNat (nx j))] [.ref o1, .int (Int32.ofNat (nx j))])) rfl rfl (hb hby own_d37_31)
      obtain ⟨cq337, kq337, q337a, q337b, q337c⟩ := isOf hZ e336 EXt
      obtain ⟨_, _, ⟨T337, L337, k337, n337⟩, -, X337, ⟨Lc337, hQ337, l337, y337, z337⟩, st337⟩ := X336.virtualBack hx (y := (⟨"java/lang/String", "length", "()I"⟩ : MethodName)) (z := (⟨"java/lang/String", "length", "()I"⟩ : MethodName)) hown (mvT hZ (W 57 rfl)) (mvT hZ (W 58 rfl)) (notFace_of_selects (args := #[]) (mvT hZ (W 60 rfl))) (mvT hZ (W 60 rfl)) (mvT hZ (W 59 rfl)) (by decide) (own_lenS (W := 1) hZ hln (kI := 4) (W 10 rfl) SXt (O2.ext OT.2) P5 (by decide) (by decide)) q337a q337c (g := (mkF m 34 #[rv o1, rv b326, iv (Int32.ofNat j), iv (Int32.ofNat (nx j))] [.ref x1, .int (Int32.ofNat (nx j))])) rfl (by rw [hml]; rfl) (Steps.refl _) (argsL := []) (rest := [.int (Int32.ofNat (nx j))]) (lenOf own_pd_7 rfl) rfl own_wt (hb hby own_d37_34) (fun _ _ => ⟨rfl, e336, (by decide : 1 + 0 ≤ _), (by decide : 3 + 0 ≤ _)⟩)
      dsimp only [Pt.U, Pt.locs, Pt.cells, Pt.slots] at X337 l337 y337 z337 st337 hQ337
      subst l337 y337 z337
      obtain ⟨rfl, rfl, e337⟩ := hQ337
      have N337 := Fr.app NT (Fr.nil n0)
      have G338 : ∀ tq, Steps p.tables e below (T337.setTop (mkF m 65 #[rv o1, rv b326, iv (Int32.ofNat j), iv (Int32.ofNat (nx j))] [])) tq → Steps p.tables e below (T.setTop (mkF m 29 #[rv o1, rv b326, iv (Int32.ofNat j), iv (Int32.ofNat (nx j))] [])) tq := by
        intro tq kk
        show Steps _ _ _ (T.setTop (mkF m 29 #[rv o1, rv b326, iv (Int32.ofNat j), iv (Int32.ofNat (nx j))] [])) _
        refine XS.iloadN XT.here hx rfl (hb hby own_d37_29) rfl ?_
        show Steps _ _ _ (T.setTop (mkF m 30 _ [.int (Int32.ofNat (nx j))])) _
        refine XS.aloadN XT.here hx rfl (hb hby own_d37_30) rfl rfl ?_
        show Steps _ _ _ (T.setTop (mkF m 31 _ [.ref o1, .int (Int32.ofNat (nx j))])) _
        refine st336 _ ?_
        show Steps _ _ _ (T336.setTop (mkF m 34 #[rv o1, rv b326, iv (Int32.ofNat j), iv (Int32.ofNat (nx j))] [.ref x1, .int (Int32.ofNat (nx j))])) _
        refine st337.trans ?_
        show Steps _ _ _ (T337.setTop (mkF m 37 #[rv o1, rv b326, iv (Int32.ofNat j), iv (Int32.ofNat (nx j))] [.int (Int32.ofNat cs.length), .int (Int32.ofNat (nx j))])) _
        refine XS.icmpYes X337.here hx rfl (pc0 := 37) (pc' := 65) rfl (hb hby own_d37_37) rfl (flt (by rw [hsk]; exact Int32.lt_irrefl : ¬ ((Int32.ofNat (nx j)) < (Int32.ofNat cs.length)))).2.1 (by decide) (by decide) ?_
        exact kk
      exact ⟨T337, _, h, X337, e337, N337, KT, VT, fun tgt kk => G338 _ kk⟩
    | succ d ih =>
      intro j T locs h hj XT eT NT ZT OT KT VT
      have hjk : j < k := by omega
      obtain ⟨hjl, hjn⟩ := hst j hjk
      have hit : Int32.ofNat (nx j) < Int32.ofNat cs.length := (own_ltI (by omega) (by omega)).mpr hjl
      have hjt : Int32.ofNat j < Int32.ofNat k := (own_ltI (by omega) (by omega)).mpr hjk
      have FWt := f333.keep KT (ninS hne nin0)
      have FBt := f334.keep KT (ninS hne nin0)
      have SXt := f335.keep KT (allS g328 all0)
      have EXt := SXt.exa
      have VP := VT.pad (pad_rep _ (.int (0 : Int32)) 1)
      obtain ⟨clD, ArD, aqD, aSD, aND, aHD, aGD⟩ := id VP
      obtain ⟨T339, X339, e339, st339⟩ := getF XT hx hZ hown (host := "") (Or.inl (W 44 rfl)) Via.refl eT FWt (g := (mkF m 31 #[rv o1, rv b326, iv (Int32.ofNat j), iv (Int32.ofNat (nx j))] [.ref o1, .int (Int32.ofNat (nx j))])) rfl rfl (hb hby own_d37_31)
      obtain ⟨cq340, kq340, q340a, q340b, q340c⟩ := isOf hZ e339 EXt
      obtain ⟨_, _, ⟨T340, L340, k340, n340⟩, -, X340, ⟨Lc340, hQ340, l340, y340, z340⟩, st340⟩ := X339.virtualBack hx (y := (⟨"java/lang/String", "length", "()I"⟩ : MethodName)) (z := (⟨"java/lang/String", "length", "()I"⟩ : MethodName)) hown (mvT hZ (W 57 rfl)) (mvT hZ (W 58 rfl)) (notFace_of_selects (args := #[]) (mvT hZ (W 60 rfl))) (mvT hZ (W 60 rfl)) (mvT hZ (W 59 rfl)) (by decide) (own_lenS (W := 1) hZ hln (kI := 4) (W 10 rfl) SXt (O2.ext OT.2) P5 (by decide) (by decide)) q340a q340c (g := (mkF m 34 #[rv o1, rv b326, iv (Int32.ofNat j), iv (Int32.ofNat (nx j))] [.ref x1, .int (Int32.ofNat (nx j))])) rfl (by rw [hml]; rfl) (Steps.refl _) (argsL := []) (rest := [.int (Int32.ofNat (nx j))]) (lenOf own_pd_7 rfl) rfl own_wt (hb hby own_d37_34) (fun _ _ => ⟨rfl, e339, (by decide : 1 + 0 ≤ _), (by decide : 3 + 0 ≤ _)⟩)
      dsimp only [Pt.U, Pt.locs, Pt.cells, Pt.slots] at X340 l340 y340 z340 st340 hQ340
      subst l340 y340 z340
      obtain ⟨rfl, rfl, e340⟩ := hQ340
      have N340 := Fr.app NT (Fr.nil n0)
      obtain ⟨T341, X341, e341, st341⟩ := getF X340 hx hZ hown (host := "") (Or.inl (W 46 rfl)) Via.refl e340 FBt (g := (mkF m 46 #[rv o1, rv b326, iv (Int32.ofNat (j + 1)), iv (Int32.ofNat (nx j))] [.ref o1, .int (Int32.ofNat j), .ref b326])) rfl rfl (hb hby own_d37_46)
      obtain ⟨T342, h342, X342, e342, W342, st342⟩ := stI X341 hx hZ e341 ArD (j := Int32.ofNat j) (inb_of aSD ⟨own_nn (n := j) (by omega), hjt⟩) (g := (mkF m 51 #[rv o1, rv b326, iv (Int32.ofNat (j + 1)), iv (Int32.ofNat (nx j))] [.int (b1 + (Int32.ofNat (nx j))), .int (Int32.ofNat j), .ref b326])) rfl rfl (hb hby own_d37_51)
      have N342 := Fr.snoc X342 N340 g327
      have Vx := Arv.set ArD aqD aSD aND aHD aGD rfl W342 j (own_n32 (by omega)) (by rw [List.length_append, own_vals_len, List.length_replicate]; omega)
      rw [own_vals_next b1 nx j] at Vx
      have KT2 := KT.wr W342 (Or.inl (by simp))
      have Z343 : n0 ≤ h342.size := Nat.le_trans ZT (Keep.of_wr W342).1
      have O344 : Old Z n0 h342 := OT.wr W342 g327
      have f345 := (FWt.other W342 (Or.inl hne))
      obtain ⟨T346, X346, e346, st346⟩ := getF X342 hx hZ hown (host := "") (Or.inl (W 44 rfl)) Via.refl e342 f345 (g := (mkF m 53 #[rv o1, rv b326, iv (Int32.ofNat (j + 1)), iv (Int32.ofNat (nx j))] [.ref o1])) rfl rfl (hb hby own_d37_53)
      have f347 := (SXt.wr W342 g328)
      have f349 := (EXt.wr W342)
      obtain ⟨cq348, kq348, q348a, q348b, q348c⟩ := isOf hZ e346 f349
      obtain ⟨_, _, ⟨T348, L348, k348, n348⟩, -, X348, ⟨Lc348, hQ348, l348, y348, z348⟩, st348⟩ := X346.virtualBack hx (y := (⟨"java/lang/String", "offsetByCodePoints", "(II)I"⟩ : MethodName)) (z := (⟨"java/lang/String", "offsetByCodePoints", "(II)I"⟩ : MethodName)) hown (mvT hZ (W 99 rfl)) (mvT hZ (W 100 rfl)) (notFace_of_selects (args := #[]) (mvT hZ (W 102 rfl))) (mvT hZ (W 102 rfl)) (mvT hZ (W 101 rfl)) (by decide) (backOf (W := 0) (rm_sob l Z a0 hw [] x1 _ (nx j) (nx (j + 1)) cs G1 G3 h342 n0 Z343 O344 f347 hjl hl4 hjn O2 P5 O4 rG3 OA OH OL) hZ (W 103 rfl) (W 11 rfl) (by decide) (by decide)) q348a q348c (g := (mkF m 58 #[rv o1, rv b326, iv (Int32.ofNat (j + 1)), iv (Int32.ofNat (nx j))] [.int 1, .int (Int32.ofNat (nx j)), .ref x1])) rfl (by rw [hml]; rfl) (Steps.refl _) (argsL := [.int (Int32.ofNat (nx j)), .int 1]) (rest := []) (lenOf own_pd_9 rfl) rfl own_wt (hb hby own_d37_58) (fun _ _ => ⟨rfl, e346, (by decide : 1 + 0 ≤ _), (by decide : 3 + 0 ≤ _)⟩)
      dsimp only [Pt.U, Pt.locs, Pt.cells, Pt.slots] at X348 l348 y348 z348 st348 hQ348
      subst l348 y348 z348
      obtain ⟨rfl, Nq348, e348⟩ := hQ348
      have N348 := Fr.app N342 Nq348
      have G350 : ∀ tq, Steps p.tables e below (T348.setTop (mkF m 29 #[rv o1, rv b326, iv (Int32.ofNat (j + 1)), iv (Int32.ofNat (nx (j + 1)))] [])) tq → Steps p.tables e below (T.setTop (mkF m 29 #[rv o1, rv b326, iv (Int32.ofNat j), iv (Int32.ofNat (nx j))] [])) tq := by
        intro tq kk
        show Steps _ _ _ (T.setTop (mkF m 29 #[rv o1, rv b326, iv (Int32.ofNat j), iv (Int32.ofNat (nx j))] [])) _
        refine XS.iloadN XT.here hx rfl (hb hby own_d37_29) rfl ?_
        show Steps _ _ _ (T.setTop (mkF m 30 _ [.int (Int32.ofNat (nx j))])) _
        refine XS.aloadN XT.here hx rfl (hb hby own_d37_30) rfl rfl ?_
        show Steps _ _ _ (T.setTop (mkF m 31 _ [.ref o1, .int (Int32.ofNat (nx j))])) _
        refine st339 _ ?_
        show Steps _ _ _ (T339.setTop (mkF m 34 #[rv o1, rv b326, iv (Int32.ofNat j), iv (Int32.ofNat (nx j))] [.ref x1, .int (Int32.ofNat (nx j))])) _
        refine st340.trans ?_
        show Steps _ _ _ (T340.setTop (mkF m 37 #[rv o1, rv b326, iv (Int32.ofNat j), iv (Int32.ofNat (nx j))] [.int (Int32.ofNat cs.length), .int (Int32.ofNat (nx j))])) _
        refine XS.icmpNo X340.here hx rfl (hb hby own_d37_37) rfl (tlt (hit : (Int32.ofNat (nx j)) < (Int32.ofNat cs.length))).2.1 ?_
        show Steps _ _ _ (T340.setTop (mkF m 40 _ [])) _
        refine XS.aloadN X340.here hx rfl (hb hby own_d37_40) rfl rfl ?_
        show Steps _ _ _ (T340.setTop (mkF m 41 _ [.ref b326])) _
        refine XS.iloadN X340.here hx rfl (hb hby own_d37_41) rfl ?_
        show Steps _ _ _ (T340.setTop (mkF m 42 _ [.int (Int32.ofNat j), .ref b326])) _
        refine XS.iinc X340.here hx rfl (hb hby own_d37_42) rfl (l' := #[rv o1, rv b326, iv (Int32.ofNat (j + 1)), iv (Int32.ofNat (nx j))]) (by rw [show Int32.ofNat j + Int32.ofInt 1 = Int32.ofNat (j + 1) from own_one j]; rfl) ?_
        show Steps _ _ _ (T340.setTop (mkF m 45 _ [.int (Int32.ofNat j), .ref b326])) _
        refine XS.aloadN X340.here hx rfl (hb hby own_d37_45) rfl rfl ?_
        show Steps _ _ _ (T340.setTop (mkF m 46 _ [.ref o1, .int (Int32.ofNat j), .ref b326])) _
        refine st341 _ ?_
        show Steps _ _ _ (T341.setTop (mkF m 49 #[rv o1, rv b326, iv (Int32.ofNat (j + 1)), iv (Int32.ofNat (nx j))] [.int b1, .int (Int32.ofNat j), .ref b326])) _
        refine XS.iloadN X341.here hx rfl (hb hby own_d37_49) rfl ?_
        show Steps _ _ _ (T341.setTop (mkF m 50 _ [.int (Int32.ofNat (nx j)), .int b1, .int (Int32.ofNat j), .ref b326])) _
        refine XS.iadd X341.here hx rfl (hb hby own_d37_50) rfl ?_
        show Steps _ _ _ (T341.setTop (mkF m 51 _ [.int (b1 + (Int32.ofNat (nx j))), .int (Int32.ofNat j), .ref b326])) _
        refine st342 _ ?_
        show Steps _ _ _ (T342.setTop (mkF m 52 #[rv o1, rv b326, iv (Int32.ofNat (j + 1)), iv (Int32.ofNat (nx j))] [])) _
        refine XS.aloadN X342.here hx rfl (hb hby own_d37_52) rfl rfl ?_
        show Steps _ _ _ (T342.setTop (mkF m 53 _ [.ref o1])) _
        refine st346 _ ?_
        show Steps _ _ _ (T346.setTop (mkF m 56 #[rv o1, rv b326, iv (Int32.ofNat (j + 1)), iv (Int32.ofNat (nx j))] [.ref x1])) _
        refine XS.iloadN X346.here hx rfl (hb hby own_d37_56) rfl ?_
        show Steps _ _ _ (T346.setTop (mkF m 57 _ [.int (Int32.ofNat (nx j)), .ref x1])) _
        refine XS.iconst X346.here hx rfl (hb hby own_d37_57) ?_
        show Steps _ _ _ (T346.setTop (mkF m 58 _ [.int 1, .int (Int32.ofNat (nx j)), .ref x1])) _
        refine st348.trans ?_
        show Steps _ _ _ (T348.setTop (mkF m 61 #[rv o1, rv b326, iv (Int32.ofNat (j + 1)), iv (Int32.ofNat (nx j))] [.int (Int32.ofNat (nx (j + 1)))])) _
        refine XS.istoreN X348.here hx rfl (hb hby own_d37_61) rfl (l' := #[rv o1, rv b326, iv (Int32.ofNat (j + 1)), iv (Int32.ofNat (nx (j + 1)))]) rfl ?_
        show Steps _ _ _ (T348.setTop (mkF m 62 _ [])) _
        refine XS.goto X348.here hx rfl (pc0 := 62) (pc' := 29) rfl (hb hby own_d37_62) (by decide) (by decide) ?_
        exact kk
      obtain ⟨T', locs', h', XA, eA, NA, KA, VA, GA⟩ := ih (j + 1) T348 _ h342 (by omega) X348 e348 N348 Z343 O344 KT2 Vx
      exact ⟨T', locs', h', XA, eA, NA, KA, VA, fun tgt kk => G350 _ (GA _ kk)⟩
  obtain ⟨T9, locs9, h9, X9, e9, N9, K9, V9, G9⟩ := loop k 0 T326 _ h326 (by omega) X326 e326 N325 Z329 O330 (Keep.refl _ _) V326
  rw [hs0] at G9
  have KF : Keep h0 h9 [] := K331.trans K9 (allS (Or.inr g328) all0)
  obtain ⟨fs, hr, hrun, hended, hW, hsame⟩ := X9.leave (v := some (.ref b326)) (fun h => by rw [Bd.returns] at h; cases h)
  refine ⟨_, _, pre0 _ (G332 _ (G9 _ (?_))), hrun, hended, _, _, rfl, ?_, ⟨_, rfl⟩, hW, hsame.mono (by decide) (by decide)⟩
  · show Steps _ _ _ (T9.setTop (mkF m 65 #[rv o1, rv b326, iv (Int32.ofNat k), iv (Int32.ofNat (nx k))] [])) _
    refine XS.goto X9.here hx rfl (pc0 := 65) (pc' := 79) rfl (hb hby own_d37_65) (by decide) (by decide) ?_
    show Steps _ _ _ (T9.setTop (mkF m 79 _ [])) _
    refine XS.aloadN X9.here hx rfl (hb hby own_d37_79) rfl rfl ?_
    show Steps _ _ _ (T9.setTop (mkF m 80 _ [.ref b326])) _
    exact retOut X9 hx Bd.returns rfl (Or.inr (Or.inr (Or.inr (Or.inr ⟨rfl, rfl, rfl⟩)))) (hb hby own_d37_80) hr
  · show Q_mt Z o1 x1 kx b1 G1 G3 k nx cs h0 n0 _ T9.heap _
    rw [e9]
    exact ⟨b326, k326, rfl, N9, KF, g328, V9⟩
theorem own_pd_4 : parseMethodDescriptor "(Ljava/lang/String;II)V" = some ⟨[(.object "java/lang/String"), .int, .int], none⟩ := by decide +kernel
theorem own_pd_6 : parseMethodDescriptor "()[I" = some ⟨[], some (.array .int)⟩ := by decide +kernel
theorem own_pd_13 : parseMethodDescriptor "([I[II)Z" = some ⟨[(.array .int), (.array .int), .int], some .boolean⟩ := by decide +kernel
theorem own_pd_1 : parseMethodDescriptor "([C)V" = some ⟨[(.array .char)], none⟩ := by decide +kernel
theorem own_ef_law (m : MethodId) (x0 : Int32) (x1 : Int32) (x2 : Int32) (x3 : Int32) (x4 : Int32) (x5 : Int32) : entryFrame m #[(.int x0), (.int x1), (.int x2), (.int x3), (.int x4), (.int x5)] maxLocals = mkF m 0 #[iv x0, iv x1, iv x2, iv x3, iv x4, iv x5, uu, uu, uu, uu, uu, uu, uu, uu, uu, uu, uu, uu, uu, uu] [] := by first | (simp [entryFrame, mkF, argsToLocals, Value.category, maxLocals]; done) | rfl
def Q_law (Z : State) (p1 p2 p3 p4 p5 p6 G1 : Int32) (G3 : Value) (h0 : Heap) (n0 : Nat) (v : Option Value) (h : Heap) (L : List Loc) : Prop := v = some (.int 1) ∧ Fr n0 L
set_option maxRecDepth 65536 in
set_option maxHeartbeats 40000000 in
theorem rm_law (l : Launch) (Z : State) (a0 : Array Value) (hw : ∀ d ∈ tables_1, d.before a0 Z = true) (ws : List Jvm.Cond) (p1 p2 p3 p4 p5 p6 G1 : Int32) (G3 : Value) (h0 : Heap) (n0 : Nat) (Z0 : n0 ≤ h0.size) (X00 : Old Z n0 h0) (O2 : Sta Z Z.heap "java/lang/String" "COMPACT_STRINGS" "Z" (.int G1)) (P5 : ¬ (G1 = (0 : Int32))) (O4 : Sta Z Z.heap "jdk/internal/util/Preconditions" "SIOOBE_FORMATTER" "Ljava/util/function/BiFunction;" G3) (rG3 : G3.isRef = true) (OA : Sta Z Z.heap "java/lang/StringUTF16" "$assertionsDisabled" "Z" (.int (1 : Int32))) (OH : Sta Z Z.heap "java/lang/StringUTF16" "HI_BYTE_SHIFT" "I" (.int (0 : Int32))) (OL : Sta Z Z.heap "java/lang/StringUTF16" "LO_BYTE_SHIFT" "I" (.int (8 : Int32))) :
    MetFree l x (head1 (Jvm.Cond.code x code maxLocals ret :: ws) room_1) (fun a U => a = #[(.int p1), (.int p2), (.int p3), (.int p4), (.int p5), (.int p6)] ∧ Z.Warmed39 U.vm ∧ U.heap = h0 ∧ own_J Z own_EL [] h0 U.vm) (fun _ _ _ _ _ => True) (fun _ U o U' => ∃ v L, o = .returned v ∧ Q_law Z p1 p2 p3 p4 p5 p6 G1 G3 h0 n0 v U'.heap L ∧ CHr Z own_EL U.vm U.heap U'.vm U'.heap ∧ ReturnedEndW U o U' L 32 2240) := by
  refine MetFree.of_bodySF (plainFor_of_name own_pn_1) hisR ?_
  intro p e s m args below meth c s₁ Bd hml0 hP hK
  obtain ⟨rfl, hZ, hh, hJ⟩ := hP
  have hx := Bd.exec
  have hby := Bd.bytes
  have hml : c.maxLocals = 20 := hml0
  have hown : s.vm.findClass "com/example/shush/shush/OccurrenceMatchedPinLaw" = some m.cls := findClass_of_methodNamed Bd.named
  have hnm := (name_of_methodNamed Bd.named Bd.method).1
  have W := own_W hw
  have X0 : Stand p l e room_1 s m #[(.int p1), (.int p2), (.int p3), (.int p4), (.int p5), (.int p6)] below meth c s₁ [] 0 0 := Stand.of_body Bd
  have e0 : s₁.heap = h0 := by rw [← hh, Bd.state]; rfl
  have N0 := Fr.nil n0
  have pre0 : ∀ tq, Steps p.tables e below (s₁.setTop (mkF m 0 #[iv p1, iv p2, iv p3, iv p4, iv p5, iv p6, uu, uu, uu, uu, uu, uu, uu, uu, uu, uu, uu, uu, uu, uu] [])) tq → Steps p.tables e below (s₁.setTop (entryFrame m #[(.int p1), (.int p2), (.int p3), (.int p4), (.int p5), (.int p6)] maxLocals)) tq := fun tq k => castTop (own_ef_law m p1 p2 p3 p4 p5 p6) k
  have hEL := own_EW hw
  have wS : ∀ d ∈ Bundle.stringAtoms, d.before a0 Z = true := fun d hd => hw d ((by decide +kernel : ∀ d ∈ Bundle.stringAtoms, d ∈ tables_1) d hd)
  have hS0 : s.Since s.vm 0 := (State.WarmedH.refl s).since 0
  have hk0 : 0 ≤ h0.size := Nat.zero_le _
  have CH0 : CHv Z own_EL s.vm h0 := hJ.1
  have CR0 : CHr Z own_EL s.vm h0 s.vm h0 := CHr.refl CH0
  have X0 : Stand p l e room_1 (s.setVm s.vm) m #[(.int p1), (.int p2), (.int p3), (.int p4), (.int p5), (.int p6)] below meth c s₁ [] 0 0 := X0
  have hm4 := own_mod4 p1
  have Gn : ∀ tq, Steps p.tables e below (s₁.setTop (mkF m 6 #[iv p1, iv p2, iv p3, iv p4, iv p5, iv p6, uu, uu, uu, uu, uu, uu, uu, uu, uu, uu, uu, uu, uu, uu] [.int ((p1 &&& (2147483647 : Int32)) % (4 : Int32))])) tq → Steps p.tables e below (s₁.setTop (mkF m 0 #[iv p1, iv p2, iv p3, iv p4, iv p5, iv p6, uu, uu, uu, uu, uu, uu, uu, uu, uu, uu, uu, uu, uu, uu] [])) tq := by
    intro tq kk
    show Steps _ _ _ (s₁.setTop (mkF m 0 #[iv p1, iv p2, iv p3, iv p4, iv p5, iv p6, uu, uu, uu, uu, uu, uu, uu, uu, uu, uu, uu, uu, uu, uu] [])) _
    refine XS.iloadN X0.here hx rfl (hb hby at_0) rfl ?_
    show Steps _ _ _ (s₁.setTop (mkF m 1 _ [.int p1])) _
    refine Jvm.Stand.ldcI X0 hx hown (mvT hZ (W 0 rfl)) rfl (hb hby at_1) ?_
    show Steps _ _ _ (s₁.setTop (mkF m 3 _ [.int 2147483647, .int p1])) _
    refine XS.iand X0.here hx rfl (hb hby at_3) rfl ?_
    show Steps _ _ _ (s₁.setTop (mkF m 4 _ [.int (p1 &&& (2147483647 : Int32))])) _
    refine XS.iconst X0.here hx rfl (hb hby at_4) ?_
    show Steps _ _ _ (s₁.setTop (mkF m 5 _ [.int 4, .int (p1 &&& (2147483647 : Int32))])) _
    refine XS.irem X0.here hx rfl (hb hby at_5) rfl (by decide) ?_
    rw [own_rem_eq (p1 &&& (2147483647 : Int32)) (4 : Int32)]
    exact kk
  generalize (p1 &&& (2147483647 : Int32)) % (4 : Int32) = nn at Gn hm4
  obtain ⟨_, _, ⟨T351, L351, k351, n351⟩, -, X351, ⟨Lc351, hQ351, l351, y351, z351⟩, st351⟩ := Jvm.LawKit.callS X0 hx (y := (⟨"com/example/shush/shush/OccurrenceMatchedPinLaw", "draw", "(I)C"⟩ : MethodName)) hown (mvT hZ (W 1 rfl)) (mvT hZ (W 2 rfl)) (mvT hZ (W 3 rfl)) (mvT hZ (W 4 rfl)) (by decide) (backOf (W := 0) (rm_draw l Z a0 hw [] p2 h0 n0 Z0 ) hZ (W 4 rfl) (W 3 rfl) (by decide) (by decide)) (g := (mkF m 9 #[iv p1, iv p2, iv p3, iv p4, iv p5, iv p6, iv nn, uu, uu, uu, uu, uu, uu, uu, uu, uu, uu, uu, uu, uu] [.int p2])) rfl (by rw [hml]; rfl) (argsL := [.int p2]) (rest := []) (lenOf own_pd_0 rfl) rfl own_wt (hb hby at_9) (fun _ _ => ⟨rfl, e0, (by decide : 0 + 0 ≤ _), (by decide : 0 + 0 ≤ _)⟩)
  dsimp only [Pt.U, Pt.locs, Pt.cells, Pt.slots] at X351 l351 y351 z351 st351 hQ351
  subst l351 y351 z351
  obtain ⟨c0, hv351, hb0, Nq351, e351⟩ := hQ351
  subst hv351
  have N351 := Fr.app N0 Nq351
  obtain ⟨_, _, ⟨T352, L352, k352, n352⟩, -, X352, ⟨Lc352, hQ352, l352, y352, z352⟩, st352⟩ := Jvm.LawKit.callS X351 hx (y := (⟨"com/example/shush/shush/OccurrenceMatchedPinLaw", "draw", "(I)C"⟩ : MethodName)) hown (mvT hZ (W 1 rfl)) (mvT hZ (W 2 rfl)) (mvT hZ (W 3 rfl)) (mvT hZ (W 4 rfl)) (by decide) (backOf (W := 0) (rm_draw l Z a0 hw [] p3 h0 n0 Z0 ) hZ (W 4 rfl) (W 3 rfl) (by decide) (by decide)) (g := (mkF m 15 #[iv p1, iv p2, iv p3, iv p4, iv p5, iv p6, iv nn, iv c0, uu, uu, uu, uu, uu, uu, uu, uu, uu, uu, uu, uu] [.int p3])) rfl (by rw [hml]; rfl) (argsL := [.int p3]) (rest := []) (lenOf own_pd_0 rfl) rfl own_wt (hb hby at_15) (fun _ _ => ⟨rfl, e351, (by decide : 0 + 0 ≤ _), (by decide : 0 + 0 ≤ _)⟩)
  dsimp only [Pt.U, Pt.locs, Pt.cells, Pt.slots] at X352 l352 y352 z352 st352 hQ352
  subst l352 y352 z352
  obtain ⟨c1, hv352, hb1, Nq352, e352⟩ := hQ352
  subst hv352
  have N352 := Fr.app N351 Nq352
  obtain ⟨_, _, ⟨T353, L353, k353, n353⟩, -, X353, ⟨Lc353, hQ353, l353, y353, z353⟩, st353⟩ := Jvm.LawKit.callS X352 hx (y := (⟨"com/example/shush/shush/OccurrenceMatchedPinLaw", "draw", "(I)C"⟩ : MethodName)) hown (mvT hZ (W 1 rfl)) (mvT hZ (W 2 rfl)) (mvT hZ (W 3 rfl)) (mvT hZ (W 4 rfl)) (by decide) (backOf (W := 0) (rm_draw l Z a0 hw [] p4 h0 n0 Z0 ) hZ (W 4 rfl) (W 3 rfl) (by decide) (by decide)) (g := (mkF m 21 #[iv p1, iv p2, iv p3, iv p4, iv p5, iv p6, iv nn, iv c0, iv c1, uu, uu, uu, uu, uu, uu, uu, uu, uu, uu, uu] [.int p4])) rfl (by rw [hml]; rfl) (argsL := [.int p4]) (rest := []) (lenOf own_pd_0 rfl) rfl own_wt (hb hby at_21) (fun _ _ => ⟨rfl, e352, (by decide : 0 + 0 ≤ _), (by decide : 0 + 0 ≤ _)⟩)
  dsimp only [Pt.U, Pt.locs, Pt.cells, Pt.slots] at X353 l353 y353 z353 st353 hQ353
  subst l353 y353 z353
  obtain ⟨c2, hv353, hb2, Nq353, e353⟩ := hQ353
  subst hv353
  have N353 := Fr.app N352 Nq353
  have G354 : ∀ tq, Steps p.tables e below (T353.setTop (mkF m 26 #[iv p1, iv p2, iv p3, iv p4, iv p5, iv p6, iv nn, iv c0, iv c1, iv c2, uu, uu, uu, uu, uu, uu, uu, uu, uu, uu] [])) tq → Steps p.tables e below (s₁.setTop (mkF m 6 #[iv p1, iv p2, iv p3, iv p4, iv p5, iv p6, uu, uu, uu, uu, uu, uu, uu, uu, uu, uu, uu, uu, uu, uu] [.int nn])) tq := by
    intro tq kk
    show Steps _ _ _ (s₁.setTop (mkF m 6 #[iv p1, iv p2, iv p3, iv p4, iv p5, iv p6, uu, uu, uu, uu, uu, uu, uu, uu, uu, uu, uu, uu, uu, uu] [.int nn])) _
    refine XS.istore X0.here hx rfl (hb hby at_6) rfl (l' := #[iv p1, iv p2, iv p3, iv p4, iv p5, iv p6, iv nn, uu, uu, uu, uu, uu, uu, uu, uu, uu, uu, uu, uu, uu]) rfl ?_
    show Steps _ _ _ (s₁.setTop (mkF m 8 _ [])) _
    refine XS.iloadN X0.here hx rfl (hb hby at_8) rfl ?_
    show Steps _ _ _ (s₁.setTop (mkF m 9 _ [.int p2])) _
    refine st351 _ ?_
    show Steps _ _ _ (T351.setTop (mkF m 12 #[iv p1, iv p2, iv p3, iv p4, iv p5, iv p6, iv nn, uu, uu, uu, uu, uu, uu, uu, uu, uu, uu, uu, uu, uu] [.int c0])) _
    refine XS.istore X351.here hx rfl (hb hby at_12) rfl (l' := #[iv p1, iv p2, iv p3, iv p4, iv p5, iv p6, iv nn, iv c0, uu, uu, uu, uu, uu, uu, uu, uu, uu, uu, uu, uu]) rfl ?_
    show Steps _ _ _ (T351.setTop (mkF m 14 _ [])) _
    refine XS.iloadN X351.here hx rfl (hb hby at_14) rfl ?_
    show Steps _ _ _ (T351.setTop (mkF m 15 _ [.int p3])) _
    refine st352 _ ?_
    show Steps _ _ _ (T352.setTop (mkF m 18 #[iv p1, iv p2, iv p3, iv p4, iv p5, iv p6, iv nn, iv c0, uu, uu, uu, uu, uu, uu, uu, uu, uu, uu, uu, uu] [.int c1])) _
    refine XS.istore X352.here hx rfl (hb hby at_18) rfl (l' := #[iv p1, iv p2, iv p3, iv p4, iv p5, iv p6, iv nn, iv c0, iv c1, uu, uu, uu, uu, uu, uu, uu, uu, uu, uu, uu]) rfl ?_
    show Steps _ _ _ (T352.setTop (mkF m 20 _ [])) _
    refine XS.iloadN X352.here hx rfl (hb hby at_20) rfl ?_
    show Steps _ _ _ (T352.setTop (mkF m 21 _ [.int p4])) _
    refine st353 _ ?_
    show Steps _ _ _ (T353.setTop (mkF m 24 #[iv p1, iv p2, iv p3, iv p4, iv p5, iv p6, iv nn, iv c0, iv c1, uu, uu, uu, uu, uu, uu, uu, uu, uu, uu, uu] [.int c2])) _
    refine XS.istore X353.here hx rfl (hb hby at_24) rfl (l' := #[iv p1, iv p2, iv p3, iv p4, iv p5, iv p6, iv nn, iv c0, iv c1, iv c2, uu, uu, uu, uu, uu, uu, uu, uu, uu, uu]) rfl ?_
    exact kk
  have tail0 : ∀ (vm9 : Vm) (T9 : State) (h9 : Heap) (locs9 : List Loc) (k9 : Nat) (n9 s19 s29 : Int32) (b9 x9 bE : Addr) (kE : ClassId) (cs : List Int32) (nx : Nat → Nat), Stand p l e room_1 (s.setVm vm9) m #[(.int p1), (.int p2), (.int p3), (.int p4), (.int p5), (.int p6)] below meth c T9 locs9 14 80 → T9.heap = h9 → Fr n0 locs9 → n0 ≤ h9.size → Old Z n0 h9 → s.Since vm9 k9 → k9 ≤ h9.size → Z.Warmed39 (s.setVm vm9).vm → (s.setVm vm9).vm.findClass "com/example/shush/shush/OccurrenceMatchedPinLaw" = some m.cls → CHr Z own_EL s.vm h0 vm9 h9 → StrB Z h9 h9.size x9 cs → Arv Z h9 bE kE .int (3 : Int32) [(.int (0 : Int32)), (.int (0 : Int32)), (.int (0 : Int32))] (.int (0 : Int32)) → own_cfg l Z n0 cs nx 0 → own_vals p5 nx 0 = [] → ∃ s₂ o, Steps p.tables e below (T9.setTop (mkF m 207 #[iv p1, iv p2, iv p3, iv p4, iv p5, iv p6, iv n9, iv c0, iv c1, iv c2, rv b9, rv x9, iv s19, iv s29, rv bE, iv 0, uu, uu, uu, uu] [])) s₂ ∧ s₂.status = .running ∧ Ended s₂ below o ∧ (∃ v L, o = .returned v ∧ Q_law Z p1 p2 p3 p4 p5 p6 G1 G3 h0 n0 v s₂.heap L ∧ CHr Z own_EL s.vm s.heap s₂.vm s₂.heap ∧ ReturnedEndW s o s₂ L 32 2240) := by
    intro vm9 T9 h9 locs9 k9 n9 s19 s29 b9 x9 bE kE cs nx  X9 e9 N9 Z9 O9 hS9 hk9 hZ9 hown9 CR9 SB9 VE M hv
    have EX9 := SB9.exa
    obtain ⟨T355, h355, X355, e355, E355, A355, D355, -, st355⟩ := newO X9 hx hZ9 hown9 (W 31 rfl) (W 32 rfl) (W 33 rfl) e9 (g := (mkF m 207 #[iv p1, iv p2, iv p3, iv p4, iv p5, iv p6, iv n9, iv c0, iv c1, iv c2, rv b9, rv x9, iv s19, iv s29, rv bE, iv 0, uu, uu, uu, uu] [])) rfl (hb hby at_207) (by decide) (by decide)
    obtain ⟨b355, g355⟩ : ∃ z, z = h9.size := ⟨_, rfl⟩
    rw [← g355] at A355 D355 st355
    have g356 : n0 ≤ b355 := Nat.le_trans Z9 (Nat.le_of_eq g355.symm)
    have CR357 := CR9.trans (CHr.ext E355 CR9.1)
    have Z358 : n0 ≤ h355.size := Nat.le_trans Z9 E355.1
    have O359 : Old Z n0 h355 := O9.ext E355
    have hk360 := Nat.le_trans hk9 E355.1
    have F361 : Fld Z h355 b355 "com/example/shush/shush/Occurrence" "word" "Ljava/lang/String;" .null := D355 (Or.inr (W 45 rfl)) (ty := (.object "java/lang/String")) (by decide)
    have F362 : Fld Z h355 b355 "com/example/shush/shush/Occurrence" "begin" "I" (.int (0 : Int32)) := D355 (Or.inr (W 47 rfl)) (ty := .int) (by decide)
    have F363 : Fld Z h355 b355 "com/example/shush/shush/Occurrence" "end" "I" (.int (0 : Int32)) := D355 (Or.inr (W 49 rfl)) (ty := .int) (by decide)
    have F364 : Fld Z h355 b355 "com/example/shush/shush/Occurrence" "matched" "[I" .null := D355 (Or.inr (W 51 rfl)) (ty := (.array .int)) (by decide)
    have f365 := (EX9.ext E355)
    have f367 := (Safe.ext E355 CR9.1 (Safe.new (Nat.le_of_eq g355.symm)))
    obtain ⟨_, _, ⟨T366, L366, k366, n366⟩, -, Xw366, hSw366, hgw366, ⟨Lc366, hQ366, l366, y366, z366, A366⟩, st366⟩ := X355.specialBackS hx (y := (⟨"com/example/shush/shush/Occurrence", "<init>", "(Ljava/lang/String;II)V"⟩ : MethodName)) rfl hown9 (mvT hZ9 (W 34 rfl)) (mvT hZ9 (W 35 rfl)) (mvT hZ9 (W 36 rfl)) (by decide) (own_backX (s := s) (W := 1) (rm_oinit l Z a0 hw [] b355 x9 p5 p6 h355 n0 Z358 A355 g356 F361 F362 F363 F364 f365) hZ9 (W 36 rfl) (W 33 rfl) (by decide) (by decide) hEL (xs := [b355]) ⟨CR357.1, (allS f367 all0)⟩ (allS A355.lt all0)) (g := (mkF m 217 #[iv p1, iv p2, iv p3, iv p4, iv p5, iv p6, iv n9, iv c0, iv c1, iv c2, rv b9, rv x9, iv s19, iv s29, rv bE, iv 0, uu, uu, uu, uu] [.int p6, .int p5, .ref x9, .ref b355, .ref b355])) rfl (by rw [hml]; rfl) (Steps.refl _) (a := b355) (argsL := [.ref x9, .int p5, .int p6]) (rest := [.ref b355]) (lenOf own_pd_4 rfl) rfl own_wt (hb hby at_217) (fun _ _ => ⟨rfl, e355, (by decide : 15 + 2 ≤ _), (by decide : 84 + 20 ≤ _)⟩)
    dsimp only [Pt.U, Pt.locs, Pt.cells, Pt.slots] at Xw366 hSw366 hgw366 l366 y366 z366 A366 st366 hQ366
    subst l366 y366 z366
    obtain ⟨X366, hS366, hZ366, hown366⟩ := rebS (s := s) (T := T366) hS9 hk360 Xw366 hSw366 (by rw [← e355]; exact hgw366) hZ9 hown9
    have hk366 : T366.heap.size ≤ T366.heap.size := Nat.le_refl _
    obtain ⟨rfl, Nq366, K366, gE366, gW366, gB366, gM366⟩ := hQ366
    have N366 := Fr.app N9 Nq366
    have CR368 := CR357.trans A366
    have Z369 : n0 ≤ T366.heap.size := Nat.le_trans Z358 K366.1
    have O370 : Old Z n0 T366.heap := O359.keep K366 (allS g356 all0)
    have G371 : ∀ tq, Steps p.tables e below (T366.setTop (mkF m 220 #[iv p1, iv p2, iv p3, iv p4, iv p5, iv p6, iv n9, iv c0, iv c1, iv c2, rv b9, rv x9, iv s19, iv s29, rv bE, iv 0, uu, uu, uu, uu] [.ref b355])) tq → Steps p.tables e below (T9.setTop (mkF m 207 #[iv p1, iv p2, iv p3, iv p4, iv p5, iv p6, iv n9, iv c0, iv c1, iv c2, rv b9, rv x9, iv s19, iv s29, rv bE, iv 0, uu, uu, uu, uu] [])) tq := by
      intro tq kk
      show Steps _ _ _ (T9.setTop (mkF m 207 #[iv p1, iv p2, iv p3, iv p4, iv p5, iv p6, iv n9, iv c0, iv c1, iv c2, rv b9, rv x9, iv s19, iv s29, rv bE, iv 0, uu, uu, uu, uu] [])) _
      refine st355 _ ?_
      show Steps _ _ _ (T355.setTop (mkF m 210 #[iv p1, iv p2, iv p3, iv p4, iv p5, iv p6, iv n9, iv c0, iv c1, iv c2, rv b9, rv x9, iv s19, iv s29, rv bE, iv 0, uu, uu, uu, uu] [.ref b355])) _
      refine XS.dup X355.here hx rfl (hb hby at_210) rfl rfl ?_
      show Steps _ _ _ (T355.setTop (mkF m 211 _ [.ref b355, .ref b355])) _
      refine XS.aload X355.here hx rfl (hb hby at_211) rfl rfl ?_
      show Steps _ _ _ (T355.setTop (mkF m 213 _ [.ref x9, .ref b355, .ref b355])) _
      refine XS.iload X355.here hx rfl (hb hby at_213) rfl ?_
      show Steps _ _ _ (T355.setTop (mkF m 215 _ [.int p5, .ref x9, .ref b355, .ref b355])) _
      refine XS.iload X355.here hx rfl (hb hby at_215) rfl ?_
      show Steps _ _ _ (T355.setTop (mkF m 217 _ [.int p6, .int p5, .ref x9, .ref b355, .ref b355])) _
      refine st366.trans ?_
      exact kk
    have f372 := ((SB9.ext E355).keep K366 (allS (Nat.le_of_eq g355.symm) all0))
    have SXb := f372.now
    obtain ⟨cq373, kq373, q373a, q373b, q373c⟩ := isOf hZ366 rfl gE366
    obtain ⟨_, _, ⟨T373, L373, k373, n373⟩, -, X373, ⟨Lc373, hQ373, l373, y373, z373⟩, st373⟩ := X366.virtualBack hx (y := (⟨"com/example/shush/shush/Occurrence", "matched", "()[I"⟩ : MethodName)) (z := (⟨"com/example/shush/shush/Occurrence", "matched", "()[I"⟩ : MethodName)) hown366 (mvT hZ366 (W 52 rfl)) (mvT hZ366 (W 53 rfl)) (notFace_of_selects (args := #[]) (mvT hZ366 (W 55 rfl))) (mvT hZ366 (W 55 rfl)) (mvT hZ366 (W 54 rfl)) (by decide) (backOf (W := 0) (rm_mt l Z a0 hw [] b355 x9 _ p5 G1 G3 0 nx cs T366.heap n0 Z369 O370 gW366 gB366 gM366 SXb M O2 P5 O4 rG3 OA OH OL) hZ366 (W 56 rfl) (W 33 rfl) (by decide) (by decide)) q373a q373c (g := (mkF m 224 #[iv p1, iv p2, iv p3, iv p4, iv p5, iv p6, iv n9, iv c0, iv c1, iv c2, rv b9, rv x9, iv s19, iv s29, rv bE, iv 0, rv b355, uu, uu, uu] [.ref b355])) rfl (by rw [hml]; rfl) (Steps.refl _) (argsL := []) (rest := []) (lenOf own_pd_6 rfl) rfl own_wt (hb hby at_224) (fun _ _ => ⟨rfl, rfl, (by decide : 17 + 1 ≤ _), (by decide : 104 + 3 ≤ _)⟩)
    dsimp only [Pt.U, Pt.locs, Pt.cells, Pt.slots] at X373 l373 y373 z373 st373 hQ373
    subst l373 y373 z373
    obtain ⟨b373, kb373, hv373, Nq373, K373, sb373, Vx373⟩ := hQ373
    subst hv373
    have N373 := Fr.app N366 Nq373
    rw [hv] at Vx373
    have V373 : Arv Z T373.heap b373 kb373 .int (0 : Int32) [] (.int (0 : Int32)) := Vx373
    have g374 : n0 ≤ b373 := Nat.le_trans Z369 sb373
    have CR375 := CR368.trans (CHr.keep K373 all0 CR368.1)
    have Z376 : n0 ≤ T373.heap.size := Nat.le_trans Z369 K373.1
    have O377 : Old Z n0 T373.heap := O370.keep K373 all0
    have hk378 := Nat.le_trans hk366 K373.1
    have f379 := (((VE.ext E355).keep K366 (ninS (Nat.ne_of_lt (Nat.lt_of_lt_of_le VE.lt (Nat.le_of_eq g355.symm))) nin0)).keep K373 nin0)
    obtain ⟨_, _, ⟨T380, L380, k380, n380⟩, -, X380, ⟨Lc380, hQ380, l380, y380, z380⟩, st380⟩ := Jvm.LawKit.callS X373 hx (y := (⟨"com/example/shush/shush/OccurrenceMatchedPinLaw", "same", "([I[II)Z"⟩ : MethodName)) hown366 (mvT hZ366 (W 86 rfl)) (mvT hZ366 (W 87 rfl)) (mvT hZ366 (W 3 rfl)) (mvT hZ366 (W 88 rfl)) (by decide) (backOf (W := 0) (rm_same0 l Z a0 hw [] b373 bE kb373 kE  T373.heap n0 Z376 V373 f379) hZ366 (W 88 rfl) (W 3 rfl) (by decide) (by decide)) (g := (mkF m 235 #[iv p1, iv p2, iv p3, iv p4, iv p5, iv p6, iv n9, iv c0, iv c1, iv c2, rv b9, rv x9, iv s19, iv s29, rv bE, iv 0, rv b355, rv b373, uu, uu] [.int 0, .ref bE, .ref b373])) rfl (by rw [hml]; rfl) (argsL := [.ref b373, .ref bE, .int 0]) (rest := []) (lenOf own_pd_13 rfl) rfl own_wt (hb hby at_235) (fun _ _ => ⟨rfl, rfl, (by decide : 18 + 0 ≤ _), (by decide : 107 + 0 ≤ _)⟩)
    dsimp only [Pt.U, Pt.locs, Pt.cells, Pt.slots] at X380 l380 y380 z380 st380 hQ380
    subst l380 y380 z380
    obtain ⟨rfl, Nq380, e380⟩ := hQ380
    have N380 := Fr.app N373 Nq380
    have G381 : ∀ tq, Steps p.tables e below (T380.setTop (mkF m 240 #[iv p1, iv p2, iv p3, iv p4, iv p5, iv p6, iv n9, iv c0, iv c1, iv c2, rv b9, rv x9, iv s19, iv s29, rv bE, iv 0, rv b355, rv b373, iv 1, uu] [])) tq → Steps p.tables e below (T366.setTop (mkF m 220 #[iv p1, iv p2, iv p3, iv p4, iv p5, iv p6, iv n9, iv c0, iv c1, iv c2, rv b9, rv x9, iv s19, iv s29, rv bE, iv 0, uu, uu, uu, uu] [.ref b355])) tq := by
      intro tq kk
      show Steps _ _ _ (T366.setTop (mkF m 220 #[iv p1, iv p2, iv p3, iv p4, iv p5, iv p6, iv n9, iv c0, iv c1, iv c2, rv b9, rv x9, iv s19, iv s29, rv bE, iv 0, uu, uu, uu, uu] [.ref b355])) _
      refine XS.astore X366.here hx rfl (hb hby at_220) rfl rfl (l' := #[iv p1, iv p2, iv p3, iv p4, iv p5, iv p6, iv n9, iv c0, iv c1, iv c2, rv b9, rv x9, iv s19, iv s29, rv bE, iv 0, rv b355, uu, uu, uu]) rfl ?_
      show Steps _ _ _ (T366.setTop (mkF m 222 _ [])) _
      refine XS.aload X366.here hx rfl (hb hby at_222) rfl rfl ?_
      show Steps _ _ _ (T366.setTop (mkF m 224 _ [.ref b355])) _
      refine st373.trans ?_
      show Steps _ _ _ (T373.setTop (mkF m 227 #[iv p1, iv p2, iv p3, iv p4, iv p5, iv p6, iv n9, iv c0, iv c1, iv c2, rv b9, rv x9, iv s19, iv s29, rv bE, iv 0, rv b355, uu, uu, uu] [.ref b373])) _
      refine XS.astore X373.here hx rfl (hb hby at_227) rfl rfl (l' := #[iv p1, iv p2, iv p3, iv p4, iv p5, iv p6, iv n9, iv c0, iv c1, iv c2, rv b9, rv x9, iv s19, iv s29, rv bE, iv 0, rv b355, rv b373, uu, uu]) rfl ?_
      show Steps _ _ _ (T373.setTop (mkF m 229 _ [])) _
      refine XS.aload X373.here hx rfl (hb hby at_229) rfl rfl ?_
      show Steps _ _ _ (T373.setTop (mkF m 231 _ [.ref b373])) _
      refine XS.aload X373.here hx rfl (hb hby at_231) rfl rfl ?_
      show Steps _ _ _ (T373.setTop (mkF m 233 _ [.ref bE, .ref b373])) _
      refine XS.iload X373.here hx rfl (hb hby at_233) rfl ?_
      show Steps _ _ _ (T373.setTop (mkF m 235 _ [.int 0, .ref bE, .ref b373])) _
      refine st380 _ ?_
      show Steps _ _ _ (T380.setTop (mkF m 238 #[iv p1, iv p2, iv p3, iv p4, iv p5, iv p6, iv n9, iv c0, iv c1, iv c2, rv b9, rv x9, iv s19, iv s29, rv bE, iv 0, rv b355, rv b373, uu, uu] [.int 1])) _
      refine XS.istore X380.here hx rfl (hb hby at_238) rfl (l' := #[iv p1, iv p2, iv p3, iv p4, iv p5, iv p6, iv n9, iv c0, iv c1, iv c2, rv b9, rv x9, iv s19, iv s29, rv bE, iv 0, rv b355, rv b373, iv 1, uu]) rfl ?_
      exact kk
    obtain ⟨cl382, Ar382, aq382, aS382, aN382, aH382, aG382⟩ := id V373
    have G383 : ∀ tq, Steps p.tables e below (T380.setTop (mkF m 256 #[iv p1, iv p2, iv p3, iv p4, iv p5, iv p6, iv n9, iv c0, iv c1, iv c2, rv b9, rv x9, iv s19, iv s29, rv bE, iv 0, rv b355, rv b373, iv 1, uu] [])) tq → Steps p.tables e below (T380.setTop (mkF m 240 #[iv p1, iv p2, iv p3, iv p4, iv p5, iv p6, iv n9, iv c0, iv c1, iv c2, rv b9, rv x9, iv s19, iv s29, rv bE, iv 0, rv b355, rv b373, iv 1, uu] [])) tq := by
      intro tq kk
      show Steps _ _ _ (T380.setTop (mkF m 240 #[iv p1, iv p2, iv p3, iv p4, iv p5, iv p6, iv n9, iv c0, iv c1, iv c2, rv b9, rv x9, iv s19, iv s29, rv bE, iv 0, rv b355, rv b373, iv 1, uu] [])) _
      refine XS.aload X380.here hx rfl (hb hby at_240) rfl rfl ?_
      show Steps _ _ _ (T380.setTop (mkF m 242 _ [.ref b373])) _
      refine X380.arraylength hx (by rw [e380]; exact Ar382.1) (State.isArrayOf_alike hZ366.alike Ar382.2.1) (g := (mkF m 242 #[iv p1, iv p2, iv p3, iv p4, iv p5, iv p6, iv n9, iv c0, iv c1, iv c2, rv b9, rv x9, iv s19, iv s29, rv bE, iv 0, rv b355, rv b373, iv 1, uu] [.ref b373])) rfl rfl (hb hby at_242) _ ?_
      rw [len_of aS382 aN382]
      show Steps _ _ _ (T380.setTop (mkF m 243 #[iv p1, iv p2, iv p3, iv p4, iv p5, iv p6, iv n9, iv c0, iv c1, iv c2, rv b9, rv x9, iv s19, iv s29, rv bE, iv 0, rv b355, rv b373, iv 1, uu] [.int 0])) _
      refine XS.ifYes X380.here hx rfl (pc0 := 243) (pc' := 256) rfl (hb hby at_243) rfl ((if0 _ _).trans (flt ((by decide) : ¬ ((0 : Int32) < (0 : Int32)))).2.2.2) (by decide) (by decide) ?_
      exact kk
    have f384 := (gW366.keep K373 nin0)
    have f385 := (gB366.keep K373 nin0)
    have f386 := (gM366.keep K373 nin0)
    have f387 := (SXb.keep K373 all0)
    have f389 := (gE366.keep K373)
    obtain ⟨cq388, kq388, q388a, q388b, q388c⟩ := isOf hZ366 e380 f389
    obtain ⟨_, _, ⟨T388, L388, k388, n388⟩, -, X388, ⟨Lc388, hQ388, l388, y388, z388⟩, st388⟩ := X380.virtualBack hx (y := (⟨"com/example/shush/shush/Occurrence", "matched", "()[I"⟩ : MethodName)) (z := (⟨"com/example/shush/shush/Occurrence", "matched", "()[I"⟩ : MethodName)) hown366 (mvT hZ366 (W 52 rfl)) (mvT hZ366 (W 53 rfl)) (notFace_of_selects (args := #[]) (mvT hZ366 (W 55 rfl))) (mvT hZ366 (W 55 rfl)) (mvT hZ366 (W 54 rfl)) (by decide) (backOf (W := 0) (rm_mt l Z a0 hw [] b355 x9 _ p5 G1 G3 0 nx cs T373.heap n0 Z376 O377 f384 f385 f386 f387 M O2 P5 O4 rG3 OA OH OL) hZ366 (W 56 rfl) (W 33 rfl) (by decide) (by decide)) q388a q388c (g := (mkF m 258 #[iv p1, iv p2, iv p3, iv p4, iv p5, iv p6, iv n9, iv c0, iv c1, iv c2, rv b9, rv x9, iv s19, iv s29, rv bE, iv 0, rv b355, rv b373, iv 1, uu] [.ref b355])) rfl (by rw [hml]; rfl) (Steps.refl _) (argsL := []) (rest := []) (lenOf own_pd_6 rfl) rfl own_wt (hb hby at_258) (fun _ _ => ⟨rfl, e380, (by decide : 18 + 1 ≤ _), (by decide : 107 + 3 ≤ _)⟩)
    dsimp only [Pt.U, Pt.locs, Pt.cells, Pt.slots] at X388 l388 y388 z388 st388 hQ388
    subst l388 y388 z388
    obtain ⟨b388, kb388, hv388, Nq388, K388, sb388, Vx388⟩ := hQ388
    subst hv388
    have N388 := Fr.app N380 Nq388
    rw [hv] at Vx388
    have V388 : Arv Z T388.heap b388 kb388 .int (0 : Int32) [] (.int (0 : Int32)) := Vx388
    have g390 : n0 ≤ b388 := Nat.le_trans Z376 sb388
    have CR391 := CR375.trans (CHr.keep K388 all0 CR375.1)
    have Z392 : n0 ≤ T388.heap.size := Nat.le_trans Z376 K388.1
    have O393 : Old Z n0 T388.heap := O377.keep K388 all0
    have hk394 := Nat.le_trans hk378 K388.1
    have f395 := (f379.keep K388 nin0)
    obtain ⟨_, _, ⟨T396, L396, k396, n396⟩, -, X396, ⟨Lc396, hQ396, l396, y396, z396⟩, st396⟩ := Jvm.LawKit.callS X388 hx (y := (⟨"com/example/shush/shush/OccurrenceMatchedPinLaw", "same", "([I[II)Z"⟩ : MethodName)) hown366 (mvT hZ366 (W 86 rfl)) (mvT hZ366 (W 87 rfl)) (mvT hZ366 (W 3 rfl)) (mvT hZ366 (W 88 rfl)) (by decide) (backOf (W := 0) (rm_same0 l Z a0 hw [] b388 bE kb388 kE  T388.heap n0 Z392 V388 f395) hZ366 (W 88 rfl) (W 3 rfl) (by decide) (by decide)) (g := (mkF m 274 #[iv p1, iv p2, iv p3, iv p4, iv p5, iv p6, iv n9, iv c0, iv c1, iv c2, rv b9, rv x9, iv s19, iv s29, rv bE, iv 0, rv b355, rv b373, iv 1, rv b388] [.int 0, .ref bE, .ref b388])) rfl (by rw [hml]; rfl) (argsL := [.ref b388, .ref bE, .int 0]) (rest := []) (lenOf own_pd_13 rfl) rfl own_wt (hb hby at_274) (fun _ _ => ⟨rfl, rfl, (by decide : 19 + 0 ≤ _), (by decide : 110 + 0 ≤ _)⟩)
    dsimp only [Pt.U, Pt.locs, Pt.cells, Pt.slots] at X396 l396 y396 z396 st396 hQ396
    subst l396 y396 z396
    obtain ⟨rfl, Nq396, e396⟩ := hQ396
    have N396 := Fr.app N388 Nq396
    have CRe := CR391.trans (CHv.at X396 hZ366 hEL CR391.1)
    obtain ⟨fs, hr, hrun, hended, hRW⟩ := X396.leaveW hS366 (by rw [e396]; exact hk394) (v := some (.int (1 : Int32))) (fun h => by rw [Bd.returns] at h; cases h)
    refine ⟨_, _, G371 _ (G381 _ (G383 _ (?_))), hrun, hended, _, _, rfl, ?_, (by rw [hh]; show CHr Z _ s.vm h0 T396.vm T396.heap; rw [e396]; exact CRe), hRW.1, hRW.2.1, hRW.2.2.1, hRW.2.2.2.mono (by decide) (by decide)⟩
    · show Steps _ _ _ (T380.setTop (mkF m 256 #[iv p1, iv p2, iv p3, iv p4, iv p5, iv p6, iv n9, iv c0, iv c1, iv c2, rv b9, rv x9, iv s19, iv s29, rv bE, iv 0, rv b355, rv b373, iv 1, uu] [])) _
      refine XS.aload X380.here hx rfl (hb hby at_256) rfl rfl ?_
      show Steps _ _ _ (T380.setTop (mkF m 258 _ [.ref b355])) _
      refine st388.trans ?_
      show Steps _ _ _ (T388.setTop (mkF m 261 #[iv p1, iv p2, iv p3, iv p4, iv p5, iv p6, iv n9, iv c0, iv c1, iv c2, rv b9, rv x9, iv s19, iv s29, rv bE, iv 0, rv b355, rv b373, iv 1, uu] [.ref b388])) _
      refine XS.astore X388.here hx rfl (hb hby at_261) rfl rfl (l' := #[iv p1, iv p2, iv p3, iv p4, iv p5, iv p6, iv n9, iv c0, iv c1, iv c2, rv b9, rv x9, iv s19, iv s29, rv bE, iv 0, rv b355, rv b373, iv 1, rv b388]) rfl ?_
      show Steps _ _ _ (T388.setTop (mkF m 263 _ [])) _
      refine XS.iload X388.here hx rfl (hb hby at_263) rfl ?_
      show Steps _ _ _ (T388.setTop (mkF m 265 _ [.int 1])) _
      refine XS.ifNo X388.here hx rfl (hb hby at_265) rfl ((if0 _ _).trans (feq ((by decide) : ¬ ((1 : Int32) = (0 : Int32)))).1) ?_
      show Steps _ _ _ (T388.setTop (mkF m 268 _ [])) _
      refine XS.aload X388.here hx rfl (hb hby at_268) rfl rfl ?_
      show Steps _ _ _ (T388.setTop (mkF m 270 _ [.ref b388])) _
      refine XS.aload X388.here hx rfl (hb hby at_270) rfl rfl ?_
      show Steps _ _ _ (T388.setTop (mkF m 272 _ [.ref bE, .ref b388])) _
      refine XS.iload X388.here hx rfl (hb hby at_272) rfl ?_
      show Steps _ _ _ (T388.setTop (mkF m 274 _ [.int 0, .ref bE, .ref b388])) _
      refine st396 _ ?_
      show Steps _ _ _ (T396.setTop (mkF m 277 #[iv p1, iv p2, iv p3, iv p4, iv p5, iv p6, iv n9, iv c0, iv c1, iv c2, rv b9, rv x9, iv s19, iv s29, rv bE, iv 0, rv b355, rv b373, iv 1, rv b388] [.int 1])) _
      refine XS.ifNo X396.here hx rfl (hb hby at_277) rfl ((if0 _ _).trans (feq ((by decide) : ¬ ((1 : Int32) = (0 : Int32)))).1) ?_
      show Steps _ _ _ (T396.setTop (mkF m 280 _ [])) _
      refine XS.iconst X396.here hx rfl (hb hby at_280) ?_
      show Steps _ _ _ (T396.setTop (mkF m 281 _ [.int 1])) _
      refine XS.goto X396.here hx rfl (pc0 := 281) (pc' := 285) rfl (hb hby at_281) (by decide) (by decide) ?_
      show Steps _ _ _ (T396.setTop (mkF m 285 _ [.int 1])) _
      exact retN X396 hx (t := .boolean) Bd.returns (by simp) (hb hby at_285) hr
    · show Q_law Z p1 p2 p3 p4 p5 p6 G1 G3 h0 n0 _ T396.heap _
      rw [e396]
      exact ⟨rfl, N396⟩
  have tail1 : ∀ (vm9 : Vm) (T9 : State) (h9 : Heap) (locs9 : List Loc) (k9 : Nat) (n9 s19 s29 : Int32) (b9 x9 bE : Addr) (kE : ClassId) (cs : List Int32) (nx : Nat → Nat), Stand p l e room_1 (s.setVm vm9) m #[(.int p1), (.int p2), (.int p3), (.int p4), (.int p5), (.int p6)] below meth c T9 locs9 14 80 → T9.heap = h9 → Fr n0 locs9 → n0 ≤ h9.size → Old Z n0 h9 → s.Since vm9 k9 → k9 ≤ h9.size → Z.Warmed39 (s.setVm vm9).vm → (s.setVm vm9).vm.findClass "com/example/shush/shush/OccurrenceMatchedPinLaw" = some m.cls → CHr Z own_EL s.vm h0 vm9 h9 → StrB Z h9 h9.size x9 cs → Arv Z h9 bE kE .int (3 : Int32) [(.int p5), (.int (0 : Int32)), (.int (0 : Int32))] (.int (0 : Int32)) → own_cfg l Z n0 cs nx 1 → own_vals p5 nx 1 = [(.int p5)] → ∃ s₂ o, Steps p.tables e below (T9.setTop (mkF m 207 #[iv p1, iv p2, iv p3, iv p4, iv p5, iv p6, iv n9, iv c0, iv c1, iv c2, rv b9, rv x9, iv s19, iv s29, rv bE, iv 1, uu, uu, uu, uu] [])) s₂ ∧ s₂.status = .running ∧ Ended s₂ below o ∧ (∃ v L, o = .returned v ∧ Q_law Z p1 p2 p3 p4 p5 p6 G1 G3 h0 n0 v s₂.heap L ∧ CHr Z own_EL s.vm s.heap s₂.vm s₂.heap ∧ ReturnedEndW s o s₂ L 32 2240) := by
    intro vm9 T9 h9 locs9 k9 n9 s19 s29 b9 x9 bE kE cs nx  X9 e9 N9 Z9 O9 hS9 hk9 hZ9 hown9 CR9 SB9 VE M hv
    have EX9 := SB9.exa
    obtain ⟨T397, h397, X397, e397, E397, A397, D397, -, st397⟩ := newO X9 hx hZ9 hown9 (W 31 rfl) (W 32 rfl) (W 33 rfl) e9 (g := (mkF m 207 #[iv p1, iv p2, iv p3, iv p4, iv p5, iv p6, iv n9, iv c0, iv c1, iv c2, rv b9, rv x9, iv s19, iv s29, rv bE, iv 1, uu, uu, uu, uu] [])) rfl (hb hby at_207) (by decide) (by decide)
    obtain ⟨b397, g397⟩ : ∃ z, z = h9.size := ⟨_, rfl⟩
    rw [← g397] at A397 D397 st397
    have g398 : n0 ≤ b397 := Nat.le_trans Z9 (Nat.le_of_eq g397.symm)
    have CR399 := CR9.trans (CHr.ext E397 CR9.1)
    have Z400 : n0 ≤ h397.size := Nat.le_trans Z9 E397.1
    have O401 : Old Z n0 h397 := O9.ext E397
    have hk402 := Nat.le_trans hk9 E397.1
    have F403 : Fld Z h397 b397 "com/example/shush/shush/Occurrence" "word" "Ljava/lang/String;" .null := D397 (Or.inr (W 45 rfl)) (ty := (.object "java/lang/String")) (by decide)
    have F404 : Fld Z h397 b397 "com/example/shush/shush/Occurrence" "begin" "I" (.int (0 : Int32)) := D397 (Or.inr (W 47 rfl)) (ty := .int) (by decide)
    have F405 : Fld Z h397 b397 "com/example/shush/shush/Occurrence" "end" "I" (.int (0 : Int32)) := D397 (Or.inr (W 49 rfl)) (ty := .int) (by decide)
    have F406 : Fld Z h397 b397 "com/example/shush/shush/Occurrence" "matched" "[I" .null := D397 (Or.inr (W 51 rfl)) (ty := (.array .int)) (by decide)
    have f407 := (EX9.ext E397)
    have f409 := (Safe.ext E397 CR9.1 (Safe.new (Nat.le_of_eq g397.symm)))
    obtain ⟨_, _, ⟨T408, L408, k408, n408⟩, -, Xw408, hSw408, hgw408, ⟨Lc408, hQ408, l408, y408, z408, A408⟩, st408⟩ := X397.specialBackS hx (y := (⟨"com/example/shush/shush/Occurrence", "<init>", "(Ljava/lang/String;II)V"⟩ : MethodName)) rfl hown9 (mvT hZ9 (W 34 rfl)) (mvT hZ9 (W 35 rfl)) (mvT hZ9 (W 36 rfl)) (by decide) (own_backX (s := s) (W := 1) (rm_oinit l Z a0 hw [] b397 x9 p5 p6 h397 n0 Z400 A397 g398 F403 F404 F405 F406 f407) hZ9 (W 36 rfl) (W 33 rfl) (by decide) (by decide) hEL (xs := [b397]) ⟨CR399.1, (allS f409 all0)⟩ (allS A397.lt all0)) (g := (mkF m 217 #[iv p1, iv p2, iv p3, iv p4, iv p5, iv p6, iv n9, iv c0, iv c1, iv c2, rv b9, rv x9, iv s19, iv s29, rv bE, iv 1, uu, uu, uu, uu] [.int p6, .int p5, .ref x9, .ref b397, .ref b397])) rfl (by rw [hml]; rfl) (Steps.refl _) (a := b397) (argsL := [.ref x9, .int p5, .int p6]) (rest := [.ref b397]) (lenOf own_pd_4 rfl) rfl own_wt (hb hby at_217) (fun _ _ => ⟨rfl, e397, (by decide : 15 + 2 ≤ _), (by decide : 84 + 20 ≤ _)⟩)
    dsimp only [Pt.U, Pt.locs, Pt.cells, Pt.slots] at Xw408 hSw408 hgw408 l408 y408 z408 A408 st408 hQ408
    subst l408 y408 z408
    obtain ⟨X408, hS408, hZ408, hown408⟩ := rebS (s := s) (T := T408) hS9 hk402 Xw408 hSw408 (by rw [← e397]; exact hgw408) hZ9 hown9
    have hk408 : T408.heap.size ≤ T408.heap.size := Nat.le_refl _
    obtain ⟨rfl, Nq408, K408, gE408, gW408, gB408, gM408⟩ := hQ408
    have N408 := Fr.app N9 Nq408
    have CR410 := CR399.trans A408
    have Z411 : n0 ≤ T408.heap.size := Nat.le_trans Z400 K408.1
    have O412 : Old Z n0 T408.heap := O401.keep K408 (allS g398 all0)
    have G413 : ∀ tq, Steps p.tables e below (T408.setTop (mkF m 220 #[iv p1, iv p2, iv p3, iv p4, iv p5, iv p6, iv n9, iv c0, iv c1, iv c2, rv b9, rv x9, iv s19, iv s29, rv bE, iv 1, uu, uu, uu, uu] [.ref b397])) tq → Steps p.tables e below (T9.setTop (mkF m 207 #[iv p1, iv p2, iv p3, iv p4, iv p5, iv p6, iv n9, iv c0, iv c1, iv c2, rv b9, rv x9, iv s19, iv s29, rv bE, iv 1, uu, uu, uu, uu] [])) tq := by
      intro tq kk
      show Steps _ _ _ (T9.setTop (mkF m 207 #[iv p1, iv p2, iv p3, iv p4, iv p5, iv p6, iv n9, iv c0, iv c1, iv c2, rv b9, rv x9, iv s19, iv s29, rv bE, iv 1, uu, uu, uu, uu] [])) _
      refine st397 _ ?_
      show Steps _ _ _ (T397.setTop (mkF m 210 #[iv p1, iv p2, iv p3, iv p4, iv p5, iv p6, iv n9, iv c0, iv c1, iv c2, rv b9, rv x9, iv s19, iv s29, rv bE, iv 1, uu, uu, uu, uu] [.ref b397])) _
      refine XS.dup X397.here hx rfl (hb hby at_210) rfl rfl ?_
      show Steps _ _ _ (T397.setTop (mkF m 211 _ [.ref b397, .ref b397])) _
      refine XS.aload X397.here hx rfl (hb hby at_211) rfl rfl ?_
      show Steps _ _ _ (T397.setTop (mkF m 213 _ [.ref x9, .ref b397, .ref b397])) _
      refine XS.iload X397.here hx rfl (hb hby at_213) rfl ?_
      show Steps _ _ _ (T397.setTop (mkF m 215 _ [.int p5, .ref x9, .ref b397, .ref b397])) _
      refine XS.iload X397.here hx rfl (hb hby at_215) rfl ?_
      show Steps _ _ _ (T397.setTop (mkF m 217 _ [.int p6, .int p5, .ref x9, .ref b397, .ref b397])) _
      refine st408.trans ?_
      exact kk
    have f414 := ((SB9.ext E397).keep K408 (allS (Nat.le_of_eq g397.symm) all0))
    have SXb := f414.now
    obtain ⟨cq415, kq415, q415a, q415b, q415c⟩ := isOf hZ408 rfl gE408
    obtain ⟨_, _, ⟨T415, L415, k415, n415⟩, -, X415, ⟨Lc415, hQ415, l415, y415, z415⟩, st415⟩ := X408.virtualBack hx (y := (⟨"com/example/shush/shush/Occurrence", "matched", "()[I"⟩ : MethodName)) (z := (⟨"com/example/shush/shush/Occurrence", "matched", "()[I"⟩ : MethodName)) hown408 (mvT hZ408 (W 52 rfl)) (mvT hZ408 (W 53 rfl)) (notFace_of_selects (args := #[]) (mvT hZ408 (W 55 rfl))) (mvT hZ408 (W 55 rfl)) (mvT hZ408 (W 54 rfl)) (by decide) (backOf (W := 0) (rm_mt l Z a0 hw [] b397 x9 _ p5 G1 G3 1 nx cs T408.heap n0 Z411 O412 gW408 gB408 gM408 SXb M O2 P5 O4 rG3 OA OH OL) hZ408 (W 56 rfl) (W 33 rfl) (by decide) (by decide)) q415a q415c (g := (mkF m 224 #[iv p1, iv p2, iv p3, iv p4, iv p5, iv p6, iv n9, iv c0, iv c1, iv c2, rv b9, rv x9, iv s19, iv s29, rv bE, iv 1, rv b397, uu, uu, uu] [.ref b397])) rfl (by rw [hml]; rfl) (Steps.refl _) (argsL := []) (rest := []) (lenOf own_pd_6 rfl) rfl own_wt (hb hby at_224) (fun _ _ => ⟨rfl, rfl, (by decide : 17 + 1 ≤ _), (by decide : 104 + 3 ≤ _)⟩)
    dsimp only [Pt.U, Pt.locs, Pt.cells, Pt.slots] at X415 l415 y415 z415 st415 hQ415
    subst l415 y415 z415
    obtain ⟨b415, kb415, hv415, Nq415, K415, sb415, Vx415⟩ := hQ415
    subst hv415
    have N415 := Fr.app N408 Nq415
    rw [hv] at Vx415
    have V415 : Arv Z T415.heap b415 kb415 .int (1 : Int32) [(.int p5)] (.int (0 : Int32)) := Vx415
    have g416 : n0 ≤ b415 := Nat.le_trans Z411 sb415
    have CR417 := CR410.trans (CHr.keep K415 all0 CR410.1)
    have Z418 : n0 ≤ T415.heap.size := Nat.le_trans Z411 K415.1
    have O419 : Old Z n0 T415.heap := O412.keep K415 all0
    have hk420 := Nat.le_trans hk408 K415.1
    have f421 := (((VE.ext E397).keep K408 (ninS (Nat.ne_of_lt (Nat.lt_of_lt_of_le VE.lt (Nat.le_of_eq g397.symm))) nin0)).keep K415 nin0)
    obtain ⟨_, _, ⟨T422, L422, k422, n422⟩, -, X422, ⟨Lc422, hQ422, l422, y422, z422⟩, st422⟩ := Jvm.LawKit.callS X415 hx (y := (⟨"com/example/shush/shush/OccurrenceMatchedPinLaw", "same", "([I[II)Z"⟩ : MethodName)) hown408 (mvT hZ408 (W 86 rfl)) (mvT hZ408 (W 87 rfl)) (mvT hZ408 (W 3 rfl)) (mvT hZ408 (W 88 rfl)) (by decide) (backOf (W := 0) (rm_same1 l Z a0 hw [] b415 bE kb415 kE p5 T415.heap n0 Z418 V415 f421) hZ408 (W 88 rfl) (W 3 rfl) (by decide) (by decide)) (g := (mkF m 235 #[iv p1, iv p2, iv p3, iv p4, iv p5, iv p6, iv n9, iv c0, iv c1, iv c2, rv b9, rv x9, iv s19, iv s29, rv bE, iv 1, rv b397, rv b415, uu, uu] [.int 1, .ref bE, .ref b415])) rfl (by rw [hml]; rfl) (argsL := [.ref b415, .ref bE, .int 1]) (rest := []) (lenOf own_pd_13 rfl) rfl own_wt (hb hby at_235) (fun _ _ => ⟨rfl, rfl, (by decide : 18 + 0 ≤ _), (by decide : 107 + 0 ≤ _)⟩)
    dsimp only [Pt.U, Pt.locs, Pt.cells, Pt.slots] at X422 l422 y422 z422 st422 hQ422
    subst l422 y422 z422
    obtain ⟨rfl, Nq422, e422⟩ := hQ422
    have N422 := Fr.app N415 Nq422
    have G423 : ∀ tq, Steps p.tables e below (T422.setTop (mkF m 240 #[iv p1, iv p2, iv p3, iv p4, iv p5, iv p6, iv n9, iv c0, iv c1, iv c2, rv b9, rv x9, iv s19, iv s29, rv bE, iv 1, rv b397, rv b415, iv 1, uu] [])) tq → Steps p.tables e below (T408.setTop (mkF m 220 #[iv p1, iv p2, iv p3, iv p4, iv p5, iv p6, iv n9, iv c0, iv c1, iv c2, rv b9, rv x9, iv s19, iv s29, rv bE, iv 1, uu, uu, uu, uu] [.ref b397])) tq := by
      intro tq kk
      show Steps _ _ _ (T408.setTop (mkF m 220 #[iv p1, iv p2, iv p3, iv p4, iv p5, iv p6, iv n9, iv c0, iv c1, iv c2, rv b9, rv x9, iv s19, iv s29, rv bE, iv 1, uu, uu, uu, uu] [.ref b397])) _
      refine XS.astore X408.here hx rfl (hb hby at_220) rfl rfl (l' := #[iv p1, iv p2, iv p3, iv p4, iv p5, iv p6, iv n9, iv c0, iv c1, iv c2, rv b9, rv x9, iv s19, iv s29, rv bE, iv 1, rv b397, uu, uu, uu]) rfl ?_
      show Steps _ _ _ (T408.setTop (mkF m 222 _ [])) _
      refine XS.aload X408.here hx rfl (hb hby at_222) rfl rfl ?_
      show Steps _ _ _ (T408.setTop (mkF m 224 _ [.ref b397])) _
      refine st415.trans ?_
      show Steps _ _ _ (T415.setTop (mkF m 227 #[iv p1, iv p2, iv p3, iv p4, iv p5, iv p6, iv n9, iv c0, iv c1, iv c2, rv b9, rv x9, iv s19, iv s29, rv bE, iv 1, rv b397, uu, uu, uu] [.ref b415])) _
      refine XS.astore X415.here hx rfl (hb hby at_227) rfl rfl (l' := #[iv p1, iv p2, iv p3, iv p4, iv p5, iv p6, iv n9, iv c0, iv c1, iv c2, rv b9, rv x9, iv s19, iv s29, rv bE, iv 1, rv b397, rv b415, uu, uu]) rfl ?_
      show Steps _ _ _ (T415.setTop (mkF m 229 _ [])) _
      refine XS.aload X415.here hx rfl (hb hby at_229) rfl rfl ?_
      show Steps _ _ _ (T415.setTop (mkF m 231 _ [.ref b415])) _
      refine XS.aload X415.here hx rfl (hb hby at_231) rfl rfl ?_
      show Steps _ _ _ (T415.setTop (mkF m 233 _ [.ref bE, .ref b415])) _
      refine XS.iload X415.here hx rfl (hb hby at_233) rfl ?_
      show Steps _ _ _ (T415.setTop (mkF m 235 _ [.int 1, .ref bE, .ref b415])) _
      refine st422 _ ?_
      show Steps _ _ _ (T422.setTop (mkF m 238 #[iv p1, iv p2, iv p3, iv p4, iv p5, iv p6, iv n9, iv c0, iv c1, iv c2, rv b9, rv x9, iv s19, iv s29, rv bE, iv 1, rv b397, rv b415, uu, uu] [.int 1])) _
      refine XS.istore X422.here hx rfl (hb hby at_238) rfl (l' := #[iv p1, iv p2, iv p3, iv p4, iv p5, iv p6, iv n9, iv c0, iv c1, iv c2, rv b9, rv x9, iv s19, iv s29, rv bE, iv 1, rv b397, rv b415, iv 1, uu]) rfl ?_
      exact kk
    obtain ⟨cl424, Ar424, aq424, aS424, aN424, aH424, aG424⟩ := id V415
    obtain ⟨T425, h425, X425, e425, W425, st425⟩ := stI X422 hx hZ408 e422 Ar424 (j := (0 : Int32)) (inb_of aS424 ⟨(by decide), (by decide)⟩) (g := (mkF m 255 #[iv p1, iv p2, iv p3, iv p4, iv p5, iv p6, iv n9, iv c0, iv c1, iv c2, rv b9, rv x9, iv s19, iv s29, rv bE, iv 1, rv b397, rv b415, iv 1, uu] [.int (p5 + (1 : Int32)), .int 0, .ref b415])) rfl rfl (hb hby at_255)
    have N425 := Fr.snoc X425 N422 g416
    have V425 : Arv Z h425 b415 kb415 .int (1 : Int32) [(.int (p5 + (1 : Int32)))] (.int (0 : Int32)) := Arv.set Ar424 aq424 aS424 aN424 aH424 aG424 rfl W425 0 rfl (Nat.le_of_ble_eq_true rfl)
    have f427 := (Safe.keep K415 all0 CR410.1 (Safe.new sb415))
    have CR426 := CR417.trans (CHr.wr W425 f427 CR417.1)
    have Z428 : n0 ≤ h425.size := Nat.le_trans Z418 (Keep.of_wr W425).1
    have O429 : Old Z n0 h425 := O419.wr W425 g416
    have hk430 := Nat.le_trans hk420 (Keep.of_wr W425).1
    have G431 : ∀ tq, Steps p.tables e below (T425.setTop (mkF m 256 #[iv p1, iv p2, iv p3, iv p4, iv p5, iv p6, iv n9, iv c0, iv c1, iv c2, rv b9, rv x9, iv s19, iv s29, rv bE, iv 1, rv b397, rv b415, iv 1, uu] [])) tq → Steps p.tables e below (T422.setTop (mkF m 240 #[iv p1, iv p2, iv p3, iv p4, iv p5, iv p6, iv n9, iv c0, iv c1, iv c2, rv b9, rv x9, iv s19, iv s29, rv bE, iv 1, rv b397, rv b415, iv 1, uu] [])) tq := by
      intro tq kk
      show Steps _ _ _ (T422.setTop (mkF m 240 #[iv p1, iv p2, iv p3, iv p4, iv p5, iv p6, iv n9, iv c0, iv c1, iv c2, rv b9, rv x9, iv s19, iv s29, rv bE, iv 1, rv b397, rv b415, iv 1, uu] [])) _
      refine XS.aload X422.here hx rfl (hb hby at_240) rfl rfl ?_
      show Steps _ _ _ (T422.setTop (mkF m 242 _ [.ref b415])) _
      refine X422.arraylength hx (by rw [e422]; exact Ar424.1) (State.isArrayOf_alike hZ408.alike Ar424.2.1) (g := (mkF m 242 #[iv p1, iv p2, iv p3, iv p4, iv p5, iv p6, iv n9, iv c0, iv c1, iv c2, rv b9, rv x9, iv s19, iv s29, rv bE, iv 1, rv b397, rv b415, iv 1, uu] [.ref b415])) rfl rfl (hb hby at_242) _ ?_
      rw [len_of aS424 aN424]
      show Steps _ _ _ (T422.setTop (mkF m 243 #[iv p1, iv p2, iv p3, iv p4, iv p5, iv p6, iv n9, iv c0, iv c1, iv c2, rv b9, rv x9, iv s19, iv s29, rv bE, iv 1, rv b397, rv b415, iv 1, uu] [.int 1])) _
      refine XS.ifNo X422.here hx rfl (hb hby at_243) rfl ((if0 _ _).trans (tlt ((by decide) : (0 : Int32) < (1 : Int32))).2.2.2) ?_
      show Steps _ _ _ (T422.setTop (mkF m 246 _ [])) _
      refine XS.aload X422.here hx rfl (hb hby at_246) rfl rfl ?_
      show Steps _ _ _ (T422.setTop (mkF m 248 _ [.ref b415])) _
      refine XS.iconst X422.here hx rfl (hb hby at_248) ?_
      show Steps _ _ _ (T422.setTop (mkF m 249 _ [.int 0, .ref b415])) _
      refine XS.aload X422.here hx rfl (hb hby at_249) rfl rfl ?_
      show Steps _ _ _ (T422.setTop (mkF m 251 _ [.ref b415, .int 0, .ref b415])) _
      refine XS.iconst X422.here hx rfl (hb hby at_251) ?_
      show Steps _ _ _ (T422.setTop (mkF m 252 _ [.int 0, .ref b415, .int 0, .ref b415])) _
      refine X422.iaload hx (j := (0 : Int32)) (v := (.int p5)) (by rw [e422]; exact Ar424.1) (State.isArrayOf_alike hZ408.alike Ar424.2.1) Ar424.2.2 (inb_of aS424 ⟨(by decide), (by decide)⟩) (Has.at aH424 (inb_of aS424 ⟨(by decide), (by decide)⟩) rfl) (g := (mkF m 252 #[iv p1, iv p2, iv p3, iv p4, iv p5, iv p6, iv n9, iv c0, iv c1, iv c2, rv b9, rv x9, iv s19, iv s29, rv bE, iv 1, rv b397, rv b415, iv 1, uu] [.int 0, .ref b415, .int 0, .ref b415])) rfl rfl (hb hby at_252) _ ?_
      show Steps _ _ _ (T422.setTop (mkF m 253 #[iv p1, iv p2, iv p3, iv p4, iv p5, iv p6, iv n9, iv c0, iv c1, iv c2, rv b9, rv x9, iv s19, iv s29, rv bE, iv 1, rv b397, rv b415, iv 1, uu] [.int p5, .int 0, .ref b415])) _
      refine XS.iconst X422.here hx rfl (hb hby at_253) ?_
      show Steps _ _ _ (T422.setTop (mkF m 254 _ [.int 1, .int p5, .int 0, .ref b415])) _
      refine XS.iadd X422.here hx rfl (hb hby at_254) rfl ?_
      show Steps _ _ _ (T422.setTop (mkF m 255 _ [.int (p5 + (1 : Int32)), .int 0, .ref b415])) _
      refine st425 _ ?_
      exact kk
    have f432 := (Nat.lt_of_lt_of_le A397.lt K408.1)
    have f433 := ((gW408.keep K415 nin0).other W425 (Or.inl (Nat.ne_of_lt (Nat.lt_of_lt_of_le f432 sb415))))
    have f434 := ((gB408.keep K415 nin0).other W425 (Or.inl (Nat.ne_of_lt (Nat.lt_of_lt_of_le f432 sb415))))
    have f435 := ((gM408.keep K415 nin0).other W425 (Or.inl (Nat.ne_of_lt (Nat.lt_of_lt_of_le f432 sb415))))
    have f436 := ((SXb.keep K415 all0).wr W425 sb415)
    have f438 := ((gE408.keep K415).wr W425)
    obtain ⟨cq437, kq437, q437a, q437b, q437c⟩ := isOf hZ408 e425 f438
    obtain ⟨_, _, ⟨T437, L437, k437, n437⟩, -, X437, ⟨Lc437, hQ437, l437, y437, z437⟩, st437⟩ := X425.virtualBack hx (y := (⟨"com/example/shush/shush/Occurrence", "matched", "()[I"⟩ : MethodName)) (z := (⟨"com/example/shush/shush/Occurrence", "matched", "()[I"⟩ : MethodName)) hown408 (mvT hZ408 (W 52 rfl)) (mvT hZ408 (W 53 rfl)) (notFace_of_selects (args := #[]) (mvT hZ408 (W 55 rfl))) (mvT hZ408 (W 55 rfl)) (mvT hZ408 (W 54 rfl)) (by decide) (backOf (W := 0) (rm_mt l Z a0 hw [] b397 x9 _ p5 G1 G3 1 nx cs h425 n0 Z428 O429 f433 f434 f435 f436 M O2 P5 O4 rG3 OA OH OL) hZ408 (W 56 rfl) (W 33 rfl) (by decide) (by decide)) q437a q437c (g := (mkF m 258 #[iv p1, iv p2, iv p3, iv p4, iv p5, iv p6, iv n9, iv c0, iv c1, iv c2, rv b9, rv x9, iv s19, iv s29, rv bE, iv 1, rv b397, rv b415, iv 1, uu] [.ref b397])) rfl (by rw [hml]; rfl) (Steps.refl _) (argsL := []) (rest := []) (lenOf own_pd_6 rfl) rfl own_wt (hb hby at_258) (fun _ _ => ⟨rfl, e425, (by decide : 18 + 1 ≤ _), (by decide : 107 + 3 ≤ _)⟩)
    dsimp only [Pt.U, Pt.locs, Pt.cells, Pt.slots] at X437 l437 y437 z437 st437 hQ437
    subst l437 y437 z437
    obtain ⟨b437, kb437, hv437, Nq437, K437, sb437, Vx437⟩ := hQ437
    subst hv437
    have N437 := Fr.app N425 Nq437
    rw [hv] at Vx437
    have V437 : Arv Z T437.heap b437 kb437 .int (1 : Int32) [(.int p5)] (.int (0 : Int32)) := Vx437
    have g439 : n0 ≤ b437 := Nat.le_trans Z428 sb437
    have CR440 := CR426.trans (CHr.keep K437 all0 CR426.1)
    have Z441 : n0 ≤ T437.heap.size := Nat.le_trans Z428 K437.1
    have O442 : Old Z n0 T437.heap := O429.keep K437 all0
    have hk443 := Nat.le_trans hk430 K437.1
    have f444 := (Nat.lt_of_lt_of_le (Nat.lt_of_lt_of_le VE.lt E397.1) K408.1)
    have f445 := ((f421.other W425 (Nat.ne_of_lt (Nat.lt_of_lt_of_le f444 sb415))).keep K437 nin0)
    obtain ⟨_, _, ⟨T446, L446, k446, n446⟩, -, X446, ⟨Lc446, hQ446, l446, y446, z446⟩, st446⟩ := Jvm.LawKit.callS X437 hx (y := (⟨"com/example/shush/shush/OccurrenceMatchedPinLaw", "same", "([I[II)Z"⟩ : MethodName)) hown408 (mvT hZ408 (W 86 rfl)) (mvT hZ408 (W 87 rfl)) (mvT hZ408 (W 3 rfl)) (mvT hZ408 (W 88 rfl)) (by decide) (backOf (W := 0) (rm_same1 l Z a0 hw [] b437 bE kb437 kE p5 T437.heap n0 Z441 V437 f445) hZ408 (W 88 rfl) (W 3 rfl) (by decide) (by decide)) (g := (mkF m 274 #[iv p1, iv p2, iv p3, iv p4, iv p5, iv p6, iv n9, iv c0, iv c1, iv c2, rv b9, rv x9, iv s19, iv s29, rv bE, iv 1, rv b397, rv b415, iv 1, rv b437] [.int 1, .ref bE, .ref b437])) rfl (by rw [hml]; rfl) (argsL := [.ref b437, .ref bE, .int 1]) (rest := []) (lenOf own_pd_13 rfl) rfl own_wt (hb hby at_274) (fun _ _ => ⟨rfl, rfl, (by decide : 19 + 0 ≤ _), (by decide : 110 + 0 ≤ _)⟩)
    dsimp only [Pt.U, Pt.locs, Pt.cells, Pt.slots] at X446 l446 y446 z446 st446 hQ446
    subst l446 y446 z446
    obtain ⟨rfl, Nq446, e446⟩ := hQ446
    have N446 := Fr.app N437 Nq446
    have CRe := CR440.trans (CHv.at X446 hZ408 hEL CR440.1)
    obtain ⟨fs, hr, hrun, hended, hRW⟩ := X446.leaveW hS408 (by rw [e446]; exact hk443) (v := some (.int (1 : Int32))) (fun h => by rw [Bd.returns] at h; cases h)
    refine ⟨_, _, G413 _ (G423 _ (G431 _ (?_))), hrun, hended, _, _, rfl, ?_, (by rw [hh]; show CHr Z _ s.vm h0 T446.vm T446.heap; rw [e446]; exact CRe), hRW.1, hRW.2.1, hRW.2.2.1, hRW.2.2.2.mono (by decide) (by decide)⟩
    · show Steps _ _ _ (T425.setTop (mkF m 256 #[iv p1, iv p2, iv p3, iv p4, iv p5, iv p6, iv n9, iv c0, iv c1, iv c2, rv b9, rv x9, iv s19, iv s29, rv bE, iv 1, rv b397, rv b415, iv 1, uu] [])) _
      refine XS.aload X425.here hx rfl (hb hby at_256) rfl rfl ?_
      show Steps _ _ _ (T425.setTop (mkF m 258 _ [.ref b397])) _
      refine st437.trans ?_
      show Steps _ _ _ (T437.setTop (mkF m 261 #[iv p1, iv p2, iv p3, iv p4, iv p5, iv p6, iv n9, iv c0, iv c1, iv c2, rv b9, rv x9, iv s19, iv s29, rv bE, iv 1, rv b397, rv b415, iv 1, uu] [.ref b437])) _
      refine XS.astore X437.here hx rfl (hb hby at_261) rfl rfl (l' := #[iv p1, iv p2, iv p3, iv p4, iv p5, iv p6, iv n9, iv c0, iv c1, iv c2, rv b9, rv x9, iv s19, iv s29, rv bE, iv 1, rv b397, rv b415, iv 1, rv b437]) rfl ?_
      show Steps _ _ _ (T437.setTop (mkF m 263 _ [])) _
      refine XS.iload X437.here hx rfl (hb hby at_263) rfl ?_
      show Steps _ _ _ (T437.setTop (mkF m 265 _ [.int 1])) _
      refine XS.ifNo X437.here hx rfl (hb hby at_265) rfl ((if0 _ _).trans (feq ((by decide) : ¬ ((1 : Int32) = (0 : Int32)))).1) ?_
      show Steps _ _ _ (T437.setTop (mkF m 268 _ [])) _
      refine XS.aload X437.here hx rfl (hb hby at_268) rfl rfl ?_
      show Steps _ _ _ (T437.setTop (mkF m 270 _ [.ref b437])) _
      refine XS.aload X437.here hx rfl (hb hby at_270) rfl rfl ?_
      show Steps _ _ _ (T437.setTop (mkF m 272 _ [.ref bE, .ref b437])) _
      refine XS.iload X437.here hx rfl (hb hby at_272) rfl ?_
      show Steps _ _ _ (T437.setTop (mkF m 274 _ [.int 1, .ref bE, .ref b437])) _
      refine st446 _ ?_
      show Steps _ _ _ (T446.setTop (mkF m 277 #[iv p1, iv p2, iv p3, iv p4, iv p5, iv p6, iv n9, iv c0, iv c1, iv c2, rv b9, rv x9, iv s19, iv s29, rv bE, iv 1, rv b397, rv b415, iv 1, rv b437] [.int 1])) _
      refine XS.ifNo X446.here hx rfl (hb hby at_277) rfl ((if0 _ _).trans (feq ((by decide) : ¬ ((1 : Int32) = (0 : Int32)))).1) ?_
      show Steps _ _ _ (T446.setTop (mkF m 280 _ [])) _
      refine XS.iconst X446.here hx rfl (hb hby at_280) ?_
      show Steps _ _ _ (T446.setTop (mkF m 281 _ [.int 1])) _
      refine XS.goto X446.here hx rfl (pc0 := 281) (pc' := 285) rfl (hb hby at_281) (by decide) (by decide) ?_
      show Steps _ _ _ (T446.setTop (mkF m 285 _ [.int 1])) _
      exact retN X446 hx (t := .boolean) Bd.returns (by simp) (hb hby at_285) hr
    · show Q_law Z p1 p2 p3 p4 p5 p6 G1 G3 h0 n0 _ T446.heap _
      rw [e446]
      exact ⟨rfl, N446⟩
  have tail2 : ∀ (vm9 : Vm) (T9 : State) (h9 : Heap) (locs9 : List Loc) (k9 : Nat) (n9 s19 s29 : Int32) (b9 x9 bE : Addr) (kE : ClassId) (cs : List Int32) (nx : Nat → Nat) (y1 : Int32), Stand p l e room_1 (s.setVm vm9) m #[(.int p1), (.int p2), (.int p3), (.int p4), (.int p5), (.int p6)] below meth c T9 locs9 14 80 → T9.heap = h9 → Fr n0 locs9 → n0 ≤ h9.size → Old Z n0 h9 → s.Since vm9 k9 → k9 ≤ h9.size → Z.Warmed39 (s.setVm vm9).vm → (s.setVm vm9).vm.findClass "com/example/shush/shush/OccurrenceMatchedPinLaw" = some m.cls → CHr Z own_EL s.vm h0 vm9 h9 → StrB Z h9 h9.size x9 cs → Arv Z h9 bE kE .int (3 : Int32) [(.int p5), (.int y1), (.int (0 : Int32))] (.int (0 : Int32)) → own_cfg l Z n0 cs nx 2 → own_vals p5 nx 2 = [(.int p5), (.int y1)] → ∃ s₂ o, Steps p.tables e below (T9.setTop (mkF m 207 #[iv p1, iv p2, iv p3, iv p4, iv p5, iv p6, iv n9, iv c0, iv c1, iv c2, rv b9, rv x9, iv s19, iv s29, rv bE, iv 2, uu, uu, uu, uu] [])) s₂ ∧ s₂.status = .running ∧ Ended s₂ below o ∧ (∃ v L, o = .returned v ∧ Q_law Z p1 p2 p3 p4 p5 p6 G1 G3 h0 n0 v s₂.heap L ∧ CHr Z own_EL s.vm s.heap s₂.vm s₂.heap ∧ ReturnedEndW s o s₂ L 32 2240) := by
    intro vm9 T9 h9 locs9 k9 n9 s19 s29 b9 x9 bE kE cs nx y1 X9 e9 N9 Z9 O9 hS9 hk9 hZ9 hown9 CR9 SB9 VE M hv
    have EX9 := SB9.exa
    obtain ⟨T447, h447, X447, e447, E447, A447, D447, -, st447⟩ := newO X9 hx hZ9 hown9 (W 31 rfl) (W 32 rfl) (W 33 rfl) e9 (g := (mkF m 207 #[iv p1, iv p2, iv p3, iv p4, iv p5, iv p6, iv n9, iv c0, iv c1, iv c2, rv b9, rv x9, iv s19, iv s29, rv bE, iv 2, uu, uu, uu, uu] [])) rfl (hb hby at_207) (by decide) (by decide)
    obtain ⟨b447, g447⟩ : ∃ z, z = h9.size := ⟨_, rfl⟩
    rw [← g447] at A447 D447 st447
    have g448 : n0 ≤ b447 := Nat.le_trans Z9 (Nat.le_of_eq g447.symm)
    have CR449 := CR9.trans (CHr.ext E447 CR9.1)
    have Z450 : n0 ≤ h447.size := Nat.le_trans Z9 E447.1
    have O451 : Old Z n0 h447 := O9.ext E447
    have hk452 := Nat.le_trans hk9 E447.1
    have F453 : Fld Z h447 b447 "com/example/shush/shush/Occurrence" "word" "Ljava/lang/String;" .null := D447 (Or.inr (W 45 rfl)) (ty := (.object "java/lang/String")) (by decide)
    have F454 : Fld Z h447 b447 "com/example/shush/shush/Occurrence" "begin" "I" (.int (0 : Int32)) := D447 (Or.inr (W 47 rfl)) (ty := .int) (by decide)
    have F455 : Fld Z h447 b447 "com/example/shush/shush/Occurrence" "end" "I" (.int (0 : Int32)) := D447 (Or.inr (W 49 rfl)) (ty := .int) (by decide)
    have F456 : Fld Z h447 b447 "com/example/shush/shush/Occurrence" "matched" "[I" .null := D447 (Or.inr (W 51 rfl)) (ty := (.array .int)) (by decide)
    have f457 := (EX9.ext E447)
    have f459 := (Safe.ext E447 CR9.1 (Safe.new (Nat.le_of_eq g447.symm)))
    obtain ⟨_, _, ⟨T458, L458, k458, n458⟩, -, Xw458, hSw458, hgw458, ⟨Lc458, hQ458, l458, y458, z458, A458⟩, st458⟩ := X447.specialBackS hx (y := (⟨"com/example/shush/shush/Occurrence", "<init>", "(Ljava/lang/String;II)V"⟩ : MethodName)) rfl hown9 (mvT hZ9 (W 34 rfl)) (mvT hZ9 (W 35 rfl)) (mvT hZ9 (W 36 rfl)) (by decide) (own_backX (s := s) (W := 1) (rm_oinit l Z a0 hw [] b447 x9 p5 p6 h447 n0 Z450 A447 g448 F453 F454 F455 F456 f457) hZ9 (W 36 rfl) (W 33 rfl) (by decide) (by decide) hEL (xs := [b447]) ⟨CR449.1, (allS f459 all0)⟩ (allS A447.lt all0)) (g := (mkF m 217 #[iv p1, iv p2, iv p3, iv p4, iv p5, iv p6, iv n9, iv c0, iv c1, iv c2, rv b9, rv x9, iv s19, iv s29, rv bE, iv 2, uu, uu, uu, uu] [.int p6, .int p5, .ref x9, .ref b447, .ref b447])) rfl (by rw [hml]; rfl) (Steps.refl _) (a := b447) (argsL := [.ref x9, .int p5, .int p6]) (rest := [.ref b447]) (lenOf own_pd_4 rfl) rfl own_wt (hb hby at_217) (fun _ _ => ⟨rfl, e447, (by decide : 15 + 2 ≤ _), (by decide : 84 + 20 ≤ _)⟩)
    dsimp only [Pt.U, Pt.locs, Pt.cells, Pt.slots] at Xw458 hSw458 hgw458 l458 y458 z458 A458 st458 hQ458
    subst l458 y458 z458
    obtain ⟨X458, hS458, hZ458, hown458⟩ := rebS (s := s) (T := T458) hS9 hk452 Xw458 hSw458 (by rw [← e447]; exact hgw458) hZ9 hown9
    have hk458 : T458.heap.size ≤ T458.heap.size := Nat.le_refl _
    obtain ⟨rfl, Nq458, K458, gE458, gW458, gB458, gM458⟩ := hQ458
    have N458 := Fr.app N9 Nq458
    have CR460 := CR449.trans A458
    have Z461 : n0 ≤ T458.heap.size := Nat.le_trans Z450 K458.1
    have O462 : Old Z n0 T458.heap := O451.keep K458 (allS g448 all0)
    have G463 : ∀ tq, Steps p.tables e below (T458.setTop (mkF m 220 #[iv p1, iv p2, iv p3, iv p4, iv p5, iv p6, iv n9, iv c0, iv c1, iv c2, rv b9, rv x9, iv s19, iv s29, rv bE, iv 2, uu, uu, uu, uu] [.ref b447])) tq → Steps p.tables e below (T9.setTop (mkF m 207 #[iv p1, iv p2, iv p3, iv p4, iv p5, iv p6, iv n9, iv c0, iv c1, iv c2, rv b9, rv x9, iv s19, iv s29, rv bE, iv 2, uu, uu, uu, uu] [])) tq := by
      intro tq kk
      show Steps _ _ _ (T9.setTop (mkF m 207 #[iv p1, iv p2, iv p3, iv p4, iv p5, iv p6, iv n9, iv c0, iv c1, iv c2, rv b9, rv x9, iv s19, iv s29, rv bE, iv 2, uu, uu, uu, uu] [])) _
      refine st447 _ ?_
      show Steps _ _ _ (T447.setTop (mkF m 210 #[iv p1, iv p2, iv p3, iv p4, iv p5, iv p6, iv n9, iv c0, iv c1, iv c2, rv b9, rv x9, iv s19, iv s29, rv bE, iv 2, uu, uu, uu, uu] [.ref b447])) _
      refine XS.dup X447.here hx rfl (hb hby at_210) rfl rfl ?_
      show Steps _ _ _ (T447.setTop (mkF m 211 _ [.ref b447, .ref b447])) _
      refine XS.aload X447.here hx rfl (hb hby at_211) rfl rfl ?_
      show Steps _ _ _ (T447.setTop (mkF m 213 _ [.ref x9, .ref b447, .ref b447])) _
      refine XS.iload X447.here hx rfl (hb hby at_213) rfl ?_
      show Steps _ _ _ (T447.setTop (mkF m 215 _ [.int p5, .ref x9, .ref b447, .ref b447])) _
      refine XS.iload X447.here hx rfl (hb hby at_215) rfl ?_
      show Steps _ _ _ (T447.setTop (mkF m 217 _ [.int p6, .int p5, .ref x9, .ref b447, .ref b447])) _
      refine st458.trans ?_
      exact kk
    have f464 := ((SB9.ext E447).keep K458 (allS (Nat.le_of_eq g447.symm) all0))
    have SXb := f464.now
    obtain ⟨cq465, kq465, q465a, q465b, q465c⟩ := isOf hZ458 rfl gE458
    obtain ⟨_, _, ⟨T465, L465, k465, n465⟩, -, X465, ⟨Lc465, hQ465, l465, y465, z465⟩, st465⟩ := X458.virtualBack hx (y := (⟨"com/example/shush/shush/Occurrence", "matched", "()[I"⟩ : MethodName)) (z := (⟨"com/example/shush/shush/Occurrence", "matched", "()[I"⟩ : MethodName)) hown458 (mvT hZ458 (W 52 rfl)) (mvT hZ458 (W 53 rfl)) (notFace_of_selects (args := #[]) (mvT hZ458 (W 55 rfl))) (mvT hZ458 (W 55 rfl)) (mvT hZ458 (W 54 rfl)) (by decide) (backOf (W := 0) (rm_mt l Z a0 hw [] b447 x9 _ p5 G1 G3 2 nx cs T458.heap n0 Z461 O462 gW458 gB458 gM458 SXb M O2 P5 O4 rG3 OA OH OL) hZ458 (W 56 rfl) (W 33 rfl) (by decide) (by decide)) q465a q465c (g := (mkF m 224 #[iv p1, iv p2, iv p3, iv p4, iv p5, iv p6, iv n9, iv c0, iv c1, iv c2, rv b9, rv x9, iv s19, iv s29, rv bE, iv 2, rv b447, uu, uu, uu] [.ref b447])) rfl (by rw [hml]; rfl) (Steps.refl _) (argsL := []) (rest := []) (lenOf own_pd_6 rfl) rfl own_wt (hb hby at_224) (fun _ _ => ⟨rfl, rfl, (by decide : 17 + 1 ≤ _), (by decide : 104 + 3 ≤ _)⟩)
    dsimp only [Pt.U, Pt.locs, Pt.cells, Pt.slots] at X465 l465 y465 z465 st465 hQ465
    subst l465 y465 z465
    obtain ⟨b465, kb465, hv465, Nq465, K465, sb465, Vx465⟩ := hQ465
    subst hv465
    have N465 := Fr.app N458 Nq465
    rw [hv] at Vx465
    have V465 : Arv Z T465.heap b465 kb465 .int (2 : Int32) [(.int p5), (.int y1)] (.int (0 : Int32)) := Vx465
    have g466 : n0 ≤ b465 := Nat.le_trans Z461 sb465
    have CR467 := CR460.trans (CHr.keep K465 all0 CR460.1)
    have Z468 : n0 ≤ T465.heap.size := Nat.le_trans Z461 K465.1
    have O469 : Old Z n0 T465.heap := O462.keep K465 all0
    have hk470 := Nat.le_trans hk458 K465.1
    have f471 := (((VE.ext E447).keep K458 (ninS (Nat.ne_of_lt (Nat.lt_of_lt_of_le VE.lt (Nat.le_of_eq g447.symm))) nin0)).keep K465 nin0)
    obtain ⟨_, _, ⟨T472, L472, k472, n472⟩, -, X472, ⟨Lc472, hQ472, l472, y472, z472⟩, st472⟩ := Jvm.LawKit.callS X465 hx (y := (⟨"com/example/shush/shush/OccurrenceMatchedPinLaw", "same", "([I[II)Z"⟩ : MethodName)) hown458 (mvT hZ458 (W 86 rfl)) (mvT hZ458 (W 87 rfl)) (mvT hZ458 (W 3 rfl)) (mvT hZ458 (W 88 rfl)) (by decide) (backOf (W := 0) (rm_same2 l Z a0 hw [] b465 bE kb465 kE p5 y1 T465.heap n0 Z468 V465 f471) hZ458 (W 88 rfl) (W 3 rfl) (by decide) (by decide)) (g := (mkF m 235 #[iv p1, iv p2, iv p3, iv p4, iv p5, iv p6, iv n9, iv c0, iv c1, iv c2, rv b9, rv x9, iv s19, iv s29, rv bE, iv 2, rv b447, rv b465, uu, uu] [.int 2, .ref bE, .ref b465])) rfl (by rw [hml]; rfl) (argsL := [.ref b465, .ref bE, .int 2]) (rest := []) (lenOf own_pd_13 rfl) rfl own_wt (hb hby at_235) (fun _ _ => ⟨rfl, rfl, (by decide : 18 + 0 ≤ _), (by decide : 107 + 0 ≤ _)⟩)
    dsimp only [Pt.U, Pt.locs, Pt.cells, Pt.slots] at X472 l472 y472 z472 st472 hQ472
    subst l472 y472 z472
    obtain ⟨rfl, Nq472, e472⟩ := hQ472
    have N472 := Fr.app N465 Nq472
    have G473 : ∀ tq, Steps p.tables e below (T472.setTop (mkF m 240 #[iv p1, iv p2, iv p3, iv p4, iv p5, iv p6, iv n9, iv c0, iv c1, iv c2, rv b9, rv x9, iv s19, iv s29, rv bE, iv 2, rv b447, rv b465, iv 1, uu] [])) tq → Steps p.tables e below (T458.setTop (mkF m 220 #[iv p1, iv p2, iv p3, iv p4, iv p5, iv p6, iv n9, iv c0, iv c1, iv c2, rv b9, rv x9, iv s19, iv s29, rv bE, iv 2, uu, uu, uu, uu] [.ref b447])) tq := by
      intro tq kk
      show Steps _ _ _ (T458.setTop (mkF m 220 #[iv p1, iv p2, iv p3, iv p4, iv p5, iv p6, iv n9, iv c0, iv c1, iv c2, rv b9, rv x9, iv s19, iv s29, rv bE, iv 2, uu, uu, uu, uu] [.ref b447])) _
      refine XS.astore X458.here hx rfl (hb hby at_220) rfl rfl (l' := #[iv p1, iv p2, iv p3, iv p4, iv p5, iv p6, iv n9, iv c0, iv c1, iv c2, rv b9, rv x9, iv s19, iv s29, rv bE, iv 2, rv b447, uu, uu, uu]) rfl ?_
      show Steps _ _ _ (T458.setTop (mkF m 222 _ [])) _
      refine XS.aload X458.here hx rfl (hb hby at_222) rfl rfl ?_
      show Steps _ _ _ (T458.setTop (mkF m 224 _ [.ref b447])) _
      refine st465.trans ?_
      show Steps _ _ _ (T465.setTop (mkF m 227 #[iv p1, iv p2, iv p3, iv p4, iv p5, iv p6, iv n9, iv c0, iv c1, iv c2, rv b9, rv x9, iv s19, iv s29, rv bE, iv 2, rv b447, uu, uu, uu] [.ref b465])) _
      refine XS.astore X465.here hx rfl (hb hby at_227) rfl rfl (l' := #[iv p1, iv p2, iv p3, iv p4, iv p5, iv p6, iv n9, iv c0, iv c1, iv c2, rv b9, rv x9, iv s19, iv s29, rv bE, iv 2, rv b447, rv b465, uu, uu]) rfl ?_
      show Steps _ _ _ (T465.setTop (mkF m 229 _ [])) _
      refine XS.aload X465.here hx rfl (hb hby at_229) rfl rfl ?_
      show Steps _ _ _ (T465.setTop (mkF m 231 _ [.ref b465])) _
      refine XS.aload X465.here hx rfl (hb hby at_231) rfl rfl ?_
      show Steps _ _ _ (T465.setTop (mkF m 233 _ [.ref bE, .ref b465])) _
      refine XS.iload X465.here hx rfl (hb hby at_233) rfl ?_
      show Steps _ _ _ (T465.setTop (mkF m 235 _ [.int 2, .ref bE, .ref b465])) _
      refine st472 _ ?_
      show Steps _ _ _ (T472.setTop (mkF m 238 #[iv p1, iv p2, iv p3, iv p4, iv p5, iv p6, iv n9, iv c0, iv c1, iv c2, rv b9, rv x9, iv s19, iv s29, rv bE, iv 2, rv b447, rv b465, uu, uu] [.int 1])) _
      refine XS.istore X472.here hx rfl (hb hby at_238) rfl (l' := #[iv p1, iv p2, iv p3, iv p4, iv p5, iv p6, iv n9, iv c0, iv c1, iv c2, rv b9, rv x9, iv s19, iv s29, rv bE, iv 2, rv b447, rv b465, iv 1, uu]) rfl ?_
      exact kk
    obtain ⟨cl474, Ar474, aq474, aS474, aN474, aH474, aG474⟩ := id V465
    obtain ⟨T475, h475, X475, e475, W475, st475⟩ := stI X472 hx hZ458 e472 Ar474 (j := (0 : Int32)) (inb_of aS474 ⟨(by decide), (by decide)⟩) (g := (mkF m 255 #[iv p1, iv p2, iv p3, iv p4, iv p5, iv p6, iv n9, iv c0, iv c1, iv c2, rv b9, rv x9, iv s19, iv s29, rv bE, iv 2, rv b447, rv b465, iv 1, uu] [.int (p5 + (1 : Int32)), .int 0, .ref b465])) rfl rfl (hb hby at_255)
    have N475 := Fr.snoc X475 N472 g466
    have V475 : Arv Z h475 b465 kb465 .int (2 : Int32) [(.int (p5 + (1 : Int32))), (.int y1)] (.int (0 : Int32)) := Arv.set Ar474 aq474 aS474 aN474 aH474 aG474 rfl W475 0 rfl (Nat.le_of_ble_eq_true rfl)
    have f477 := (Safe.keep K465 all0 CR460.1 (Safe.new sb465))
    have CR476 := CR467.trans (CHr.wr W475 f477 CR467.1)
    have Z478 : n0 ≤ h475.size := Nat.le_trans Z468 (Keep.of_wr W475).1
    have O479 : Old Z n0 h475 := O469.wr W475 g466
    have hk480 := Nat.le_trans hk470 (Keep.of_wr W475).1
    have G481 : ∀ tq, Steps p.tables e below (T475.setTop (mkF m 256 #[iv p1, iv p2, iv p3, iv p4, iv p5, iv p6, iv n9, iv c0, iv c1, iv c2, rv b9, rv x9, iv s19, iv s29, rv bE, iv 2, rv b447, rv b465, iv 1, uu] [])) tq → Steps p.tables e below (T472.setTop (mkF m 240 #[iv p1, iv p2, iv p3, iv p4, iv p5, iv p6, iv n9, iv c0, iv c1, iv c2, rv b9, rv x9, iv s19, iv s29, rv bE, iv 2, rv b447, rv b465, iv 1, uu] [])) tq := by
      intro tq kk
      show Steps _ _ _ (T472.setTop (mkF m 240 #[iv p1, iv p2, iv p3, iv p4, iv p5, iv p6, iv n9, iv c0, iv c1, iv c2, rv b9, rv x9, iv s19, iv s29, rv bE, iv 2, rv b447, rv b465, iv 1, uu] [])) _
      refine XS.aload X472.here hx rfl (hb hby at_240) rfl rfl ?_
      show Steps _ _ _ (T472.setTop (mkF m 242 _ [.ref b465])) _
      refine X472.arraylength hx (by rw [e472]; exact Ar474.1) (State.isArrayOf_alike hZ458.alike Ar474.2.1) (g := (mkF m 242 #[iv p1, iv p2, iv p3, iv p4, iv p5, iv p6, iv n9, iv c0, iv c1, iv c2, rv b9, rv x9, iv s19, iv s29, rv bE, iv 2, rv b447, rv b465, iv 1, uu] [.ref b465])) rfl rfl (hb hby at_242) _ ?_
      rw [len_of aS474 aN474]
      show Steps _ _ _ (T472.setTop (mkF m 243 #[iv p1, iv p2, iv p3, iv p4, iv p5, iv p6, iv n9, iv c0, iv c1, iv c2, rv b9, rv x9, iv s19, iv s29, rv bE, iv 2, rv b447, rv b465, iv 1, uu] [.int 2])) _
      refine XS.ifNo X472.here hx rfl (hb hby at_243) rfl ((if0 _ _).trans (tlt ((by decide) : (0 : Int32) < (2 : Int32))).2.2.2) ?_
      show Steps _ _ _ (T472.setTop (mkF m 246 _ [])) _
      refine XS.aload X472.here hx rfl (hb hby at_246) rfl rfl ?_
      show Steps _ _ _ (T472.setTop (mkF m 248 _ [.ref b465])) _
      refine XS.iconst X472.here hx rfl (hb hby at_248) ?_
      show Steps _ _ _ (T472.setTop (mkF m 249 _ [.int 0, .ref b465])) _
      refine XS.aload X472.here hx rfl (hb hby at_249) rfl rfl ?_
      show Steps _ _ _ (T472.setTop (mkF m 251 _ [.ref b465, .int 0, .ref b465])) _
      refine XS.iconst X472.here hx rfl (hb hby at_251) ?_
      show Steps _ _ _ (T472.setTop (mkF m 252 _ [.int 0, .ref b465, .int 0, .ref b465])) _
      refine X472.iaload hx (j := (0 : Int32)) (v := (.int p5)) (by rw [e472]; exact Ar474.1) (State.isArrayOf_alike hZ458.alike Ar474.2.1) Ar474.2.2 (inb_of aS474 ⟨(by decide), (by decide)⟩) (Has.at aH474 (inb_of aS474 ⟨(by decide), (by decide)⟩) rfl) (g := (mkF m 252 #[iv p1, iv p2, iv p3, iv p4, iv p5, iv p6, iv n9, iv c0, iv c1, iv c2, rv b9, rv x9, iv s19, iv s29, rv bE, iv 2, rv b447, rv b465, iv 1, uu] [.int 0, .ref b465, .int 0, .ref b465])) rfl rfl (hb hby at_252) _ ?_
      show Steps _ _ _ (T472.setTop (mkF m 253 #[iv p1, iv p2, iv p3, iv p4, iv p5, iv p6, iv n9, iv c0, iv c1, iv c2, rv b9, rv x9, iv s19, iv s29, rv bE, iv 2, rv b447, rv b465, iv 1, uu] [.int p5, .int 0, .ref b465])) _
      refine XS.iconst X472.here hx rfl (hb hby at_253) ?_
      show Steps _ _ _ (T472.setTop (mkF m 254 _ [.int 1, .int p5, .int 0, .ref b465])) _
      refine XS.iadd X472.here hx rfl (hb hby at_254) rfl ?_
      show Steps _ _ _ (T472.setTop (mkF m 255 _ [.int (p5 + (1 : Int32)), .int 0, .ref b465])) _
      refine st475 _ ?_
      exact kk
    have f482 := (Nat.lt_of_lt_of_le A447.lt K458.1)
    have f483 := ((gW458.keep K465 nin0).other W475 (Or.inl (Nat.ne_of_lt (Nat.lt_of_lt_of_le f482 sb465))))
    have f484 := ((gB458.keep K465 nin0).other W475 (Or.inl (Nat.ne_of_lt (Nat.lt_of_lt_of_le f482 sb465))))
    have f485 := ((gM458.keep K465 nin0).other W475 (Or.inl (Nat.ne_of_lt (Nat.lt_of_lt_of_le f482 sb465))))
    have f486 := ((SXb.keep K465 all0).wr W475 sb465)
    have f488 := ((gE458.keep K465).wr W475)
    obtain ⟨cq487, kq487, q487a, q487b, q487c⟩ := isOf hZ458 e475 f488
    obtain ⟨_, _, ⟨T487, L487, k487, n487⟩, -, X487, ⟨Lc487, hQ487, l487, y487, z487⟩, st487⟩ := X475.virtualBack hx (y := (⟨"com/example/shush/shush/Occurrence", "matched", "()[I"⟩ : MethodName)) (z := (⟨"com/example/shush/shush/Occurrence", "matched", "()[I"⟩ : MethodName)) hown458 (mvT hZ458 (W 52 rfl)) (mvT hZ458 (W 53 rfl)) (notFace_of_selects (args := #[]) (mvT hZ458 (W 55 rfl))) (mvT hZ458 (W 55 rfl)) (mvT hZ458 (W 54 rfl)) (by decide) (backOf (W := 0) (rm_mt l Z a0 hw [] b447 x9 _ p5 G1 G3 2 nx cs h475 n0 Z478 O479 f483 f484 f485 f486 M O2 P5 O4 rG3 OA OH OL) hZ458 (W 56 rfl) (W 33 rfl) (by decide) (by decide)) q487a q487c (g := (mkF m 258 #[iv p1, iv p2, iv p3, iv p4, iv p5, iv p6, iv n9, iv c0, iv c1, iv c2, rv b9, rv x9, iv s19, iv s29, rv bE, iv 2, rv b447, rv b465, iv 1, uu] [.ref b447])) rfl (by rw [hml]; rfl) (Steps.refl _) (argsL := []) (rest := []) (lenOf own_pd_6 rfl) rfl own_wt (hb hby at_258) (fun _ _ => ⟨rfl, e475, (by decide : 18 + 1 ≤ _), (by decide : 107 + 3 ≤ _)⟩)
    dsimp only [Pt.U, Pt.locs, Pt.cells, Pt.slots] at X487 l487 y487 z487 st487 hQ487
    subst l487 y487 z487
    obtain ⟨b487, kb487, hv487, Nq487, K487, sb487, Vx487⟩ := hQ487
    subst hv487
    have N487 := Fr.app N475 Nq487
    rw [hv] at Vx487
    have V487 : Arv Z T487.heap b487 kb487 .int (2 : Int32) [(.int p5), (.int y1)] (.int (0 : Int32)) := Vx487
    have g489 : n0 ≤ b487 := Nat.le_trans Z478 sb487
    have CR490 := CR476.trans (CHr.keep K487 all0 CR476.1)
    have Z491 : n0 ≤ T487.heap.size := Nat.le_trans Z478 K487.1
    have O492 : Old Z n0 T487.heap := O479.keep K487 all0
    have hk493 := Nat.le_trans hk480 K487.1
    have f494 := (Nat.lt_of_lt_of_le (Nat.lt_of_lt_of_le VE.lt E447.1) K458.1)
    have f495 := ((f471.other W475 (Nat.ne_of_lt (Nat.lt_of_lt_of_le f494 sb465))).keep K487 nin0)
    obtain ⟨_, _, ⟨T496, L496, k496, n496⟩, -, X496, ⟨Lc496, hQ496, l496, y496, z496⟩, st496⟩ := Jvm.LawKit.callS X487 hx (y := (⟨"com/example/shush/shush/OccurrenceMatchedPinLaw", "same", "([I[II)Z"⟩ : MethodName)) hown458 (mvT hZ458 (W 86 rfl)) (mvT hZ458 (W 87 rfl)) (mvT hZ458 (W 3 rfl)) (mvT hZ458 (W 88 rfl)) (by decide) (backOf (W := 0) (rm_same2 l Z a0 hw [] b487 bE kb487 kE p5 y1 T487.heap n0 Z491 V487 f495) hZ458 (W 88 rfl) (W 3 rfl) (by decide) (by decide)) (g := (mkF m 274 #[iv p1, iv p2, iv p3, iv p4, iv p5, iv p6, iv n9, iv c0, iv c1, iv c2, rv b9, rv x9, iv s19, iv s29, rv bE, iv 2, rv b447, rv b465, iv 1, rv b487] [.int 2, .ref bE, .ref b487])) rfl (by rw [hml]; rfl) (argsL := [.ref b487, .ref bE, .int 2]) (rest := []) (lenOf own_pd_13 rfl) rfl own_wt (hb hby at_274) (fun _ _ => ⟨rfl, rfl, (by decide : 19 + 0 ≤ _), (by decide : 110 + 0 ≤ _)⟩)
    dsimp only [Pt.U, Pt.locs, Pt.cells, Pt.slots] at X496 l496 y496 z496 st496 hQ496
    subst l496 y496 z496
    obtain ⟨rfl, Nq496, e496⟩ := hQ496
    have N496 := Fr.app N487 Nq496
    have CRe := CR490.trans (CHv.at X496 hZ458 hEL CR490.1)
    obtain ⟨fs, hr, hrun, hended, hRW⟩ := X496.leaveW hS458 (by rw [e496]; exact hk493) (v := some (.int (1 : Int32))) (fun h => by rw [Bd.returns] at h; cases h)
    refine ⟨_, _, G463 _ (G473 _ (G481 _ (?_))), hrun, hended, _, _, rfl, ?_, (by rw [hh]; show CHr Z _ s.vm h0 T496.vm T496.heap; rw [e496]; exact CRe), hRW.1, hRW.2.1, hRW.2.2.1, hRW.2.2.2.mono (by decide) (by decide)⟩
    · show Steps _ _ _ (T475.setTop (mkF m 256 #[iv p1, iv p2, iv p3, iv p4, iv p5, iv p6, iv n9, iv c0, iv c1, iv c2, rv b9, rv x9, iv s19, iv s29, rv bE, iv 2, rv b447, rv b465, iv 1, uu] [])) _
      refine XS.aload X475.here hx rfl (hb hby at_256) rfl rfl ?_
      show Steps _ _ _ (T475.setTop (mkF m 258 _ [.ref b447])) _
      refine st487.trans ?_
      show Steps _ _ _ (T487.setTop (mkF m 261 #[iv p1, iv p2, iv p3, iv p4, iv p5, iv p6, iv n9, iv c0, iv c1, iv c2, rv b9, rv x9, iv s19, iv s29, rv bE, iv 2, rv b447, rv b465, iv 1, uu] [.ref b487])) _
      refine XS.astore X487.here hx rfl (hb hby at_261) rfl rfl (l' := #[iv p1, iv p2, iv p3, iv p4, iv p5, iv p6, iv n9, iv c0, iv c1, iv c2, rv b9, rv x9, iv s19, iv s29, rv bE, iv 2, rv b447, rv b465, iv 1, rv b487]) rfl ?_
      show Steps _ _ _ (T487.setTop (mkF m 263 _ [])) _
      refine XS.iload X487.here hx rfl (hb hby at_263) rfl ?_
      show Steps _ _ _ (T487.setTop (mkF m 265 _ [.int 1])) _
      refine XS.ifNo X487.here hx rfl (hb hby at_265) rfl ((if0 _ _).trans (feq ((by decide) : ¬ ((1 : Int32) = (0 : Int32)))).1) ?_
      show Steps _ _ _ (T487.setTop (mkF m 268 _ [])) _
      refine XS.aload X487.here hx rfl (hb hby at_268) rfl rfl ?_
      show Steps _ _ _ (T487.setTop (mkF m 270 _ [.ref b487])) _
      refine XS.aload X487.here hx rfl (hb hby at_270) rfl rfl ?_
      show Steps _ _ _ (T487.setTop (mkF m 272 _ [.ref bE, .ref b487])) _
      refine XS.iload X487.here hx rfl (hb hby at_272) rfl ?_
      show Steps _ _ _ (T487.setTop (mkF m 274 _ [.int 2, .ref bE, .ref b487])) _
      refine st496 _ ?_
      show Steps _ _ _ (T496.setTop (mkF m 277 #[iv p1, iv p2, iv p3, iv p4, iv p5, iv p6, iv n9, iv c0, iv c1, iv c2, rv b9, rv x9, iv s19, iv s29, rv bE, iv 2, rv b447, rv b465, iv 1, rv b487] [.int 1])) _
      refine XS.ifNo X496.here hx rfl (hb hby at_277) rfl ((if0 _ _).trans (feq ((by decide) : ¬ ((1 : Int32) = (0 : Int32)))).1) ?_
      show Steps _ _ _ (T496.setTop (mkF m 280 _ [])) _
      refine XS.iconst X496.here hx rfl (hb hby at_280) ?_
      show Steps _ _ _ (T496.setTop (mkF m 281 _ [.int 1])) _
      refine XS.goto X496.here hx rfl (pc0 := 281) (pc' := 285) rfl (hb hby at_281) (by decide) (by decide) ?_
      show Steps _ _ _ (T496.setTop (mkF m 285 _ [.int 1])) _
      exact retN X496 hx (t := .boolean) Bd.returns (by simp) (hb hby at_285) hr
    · show Q_law Z p1 p2 p3 p4 p5 p6 G1 G3 h0 n0 _ T496.heap _
      rw [e496]
      exact ⟨rfl, N496⟩
  have tail3 : ∀ (vm9 : Vm) (T9 : State) (h9 : Heap) (locs9 : List Loc) (k9 : Nat) (n9 s19 s29 : Int32) (b9 x9 bE : Addr) (kE : ClassId) (cs : List Int32) (nx : Nat → Nat) (y1 y2 : Int32), Stand p l e room_1 (s.setVm vm9) m #[(.int p1), (.int p2), (.int p3), (.int p4), (.int p5), (.int p6)] below meth c T9 locs9 14 80 → T9.heap = h9 → Fr n0 locs9 → n0 ≤ h9.size → Old Z n0 h9 → s.Since vm9 k9 → k9 ≤ h9.size → Z.Warmed39 (s.setVm vm9).vm → (s.setVm vm9).vm.findClass "com/example/shush/shush/OccurrenceMatchedPinLaw" = some m.cls → CHr Z own_EL s.vm h0 vm9 h9 → StrB Z h9 h9.size x9 cs → Arv Z h9 bE kE .int (3 : Int32) [(.int p5), (.int y1), (.int y2)] (.int (0 : Int32)) → own_cfg l Z n0 cs nx 3 → own_vals p5 nx 3 = [(.int p5), (.int y1), (.int y2)] → ∃ s₂ o, Steps p.tables e below (T9.setTop (mkF m 207 #[iv p1, iv p2, iv p3, iv p4, iv p5, iv p6, iv n9, iv c0, iv c1, iv c2, rv b9, rv x9, iv s19, iv s29, rv bE, iv 3, uu, uu, uu, uu] [])) s₂ ∧ s₂.status = .running ∧ Ended s₂ below o ∧ (∃ v L, o = .returned v ∧ Q_law Z p1 p2 p3 p4 p5 p6 G1 G3 h0 n0 v s₂.heap L ∧ CHr Z own_EL s.vm s.heap s₂.vm s₂.heap ∧ ReturnedEndW s o s₂ L 32 2240) := by
    intro vm9 T9 h9 locs9 k9 n9 s19 s29 b9 x9 bE kE cs nx y1 y2 X9 e9 N9 Z9 O9 hS9 hk9 hZ9 hown9 CR9 SB9 VE M hv
    have EX9 := SB9.exa
    obtain ⟨T497, h497, X497, e497, E497, A497, D497, -, st497⟩ := newO X9 hx hZ9 hown9 (W 31 rfl) (W 32 rfl) (W 33 rfl) e9 (g := (mkF m 207 #[iv p1, iv p2, iv p3, iv p4, iv p5, iv p6, iv n9, iv c0, iv c1, iv c2, rv b9, rv x9, iv s19, iv s29, rv bE, iv 3, uu, uu, uu, uu] [])) rfl (hb hby at_207) (by decide) (by decide)
    obtain ⟨b497, g497⟩ : ∃ z, z = h9.size := ⟨_, rfl⟩
    rw [← g497] at A497 D497 st497
    have g498 : n0 ≤ b497 := Nat.le_trans Z9 (Nat.le_of_eq g497.symm)
    have CR499 := CR9.trans (CHr.ext E497 CR9.1)
    have Z500 : n0 ≤ h497.size := Nat.le_trans Z9 E497.1
    have O501 : Old Z n0 h497 := O9.ext E497
    have hk502 := Nat.le_trans hk9 E497.1
    have F503 : Fld Z h497 b497 "com/example/shush/shush/Occurrence" "word" "Ljava/lang/String;" .null := D497 (Or.inr (W 45 rfl)) (ty := (.object "java/lang/String")) (by decide)
    have F504 : Fld Z h497 b497 "com/example/shush/shush/Occurrence" "begin" "I" (.int (0 : Int32)) := D497 (Or.inr (W 47 rfl)) (ty := .int) (by decide)
    have F505 : Fld Z h497 b497 "com/example/shush/shush/Occurrence" "end" "I" (.int (0 : Int32)) := D497 (Or.inr (W 49 rfl)) (ty := .int) (by decide)
    have F506 : Fld Z h497 b497 "com/example/shush/shush/Occurrence" "matched" "[I" .null := D497 (Or.inr (W 51 rfl)) (ty := (.array .int)) (by decide)
    have f507 := (EX9.ext E497)
    have f509 := (Safe.ext E497 CR9.1 (Safe.new (Nat.le_of_eq g497.symm)))
    obtain ⟨_, _, ⟨T508, L508, k508, n508⟩, -, Xw508, hSw508, hgw508, ⟨Lc508, hQ508, l508, y508, z508, A508⟩, st508⟩ := X497.specialBackS hx (y := (⟨"com/example/shush/shush/Occurrence", "<init>", "(Ljava/lang/String;II)V"⟩ : MethodName)) rfl hown9 (mvT hZ9 (W 34 rfl)) (mvT hZ9 (W 35 rfl)) (mvT hZ9 (W 36 rfl)) (by decide) (own_backX (s := s) (W := 1) (rm_oinit l Z a0 hw [] b497 x9 p5 p6 h497 n0 Z500 A497 g498 F503 F504 F505 F506 f507) hZ9 (W 36 rfl) (W 33 rfl) (by decide) (by decide) hEL (xs := [b497]) ⟨CR499.1, (allS f509 all0)⟩ (allS A497.lt all0)) (g := (mkF m 217 #[iv p1, iv p2, iv p3, iv p4, iv p5, iv p6, iv n9, iv c0, iv c1, iv c2, rv b9, rv x9, iv s19, iv s29, rv bE, iv 3, uu, uu, uu, uu] [.int p6, .int p5, .ref x9, .ref b497, .ref b497])) rfl (by rw [hml]; rfl) (Steps.refl _) (a := b497) (argsL := [.ref x9, .int p5, .int p6]) (rest := [.ref b497]) (lenOf own_pd_4 rfl) rfl own_wt (hb hby at_217) (fun _ _ => ⟨rfl, e497, (by decide : 15 + 2 ≤ _), (by decide : 84 + 20 ≤ _)⟩)
    dsimp only [Pt.U, Pt.locs, Pt.cells, Pt.slots] at Xw508 hSw508 hgw508 l508 y508 z508 A508 st508 hQ508
    subst l508 y508 z508
    obtain ⟨X508, hS508, hZ508, hown508⟩ := rebS (s := s) (T := T508) hS9 hk502 Xw508 hSw508 (by rw [← e497]; exact hgw508) hZ9 hown9
    have hk508 : T508.heap.size ≤ T508.heap.size := Nat.le_refl _
    obtain ⟨rfl, Nq508, K508, gE508, gW508, gB508, gM508⟩ := hQ508
    have N508 := Fr.app N9 Nq508
    have CR510 := CR499.trans A508
    have Z511 : n0 ≤ T508.heap.size := Nat.le_trans Z500 K508.1
    have O512 : Old Z n0 T508.heap := O501.keep K508 (allS g498 all0)
    have G513 : ∀ tq, Steps p.tables e below (T508.setTop (mkF m 220 #[iv p1, iv p2, iv p3, iv p4, iv p5, iv p6, iv n9, iv c0, iv c1, iv c2, rv b9, rv x9, iv s19, iv s29, rv bE, iv 3, uu, uu, uu, uu] [.ref b497])) tq → Steps p.tables e below (T9.setTop (mkF m 207 #[iv p1, iv p2, iv p3, iv p4, iv p5, iv p6, iv n9, iv c0, iv c1, iv c2, rv b9, rv x9, iv s19, iv s29, rv bE, iv 3, uu, uu, uu, uu] [])) tq := by
      intro tq kk
      show Steps _ _ _ (T9.setTop (mkF m 207 #[iv p1, iv p2, iv p3, iv p4, iv p5, iv p6, iv n9, iv c0, iv c1, iv c2, rv b9, rv x9, iv s19, iv s29, rv bE, iv 3, uu, uu, uu, uu] [])) _
      refine st497 _ ?_
      show Steps _ _ _ (T497.setTop (mkF m 210 #[iv p1, iv p2, iv p3, iv p4, iv p5, iv p6, iv n9, iv c0, iv c1, iv c2, rv b9, rv x9, iv s19, iv s29, rv bE, iv 3, uu, uu, uu, uu] [.ref b497])) _
      refine XS.dup X497.here hx rfl (hb hby at_210) rfl rfl ?_
      show Steps _ _ _ (T497.setTop (mkF m 211 _ [.ref b497, .ref b497])) _
      refine XS.aload X497.here hx rfl (hb hby at_211) rfl rfl ?_
      show Steps _ _ _ (T497.setTop (mkF m 213 _ [.ref x9, .ref b497, .ref b497])) _
      refine XS.iload X497.here hx rfl (hb hby at_213) rfl ?_
      show Steps _ _ _ (T497.setTop (mkF m 215 _ [.int p5, .ref x9, .ref b497, .ref b497])) _
      refine XS.iload X497.here hx rfl (hb hby at_215) rfl ?_
      show Steps _ _ _ (T497.setTop (mkF m 217 _ [.int p6, .int p5, .ref x9, .ref b497, .ref b497])) _
      refine st508.trans ?_
      exact kk
    have f514 := ((SB9.ext E497).keep K508 (allS (Nat.le_of_eq g497.symm) all0))
    have SXb := f514.now
    obtain ⟨cq515, kq515, q515a, q515b, q515c⟩ := isOf hZ508 rfl gE508
    obtain ⟨_, _, ⟨T515, L515, k515, n515⟩, -, X515, ⟨Lc515, hQ515, l515, y515, z515⟩, st515⟩ := X508.virtualBack hx (y := (⟨"com/example/shush/shush/Occurrence", "matched", "()[I"⟩ : MethodName)) (z := (⟨"com/example/shush/shush/Occurrence", "matched", "()[I"⟩ : MethodName)) hown508 (mvT hZ508 (W 52 rfl)) (mvT hZ508 (W 53 rfl)) (notFace_of_selects (args := #[]) (mvT hZ508 (W 55 rfl))) (mvT hZ508 (W 55 rfl)) (mvT hZ508 (W 54 rfl)) (by decide) (backOf (W := 0) (rm_mt l Z a0 hw [] b497 x9 _ p5 G1 G3 3 nx cs T508.heap n0 Z511 O512 gW508 gB508 gM508 SXb M O2 P5 O4 rG3 OA OH OL) hZ508 (W 56 rfl) (W 33 rfl) (by decide) (by decide)) q515a q515c (g := (mkF m 224 #[iv p1, iv p2, iv p3, iv p4, iv p5, iv p6, iv n9, iv c0, iv c1, iv c2, rv b9, rv x9, iv s19, iv s29, rv bE, iv 3, rv b497, uu, uu, uu] [.ref b497])) rfl (by rw [hml]; rfl) (Steps.refl _) (argsL := []) (rest := []) (lenOf own_pd_6 rfl) rfl own_wt (hb hby at_224) (fun _ _ => ⟨rfl, rfl, (by decide : 17 + 1 ≤ _), (by decide : 104 + 3 ≤ _)⟩)
    dsimp only [Pt.U, Pt.locs, Pt.cells, Pt.slots] at X515 l515 y515 z515 st515 hQ515
    subst l515 y515 z515
    obtain ⟨b515, kb515, hv515, Nq515, K515, sb515, Vx515⟩ := hQ515
    subst hv515
    have N515 := Fr.app N508 Nq515
    rw [hv] at Vx515
    have V515 : Arv Z T515.heap b515 kb515 .int (3 : Int32) [(.int p5), (.int y1), (.int y2)] (.int (0 : Int32)) := Vx515
    have g516 : n0 ≤ b515 := Nat.le_trans Z511 sb515
    have CR517 := CR510.trans (CHr.keep K515 all0 CR510.1)
    have Z518 : n0 ≤ T515.heap.size := Nat.le_trans Z511 K515.1
    have O519 : Old Z n0 T515.heap := O512.keep K515 all0
    have hk520 := Nat.le_trans hk508 K515.1
    have f521 := (((VE.ext E497).keep K508 (ninS (Nat.ne_of_lt (Nat.lt_of_lt_of_le VE.lt (Nat.le_of_eq g497.symm))) nin0)).keep K515 nin0)
    obtain ⟨_, _, ⟨T522, L522, k522, n522⟩, -, X522, ⟨Lc522, hQ522, l522, y522, z522⟩, st522⟩ := Jvm.LawKit.callS X515 hx (y := (⟨"com/example/shush/shush/OccurrenceMatchedPinLaw", "same", "([I[II)Z"⟩ : MethodName)) hown508 (mvT hZ508 (W 86 rfl)) (mvT hZ508 (W 87 rfl)) (mvT hZ508 (W 3 rfl)) (mvT hZ508 (W 88 rfl)) (by decide) (backOf (W := 0) (rm_same3 l Z a0 hw [] b515 bE kb515 kE p5 y1 y2 T515.heap n0 Z518 V515 f521) hZ508 (W 88 rfl) (W 3 rfl) (by decide) (by decide)) (g := (mkF m 235 #[iv p1, iv p2, iv p3, iv p4, iv p5, iv p6, iv n9, iv c0, iv c1, iv c2, rv b9, rv x9, iv s19, iv s29, rv bE, iv 3, rv b497, rv b515, uu, uu] [.int 3, .ref bE, .ref b515])) rfl (by rw [hml]; rfl) (argsL := [.ref b515, .ref bE, .int 3]) (rest := []) (lenOf own_pd_13 rfl) rfl own_wt (hb hby at_235) (fun _ _ => ⟨rfl, rfl, (by decide : 18 + 0 ≤ _), (by decide : 107 + 0 ≤ _)⟩)
    dsimp only [Pt.U, Pt.locs, Pt.cells, Pt.slots] at X522 l522 y522 z522 st522 hQ522
    subst l522 y522 z522
    obtain ⟨rfl, Nq522, e522⟩ := hQ522
    have N522 := Fr.app N515 Nq522
    have G523 : ∀ tq, Steps p.tables e below (T522.setTop (mkF m 240 #[iv p1, iv p2, iv p3, iv p4, iv p5, iv p6, iv n9, iv c0, iv c1, iv c2, rv b9, rv x9, iv s19, iv s29, rv bE, iv 3, rv b497, rv b515, iv 1, uu] [])) tq → Steps p.tables e below (T508.setTop (mkF m 220 #[iv p1, iv p2, iv p3, iv p4, iv p5, iv p6, iv n9, iv c0, iv c1, iv c2, rv b9, rv x9, iv s19, iv s29, rv bE, iv 3, uu, uu, uu, uu] [.ref b497])) tq := by
      intro tq kk
      show Steps _ _ _ (T508.setTop (mkF m 220 #[iv p1, iv p2, iv p3, iv p4, iv p5, iv p6, iv n9, iv c0, iv c1, iv c2, rv b9, rv x9, iv s19, iv s29, rv bE, iv 3, uu, uu, uu, uu] [.ref b497])) _
      refine XS.astore X508.here hx rfl (hb hby at_220) rfl rfl (l' := #[iv p1, iv p2, iv p3, iv p4, iv p5, iv p6, iv n9, iv c0, iv c1, iv c2, rv b9, rv x9, iv s19, iv s29, rv bE, iv 3, rv b497, uu, uu, uu]) rfl ?_
      show Steps _ _ _ (T508.setTop (mkF m 222 _ [])) _
      refine XS.aload X508.here hx rfl (hb hby at_222) rfl rfl ?_
      show Steps _ _ _ (T508.setTop (mkF m 224 _ [.ref b497])) _
      refine st515.trans ?_
      show Steps _ _ _ (T515.setTop (mkF m 227 #[iv p1, iv p2, iv p3, iv p4, iv p5, iv p6, iv n9, iv c0, iv c1, iv c2, rv b9, rv x9, iv s19, iv s29, rv bE, iv 3, rv b497, uu, uu, uu] [.ref b515])) _
      refine XS.astore X515.here hx rfl (hb hby at_227) rfl rfl (l' := #[iv p1, iv p2, iv p3, iv p4, iv p5, iv p6, iv n9, iv c0, iv c1, iv c2, rv b9, rv x9, iv s19, iv s29, rv bE, iv 3, rv b497, rv b515, uu, uu]) rfl ?_
      show Steps _ _ _ (T515.setTop (mkF m 229 _ [])) _
      refine XS.aload X515.here hx rfl (hb hby at_229) rfl rfl ?_
      show Steps _ _ _ (T515.setTop (mkF m 231 _ [.ref b515])) _
      refine XS.aload X515.here hx rfl (hb hby at_231) rfl rfl ?_
      show Steps _ _ _ (T515.setTop (mkF m 233 _ [.ref bE, .ref b515])) _
      refine XS.iload X515.here hx rfl (hb hby at_233) rfl ?_
      show Steps _ _ _ (T515.setTop (mkF m 235 _ [.int 3, .ref bE, .ref b515])) _
      refine st522 _ ?_
      show Steps _ _ _ (T522.setTop (mkF m 238 #[iv p1, iv p2, iv p3, iv p4, iv p5, iv p6, iv n9, iv c0, iv c1, iv c2, rv b9, rv x9, iv s19, iv s29, rv bE, iv 3, rv b497, rv b515, uu, uu] [.int 1])) _
      refine XS.istore X522.here hx rfl (hb hby at_238) rfl (l' := #[iv p1, iv p2, iv p3, iv p4, iv p5, iv p6, iv n9, iv c0, iv c1, iv c2, rv b9, rv x9, iv s19, iv s29, rv bE, iv 3, rv b497, rv b515, iv 1, uu]) rfl ?_
      exact kk
    obtain ⟨cl524, Ar524, aq524, aS524, aN524, aH524, aG524⟩ := id V515
    obtain ⟨T525, h525, X525, e525, W525, st525⟩ := stI X522 hx hZ508 e522 Ar524 (j := (0 : Int32)) (inb_of aS524 ⟨(by decide), (by decide)⟩) (g := (mkF m 255 #[iv p1, iv p2, iv p3, iv p4, iv p5, iv p6, iv n9, iv c0, iv c1, iv c2, rv b9, rv x9, iv s19, iv s29, rv bE, iv 3, rv b497, rv b515, iv 1, uu] [.int (p5 + (1 : Int32)), .int 0, .ref b515])) rfl rfl (hb hby at_255)
    have N525 := Fr.snoc X525 N522 g516
    have V525 : Arv Z h525 b515 kb515 .int (3 : Int32) [(.int (p5 + (1 : Int32))), (.int y1), (.int y2)] (.int (0 : Int32)) := Arv.set Ar524 aq524 aS524 aN524 aH524 aG524 rfl W525 0 rfl (Nat.le_of_ble_eq_true rfl)
    have f527 := (Safe.keep K515 all0 CR510.1 (Safe.new sb515))
    have CR526 := CR517.trans (CHr.wr W525 f527 CR517.1)
    have Z528 : n0 ≤ h525.size := Nat.le_trans Z518 (Keep.of_wr W525).1
    have O529 : Old Z n0 h525 := O519.wr W525 g516
    have hk530 := Nat.le_trans hk520 (Keep.of_wr W525).1
    have G531 : ∀ tq, Steps p.tables e below (T525.setTop (mkF m 256 #[iv p1, iv p2, iv p3, iv p4, iv p5, iv p6, iv n9, iv c0, iv c1, iv c2, rv b9, rv x9, iv s19, iv s29, rv bE, iv 3, rv b497, rv b515, iv 1, uu] [])) tq → Steps p.tables e below (T522.setTop (mkF m 240 #[iv p1, iv p2, iv p3, iv p4, iv p5, iv p6, iv n9, iv c0, iv c1, iv c2, rv b9, rv x9, iv s19, iv s29, rv bE, iv 3, rv b497, rv b515, iv 1, uu] [])) tq := by
      intro tq kk
      show Steps _ _ _ (T522.setTop (mkF m 240 #[iv p1, iv p2, iv p3, iv p4, iv p5, iv p6, iv n9, iv c0, iv c1, iv c2, rv b9, rv x9, iv s19, iv s29, rv bE, iv 3, rv b497, rv b515, iv 1, uu] [])) _
      refine XS.aload X522.here hx rfl (hb hby at_240) rfl rfl ?_
      show Steps _ _ _ (T522.setTop (mkF m 242 _ [.ref b515])) _
      refine X522.arraylength hx (by rw [e522]; exact Ar524.1) (State.isArrayOf_alike hZ508.alike Ar524.2.1) (g := (mkF m 242 #[iv p1, iv p2, iv p3, iv p4, iv p5, iv p6, iv n9, iv c0, iv c1, iv c2, rv b9, rv x9, iv s19, iv s29, rv bE, iv 3, rv b497, rv b515, iv 1, uu] [.ref b515])) rfl rfl (hb hby at_242) _ ?_
      rw [len_of aS524 aN524]
      show Steps _ _ _ (T522.setTop (mkF m 243 #[iv p1, iv p2, iv p3, iv p4, iv p5, iv p6, iv n9, iv c0, iv c1, iv c2, rv b9, rv x9, iv s19, iv s29, rv bE, iv 3, rv b497, rv b515, iv 1, uu] [.int 3])) _
      refine XS.ifNo X522.here hx rfl (hb hby at_243) rfl ((if0 _ _).trans (tlt ((by decide) : (0 : Int32) < (3 : Int32))).2.2.2) ?_
      show Steps _ _ _ (T522.setTop (mkF m 246 _ [])) _
      refine XS.aload X522.here hx rfl (hb hby at_246) rfl rfl ?_
      show Steps _ _ _ (T522.setTop (mkF m 248 _ [.ref b515])) _
      refine XS.iconst X522.here hx rfl (hb hby at_248) ?_
      show Steps _ _ _ (T522.setTop (mkF m 249 _ [.int 0, .ref b515])) _
      refine XS.aload X522.here hx rfl (hb hby at_249) rfl rfl ?_
      show Steps _ _ _ (T522.setTop (mkF m 251 _ [.ref b515, .int 0, .ref b515])) _
      refine XS.iconst X522.here hx rfl (hb hby at_251) ?_
      show Steps _ _ _ (T522.setTop (mkF m 252 _ [.int 0, .ref b515, .int 0, .ref b515])) _
      refine X522.iaload hx (j := (0 : Int32)) (v := (.int p5)) (by rw [e522]; exact Ar524.1) (State.isArrayOf_alike hZ508.alike Ar524.2.1) Ar524.2.2 (inb_of aS524 ⟨(by decide), (by decide)⟩) (Has.at aH524 (inb_of aS524 ⟨(by decide), (by decide)⟩) rfl) (g := (mkF m 252 #[iv p1, iv p2, iv p3, iv p4, iv p5, iv p6, iv n9, iv c0, iv c1, iv c2, rv b9, rv x9, iv s19, iv s29, rv bE, iv 3, rv b497, rv b515, iv 1, uu] [.int 0, .ref b515, .int 0, .ref b515])) rfl rfl (hb hby at_252) _ ?_
      show Steps _ _ _ (T522.setTop (mkF m 253 #[iv p1, iv p2, iv p3, iv p4, iv p5, iv p6, iv n9, iv c0, iv c1, iv c2, rv b9, rv x9, iv s19, iv s29, rv bE, iv 3, rv b497, rv b515, iv 1, uu] [.int p5, .int 0, .ref b515])) _
      refine XS.iconst X522.here hx rfl (hb hby at_253) ?_
      show Steps _ _ _ (T522.setTop (mkF m 254 _ [.int 1, .int p5, .int 0, .ref b515])) _
      refine XS.iadd X522.here hx rfl (hb hby at_254) rfl ?_
      show Steps _ _ _ (T522.setTop (mkF m 255 _ [.int (p5 + (1 : Int32)), .int 0, .ref b515])) _
      refine st525 _ ?_
      exact kk
    have f532 := (Nat.lt_of_lt_of_le A497.lt K508.1)
    have f533 := ((gW508.keep K515 nin0).other W525 (Or.inl (Nat.ne_of_lt (Nat.lt_of_lt_of_le f532 sb515))))
    have f534 := ((gB508.keep K515 nin0).other W525 (Or.inl (Nat.ne_of_lt (Nat.lt_of_lt_of_le f532 sb515))))
    have f535 := ((gM508.keep K515 nin0).other W525 (Or.inl (Nat.ne_of_lt (Nat.lt_of_lt_of_le f532 sb515))))
    have f536 := ((SXb.keep K515 all0).wr W525 sb515)
    have f538 := ((gE508.keep K515).wr W525)
    obtain ⟨cq537, kq537, q537a, q537b, q537c⟩ := isOf hZ508 e525 f538
    obtain ⟨_, _, ⟨T537, L537, k537, n537⟩, -, X537, ⟨Lc537, hQ537, l537, y537, z537⟩, st537⟩ := X525.virtualBack hx (y := (⟨"com/example/shush/shush/Occurrence", "matched", "()[I"⟩ : MethodName)) (z := (⟨"com/example/shush/shush/Occurrence", "matched", "()[I"⟩ : MethodName)) hown508 (mvT hZ508 (W 52 rfl)) (mvT hZ508 (W 53 rfl)) (notFace_of_selects (args := #[]) (mvT hZ508 (W 55 rfl))) (mvT hZ508 (W 55 rfl)) (mvT hZ508 (W 54 rfl)) (by decide) (backOf (W := 0) (rm_mt l Z a0 hw [] b497 x9 _ p5 G1 G3 3 nx cs h525 n0 Z528 O529 f533 f534 f535 f536 M O2 P5 O4 rG3 OA OH OL) hZ508 (W 56 rfl) (W 33 rfl) (by decide) (by decide)) q537a q537c (g := (mkF m 258 #[iv p1, iv p2, iv p3, iv p4, iv p5, iv p6, iv n9, iv c0, iv c1, iv c2, rv b9, rv x9, iv s19, iv s29, rv bE, iv 3, rv b497, rv b515, iv 1, uu] [.ref b497])) rfl (by rw [hml]; rfl) (Steps.refl _) (argsL := []) (rest := []) (lenOf own_pd_6 rfl) rfl own_wt (hb hby at_258) (fun _ _ => ⟨rfl, e525, (by decide : 18 + 1 ≤ _), (by decide : 107 + 3 ≤ _)⟩)
    dsimp only [Pt.U, Pt.locs, Pt.cells, Pt.slots] at X537 l537 y537 z537 st537 hQ537
    subst l537 y537 z537
    obtain ⟨b537, kb537, hv537, Nq537, K537, sb537, Vx537⟩ := hQ537
    subst hv537
    have N537 := Fr.app N525 Nq537
    rw [hv] at Vx537
    have V537 : Arv Z T537.heap b537 kb537 .int (3 : Int32) [(.int p5), (.int y1), (.int y2)] (.int (0 : Int32)) := Vx537
    have g539 : n0 ≤ b537 := Nat.le_trans Z528 sb537
    have CR540 := CR526.trans (CHr.keep K537 all0 CR526.1)
    have Z541 : n0 ≤ T537.heap.size := Nat.le_trans Z528 K537.1
    have O542 : Old Z n0 T537.heap := O529.keep K537 all0
    have hk543 := Nat.le_trans hk530 K537.1
    have f544 := (Nat.lt_of_lt_of_le (Nat.lt_of_lt_of_le VE.lt E497.1) K508.1)
    have f545 := ((f521.other W525 (Nat.ne_of_lt (Nat.lt_of_lt_of_le f544 sb515))).keep K537 nin0)
    obtain ⟨_, _, ⟨T546, L546, k546, n546⟩, -, X546, ⟨Lc546, hQ546, l546, y546, z546⟩, st546⟩ := Jvm.LawKit.callS X537 hx (y := (⟨"com/example/shush/shush/OccurrenceMatchedPinLaw", "same", "([I[II)Z"⟩ : MethodName)) hown508 (mvT hZ508 (W 86 rfl)) (mvT hZ508 (W 87 rfl)) (mvT hZ508 (W 3 rfl)) (mvT hZ508 (W 88 rfl)) (by decide) (backOf (W := 0) (rm_same3 l Z a0 hw [] b537 bE kb537 kE p5 y1 y2 T537.heap n0 Z541 V537 f545) hZ508 (W 88 rfl) (W 3 rfl) (by decide) (by decide)) (g := (mkF m 274 #[iv p1, iv p2, iv p3, iv p4, iv p5, iv p6, iv n9, iv c0, iv c1, iv c2, rv b9, rv x9, iv s19, iv s29, rv bE, iv 3, rv b497, rv b515, iv 1, rv b537] [.int 3, .ref bE, .ref b537])) rfl (by rw [hml]; rfl) (argsL := [.ref b537, .ref bE, .int 3]) (rest := []) (lenOf own_pd_13 rfl) rfl own_wt (hb hby at_274) (fun _ _ => ⟨rfl, rfl, (by decide : 19 + 0 ≤ _), (by decide : 110 + 0 ≤ _)⟩)
    dsimp only [Pt.U, Pt.locs, Pt.cells, Pt.slots] at X546 l546 y546 z546 st546 hQ546
    subst l546 y546 z546
    obtain ⟨rfl, Nq546, e546⟩ := hQ546
    have N546 := Fr.app N537 Nq546
    have CRe := CR540.trans (CHv.at X546 hZ508 hEL CR540.1)
    obtain ⟨fs, hr, hrun, hended, hRW⟩ := X546.leaveW hS508 (by rw [e546]; exact hk543) (v := some (.int (1 : Int32))) (fun h => by rw [Bd.returns] at h; cases h)
    refine ⟨_, _, G513 _ (G523 _ (G531 _ (?_))), hrun, hended, _, _, rfl, ?_, (by rw [hh]; show CHr Z _ s.vm h0 T546.vm T546.heap; rw [e546]; exact CRe), hRW.1, hRW.2.1, hRW.2.2.1, hRW.2.2.2.mono (by decide) (by decide)⟩
    · show Steps _ _ _ (T525.setTop (mkF m 256 #[iv p1, iv p2, iv p3, iv p4, iv p5, iv p6, iv n9, iv c0, iv c1, iv c2, rv b9, rv x9, iv s19, iv s29, rv bE, iv 3, rv b497, rv b515, iv 1, uu] [])) _
      refine XS.aload X525.here hx rfl (hb hby at_256) rfl rfl ?_
      show Steps _ _ _ (T525.setTop (mkF m 258 _ [.ref b497])) _
      refine st537.trans ?_
      show Steps _ _ _ (T537.setTop (mkF m 261 #[iv p1, iv p2, iv p3, iv p4, iv p5, iv p6, iv n9, iv c0, iv c1, iv c2, rv b9, rv x9, iv s19, iv s29, rv bE, iv 3, rv b497, rv b515, iv 1, uu] [.ref b537])) _
      refine XS.astore X537.here hx rfl (hb hby at_261) rfl rfl (l' := #[iv p1, iv p2, iv p3, iv p4, iv p5, iv p6, iv n9, iv c0, iv c1, iv c2, rv b9, rv x9, iv s19, iv s29, rv bE, iv 3, rv b497, rv b515, iv 1, rv b537]) rfl ?_
      show Steps _ _ _ (T537.setTop (mkF m 263 _ [])) _
      refine XS.iload X537.here hx rfl (hb hby at_263) rfl ?_
      show Steps _ _ _ (T537.setTop (mkF m 265 _ [.int 1])) _
      refine XS.ifNo X537.here hx rfl (hb hby at_265) rfl ((if0 _ _).trans (feq ((by decide) : ¬ ((1 : Int32) = (0 : Int32)))).1) ?_
      show Steps _ _ _ (T537.setTop (mkF m 268 _ [])) _
      refine XS.aload X537.here hx rfl (hb hby at_268) rfl rfl ?_
      show Steps _ _ _ (T537.setTop (mkF m 270 _ [.ref b537])) _
      refine XS.aload X537.here hx rfl (hb hby at_270) rfl rfl ?_
      show Steps _ _ _ (T537.setTop (mkF m 272 _ [.ref bE, .ref b537])) _
      refine XS.iload X537.here hx rfl (hb hby at_272) rfl ?_
      show Steps _ _ _ (T537.setTop (mkF m 274 _ [.int 3, .ref bE, .ref b537])) _
      refine st546 _ ?_
      show Steps _ _ _ (T546.setTop (mkF m 277 #[iv p1, iv p2, iv p3, iv p4, iv p5, iv p6, iv n9, iv c0, iv c1, iv c2, rv b9, rv x9, iv s19, iv s29, rv bE, iv 3, rv b497, rv b515, iv 1, rv b537] [.int 1])) _
      refine XS.ifNo X546.here hx rfl (hb hby at_277) rfl ((if0 _ _).trans (feq ((by decide) : ¬ ((1 : Int32) = (0 : Int32)))).1) ?_
      show Steps _ _ _ (T546.setTop (mkF m 280 _ [])) _
      refine XS.iconst X546.here hx rfl (hb hby at_280) ?_
      show Steps _ _ _ (T546.setTop (mkF m 281 _ [.int 1])) _
      refine XS.goto X546.here hx rfl (pc0 := 281) (pc' := 285) rfl (hb hby at_281) (by decide) (by decide) ?_
      show Steps _ _ _ (T546.setTop (mkF m 285 _ [.int 1])) _
      exact retN X546 hx (t := .boolean) Bd.returns (by simp) (hb hby at_285) hr
    · show Q_law Z p1 p2 p3 p4 p5 p6 G1 G3 h0 n0 _ T546.heap _
      rw [e546]
      exact ⟨rfl, N546⟩
  rcases hm4 with rfl | rfl | rfl | rfl
  · obtain ⟨T547, h547, k547, X547, e547, E547, A547, st547⟩ := newP X353 hx hZ (W 8 rfl) e353 (g := (mkF m 28 #[iv p1, iv p2, iv p3, iv p4, iv p5, iv p6, iv 0, iv c0, iv c1, iv c2, uu, uu, uu, uu, uu, uu, uu, uu, uu, uu] [.int 0])) rfl (hb hby at_28) rfl (by decide : ¬ ((0 : Int32) < (0 : Int32))) (cap := 0) (by decide) (by decide) (by decide) (by decide)
    obtain ⟨b547, g547⟩ : ∃ z, z = h0.size := ⟨_, rfl⟩
    rw [← g547] at A547 st547
    have g548 : n0 ≤ b547 := Nat.le_trans Z0 (Nat.le_of_eq g547.symm)
    have CR549 := CR0.trans (CHr.ext E547 CH0)
    have Z550 : n0 ≤ h547.size := Nat.le_trans Z0 E547.1
    have O551 : Old Z n0 h547 := X00.ext E547
    have hk552 := Nat.le_trans hk0 E547.1
    have V547 : Arv Z h547 b547 k547 .char (0 : Int32) [] (.int (0 : Int32)) := Arv.new A547 (by decide : ¬ ((0 : Int32) < (0 : Int32)))
    obtain ⟨T553, h553, X553, e553, E553, A553, D553, -, st553⟩ := newO X547 hx hZ hown (W 9 rfl) (W 10 rfl) (W 11 rfl) e547 (g := (mkF m 67 #[iv p1, iv p2, iv p3, iv p4, iv p5, iv p6, iv 0, iv c0, iv c1, iv c2, rv b547, uu, uu, uu, uu, uu, uu, uu, uu, uu] [])) rfl (hb hby at_67) (by decide) (by decide)
    obtain ⟨b553, g553⟩ : ∃ z, z = h547.size := ⟨_, rfl⟩
    rw [← g553] at A553 D553 st553
    have g554 : n0 ≤ b553 := Nat.le_trans Z550 (Nat.le_of_eq g553.symm)
    have CR555 := CR549.trans (CHr.ext E553 CR549.1)
    have Z556 : n0 ≤ h553.size := Nat.le_trans Z550 E553.1
    have O557 : Old Z n0 h553 := O551.ext E553
    have hk558 := Nat.le_trans hk552 E553.1
    have F559 : Fld Z h553 b553 "java/lang/String" "value" "[B" .null := D553 (Or.inr (W 24 rfl)) (ty := (.array .byte)) (by decide)
    have F560 : Fld Z h553 b553 "java/lang/String" "coder" "B" (.int (0 : Int32)) := D553 (Or.inr (W 25 rfl)) (ty := .byte) (by decide)
    have G561 : ∀ tq, Steps p.tables e below (T553.setTop (mkF m 73 #[iv p1, iv p2, iv p3, iv p4, iv p5, iv p6, iv 0, iv c0, iv c1, iv c2, rv b547, uu, uu, uu, uu, uu, uu, uu, uu, uu] [.ref b547, .ref b553, .ref b553])) tq → Steps p.tables e below (T353.setTop (mkF m 26 #[iv p1, iv p2, iv p3, iv p4, iv p5, iv p6, iv 0, iv c0, iv c1, iv c2, uu, uu, uu, uu, uu, uu, uu, uu, uu, uu] [])) tq := by
      intro tq kk
      show Steps _ _ _ (T353.setTop (mkF m 26 #[iv p1, iv p2, iv p3, iv p4, iv p5, iv p6, iv 0, iv c0, iv c1, iv c2, uu, uu, uu, uu, uu, uu, uu, uu, uu, uu] [])) _
      refine XS.iload X353.here hx rfl (hb hby at_26) rfl ?_
      show Steps _ _ _ (T353.setTop (mkF m 28 _ [.int 0])) _
      refine st547 _ ?_
      show Steps _ _ _ (T547.setTop (mkF m 30 #[iv p1, iv p2, iv p3, iv p4, iv p5, iv p6, iv 0, iv c0, iv c1, iv c2, uu, uu, uu, uu, uu, uu, uu, uu, uu, uu] [.ref b547])) _
      refine XS.astore X547.here hx rfl (hb hby at_30) rfl rfl (l' := #[iv p1, iv p2, iv p3, iv p4, iv p5, iv p6, iv 0, iv c0, iv c1, iv c2, rv b547, uu, uu, uu, uu, uu, uu, uu, uu, uu]) rfl ?_
      show Steps _ _ _ (T547.setTop (mkF m 32 _ [])) _
      refine XS.iload X547.here hx rfl (hb hby at_32) rfl ?_
      show Steps _ _ _ (T547.setTop (mkF m 34 _ [.int 0])) _
      refine XS.ifYes X547.here hx rfl (pc0 := 34) (pc' := 43) rfl (hb hby at_34) rfl ((if0 _ _).trans (flt ((by decide) : ¬ ((0 : Int32) < (0 : Int32)))).2.2.2) (by decide) (by decide) ?_
      show Steps _ _ _ (T547.setTop (mkF m 43 _ [])) _
      refine XS.iload X547.here hx rfl (hb hby at_43) rfl ?_
      show Steps _ _ _ (T547.setTop (mkF m 45 _ [.int 0])) _
      refine XS.iconst X547.here hx rfl (hb hby at_45) ?_
      show Steps _ _ _ (T547.setTop (mkF m 46 _ [.int 1, .int 0])) _
      refine XS.icmpYes X547.here hx rfl (pc0 := 46) (pc' := 55) rfl (hb hby at_46) rfl (flt ((by decide) : ¬ ((1 : Int32) < (0 : Int32)))).2.2.2 (by decide) (by decide) ?_
      show Steps _ _ _ (T547.setTop (mkF m 55 _ [])) _
      refine XS.iload X547.here hx rfl (hb hby at_55) rfl ?_
      show Steps _ _ _ (T547.setTop (mkF m 57 _ [.int 0])) _
      refine XS.iconst X547.here hx rfl (hb hby at_57) ?_
      show Steps _ _ _ (T547.setTop (mkF m 58 #[iv p1, iv p2, iv p3, iv p4, iv p5, iv p6, iv 0, iv c0, iv c1, iv c2, rv b547, uu, uu, uu, uu, uu, uu, uu, uu, uu] [.int 2, .int 0])) _
      refine XS.icmpYes X547.here hx rfl (pc0 := 58) (pc' := 67) rfl (hb hby at_58) rfl (flt ((by decide) : ¬ ((2 : Int32) < (0 : Int32)))).2.2.2 (by decide) (by decide) ?_
      show Steps _ _ _ (T547.setTop (mkF m 67 _ [])) _
      refine st553 _ ?_
      show Steps _ _ _ (T553.setTop (mkF m 70 #[iv p1, iv p2, iv p3, iv p4, iv p5, iv p6, iv 0, iv c0, iv c1, iv c2, rv b547, uu, uu, uu, uu, uu, uu, uu, uu, uu] [.ref b553])) _
      refine XS.dup X553.here hx rfl (hb hby at_70) rfl rfl ?_
      show Steps _ _ _ (T553.setTop (mkF m 71 _ [.ref b553, .ref b553])) _
      refine XS.aload X553.here hx rfl (hb hby at_71) rfl rfl ?_
      exact kk
    have f562 := (V547.ext E553)
    have f564 := (Safe.ext E553 CR549.1 (Safe.new (Nat.le_of_eq g553.symm)))
    obtain ⟨_, _, ⟨T563, L563, k563, n563⟩, -, Xw563, hSw563, hgw563, ⟨Lc563, hQ563, l563, y563, z563, A563⟩, st563⟩ := X553.specialBackS hx (y := (⟨"java/lang/String", "<init>", "([C)V"⟩ : MethodName)) rfl hown (mvT hZ (W 12 rfl)) (mvT hZ (W 13 rfl)) (mvT hZ (W 14 rfl)) (by decide) (own_backX (s := s) (W := 1) (rm_snew0 l Z a0 hw [] b553 b547 k547 h553 n0 Z556 f562 A553 g554 F559 F560) hZ (W 14 rfl) (W 11 rfl) (by decide) (by decide) hEL (xs := [b553]) ⟨CR555.1, (allS f564 all0)⟩ (allS A553.lt all0)) (g := (mkF m 73 #[iv p1, iv p2, iv p3, iv p4, iv p5, iv p6, iv 0, iv c0, iv c1, iv c2, rv b547, uu, uu, uu, uu, uu, uu, uu, uu, uu] [.ref b547, .ref b553, .ref b553])) rfl (by rw [hml]; rfl) (Steps.refl _) (a := b553) (argsL := [.ref b547]) (rest := [.ref b553]) (lenOf own_pd_1 rfl) rfl own_wt (hb hby at_73) (fun _ _ => ⟨rfl, e553, (by decide : 2 + 4 ≤ _), (by decide : 4 + 8 ≤ _)⟩)
    dsimp only [Pt.U, Pt.locs, Pt.cells, Pt.slots] at Xw563 hSw563 hgw563 l563 y563 z563 A563 st563 hQ563
    subst l563 y563 z563
    obtain ⟨X563, hS563, hZ563, hown563⟩ := rebS (s := s) (T := T563) hS0 hk558 Xw563 hSw563 (by rw [← e553]; exact hgw563) hZ hown
    have hk563 : T563.heap.size ≤ T563.heap.size := Nat.le_refl _
    obtain ⟨rfl, Nq563, K563, SX⟩ := hQ563
    have N563 := Fr.app N353 Nq563
    have CR565 := CR555.trans A563
    have Z566 : n0 ≤ T563.heap.size := Nat.le_trans Z556 K563.1
    have O567 : Old Z n0 T563.heap := O557.keep K563 (allS g554 all0)
    have G568 : ∀ tq, Steps p.tables e below (T563.setTop (mkF m 78 #[iv p1, iv p2, iv p3, iv p4, iv p5, iv p6, iv 0, iv c0, iv c1, iv c2, rv b547, rv b553, uu, uu, uu, uu, uu, uu, uu, uu] [])) tq → Steps p.tables e below (T553.setTop (mkF m 73 #[iv p1, iv p2, iv p3, iv p4, iv p5, iv p6, iv 0, iv c0, iv c1, iv c2, rv b547, uu, uu, uu, uu, uu, uu, uu, uu, uu] [.ref b547, .ref b553, .ref b553])) tq := by
      intro tq kk
      show Steps _ _ _ (T553.setTop (mkF m 73 #[iv p1, iv p2, iv p3, iv p4, iv p5, iv p6, iv 0, iv c0, iv c1, iv c2, rv b547, uu, uu, uu, uu, uu, uu, uu, uu, uu] [.ref b547, .ref b553, .ref b553])) _
      refine st563.trans ?_
      show Steps _ _ _ (T563.setTop (mkF m 76 #[iv p1, iv p2, iv p3, iv p4, iv p5, iv p6, iv 0, iv c0, iv c1, iv c2, rv b547, uu, uu, uu, uu, uu, uu, uu, uu, uu] [.ref b553])) _
      refine XS.astore X563.here hx rfl (hb hby at_76) rfl rfl (l' := #[iv p1, iv p2, iv p3, iv p4, iv p5, iv p6, iv 0, iv c0, iv c1, iv c2, rv b547, rv b553, uu, uu, uu, uu, uu, uu, uu, uu]) rfl ?_
      exact kk
    have G569 : ∀ tq, Steps p.tables e below (T563.setTop (mkF m 139 #[iv p1, iv p2, iv p3, iv p4, iv p5, iv p6, iv 0, iv c0, iv c1, iv c2, rv b547, rv b553, iv 0, uu, uu, uu, uu, uu, uu, uu] [.int 0])) tq → Steps p.tables e below (T563.setTop (mkF m 78 #[iv p1, iv p2, iv p3, iv p4, iv p5, iv p6, iv 0, iv c0, iv c1, iv c2, rv b547, rv b553, uu, uu, uu, uu, uu, uu, uu, uu] [])) tq := by
      intro tq kk
      show Steps _ _ _ (T563.setTop (mkF m 78 #[iv p1, iv p2, iv p3, iv p4, iv p5, iv p6, iv 0, iv c0, iv c1, iv c2, rv b547, rv b553, uu, uu, uu, uu, uu, uu, uu, uu] [])) _
      refine XS.iload X563.here hx rfl (hb hby at_78) rfl ?_
      show Steps _ _ _ (T563.setTop (mkF m 80 _ [.int 0])) _
      refine XS.iconst X563.here hx rfl (hb hby at_80) ?_
      show Steps _ _ _ (T563.setTop (mkF m 81 _ [.int 1, .int 0])) _
      refine XS.icmpYes X563.here hx rfl (pc0 := 81) (pc' := 104) rfl (hb hby at_81) rfl (flt ((by decide) : ¬ ((1 : Int32) < (0 : Int32)))).2.2.2 (by decide) (by decide) ?_
      show Steps _ _ _ (T563.setTop (mkF m 104 _ [])) _
      refine XS.iconst X563.here hx rfl (hb hby at_104) ?_
      show Steps _ _ _ (T563.setTop (mkF m 105 _ [.int 0])) _
      refine XS.istore X563.here hx rfl (hb hby at_105) rfl (l' := #[iv p1, iv p2, iv p3, iv p4, iv p5, iv p6, iv 0, iv c0, iv c1, iv c2, rv b547, rv b553, iv 0, uu, uu, uu, uu, uu, uu, uu]) rfl ?_
      show Steps _ _ _ (T563.setTop (mkF m 107 _ [])) _
      refine XS.iload X563.here hx rfl (hb hby at_107) rfl ?_
      show Steps _ _ _ (T563.setTop (mkF m 109 _ [.int 0])) _
      refine XS.iconst X563.here hx rfl (hb hby at_109) ?_
      show Steps _ _ _ (T563.setTop (mkF m 110 _ [.int 2, .int 0])) _
      refine XS.icmpYes X563.here hx rfl (pc0 := 110) (pc' := 138) rfl (hb hby at_110) rfl (flt ((by decide) : ¬ ((2 : Int32) < (0 : Int32)))).2.2.2 (by decide) (by decide) ?_
      show Steps _ _ _ (T563.setTop (mkF m 138 #[iv p1, iv p2, iv p3, iv p4, iv p5, iv p6, iv 0, iv c0, iv c1, iv c2, rv b547, rv b553, iv 0, uu, uu, uu, uu, uu, uu, uu] [])) _
      refine XS.iconst X563.here hx rfl (hb hby at_138) ?_
      exact kk
    have M : own_cfg l Z n0 ([] : List Int32) (fun i => ([0] : List Nat).getD i 0) 0 := by
      refine ⟨(Nat.le_of_ble_eq_true rfl), by decide, (fun _ => rfl), fun h z o t kb V hbd hg => absurd hg (by simp), rfl, rfl, fun i hi => ?_⟩
      exact absurd hi (by omega)
    obtain ⟨T570, h570, k570, X570, e570, E570, A570, st570⟩ := newP X563 hx hZ563 (W 30 rfl) rfl (g := (mkF m 142 #[iv p1, iv p2, iv p3, iv p4, iv p5, iv p6, iv 0, iv c0, iv c1, iv c2, rv b547, rv b553, iv 0, iv 0, uu, uu, uu, uu, uu, uu] [.int 3])) rfl (hb hby at_142) rfl (by decide : ¬ ((3 : Int32) < (0 : Int32))) (cap := 3) (by decide) (by decide) (by decide) (by decide)
    obtain ⟨b570, g570⟩ : ∃ z, z = T563.heap.size := ⟨_, rfl⟩
    rw [← g570] at A570 st570
    have g571 : n0 ≤ b570 := Nat.le_trans Z566 (Nat.le_of_eq g570.symm)
    have CR572 := CR565.trans (CHr.ext E570 CR565.1)
    have Z573 : n0 ≤ h570.size := Nat.le_trans Z566 E570.1
    have O574 : Old Z n0 h570 := O567.ext E570
    have hk575 := Nat.le_trans hk563 E570.1
    have V570 : Arv Z h570 b570 k570 .int (3 : Int32) [(.int (0 : Int32)), (.int (0 : Int32)), (.int (0 : Int32))] (.int (0 : Int32)) := (Arv.new A570 (by decide : ¬ ((3 : Int32) < (0 : Int32)))).pad (pad_rep [] (.int (0 : Int32)) 3)
    have G576 : ∀ tq, Steps p.tables e below (T570.setTop (mkF m 207 #[iv p1, iv p2, iv p3, iv p4, iv p5, iv p6, iv 0, iv c0, iv c1, iv c2, rv b547, rv b553, iv 0, iv 0, rv b570, iv 0, uu, uu, uu, uu] [])) tq → Steps p.tables e below (T563.setTop (mkF m 139 #[iv p1, iv p2, iv p3, iv p4, iv p5, iv p6, iv 0, iv c0, iv c1, iv c2, rv b547, rv b553, iv 0, uu, uu, uu, uu, uu, uu, uu] [.int 0])) tq := by
      intro tq kk
      show Steps _ _ _ (T563.setTop (mkF m 139 #[iv p1, iv p2, iv p3, iv p4, iv p5, iv p6, iv 0, iv c0, iv c1, iv c2, rv b547, rv b553, iv 0, uu, uu, uu, uu, uu, uu, uu] [.int 0])) _
      refine XS.istore X563.here hx rfl (hb hby at_139) rfl (l' := #[iv p1, iv p2, iv p3, iv p4, iv p5, iv p6, iv 0, iv c0, iv c1, iv c2, rv b547, rv b553, iv 0, iv 0, uu, uu, uu, uu, uu, uu]) rfl ?_
      show Steps _ _ _ (T563.setTop (mkF m 141 _ [])) _
      refine XS.iconst X563.here hx rfl (hb hby at_141) ?_
      show Steps _ _ _ (T563.setTop (mkF m 142 _ [.int 3])) _
      refine st570 _ ?_
      show Steps _ _ _ (T570.setTop (mkF m 144 #[iv p1, iv p2, iv p3, iv p4, iv p5, iv p6, iv 0, iv c0, iv c1, iv c2, rv b547, rv b553, iv 0, iv 0, uu, uu, uu, uu, uu, uu] [.ref b570])) _
      refine XS.astore X570.here hx rfl (hb hby at_144) rfl rfl (l' := #[iv p1, iv p2, iv p3, iv p4, iv p5, iv p6, iv 0, iv c0, iv c1, iv c2, rv b547, rv b553, iv 0, iv 0, rv b570, uu, uu, uu, uu, uu]) rfl ?_
      show Steps _ _ _ (T570.setTop (mkF m 146 _ [])) _
      refine XS.iconst X570.here hx rfl (hb hby at_146) ?_
      show Steps _ _ _ (T570.setTop (mkF m 147 _ [.int 0])) _
      refine XS.istore X570.here hx rfl (hb hby at_147) rfl (l' := #[iv p1, iv p2, iv p3, iv p4, iv p5, iv p6, iv 0, iv c0, iv c1, iv c2, rv b547, rv b553, iv 0, iv 0, rv b570, iv 0, uu, uu, uu, uu]) rfl ?_
      show Steps _ _ _ (T570.setTop (mkF m 149 _ [])) _
      refine XS.iload X570.here hx rfl (hb hby at_149) rfl ?_
      show Steps _ _ _ (T570.setTop (mkF m 151 _ [.int 0])) _
      refine XS.ifYes X570.here hx rfl (pc0 := 151) (pc' := 167) rfl (hb hby at_151) rfl ((if0 _ _).trans (flt ((by decide) : ¬ ((0 : Int32) < (0 : Int32)))).2.2.2) (by decide) (by decide) ?_
      show Steps _ _ _ (T570.setTop (mkF m 167 _ [])) _
      refine XS.iload X570.here hx rfl (hb hby at_167) rfl ?_
      show Steps _ _ _ (T570.setTop (mkF m 169 _ [.int 0])) _
      refine XS.ifYes X570.here hx rfl (pc0 := 169) (pc' := 187) rfl (hb hby at_169) rfl ((if0 _ _).trans (teq (rfl : (0 : Int32) = (0 : Int32))).1) (by decide) (by decide) ?_
      show Steps _ _ _ (T570.setTop (mkF m 187 _ [])) _
      refine XS.iload X570.here hx rfl (hb hby at_187) rfl ?_
      show Steps _ _ _ (T570.setTop (mkF m 189 #[iv p1, iv p2, iv p3, iv p4, iv p5, iv p6, iv 0, iv c0, iv c1, iv c2, rv b547, rv b553, iv 0, iv 0, rv b570, iv 0, uu, uu, uu, uu] [.int 0])) _
      refine XS.ifYes X570.here hx rfl (pc0 := 189) (pc' := 207) rfl (hb hby at_189) rfl ((if0 _ _).trans (teq (rfl : (0 : Int32) = (0 : Int32))).1) (by decide) (by decide) ?_
      exact kk
    have f577 := (SX.ext E570)
    obtain ⟨s₂, o, t1, t2, t3, t4⟩ := tail0 T563.vm T570 h570 _ _ (0 : Int32) (0 : Int32) (0 : Int32) b547 b553 b570 k570 ([] : List Int32) (fun i => ([0] : List Nat).getD i 0)  (X570.more (by decide) (by decide)) e570 N563 Z573 O574 hS563 hk575 hZ563 hown563 CR572 f577.now V570 M rfl
    exact ⟨s₂, o, pre0 _ (Gn _ (G354 _ (G561 _ (G568 _ (G569 _ (G576 _ (t1))))))), t2, t3, t4⟩
  · obtain ⟨T578, h578, k578, X578, e578, E578, A578, st578⟩ := newP X353 hx hZ (W 8 rfl) e353 (g := (mkF m 28 #[iv p1, iv p2, iv p3, iv p4, iv p5, iv p6, iv 1, iv c0, iv c1, iv c2, uu, uu, uu, uu, uu, uu, uu, uu, uu, uu] [.int 1])) rfl (hb hby at_28) rfl (by decide : ¬ ((1 : Int32) < (0 : Int32))) (cap := 1) (by decide) (by decide) (by decide) (by decide)
    obtain ⟨b578, g578⟩ : ∃ z, z = h0.size := ⟨_, rfl⟩
    rw [← g578] at A578 st578
    have g579 : n0 ≤ b578 := Nat.le_trans Z0 (Nat.le_of_eq g578.symm)
    have CR580 := CR0.trans (CHr.ext E578 CH0)
    have Z581 : n0 ≤ h578.size := Nat.le_trans Z0 E578.1
    have O582 : Old Z n0 h578 := X00.ext E578
    have hk583 := Nat.le_trans hk0 E578.1
    have V578 : Arv Z h578 b578 k578 .char (1 : Int32) [(.int (0 : Int32))] (.int (0 : Int32)) := (Arv.new A578 (by decide : ¬ ((1 : Int32) < (0 : Int32)))).pad (pad_rep [] (.int (0 : Int32)) 1)
    obtain ⟨cl584, Ar584, aq584, aS584, aN584, aH584, aG584⟩ := id V578
    obtain ⟨T585, h585, X585, e585, W585, st585⟩ := stC X578 hx hZ e578 Ar584 (j := (0 : Int32)) (inb_of aS584 ⟨(by decide), (by decide)⟩) (g := (mkF m 42 #[iv p1, iv p2, iv p3, iv p4, iv p5, iv p6, iv 1, iv c0, iv c1, iv c2, rv b578, uu, uu, uu, uu, uu, uu, uu, uu, uu] [.int c0, .int 0, .ref b578])) rfl rfl (hb hby at_42)
    have N585 := Fr.snoc X585 N353 g579
    have Vx585 := Arv.set Ar584 aq584 aS584 aN584 aH584 aG584 (fits_nar_char _) W585 0 rfl (Nat.le_of_ble_eq_true rfl)
    have V585 : Arv Z h585 b578 k578 .char (1 : Int32) [(.int c0)] (.int (0 : Int32)) := by
      have q := Vx585
      rw [show Value.int (nar .char c0) = (.int c0) from congrArg Value.int (own_narc c0 hb0.1 hb0.2)] at q
      exact q
    have f587 := (Safe.ext E578 CH0 (Safe.new (Nat.le_of_eq g578.symm)))
    have CR586 := CR580.trans (CHr.wr W585 f587 CR580.1)
    have Z588 : n0 ≤ h585.size := Nat.le_trans Z581 (Keep.of_wr W585).1
    have O589 : Old Z n0 h585 := O582.wr W585 g579
    have hk590 := Nat.le_trans hk583 (Keep.of_wr W585).1
    obtain ⟨T591, h591, X591, e591, E591, A591, D591, -, st591⟩ := newO X585 hx hZ hown (W 9 rfl) (W 10 rfl) (W 11 rfl) e585 (g := (mkF m 67 #[iv p1, iv p2, iv p3, iv p4, iv p5, iv p6, iv 1, iv c0, iv c1, iv c2, rv b578, uu, uu, uu, uu, uu, uu, uu, uu, uu] [])) rfl (hb hby at_67) (by decide) (by decide)
    obtain ⟨b591, g591⟩ : ∃ z, z = h585.size := ⟨_, rfl⟩
    rw [← g591] at A591 D591 st591
    have g592 : n0 ≤ b591 := Nat.le_trans Z588 (Nat.le_of_eq g591.symm)
    have CR593 := CR586.trans (CHr.ext E591 CR586.1)
    have Z594 : n0 ≤ h591.size := Nat.le_trans Z588 E591.1
    have O595 : Old Z n0 h591 := O589.ext E591
    have hk596 := Nat.le_trans hk590 E591.1
    have F597 : Fld Z h591 b591 "java/lang/String" "value" "[B" .null := D591 (Or.inr (W 24 rfl)) (ty := (.array .byte)) (by decide)
    have F598 : Fld Z h591 b591 "java/lang/String" "coder" "B" (.int (0 : Int32)) := D591 (Or.inr (W 25 rfl)) (ty := .byte) (by decide)
    have G599 : ∀ tq, Steps p.tables e below (T591.setTop (mkF m 73 #[iv p1, iv p2, iv p3, iv p4, iv p5, iv p6, iv 1, iv c0, iv c1, iv c2, rv b578, uu, uu, uu, uu, uu, uu, uu, uu, uu] [.ref b578, .ref b591, .ref b591])) tq → Steps p.tables e below (T353.setTop (mkF m 26 #[iv p1, iv p2, iv p3, iv p4, iv p5, iv p6, iv 1, iv c0, iv c1, iv c2, uu, uu, uu, uu, uu, uu, uu, uu, uu, uu] [])) tq := by
      intro tq kk
      show Steps _ _ _ (T353.setTop (mkF m 26 #[iv p1, iv p2, iv p3, iv p4, iv p5, iv p6, iv 1, iv c0, iv c1, iv c2, uu, uu, uu, uu, uu, uu, uu, uu, uu, uu] [])) _
      refine XS.iload X353.here hx rfl (hb hby at_26) rfl ?_
      show Steps _ _ _ (T353.setTop (mkF m 28 _ [.int 1])) _
      refine st578 _ ?_
      show Steps _ _ _ (T578.setTop (mkF m 30 #[iv p1, iv p2, iv p3, iv p4, iv p5, iv p6, iv 1, iv c0, iv c1, iv c2, uu, uu, uu, uu, uu, uu, uu, uu, uu, uu] [.ref b578])) _
      refine XS.astore X578.here hx rfl (hb hby at_30) rfl rfl (l' := #[iv p1, iv p2, iv p3, iv p4, iv p5, iv p6, iv 1, iv c0, iv c1, iv c2, rv b578, uu, uu, uu, uu, uu, uu, uu, uu, uu]) rfl ?_
      show Steps _ _ _ (T578.setTop (mkF m 32 _ [])) _
      refine XS.iload X578.here hx rfl (hb hby at_32) rfl ?_
      show Steps _ _ _ (T578.setTop (mkF m 34 _ [.int 1])) _
      refine XS.ifNo X578.here hx rfl (hb hby at_34) rfl ((if0 _ _).trans (tlt ((by decide) : (0 : Int32) < (1 : Int32))).2.2.2) ?_
      show Steps _ _ _ (T578.setTop (mkF m 37 _ [])) _
      refine XS.aload X578.here hx rfl (hb hby at_37) rfl rfl ?_
      show Steps _ _ _ (T578.setTop (mkF m 39 _ [.ref b578])) _
      refine XS.iconst X578.here hx rfl (hb hby at_39) ?_
      show Steps _ _ _ (T578.setTop (mkF m 40 _ [.int 0, .ref b578])) _
      refine XS.iload X578.here hx rfl (hb hby at_40) rfl ?_
      show Steps _ _ _ (T578.setTop (mkF m 42 _ [.int c0, .int 0, .ref b578])) _
      refine st585 _ ?_
      show Steps _ _ _ (T585.setTop (mkF m 43 #[iv p1, iv p2, iv p3, iv p4, iv p5, iv p6, iv 1, iv c0, iv c1, iv c2, rv b578, uu, uu, uu, uu, uu, uu, uu, uu, uu] [])) _
      refine XS.iload X585.here hx rfl (hb hby at_43) rfl ?_
      show Steps _ _ _ (T585.setTop (mkF m 45 _ [.int 1])) _
      refine XS.iconst X585.here hx rfl (hb hby at_45) ?_
      show Steps _ _ _ (T585.setTop (mkF m 46 _ [.int 1, .int 1])) _
      refine XS.icmpYes X585.here hx rfl (pc0 := 46) (pc' := 55) rfl (hb hby at_46) rfl (flt ((by decide) : ¬ ((1 : Int32) < (1 : Int32)))).2.2.2 (by decide) (by decide) ?_
      show Steps _ _ _ (T585.setTop (mkF m 55 _ [])) _
      refine XS.iload X585.here hx rfl (hb hby at_55) rfl ?_
      show Steps _ _ _ (T585.setTop (mkF m 57 _ [.int 1])) _
      refine XS.iconst X585.here hx rfl (hb hby at_57) ?_
      show Steps _ _ _ (T585.setTop (mkF m 58 _ [.int 2, .int 1])) _
      refine XS.icmpYes X585.here hx rfl (pc0 := 58) (pc' := 67) rfl (hb hby at_58) rfl (flt ((by decide) : ¬ ((2 : Int32) < (1 : Int32)))).2.2.2 (by decide) (by decide) ?_
      show Steps _ _ _ (T585.setTop (mkF m 67 _ [])) _
      refine st591 _ ?_
      show Steps _ _ _ (T591.setTop (mkF m 70 #[iv p1, iv p2, iv p3, iv p4, iv p5, iv p6, iv 1, iv c0, iv c1, iv c2, rv b578, uu, uu, uu, uu, uu, uu, uu, uu, uu] [.ref b591])) _
      refine XS.dup X591.here hx rfl (hb hby at_70) rfl rfl ?_
      show Steps _ _ _ (T591.setTop (mkF m 71 _ [.ref b591, .ref b591])) _
      refine XS.aload X591.here hx rfl (hb hby at_71) rfl rfl ?_
      exact kk
    have hbA : ∀ c ∈ ([c0] : List Int32), ¬ c < 0 ∧ ¬ (65535 : Int32) < c := by
      intro c hc
      simp only [List.mem_cons, List.not_mem_nil, or_false] at hc
      rcases hc with rfl
      · exact hb0
    have f600 := (V585.ext E591)
    have f601 := (Nat.lt_of_lt_of_le V578.lt (Keep.of_wr W585).1)
    obtain ⟨_, _, ⟨T602, L602, k602, n602⟩, -, X602, ⟨Lc602, hQ602, l602, y602, z602⟩, st602⟩ := X591.specialBack hx (y := (⟨"java/lang/String", "<init>", "([C)V"⟩ : MethodName)) rfl hown (mvT hZ (W 12 rfl)) (mvT hZ (W 13 rfl)) (mvT hZ (W 14 rfl)) (by decide) (backOf (W := 1) (rm_snew l Z a0 hw [] b591 b578 k578 G1 ([c0] : List Int32) h591 n0 Z594 O595 f600 (Nat.le_of_ble_eq_true rfl) (Nat.le_of_ble_eq_true rfl) hbA A591 g592 F597 F598 (Nat.ne_of_lt (Nat.lt_of_lt_of_le f601 (Nat.le_of_eq g591.symm))) O2 P5 OA OH OL) hZ (W 14 rfl) (W 11 rfl) (by decide) (by decide)) (g := (mkF m 73 #[iv p1, iv p2, iv p3, iv p4, iv p5, iv p6, iv 1, iv c0, iv c1, iv c2, rv b578, uu, uu, uu, uu, uu, uu, uu, uu, uu] [.ref b578, .ref b591, .ref b591])) rfl (by rw [hml]; rfl) (Steps.refl _) (a := b591) (argsL := [.ref b578]) (rest := [.ref b591]) (lenOf own_pd_1 rfl) rfl own_wt (hb hby at_73) (fun _ _ => ⟨rfl, e591, (by decide : 2 + 2 ≤ _), (by decide : 5 + 12 ≤ _)⟩)
    dsimp only [Pt.U, Pt.locs, Pt.cells, Pt.slots] at X602 l602 y602 z602 st602 hQ602
    subst l602 y602 z602
    obtain ⟨rfl, Nq602, K602, SX⟩ := hQ602
    have N602 := Fr.app N585 Nq602
    have f604 := (Safe.ext E591 CR586.1 (Safe.new (Nat.le_of_eq g591.symm)))
    have CR603 := CR593.trans (CHr.keep K602 (allS f604 all0) CR593.1)
    have Z605 : n0 ≤ T602.heap.size := Nat.le_trans Z594 K602.1
    have O606 : Old Z n0 T602.heap := O595.keep K602 (allS g592 all0)
    have hk607 := Nat.le_trans hk596 K602.1
    have G608 : ∀ tq, Steps p.tables e below (T602.setTop (mkF m 78 #[iv p1, iv p2, iv p3, iv p4, iv p5, iv p6, iv 1, iv c0, iv c1, iv c2, rv b578, rv b591, uu, uu, uu, uu, uu, uu, uu, uu] [])) tq → Steps p.tables e below (T591.setTop (mkF m 73 #[iv p1, iv p2, iv p3, iv p4, iv p5, iv p6, iv 1, iv c0, iv c1, iv c2, rv b578, uu, uu, uu, uu, uu, uu, uu, uu, uu] [.ref b578, .ref b591, .ref b591])) tq := by
      intro tq kk
      show Steps _ _ _ (T591.setTop (mkF m 73 #[iv p1, iv p2, iv p3, iv p4, iv p5, iv p6, iv 1, iv c0, iv c1, iv c2, rv b578, uu, uu, uu, uu, uu, uu, uu, uu, uu] [.ref b578, .ref b591, .ref b591])) _
      refine st602.trans ?_
      show Steps _ _ _ (T602.setTop (mkF m 76 #[iv p1, iv p2, iv p3, iv p4, iv p5, iv p6, iv 1, iv c0, iv c1, iv c2, rv b578, uu, uu, uu, uu, uu, uu, uu, uu, uu] [.ref b591])) _
      refine XS.astore X602.here hx rfl (hb hby at_76) rfl rfl (l' := #[iv p1, iv p2, iv p3, iv p4, iv p5, iv p6, iv 1, iv c0, iv c1, iv c2, rv b578, rv b591, uu, uu, uu, uu, uu, uu, uu, uu]) rfl ?_
      exact kk
    have G609 : ∀ tq, Steps p.tables e below (T602.setTop (mkF m 139 #[iv p1, iv p2, iv p3, iv p4, iv p5, iv p6, iv 1, iv c0, iv c1, iv c2, rv b578, rv b591, iv 0, uu, uu, uu, uu, uu, uu, uu] [.int 0])) tq → Steps p.tables e below (T602.setTop (mkF m 78 #[iv p1, iv p2, iv p3, iv p4, iv p5, iv p6, iv 1, iv c0, iv c1, iv c2, rv b578, rv b591, uu, uu, uu, uu, uu, uu, uu, uu] [])) tq := by
      intro tq kk
      show Steps _ _ _ (T602.setTop (mkF m 78 #[iv p1, iv p2, iv p3, iv p4, iv p5, iv p6, iv 1, iv c0, iv c1, iv c2, rv b578, rv b591, uu, uu, uu, uu, uu, uu, uu, uu] [])) _
      refine XS.iload X602.here hx rfl (hb hby at_78) rfl ?_
      show Steps _ _ _ (T602.setTop (mkF m 80 _ [.int 1])) _
      refine XS.iconst X602.here hx rfl (hb hby at_80) ?_
      show Steps _ _ _ (T602.setTop (mkF m 81 _ [.int 1, .int 1])) _
      refine XS.icmpYes X602.here hx rfl (pc0 := 81) (pc' := 104) rfl (hb hby at_81) rfl (flt ((by decide) : ¬ ((1 : Int32) < (1 : Int32)))).2.2.2 (by decide) (by decide) ?_
      show Steps _ _ _ (T602.setTop (mkF m 104 _ [])) _
      refine XS.iconst X602.here hx rfl (hb hby at_104) ?_
      show Steps _ _ _ (T602.setTop (mkF m 105 _ [.int 0])) _
      refine XS.istore X602.here hx rfl (hb hby at_105) rfl (l' := #[iv p1, iv p2, iv p3, iv p4, iv p5, iv p6, iv 1, iv c0, iv c1, iv c2, rv b578, rv b591, iv 0, uu, uu, uu, uu, uu, uu, uu]) rfl ?_
      show Steps _ _ _ (T602.setTop (mkF m 107 _ [])) _
      refine XS.iload X602.here hx rfl (hb hby at_107) rfl ?_
      show Steps _ _ _ (T602.setTop (mkF m 109 _ [.int 1])) _
      refine XS.iconst X602.here hx rfl (hb hby at_109) ?_
      show Steps _ _ _ (T602.setTop (mkF m 110 _ [.int 2, .int 1])) _
      refine XS.icmpYes X602.here hx rfl (pc0 := 110) (pc' := 138) rfl (hb hby at_110) rfl (flt ((by decide) : ¬ ((2 : Int32) < (1 : Int32)))).2.2.2 (by decide) (by decide) ?_
      show Steps _ _ _ (T602.setTop (mkF m 138 #[iv p1, iv p2, iv p3, iv p4, iv p5, iv p6, iv 1, iv c0, iv c1, iv c2, rv b578, rv b591, iv 0, uu, uu, uu, uu, uu, uu, uu] [])) _
      refine XS.iconst X602.here hx rfl (hb hby at_138) ?_
      exact kk
    have M : own_cfg l Z n0 ([c0] : List Int32) (fun i => ([0, 1] : List Nat).getD i 0) 1 := by
      refine ⟨(Nat.le_of_ble_eq_true rfl), by decide, (fun _ => rfl), fun h z o t kb V hbd hg => rm_ucn l Z a0 hw [] t (1 : Int32) (1 : Int32) h n0 z (rm_uczB1 l Z a0 hw [] t kb c0 h n0 z o V (hbd c0 (by simp))  OA OH OL), rfl, rfl, fun i hi => ?_⟩
      rcases (show i = 0 by omega) with rfl
      · exact ⟨(Nat.le_of_ble_eq_true rfl), Or.inl ⟨rfl, fun q => absurd (show 1 < 1 from q.1) (by decide)⟩⟩
    obtain ⟨T610, h610, k610, X610, e610, E610, A610, st610⟩ := newP X602 hx hZ (W 30 rfl) rfl (g := (mkF m 142 #[iv p1, iv p2, iv p3, iv p4, iv p5, iv p6, iv 1, iv c0, iv c1, iv c2, rv b578, rv b591, iv 0, iv 0, uu, uu, uu, uu, uu, uu] [.int 3])) rfl (hb hby at_142) rfl (by decide : ¬ ((3 : Int32) < (0 : Int32))) (cap := 3) (by decide) (by decide) (by decide) (by decide)
    obtain ⟨b610, g610⟩ : ∃ z, z = T602.heap.size := ⟨_, rfl⟩
    rw [← g610] at A610 st610
    have g611 : n0 ≤ b610 := Nat.le_trans Z605 (Nat.le_of_eq g610.symm)
    have CR612 := CR603.trans (CHr.ext E610 CR603.1)
    have Z613 : n0 ≤ h610.size := Nat.le_trans Z605 E610.1
    have O614 : Old Z n0 h610 := O606.ext E610
    have hk615 := Nat.le_trans hk607 E610.1
    have V610 : Arv Z h610 b610 k610 .int (3 : Int32) [(.int (0 : Int32)), (.int (0 : Int32)), (.int (0 : Int32))] (.int (0 : Int32)) := (Arv.new A610 (by decide : ¬ ((3 : Int32) < (0 : Int32)))).pad (pad_rep [] (.int (0 : Int32)) 3)
    obtain ⟨cl616, Ar616, aq616, aS616, aN616, aH616, aG616⟩ := id V610
    obtain ⟨T617, h617, X617, e617, W617, st617⟩ := stI X610 hx hZ e610 Ar616 (j := (0 : Int32)) (inb_of aS616 ⟨(by decide), (by decide)⟩) (g := (mkF m 160 #[iv p1, iv p2, iv p3, iv p4, iv p5, iv p6, iv 1, iv c0, iv c1, iv c2, rv b578, rv b591, iv 0, iv 0, rv b610, iv 0, uu, uu, uu, uu] [.int p5, .int 0, .ref b610])) rfl rfl (hb hby at_160)
    have N617 := Fr.snoc X617 N602 g611
    have V617 : Arv Z h617 b610 k610 .int (3 : Int32) [(.int p5), (.int (0 : Int32)), (.int (0 : Int32))] (.int (0 : Int32)) := Arv.set Ar616 aq616 aS616 aN616 aH616 aG616 rfl W617 0 rfl (Nat.le_of_ble_eq_true rfl)
    have f619 := (Safe.ext E610 CR603.1 (Safe.new (Nat.le_of_eq g610.symm)))
    have CR618 := CR612.trans (CHr.wr W617 f619 CR612.1)
    have Z620 : n0 ≤ h617.size := Nat.le_trans Z613 (Keep.of_wr W617).1
    have O621 : Old Z n0 h617 := O614.wr W617 g611
    have hk622 := Nat.le_trans hk615 (Keep.of_wr W617).1
    have G623 : ∀ tq, Steps p.tables e below (T617.setTop (mkF m 207 #[iv p1, iv p2, iv p3, iv p4, iv p5, iv p6, iv 1, iv c0, iv c1, iv c2, rv b578, rv b591, iv 0, iv 0, rv b610, iv 1, uu, uu, uu, uu] [])) tq → Steps p.tables e below (T602.setTop (mkF m 139 #[iv p1, iv p2, iv p3, iv p4, iv p5, iv p6, iv 1, iv c0, iv c1, iv c2, rv b578, rv b591, iv 0, uu, uu, uu, uu, uu, uu, uu] [.int 0])) tq := by
      intro tq kk
      show Steps _ _ _ (T602.setTop (mkF m 139 #[iv p1, iv p2, iv p3, iv p4, iv p5, iv p6, iv 1, iv c0, iv c1, iv c2, rv b578, rv b591, iv 0, uu, uu, uu, uu, uu, uu, uu] [.int 0])) _
      refine XS.istore X602.here hx rfl (hb hby at_139) rfl (l' := #[iv p1, iv p2, iv p3, iv p4, iv p5, iv p6, iv 1, iv c0, iv c1, iv c2, rv b578, rv b591, iv 0, iv 0, uu, uu, uu, uu, uu, uu]) rfl ?_
      show Steps _ _ _ (T602.setTop (mkF m 141 _ [])) _
      refine XS.iconst X602.here hx rfl (hb hby at_141) ?_
      show Steps _ _ _ (T602.setTop (mkF m 142 _ [.int 3])) _
      refine st610 _ ?_
      show Steps _ _ _ (T610.setTop (mkF m 144 #[iv p1, iv p2, iv p3, iv p4, iv p5, iv p6, iv 1, iv c0, iv c1, iv c2, rv b578, rv b591, iv 0, iv 0, uu, uu, uu, uu, uu, uu] [.ref b610])) _
      refine XS.astore X610.here hx rfl (hb hby at_144) rfl rfl (l' := #[iv p1, iv p2, iv p3, iv p4, iv p5, iv p6, iv 1, iv c0, iv c1, iv c2, rv b578, rv b591, iv 0, iv 0, rv b610, uu, uu, uu, uu, uu]) rfl ?_
      show Steps _ _ _ (T610.setTop (mkF m 146 _ [])) _
      refine XS.iconst X610.here hx rfl (hb hby at_146) ?_
      show Steps _ _ _ (T610.setTop (mkF m 147 _ [.int 0])) _
      refine XS.istore X610.here hx rfl (hb hby at_147) rfl (l' := #[iv p1, iv p2, iv p3, iv p4, iv p5, iv p6, iv 1, iv c0, iv c1, iv c2, rv b578, rv b591, iv 0, iv 0, rv b610, iv 0, uu, uu, uu, uu]) rfl ?_
      show Steps _ _ _ (T610.setTop (mkF m 149 _ [])) _
      refine XS.iload X610.here hx rfl (hb hby at_149) rfl ?_
      show Steps _ _ _ (T610.setTop (mkF m 151 _ [.int 1])) _
      refine XS.ifNo X610.here hx rfl (hb hby at_151) rfl ((if0 _ _).trans (tlt ((by decide) : (0 : Int32) < (1 : Int32))).2.2.2) ?_
      show Steps _ _ _ (T610.setTop (mkF m 154 _ [])) _
      refine XS.aload X610.here hx rfl (hb hby at_154) rfl rfl ?_
      show Steps _ _ _ (T610.setTop (mkF m 156 _ [.ref b610])) _
      refine XS.iload X610.here hx rfl (hb hby at_156) rfl ?_
      show Steps _ _ _ (T610.setTop (mkF m 158 _ [.int 0, .ref b610])) _
      refine XS.iload X610.here hx rfl (hb hby at_158) rfl ?_
      show Steps _ _ _ (T610.setTop (mkF m 160 #[iv p1, iv p2, iv p3, iv p4, iv p5, iv p6, iv 1, iv c0, iv c1, iv c2, rv b578, rv b591, iv 0, iv 0, rv b610, iv 0, uu, uu, uu, uu] [.int p5, .int 0, .ref b610])) _
      refine st617 _ ?_
      show Steps _ _ _ (T617.setTop (mkF m 161 #[iv p1, iv p2, iv p3, iv p4, iv p5, iv p6, iv 1, iv c0, iv c1, iv c2, rv b578, rv b591, iv 0, iv 0, rv b610, iv 0, uu, uu, uu, uu] [])) _
      refine XS.iload X617.here hx rfl (hb hby at_161) rfl ?_
      show Steps _ _ _ (T617.setTop (mkF m 163 _ [.int 0])) _
      refine XS.iconst X617.here hx rfl (hb hby at_163) ?_
      show Steps _ _ _ (T617.setTop (mkF m 164 _ [.int 1, .int 0])) _
      refine XS.iadd X617.here hx rfl (hb hby at_164) rfl ?_
      show Steps _ _ _ (T617.setTop (mkF m 165 _ [.int 1])) _
      refine XS.istore X617.here hx rfl (hb hby at_165) rfl (l' := #[iv p1, iv p2, iv p3, iv p4, iv p5, iv p6, iv 1, iv c0, iv c1, iv c2, rv b578, rv b591, iv 0, iv 0, rv b610, iv 1, uu, uu, uu, uu]) rfl ?_
      show Steps _ _ _ (T617.setTop (mkF m 167 _ [])) _
      refine XS.iload X617.here hx rfl (hb hby at_167) rfl ?_
      show Steps _ _ _ (T617.setTop (mkF m 169 _ [.int 0])) _
      refine XS.ifYes X617.here hx rfl (pc0 := 169) (pc' := 187) rfl (hb hby at_169) rfl ((if0 _ _).trans (teq (rfl : (0 : Int32) = (0 : Int32))).1) (by decide) (by decide) ?_
      show Steps _ _ _ (T617.setTop (mkF m 187 _ [])) _
      refine XS.iload X617.here hx rfl (hb hby at_187) rfl ?_
      show Steps _ _ _ (T617.setTop (mkF m 189 _ [.int 0])) _
      refine XS.ifYes X617.here hx rfl (pc0 := 189) (pc' := 207) rfl (hb hby at_189) rfl ((if0 _ _).trans (teq (rfl : (0 : Int32) = (0 : Int32))).1) (by decide) (by decide) ?_
      exact kk
    have f624 := ((SX.ext E610).wr W617 (Nat.le_of_eq g610.symm))
    obtain ⟨s₂, o, t1, t2, t3, t4⟩ := tail1 s.vm T617 h617 _ _ (1 : Int32) (0 : Int32) (0 : Int32) b578 b591 b610 k610 ([c0] : List Int32) (fun i => ([0, 1] : List Nat).getD i 0)  (X617.more (by decide) (by decide)) e617 N617 Z620 O621 hS0 hk622 hZ hown CR618 f624.now V617 M (congrArg (fun z => [Value.int z]) (Int32.add_zero p5))
    exact ⟨s₂, o, pre0 _ (Gn _ (G354 _ (G599 _ (G608 _ (G609 _ (G623 _ (t1))))))), t2, t3, t4⟩
  · obtain ⟨T625, h625, k625, X625, e625, E625, A625, st625⟩ := newP X353 hx hZ (W 8 rfl) e353 (g := (mkF m 28 #[iv p1, iv p2, iv p3, iv p4, iv p5, iv p6, iv 2, iv c0, iv c1, iv c2, uu, uu, uu, uu, uu, uu, uu, uu, uu, uu] [.int 2])) rfl (hb hby at_28) rfl (by decide : ¬ ((2 : Int32) < (0 : Int32))) (cap := 2) (by decide) (by decide) (by decide) (by decide)
    obtain ⟨b625, g625⟩ : ∃ z, z = h0.size := ⟨_, rfl⟩
    rw [← g625] at A625 st625
    have g626 : n0 ≤ b625 := Nat.le_trans Z0 (Nat.le_of_eq g625.symm)
    have CR627 := CR0.trans (CHr.ext E625 CH0)
    have Z628 : n0 ≤ h625.size := Nat.le_trans Z0 E625.1
    have O629 : Old Z n0 h625 := X00.ext E625
    have hk630 := Nat.le_trans hk0 E625.1
    have V625 : Arv Z h625 b625 k625 .char (2 : Int32) [(.int (0 : Int32)), (.int (0 : Int32))] (.int (0 : Int32)) := (Arv.new A625 (by decide : ¬ ((2 : Int32) < (0 : Int32)))).pad (pad_rep [] (.int (0 : Int32)) 2)
    obtain ⟨cl631, Ar631, aq631, aS631, aN631, aH631, aG631⟩ := id V625
    obtain ⟨T632, h632, X632, e632, W632, st632⟩ := stC X625 hx hZ e625 Ar631 (j := (0 : Int32)) (inb_of aS631 ⟨(by decide), (by decide)⟩) (g := (mkF m 42 #[iv p1, iv p2, iv p3, iv p4, iv p5, iv p6, iv 2, iv c0, iv c1, iv c2, rv b625, uu, uu, uu, uu, uu, uu, uu, uu, uu] [.int c0, .int 0, .ref b625])) rfl rfl (hb hby at_42)
    have N632 := Fr.snoc X632 N353 g626
    have Vx632 := Arv.set Ar631 aq631 aS631 aN631 aH631 aG631 (fits_nar_char _) W632 0 rfl (Nat.le_of_ble_eq_true rfl)
    have V632 : Arv Z h632 b625 k625 .char (2 : Int32) [(.int c0), (.int (0 : Int32))] (.int (0 : Int32)) := by
      have q := Vx632
      rw [show Value.int (nar .char c0) = (.int c0) from congrArg Value.int (own_narc c0 hb0.1 hb0.2)] at q
      exact q
    have f634 := (Safe.ext E625 CH0 (Safe.new (Nat.le_of_eq g625.symm)))
    have CR633 := CR627.trans (CHr.wr W632 f634 CR627.1)
    have Z635 : n0 ≤ h632.size := Nat.le_trans Z628 (Keep.of_wr W632).1
    have O636 : Old Z n0 h632 := O629.wr W632 g626
    have hk637 := Nat.le_trans hk630 (Keep.of_wr W632).1
    obtain ⟨cl638, Ar638, aq638, aS638, aN638, aH638, aG638⟩ := id V632
    obtain ⟨T639, h639, X639, e639, W639, st639⟩ := stC X632 hx hZ e632 Ar638 (j := (1 : Int32)) (inb_of aS638 ⟨(by decide), (by decide)⟩) (g := (mkF m 54 #[iv p1, iv p2, iv p3, iv p4, iv p5, iv p6, iv 2, iv c0, iv c1, iv c2, rv b625, uu, uu, uu, uu, uu, uu, uu, uu, uu] [.int c1, .int 1, .ref b625])) rfl rfl (hb hby at_54)
    have N639 := Fr.snoc X639 N632 g626
    have Vx639 := Arv.set Ar638 aq638 aS638 aN638 aH638 aG638 (fits_nar_char _) W639 1 rfl (Nat.le_of_ble_eq_true rfl)
    have V639 : Arv Z h639 b625 k625 .char (2 : Int32) [(.int c0), (.int c1)] (.int (0 : Int32)) := by
      have q := Vx639
      rw [show Value.int (nar .char c1) = (.int c1) from congrArg Value.int (own_narc c1 hb1.1 hb1.2)] at q
      exact q
    have f641 := ((CHr.wr W632 f634 CR627.1).safe V625.lt f634)
    have CR640 := CR633.trans (CHr.wr W639 f641 CR633.1)
    have Z642 : n0 ≤ h639.size := Nat.le_trans Z635 (Keep.of_wr W639).1
    have O643 : Old Z n0 h639 := O636.wr W639 g626
    have hk644 := Nat.le_trans hk637 (Keep.of_wr W639).1
    obtain ⟨T645, h645, X645, e645, E645, A645, D645, -, st645⟩ := newO X639 hx hZ hown (W 9 rfl) (W 10 rfl) (W 11 rfl) e639 (g := (mkF m 67 #[iv p1, iv p2, iv p3, iv p4, iv p5, iv p6, iv 2, iv c0, iv c1, iv c2, rv b625, uu, uu, uu, uu, uu, uu, uu, uu, uu] [])) rfl (hb hby at_67) (by decide) (by decide)
    obtain ⟨b645, g645⟩ : ∃ z, z = h639.size := ⟨_, rfl⟩
    rw [← g645] at A645 D645 st645
    have g646 : n0 ≤ b645 := Nat.le_trans Z642 (Nat.le_of_eq g645.symm)
    have CR647 := CR640.trans (CHr.ext E645 CR640.1)
    have Z648 : n0 ≤ h645.size := Nat.le_trans Z642 E645.1
    have O649 : Old Z n0 h645 := O643.ext E645
    have hk650 := Nat.le_trans hk644 E645.1
    have F651 : Fld Z h645 b645 "java/lang/String" "value" "[B" .null := D645 (Or.inr (W 24 rfl)) (ty := (.array .byte)) (by decide)
    have F652 : Fld Z h645 b645 "java/lang/String" "coder" "B" (.int (0 : Int32)) := D645 (Or.inr (W 25 rfl)) (ty := .byte) (by decide)
    have G653 : ∀ tq, Steps p.tables e below (T645.setTop (mkF m 73 #[iv p1, iv p2, iv p3, iv p4, iv p5, iv p6, iv 2, iv c0, iv c1, iv c2, rv b625, uu, uu, uu, uu, uu, uu, uu, uu, uu] [.ref b625, .ref b645, .ref b645])) tq → Steps p.tables e below (T353.setTop (mkF m 26 #[iv p1, iv p2, iv p3, iv p4, iv p5, iv p6, iv 2, iv c0, iv c1, iv c2, uu, uu, uu, uu, uu, uu, uu, uu, uu, uu] [])) tq := by
      intro tq kk
      show Steps _ _ _ (T353.setTop (mkF m 26 #[iv p1, iv p2, iv p3, iv p4, iv p5, iv p6, iv 2, iv c0, iv c1, iv c2, uu, uu, uu, uu, uu, uu, uu, uu, uu, uu] [])) _
      refine XS.iload X353.here hx rfl (hb hby at_26) rfl ?_
      show Steps _ _ _ (T353.setTop (mkF m 28 _ [.int 2])) _
      refine st625 _ ?_
      show Steps _ _ _ (T625.setTop (mkF m 30 #[iv p1, iv p2, iv p3, iv p4, iv p5, iv p6, iv 2, iv c0, iv c1, iv c2, uu, uu, uu, uu, uu, uu, uu, uu, uu, uu] [.ref b625])) _
      refine XS.astore X625.here hx rfl (hb hby at_30) rfl rfl (l' := #[iv p1, iv p2, iv p3, iv p4, iv p5, iv p6, iv 2, iv c0, iv c1, iv c2, rv b625, uu, uu, uu, uu, uu, uu, uu, uu, uu]) rfl ?_
      show Steps _ _ _ (T625.setTop (mkF m 32 _ [])) _
      refine XS.iload X625.here hx rfl (hb hby at_32) rfl ?_
      show Steps _ _ _ (T625.setTop (mkF m 34 _ [.int 2])) _
      refine XS.ifNo X625.here hx rfl (hb hby at_34) rfl ((if0 _ _).trans (tlt ((by decide) : (0 : Int32) < (2 : Int32))).2.2.2) ?_
      show Steps _ _ _ (T625.setTop (mkF m 37 _ [])) _
      refine XS.aload X625.here hx rfl (hb hby at_37) rfl rfl ?_
      show Steps _ _ _ (T625.setTop (mkF m 39 _ [.ref b625])) _
      refine XS.iconst X625.here hx rfl (hb hby at_39) ?_
      show Steps _ _ _ (T625.setTop (mkF m 40 _ [.int 0, .ref b625])) _
      refine XS.iload X625.here hx rfl (hb hby at_40) rfl ?_
      show Steps _ _ _ (T625.setTop (mkF m 42 _ [.int c0, .int 0, .ref b625])) _
      refine st632 _ ?_
      show Steps _ _ _ (T632.setTop (mkF m 43 #[iv p1, iv p2, iv p3, iv p4, iv p5, iv p6, iv 2, iv c0, iv c1, iv c2, rv b625, uu, uu, uu, uu, uu, uu, uu, uu, uu] [])) _
      refine XS.iload X632.here hx rfl (hb hby at_43) rfl ?_
      show Steps _ _ _ (T632.setTop (mkF m 45 _ [.int 2])) _
      refine XS.iconst X632.here hx rfl (hb hby at_45) ?_
      show Steps _ _ _ (T632.setTop (mkF m 46 _ [.int 1, .int 2])) _
      refine XS.icmpNo X632.here hx rfl (hb hby at_46) rfl (tlt ((by decide) : (1 : Int32) < (2 : Int32))).2.2.2 ?_
      show Steps _ _ _ (T632.setTop (mkF m 49 _ [])) _
      refine XS.aload X632.here hx rfl (hb hby at_49) rfl rfl ?_
      show Steps _ _ _ (T632.setTop (mkF m 51 _ [.ref b625])) _
      refine XS.iconst X632.here hx rfl (hb hby at_51) ?_
      show Steps _ _ _ (T632.setTop (mkF m 52 _ [.int 1, .ref b625])) _
      refine XS.iload X632.here hx rfl (hb hby at_52) rfl ?_
      show Steps _ _ _ (T632.setTop (mkF m 54 _ [.int c1, .int 1, .ref b625])) _
      refine st639 _ ?_
      show Steps _ _ _ (T639.setTop (mkF m 55 #[iv p1, iv p2, iv p3, iv p4, iv p5, iv p6, iv 2, iv c0, iv c1, iv c2, rv b625, uu, uu, uu, uu, uu, uu, uu, uu, uu] [])) _
      refine XS.iload X639.here hx rfl (hb hby at_55) rfl ?_
      show Steps _ _ _ (T639.setTop (mkF m 57 _ [.int 2])) _
      refine XS.iconst X639.here hx rfl (hb hby at_57) ?_
      show Steps _ _ _ (T639.setTop (mkF m 58 _ [.int 2, .int 2])) _
      refine XS.icmpYes X639.here hx rfl (pc0 := 58) (pc' := 67) rfl (hb hby at_58) rfl (flt ((by decide) : ¬ ((2 : Int32) < (2 : Int32)))).2.2.2 (by decide) (by decide) ?_
      show Steps _ _ _ (T639.setTop (mkF m 67 _ [])) _
      refine st645 _ ?_
      show Steps _ _ _ (T645.setTop (mkF m 70 #[iv p1, iv p2, iv p3, iv p4, iv p5, iv p6, iv 2, iv c0, iv c1, iv c2, rv b625, uu, uu, uu, uu, uu, uu, uu, uu, uu] [.ref b645])) _
      refine XS.dup X645.here hx rfl (hb hby at_70) rfl rfl ?_
      show Steps _ _ _ (T645.setTop (mkF m 71 _ [.ref b645, .ref b645])) _
      refine XS.aload X645.here hx rfl (hb hby at_71) rfl rfl ?_
      exact kk
    have hbA : ∀ c ∈ ([c0, c1] : List Int32), ¬ c < 0 ∧ ¬ (65535 : Int32) < c := by
      intro c hc
      simp only [List.mem_cons, List.not_mem_nil, or_false] at hc
      rcases hc with rfl | rfl
      · exact hb0
      · exact hb1
    have f654 := (V639.ext E645)
    have f655 := (Nat.lt_of_lt_of_le (Nat.lt_of_lt_of_le V625.lt (Keep.of_wr W632).1) (Keep.of_wr W639).1)
    obtain ⟨_, _, ⟨T656, L656, k656, n656⟩, -, X656, ⟨Lc656, hQ656, l656, y656, z656⟩, st656⟩ := X645.specialBack hx (y := (⟨"java/lang/String", "<init>", "([C)V"⟩ : MethodName)) rfl hown (mvT hZ (W 12 rfl)) (mvT hZ (W 13 rfl)) (mvT hZ (W 14 rfl)) (by decide) (backOf (W := 1) (rm_snew l Z a0 hw [] b645 b625 k625 G1 ([c0, c1] : List Int32) h645 n0 Z648 O649 f654 (Nat.le_of_ble_eq_true rfl) (Nat.le_of_ble_eq_true rfl) hbA A645 g646 F651 F652 (Nat.ne_of_lt (Nat.lt_of_lt_of_le f655 (Nat.le_of_eq g645.symm))) O2 P5 OA OH OL) hZ (W 14 rfl) (W 11 rfl) (by decide) (by decide)) (g := (mkF m 73 #[iv p1, iv p2, iv p3, iv p4, iv p5, iv p6, iv 2, iv c0, iv c1, iv c2, rv b625, uu, uu, uu, uu, uu, uu, uu, uu, uu] [.ref b625, .ref b645, .ref b645])) rfl (by rw [hml]; rfl) (Steps.refl _) (a := b645) (argsL := [.ref b625]) (rest := [.ref b645]) (lenOf own_pd_1 rfl) rfl own_wt (hb hby at_73) (fun _ _ => ⟨rfl, e645, (by decide : 2 + 2 ≤ _), (by decide : 6 + 12 ≤ _)⟩)
    dsimp only [Pt.U, Pt.locs, Pt.cells, Pt.slots] at X656 l656 y656 z656 st656 hQ656
    subst l656 y656 z656
    obtain ⟨rfl, Nq656, K656, SX⟩ := hQ656
    have N656 := Fr.app N639 Nq656
    have f658 := (Safe.ext E645 CR640.1 (Safe.new (Nat.le_of_eq g645.symm)))
    have CR657 := CR647.trans (CHr.keep K656 (allS f658 all0) CR647.1)
    have Z659 : n0 ≤ T656.heap.size := Nat.le_trans Z648 K656.1
    have O660 : Old Z n0 T656.heap := O649.keep K656 (allS g646 all0)
    have hk661 := Nat.le_trans hk650 K656.1
    have G662 : ∀ tq, Steps p.tables e below (T656.setTop (mkF m 78 #[iv p1, iv p2, iv p3, iv p4, iv p5, iv p6, iv 2, iv c0, iv c1, iv c2, rv b625, rv b645, uu, uu, uu, uu, uu, uu, uu, uu] [])) tq → Steps p.tables e below (T645.setTop (mkF m 73 #[iv p1, iv p2, iv p3, iv p4, iv p5, iv p6, iv 2, iv c0, iv c1, iv c2, rv b625, uu, uu, uu, uu, uu, uu, uu, uu, uu] [.ref b625, .ref b645, .ref b645])) tq := by
      intro tq kk
      show Steps _ _ _ (T645.setTop (mkF m 73 #[iv p1, iv p2, iv p3, iv p4, iv p5, iv p6, iv 2, iv c0, iv c1, iv c2, rv b625, uu, uu, uu, uu, uu, uu, uu, uu, uu] [.ref b625, .ref b645, .ref b645])) _
      refine st656.trans ?_
      show Steps _ _ _ (T656.setTop (mkF m 76 #[iv p1, iv p2, iv p3, iv p4, iv p5, iv p6, iv 2, iv c0, iv c1, iv c2, rv b625, uu, uu, uu, uu, uu, uu, uu, uu, uu] [.ref b645])) _
      refine XS.astore X656.here hx rfl (hb hby at_76) rfl rfl (l' := #[iv p1, iv p2, iv p3, iv p4, iv p5, iv p6, iv 2, iv c0, iv c1, iv c2, rv b625, rv b645, uu, uu, uu, uu, uu, uu, uu, uu]) rfl ?_
      exact kk
    have G663 : ∀ tq, Steps p.tables e below (T656.setTop (mkF m 84 #[iv p1, iv p2, iv p3, iv p4, iv p5, iv p6, iv 2, iv c0, iv c1, iv c2, rv b625, rv b645, uu, uu, uu, uu, uu, uu, uu, uu] [])) tq → Steps p.tables e below (T656.setTop (mkF m 78 #[iv p1, iv p2, iv p3, iv p4, iv p5, iv p6, iv 2, iv c0, iv c1, iv c2, rv b625, rv b645, uu, uu, uu, uu, uu, uu, uu, uu] [])) tq := by
      intro tq kk
      show Steps _ _ _ (T656.setTop (mkF m 78 #[iv p1, iv p2, iv p3, iv p4, iv p5, iv p6, iv 2, iv c0, iv c1, iv c2, rv b625, rv b645, uu, uu, uu, uu, uu, uu, uu, uu] [])) _
      refine XS.iload X656.here hx rfl (hb hby at_78) rfl ?_
      show Steps _ _ _ (T656.setTop (mkF m 80 _ [.int 2])) _
      refine XS.iconst X656.here hx rfl (hb hby at_80) ?_
      show Steps _ _ _ (T656.setTop (mkF m 81 _ [.int 1, .int 2])) _
      refine XS.icmpNo X656.here hx rfl (hb hby at_81) rfl (tlt ((by decide) : (1 : Int32) < (2 : Int32))).2.2.2 ?_
      exact kk
    by_cases hP0 : own_hi c0 ∧ own_lo c1
    · obtain ⟨_, _, ⟨T664, L664, k664, n664⟩, -, X664, ⟨Lc664, hQ664, l664, y664, z664⟩, st664⟩ := Jvm.LawKit.callS X656 hx (y := (⟨"com/example/shush/shush/OccurrenceMatchedPinLaw", "hi", "(C)Z"⟩ : MethodName)) hown (mvT hZ (W 157 rfl)) (mvT hZ (W 158 rfl)) (mvT hZ (W 3 rfl)) (mvT hZ (W 159 rfl)) (by decide) (backOf (W := 0) (rm_hi1 l Z a0 hw [] c0 T656.heap n0 Z659 hP0.1) hZ (W 159 rfl) (W 3 rfl) (by decide) (by decide)) (g := (mkF m 86 #[iv p1, iv p2, iv p3, iv p4, iv p5, iv p6, iv 2, iv c0, iv c1, iv c2, rv b625, rv b645, uu, uu, uu, uu, uu, uu, uu, uu] [.int c0])) rfl (by rw [hml]; rfl) (argsL := [.int c0]) (rest := []) (lenOf own_pd_21 rfl) rfl own_wt (hb hby at_86) (fun _ _ => ⟨rfl, rfl, (by decide : 4 + 0 ≤ _), (by decide : 18 + 0 ≤ _)⟩)
      dsimp only [Pt.U, Pt.locs, Pt.cells, Pt.slots] at X664 l664 y664 z664 st664 hQ664
      subst l664 y664 z664
      obtain ⟨rfl, Nq664, e664⟩ := hQ664
      have N664 := Fr.app N656 Nq664
      obtain ⟨_, _, ⟨T665, L665, k665, n665⟩, -, X665, ⟨Lc665, hQ665, l665, y665, z665⟩, st665⟩ := Jvm.LawKit.callS X664 hx (y := (⟨"com/example/shush/shush/OccurrenceMatchedPinLaw", "lo", "(C)Z"⟩ : MethodName)) hown (mvT hZ (W 179 rfl)) (mvT hZ (W 180 rfl)) (mvT hZ (W 3 rfl)) (mvT hZ (W 181 rfl)) (by decide) (backOf (W := 0) (rm_lo1 l Z a0 hw [] c1 T656.heap n0 Z659 hP0.2) hZ (W 181 rfl) (W 3 rfl) (by decide) (by decide)) (g := (mkF m 94 #[iv p1, iv p2, iv p3, iv p4, iv p5, iv p6, iv 2, iv c0, iv c1, iv c2, rv b625, rv b645, uu, uu, uu, uu, uu, uu, uu, uu] [.int c1])) rfl (by rw [hml]; rfl) (argsL := [.int c1]) (rest := []) (lenOf own_pd_21 rfl) rfl own_wt (hb hby at_94) (fun _ _ => ⟨rfl, e664, (by decide : 4 + 0 ≤ _), (by decide : 18 + 0 ≤ _)⟩)
      dsimp only [Pt.U, Pt.locs, Pt.cells, Pt.slots] at X665 l665 y665 z665 st665 hQ665
      subst l665 y665 z665
      obtain ⟨rfl, Nq665, e665⟩ := hQ665
      have N665 := Fr.app N664 Nq665
      have G666 : ∀ tq, Steps p.tables e below (T665.setTop (mkF m 105 #[iv p1, iv p2, iv p3, iv p4, iv p5, iv p6, iv 2, iv c0, iv c1, iv c2, rv b625, rv b645, uu, uu, uu, uu, uu, uu, uu, uu] [.int 0])) tq → Steps p.tables e below (T656.setTop (mkF m 84 #[iv p1, iv p2, iv p3, iv p4, iv p5, iv p6, iv 2, iv c0, iv c1, iv c2, rv b625, rv b645, uu, uu, uu, uu, uu, uu, uu, uu] [])) tq := by
        intro tq kk
        show Steps _ _ _ (T656.setTop (mkF m 84 #[iv p1, iv p2, iv p3, iv p4, iv p5, iv p6, iv 2, iv c0, iv c1, iv c2, rv b625, rv b645, uu, uu, uu, uu, uu, uu, uu, uu] [])) _
        refine XS.iload X656.here hx rfl (hb hby at_84) rfl ?_
        show Steps _ _ _ (T656.setTop (mkF m 86 _ [.int c0])) _
        refine st664 _ ?_
        show Steps _ _ _ (T664.setTop (mkF m 89 #[iv p1, iv p2, iv p3, iv p4, iv p5, iv p6, iv 2, iv c0, iv c1, iv c2, rv b625, rv b645, uu, uu, uu, uu, uu, uu, uu, uu] [.int 1])) _
        refine XS.ifNo X664.here hx rfl (hb hby at_89) rfl ((if0 _ _).trans (feq ((by decide) : ¬ ((1 : Int32) = (0 : Int32)))).1) ?_
        show Steps _ _ _ (T664.setTop (mkF m 92 _ [])) _
        refine XS.iload X664.here hx rfl (hb hby at_92) rfl ?_
        show Steps _ _ _ (T664.setTop (mkF m 94 _ [.int c1])) _
        refine st665 _ ?_
        show Steps _ _ _ (T665.setTop (mkF m 97 #[iv p1, iv p2, iv p3, iv p4, iv p5, iv p6, iv 2, iv c0, iv c1, iv c2, rv b625, rv b645, uu, uu, uu, uu, uu, uu, uu, uu] [.int 1])) _
        refine XS.ifYes X665.here hx rfl (pc0 := 97) (pc' := 104) rfl (hb hby at_97) rfl ((if0 _ _).trans (feq ((by decide) : ¬ ((1 : Int32) = (0 : Int32)))).2) (by decide) (by decide) ?_
        show Steps _ _ _ (T665.setTop (mkF m 104 _ [])) _
        refine XS.iconst X665.here hx rfl (hb hby at_104) ?_
        exact kk
      have G667 : ∀ tq, Steps p.tables e below (T665.setTop (mkF m 139 #[iv p1, iv p2, iv p3, iv p4, iv p5, iv p6, iv 2, iv c0, iv c1, iv c2, rv b625, rv b645, iv 0, uu, uu, uu, uu, uu, uu, uu] [.int 0])) tq → Steps p.tables e below (T665.setTop (mkF m 105 #[iv p1, iv p2, iv p3, iv p4, iv p5, iv p6, iv 2, iv c0, iv c1, iv c2, rv b625, rv b645, uu, uu, uu, uu, uu, uu, uu, uu] [.int 0])) tq := by
        intro tq kk
        show Steps _ _ _ (T665.setTop (mkF m 105 #[iv p1, iv p2, iv p3, iv p4, iv p5, iv p6, iv 2, iv c0, iv c1, iv c2, rv b625, rv b645, uu, uu, uu, uu, uu, uu, uu, uu] [.int 0])) _
        refine XS.istore X665.here hx rfl (hb hby at_105) rfl (l' := #[iv p1, iv p2, iv p3, iv p4, iv p5, iv p6, iv 2, iv c0, iv c1, iv c2, rv b625, rv b645, iv 0, uu, uu, uu, uu, uu, uu, uu]) rfl ?_
        show Steps _ _ _ (T665.setTop (mkF m 107 _ [])) _
        refine XS.iload X665.here hx rfl (hb hby at_107) rfl ?_
        show Steps _ _ _ (T665.setTop (mkF m 109 _ [.int 2])) _
        refine XS.iconst X665.here hx rfl (hb hby at_109) ?_
        show Steps _ _ _ (T665.setTop (mkF m 110 _ [.int 2, .int 2])) _
        refine XS.icmpYes X665.here hx rfl (pc0 := 110) (pc' := 138) rfl (hb hby at_110) rfl (flt ((by decide) : ¬ ((2 : Int32) < (2 : Int32)))).2.2.2 (by decide) (by decide) ?_
        show Steps _ _ _ (T665.setTop (mkF m 138 _ [])) _
        refine XS.iconst X665.here hx rfl (hb hby at_138) ?_
        exact kk
      have M : own_cfg l Z n0 ([c0, c1] : List Int32) (fun i => ([0, 2] : List Nat).getD i 0) 1 := by
        refine ⟨(Nat.le_of_ble_eq_true rfl), by decide, (fun hle => absurd (own_higt hP0.1) (hle c0 (by simp))), fun h z o t kb V hbd hg => rm_ucn l Z a0 hw [] t (2 : Int32) (1 : Int32) h n0 z (rm_uczC2 l Z a0 hw [] t kb c0 c1 h n0 z o V (hbd c0 (by simp)) (hbd c1 (by simp)) hP0 OA OH OL), rfl, rfl, fun i hi => ?_⟩
        rcases (show i = 0 by omega) with rfl
        · exact ⟨(Nat.le_of_ble_eq_true rfl), Or.inr ⟨rfl, (Nat.le_of_ble_eq_true rfl), hP0.1, hP0.2⟩⟩
      obtain ⟨T668, h668, k668, X668, e668, E668, A668, st668⟩ := newP X665 hx hZ (W 30 rfl) e665 (g := (mkF m 142 #[iv p1, iv p2, iv p3, iv p4, iv p5, iv p6, iv 2, iv c0, iv c1, iv c2, rv b625, rv b645, iv 0, iv 0, uu, uu, uu, uu, uu, uu] [.int 3])) rfl (hb hby at_142) rfl (by decide : ¬ ((3 : Int32) < (0 : Int32))) (cap := 3) (by decide) (by decide) (by decide) (by decide)
      obtain ⟨b668, g668⟩ : ∃ z, z = T656.heap.size := ⟨_, rfl⟩
      rw [← g668] at A668 st668
      have g669 : n0 ≤ b668 := Nat.le_trans Z659 (Nat.le_of_eq g668.symm)
      have CR670 := CR657.trans (CHr.ext E668 CR657.1)
      have Z671 : n0 ≤ h668.size := Nat.le_trans Z659 E668.1
      have O672 : Old Z n0 h668 := O660.ext E668
      have hk673 := Nat.le_trans hk661 E668.1
      have V668 : Arv Z h668 b668 k668 .int (3 : Int32) [(.int (0 : Int32)), (.int (0 : Int32)), (.int (0 : Int32))] (.int (0 : Int32)) := (Arv.new A668 (by decide : ¬ ((3 : Int32) < (0 : Int32)))).pad (pad_rep [] (.int (0 : Int32)) 3)
      obtain ⟨cl674, Ar674, aq674, aS674, aN674, aH674, aG674⟩ := id V668
      obtain ⟨T675, h675, X675, e675, W675, st675⟩ := stI X668 hx hZ e668 Ar674 (j := (0 : Int32)) (inb_of aS674 ⟨(by decide), (by decide)⟩) (g := (mkF m 160 #[iv p1, iv p2, iv p3, iv p4, iv p5, iv p6, iv 2, iv c0, iv c1, iv c2, rv b625, rv b645, iv 0, iv 0, rv b668, iv 0, uu, uu, uu, uu] [.int p5, .int 0, .ref b668])) rfl rfl (hb hby at_160)
      have N675 := Fr.snoc X675 N665 g669
      have V675 : Arv Z h675 b668 k668 .int (3 : Int32) [(.int p5), (.int (0 : Int32)), (.int (0 : Int32))] (.int (0 : Int32)) := Arv.set Ar674 aq674 aS674 aN674 aH674 aG674 rfl W675 0 rfl (Nat.le_of_ble_eq_true rfl)
      have f677 := (Safe.ext E668 CR657.1 (Safe.new (Nat.le_of_eq g668.symm)))
      have CR676 := CR670.trans (CHr.wr W675 f677 CR670.1)
      have Z678 : n0 ≤ h675.size := Nat.le_trans Z671 (Keep.of_wr W675).1
      have O679 : Old Z n0 h675 := O672.wr W675 g669
      have hk680 := Nat.le_trans hk673 (Keep.of_wr W675).1
      have G681 : ∀ tq, Steps p.tables e below (T675.setTop (mkF m 207 #[iv p1, iv p2, iv p3, iv p4, iv p5, iv p6, iv 2, iv c0, iv c1, iv c2, rv b625, rv b645, iv 0, iv 0, rv b668, iv 1, uu, uu, uu, uu] [])) tq → Steps p.tables e below (T665.setTop (mkF m 139 #[iv p1, iv p2, iv p3, iv p4, iv p5, iv p6, iv 2, iv c0, iv c1, iv c2, rv b625, rv b645, iv 0, uu, uu, uu, uu, uu, uu, uu] [.int 0])) tq := by
        intro tq kk
        show Steps _ _ _ (T665.setTop (mkF m 139 #[iv p1, iv p2, iv p3, iv p4, iv p5, iv p6, iv 2, iv c0, iv c1, iv c2, rv b625, rv b645, iv 0, uu, uu, uu, uu, uu, uu, uu] [.int 0])) _
        refine XS.istore X665.here hx rfl (hb hby at_139) rfl (l' := #[iv p1, iv p2, iv p3, iv p4, iv p5, iv p6, iv 2, iv c0, iv c1, iv c2, rv b625, rv b645, iv 0, iv 0, uu, uu, uu, uu, uu, uu]) rfl ?_
        show Steps _ _ _ (T665.setTop (mkF m 141 _ [])) _
        refine XS.iconst X665.here hx rfl (hb hby at_141) ?_
        show Steps _ _ _ (T665.setTop (mkF m 142 _ [.int 3])) _
        refine st668 _ ?_
        show Steps _ _ _ (T668.setTop (mkF m 144 #[iv p1, iv p2, iv p3, iv p4, iv p5, iv p6, iv 2, iv c0, iv c1, iv c2, rv b625, rv b645, iv 0, iv 0, uu, uu, uu, uu, uu, uu] [.ref b668])) _
        refine XS.astore X668.here hx rfl (hb hby at_144) rfl rfl (l' := #[iv p1, iv p2, iv p3, iv p4, iv p5, iv p6, iv 2, iv c0, iv c1, iv c2, rv b625, rv b645, iv 0, iv 0, rv b668, uu, uu, uu, uu, uu]) rfl ?_
        show Steps _ _ _ (T668.setTop (mkF m 146 _ [])) _
        refine XS.iconst X668.here hx rfl (hb hby at_146) ?_
        show Steps _ _ _ (T668.setTop (mkF m 147 _ [.int 0])) _
        refine XS.istore X668.here hx rfl (hb hby at_147) rfl (l' := #[iv p1, iv p2, iv p3, iv p4, iv p5, iv p6, iv 2, iv c0, iv c1, iv c2, rv b625, rv b645, iv 0, iv 0, rv b668, iv 0, uu, uu, uu, uu]) rfl ?_
        show Steps _ _ _ (T668.setTop (mkF m 149 _ [])) _
        refine XS.iload X668.here hx rfl (hb hby at_149) rfl ?_
        show Steps _ _ _ (T668.setTop (mkF m 151 _ [.int 2])) _
        refine XS.ifNo X668.here hx rfl (hb hby at_151) rfl ((if0 _ _).trans (tlt ((by decide) : (0 : Int32) < (2 : Int32))).2.2.2) ?_
        show Steps _ _ _ (T668.setTop (mkF m 154 _ [])) _
        refine XS.aload X668.here hx rfl (hb hby at_154) rfl rfl ?_
        show Steps _ _ _ (T668.setTop (mkF m 156 _ [.ref b668])) _
        refine XS.iload X668.here hx rfl (hb hby at_156) rfl ?_
        show Steps _ _ _ (T668.setTop (mkF m 158 _ [.int 0, .ref b668])) _
        refine XS.iload X668.here hx rfl (hb hby at_158) rfl ?_
        show Steps _ _ _ (T668.setTop (mkF m 160 #[iv p1, iv p2, iv p3, iv p4, iv p5, iv p6, iv 2, iv c0, iv c1, iv c2, rv b625, rv b645, iv 0, iv 0, rv b668, iv 0, uu, uu, uu, uu] [.int p5, .int 0, .ref b668])) _
        refine st675 _ ?_
        show Steps _ _ _ (T675.setTop (mkF m 161 #[iv p1, iv p2, iv p3, iv p4, iv p5, iv p6, iv 2, iv c0, iv c1, iv c2, rv b625, rv b645, iv 0, iv 0, rv b668, iv 0, uu, uu, uu, uu] [])) _
        refine XS.iload X675.here hx rfl (hb hby at_161) rfl ?_
        show Steps _ _ _ (T675.setTop (mkF m 163 _ [.int 0])) _
        refine XS.iconst X675.here hx rfl (hb hby at_163) ?_
        show Steps _ _ _ (T675.setTop (mkF m 164 _ [.int 1, .int 0])) _
        refine XS.iadd X675.here hx rfl (hb hby at_164) rfl ?_
        show Steps _ _ _ (T675.setTop (mkF m 165 _ [.int 1])) _
        refine XS.istore X675.here hx rfl (hb hby at_165) rfl (l' := #[iv p1, iv p2, iv p3, iv p4, iv p5, iv p6, iv 2, iv c0, iv c1, iv c2, rv b625, rv b645, iv 0, iv 0, rv b668, iv 1, uu, uu, uu, uu]) rfl ?_
        show Steps _ _ _ (T675.setTop (mkF m 167 _ [])) _
        refine XS.iload X675.here hx rfl (hb hby at_167) rfl ?_
        show Steps _ _ _ (T675.setTop (mkF m 169 _ [.int 0])) _
        refine XS.ifYes X675.here hx rfl (pc0 := 169) (pc' := 187) rfl (hb hby at_169) rfl ((if0 _ _).trans (teq (rfl : (0 : Int32) = (0 : Int32))).1) (by decide) (by decide) ?_
        show Steps _ _ _ (T675.setTop (mkF m 187 _ [])) _
        refine XS.iload X675.here hx rfl (hb hby at_187) rfl ?_
        show Steps _ _ _ (T675.setTop (mkF m 189 _ [.int 0])) _
        refine XS.ifYes X675.here hx rfl (pc0 := 189) (pc' := 207) rfl (hb hby at_189) rfl ((if0 _ _).trans (teq (rfl : (0 : Int32) = (0 : Int32))).1) (by decide) (by decide) ?_
        exact kk
      have f682 := ((SX.ext E668).wr W675 (Nat.le_of_eq g668.symm))
      obtain ⟨s₂, o, t1, t2, t3, t4⟩ := tail1 s.vm T675 h675 _ _ (2 : Int32) (0 : Int32) (0 : Int32) b625 b645 b668 k668 ([c0, c1] : List Int32) (fun i => ([0, 2] : List Nat).getD i 0)  (X675.more (by decide) (by decide)) e675 N675 Z678 O679 hS0 hk680 hZ hown CR676 f682.now V675 M (congrArg (fun z => [Value.int z]) (Int32.add_zero p5))
      exact ⟨s₂, o, pre0 _ (Gn _ (G354 _ (G653 _ (G662 _ (G663 _ (G666 _ (G667 _ (G681 _ (t1))))))))), t2, t3, t4⟩
    · obtain ⟨TE683, lE683, XE683, eE683, NE683, GE683⟩ : ∃ (TE : State) (lE : List Loc), Stand p l e room_1 (s.setVm s.vm) m #[(.int p1), (.int p2), (.int p3), (.int p4), (.int p5), (.int p6)] below meth c TE lE 4 18 ∧ TE.heap = T656.heap ∧ Fr n0 lE ∧ (∀ tgt, Steps p.tables e below (TE.setTop (mkF m 105 #[iv p1, iv p2, iv p3, iv p4, iv p5, iv p6, iv 2, iv c0, iv c1, iv c2, rv b625, rv b645, uu, uu, uu, uu, uu, uu, uu, uu] [.int 1])) tgt → Steps p.tables e below (T656.setTop (mkF m 84 #[iv p1, iv p2, iv p3, iv p4, iv p5, iv p6, iv 2, iv c0, iv c1, iv c2, rv b625, rv b645, uu, uu, uu, uu, uu, uu, uu, uu] [])) tgt) := by
        by_cases hh : own_hi c0
        · obtain ⟨_, _, ⟨T684, L684, k684, n684⟩, -, X684, ⟨Lc684, hQ684, l684, y684, z684⟩, st684⟩ := Jvm.LawKit.callS X656 hx (y := (⟨"com/example/shush/shush/OccurrenceMatchedPinLaw", "hi", "(C)Z"⟩ : MethodName)) hown (mvT hZ (W 157 rfl)) (mvT hZ (W 158 rfl)) (mvT hZ (W 3 rfl)) (mvT hZ (W 159 rfl)) (by decide) (backOf (W := 0) (rm_hi1 l Z a0 hw [] c0 T656.heap n0 Z659 hh) hZ (W 159 rfl) (W 3 rfl) (by decide) (by decide)) (g := (mkF m 86 #[iv p1, iv p2, iv p3, iv p4, iv p5, iv p6, iv 2, iv c0, iv c1, iv c2, rv b625, rv b645, uu, uu, uu, uu, uu, uu, uu, uu] [.int c0])) rfl (by rw [hml]; rfl) (argsL := [.int c0]) (rest := []) (lenOf own_pd_21 rfl) rfl own_wt (hb hby at_86) (fun _ _ => ⟨rfl, rfl, (by decide : 4 + 0 ≤ _), (by decide : 18 + 0 ≤ _)⟩)
          dsimp only [Pt.U, Pt.locs, Pt.cells, Pt.slots] at X684 l684 y684 z684 st684 hQ684
          subst l684 y684 z684
          obtain ⟨rfl, Nq684, e684⟩ := hQ684
          have N684 := Fr.app N656 Nq684
          obtain ⟨_, _, ⟨T685, L685, k685, n685⟩, -, X685, ⟨Lc685, hQ685, l685, y685, z685⟩, st685⟩ := Jvm.LawKit.callS X684 hx (y := (⟨"com/example/shush/shush/OccurrenceMatchedPinLaw", "lo", "(C)Z"⟩ : MethodName)) hown (mvT hZ (W 179 rfl)) (mvT hZ (W 180 rfl)) (mvT hZ (W 3 rfl)) (mvT hZ (W 181 rfl)) (by decide) (backOf (W := 0) (rm_lo0 l Z a0 hw [] c1 T656.heap n0 Z659 (fun q => hP0 ⟨hh, q⟩)) hZ (W 181 rfl) (W 3 rfl) (by decide) (by decide)) (g := (mkF m 94 #[iv p1, iv p2, iv p3, iv p4, iv p5, iv p6, iv 2, iv c0, iv c1, iv c2, rv b625, rv b645, uu, uu, uu, uu, uu, uu, uu, uu] [.int c1])) rfl (by rw [hml]; rfl) (argsL := [.int c1]) (rest := []) (lenOf own_pd_21 rfl) rfl own_wt (hb hby at_94) (fun _ _ => ⟨rfl, e684, (by decide : 4 + 0 ≤ _), (by decide : 18 + 0 ≤ _)⟩)
          dsimp only [Pt.U, Pt.locs, Pt.cells, Pt.slots] at X685 l685 y685 z685 st685 hQ685
          subst l685 y685 z685
          obtain ⟨rfl, Nq685, e685⟩ := hQ685
          have N685 := Fr.app N684 Nq685
          have G686 : ∀ tq, Steps p.tables e below (T685.setTop (mkF m 105 #[iv p1, iv p2, iv p3, iv p4, iv p5, iv p6, iv 2, iv c0, iv c1, iv c2, rv b625, rv b645, uu, uu, uu, uu, uu, uu, uu, uu] [.int 1])) tq → Steps p.tables e below (T656.setTop (mkF m 84 #[iv p1, iv p2, iv p3, iv p4, iv p5, iv p6, iv 2, iv c0, iv c1, iv c2, rv b625, rv b645, uu, uu, uu, uu, uu, uu, uu, uu] [])) tq := by
            intro tq kk
            show Steps _ _ _ (T656.setTop (mkF m 84 #[iv p1, iv p2, iv p3, iv p4, iv p5, iv p6, iv 2, iv c0, iv c1, iv c2, rv b625, rv b645, uu, uu, uu, uu, uu, uu, uu, uu] [])) _
            refine XS.iload X656.here hx rfl (hb hby at_84) rfl ?_
            show Steps _ _ _ (T656.setTop (mkF m 86 _ [.int c0])) _
            refine st684 _ ?_
            show Steps _ _ _ (T684.setTop (mkF m 89 #[iv p1, iv p2, iv p3, iv p4, iv p5, iv p6, iv 2, iv c0, iv c1, iv c2, rv b625, rv b645, uu, uu, uu, uu, uu, uu, uu, uu] [.int 1])) _
            refine XS.ifNo X684.here hx rfl (hb hby at_89) rfl ((if0 _ _).trans (feq ((by decide) : ¬ ((1 : Int32) = (0 : Int32)))).1) ?_
            show Steps _ _ _ (T684.setTop (mkF m 92 _ [])) _
            refine XS.iload X684.here hx rfl (hb hby at_92) rfl ?_
            show Steps _ _ _ (T684.setTop (mkF m 94 _ [.int c1])) _
            refine st685 _ ?_
            show Steps _ _ _ (T685.setTop (mkF m 97 #[iv p1, iv p2, iv p3, iv p4, iv p5, iv p6, iv 2, iv c0, iv c1, iv c2, rv b625, rv b645, uu, uu, uu, uu, uu, uu, uu, uu] [.int 0])) _
            refine XS.ifNo X685.here hx rfl (hb hby at_97) rfl ((if0 _ _).trans (teq (rfl : (0 : Int32) = (0 : Int32))).2) ?_
            show Steps _ _ _ (T685.setTop (mkF m 100 _ [])) _
            refine XS.iconst X685.here hx rfl (hb hby at_100) ?_
            show Steps _ _ _ (T685.setTop (mkF m 101 _ [.int 1])) _
            refine XS.goto X685.here hx rfl (pc0 := 101) (pc' := 105) rfl (hb hby at_101) (by decide) (by decide) ?_
            exact kk
          exact ⟨T685, _, X685, e685, N685, fun tgt kk => G686 _ kk⟩
        · obtain ⟨_, _, ⟨T687, L687, k687, n687⟩, -, X687, ⟨Lc687, hQ687, l687, y687, z687⟩, st687⟩ := Jvm.LawKit.callS X656 hx (y := (⟨"com/example/shush/shush/OccurrenceMatchedPinLaw", "hi", "(C)Z"⟩ : MethodName)) hown (mvT hZ (W 157 rfl)) (mvT hZ (W 158 rfl)) (mvT hZ (W 3 rfl)) (mvT hZ (W 159 rfl)) (by decide) (backOf (W := 0) (rm_hi0 l Z a0 hw [] c0 T656.heap n0 Z659 hh) hZ (W 159 rfl) (W 3 rfl) (by decide) (by decide)) (g := (mkF m 86 #[iv p1, iv p2, iv p3, iv p4, iv p5, iv p6, iv 2, iv c0, iv c1, iv c2, rv b625, rv b645, uu, uu, uu, uu, uu, uu, uu, uu] [.int c0])) rfl (by rw [hml]; rfl) (argsL := [.int c0]) (rest := []) (lenOf own_pd_21 rfl) rfl own_wt (hb hby at_86) (fun _ _ => ⟨rfl, rfl, (by decide : 4 + 0 ≤ _), (by decide : 18 + 0 ≤ _)⟩)
          dsimp only [Pt.U, Pt.locs, Pt.cells, Pt.slots] at X687 l687 y687 z687 st687 hQ687
          subst l687 y687 z687
          obtain ⟨rfl, Nq687, e687⟩ := hQ687
          have N687 := Fr.app N656 Nq687
          have G688 : ∀ tq, Steps p.tables e below (T687.setTop (mkF m 105 #[iv p1, iv p2, iv p3, iv p4, iv p5, iv p6, iv 2, iv c0, iv c1, iv c2, rv b625, rv b645, uu, uu, uu, uu, uu, uu, uu, uu] [.int 1])) tq → Steps p.tables e below (T656.setTop (mkF m 84 #[iv p1, iv p2, iv p3, iv p4, iv p5, iv p6, iv 2, iv c0, iv c1, iv c2, rv b625, rv b645, uu, uu, uu, uu, uu, uu, uu, uu] [])) tq := by
            intro tq kk
            show Steps _ _ _ (T656.setTop (mkF m 84 #[iv p1, iv p2, iv p3, iv p4, iv p5, iv p6, iv 2, iv c0, iv c1, iv c2, rv b625, rv b645, uu, uu, uu, uu, uu, uu, uu, uu] [])) _
            refine XS.iload X656.here hx rfl (hb hby at_84) rfl ?_
            show Steps _ _ _ (T656.setTop (mkF m 86 _ [.int c0])) _
            refine st687 _ ?_
            show Steps _ _ _ (T687.setTop (mkF m 89 #[iv p1, iv p2, iv p3, iv p4, iv p5, iv p6, iv 2, iv c0, iv c1, iv c2, rv b625, rv b645, uu, uu, uu, uu, uu, uu, uu, uu] [.int 0])) _
            refine XS.ifYes X687.here hx rfl (pc0 := 89) (pc' := 100) rfl (hb hby at_89) rfl ((if0 _ _).trans (teq (rfl : (0 : Int32) = (0 : Int32))).1) (by decide) (by decide) ?_
            show Steps _ _ _ (T687.setTop (mkF m 100 _ [])) _
            refine XS.iconst X687.here hx rfl (hb hby at_100) ?_
            show Steps _ _ _ (T687.setTop (mkF m 101 _ [.int 1])) _
            refine XS.goto X687.here hx rfl (pc0 := 101) (pc' := 105) rfl (hb hby at_101) (by decide) (by decide) ?_
            exact kk
          exact ⟨T687, _, X687, e687, N687, fun tgt kk => G688 _ kk⟩
      have G689 : ∀ tq, Steps p.tables e below (TE683.setTop (mkF m 139 #[iv p1, iv p2, iv p3, iv p4, iv p5, iv p6, iv 2, iv c0, iv c1, iv c2, rv b625, rv b645, iv 1, uu, uu, uu, uu, uu, uu, uu] [.int 0])) tq → Steps p.tables e below (TE683.setTop (mkF m 105 #[iv p1, iv p2, iv p3, iv p4, iv p5, iv p6, iv 2, iv c0, iv c1, iv c2, rv b625, rv b645, uu, uu, uu, uu, uu, uu, uu, uu] [.int 1])) tq := by
        intro tq kk
        show Steps _ _ _ (TE683.setTop (mkF m 105 #[iv p1, iv p2, iv p3, iv p4, iv p5, iv p6, iv 2, iv c0, iv c1, iv c2, rv b625, rv b645, uu, uu, uu, uu, uu, uu, uu, uu] [.int 1])) _
        refine XS.istore XE683.here hx rfl (hb hby at_105) rfl (l' := #[iv p1, iv p2, iv p3, iv p4, iv p5, iv p6, iv 2, iv c0, iv c1, iv c2, rv b625, rv b645, iv 1, uu, uu, uu, uu, uu, uu, uu]) rfl ?_
        show Steps _ _ _ (TE683.setTop (mkF m 107 _ [])) _
        refine XS.iload XE683.here hx rfl (hb hby at_107) rfl ?_
        show Steps _ _ _ (TE683.setTop (mkF m 109 _ [.int 2])) _
        refine XS.iconst XE683.here hx rfl (hb hby at_109) ?_
        show Steps _ _ _ (TE683.setTop (mkF m 110 _ [.int 2, .int 2])) _
        refine XS.icmpYes XE683.here hx rfl (pc0 := 110) (pc' := 138) rfl (hb hby at_110) rfl (flt ((by decide) : ¬ ((2 : Int32) < (2 : Int32)))).2.2.2 (by decide) (by decide) ?_
        show Steps _ _ _ (TE683.setTop (mkF m 138 _ [])) _
        refine XS.iconst XE683.here hx rfl (hb hby at_138) ?_
        exact kk
      have M : own_cfg l Z n0 ([c0, c1] : List Int32) (fun i => ([0, 1, 2] : List Nat).getD i 0) 2 := by
        refine ⟨(Nat.le_of_ble_eq_true rfl), by decide, (fun _ => rfl), fun h z o t kb V hbd hg => rm_ucn l Z a0 hw [] t (2 : Int32) (2 : Int32) h n0 z (rm_uczD2 l Z a0 hw [] t kb c0 c1 h n0 z o V (hbd c0 (by simp)) (hbd c1 (by simp)) hP0 OA OH OL), rfl, rfl, fun i hi => ?_⟩
        rcases (show i = 0 ∨ i = 1 by omega) with rfl | rfl
        · exact ⟨(Nat.le_of_ble_eq_true rfl), Or.inl ⟨rfl, fun q => hP0 q.2⟩⟩
        · exact ⟨(Nat.le_of_ble_eq_true rfl), Or.inl ⟨rfl, fun q => absurd (show 2 < 2 from q.1) (by decide)⟩⟩
      obtain ⟨T690, h690, k690, X690, e690, E690, A690, st690⟩ := newP XE683 hx hZ (W 30 rfl) eE683 (g := (mkF m 142 #[iv p1, iv p2, iv p3, iv p4, iv p5, iv p6, iv 2, iv c0, iv c1, iv c2, rv b625, rv b645, iv 1, iv 0, uu, uu, uu, uu, uu, uu] [.int 3])) rfl (hb hby at_142) rfl (by decide : ¬ ((3 : Int32) < (0 : Int32))) (cap := 3) (by decide) (by decide) (by decide) (by decide)
      obtain ⟨b690, g690⟩ : ∃ z, z = T656.heap.size := ⟨_, rfl⟩
      rw [← g690] at A690 st690
      have g691 : n0 ≤ b690 := Nat.le_trans Z659 (Nat.le_of_eq g690.symm)
      have CR692 := CR657.trans (CHr.ext E690 CR657.1)
      have Z693 : n0 ≤ h690.size := Nat.le_trans Z659 E690.1
      have O694 : Old Z n0 h690 := O660.ext E690
      have hk695 := Nat.le_trans hk661 E690.1
      have V690 : Arv Z h690 b690 k690 .int (3 : Int32) [(.int (0 : Int32)), (.int (0 : Int32)), (.int (0 : Int32))] (.int (0 : Int32)) := (Arv.new A690 (by decide : ¬ ((3 : Int32) < (0 : Int32)))).pad (pad_rep [] (.int (0 : Int32)) 3)
      obtain ⟨cl696, Ar696, aq696, aS696, aN696, aH696, aG696⟩ := id V690
      obtain ⟨T697, h697, X697, e697, W697, st697⟩ := stI X690 hx hZ e690 Ar696 (j := (0 : Int32)) (inb_of aS696 ⟨(by decide), (by decide)⟩) (g := (mkF m 160 #[iv p1, iv p2, iv p3, iv p4, iv p5, iv p6, iv 2, iv c0, iv c1, iv c2, rv b625, rv b645, iv 1, iv 0, rv b690, iv 0, uu, uu, uu, uu] [.int p5, .int 0, .ref b690])) rfl rfl (hb hby at_160)
      have N697 := Fr.snoc X697 NE683 g691
      have V697 : Arv Z h697 b690 k690 .int (3 : Int32) [(.int p5), (.int (0 : Int32)), (.int (0 : Int32))] (.int (0 : Int32)) := Arv.set Ar696 aq696 aS696 aN696 aH696 aG696 rfl W697 0 rfl (Nat.le_of_ble_eq_true rfl)
      have f699 := (Safe.ext E690 CR657.1 (Safe.new (Nat.le_of_eq g690.symm)))
      have CR698 := CR692.trans (CHr.wr W697 f699 CR692.1)
      have Z700 : n0 ≤ h697.size := Nat.le_trans Z693 (Keep.of_wr W697).1
      have O701 : Old Z n0 h697 := O694.wr W697 g691
      have hk702 := Nat.le_trans hk695 (Keep.of_wr W697).1
      obtain ⟨cl703, Ar703, aq703, aS703, aN703, aH703, aG703⟩ := id V697
      obtain ⟨T704, h704, X704, e704, W704, st704⟩ := stI X697 hx hZ e697 Ar703 (j := (1 : Int32)) (inb_of aS703 ⟨(by decide), (by decide)⟩) (g := (mkF m 180 #[iv p1, iv p2, iv p3, iv p4, iv p5, iv p6, iv 2, iv c0, iv c1, iv c2, rv b625, rv b645, iv 1, iv 0, rv b690, iv 1, uu, uu, uu, uu] [.int (p5 + (1 : Int32)), .int 1, .ref b690])) rfl rfl (hb hby at_180)
      have N704 := Fr.snoc X704 N697 g691
      have V704 : Arv Z h704 b690 k690 .int (3 : Int32) [(.int p5), (.int (p5 + (1 : Int32))), (.int (0 : Int32))] (.int (0 : Int32)) := Arv.set Ar703 aq703 aS703 aN703 aH703 aG703 rfl W704 1 rfl (Nat.le_of_ble_eq_true rfl)
      have f706 := ((CHr.wr W697 f699 CR692.1).safe V690.lt f699)
      have CR705 := CR698.trans (CHr.wr W704 f706 CR698.1)
      have Z707 : n0 ≤ h704.size := Nat.le_trans Z700 (Keep.of_wr W704).1
      have O708 : Old Z n0 h704 := O701.wr W704 g691
      have hk709 := Nat.le_trans hk702 (Keep.of_wr W704).1
      have G710 : ∀ tq, Steps p.tables e below (T704.setTop (mkF m 207 #[iv p1, iv p2, iv p3, iv p4, iv p5, iv p6, iv 2, iv c0, iv c1, iv c2, rv b625, rv b645, iv 1, iv 0, rv b690, iv 2, uu, uu, uu, uu] [])) tq → Steps p.tables e below (TE683.setTop (mkF m 139 #[iv p1, iv p2, iv p3, iv p4, iv p5, iv p6, iv 2, iv c0, iv c1, iv c2, rv b625, rv b645, iv 1, uu, uu, uu, uu, uu, uu, uu] [.int 0])) tq := by
        intro tq kk
        show Steps _ _ _ (TE683.setTop (mkF m 139 #[iv p1, iv p2, iv p3, iv p4, iv p5, iv p6, iv 2, iv c0, iv c1, iv c2, rv b625, rv b645, iv 1, uu, uu, uu, uu, uu, uu, uu] [.int 0])) _
        refine XS.istore XE683.here hx rfl (hb hby at_139) rfl (l' := #[iv p1, iv p2, iv p3, iv p4, iv p5, iv p6, iv 2, iv c0, iv c1, iv c2, rv b625, rv b645, iv 1, iv 0, uu, uu, uu, uu, uu, uu]) rfl ?_
        show Steps _ _ _ (TE683.setTop (mkF m 141 _ [])) _
        refine XS.iconst XE683.here hx rfl (hb hby at_141) ?_
        show Steps _ _ _ (TE683.setTop (mkF m 142 _ [.int 3])) _
        refine st690 _ ?_
        show Steps _ _ _ (T690.setTop (mkF m 144 #[iv p1, iv p2, iv p3, iv p4, iv p5, iv p6, iv 2, iv c0, iv c1, iv c2, rv b625, rv b645, iv 1, iv 0, uu, uu, uu, uu, uu, uu] [.ref b690])) _
        refine XS.astore X690.here hx rfl (hb hby at_144) rfl rfl (l' := #[iv p1, iv p2, iv p3, iv p4, iv p5, iv p6, iv 2, iv c0, iv c1, iv c2, rv b625, rv b645, iv 1, iv 0, rv b690, uu, uu, uu, uu, uu]) rfl ?_
        show Steps _ _ _ (T690.setTop (mkF m 146 _ [])) _
        refine XS.iconst X690.here hx rfl (hb hby at_146) ?_
        show Steps _ _ _ (T690.setTop (mkF m 147 _ [.int 0])) _
        refine XS.istore X690.here hx rfl (hb hby at_147) rfl (l' := #[iv p1, iv p2, iv p3, iv p4, iv p5, iv p6, iv 2, iv c0, iv c1, iv c2, rv b625, rv b645, iv 1, iv 0, rv b690, iv 0, uu, uu, uu, uu]) rfl ?_
        show Steps _ _ _ (T690.setTop (mkF m 149 _ [])) _
        refine XS.iload X690.here hx rfl (hb hby at_149) rfl ?_
        show Steps _ _ _ (T690.setTop (mkF m 151 _ [.int 2])) _
        refine XS.ifNo X690.here hx rfl (hb hby at_151) rfl ((if0 _ _).trans (tlt ((by decide) : (0 : Int32) < (2 : Int32))).2.2.2) ?_
        show Steps _ _ _ (T690.setTop (mkF m 154 _ [])) _
        refine XS.aload X690.here hx rfl (hb hby at_154) rfl rfl ?_
        show Steps _ _ _ (T690.setTop (mkF m 156 _ [.ref b690])) _
        refine XS.iload X690.here hx rfl (hb hby at_156) rfl ?_
        show Steps _ _ _ (T690.setTop (mkF m 158 _ [.int 0, .ref b690])) _
        refine XS.iload X690.here hx rfl (hb hby at_158) rfl ?_
        show Steps _ _ _ (T690.setTop (mkF m 160 #[iv p1, iv p2, iv p3, iv p4, iv p5, iv p6, iv 2, iv c0, iv c1, iv c2, rv b625, rv b645, iv 1, iv 0, rv b690, iv 0, uu, uu, uu, uu] [.int p5, .int 0, .ref b690])) _
        refine st697 _ ?_
        show Steps _ _ _ (T697.setTop (mkF m 161 #[iv p1, iv p2, iv p3, iv p4, iv p5, iv p6, iv 2, iv c0, iv c1, iv c2, rv b625, rv b645, iv 1, iv 0, rv b690, iv 0, uu, uu, uu, uu] [])) _
        refine XS.iload X697.here hx rfl (hb hby at_161) rfl ?_
        show Steps _ _ _ (T697.setTop (mkF m 163 _ [.int 0])) _
        refine XS.iconst X697.here hx rfl (hb hby at_163) ?_
        show Steps _ _ _ (T697.setTop (mkF m 164 _ [.int 1, .int 0])) _
        refine XS.iadd X697.here hx rfl (hb hby at_164) rfl ?_
        show Steps _ _ _ (T697.setTop (mkF m 165 _ [.int 1])) _
        refine XS.istore X697.here hx rfl (hb hby at_165) rfl (l' := #[iv p1, iv p2, iv p3, iv p4, iv p5, iv p6, iv 2, iv c0, iv c1, iv c2, rv b625, rv b645, iv 1, iv 0, rv b690, iv 1, uu, uu, uu, uu]) rfl ?_
        show Steps _ _ _ (T697.setTop (mkF m 167 _ [])) _
        refine XS.iload X697.here hx rfl (hb hby at_167) rfl ?_
        show Steps _ _ _ (T697.setTop (mkF m 169 _ [.int 1])) _
        refine XS.ifNo X697.here hx rfl (hb hby at_169) rfl ((if0 _ _).trans (feq ((by decide) : ¬ ((1 : Int32) = (0 : Int32)))).1) ?_
        show Steps _ _ _ (T697.setTop (mkF m 172 _ [])) _
        refine XS.aload X697.here hx rfl (hb hby at_172) rfl rfl ?_
        show Steps _ _ _ (T697.setTop (mkF m 174 _ [.ref b690])) _
        refine XS.iload X697.here hx rfl (hb hby at_174) rfl ?_
        show Steps _ _ _ (T697.setTop (mkF m 176 #[iv p1, iv p2, iv p3, iv p4, iv p5, iv p6, iv 2, iv c0, iv c1, iv c2, rv b625, rv b645, iv 1, iv 0, rv b690, iv 1, uu, uu, uu, uu] [.int 1, .ref b690])) _
        refine XS.iload X697.here hx rfl (hb hby at_176) rfl ?_
        show Steps _ _ _ (T697.setTop (mkF m 178 _ [.int p5, .int 1, .ref b690])) _
        refine XS.iconst X697.here hx rfl (hb hby at_178) ?_
        show Steps _ _ _ (T697.setTop (mkF m 179 _ [.int 1, .int p5, .int 1, .ref b690])) _
        refine XS.iadd X697.here hx rfl (hb hby at_179) rfl ?_
        show Steps _ _ _ (T697.setTop (mkF m 180 _ [.int (p5 + (1 : Int32)), .int 1, .ref b690])) _
        refine st704 _ ?_
        show Steps _ _ _ (T704.setTop (mkF m 181 #[iv p1, iv p2, iv p3, iv p4, iv p5, iv p6, iv 2, iv c0, iv c1, iv c2, rv b625, rv b645, iv 1, iv 0, rv b690, iv 1, uu, uu, uu, uu] [])) _
        refine XS.iload X704.here hx rfl (hb hby at_181) rfl ?_
        show Steps _ _ _ (T704.setTop (mkF m 183 _ [.int 1])) _
        refine XS.iconst X704.here hx rfl (hb hby at_183) ?_
        show Steps _ _ _ (T704.setTop (mkF m 184 _ [.int 1, .int 1])) _
        refine XS.iadd X704.here hx rfl (hb hby at_184) rfl ?_
        show Steps _ _ _ (T704.setTop (mkF m 185 _ [.int 2])) _
        refine XS.istore X704.here hx rfl (hb hby at_185) rfl (l' := #[iv p1, iv p2, iv p3, iv p4, iv p5, iv p6, iv 2, iv c0, iv c1, iv c2, rv b625, rv b645, iv 1, iv 0, rv b690, iv 2, uu, uu, uu, uu]) rfl ?_
        show Steps _ _ _ (T704.setTop (mkF m 187 _ [])) _
        refine XS.iload X704.here hx rfl (hb hby at_187) rfl ?_
        show Steps _ _ _ (T704.setTop (mkF m 189 _ [.int 0])) _
        refine XS.ifYes X704.here hx rfl (pc0 := 189) (pc' := 207) rfl (hb hby at_189) rfl ((if0 _ _).trans (teq (rfl : (0 : Int32) = (0 : Int32))).1) (by decide) (by decide) ?_
        exact kk
      have f711 := (((SX.ext E690).wr W697 (Nat.le_of_eq g690.symm)).wr W704 (Nat.le_of_eq g690.symm))
      obtain ⟨s₂, o, t1, t2, t3, t4⟩ := tail2 s.vm T704 h704 _ _ (2 : Int32) (1 : Int32) (0 : Int32) b625 b645 b690 k690 ([c0, c1] : List Int32) (fun i => ([0, 1, 2] : List Nat).getD i 0) (p5 + (1 : Int32)) (X704.more (by decide) (by decide)) e704 N704 Z707 O708 hS0 hk709 hZ hown CR705 f711.now V704 M (congrArg (fun z => [Value.int z, Value.int (p5 + (1 : Int32))]) (Int32.add_zero p5))
      exact ⟨s₂, o, pre0 _ (Gn _ (G354 _ (G653 _ (G662 _ (G663 _ (GE683 _ (G689 _ (G710 _ (t1))))))))), t2, t3, t4⟩
  · obtain ⟨T712, h712, k712, X712, e712, E712, A712, st712⟩ := newP X353 hx hZ (W 8 rfl) e353 (g := (mkF m 28 #[iv p1, iv p2, iv p3, iv p4, iv p5, iv p6, iv 3, iv c0, iv c1, iv c2, uu, uu, uu, uu, uu, uu, uu, uu, uu, uu] [.int 3])) rfl (hb hby at_28) rfl (by decide : ¬ ((3 : Int32) < (0 : Int32))) (cap := 3) (by decide) (by decide) (by decide) (by decide)
    obtain ⟨b712, g712⟩ : ∃ z, z = h0.size := ⟨_, rfl⟩
    rw [← g712] at A712 st712
    have g713 : n0 ≤ b712 := Nat.le_trans Z0 (Nat.le_of_eq g712.symm)
    have CR714 := CR0.trans (CHr.ext E712 CH0)
    have Z715 : n0 ≤ h712.size := Nat.le_trans Z0 E712.1
    have O716 : Old Z n0 h712 := X00.ext E712
    have hk717 := Nat.le_trans hk0 E712.1
    have V712 : Arv Z h712 b712 k712 .char (3 : Int32) [(.int (0 : Int32)), (.int (0 : Int32)), (.int (0 : Int32))] (.int (0 : Int32)) := (Arv.new A712 (by decide : ¬ ((3 : Int32) < (0 : Int32)))).pad (pad_rep [] (.int (0 : Int32)) 3)
    obtain ⟨cl718, Ar718, aq718, aS718, aN718, aH718, aG718⟩ := id V712
    obtain ⟨T719, h719, X719, e719, W719, st719⟩ := stC X712 hx hZ e712 Ar718 (j := (0 : Int32)) (inb_of aS718 ⟨(by decide), (by decide)⟩) (g := (mkF m 42 #[iv p1, iv p2, iv p3, iv p4, iv p5, iv p6, iv 3, iv c0, iv c1, iv c2, rv b712, uu, uu, uu, uu, uu, uu, uu, uu, uu] [.int c0, .int 0, .ref b712])) rfl rfl (hb hby at_42)
    have N719 := Fr.snoc X719 N353 g713
    have Vx719 := Arv.set Ar718 aq718 aS718 aN718 aH718 aG718 (fits_nar_char _) W719 0 rfl (Nat.le_of_ble_eq_true rfl)
    have V719 : Arv Z h719 b712 k712 .char (3 : Int32) [(.int c0), (.int (0 : Int32)), (.int (0 : Int32))] (.int (0 : Int32)) := by
      have q := Vx719
      rw [show Value.int (nar .char c0) = (.int c0) from congrArg Value.int (own_narc c0 hb0.1 hb0.2)] at q
      exact q
    have f721 := (Safe.ext E712 CH0 (Safe.new (Nat.le_of_eq g712.symm)))
    have CR720 := CR714.trans (CHr.wr W719 f721 CR714.1)
    have Z722 : n0 ≤ h719.size := Nat.le_trans Z715 (Keep.of_wr W719).1
    have O723 : Old Z n0 h719 := O716.wr W719 g713
    have hk724 := Nat.le_trans hk717 (Keep.of_wr W719).1
    obtain ⟨cl725, Ar725, aq725, aS725, aN725, aH725, aG725⟩ := id V719
    obtain ⟨T726, h726, X726, e726, W726, st726⟩ := stC X719 hx hZ e719 Ar725 (j := (1 : Int32)) (inb_of aS725 ⟨(by decide), (by decide)⟩) (g := (mkF m 54 #[iv p1, iv p2, iv p3, iv p4, iv p5, iv p6, iv 3, iv c0, iv c1, iv c2, rv b712, uu, uu, uu, uu, uu, uu, uu, uu, uu] [.int c1, .int 1, .ref b712])) rfl rfl (hb hby at_54)
    have N726 := Fr.snoc X726 N719 g713
    have Vx726 := Arv.set Ar725 aq725 aS725 aN725 aH725 aG725 (fits_nar_char _) W726 1 rfl (Nat.le_of_ble_eq_true rfl)
    have V726 : Arv Z h726 b712 k712 .char (3 : Int32) [(.int c0), (.int c1), (.int (0 : Int32))] (.int (0 : Int32)) := by
      have q := Vx726
      rw [show Value.int (nar .char c1) = (.int c1) from congrArg Value.int (own_narc c1 hb1.1 hb1.2)] at q
      exact q
    have f728 := ((CHr.wr W719 f721 CR714.1).safe V712.lt f721)
    have CR727 := CR720.trans (CHr.wr W726 f728 CR720.1)
    have Z729 : n0 ≤ h726.size := Nat.le_trans Z722 (Keep.of_wr W726).1
    have O730 : Old Z n0 h726 := O723.wr W726 g713
    have hk731 := Nat.le_trans hk724 (Keep.of_wr W726).1
    obtain ⟨cl732, Ar732, aq732, aS732, aN732, aH732, aG732⟩ := id V726
    obtain ⟨T733, h733, X733, e733, W733, st733⟩ := stC X726 hx hZ e726 Ar732 (j := (2 : Int32)) (inb_of aS732 ⟨(by decide), (by decide)⟩) (g := (mkF m 66 #[iv p1, iv p2, iv p3, iv p4, iv p5, iv p6, iv 3, iv c0, iv c1, iv c2, rv b712, uu, uu, uu, uu, uu, uu, uu, uu, uu] [.int c2, .int 2, .ref b712])) rfl rfl (hb hby at_66)
    have N733 := Fr.snoc X733 N726 g713
    have Vx733 := Arv.set Ar732 aq732 aS732 aN732 aH732 aG732 (fits_nar_char _) W733 2 rfl (Nat.le_of_ble_eq_true rfl)
    have V733 : Arv Z h733 b712 k712 .char (3 : Int32) [(.int c0), (.int c1), (.int c2)] (.int (0 : Int32)) := by
      have q := Vx733
      rw [show Value.int (nar .char c2) = (.int c2) from congrArg Value.int (own_narc c2 hb2.1 hb2.2)] at q
      exact q
    have f735 := (Nat.lt_of_lt_of_le V712.lt (Keep.of_wr W719).1)
    have f736 := ((CHr.wr W726 f728 CR720.1).safe f735 f728)
    have CR734 := CR727.trans (CHr.wr W733 f736 CR727.1)
    have Z737 : n0 ≤ h733.size := Nat.le_trans Z729 (Keep.of_wr W733).1
    have O738 : Old Z n0 h733 := O730.wr W733 g713
    have hk739 := Nat.le_trans hk731 (Keep.of_wr W733).1
    obtain ⟨T740, h740, X740, e740, E740, A740, D740, -, st740⟩ := newO X733 hx hZ hown (W 9 rfl) (W 10 rfl) (W 11 rfl) e733 (g := (mkF m 67 #[iv p1, iv p2, iv p3, iv p4, iv p5, iv p6, iv 3, iv c0, iv c1, iv c2, rv b712, uu, uu, uu, uu, uu, uu, uu, uu, uu] [])) rfl (hb hby at_67) (by decide) (by decide)
    obtain ⟨b740, g740⟩ : ∃ z, z = h733.size := ⟨_, rfl⟩
    rw [← g740] at A740 D740 st740
    have g741 : n0 ≤ b740 := Nat.le_trans Z737 (Nat.le_of_eq g740.symm)
    have CR742 := CR734.trans (CHr.ext E740 CR734.1)
    have Z743 : n0 ≤ h740.size := Nat.le_trans Z737 E740.1
    have O744 : Old Z n0 h740 := O738.ext E740
    have hk745 := Nat.le_trans hk739 E740.1
    have F746 : Fld Z h740 b740 "java/lang/String" "value" "[B" .null := D740 (Or.inr (W 24 rfl)) (ty := (.array .byte)) (by decide)
    have F747 : Fld Z h740 b740 "java/lang/String" "coder" "B" (.int (0 : Int32)) := D740 (Or.inr (W 25 rfl)) (ty := .byte) (by decide)
    have G748 : ∀ tq, Steps p.tables e below (T740.setTop (mkF m 73 #[iv p1, iv p2, iv p3, iv p4, iv p5, iv p6, iv 3, iv c0, iv c1, iv c2, rv b712, uu, uu, uu, uu, uu, uu, uu, uu, uu] [.ref b712, .ref b740, .ref b740])) tq → Steps p.tables e below (T353.setTop (mkF m 26 #[iv p1, iv p2, iv p3, iv p4, iv p5, iv p6, iv 3, iv c0, iv c1, iv c2, uu, uu, uu, uu, uu, uu, uu, uu, uu, uu] [])) tq := by
      intro tq kk
      show Steps _ _ _ (T353.setTop (mkF m 26 #[iv p1, iv p2, iv p3, iv p4, iv p5, iv p6, iv 3, iv c0, iv c1, iv c2, uu, uu, uu, uu, uu, uu, uu, uu, uu, uu] [])) _
      refine XS.iload X353.here hx rfl (hb hby at_26) rfl ?_
      show Steps _ _ _ (T353.setTop (mkF m 28 _ [.int 3])) _
      refine st712 _ ?_
      show Steps _ _ _ (T712.setTop (mkF m 30 #[iv p1, iv p2, iv p3, iv p4, iv p5, iv p6, iv 3, iv c0, iv c1, iv c2, uu, uu, uu, uu, uu, uu, uu, uu, uu, uu] [.ref b712])) _
      refine XS.astore X712.here hx rfl (hb hby at_30) rfl rfl (l' := #[iv p1, iv p2, iv p3, iv p4, iv p5, iv p6, iv 3, iv c0, iv c1, iv c2, rv b712, uu, uu, uu, uu, uu, uu, uu, uu, uu]) rfl ?_
      show Steps _ _ _ (T712.setTop (mkF m 32 _ [])) _
      refine XS.iload X712.here hx rfl (hb hby at_32) rfl ?_
      show Steps _ _ _ (T712.setTop (mkF m 34 _ [.int 3])) _
      refine XS.ifNo X712.here hx rfl (hb hby at_34) rfl ((if0 _ _).trans (tlt ((by decide) : (0 : Int32) < (3 : Int32))).2.2.2) ?_
      show Steps _ _ _ (T712.setTop (mkF m 37 _ [])) _
      refine XS.aload X712.here hx rfl (hb hby at_37) rfl rfl ?_
      show Steps _ _ _ (T712.setTop (mkF m 39 _ [.ref b712])) _
      refine XS.iconst X712.here hx rfl (hb hby at_39) ?_
      show Steps _ _ _ (T712.setTop (mkF m 40 _ [.int 0, .ref b712])) _
      refine XS.iload X712.here hx rfl (hb hby at_40) rfl ?_
      show Steps _ _ _ (T712.setTop (mkF m 42 _ [.int c0, .int 0, .ref b712])) _
      refine st719 _ ?_
      show Steps _ _ _ (T719.setTop (mkF m 43 #[iv p1, iv p2, iv p3, iv p4, iv p5, iv p6, iv 3, iv c0, iv c1, iv c2, rv b712, uu, uu, uu, uu, uu, uu, uu, uu, uu] [])) _
      refine XS.iload X719.here hx rfl (hb hby at_43) rfl ?_
      show Steps _ _ _ (T719.setTop (mkF m 45 _ [.int 3])) _
      refine XS.iconst X719.here hx rfl (hb hby at_45) ?_
      show Steps _ _ _ (T719.setTop (mkF m 46 _ [.int 1, .int 3])) _
      refine XS.icmpNo X719.here hx rfl (hb hby at_46) rfl (tlt ((by decide) : (1 : Int32) < (3 : Int32))).2.2.2 ?_
      show Steps _ _ _ (T719.setTop (mkF m 49 _ [])) _
      refine XS.aload X719.here hx rfl (hb hby at_49) rfl rfl ?_
      show Steps _ _ _ (T719.setTop (mkF m 51 _ [.ref b712])) _
      refine XS.iconst X719.here hx rfl (hb hby at_51) ?_
      show Steps _ _ _ (T719.setTop (mkF m 52 _ [.int 1, .ref b712])) _
      refine XS.iload X719.here hx rfl (hb hby at_52) rfl ?_
      show Steps _ _ _ (T719.setTop (mkF m 54 _ [.int c1, .int 1, .ref b712])) _
      refine st726 _ ?_
      show Steps _ _ _ (T726.setTop (mkF m 55 #[iv p1, iv p2, iv p3, iv p4, iv p5, iv p6, iv 3, iv c0, iv c1, iv c2, rv b712, uu, uu, uu, uu, uu, uu, uu, uu, uu] [])) _
      refine XS.iload X726.here hx rfl (hb hby at_55) rfl ?_
      show Steps _ _ _ (T726.setTop (mkF m 57 _ [.int 3])) _
      refine XS.iconst X726.here hx rfl (hb hby at_57) ?_
      show Steps _ _ _ (T726.setTop (mkF m 58 _ [.int 2, .int 3])) _
      refine XS.icmpNo X726.here hx rfl (hb hby at_58) rfl (tlt ((by decide) : (2 : Int32) < (3 : Int32))).2.2.2 ?_
      show Steps _ _ _ (T726.setTop (mkF m 61 _ [])) _
      refine XS.aload X726.here hx rfl (hb hby at_61) rfl rfl ?_
      show Steps _ _ _ (T726.setTop (mkF m 63 _ [.ref b712])) _
      refine XS.iconst X726.here hx rfl (hb hby at_63) ?_
      show Steps _ _ _ (T726.setTop (mkF m 64 _ [.int 2, .ref b712])) _
      refine XS.iload X726.here hx rfl (hb hby at_64) rfl ?_
      show Steps _ _ _ (T726.setTop (mkF m 66 _ [.int c2, .int 2, .ref b712])) _
      refine st733 _ ?_
      show Steps _ _ _ (T733.setTop (mkF m 67 #[iv p1, iv p2, iv p3, iv p4, iv p5, iv p6, iv 3, iv c0, iv c1, iv c2, rv b712, uu, uu, uu, uu, uu, uu, uu, uu, uu] [])) _
      refine st740 _ ?_
      show Steps _ _ _ (T740.setTop (mkF m 70 #[iv p1, iv p2, iv p3, iv p4, iv p5, iv p6, iv 3, iv c0, iv c1, iv c2, rv b712, uu, uu, uu, uu, uu, uu, uu, uu, uu] [.ref b740])) _
      refine XS.dup X740.here hx rfl (hb hby at_70) rfl rfl ?_
      show Steps _ _ _ (T740.setTop (mkF m 71 _ [.ref b740, .ref b740])) _
      refine XS.aload X740.here hx rfl (hb hby at_71) rfl rfl ?_
      exact kk
    have hbA : ∀ c ∈ ([c0, c1, c2] : List Int32), ¬ c < 0 ∧ ¬ (65535 : Int32) < c := by
      intro c hc
      simp only [List.mem_cons, List.not_mem_nil, or_false] at hc
      rcases hc with rfl | rfl | rfl
      · exact hb0
      · exact hb1
      · exact hb2
    have f749 := (V733.ext E740)
    have f750 := (Nat.lt_of_lt_of_le (Nat.lt_of_lt_of_le f735 (Keep.of_wr W726).1) (Keep.of_wr W733).1)
    obtain ⟨_, _, ⟨T751, L751, k751, n751⟩, -, X751, ⟨Lc751, hQ751, l751, y751, z751⟩, st751⟩ := X740.specialBack hx (y := (⟨"java/lang/String", "<init>", "([C)V"⟩ : MethodName)) rfl hown (mvT hZ (W 12 rfl)) (mvT hZ (W 13 rfl)) (mvT hZ (W 14 rfl)) (by decide) (backOf (W := 1) (rm_snew l Z a0 hw [] b740 b712 k712 G1 ([c0, c1, c2] : List Int32) h740 n0 Z743 O744 f749 (Nat.le_of_ble_eq_true rfl) (Nat.le_of_ble_eq_true rfl) hbA A740 g741 F746 F747 (Nat.ne_of_lt (Nat.lt_of_lt_of_le f750 (Nat.le_of_eq g740.symm))) O2 P5 OA OH OL) hZ (W 14 rfl) (W 11 rfl) (by decide) (by decide)) (g := (mkF m 73 #[iv p1, iv p2, iv p3, iv p4, iv p5, iv p6, iv 3, iv c0, iv c1, iv c2, rv b712, uu, uu, uu, uu, uu, uu, uu, uu, uu] [.ref b712, .ref b740, .ref b740])) rfl (by rw [hml]; rfl) (Steps.refl _) (a := b740) (argsL := [.ref b712]) (rest := [.ref b740]) (lenOf own_pd_1 rfl) rfl own_wt (hb hby at_73) (fun _ _ => ⟨rfl, e740, (by decide : 2 + 2 ≤ _), (by decide : 7 + 12 ≤ _)⟩)
    dsimp only [Pt.U, Pt.locs, Pt.cells, Pt.slots] at X751 l751 y751 z751 st751 hQ751
    subst l751 y751 z751
    obtain ⟨rfl, Nq751, K751, SX⟩ := hQ751
    have N751 := Fr.app N733 Nq751
    have f753 := (Safe.ext E740 CR734.1 (Safe.new (Nat.le_of_eq g740.symm)))
    have CR752 := CR742.trans (CHr.keep K751 (allS f753 all0) CR742.1)
    have Z754 : n0 ≤ T751.heap.size := Nat.le_trans Z743 K751.1
    have O755 : Old Z n0 T751.heap := O744.keep K751 (allS g741 all0)
    have hk756 := Nat.le_trans hk745 K751.1
    have G757 : ∀ tq, Steps p.tables e below (T751.setTop (mkF m 78 #[iv p1, iv p2, iv p3, iv p4, iv p5, iv p6, iv 3, iv c0, iv c1, iv c2, rv b712, rv b740, uu, uu, uu, uu, uu, uu, uu, uu] [])) tq → Steps p.tables e below (T740.setTop (mkF m 73 #[iv p1, iv p2, iv p3, iv p4, iv p5, iv p6, iv 3, iv c0, iv c1, iv c2, rv b712, uu, uu, uu, uu, uu, uu, uu, uu, uu] [.ref b712, .ref b740, .ref b740])) tq := by
      intro tq kk
      show Steps _ _ _ (T740.setTop (mkF m 73 #[iv p1, iv p2, iv p3, iv p4, iv p5, iv p6, iv 3, iv c0, iv c1, iv c2, rv b712, uu, uu, uu, uu, uu, uu, uu, uu, uu] [.ref b712, .ref b740, .ref b740])) _
      refine st751.trans ?_
      show Steps _ _ _ (T751.setTop (mkF m 76 #[iv p1, iv p2, iv p3, iv p4, iv p5, iv p6, iv 3, iv c0, iv c1, iv c2, rv b712, uu, uu, uu, uu, uu, uu, uu, uu, uu] [.ref b740])) _
      refine XS.astore X751.here hx rfl (hb hby at_76) rfl rfl (l' := #[iv p1, iv p2, iv p3, iv p4, iv p5, iv p6, iv 3, iv c0, iv c1, iv c2, rv b712, rv b740, uu, uu, uu, uu, uu, uu, uu, uu]) rfl ?_
      exact kk
    have G758 : ∀ tq, Steps p.tables e below (T751.setTop (mkF m 84 #[iv p1, iv p2, iv p3, iv p4, iv p5, iv p6, iv 3, iv c0, iv c1, iv c2, rv b712, rv b740, uu, uu, uu, uu, uu, uu, uu, uu] [])) tq → Steps p.tables e below (T751.setTop (mkF m 78 #[iv p1, iv p2, iv p3, iv p4, iv p5, iv p6, iv 3, iv c0, iv c1, iv c2, rv b712, rv b740, uu, uu, uu, uu, uu, uu, uu, uu] [])) tq := by
      intro tq kk
      show Steps _ _ _ (T751.setTop (mkF m 78 #[iv p1, iv p2, iv p3, iv p4, iv p5, iv p6, iv 3, iv c0, iv c1, iv c2, rv b712, rv b740, uu, uu, uu, uu, uu, uu, uu, uu] [])) _
      refine XS.iload X751.here hx rfl (hb hby at_78) rfl ?_
      show Steps _ _ _ (T751.setTop (mkF m 80 _ [.int 3])) _
      refine XS.iconst X751.here hx rfl (hb hby at_80) ?_
      show Steps _ _ _ (T751.setTop (mkF m 81 _ [.int 1, .int 3])) _
      refine XS.icmpNo X751.here hx rfl (hb hby at_81) rfl (tlt ((by decide) : (1 : Int32) < (3 : Int32))).2.2.2 ?_
      exact kk
    by_cases hP0 : own_hi c0 ∧ own_lo c1
    · obtain ⟨_, _, ⟨T759, L759, k759, n759⟩, -, X759, ⟨Lc759, hQ759, l759, y759, z759⟩, st759⟩ := Jvm.LawKit.callS X751 hx (y := (⟨"com/example/shush/shush/OccurrenceMatchedPinLaw", "hi", "(C)Z"⟩ : MethodName)) hown (mvT hZ (W 157 rfl)) (mvT hZ (W 158 rfl)) (mvT hZ (W 3 rfl)) (mvT hZ (W 159 rfl)) (by decide) (backOf (W := 0) (rm_hi1 l Z a0 hw [] c0 T751.heap n0 Z754 hP0.1) hZ (W 159 rfl) (W 3 rfl) (by decide) (by decide)) (g := (mkF m 86 #[iv p1, iv p2, iv p3, iv p4, iv p5, iv p6, iv 3, iv c0, iv c1, iv c2, rv b712, rv b740, uu, uu, uu, uu, uu, uu, uu, uu] [.int c0])) rfl (by rw [hml]; rfl) (argsL := [.int c0]) (rest := []) (lenOf own_pd_21 rfl) rfl own_wt (hb hby at_86) (fun _ _ => ⟨rfl, rfl, (by decide : 4 + 0 ≤ _), (by decide : 19 + 0 ≤ _)⟩)
      dsimp only [Pt.U, Pt.locs, Pt.cells, Pt.slots] at X759 l759 y759 z759 st759 hQ759
      subst l759 y759 z759
      obtain ⟨rfl, Nq759, e759⟩ := hQ759
      have N759 := Fr.app N751 Nq759
      obtain ⟨_, _, ⟨T760, L760, k760, n760⟩, -, X760, ⟨Lc760, hQ760, l760, y760, z760⟩, st760⟩ := Jvm.LawKit.callS X759 hx (y := (⟨"com/example/shush/shush/OccurrenceMatchedPinLaw", "lo", "(C)Z"⟩ : MethodName)) hown (mvT hZ (W 179 rfl)) (mvT hZ (W 180 rfl)) (mvT hZ (W 3 rfl)) (mvT hZ (W 181 rfl)) (by decide) (backOf (W := 0) (rm_lo1 l Z a0 hw [] c1 T751.heap n0 Z754 hP0.2) hZ (W 181 rfl) (W 3 rfl) (by decide) (by decide)) (g := (mkF m 94 #[iv p1, iv p2, iv p3, iv p4, iv p5, iv p6, iv 3, iv c0, iv c1, iv c2, rv b712, rv b740, uu, uu, uu, uu, uu, uu, uu, uu] [.int c1])) rfl (by rw [hml]; rfl) (argsL := [.int c1]) (rest := []) (lenOf own_pd_21 rfl) rfl own_wt (hb hby at_94) (fun _ _ => ⟨rfl, e759, (by decide : 4 + 0 ≤ _), (by decide : 19 + 0 ≤ _)⟩)
      dsimp only [Pt.U, Pt.locs, Pt.cells, Pt.slots] at X760 l760 y760 z760 st760 hQ760
      subst l760 y760 z760
      obtain ⟨rfl, Nq760, e760⟩ := hQ760
      have N760 := Fr.app N759 Nq760
      have G761 : ∀ tq, Steps p.tables e below (T760.setTop (mkF m 105 #[iv p1, iv p2, iv p3, iv p4, iv p5, iv p6, iv 3, iv c0, iv c1, iv c2, rv b712, rv b740, uu, uu, uu, uu, uu, uu, uu, uu] [.int 0])) tq → Steps p.tables e below (T751.setTop (mkF m 84 #[iv p1, iv p2, iv p3, iv p4, iv p5, iv p6, iv 3, iv c0, iv c1, iv c2, rv b712, rv b740, uu, uu, uu, uu, uu, uu, uu, uu] [])) tq := by
        intro tq kk
        show Steps _ _ _ (T751.setTop (mkF m 84 #[iv p1, iv p2, iv p3, iv p4, iv p5, iv p6, iv 3, iv c0, iv c1, iv c2, rv b712, rv b740, uu, uu, uu, uu, uu, uu, uu, uu] [])) _
        refine XS.iload X751.here hx rfl (hb hby at_84) rfl ?_
        show Steps _ _ _ (T751.setTop (mkF m 86 _ [.int c0])) _
        refine st759 _ ?_
        show Steps _ _ _ (T759.setTop (mkF m 89 #[iv p1, iv p2, iv p3, iv p4, iv p5, iv p6, iv 3, iv c0, iv c1, iv c2, rv b712, rv b740, uu, uu, uu, uu, uu, uu, uu, uu] [.int 1])) _
        refine XS.ifNo X759.here hx rfl (hb hby at_89) rfl ((if0 _ _).trans (feq ((by decide) : ¬ ((1 : Int32) = (0 : Int32)))).1) ?_
        show Steps _ _ _ (T759.setTop (mkF m 92 _ [])) _
        refine XS.iload X759.here hx rfl (hb hby at_92) rfl ?_
        show Steps _ _ _ (T759.setTop (mkF m 94 _ [.int c1])) _
        refine st760 _ ?_
        show Steps _ _ _ (T760.setTop (mkF m 97 #[iv p1, iv p2, iv p3, iv p4, iv p5, iv p6, iv 3, iv c0, iv c1, iv c2, rv b712, rv b740, uu, uu, uu, uu, uu, uu, uu, uu] [.int 1])) _
        refine XS.ifYes X760.here hx rfl (pc0 := 97) (pc' := 104) rfl (hb hby at_97) rfl ((if0 _ _).trans (feq ((by decide) : ¬ ((1 : Int32) = (0 : Int32)))).2) (by decide) (by decide) ?_
        show Steps _ _ _ (T760.setTop (mkF m 104 _ [])) _
        refine XS.iconst X760.here hx rfl (hb hby at_104) ?_
        exact kk
      have G762 : ∀ tq, Steps p.tables e below (T760.setTop (mkF m 139 #[iv p1, iv p2, iv p3, iv p4, iv p5, iv p6, iv 3, iv c0, iv c1, iv c2, rv b712, rv b740, iv 0, uu, uu, uu, uu, uu, uu, uu] [.int 1])) tq → Steps p.tables e below (T760.setTop (mkF m 105 #[iv p1, iv p2, iv p3, iv p4, iv p5, iv p6, iv 3, iv c0, iv c1, iv c2, rv b712, rv b740, uu, uu, uu, uu, uu, uu, uu, uu] [.int 0])) tq := by
        intro tq kk
        show Steps _ _ _ (T760.setTop (mkF m 105 #[iv p1, iv p2, iv p3, iv p4, iv p5, iv p6, iv 3, iv c0, iv c1, iv c2, rv b712, rv b740, uu, uu, uu, uu, uu, uu, uu, uu] [.int 0])) _
        refine XS.istore X760.here hx rfl (hb hby at_105) rfl (l' := #[iv p1, iv p2, iv p3, iv p4, iv p5, iv p6, iv 3, iv c0, iv c1, iv c2, rv b712, rv b740, iv 0, uu, uu, uu, uu, uu, uu, uu]) rfl ?_
        show Steps _ _ _ (T760.setTop (mkF m 107 _ [])) _
        refine XS.iload X760.here hx rfl (hb hby at_107) rfl ?_
        show Steps _ _ _ (T760.setTop (mkF m 109 _ [.int 3])) _
        refine XS.iconst X760.here hx rfl (hb hby at_109) ?_
        show Steps _ _ _ (T760.setTop (mkF m 110 _ [.int 2, .int 3])) _
        refine XS.icmpNo X760.here hx rfl (hb hby at_110) rfl (tlt ((by decide) : (2 : Int32) < (3 : Int32))).2.2.2 ?_
        show Steps _ _ _ (T760.setTop (mkF m 113 _ [])) _
        refine XS.iload X760.here hx rfl (hb hby at_113) rfl ?_
        show Steps _ _ _ (T760.setTop (mkF m 115 _ [.int 0])) _
        refine XS.ifYes X760.here hx rfl (pc0 := 115) (pc' := 134) rfl (hb hby at_115) rfl ((if0 _ _).trans (teq (rfl : (0 : Int32) = (0 : Int32))).1) (by decide) (by decide) ?_
        show Steps _ _ _ (T760.setTop (mkF m 134 _ [])) _
        refine XS.iconst X760.here hx rfl (hb hby at_134) ?_
        show Steps _ _ _ (T760.setTop (mkF m 135 _ [.int 1])) _
        refine XS.goto X760.here hx rfl (pc0 := 135) (pc' := 139) rfl (hb hby at_135) (by decide) (by decide) ?_
        exact kk
      have M : own_cfg l Z n0 ([c0, c1, c2] : List Int32) (fun i => ([0, 2, 3] : List Nat).getD i 0) 2 := by
        refine ⟨(Nat.le_of_ble_eq_true rfl), by decide, (fun hle => absurd (own_higt hP0.1) (hle c0 (by simp))), fun h z o t kb V hbd hg => rm_ucn l Z a0 hw [] t (3 : Int32) (2 : Int32) h n0 z (rm_uczE3 l Z a0 hw [] t kb c0 c1 c2 h n0 z o V (hbd c0 (by simp)) (hbd c1 (by simp)) (hbd c2 (by simp)) hP0 OA OH OL), rfl, rfl, fun i hi => ?_⟩
        rcases (show i = 0 ∨ i = 1 by omega) with rfl | rfl
        · exact ⟨(Nat.le_of_ble_eq_true rfl), Or.inr ⟨rfl, (Nat.le_of_ble_eq_true rfl), hP0.1, hP0.2⟩⟩
        · exact ⟨(Nat.le_of_ble_eq_true rfl), Or.inl ⟨rfl, fun q => absurd (show 3 < 3 from q.1) (by decide)⟩⟩
      obtain ⟨T763, h763, k763, X763, e763, E763, A763, st763⟩ := newP X760 hx hZ (W 30 rfl) e760 (g := (mkF m 142 #[iv p1, iv p2, iv p3, iv p4, iv p5, iv p6, iv 3, iv c0, iv c1, iv c2, rv b712, rv b740, iv 0, iv 1, uu, uu, uu, uu, uu, uu] [.int 3])) rfl (hb hby at_142) rfl (by decide : ¬ ((3 : Int32) < (0 : Int32))) (cap := 3) (by decide) (by decide) (by decide) (by decide)
      obtain ⟨b763, g763⟩ : ∃ z, z = T751.heap.size := ⟨_, rfl⟩
      rw [← g763] at A763 st763
      have g764 : n0 ≤ b763 := Nat.le_trans Z754 (Nat.le_of_eq g763.symm)
      have CR765 := CR752.trans (CHr.ext E763 CR752.1)
      have Z766 : n0 ≤ h763.size := Nat.le_trans Z754 E763.1
      have O767 : Old Z n0 h763 := O755.ext E763
      have hk768 := Nat.le_trans hk756 E763.1
      have V763 : Arv Z h763 b763 k763 .int (3 : Int32) [(.int (0 : Int32)), (.int (0 : Int32)), (.int (0 : Int32))] (.int (0 : Int32)) := (Arv.new A763 (by decide : ¬ ((3 : Int32) < (0 : Int32)))).pad (pad_rep [] (.int (0 : Int32)) 3)
      obtain ⟨cl769, Ar769, aq769, aS769, aN769, aH769, aG769⟩ := id V763
      obtain ⟨T770, h770, X770, e770, W770, st770⟩ := stI X763 hx hZ e763 Ar769 (j := (0 : Int32)) (inb_of aS769 ⟨(by decide), (by decide)⟩) (g := (mkF m 160 #[iv p1, iv p2, iv p3, iv p4, iv p5, iv p6, iv 3, iv c0, iv c1, iv c2, rv b712, rv b740, iv 0, iv 1, rv b763, iv 0, uu, uu, uu, uu] [.int p5, .int 0, .ref b763])) rfl rfl (hb hby at_160)
      have N770 := Fr.snoc X770 N760 g764
      have V770 : Arv Z h770 b763 k763 .int (3 : Int32) [(.int p5), (.int (0 : Int32)), (.int (0 : Int32))] (.int (0 : Int32)) := Arv.set Ar769 aq769 aS769 aN769 aH769 aG769 rfl W770 0 rfl (Nat.le_of_ble_eq_true rfl)
      have f772 := (Safe.ext E763 CR752.1 (Safe.new (Nat.le_of_eq g763.symm)))
      have CR771 := CR765.trans (CHr.wr W770 f772 CR765.1)
      have Z773 : n0 ≤ h770.size := Nat.le_trans Z766 (Keep.of_wr W770).1
      have O774 : Old Z n0 h770 := O767.wr W770 g764
      have hk775 := Nat.le_trans hk768 (Keep.of_wr W770).1
      obtain ⟨cl776, Ar776, aq776, aS776, aN776, aH776, aG776⟩ := id V770
      obtain ⟨T777, h777, X777, e777, W777, st777⟩ := stI X770 hx hZ e770 Ar776 (j := (1 : Int32)) (inb_of aS776 ⟨(by decide), (by decide)⟩) (g := (mkF m 200 #[iv p1, iv p2, iv p3, iv p4, iv p5, iv p6, iv 3, iv c0, iv c1, iv c2, rv b712, rv b740, iv 0, iv 1, rv b763, iv 1, uu, uu, uu, uu] [.int (p5 + (2 : Int32)), .int 1, .ref b763])) rfl rfl (hb hby at_200)
      have N777 := Fr.snoc X777 N770 g764
      have V777 : Arv Z h777 b763 k763 .int (3 : Int32) [(.int p5), (.int (p5 + (2 : Int32))), (.int (0 : Int32))] (.int (0 : Int32)) := Arv.set Ar776 aq776 aS776 aN776 aH776 aG776 rfl W777 1 rfl (Nat.le_of_ble_eq_true rfl)
      have f779 := ((CHr.wr W770 f772 CR765.1).safe V763.lt f772)
      have CR778 := CR771.trans (CHr.wr W777 f779 CR771.1)
      have Z780 : n0 ≤ h777.size := Nat.le_trans Z773 (Keep.of_wr W777).1
      have O781 : Old Z n0 h777 := O774.wr W777 g764
      have hk782 := Nat.le_trans hk775 (Keep.of_wr W777).1
      have G783 : ∀ tq, Steps p.tables e below (T777.setTop (mkF m 207 #[iv p1, iv p2, iv p3, iv p4, iv p5, iv p6, iv 3, iv c0, iv c1, iv c2, rv b712, rv b740, iv 0, iv 1, rv b763, iv 2, uu, uu, uu, uu] [])) tq → Steps p.tables e below (T760.setTop (mkF m 139 #[iv p1, iv p2, iv p3, iv p4, iv p5, iv p6, iv 3, iv c0, iv c1, iv c2, rv b712, rv b740, iv 0, uu, uu, uu, uu, uu, uu, uu] [.int 1])) tq := by
        intro tq kk
        show Steps _ _ _ (T760.setTop (mkF m 139 #[iv p1, iv p2, iv p3, iv p4, iv p5, iv p6, iv 3, iv c0, iv c1, iv c2, rv b712, rv b740, iv 0, uu, uu, uu, uu, uu, uu, uu] [.int 1])) _
        refine XS.istore X760.here hx rfl (hb hby at_139) rfl (l' := #[iv p1, iv p2, iv p3, iv p4, iv p5, iv p6, iv 3, iv c0, iv c1, iv c2, rv b712, rv b740, iv 0, iv 1, uu, uu, uu, uu, uu, uu]) rfl ?_
        show Steps _ _ _ (T760.setTop (mkF m 141 _ [])) _
        refine XS.iconst X760.here hx rfl (hb hby at_141) ?_
        show Steps _ _ _ (T760.setTop (mkF m 142 _ [.int 3])) _
        refine st763 _ ?_
        show Steps _ _ _ (T763.setTop (mkF m 144 #[iv p1, iv p2, iv p3, iv p4, iv p5, iv p6, iv 3, iv c0, iv c1, iv c2, rv b712, rv b740, iv 0, iv 1, uu, uu, uu, uu, uu, uu] [.ref b763])) _
        refine XS.astore X763.here hx rfl (hb hby at_144) rfl rfl (l' := #[iv p1, iv p2, iv p3, iv p4, iv p5, iv p6, iv 3, iv c0, iv c1, iv c2, rv b712, rv b740, iv 0, iv 1, rv b763, uu, uu, uu, uu, uu]) rfl ?_
        show Steps _ _ _ (T763.setTop (mkF m 146 _ [])) _
        refine XS.iconst X763.here hx rfl (hb hby at_146) ?_
        show Steps _ _ _ (T763.setTop (mkF m 147 _ [.int 0])) _
        refine XS.istore X763.here hx rfl (hb hby at_147) rfl (l' := #[iv p1, iv p2, iv p3, iv p4, iv p5, iv p6, iv 3, iv c0, iv c1, iv c2, rv b712, rv b740, iv 0, iv 1, rv b763, iv 0, uu, uu, uu, uu]) rfl ?_
        show Steps _ _ _ (T763.setTop (mkF m 149 _ [])) _
        refine XS.iload X763.here hx rfl (hb hby at_149) rfl ?_
        show Steps _ _ _ (T763.setTop (mkF m 151 _ [.int 3])) _
        refine XS.ifNo X763.here hx rfl (hb hby at_151) rfl ((if0 _ _).trans (tlt ((by decide) : (0 : Int32) < (3 : Int32))).2.2.2) ?_
        show Steps _ _ _ (T763.setTop (mkF m 154 _ [])) _
        refine XS.aload X763.here hx rfl (hb hby at_154) rfl rfl ?_
        show Steps _ _ _ (T763.setTop (mkF m 156 _ [.ref b763])) _
        refine XS.iload X763.here hx rfl (hb hby at_156) rfl ?_
        show Steps _ _ _ (T763.setTop (mkF m 158 _ [.int 0, .ref b763])) _
        refine XS.iload X763.here hx rfl (hb hby at_158) rfl ?_
        show Steps _ _ _ (T763.setTop (mkF m 160 #[iv p1, iv p2, iv p3, iv p4, iv p5, iv p6, iv 3, iv c0, iv c1, iv c2, rv b712, rv b740, iv 0, iv 1, rv b763, iv 0, uu, uu, uu, uu] [.int p5, .int 0, .ref b763])) _
        refine st770 _ ?_
        show Steps _ _ _ (T770.setTop (mkF m 161 #[iv p1, iv p2, iv p3, iv p4, iv p5, iv p6, iv 3, iv c0, iv c1, iv c2, rv b712, rv b740, iv 0, iv 1, rv b763, iv 0, uu, uu, uu, uu] [])) _
        refine XS.iload X770.here hx rfl (hb hby at_161) rfl ?_
        show Steps _ _ _ (T770.setTop (mkF m 163 _ [.int 0])) _
        refine XS.iconst X770.here hx rfl (hb hby at_163) ?_
        show Steps _ _ _ (T770.setTop (mkF m 164 _ [.int 1, .int 0])) _
        refine XS.iadd X770.here hx rfl (hb hby at_164) rfl ?_
        show Steps _ _ _ (T770.setTop (mkF m 165 _ [.int 1])) _
        refine XS.istore X770.here hx rfl (hb hby at_165) rfl (l' := #[iv p1, iv p2, iv p3, iv p4, iv p5, iv p6, iv 3, iv c0, iv c1, iv c2, rv b712, rv b740, iv 0, iv 1, rv b763, iv 1, uu, uu, uu, uu]) rfl ?_
        show Steps _ _ _ (T770.setTop (mkF m 167 _ [])) _
        refine XS.iload X770.here hx rfl (hb hby at_167) rfl ?_
        show Steps _ _ _ (T770.setTop (mkF m 169 _ [.int 0])) _
        refine XS.ifYes X770.here hx rfl (pc0 := 169) (pc' := 187) rfl (hb hby at_169) rfl ((if0 _ _).trans (teq (rfl : (0 : Int32) = (0 : Int32))).1) (by decide) (by decide) ?_
        show Steps _ _ _ (T770.setTop (mkF m 187 _ [])) _
        refine XS.iload X770.here hx rfl (hb hby at_187) rfl ?_
        show Steps _ _ _ (T770.setTop (mkF m 189 _ [.int 1])) _
        refine XS.ifNo X770.here hx rfl (hb hby at_189) rfl ((if0 _ _).trans (feq ((by decide) : ¬ ((1 : Int32) = (0 : Int32)))).1) ?_
        show Steps _ _ _ (T770.setTop (mkF m 192 #[iv p1, iv p2, iv p3, iv p4, iv p5, iv p6, iv 3, iv c0, iv c1, iv c2, rv b712, rv b740, iv 0, iv 1, rv b763, iv 1, uu, uu, uu, uu] [])) _
        refine XS.aload X770.here hx rfl (hb hby at_192) rfl rfl ?_
        show Steps _ _ _ (T770.setTop (mkF m 194 _ [.ref b763])) _
        refine XS.iload X770.here hx rfl (hb hby at_194) rfl ?_
        show Steps _ _ _ (T770.setTop (mkF m 196 _ [.int 1, .ref b763])) _
        refine XS.iload X770.here hx rfl (hb hby at_196) rfl ?_
        show Steps _ _ _ (T770.setTop (mkF m 198 _ [.int p5, .int 1, .ref b763])) _
        refine XS.iconst X770.here hx rfl (hb hby at_198) ?_
        show Steps _ _ _ (T770.setTop (mkF m 199 _ [.int 2, .int p5, .int 1, .ref b763])) _
        refine XS.iadd X770.here hx rfl (hb hby at_199) rfl ?_
        show Steps _ _ _ (T770.setTop (mkF m 200 _ [.int (p5 + (2 : Int32)), .int 1, .ref b763])) _
        refine st777 _ ?_
        show Steps _ _ _ (T777.setTop (mkF m 201 #[iv p1, iv p2, iv p3, iv p4, iv p5, iv p6, iv 3, iv c0, iv c1, iv c2, rv b712, rv b740, iv 0, iv 1, rv b763, iv 1, uu, uu, uu, uu] [])) _
        refine XS.iload X777.here hx rfl (hb hby at_201) rfl ?_
        show Steps _ _ _ (T777.setTop (mkF m 203 _ [.int 1])) _
        refine XS.iconst X777.here hx rfl (hb hby at_203) ?_
        show Steps _ _ _ (T777.setTop (mkF m 204 _ [.int 1, .int 1])) _
        refine XS.iadd X777.here hx rfl (hb hby at_204) rfl ?_
        show Steps _ _ _ (T777.setTop (mkF m 205 _ [.int 2])) _
        refine XS.istore X777.here hx rfl (hb hby at_205) rfl (l' := #[iv p1, iv p2, iv p3, iv p4, iv p5, iv p6, iv 3, iv c0, iv c1, iv c2, rv b712, rv b740, iv 0, iv 1, rv b763, iv 2, uu, uu, uu, uu]) rfl ?_
        exact kk
      have f784 := (((SX.ext E763).wr W770 (Nat.le_of_eq g763.symm)).wr W777 (Nat.le_of_eq g763.symm))
      obtain ⟨s₂, o, t1, t2, t3, t4⟩ := tail2 s.vm T777 h777 _ _ (3 : Int32) (0 : Int32) (1 : Int32) b712 b740 b763 k763 ([c0, c1, c2] : List Int32) (fun i => ([0, 2, 3] : List Nat).getD i 0) (p5 + (2 : Int32)) (X777.more (by decide) (by decide)) e777 N777 Z780 O781 hS0 hk782 hZ hown CR778 f784.now V777 M (congrArg (fun z => [Value.int z, Value.int (p5 + (2 : Int32))]) (Int32.add_zero p5))
      exact ⟨s₂, o, pre0 _ (Gn _ (G354 _ (G748 _ (G757 _ (G758 _ (G761 _ (G762 _ (G783 _ (t1))))))))), t2, t3, t4⟩
    · obtain ⟨TE785, lE785, XE785, eE785, NE785, GE785⟩ : ∃ (TE : State) (lE : List Loc), Stand p l e room_1 (s.setVm s.vm) m #[(.int p1), (.int p2), (.int p3), (.int p4), (.int p5), (.int p6)] below meth c TE lE 4 19 ∧ TE.heap = T751.heap ∧ Fr n0 lE ∧ (∀ tgt, Steps p.tables e below (TE.setTop (mkF m 105 #[iv p1, iv p2, iv p3, iv p4, iv p5, iv p6, iv 3, iv c0, iv c1, iv c2, rv b712, rv b740, uu, uu, uu, uu, uu, uu, uu, uu] [.int 1])) tgt → Steps p.tables e below (T751.setTop (mkF m 84 #[iv p1, iv p2, iv p3, iv p4, iv p5, iv p6, iv 3, iv c0, iv c1, iv c2, rv b712, rv b740, uu, uu, uu, uu, uu, uu, uu, uu] [])) tgt) := by
        by_cases hh : own_hi c0
        · obtain ⟨_, _, ⟨T786, L786, k786, n786⟩, -, X786, ⟨Lc786, hQ786, l786, y786, z786⟩, st786⟩ := Jvm.LawKit.callS X751 hx (y := (⟨"com/example/shush/shush/OccurrenceMatchedPinLaw", "hi", "(C)Z"⟩ : MethodName)) hown (mvT hZ (W 157 rfl)) (mvT hZ (W 158 rfl)) (mvT hZ (W 3 rfl)) (mvT hZ (W 159 rfl)) (by decide) (backOf (W := 0) (rm_hi1 l Z a0 hw [] c0 T751.heap n0 Z754 hh) hZ (W 159 rfl) (W 3 rfl) (by decide) (by decide)) (g := (mkF m 86 #[iv p1, iv p2, iv p3, iv p4, iv p5, iv p6, iv 3, iv c0, iv c1, iv c2, rv b712, rv b740, uu, uu, uu, uu, uu, uu, uu, uu] [.int c0])) rfl (by rw [hml]; rfl) (argsL := [.int c0]) (rest := []) (lenOf own_pd_21 rfl) rfl own_wt (hb hby at_86) (fun _ _ => ⟨rfl, rfl, (by decide : 4 + 0 ≤ _), (by decide : 19 + 0 ≤ _)⟩)
          dsimp only [Pt.U, Pt.locs, Pt.cells, Pt.slots] at X786 l786 y786 z786 st786 hQ786
          subst l786 y786 z786
          obtain ⟨rfl, Nq786, e786⟩ := hQ786
          have N786 := Fr.app N751 Nq786
          obtain ⟨_, _, ⟨T787, L787, k787, n787⟩, -, X787, ⟨Lc787, hQ787, l787, y787, z787⟩, st787⟩ := Jvm.LawKit.callS X786 hx (y := (⟨"com/example/shush/shush/OccurrenceMatchedPinLaw", "lo", "(C)Z"⟩ : MethodName)) hown (mvT hZ (W 179 rfl)) (mvT hZ (W 180 rfl)) (mvT hZ (W 3 rfl)) (mvT hZ (W 181 rfl)) (by decide) (backOf (W := 0) (rm_lo0 l Z a0 hw [] c1 T751.heap n0 Z754 (fun q => hP0 ⟨hh, q⟩)) hZ (W 181 rfl) (W 3 rfl) (by decide) (by decide)) (g := (mkF m 94 #[iv p1, iv p2, iv p3, iv p4, iv p5, iv p6, iv 3, iv c0, iv c1, iv c2, rv b712, rv b740, uu, uu, uu, uu, uu, uu, uu, uu] [.int c1])) rfl (by rw [hml]; rfl) (argsL := [.int c1]) (rest := []) (lenOf own_pd_21 rfl) rfl own_wt (hb hby at_94) (fun _ _ => ⟨rfl, e786, (by decide : 4 + 0 ≤ _), (by decide : 19 + 0 ≤ _)⟩)
          dsimp only [Pt.U, Pt.locs, Pt.cells, Pt.slots] at X787 l787 y787 z787 st787 hQ787
          subst l787 y787 z787
          obtain ⟨rfl, Nq787, e787⟩ := hQ787
          have N787 := Fr.app N786 Nq787
          have G788 : ∀ tq, Steps p.tables e below (T787.setTop (mkF m 105 #[iv p1, iv p2, iv p3, iv p4, iv p5, iv p6, iv 3, iv c0, iv c1, iv c2, rv b712, rv b740, uu, uu, uu, uu, uu, uu, uu, uu] [.int 1])) tq → Steps p.tables e below (T751.setTop (mkF m 84 #[iv p1, iv p2, iv p3, iv p4, iv p5, iv p6, iv 3, iv c0, iv c1, iv c2, rv b712, rv b740, uu, uu, uu, uu, uu, uu, uu, uu] [])) tq := by
            intro tq kk
            show Steps _ _ _ (T751.setTop (mkF m 84 #[iv p1, iv p2, iv p3, iv p4, iv p5, iv p6, iv 3, iv c0, iv c1, iv c2, rv b712, rv b740, uu, uu, uu, uu, uu, uu, uu, uu] [])) _
            refine XS.iload X751.here hx rfl (hb hby at_84) rfl ?_
            show Steps _ _ _ (T751.setTop (mkF m 86 _ [.int c0])) _
            refine st786 _ ?_
            show Steps _ _ _ (T786.setTop (mkF m 89 #[iv p1, iv p2, iv p3, iv p4, iv p5, iv p6, iv 3, iv c0, iv c1, iv c2, rv b712, rv b740, uu, uu, uu, uu, uu, uu, uu, uu] [.int 1])) _
            refine XS.ifNo X786.here hx rfl (hb hby at_89) rfl ((if0 _ _).trans (feq ((by decide) : ¬ ((1 : Int32) = (0 : Int32)))).1) ?_
            show Steps _ _ _ (T786.setTop (mkF m 92 _ [])) _
            refine XS.iload X786.here hx rfl (hb hby at_92) rfl ?_
            show Steps _ _ _ (T786.setTop (mkF m 94 _ [.int c1])) _
            refine st787 _ ?_
            show Steps _ _ _ (T787.setTop (mkF m 97 #[iv p1, iv p2, iv p3, iv p4, iv p5, iv p6, iv 3, iv c0, iv c1, iv c2, rv b712, rv b740, uu, uu, uu, uu, uu, uu, uu, uu] [.int 0])) _
            refine XS.ifNo X787.here hx rfl (hb hby at_97) rfl ((if0 _ _).trans (teq (rfl : (0 : Int32) = (0 : Int32))).2) ?_
            show Steps _ _ _ (T787.setTop (mkF m 100 _ [])) _
            refine XS.iconst X787.here hx rfl (hb hby at_100) ?_
            show Steps _ _ _ (T787.setTop (mkF m 101 _ [.int 1])) _
            refine XS.goto X787.here hx rfl (pc0 := 101) (pc' := 105) rfl (hb hby at_101) (by decide) (by decide) ?_
            exact kk
          exact ⟨T787, _, X787, e787, N787, fun tgt kk => G788 _ kk⟩
        · obtain ⟨_, _, ⟨T789, L789, k789, n789⟩, -, X789, ⟨Lc789, hQ789, l789, y789, z789⟩, st789⟩ := Jvm.LawKit.callS X751 hx (y := (⟨"com/example/shush/shush/OccurrenceMatchedPinLaw", "hi", "(C)Z"⟩ : MethodName)) hown (mvT hZ (W 157 rfl)) (mvT hZ (W 158 rfl)) (mvT hZ (W 3 rfl)) (mvT hZ (W 159 rfl)) (by decide) (backOf (W := 0) (rm_hi0 l Z a0 hw [] c0 T751.heap n0 Z754 hh) hZ (W 159 rfl) (W 3 rfl) (by decide) (by decide)) (g := (mkF m 86 #[iv p1, iv p2, iv p3, iv p4, iv p5, iv p6, iv 3, iv c0, iv c1, iv c2, rv b712, rv b740, uu, uu, uu, uu, uu, uu, uu, uu] [.int c0])) rfl (by rw [hml]; rfl) (argsL := [.int c0]) (rest := []) (lenOf own_pd_21 rfl) rfl own_wt (hb hby at_86) (fun _ _ => ⟨rfl, rfl, (by decide : 4 + 0 ≤ _), (by decide : 19 + 0 ≤ _)⟩)
          dsimp only [Pt.U, Pt.locs, Pt.cells, Pt.slots] at X789 l789 y789 z789 st789 hQ789
          subst l789 y789 z789
          obtain ⟨rfl, Nq789, e789⟩ := hQ789
          have N789 := Fr.app N751 Nq789
          have G790 : ∀ tq, Steps p.tables e below (T789.setTop (mkF m 105 #[iv p1, iv p2, iv p3, iv p4, iv p5, iv p6, iv 3, iv c0, iv c1, iv c2, rv b712, rv b740, uu, uu, uu, uu, uu, uu, uu, uu] [.int 1])) tq → Steps p.tables e below (T751.setTop (mkF m 84 #[iv p1, iv p2, iv p3, iv p4, iv p5, iv p6, iv 3, iv c0, iv c1, iv c2, rv b712, rv b740, uu, uu, uu, uu, uu, uu, uu, uu] [])) tq := by
            intro tq kk
            show Steps _ _ _ (T751.setTop (mkF m 84 #[iv p1, iv p2, iv p3, iv p4, iv p5, iv p6, iv 3, iv c0, iv c1, iv c2, rv b712, rv b740, uu, uu, uu, uu, uu, uu, uu, uu] [])) _
            refine XS.iload X751.here hx rfl (hb hby at_84) rfl ?_
            show Steps _ _ _ (T751.setTop (mkF m 86 _ [.int c0])) _
            refine st789 _ ?_
            show Steps _ _ _ (T789.setTop (mkF m 89 #[iv p1, iv p2, iv p3, iv p4, iv p5, iv p6, iv 3, iv c0, iv c1, iv c2, rv b712, rv b740, uu, uu, uu, uu, uu, uu, uu, uu] [.int 0])) _
            refine XS.ifYes X789.here hx rfl (pc0 := 89) (pc' := 100) rfl (hb hby at_89) rfl ((if0 _ _).trans (teq (rfl : (0 : Int32) = (0 : Int32))).1) (by decide) (by decide) ?_
            show Steps _ _ _ (T789.setTop (mkF m 100 _ [])) _
            refine XS.iconst X789.here hx rfl (hb hby at_100) ?_
            show Steps _ _ _ (T789.setTop (mkF m 101 _ [.int 1])) _
            refine XS.goto X789.here hx rfl (pc0 := 101) (pc' := 105) rfl (hb hby at_101) (by decide) (by decide) ?_
            exact kk
          exact ⟨T789, _, X789, e789, N789, fun tgt kk => G790 _ kk⟩
      have G791 : ∀ tq, Steps p.tables e below (TE785.setTop (mkF m 118 #[iv p1, iv p2, iv p3, iv p4, iv p5, iv p6, iv 3, iv c0, iv c1, iv c2, rv b712, rv b740, iv 1, uu, uu, uu, uu, uu, uu, uu] [])) tq → Steps p.tables e below (TE785.setTop (mkF m 105 #[iv p1, iv p2, iv p3, iv p4, iv p5, iv p6, iv 3, iv c0, iv c1, iv c2, rv b712, rv b740, uu, uu, uu, uu, uu, uu, uu, uu] [.int 1])) tq := by
        intro tq kk
        show Steps _ _ _ (TE785.setTop (mkF m 105 #[iv p1, iv p2, iv p3, iv p4, iv p5, iv p6, iv 3, iv c0, iv c1, iv c2, rv b712, rv b740, uu, uu, uu, uu, uu, uu, uu, uu] [.int 1])) _
        refine XS.istore XE785.here hx rfl (hb hby at_105) rfl (l' := #[iv p1, iv p2, iv p3, iv p4, iv p5, iv p6, iv 3, iv c0, iv c1, iv c2, rv b712, rv b740, iv 1, uu, uu, uu, uu, uu, uu, uu]) rfl ?_
        show Steps _ _ _ (TE785.setTop (mkF m 107 _ [])) _
        refine XS.iload XE785.here hx rfl (hb hby at_107) rfl ?_
        show Steps _ _ _ (TE785.setTop (mkF m 109 _ [.int 3])) _
        refine XS.iconst XE785.here hx rfl (hb hby at_109) ?_
        show Steps _ _ _ (TE785.setTop (mkF m 110 _ [.int 2, .int 3])) _
        refine XS.icmpNo XE785.here hx rfl (hb hby at_110) rfl (tlt ((by decide) : (2 : Int32) < (3 : Int32))).2.2.2 ?_
        show Steps _ _ _ (TE785.setTop (mkF m 113 _ [])) _
        refine XS.iload XE785.here hx rfl (hb hby at_113) rfl ?_
        show Steps _ _ _ (TE785.setTop (mkF m 115 _ [.int 1])) _
        refine XS.ifNo XE785.here hx rfl (hb hby at_115) rfl ((if0 _ _).trans (feq ((by decide) : ¬ ((1 : Int32) = (0 : Int32)))).1) ?_
        exact kk
      by_cases hP1 : own_hi c1 ∧ own_lo c2
      · obtain ⟨_, _, ⟨T792, L792, k792, n792⟩, -, X792, ⟨Lc792, hQ792, l792, y792, z792⟩, st792⟩ := Jvm.LawKit.callS XE785 hx (y := (⟨"com/example/shush/shush/OccurrenceMatchedPinLaw", "hi", "(C)Z"⟩ : MethodName)) hown (mvT hZ (W 157 rfl)) (mvT hZ (W 158 rfl)) (mvT hZ (W 3 rfl)) (mvT hZ (W 159 rfl)) (by decide) (backOf (W := 0) (rm_hi1 l Z a0 hw [] c1 T751.heap n0 Z754 hP1.1) hZ (W 159 rfl) (W 3 rfl) (by decide) (by decide)) (g := (mkF m 120 #[iv p1, iv p2, iv p3, iv p4, iv p5, iv p6, iv 3, iv c0, iv c1, iv c2, rv b712, rv b740, iv 1, uu, uu, uu, uu, uu, uu, uu] [.int c1])) rfl (by rw [hml]; rfl) (argsL := [.int c1]) (rest := []) (lenOf own_pd_21 rfl) rfl own_wt (hb hby at_120) (fun _ _ => ⟨rfl, eE785, (by decide : 4 + 0 ≤ _), (by decide : 19 + 0 ≤ _)⟩)
        dsimp only [Pt.U, Pt.locs, Pt.cells, Pt.slots] at X792 l792 y792 z792 st792 hQ792
        subst l792 y792 z792
        obtain ⟨rfl, Nq792, e792⟩ := hQ792
        have N792 := Fr.app NE785 Nq792
        obtain ⟨_, _, ⟨T793, L793, k793, n793⟩, -, X793, ⟨Lc793, hQ793, l793, y793, z793⟩, st793⟩ := Jvm.LawKit.callS X792 hx (y := (⟨"com/example/shush/shush/OccurrenceMatchedPinLaw", "lo", "(C)Z"⟩ : MethodName)) hown (mvT hZ (W 179 rfl)) (mvT hZ (W 180 rfl)) (mvT hZ (W 3 rfl)) (mvT hZ (W 181 rfl)) (by decide) (backOf (W := 0) (rm_lo1 l Z a0 hw [] c2 T751.heap n0 Z754 hP1.2) hZ (W 181 rfl) (W 3 rfl) (by decide) (by decide)) (g := (mkF m 128 #[iv p1, iv p2, iv p3, iv p4, iv p5, iv p6, iv 3, iv c0, iv c1, iv c2, rv b712, rv b740, iv 1, uu, uu, uu, uu, uu, uu, uu] [.int c2])) rfl (by rw [hml]; rfl) (argsL := [.int c2]) (rest := []) (lenOf own_pd_21 rfl) rfl own_wt (hb hby at_128) (fun _ _ => ⟨rfl, e792, (by decide : 4 + 0 ≤ _), (by decide : 19 + 0 ≤ _)⟩)
        dsimp only [Pt.U, Pt.locs, Pt.cells, Pt.slots] at X793 l793 y793 z793 st793 hQ793
        subst l793 y793 z793
        obtain ⟨rfl, Nq793, e793⟩ := hQ793
        have N793 := Fr.app N792 Nq793
        have G794 : ∀ tq, Steps p.tables e below (T793.setTop (mkF m 139 #[iv p1, iv p2, iv p3, iv p4, iv p5, iv p6, iv 3, iv c0, iv c1, iv c2, rv b712, rv b740, iv 1, uu, uu, uu, uu, uu, uu, uu] [.int 0])) tq → Steps p.tables e below (TE785.setTop (mkF m 118 #[iv p1, iv p2, iv p3, iv p4, iv p5, iv p6, iv 3, iv c0, iv c1, iv c2, rv b712, rv b740, iv 1, uu, uu, uu, uu, uu, uu, uu] [])) tq := by
          intro tq kk
          show Steps _ _ _ (TE785.setTop (mkF m 118 #[iv p1, iv p2, iv p3, iv p4, iv p5, iv p6, iv 3, iv c0, iv c1, iv c2, rv b712, rv b740, iv 1, uu, uu, uu, uu, uu, uu, uu] [])) _
          refine XS.iload XE785.here hx rfl (hb hby at_118) rfl ?_
          show Steps _ _ _ (TE785.setTop (mkF m 120 _ [.int c1])) _
          refine st792 _ ?_
          show Steps _ _ _ (T792.setTop (mkF m 123 #[iv p1, iv p2, iv p3, iv p4, iv p5, iv p6, iv 3, iv c0, iv c1, iv c2, rv b712, rv b740, iv 1, uu, uu, uu, uu, uu, uu, uu] [.int 1])) _
          refine XS.ifNo X792.here hx rfl (hb hby at_123) rfl ((if0 _ _).trans (feq ((by decide) : ¬ ((1 : Int32) = (0 : Int32)))).1) ?_
          show Steps _ _ _ (T792.setTop (mkF m 126 _ [])) _
          refine XS.iload X792.here hx rfl (hb hby at_126) rfl ?_
          show Steps _ _ _ (T792.setTop (mkF m 128 _ [.int c2])) _
          refine st793 _ ?_
          show Steps _ _ _ (T793.setTop (mkF m 131 #[iv p1, iv p2, iv p3, iv p4, iv p5, iv p6, iv 3, iv c0, iv c1, iv c2, rv b712, rv b740, iv 1, uu, uu, uu, uu, uu, uu, uu] [.int 1])) _
          refine XS.ifYes X793.here hx rfl (pc0 := 131) (pc' := 138) rfl (hb hby at_131) rfl ((if0 _ _).trans (feq ((by decide) : ¬ ((1 : Int32) = (0 : Int32)))).2) (by decide) (by decide) ?_
          show Steps _ _ _ (T793.setTop (mkF m 138 _ [])) _
          refine XS.iconst X793.here hx rfl (hb hby at_138) ?_
          exact kk
        have M : own_cfg l Z n0 ([c0, c1, c2] : List Int32) (fun i => ([0, 1, 3] : List Nat).getD i 0) 2 := by
          refine ⟨(Nat.le_of_ble_eq_true rfl), by decide, (fun hle => absurd (own_higt hP1.1) (hle c1 (by simp))), fun h z o t kb V hbd hg => rm_ucn l Z a0 hw [] t (3 : Int32) (2 : Int32) h n0 z (rm_uczF3 l Z a0 hw [] t kb c0 c1 c2 h n0 z o V (hbd c0 (by simp)) (hbd c1 (by simp)) (hbd c2 (by simp)) hP0 hP1 OA OH OL), rfl, rfl, fun i hi => ?_⟩
          rcases (show i = 0 ∨ i = 1 by omega) with rfl | rfl
          · exact ⟨(Nat.le_of_ble_eq_true rfl), Or.inl ⟨rfl, fun q => hP0 q.2⟩⟩
          · exact ⟨(Nat.le_of_ble_eq_true rfl), Or.inr ⟨rfl, (Nat.le_of_ble_eq_true rfl), hP1.1, hP1.2⟩⟩
        obtain ⟨T795, h795, k795, X795, e795, E795, A795, st795⟩ := newP X793 hx hZ (W 30 rfl) e793 (g := (mkF m 142 #[iv p1, iv p2, iv p3, iv p4, iv p5, iv p6, iv 3, iv c0, iv c1, iv c2, rv b712, rv b740, iv 1, iv 0, uu, uu, uu, uu, uu, uu] [.int 3])) rfl (hb hby at_142) rfl (by decide : ¬ ((3 : Int32) < (0 : Int32))) (cap := 3) (by decide) (by decide) (by decide) (by decide)
        obtain ⟨b795, g795⟩ : ∃ z, z = T751.heap.size := ⟨_, rfl⟩
        rw [← g795] at A795 st795
        have g796 : n0 ≤ b795 := Nat.le_trans Z754 (Nat.le_of_eq g795.symm)
        have CR797 := CR752.trans (CHr.ext E795 CR752.1)
        have Z798 : n0 ≤ h795.size := Nat.le_trans Z754 E795.1
        have O799 : Old Z n0 h795 := O755.ext E795
        have hk800 := Nat.le_trans hk756 E795.1
        have V795 : Arv Z h795 b795 k795 .int (3 : Int32) [(.int (0 : Int32)), (.int (0 : Int32)), (.int (0 : Int32))] (.int (0 : Int32)) := (Arv.new A795 (by decide : ¬ ((3 : Int32) < (0 : Int32)))).pad (pad_rep [] (.int (0 : Int32)) 3)
        obtain ⟨cl801, Ar801, aq801, aS801, aN801, aH801, aG801⟩ := id V795
        obtain ⟨T802, h802, X802, e802, W802, st802⟩ := stI X795 hx hZ e795 Ar801 (j := (0 : Int32)) (inb_of aS801 ⟨(by decide), (by decide)⟩) (g := (mkF m 160 #[iv p1, iv p2, iv p3, iv p4, iv p5, iv p6, iv 3, iv c0, iv c1, iv c2, rv b712, rv b740, iv 1, iv 0, rv b795, iv 0, uu, uu, uu, uu] [.int p5, .int 0, .ref b795])) rfl rfl (hb hby at_160)
        have N802 := Fr.snoc X802 N793 g796
        have V802 : Arv Z h802 b795 k795 .int (3 : Int32) [(.int p5), (.int (0 : Int32)), (.int (0 : Int32))] (.int (0 : Int32)) := Arv.set Ar801 aq801 aS801 aN801 aH801 aG801 rfl W802 0 rfl (Nat.le_of_ble_eq_true rfl)
        have f804 := (Safe.ext E795 CR752.1 (Safe.new (Nat.le_of_eq g795.symm)))
        have CR803 := CR797.trans (CHr.wr W802 f804 CR797.1)
        have Z805 : n0 ≤ h802.size := Nat.le_trans Z798 (Keep.of_wr W802).1
        have O806 : Old Z n0 h802 := O799.wr W802 g796
        have hk807 := Nat.le_trans hk800 (Keep.of_wr W802).1
        obtain ⟨cl808, Ar808, aq808, aS808, aN808, aH808, aG808⟩ := id V802
        obtain ⟨T809, h809, X809, e809, W809, st809⟩ := stI X802 hx hZ e802 Ar808 (j := (1 : Int32)) (inb_of aS808 ⟨(by decide), (by decide)⟩) (g := (mkF m 180 #[iv p1, iv p2, iv p3, iv p4, iv p5, iv p6, iv 3, iv c0, iv c1, iv c2, rv b712, rv b740, iv 1, iv 0, rv b795, iv 1, uu, uu, uu, uu] [.int (p5 + (1 : Int32)), .int 1, .ref b795])) rfl rfl (hb hby at_180)
        have N809 := Fr.snoc X809 N802 g796
        have V809 : Arv Z h809 b795 k795 .int (3 : Int32) [(.int p5), (.int (p5 + (1 : Int32))), (.int (0 : Int32))] (.int (0 : Int32)) := Arv.set Ar808 aq808 aS808 aN808 aH808 aG808 rfl W809 1 rfl (Nat.le_of_ble_eq_true rfl)
        have f811 := ((CHr.wr W802 f804 CR797.1).safe V795.lt f804)
        have CR810 := CR803.trans (CHr.wr W809 f811 CR803.1)
        have Z812 : n0 ≤ h809.size := Nat.le_trans Z805 (Keep.of_wr W809).1
        have O813 : Old Z n0 h809 := O806.wr W809 g796
        have hk814 := Nat.le_trans hk807 (Keep.of_wr W809).1
        have G815 : ∀ tq, Steps p.tables e below (T809.setTop (mkF m 207 #[iv p1, iv p2, iv p3, iv p4, iv p5, iv p6, iv 3, iv c0, iv c1, iv c2, rv b712, rv b740, iv 1, iv 0, rv b795, iv 2, uu, uu, uu, uu] [])) tq → Steps p.tables e below (T793.setTop (mkF m 139 #[iv p1, iv p2, iv p3, iv p4, iv p5, iv p6, iv 3, iv c0, iv c1, iv c2, rv b712, rv b740, iv 1, uu, uu, uu, uu, uu, uu, uu] [.int 0])) tq := by
          intro tq kk
          show Steps _ _ _ (T793.setTop (mkF m 139 #[iv p1, iv p2, iv p3, iv p4, iv p5, iv p6, iv 3, iv c0, iv c1, iv c2, rv b712, rv b740, iv 1, uu, uu, uu, uu, uu, uu, uu] [.int 0])) _
          refine XS.istore X793.here hx rfl (hb hby at_139) rfl (l' := #[iv p1, iv p2, iv p3, iv p4, iv p5, iv p6, iv 3, iv c0, iv c1, iv c2, rv b712, rv b740, iv 1, iv 0, uu, uu, uu, uu, uu, uu]) rfl ?_
          show Steps _ _ _ (T793.setTop (mkF m 141 _ [])) _
          refine XS.iconst X793.here hx rfl (hb hby at_141) ?_
          show Steps _ _ _ (T793.setTop (mkF m 142 _ [.int 3])) _
          refine st795 _ ?_
          show Steps _ _ _ (T795.setTop (mkF m 144 #[iv p1, iv p2, iv p3, iv p4, iv p5, iv p6, iv 3, iv c0, iv c1, iv c2, rv b712, rv b740, iv 1, iv 0, uu, uu, uu, uu, uu, uu] [.ref b795])) _
          refine XS.astore X795.here hx rfl (hb hby at_144) rfl rfl (l' := #[iv p1, iv p2, iv p3, iv p4, iv p5, iv p6, iv 3, iv c0, iv c1, iv c2, rv b712, rv b740, iv 1, iv 0, rv b795, uu, uu, uu, uu, uu]) rfl ?_
          show Steps _ _ _ (T795.setTop (mkF m 146 _ [])) _
          refine XS.iconst X795.here hx rfl (hb hby at_146) ?_
          show Steps _ _ _ (T795.setTop (mkF m 147 _ [.int 0])) _
          refine XS.istore X795.here hx rfl (hb hby at_147) rfl (l' := #[iv p1, iv p2, iv p3, iv p4, iv p5, iv p6, iv 3, iv c0, iv c1, iv c2, rv b712, rv b740, iv 1, iv 0, rv b795, iv 0, uu, uu, uu, uu]) rfl ?_
          show Steps _ _ _ (T795.setTop (mkF m 149 _ [])) _
          refine XS.iload X795.here hx rfl (hb hby at_149) rfl ?_
          show Steps _ _ _ (T795.setTop (mkF m 151 _ [.int 3])) _
          refine XS.ifNo X795.here hx rfl (hb hby at_151) rfl ((if0 _ _).trans (tlt ((by decide) : (0 : Int32) < (3 : Int32))).2.2.2) ?_
          show Steps _ _ _ (T795.setTop (mkF m 154 _ [])) _
          refine XS.aload X795.here hx rfl (hb hby at_154) rfl rfl ?_
          show Steps _ _ _ (T795.setTop (mkF m 156 _ [.ref b795])) _
          refine XS.iload X795.here hx rfl (hb hby at_156) rfl ?_
          show Steps _ _ _ (T795.setTop (mkF m 158 _ [.int 0, .ref b795])) _
          refine XS.iload X795.here hx rfl (hb hby at_158) rfl ?_
          show Steps _ _ _ (T795.setTop (mkF m 160 #[iv p1, iv p2, iv p3, iv p4, iv p5, iv p6, iv 3, iv c0, iv c1, iv c2, rv b712, rv b740, iv 1, iv 0, rv b795, iv 0, uu, uu, uu, uu] [.int p5, .int 0, .ref b795])) _
          refine st802 _ ?_
          show Steps _ _ _ (T802.setTop (mkF m 161 #[iv p1, iv p2, iv p3, iv p4, iv p5, iv p6, iv 3, iv c0, iv c1, iv c2, rv b712, rv b740, iv 1, iv 0, rv b795, iv 0, uu, uu, uu, uu] [])) _
          refine XS.iload X802.here hx rfl (hb hby at_161) rfl ?_
          show Steps _ _ _ (T802.setTop (mkF m 163 _ [.int 0])) _
          refine XS.iconst X802.here hx rfl (hb hby at_163) ?_
          show Steps _ _ _ (T802.setTop (mkF m 164 _ [.int 1, .int 0])) _
          refine XS.iadd X802.here hx rfl (hb hby at_164) rfl ?_
          show Steps _ _ _ (T802.setTop (mkF m 165 _ [.int 1])) _
          refine XS.istore X802.here hx rfl (hb hby at_165) rfl (l' := #[iv p1, iv p2, iv p3, iv p4, iv p5, iv p6, iv 3, iv c0, iv c1, iv c2, rv b712, rv b740, iv 1, iv 0, rv b795, iv 1, uu, uu, uu, uu]) rfl ?_
          show Steps _ _ _ (T802.setTop (mkF m 167 _ [])) _
          refine XS.iload X802.here hx rfl (hb hby at_167) rfl ?_
          show Steps _ _ _ (T802.setTop (mkF m 169 _ [.int 1])) _
          refine XS.ifNo X802.here hx rfl (hb hby at_169) rfl ((if0 _ _).trans (feq ((by decide) : ¬ ((1 : Int32) = (0 : Int32)))).1) ?_
          show Steps _ _ _ (T802.setTop (mkF m 172 _ [])) _
          refine XS.aload X802.here hx rfl (hb hby at_172) rfl rfl ?_
          show Steps _ _ _ (T802.setTop (mkF m 174 _ [.ref b795])) _
          refine XS.iload X802.here hx rfl (hb hby at_174) rfl ?_
          show Steps _ _ _ (T802.setTop (mkF m 176 #[iv p1, iv p2, iv p3, iv p4, iv p5, iv p6, iv 3, iv c0, iv c1, iv c2, rv b712, rv b740, iv 1, iv 0, rv b795, iv 1, uu, uu, uu, uu] [.int 1, .ref b795])) _
          refine XS.iload X802.here hx rfl (hb hby at_176) rfl ?_
          show Steps _ _ _ (T802.setTop (mkF m 178 _ [.int p5, .int 1, .ref b795])) _
          refine XS.iconst X802.here hx rfl (hb hby at_178) ?_
          show Steps _ _ _ (T802.setTop (mkF m 179 _ [.int 1, .int p5, .int 1, .ref b795])) _
          refine XS.iadd X802.here hx rfl (hb hby at_179) rfl ?_
          show Steps _ _ _ (T802.setTop (mkF m 180 _ [.int (p5 + (1 : Int32)), .int 1, .ref b795])) _
          refine st809 _ ?_
          show Steps _ _ _ (T809.setTop (mkF m 181 #[iv p1, iv p2, iv p3, iv p4, iv p5, iv p6, iv 3, iv c0, iv c1, iv c2, rv b712, rv b740, iv 1, iv 0, rv b795, iv 1, uu, uu, uu, uu] [])) _
          refine XS.iload X809.here hx rfl (hb hby at_181) rfl ?_
          show Steps _ _ _ (T809.setTop (mkF m 183 _ [.int 1])) _
          refine XS.iconst X809.here hx rfl (hb hby at_183) ?_
          show Steps _ _ _ (T809.setTop (mkF m 184 _ [.int 1, .int 1])) _
          refine XS.iadd X809.here hx rfl (hb hby at_184) rfl ?_
          show Steps _ _ _ (T809.setTop (mkF m 185 _ [.int 2])) _
          refine XS.istore X809.here hx rfl (hb hby at_185) rfl (l' := #[iv p1, iv p2, iv p3, iv p4, iv p5, iv p6, iv 3, iv c0, iv c1, iv c2, rv b712, rv b740, iv 1, iv 0, rv b795, iv 2, uu, uu, uu, uu]) rfl ?_
          show Steps _ _ _ (T809.setTop (mkF m 187 _ [])) _
          refine XS.iload X809.here hx rfl (hb hby at_187) rfl ?_
          show Steps _ _ _ (T809.setTop (mkF m 189 _ [.int 0])) _
          refine XS.ifYes X809.here hx rfl (pc0 := 189) (pc' := 207) rfl (hb hby at_189) rfl ((if0 _ _).trans (teq (rfl : (0 : Int32) = (0 : Int32))).1) (by decide) (by decide) ?_
          exact kk
        have f816 := (((SX.ext E795).wr W802 (Nat.le_of_eq g795.symm)).wr W809 (Nat.le_of_eq g795.symm))
        obtain ⟨s₂, o, t1, t2, t3, t4⟩ := tail2 s.vm T809 h809 _ _ (3 : Int32) (1 : Int32) (0 : Int32) b712 b740 b795 k795 ([c0, c1, c2] : List Int32) (fun i => ([0, 1, 3] : List Nat).getD i 0) (p5 + (1 : Int32)) (X809.more (by decide) (by decide)) e809 N809 Z812 O813 hS0 hk814 hZ hown CR810 f816.now V809 M (congrArg (fun z => [Value.int z, Value.int (p5 + (1 : Int32))]) (Int32.add_zero p5))
        exact ⟨s₂, o, pre0 _ (Gn _ (G354 _ (G748 _ (G757 _ (G758 _ (GE785 _ (G791 _ (G794 _ (G815 _ (t1)))))))))), t2, t3, t4⟩
      · obtain ⟨TE817, lE817, XE817, eE817, NE817, GE817⟩ : ∃ (TE : State) (lE : List Loc), Stand p l e room_1 (s.setVm s.vm) m #[(.int p1), (.int p2), (.int p3), (.int p4), (.int p5), (.int p6)] below meth c TE lE 4 19 ∧ TE.heap = T751.heap ∧ Fr n0 lE ∧ (∀ tgt, Steps p.tables e below (TE.setTop (mkF m 139 #[iv p1, iv p2, iv p3, iv p4, iv p5, iv p6, iv 3, iv c0, iv c1, iv c2, rv b712, rv b740, iv 1, uu, uu, uu, uu, uu, uu, uu] [.int 1])) tgt → Steps p.tables e below (TE785.setTop (mkF m 118 #[iv p1, iv p2, iv p3, iv p4, iv p5, iv p6, iv 3, iv c0, iv c1, iv c2, rv b712, rv b740, iv 1, uu, uu, uu, uu, uu, uu, uu] [])) tgt) := by
          by_cases hh : own_hi c1
          · obtain ⟨_, _, ⟨T818, L818, k818, n818⟩, -, X818, ⟨Lc818, hQ818, l818, y818, z818⟩, st818⟩ := Jvm.LawKit.callS XE785 hx (y := (⟨"com/example/shush/shush/OccurrenceMatchedPinLaw", "hi", "(C)Z"⟩ : MethodName)) hown (mvT hZ (W 157 rfl)) (mvT hZ (W 158 rfl)) (mvT hZ (W 3 rfl)) (mvT hZ (W 159 rfl)) (by decide) (backOf (W := 0) (rm_hi1 l Z a0 hw [] c1 T751.heap n0 Z754 hh) hZ (W 159 rfl) (W 3 rfl) (by decide) (by decide)) (g := (mkF m 120 #[iv p1, iv p2, iv p3, iv p4, iv p5, iv p6, iv 3, iv c0, iv c1, iv c2, rv b712, rv b740, iv 1, uu, uu, uu, uu, uu, uu, uu] [.int c1])) rfl (by rw [hml]; rfl) (argsL := [.int c1]) (rest := []) (lenOf own_pd_21 rfl) rfl own_wt (hb hby at_120) (fun _ _ => ⟨rfl, eE785, (by decide : 4 + 0 ≤ _), (by decide : 19 + 0 ≤ _)⟩)
            dsimp only [Pt.U, Pt.locs, Pt.cells, Pt.slots] at X818 l818 y818 z818 st818 hQ818
            subst l818 y818 z818
            obtain ⟨rfl, Nq818, e818⟩ := hQ818
            have N818 := Fr.app NE785 Nq818
            obtain ⟨_, _, ⟨T819, L819, k819, n819⟩, -, X819, ⟨Lc819, hQ819, l819, y819, z819⟩, st819⟩ := Jvm.LawKit.callS X818 hx (y := (⟨"com/example/shush/shush/OccurrenceMatchedPinLaw", "lo", "(C)Z"⟩ : MethodName)) hown (mvT hZ (W 179 rfl)) (mvT hZ (W 180 rfl)) (mvT hZ (W 3 rfl)) (mvT hZ (W 181 rfl)) (by decide) (backOf (W := 0) (rm_lo0 l Z a0 hw [] c2 T751.heap n0 Z754 (fun q => hP1 ⟨hh, q⟩)) hZ (W 181 rfl) (W 3 rfl) (by decide) (by decide)) (g := (mkF m 128 #[iv p1, iv p2, iv p3, iv p4, iv p5, iv p6, iv 3, iv c0, iv c1, iv c2, rv b712, rv b740, iv 1, uu, uu, uu, uu, uu, uu, uu] [.int c2])) rfl (by rw [hml]; rfl) (argsL := [.int c2]) (rest := []) (lenOf own_pd_21 rfl) rfl own_wt (hb hby at_128) (fun _ _ => ⟨rfl, e818, (by decide : 4 + 0 ≤ _), (by decide : 19 + 0 ≤ _)⟩)
            dsimp only [Pt.U, Pt.locs, Pt.cells, Pt.slots] at X819 l819 y819 z819 st819 hQ819
            subst l819 y819 z819
            obtain ⟨rfl, Nq819, e819⟩ := hQ819
            have N819 := Fr.app N818 Nq819
            have G820 : ∀ tq, Steps p.tables e below (T819.setTop (mkF m 139 #[iv p1, iv p2, iv p3, iv p4, iv p5, iv p6, iv 3, iv c0, iv c1, iv c2, rv b712, rv b740, iv 1, uu, uu, uu, uu, uu, uu, uu] [.int 1])) tq → Steps p.tables e below (TE785.setTop (mkF m 118 #[iv p1, iv p2, iv p3, iv p4, iv p5, iv p6, iv 3, iv c0, iv c1, iv c2, rv b712, rv b740, iv 1, uu, uu, uu, uu, uu, uu, uu] [])) tq := by
              intro tq kk
              show Steps _ _ _ (TE785.setTop (mkF m 118 #[iv p1, iv p2, iv p3, iv p4, iv p5, iv p6, iv 3, iv c0, iv c1, iv c2, rv b712, rv b740, iv 1, uu, uu, uu, uu, uu, uu, uu] [])) _
              refine XS.iload XE785.here hx rfl (hb hby at_118) rfl ?_
              show Steps _ _ _ (TE785.setTop (mkF m 120 _ [.int c1])) _
              refine st818 _ ?_
              show Steps _ _ _ (T818.setTop (mkF m 123 #[iv p1, iv p2, iv p3, iv p4, iv p5, iv p6, iv 3, iv c0, iv c1, iv c2, rv b712, rv b740, iv 1, uu, uu, uu, uu, uu, uu, uu] [.int 1])) _
              refine XS.ifNo X818.here hx rfl (hb hby at_123) rfl ((if0 _ _).trans (feq ((by decide) : ¬ ((1 : Int32) = (0 : Int32)))).1) ?_
              show Steps _ _ _ (T818.setTop (mkF m 126 _ [])) _
              refine XS.iload X818.here hx rfl (hb hby at_126) rfl ?_
              show Steps _ _ _ (T818.setTop (mkF m 128 _ [.int c2])) _
              refine st819 _ ?_
              show Steps _ _ _ (T819.setTop (mkF m 131 #[iv p1, iv p2, iv p3, iv p4, iv p5, iv p6, iv 3, iv c0, iv c1, iv c2, rv b712, rv b740, iv 1, uu, uu, uu, uu, uu, uu, uu] [.int 0])) _
              refine XS.ifNo X819.here hx rfl (hb hby at_131) rfl ((if0 _ _).trans (teq (rfl : (0 : Int32) = (0 : Int32))).2) ?_
              show Steps _ _ _ (T819.setTop (mkF m 134 _ [])) _
              refine XS.iconst X819.here hx rfl (hb hby at_134) ?_
              show Steps _ _ _ (T819.setTop (mkF m 135 _ [.int 1])) _
              refine XS.goto X819.here hx rfl (pc0 := 135) (pc' := 139) rfl (hb hby at_135) (by decide) (by decide) ?_
              exact kk
            exact ⟨T819, _, X819, e819, N819, fun tgt kk => G820 _ kk⟩
          · obtain ⟨_, _, ⟨T821, L821, k821, n821⟩, -, X821, ⟨Lc821, hQ821, l821, y821, z821⟩, st821⟩ := Jvm.LawKit.callS XE785 hx (y := (⟨"com/example/shush/shush/OccurrenceMatchedPinLaw", "hi", "(C)Z"⟩ : MethodName)) hown (mvT hZ (W 157 rfl)) (mvT hZ (W 158 rfl)) (mvT hZ (W 3 rfl)) (mvT hZ (W 159 rfl)) (by decide) (backOf (W := 0) (rm_hi0 l Z a0 hw [] c1 T751.heap n0 Z754 hh) hZ (W 159 rfl) (W 3 rfl) (by decide) (by decide)) (g := (mkF m 120 #[iv p1, iv p2, iv p3, iv p4, iv p5, iv p6, iv 3, iv c0, iv c1, iv c2, rv b712, rv b740, iv 1, uu, uu, uu, uu, uu, uu, uu] [.int c1])) rfl (by rw [hml]; rfl) (argsL := [.int c1]) (rest := []) (lenOf own_pd_21 rfl) rfl own_wt (hb hby at_120) (fun _ _ => ⟨rfl, eE785, (by decide : 4 + 0 ≤ _), (by decide : 19 + 0 ≤ _)⟩)
            dsimp only [Pt.U, Pt.locs, Pt.cells, Pt.slots] at X821 l821 y821 z821 st821 hQ821
            subst l821 y821 z821
            obtain ⟨rfl, Nq821, e821⟩ := hQ821
            have N821 := Fr.app NE785 Nq821
            have G822 : ∀ tq, Steps p.tables e below (T821.setTop (mkF m 139 #[iv p1, iv p2, iv p3, iv p4, iv p5, iv p6, iv 3, iv c0, iv c1, iv c2, rv b712, rv b740, iv 1, uu, uu, uu, uu, uu, uu, uu] [.int 1])) tq → Steps p.tables e below (TE785.setTop (mkF m 118 #[iv p1, iv p2, iv p3, iv p4, iv p5, iv p6, iv 3, iv c0, iv c1, iv c2, rv b712, rv b740, iv 1, uu, uu, uu, uu, uu, uu, uu] [])) tq := by
              intro tq kk
              show Steps _ _ _ (TE785.setTop (mkF m 118 #[iv p1, iv p2, iv p3, iv p4, iv p5, iv p6, iv 3, iv c0, iv c1, iv c2, rv b712, rv b740, iv 1, uu, uu, uu, uu, uu, uu, uu] [])) _
              refine XS.iload XE785.here hx rfl (hb hby at_118) rfl ?_
              show Steps _ _ _ (TE785.setTop (mkF m 120 _ [.int c1])) _
              refine st821 _ ?_
              show Steps _ _ _ (T821.setTop (mkF m 123 #[iv p1, iv p2, iv p3, iv p4, iv p5, iv p6, iv 3, iv c0, iv c1, iv c2, rv b712, rv b740, iv 1, uu, uu, uu, uu, uu, uu, uu] [.int 0])) _
              refine XS.ifYes X821.here hx rfl (pc0 := 123) (pc' := 134) rfl (hb hby at_123) rfl ((if0 _ _).trans (teq (rfl : (0 : Int32) = (0 : Int32))).1) (by decide) (by decide) ?_
              show Steps _ _ _ (T821.setTop (mkF m 134 _ [])) _
              refine XS.iconst X821.here hx rfl (hb hby at_134) ?_
              show Steps _ _ _ (T821.setTop (mkF m 135 _ [.int 1])) _
              refine XS.goto X821.here hx rfl (pc0 := 135) (pc' := 139) rfl (hb hby at_135) (by decide) (by decide) ?_
              exact kk
            exact ⟨T821, _, X821, e821, N821, fun tgt kk => G822 _ kk⟩
        have M : own_cfg l Z n0 ([c0, c1, c2] : List Int32) (fun i => ([0, 1, 2, 3] : List Nat).getD i 0) 3 := by
          refine ⟨(Nat.le_of_ble_eq_true rfl), by decide, (fun _ => rfl), fun h z o t kb V hbd hg => rm_ucn l Z a0 hw [] t (3 : Int32) (3 : Int32) h n0 z (rm_uczG3 l Z a0 hw [] t kb c0 c1 c2 h n0 z o V (hbd c0 (by simp)) (hbd c1 (by simp)) (hbd c2 (by simp)) hP0 hP1 OA OH OL), rfl, rfl, fun i hi => ?_⟩
          rcases (show i = 0 ∨ i = 1 ∨ i = 2 by omega) with rfl | rfl | rfl
          · exact ⟨(Nat.le_of_ble_eq_true rfl), Or.inl ⟨rfl, fun q => hP0 q.2⟩⟩
          · exact ⟨(Nat.le_of_ble_eq_true rfl), Or.inl ⟨rfl, fun q => hP1 q.2⟩⟩
          · exact ⟨(Nat.le_of_ble_eq_true rfl), Or.inl ⟨rfl, fun q => absurd (show 3 < 3 from q.1) (by decide)⟩⟩
        obtain ⟨T823, h823, k823, X823, e823, E823, A823, st823⟩ := newP XE817 hx hZ (W 30 rfl) eE817 (g := (mkF m 142 #[iv p1, iv p2, iv p3, iv p4, iv p5, iv p6, iv 3, iv c0, iv c1, iv c2, rv b712, rv b740, iv 1, iv 1, uu, uu, uu, uu, uu, uu] [.int 3])) rfl (hb hby at_142) rfl (by decide : ¬ ((3 : Int32) < (0 : Int32))) (cap := 3) (by decide) (by decide) (by decide) (by decide)
        obtain ⟨b823, g823⟩ : ∃ z, z = T751.heap.size := ⟨_, rfl⟩
        rw [← g823] at A823 st823
        have g824 : n0 ≤ b823 := Nat.le_trans Z754 (Nat.le_of_eq g823.symm)
        have CR825 := CR752.trans (CHr.ext E823 CR752.1)
        have Z826 : n0 ≤ h823.size := Nat.le_trans Z754 E823.1
        have O827 : Old Z n0 h823 := O755.ext E823
        have hk828 := Nat.le_trans hk756 E823.1
        have V823 : Arv Z h823 b823 k823 .int (3 : Int32) [(.int (0 : Int32)), (.int (0 : Int32)), (.int (0 : Int32))] (.int (0 : Int32)) := (Arv.new A823 (by decide : ¬ ((3 : Int32) < (0 : Int32)))).pad (pad_rep [] (.int (0 : Int32)) 3)
        obtain ⟨cl829, Ar829, aq829, aS829, aN829, aH829, aG829⟩ := id V823
        obtain ⟨T830, h830, X830, e830, W830, st830⟩ := stI X823 hx hZ e823 Ar829 (j := (0 : Int32)) (inb_of aS829 ⟨(by decide), (by decide)⟩) (g := (mkF m 160 #[iv p1, iv p2, iv p3, iv p4, iv p5, iv p6, iv 3, iv c0, iv c1, iv c2, rv b712, rv b740, iv 1, iv 1, rv b823, iv 0, uu, uu, uu, uu] [.int p5, .int 0, .ref b823])) rfl rfl (hb hby at_160)
        have N830 := Fr.snoc X830 NE817 g824
        have V830 : Arv Z h830 b823 k823 .int (3 : Int32) [(.int p5), (.int (0 : Int32)), (.int (0 : Int32))] (.int (0 : Int32)) := Arv.set Ar829 aq829 aS829 aN829 aH829 aG829 rfl W830 0 rfl (Nat.le_of_ble_eq_true rfl)
        have f832 := (Safe.ext E823 CR752.1 (Safe.new (Nat.le_of_eq g823.symm)))
        have CR831 := CR825.trans (CHr.wr W830 f832 CR825.1)
        have Z833 : n0 ≤ h830.size := Nat.le_trans Z826 (Keep.of_wr W830).1
        have O834 : Old Z n0 h830 := O827.wr W830 g824
        have hk835 := Nat.le_trans hk828 (Keep.of_wr W830).1
        obtain ⟨cl836, Ar836, aq836, aS836, aN836, aH836, aG836⟩ := id V830
        obtain ⟨T837, h837, X837, e837, W837, st837⟩ := stI X830 hx hZ e830 Ar836 (j := (1 : Int32)) (inb_of aS836 ⟨(by decide), (by decide)⟩) (g := (mkF m 180 #[iv p1, iv p2, iv p3, iv p4, iv p5, iv p6, iv 3, iv c0, iv c1, iv c2, rv b712, rv b740, iv 1, iv 1, rv b823, iv 1, uu, uu, uu, uu] [.int (p5 + (1 : Int32)), .int 1, .ref b823])) rfl rfl (hb hby at_180)
        have N837 := Fr.snoc X837 N830 g824
        have V837 : Arv Z h837 b823 k823 .int (3 : Int32) [(.int p5), (.int (p5 + (1 : Int32))), (.int (0 : Int32))] (.int (0 : Int32)) := Arv.set Ar836 aq836 aS836 aN836 aH836 aG836 rfl W837 1 rfl (Nat.le_of_ble_eq_true rfl)
        have f839 := ((CHr.wr W830 f832 CR825.1).safe V823.lt f832)
        have CR838 := CR831.trans (CHr.wr W837 f839 CR831.1)
        have Z840 : n0 ≤ h837.size := Nat.le_trans Z833 (Keep.of_wr W837).1
        have O841 : Old Z n0 h837 := O834.wr W837 g824
        have hk842 := Nat.le_trans hk835 (Keep.of_wr W837).1
        obtain ⟨cl843, Ar843, aq843, aS843, aN843, aH843, aG843⟩ := id V837
        obtain ⟨T844, h844, X844, e844, W844, st844⟩ := stI X837 hx hZ e837 Ar843 (j := (2 : Int32)) (inb_of aS843 ⟨(by decide), (by decide)⟩) (g := (mkF m 200 #[iv p1, iv p2, iv p3, iv p4, iv p5, iv p6, iv 3, iv c0, iv c1, iv c2, rv b712, rv b740, iv 1, iv 1, rv b823, iv 2, uu, uu, uu, uu] [.int (p5 + (2 : Int32)), .int 2, .ref b823])) rfl rfl (hb hby at_200)
        have N844 := Fr.snoc X844 N837 g824
        have V844 : Arv Z h844 b823 k823 .int (3 : Int32) [(.int p5), (.int (p5 + (1 : Int32))), (.int (p5 + (2 : Int32)))] (.int (0 : Int32)) := Arv.set Ar843 aq843 aS843 aN843 aH843 aG843 rfl W844 2 rfl (Nat.le_of_ble_eq_true rfl)
        have f846 := (Nat.lt_of_lt_of_le V823.lt (Keep.of_wr W830).1)
        have f847 := ((CHr.wr W837 f839 CR831.1).safe f846 f839)
        have CR845 := CR838.trans (CHr.wr W844 f847 CR838.1)
        have Z848 : n0 ≤ h844.size := Nat.le_trans Z840 (Keep.of_wr W844).1
        have O849 : Old Z n0 h844 := O841.wr W844 g824
        have hk850 := Nat.le_trans hk842 (Keep.of_wr W844).1
        have G851 : ∀ tq, Steps p.tables e below (T844.setTop (mkF m 207 #[iv p1, iv p2, iv p3, iv p4, iv p5, iv p6, iv 3, iv c0, iv c1, iv c2, rv b712, rv b740, iv 1, iv 1, rv b823, iv 3, uu, uu, uu, uu] [])) tq → Steps p.tables e below (TE817.setTop (mkF m 139 #[iv p1, iv p2, iv p3, iv p4, iv p5, iv p6, iv 3, iv c0, iv c1, iv c2, rv b712, rv b740, iv 1, uu, uu, uu, uu, uu, uu, uu] [.int 1])) tq := by
          intro tq kk
          show Steps _ _ _ (TE817.setTop (mkF m 139 #[iv p1, iv p2, iv p3, iv p4, iv p5, iv p6, iv 3, iv c0, iv c1, iv c2, rv b712, rv b740, iv 1, uu, uu, uu, uu, uu, uu, uu] [.int 1])) _
          refine XS.istore XE817.here hx rfl (hb hby at_139) rfl (l' := #[iv p1, iv p2, iv p3, iv p4, iv p5, iv p6, iv 3, iv c0, iv c1, iv c2, rv b712, rv b740, iv 1, iv 1, uu, uu, uu, uu, uu, uu]) rfl ?_
          show Steps _ _ _ (TE817.setTop (mkF m 141 _ [])) _
          refine XS.iconst XE817.here hx rfl (hb hby at_141) ?_
          show Steps _ _ _ (TE817.setTop (mkF m 142 _ [.int 3])) _
          refine st823 _ ?_
          show Steps _ _ _ (T823.setTop (mkF m 144 #[iv p1, iv p2, iv p3, iv p4, iv p5, iv p6, iv 3, iv c0, iv c1, iv c2, rv b712, rv b740, iv 1, iv 1, uu, uu, uu, uu, uu, uu] [.ref b823])) _
          refine XS.astore X823.here hx rfl (hb hby at_144) rfl rfl (l' := #[iv p1, iv p2, iv p3, iv p4, iv p5, iv p6, iv 3, iv c0, iv c1, iv c2, rv b712, rv b740, iv 1, iv 1, rv b823, uu, uu, uu, uu, uu]) rfl ?_
          show Steps _ _ _ (T823.setTop (mkF m 146 _ [])) _
          refine XS.iconst X823.here hx rfl (hb hby at_146) ?_
          show Steps _ _ _ (T823.setTop (mkF m 147 _ [.int 0])) _
          refine XS.istore X823.here hx rfl (hb hby at_147) rfl (l' := #[iv p1, iv p2, iv p3, iv p4, iv p5, iv p6, iv 3, iv c0, iv c1, iv c2, rv b712, rv b740, iv 1, iv 1, rv b823, iv 0, uu, uu, uu, uu]) rfl ?_
          show Steps _ _ _ (T823.setTop (mkF m 149 _ [])) _
          refine XS.iload X823.here hx rfl (hb hby at_149) rfl ?_
          show Steps _ _ _ (T823.setTop (mkF m 151 _ [.int 3])) _
          refine XS.ifNo X823.here hx rfl (hb hby at_151) rfl ((if0 _ _).trans (tlt ((by decide) : (0 : Int32) < (3 : Int32))).2.2.2) ?_
          show Steps _ _ _ (T823.setTop (mkF m 154 _ [])) _
          refine XS.aload X823.here hx rfl (hb hby at_154) rfl rfl ?_
          show Steps _ _ _ (T823.setTop (mkF m 156 _ [.ref b823])) _
          refine XS.iload X823.here hx rfl (hb hby at_156) rfl ?_
          show Steps _ _ _ (T823.setTop (mkF m 158 _ [.int 0, .ref b823])) _
          refine XS.iload X823.here hx rfl (hb hby at_158) rfl ?_
          show Steps _ _ _ (T823.setTop (mkF m 160 #[iv p1, iv p2, iv p3, iv p4, iv p5, iv p6, iv 3, iv c0, iv c1, iv c2, rv b712, rv b740, iv 1, iv 1, rv b823, iv 0, uu, uu, uu, uu] [.int p5, .int 0, .ref b823])) _
          refine st830 _ ?_
          show Steps _ _ _ (T830.setTop (mkF m 161 #[iv p1, iv p2, iv p3, iv p4, iv p5, iv p6, iv 3, iv c0, iv c1, iv c2, rv b712, rv b740, iv 1, iv 1, rv b823, iv 0, uu, uu, uu, uu] [])) _
          refine XS.iload X830.here hx rfl (hb hby at_161) rfl ?_
          show Steps _ _ _ (T830.setTop (mkF m 163 _ [.int 0])) _
          refine XS.iconst X830.here hx rfl (hb hby at_163) ?_
          show Steps _ _ _ (T830.setTop (mkF m 164 _ [.int 1, .int 0])) _
          refine XS.iadd X830.here hx rfl (hb hby at_164) rfl ?_
          show Steps _ _ _ (T830.setTop (mkF m 165 _ [.int 1])) _
          refine XS.istore X830.here hx rfl (hb hby at_165) rfl (l' := #[iv p1, iv p2, iv p3, iv p4, iv p5, iv p6, iv 3, iv c0, iv c1, iv c2, rv b712, rv b740, iv 1, iv 1, rv b823, iv 1, uu, uu, uu, uu]) rfl ?_
          show Steps _ _ _ (T830.setTop (mkF m 167 _ [])) _
          refine XS.iload X830.here hx rfl (hb hby at_167) rfl ?_
          show Steps _ _ _ (T830.setTop (mkF m 169 _ [.int 1])) _
          refine XS.ifNo X830.here hx rfl (hb hby at_169) rfl ((if0 _ _).trans (feq ((by decide) : ¬ ((1 : Int32) = (0 : Int32)))).1) ?_
          show Steps _ _ _ (T830.setTop (mkF m 172 _ [])) _
          refine XS.aload X830.here hx rfl (hb hby at_172) rfl rfl ?_
          show Steps _ _ _ (T830.setTop (mkF m 174 _ [.ref b823])) _
          refine XS.iload X830.here hx rfl (hb hby at_174) rfl ?_
          show Steps _ _ _ (T830.setTop (mkF m 176 #[iv p1, iv p2, iv p3, iv p4, iv p5, iv p6, iv 3, iv c0, iv c1, iv c2, rv b712, rv b740, iv 1, iv 1, rv b823, iv 1, uu, uu, uu, uu] [.int 1, .ref b823])) _
          refine XS.iload X830.here hx rfl (hb hby at_176) rfl ?_
          show Steps _ _ _ (T830.setTop (mkF m 178 _ [.int p5, .int 1, .ref b823])) _
          refine XS.iconst X830.here hx rfl (hb hby at_178) ?_
          show Steps _ _ _ (T830.setTop (mkF m 179 _ [.int 1, .int p5, .int 1, .ref b823])) _
          refine XS.iadd X830.here hx rfl (hb hby at_179) rfl ?_
          show Steps _ _ _ (T830.setTop (mkF m 180 _ [.int (p5 + (1 : Int32)), .int 1, .ref b823])) _
          refine st837 _ ?_
          show Steps _ _ _ (T837.setTop (mkF m 181 #[iv p1, iv p2, iv p3, iv p4, iv p5, iv p6, iv 3, iv c0, iv c1, iv c2, rv b712, rv b740, iv 1, iv 1, rv b823, iv 1, uu, uu, uu, uu] [])) _
          refine XS.iload X837.here hx rfl (hb hby at_181) rfl ?_
          show Steps _ _ _ (T837.setTop (mkF m 183 _ [.int 1])) _
          refine XS.iconst X837.here hx rfl (hb hby at_183) ?_
          show Steps _ _ _ (T837.setTop (mkF m 184 _ [.int 1, .int 1])) _
          refine XS.iadd X837.here hx rfl (hb hby at_184) rfl ?_
          show Steps _ _ _ (T837.setTop (mkF m 185 _ [.int 2])) _
          refine XS.istore X837.here hx rfl (hb hby at_185) rfl (l' := #[iv p1, iv p2, iv p3, iv p4, iv p5, iv p6, iv 3, iv c0, iv c1, iv c2, rv b712, rv b740, iv 1, iv 1, rv b823, iv 2, uu, uu, uu, uu]) rfl ?_
          show Steps _ _ _ (T837.setTop (mkF m 187 _ [])) _
          refine XS.iload X837.here hx rfl (hb hby at_187) rfl ?_
          show Steps _ _ _ (T837.setTop (mkF m 189 _ [.int 1])) _
          refine XS.ifNo X837.here hx rfl (hb hby at_189) rfl ((if0 _ _).trans (feq ((by decide) : ¬ ((1 : Int32) = (0 : Int32)))).1) ?_
          show Steps _ _ _ (T837.setTop (mkF m 192 _ [])) _
          refine XS.aload X837.here hx rfl (hb hby at_192) rfl rfl ?_
          show Steps _ _ _ (T837.setTop (mkF m 194 _ [.ref b823])) _
          refine XS.iload X837.here hx rfl (hb hby at_194) rfl ?_
          show Steps _ _ _ (T837.setTop (mkF m 196 #[iv p1, iv p2, iv p3, iv p4, iv p5, iv p6, iv 3, iv c0, iv c1, iv c2, rv b712, rv b740, iv 1, iv 1, rv b823, iv 2, uu, uu, uu, uu] [.int 2, .ref b823])) _
          refine XS.iload X837.here hx rfl (hb hby at_196) rfl ?_
          show Steps _ _ _ (T837.setTop (mkF m 198 _ [.int p5, .int 2, .ref b823])) _
          refine XS.iconst X837.here hx rfl (hb hby at_198) ?_
          show Steps _ _ _ (T837.setTop (mkF m 199 _ [.int 2, .int p5, .int 2, .ref b823])) _
          refine XS.iadd X837.here hx rfl (hb hby at_199) rfl ?_
          show Steps _ _ _ (T837.setTop (mkF m 200 _ [.int (p5 + (2 : Int32)), .int 2, .ref b823])) _
          refine st844 _ ?_
          show Steps _ _ _ (T844.setTop (mkF m 201 #[iv p1, iv p2, iv p3, iv p4, iv p5, iv p6, iv 3, iv c0, iv c1, iv c2, rv b712, rv b740, iv 1, iv 1, rv b823, iv 2, uu, uu, uu, uu] [])) _
          refine XS.iload X844.here hx rfl (hb hby at_201) rfl ?_
          show Steps _ _ _ (T844.setTop (mkF m 203 _ [.int 2])) _
          refine XS.iconst X844.here hx rfl (hb hby at_203) ?_
          show Steps _ _ _ (T844.setTop (mkF m 204 _ [.int 1, .int 2])) _
          refine XS.iadd X844.here hx rfl (hb hby at_204) rfl ?_
          show Steps _ _ _ (T844.setTop (mkF m 205 _ [.int 3])) _
          refine XS.istore X844.here hx rfl (hb hby at_205) rfl (l' := #[iv p1, iv p2, iv p3, iv p4, iv p5, iv p6, iv 3, iv c0, iv c1, iv c2, rv b712, rv b740, iv 1, iv 1, rv b823, iv 3, uu, uu, uu, uu]) rfl ?_
          exact kk
        have f852 := ((((SX.ext E823).wr W830 (Nat.le_of_eq g823.symm)).wr W837 (Nat.le_of_eq g823.symm)).wr W844 (Nat.le_of_eq g823.symm))
        obtain ⟨s₂, o, t1, t2, t3, t4⟩ := tail3 s.vm T844 h844 _ _ (3 : Int32) (1 : Int32) (1 : Int32) b712 b740 b823 k823 ([c0, c1, c2] : List Int32) (fun i => ([0, 1, 2, 3] : List Nat).getD i 0) (p5 + (1 : Int32)) (p5 + (2 : Int32)) (X844.more (by decide) (by decide)) e844 N844 Z848 O849 hS0 hk850 hZ hown CR845 f852.now V844 M (congrArg (fun z => [Value.int z, Value.int (p5 + (1 : Int32)), Value.int (p5 + (2 : Int32))]) (Int32.add_zero p5))
        exact ⟨s₂, o, pre0 _ (Gn _ (G354 _ (G748 _ (G757 _ (G758 _ (GE785 _ (G791 _ (GE817 _ (G851 _ (t1)))))))))), t2, t3, t4⟩
set_option maxRecDepth 65536 in
set_option maxHeartbeats 40000000 in
theorem comes_1 {Post : Tables → Env → Array Value → State → Outcome → State → Prop} (hpost : ∀ tb e args s v u, (limb_1_1.after args s (.returned v) u = true ∧ limb_1_2.after args s (.returned v) u = true ∧ True) → ReturnedEndW s (.returned v) u (Jvm.fieldLocs frame_1_writes args s ++ Jvm.arrayLocs frame_1_arrays args s ++ Jvm.staticLocs frame_1_statics s) 32 2240 → Post tb e args s (.returned v) u) :
    ArmFor flags0 classFile x code maxLocals ret World_1 tables_1 room_1 Calls_1 rest_1 Pre_1 Post := by
  intro l hfl _ _ p e ha hc hk s m args below hf hA hF happ hP
  obtain ⟨hcalls, hrest, hpre⟩ := hP
  obtain ⟨-, -, -, hnamed, -, -, -, hat⟩ := (Spec.applies_iff hf).mp happ
  obtain ⟨hg, hn⟩ := and_e (Cond.before_iff.mp (show (Jvm.Cond.and given_1 narrow_1).before args s = true from hpre))
  obtain ⟨hcount, hg0⟩ := and_e hg
  obtain ⟨hi0, hg1⟩ := and_e hg0
  obtain ⟨hi1, hg2⟩ := and_e hg1
  obtain ⟨hi2, hg3⟩ := and_e hg2
  obtain ⟨hi3, hg4⟩ := and_e hg3
  obtain ⟨hi4, hg5⟩ := and_e hg4
  have hi5 := hg5
  obtain ⟨w0, w1, w2, w3, w4, w5, rfl⟩ : ∃ w0 w1 w2 w3 w4 w5 : Value, args = #[w0, w1, w2, w3, w4, w5] := by
    have hs : args.size = 6 := by simpa [Cond.value, given_1] using hcount
    obtain ⟨L⟩ := args
    match L, hs with
    | [w0, w1, w2, w3, w4, w5], _ => exact ⟨w0, w1, w2, w3, w4, w5, rfl⟩
  have hw := fun d (hd : d ∈ tables_1) => atoms_spec (ws := Jvm.Cond.code x code maxLocals ret :: tables_1) hat d (List.mem_cons_of_mem _ hd)
  obtain ⟨hsets, hown0⟩ := atoms_of _ (rest_1_c_eq ▸ (show rest_1_c.before _ s = true from hrest))
  obtain ⟨i0, ei0⟩ := is_v hi0
  obtain rfl : w0 = (.int i0) := Option.some.inj ei0
  obtain ⟨i1, ei1⟩ := is_v hi1
  obtain rfl : w1 = (.int i1) := Option.some.inj ei1
  obtain ⟨i2, ei2⟩ := is_v hi2
  obtain rfl : w2 = (.int i2) := Option.some.inj ei2
  obtain ⟨i3, ei3⟩ := is_v hi3
  obtain rfl : w3 = (.int i3) := Option.some.inj ei3
  obtain ⟨i4, ei4⟩ := is_v hi4
  obtain rfl : w4 = (.int i4) := Option.some.inj ei4
  obtain ⟨i5, ei5⟩ := is_v hi5
  obtain rfl : w5 = (.int i5) := Option.some.inj ei5
  have n3 := not_v (Cond.before_iff.mp (hsets _ (List.mem_of_getElem? (i := 2) rfl)))
  obtain ⟨iC, eC⟩ := is_v (Cond.before_iff.mp (hsets _ (List.mem_of_getElem? (i := 1) rfl)))
  have SC : Sta s s.heap "java/lang/String" "COMPACT_STRINGS" "Z" (.int iC) := Sta.start eC (Or.inl (hsets _ (List.mem_of_getElem? (i := 0) rfl)))
  have nC : ¬ (iC = (0 : Int32)) := gotF (Cond.eq_ints eC (Term.int_eval (0))) n3
  obtain ⟨vF, eF, rF⟩ := isR_v (Cond.before_iff.mp (hsets _ (List.mem_of_getElem? (i := 8) rfl)))
  have SF : Sta s s.heap "jdk/internal/util/Preconditions" "SIOOBE_FORMATTER" "Ljava/util/function/BiFunction;" vF := Sta.start eF (Or.inl (hsets _ (List.mem_of_getElem? (i := 7) rfl)))
  have OA : Sta s s.heap "java/lang/StringUTF16" "$assertionsDisabled" "Z" (.int (1 : Int32)) := own_staI (hsets _ (List.mem_of_getElem? (i := 12) rfl)) (hsets _ (List.mem_of_getElem? (i := 11) rfl))
  have OH : Sta s s.heap "java/lang/StringUTF16" "HI_BYTE_SHIFT" "I" (.int (0 : Int32)) := own_staI (hsets _ (List.mem_of_getElem? (i := 15) rfl)) (hsets _ (List.mem_of_getElem? (i := 14) rfl))
  have OL : Sta s s.heap "java/lang/StringUTF16" "LO_BYTE_SHIFT" "I" (.int (8 : Int32)) := own_staI (hsets _ (List.mem_of_getElem? (i := 18) rfl)) (hsets _ (List.mem_of_getElem? (i := 17) rfl))
  have hcw : Jvm.Lit.compactW.before _ s = true := hsets _ (List.mem_of_getElem? (i := 2) rfl)
  have hCH : CHv s own_EL s.vm s.heap := CHv.start (own_EW hw) (fun p hp => hcalls.1 p hp) hcw (own_W hw 23 rfl) (own_W hw 10 rfl)
  obtain ⟨n, o, h1, h2, h3, _, L, rfl, ⟨rfl, N⟩, -, hq⟩ := rm_law l s _ hw tables_1 i0 i1 i2 i3 i4 i5 iC vF s.heap s.heap.size (Nat.le_refl _) (Old.start s) SC nC SF rF OA OH OL p e ha hc hk s m _ below hf ((Spec.applies_iff_loose hf).mp happ).1 ⟨rfl, State.Warmed39.refl s, rfl, hCH, fun x hx => by cases hx⟩ trivial
  refine ⟨n, _, h1, h2, h3, hpost _ _ _ _ _ _ ⟨Cond.after_iff.mpr rfl, Cond.after_iff.mpr (eq_i res_at (Term.int_eval (1)) rfl), trivial⟩ ⟨hq.1, hq.2.1, hq.2.2.1, (hq.2.2.2.sift fun y hy => Or.inr (N y hy)).mono (by decide) (by decide)⟩⟩
theorem main_1_1 : Claimed_1_1 := comes_1 fun _ _ _ _ _ _ h hF => ⟨h.1, hF⟩
theorem main_1_2 : Claimed_1_2 := comes_1 fun _ _ _ _ _ _ h hF => ⟨h.2.1, hF⟩
end Jvm.Pilot.@@N@@
namespace Jvm.Pilot.@@N@@
open Jvm Jvm.ClassFile Sem Op Lib Jvm.Free Jvm.Stand Jvm.Pilot.@@N@@.Jvm.D
/-! MADE BY PROGRAM (witnessworld.py) out of the Statement's table words and the real class files: 22 classes; the members and pool entries that the words name. The judged class is class 1, her method 5. -/
namespace start1
open Jvm.ClassFile
def u (s : String) : CpInfo := .utf8 (stringToUtf16 s)
/-- a pool by its gaps: so many unusable entries, then the entry; so many at the end -/
def gap : Nat → List CpInfo → List CpInfo
  | 0, r => r
  | n + 1, r => .unusable :: gap n r
def poolList (es : List (Nat × CpInfo)) (last : Nat) : List CpInfo := es.foldr (fun e r => gap e.1 (e.2 :: r)) (gap last [])
def pool (es : List (Nat × CpInfo)) (last : Nat) : Array CpInfo := ⟨poolList es last⟩
def fileOf (pool : Array CpInfo) (this : Nat) (attrs : Array Attribute := #[]) (ms : Array MethodInfo := #[]) (fl : Nat := 33) (sup : Nat := 0) (ifs : Array Nat := #[]) (fds : Array FieldInfo := #[]) : ClassFile where
  minorVersion := 0
  majorVersion := 65
  constantPool := pool
  accessFlags := fl
  thisClass := this
  superClass := sup
  interfaces := ifs
  fields := fds
  methods := ms
  attributes := attrs
def plain (name : String) (sup : Option ClassId) : Class where
  name := name
  kind := .ordinary
  loader := none
  accessFlags := 33
  super := sup
  interfaces := #[]
  cf := none
  fields := #[]
  methods := #[]
  instanceTypes := #[]
  staticTypes := #[]
  resolved := #[]
  callSites := []
  init := .initialized
  statics := none
  mirror := none

def pool0 : Array CpInfo := pool [(5, u "<init>"), (0, u "()V"), (1, .class_ 10), (1, u "java/lang/Object")] 113

def k0c0 : Code := { maxStack := 0, maxLocals := 1, code := object_method_1_code, exceptionTable := #[], attributes := #[] }
def k0m0 : Method := { name := "<init>", desc := "()V", sig := { parameters := [], returnType := none }, accessFlags := 1, code := some k0c0 }
/-- java/lang/Object -/
def k0 : Class := { plain "java/lang/Object" none with
  accessFlags := 33
  interfaces := #[]
  cf := some (fileOf pool0 8 #[] #[{ accessFlags := 1, nameIndex := 5, descriptorIndex := 6, attributes := #[] }] 33 0 #[] #[])
  fields := #[]
  methods := #[k0m0]
  instanceTypes := #[]
  staticTypes := #[]
  resolved := Array.replicate 124 none
  statics := none }

def pool1 : Array CpInfo := pool [(2, .class_ 4), (1, u "java/lang/Object"), (0, u "<init>"), (0, u "()V"), (0, .integer 55296), (0, .integer 56320), (0, .integer 65535), (0, .integer 56319), (0, .integer 57343), (0, .integer 2147483647), (0, .methodref 14 15), (0, .class_ 16), (0, .nameAndType 17 18), (0, u "com/example/shush/shush/OccurrenceMatchedPinLaw"), (0, u "draw"), (0, u "(I)C"), (0, .class_ 20), (0, u "java/lang/String"), (0, .methodref 19 22), (0, .nameAndType 5 23), (0, u "([C)V"), (0, .methodref 14 25), (0, .nameAndType 26 27), (0, u "hi"), (0, u "(C)Z"), (0, .methodref 14 29), (0, .nameAndType 30 27), (0, u "lo"), (0, .class_ 32), (0, u "com/example/shush/shush/Occurrence"), (0, .methodref 31 34), (0, .nameAndType 5 35), (0, u "(Ljava/lang/String;II)V"), (0, .methodref 31 37), (0, .nameAndType 38 39), (0, u "matched"), (0, u "()[I"), (0, .methodref 14 41), (0, .nameAndType 42 43), (0, u "same"), (0, u "([I[II)Z"), (3, u "law"), (0, u "(IIIIII)Z")] 6

def k1m0 : Method := { name := "<init>", desc := "()V", sig := { parameters := [], returnType := none }, accessFlags := 1, code := none }
def k1c1 : Code := { maxStack := 3, maxLocals := 3, code := method_2_code, exceptionTable := #[], attributes := #[] }
def k1m1 : Method := { name := "draw", desc := "(I)C", sig := { parameters := [.int], returnType := some .char }, accessFlags := 10, code := some k1c1 }
def k1c2 : Code := { maxStack := 2, maxLocals := 1, code := method_3_code, exceptionTable := #[], attributes := #[] }
def k1m2 : Method := { name := "hi", desc := "(C)Z", sig := { parameters := [.char], returnType := some .boolean }, accessFlags := 10, code := some k1c2 }
def k1c3 : Code := { maxStack := 2, maxLocals := 1, code := method_4_code, exceptionTable := #[], attributes := #[] }
def k1m3 : Method := { name := "lo", desc := "(C)Z", sig := { parameters := [.char], returnType := some .boolean }, accessFlags := 10, code := some k1c3 }
def k1c4 : Code := { maxStack := 3, maxLocals := 3, code := method_5_code, exceptionTable := #[], attributes := #[] }
def k1m4 : Method := { name := "same", desc := "([I[II)Z", sig := { parameters := [(.array .int), (.array .int), .int], returnType := some .boolean }, accessFlags := 10, code := some k1c4 }
def k1c5 : Code := { maxStack := 5, maxLocals := 20, code := code, exceptionTable := #[], attributes := #[] }
def k1m5 : Method := { name := "law", desc := "(IIIIII)Z", sig := { parameters := [.int, .int, .int, .int, .int, .int], returnType := some .boolean }, accessFlags := 9, code := some k1c5 }
/-- com/example/shush/shush/OccurrenceMatchedPinLaw -/
def k1 : Class := { plain "com/example/shush/shush/OccurrenceMatchedPinLaw" (some 0) with
  accessFlags := 49
  interfaces := #[]
  cf := some (fileOf pool1 14 #[] #[{ accessFlags := 1, nameIndex := 5, descriptorIndex := 6, attributes := #[] }, { accessFlags := 10, nameIndex := 17, descriptorIndex := 18, attributes := #[] }, { accessFlags := 10, nameIndex := 26, descriptorIndex := 27, attributes := #[] }, { accessFlags := 10, nameIndex := 30, descriptorIndex := 27, attributes := #[] }, { accessFlags := 10, nameIndex := 42, descriptorIndex := 43, attributes := #[] }, { accessFlags := 9, nameIndex := 47, descriptorIndex := 48, attributes := #[] }] 49 2 #[] #[])
  fields := #[]
  methods := #[k1m0, k1m1, k1m2, k1m3, k1m4, k1m5]
  instanceTypes := #[]
  staticTypes := #[]
  resolved := Array.replicate 55 none
  statics := none }

def pool2 : Array CpInfo := pool [(1, .class_ 2), (0, u "java/io/Serializable"), (0, .class_ 4), (0, u "java/lang/Object")] 2

/-- java/io/Serializable -/
def k2 : Class := { plain "java/io/Serializable" (some 0) with
  accessFlags := 1537
  interfaces := #[]
  cf := some (fileOf pool2 1 #[] #[] 1537 3 #[] #[])
  fields := #[]
  methods := #[]
  instanceTypes := #[]
  staticTypes := #[]
  resolved := Array.replicate 7 none
  statics := none }

def pool3 : Array CpInfo := pool [(1, .class_ 2), (0, u "java/lang/Comparable"), (0, .class_ 4), (0, u "java/lang/Object")] 7

/-- java/lang/Comparable -/
def k3 : Class := { plain "java/lang/Comparable" (some 0) with
  accessFlags := 1537
  interfaces := #[]
  cf := some (fileOf pool3 1 #[] #[] 1537 3 #[] #[])
  fields := #[]
  methods := #[]
  instanceTypes := #[]
  staticTypes := #[]
  resolved := Array.replicate 12 none
  statics := none }

def pool4 : Array CpInfo := pool [(2, .class_ 4), (1, u "java/lang/CharSequence"), (0, u "length"), (0, u "()I"), (38, u "charAt"), (0, u "(I)C"), (0, .class_ 48), (0, u "java/lang/CharSequence$1CodePointIterator"), (10, .class_ 60), (0, u "java/lang/CharSequence$1CharIterator"), (5, .class_ 67), (0, u "java/lang/Object")] 63

def k4m0 : Method := { name := "length", desc := "()I", sig := { parameters := [], returnType := some .int }, accessFlags := 1025, code := none }
def k4m1 : Method := { name := "charAt", desc := "(I)C", sig := { parameters := [.int], returnType := some .char }, accessFlags := 1025, code := none }
/-- java/lang/CharSequence -/
def k4 : Class := { plain "java/lang/CharSequence" (some 0) with
  accessFlags := 1537
  interfaces := #[]
  cf := some (fileOf pool4 2 #[.nestMembers #[47, 59]] #[{ accessFlags := 1025, nameIndex := 5, descriptorIndex := 6, attributes := #[] }, { accessFlags := 1025, nameIndex := 45, descriptorIndex := 46, attributes := #[] }] 1537 66 #[] #[])
  fields := #[]
  methods := #[k4m0, k4m1]
  instanceTypes := #[]
  staticTypes := #[]
  resolved := Array.replicate 131 none
  statics := none }

def pool5 : Array CpInfo := pool [(1, .class_ 2), (0, u "java/lang/constant/Constable"), (0, .class_ 4), (0, u "java/lang/Object")] 6

/-- java/lang/constant/Constable -/
def k5 : Class := { plain "java/lang/constant/Constable" (some 0) with
  accessFlags := 1537
  interfaces := #[]
  cf := some (fileOf pool5 1 #[] #[] 1537 3 #[] #[])
  fields := #[]
  methods := #[]
  instanceTypes := #[]
  staticTypes := #[]
  resolved := Array.replicate 11 none
  statics := none }

def pool6 : Array CpInfo := pool [(1, .class_ 2), (0, u "java/lang/constant/ConstantDesc"), (0, .class_ 4), (0, u "java/lang/Object")] 32

/-- java/lang/constant/ConstantDesc -/
def k6 : Class := { plain "java/lang/constant/ConstantDesc" (some 0) with
  accessFlags := 1537
  interfaces := #[]
  cf := some (fileOf pool6 1 #[] #[] 1537 3 #[] #[])
  fields := #[]
  methods := #[]
  instanceTypes := #[]
  staticTypes := #[]
  resolved := Array.replicate 37 none
  statics := none }

def pool7 : Array CpInfo := pool [(1, .methodref 2 3), (0, .class_ 4), (0, .nameAndType 5 6), (0, u "java/lang/Object"), (0, u "<init>"), (0, u "()V"), (0, .string 8), (0, u ""), (0, .fieldref 10 11), (0, .class_ 12), (0, .nameAndType 13 14), (0, u "java/lang/String"), (0, u "value"), (0, u "[B"), (0, .fieldref 10 16), (0, .nameAndType 17 18), (0, u "coder"), (0, u "B"), (2, u "hash"), (0, u "I"), (2, u "hashIsZero"), (0, u "Z"), (0, .methodref 10 28), (0, .nameAndType 5 29), (0, u "([CIILjava/lang/Void;)V"), (7, u "(III)I"), (0, .fieldref 10 39), (0, .nameAndType 40 26), (0, u "COMPACT_STRINGS"), (1, .class_ 44), (1, u "java/lang/StringUTF16"), (0, u "compress"), (1, .methodref 42 48), (0, .nameAndType 49 50), (0, u "coderFromArrayLen"), (0, u "([BI)B"), (28, .class_ 81), (1, u "java/util/Objects"), (15, u "([BII)I"), (9, .class_ 109), (1, u "java/lang/StringLatin1"), (32, u "()Z"), (34, .methodref 42 178), (0, .nameAndType 45 179), (0, u "([CII)[B"), (154, u "()I"), (0, .methodref 10 336), (0, .nameAndType 17 337), (0, u "()B"), (25, u "([BI)C"), (1, .class_ 367), (1, u "java/lang/Character"), (23, u "(II)V"), (35, u "(I)C"), (64, .methodref 10 493), (0, .nameAndType 494 142), (0, u "isLatin1"), (0, .methodref 107 496), (0, .nameAndType 497 363), (0, u "charAt"), (0, .methodref 42 496), (2, u "checkIndex"), (3, .methodref 10 506), (0, .nameAndType 507 334), (0, u "length"), (3, .methodref 79 512), (0, .nameAndType 513 37), (0, u "checkFromToIndex"), (0, .methodref 42 515), (0, .nameAndType 516 97), (0, u "codePointCount"), (0, .methodref 365 518), (0, .nameAndType 519 520), (0, u "offsetByCodePoints"), (0, u "(Ljava/lang/CharSequence;II)I"), (54, .class_ 576), (0, u "java/lang/CharSequence"), (22, u "CASE_INSENSITIVE_ORDER"), (0, u "Ljava/util/Comparator;"), (35, u "(II)I"), (373, u "([C)V"), (42, .fieldref 1054 1055), (0, .class_ 1056), (0, .nameAndType 1057 1058), (0, u "jdk/internal/util/Preconditions"), (0, u "SIOOBE_FORMATTER"), (0, u "Ljava/util/function/BiFunction;"), (0, .methodref 1054 1060), (0, .nameAndType 501 1061), (0, u "(IILjava/util/function/BiFunction;)I"), (39, u "serialPersistentFields"), (0, u "[Ljava/io/ObjectStreamField;"), (0, .class_ 1104), (0, u "java/lang/String$CaseInsensitiveComparator"), (1, .class_ 1107), (0, u "java/io/Serializable"), (0, .class_ 1109), (0, u "java/lang/Comparable"), (0, .class_ 1111), (0, u "java/lang/constant/Constable"), (0, .class_ 1113), (0, u "java/lang/constant/ConstantDesc"), (2, u "serialVersionUID"), (0, u "J"), (3, u "REPL"), (0, u "C"), (2, u "LATIN1"), (1, u "UTF16")] 323

def k7m0 : Method := { name := "<init>", desc := "()V", sig := { parameters := [], returnType := none }, accessFlags := 1, code := none }
def k7c1 : Code := { maxStack := 5, maxLocals := 2, code := jdk_42_method_3_code, exceptionTable := #[], attributes := #[] }
def k7m1 : Method := { name := "<init>", desc := "([C)V", sig := { parameters := [(.array .char)], returnType := none }, accessFlags := 1, code := some k7c1 }
def k7c2 : Code := { maxStack := 2, maxLocals := 1, code := jdk_42_method_54_code, exceptionTable := #[], attributes := #[] }
def k7m2 : Method := { name := "length", desc := "()I", sig := { parameters := [], returnType := some .int }, accessFlags := 1, code := some k7c2 }
def k7c3 : Code := { maxStack := 2, maxLocals := 2, code := jdk_42_method_56_code, exceptionTable := #[], attributes := #[] }
def k7m3 : Method := { name := "charAt", desc := "(I)C", sig := { parameters := [.int], returnType := some .char }, accessFlags := 1, code := some k7c3 }
def k7c4 : Code := { maxStack := 3, maxLocals := 3, code := jdk_42_method_59_code, exceptionTable := #[], attributes := #[] }
def k7m4 : Method := { name := "codePointCount", desc := "(II)I", sig := { parameters := [.int, .int], returnType := some .int }, accessFlags := 1, code := some k7c4 }
def k7c5 : Code := { maxStack := 3, maxLocals := 3, code := jdk_42_method_60_code, exceptionTable := #[], attributes := #[] }
def k7m5 : Method := { name := "offsetByCodePoints", desc := "(II)I", sig := { parameters := [.int, .int], returnType := some .int }, accessFlags := 1, code := some k7c5 }
def k7c6 : Code := { maxStack := 4, maxLocals := 6, code := jdk_42_method_149_code, exceptionTable := #[], attributes := #[] }
def k7m6 : Method := { name := "<init>", desc := "([CIILjava/lang/Void;)V", sig := { parameters := [(.array .char), .int, .int, (.object "java/lang/Void")], returnType := none }, accessFlags := 2, code := some k7c6 }
def k7c7 : Code := { maxStack := 1, maxLocals := 1, code := jdk_42_method_152_code, exceptionTable := #[], attributes := #[] }
def k7m7 : Method := { name := "coder", desc := "()B", sig := { parameters := [], returnType := some .byte }, accessFlags := 0, code := some k7c7 }
def k7c8 : Code := { maxStack := 1, maxLocals := 1, code := jdk_42_method_154_code, exceptionTable := #[], attributes := #[] }
def k7m8 : Method := { name := "isLatin1", desc := "()Z", sig := { parameters := [], returnType := some .boolean }, accessFlags := 0, code := some k7c8 }
def k7c9 : Code := { maxStack := 3, maxLocals := 2, code := jdk_42_method_155_code, exceptionTable := #[], attributes := #[] }
def k7m9 : Method := { name := "checkIndex", desc := "(II)V", sig := { parameters := [.int, .int], returnType := none }, accessFlags := 8, code := some k7c9 }
/-- java/lang/String -/
def k7 : Class := { plain "java/lang/String" (some 0) with
  accessFlags := 49
  interfaces := #[2, 3, 4, 5, 6]
  cf := some (fileOf pool7 10 #[.nestMembers #[1103]] #[{ accessFlags := 1, nameIndex := 5, descriptorIndex := 6, attributes := #[] }, { accessFlags := 1, nameIndex := 5, descriptorIndex := 1010, attributes := #[] }, { accessFlags := 1, nameIndex := 507, descriptorIndex := 334, attributes := #[] }, { accessFlags := 1, nameIndex := 497, descriptorIndex := 427, attributes := #[] }, { accessFlags := 1, nameIndex := 516, descriptorIndex := 636, attributes := #[] }, { accessFlags := 1, nameIndex := 519, descriptorIndex := 636, attributes := #[] }, { accessFlags := 2, nameIndex := 5, descriptorIndex := 29, attributes := #[] }, { accessFlags := 0, nameIndex := 17, descriptorIndex := 337, attributes := #[] }, { accessFlags := 0, nameIndex := 494, descriptorIndex := 142, attributes := #[] }, { accessFlags := 8, nameIndex := 501, descriptorIndex := 391, attributes := #[] }] 49 2 #[1106, 1108, 575, 1110, 1112] #[{ accessFlags := 18, nameIndex := 13, descriptorIndex := 14, attributes := #[] }, { accessFlags := 18, nameIndex := 17, descriptorIndex := 18, attributes := #[] }, { accessFlags := 2, nameIndex := 21, descriptorIndex := 22, attributes := #[] }, { accessFlags := 2, nameIndex := 25, descriptorIndex := 26, attributes := #[] }, { accessFlags := 26, nameIndex := 1116, descriptorIndex := 1117, attributes := #[] }, { accessFlags := 24, nameIndex := 40, descriptorIndex := 26, attributes := #[] }, { accessFlags := 26, nameIndex := 1101, descriptorIndex := 1102, attributes := #[] }, { accessFlags := 26, nameIndex := 1121, descriptorIndex := 1122, attributes := #[] }, { accessFlags := 25, nameIndex := 599, descriptorIndex := 600, attributes := #[] }, { accessFlags := 24, nameIndex := 1125, descriptorIndex := 18, attributes := #[] }, { accessFlags := 24, nameIndex := 1127, descriptorIndex := 18, attributes := #[] }])
  fields := #[{ name := "value", type := (.array .byte), accessFlags := 18, slot := 0, constantValue := 0 }, { name := "coder", type := .byte, accessFlags := 18, slot := 1, constantValue := 0 }, { name := "hash", type := .int, accessFlags := 2, slot := 2, constantValue := 0 }, { name := "hashIsZero", type := .boolean, accessFlags := 2, slot := 3, constantValue := 0 }, { name := "serialVersionUID", type := .long, accessFlags := 26, slot := 0, constantValue := 0 }, { name := "COMPACT_STRINGS", type := .boolean, accessFlags := 24, slot := 1, constantValue := 0 }, { name := "serialPersistentFields", type := (.array (.object "java/io/ObjectStreamField")), accessFlags := 26, slot := 2, constantValue := 0 }, { name := "REPL", type := .char, accessFlags := 26, slot := 3, constantValue := 0 }, { name := "CASE_INSENSITIVE_ORDER", type := (.object "java/util/Comparator"), accessFlags := 25, slot := 4, constantValue := 0 }, { name := "LATIN1", type := .byte, accessFlags := 24, slot := 5, constantValue := 0 }, { name := "UTF16", type := .byte, accessFlags := 24, slot := 6, constantValue := 0 }]
  methods := #[k7m0, k7m1, k7m2, k7m3, k7m4, k7m5, k7m6, k7m7, k7m8, k7m9]
  instanceTypes := #[(.array .byte), .byte, .int, .boolean]
  staticTypes := #[.long, .boolean, (.array (.object "java/io/ObjectStreamField")), .char, (.object "java/util/Comparator"), .byte, .byte]
  resolved := Array.replicate 1451 none
  statics := some 0 }

def pool8 : Array CpInfo := pool [(1, .methodref 2 3), (0, .class_ 4), (0, .nameAndType 5 6), (0, u "java/lang/Object"), (0, u "<init>"), (0, u "()V"), (0, .string 8), (0, u "word"), (0, .methodref 10 11), (0, .class_ 12), (0, .nameAndType 13 14), (0, u "java/util/Objects"), (0, u "requireNonNull"), (0, u "(Ljava/lang/Object;Ljava/lang/String;)Ljava/lang/Object;"), (0, .class_ 16), (0, u "java/lang/String"), (0, .fieldref 18 19), (0, .class_ 20), (0, .nameAndType 8 21), (0, u "com/example/shush/shush/Occurrence"), (0, u "Ljava/lang/String;"), (0, .fieldref 18 23), (0, .nameAndType 24 25), (0, u "begin"), (0, u "I"), (0, .fieldref 18 27), (0, .nameAndType 28 25), (0, u "end"), (0, .fieldref 18 30), (0, .nameAndType 31 32), (0, u "matched"), (0, u "[I"), (0, .methodref 15 34), (0, .nameAndType 35 36), (0, u "length"), (0, u "()I"), (0, .methodref 15 38), (0, .nameAndType 39 40), (0, u "codePointCount"), (0, u "(II)I"), (0, .methodref 15 42), (0, .nameAndType 43 40), (0, u "offsetByCodePoints"), (11, u "()[I"), (26, u "(Ljava/lang/String;II)V")] 25

def k8c0 : Code := { maxStack := 3, maxLocals := 4, code := prog_16_method_1_code, exceptionTable := #[], attributes := #[] }
def k8m0 : Method := { name := "<init>", desc := "(Ljava/lang/String;II)V", sig := { parameters := [(.object "java/lang/String"), .int, .int], returnType := none }, accessFlags := 1, code := some k8c0 }
def k8c1 : Code := { maxStack := 4, maxLocals := 4, code := prog_16_method_6_code, exceptionTable := #[], attributes := #[] }
def k8m1 : Method := { name := "matched", desc := "()[I", sig := { parameters := [], returnType := some (.array .int) }, accessFlags := 1, code := some k8c1 }
/-- com/example/shush/shush/Occurrence -/
def k8 : Class := { plain "com/example/shush/shush/Occurrence" (some 0) with
  accessFlags := 33
  interfaces := #[]
  cf := some (fileOf pool8 18 #[] #[{ accessFlags := 1, nameIndex := 5, descriptorIndex := 82, attributes := #[] }, { accessFlags := 1, nameIndex := 31, descriptorIndex := 55, attributes := #[] }] 33 2 #[] #[{ accessFlags := 18, nameIndex := 8, descriptorIndex := 21, attributes := #[] }, { accessFlags := 18, nameIndex := 24, descriptorIndex := 25, attributes := #[] }, { accessFlags := 18, nameIndex := 28, descriptorIndex := 25, attributes := #[] }, { accessFlags := 18, nameIndex := 31, descriptorIndex := 32, attributes := #[] }])
  fields := #[{ name := "word", type := (.object "java/lang/String"), accessFlags := 18, slot := 0, constantValue := 0 }, { name := "begin", type := .int, accessFlags := 18, slot := 1, constantValue := 0 }, { name := "end", type := .int, accessFlags := 18, slot := 2, constantValue := 0 }, { name := "matched", type := (.array .int), accessFlags := 18, slot := 3, constantValue := 0 }]
  methods := #[k8m0, k8m1]
  instanceTypes := #[(.object "java/lang/String"), .int, .int, (.array .int)]
  staticTypes := #[]
  resolved := Array.replicate 108 none
  statics := none }

def pool9 : Array CpInfo := pool [(2, .class_ 4), (1, u "java/lang/Object"), (0, u "<init>"), (0, u "()V"), (35, .class_ 44), (1, u "java/util/Objects"), (0, u "requireNonNull"), (48, u "(Ljava/lang/Object;Ljava/lang/String;)Ljava/lang/Object;"), (11, .class_ 108), (1, u "jdk/internal/util/Preconditions"), (2, .methodref 106 112), (0, .nameAndType 113 114), (0, u "checkFromToIndex"), (0, u "(IIILjava/util/function/BiFunction;)I"), (60, u "(III)I")] 8

def k9m0 : Method := { name := "<init>", desc := "()V", sig := { parameters := [], returnType := none }, accessFlags := 2, code := none }
def k9c1 : Code := { maxStack := 3, maxLocals := 2, code := jdk_31_method_11_code, exceptionTable := #[], attributes := #[] }
def k9m1 : Method := { name := "requireNonNull", desc := "(Ljava/lang/Object;Ljava/lang/String;)Ljava/lang/Object;", sig := { parameters := [(.object "java/lang/Object"), (.object "java/lang/String")], returnType := some (.object "java/lang/Object") }, accessFlags := 9, code := some k9c1 }
def k9c2 : Code := { maxStack := 4, maxLocals := 3, code := jdk_31_method_18_code, exceptionTable := #[], attributes := #[] }
def k9m2 : Method := { name := "checkFromToIndex", desc := "(III)I", sig := { parameters := [.int, .int, .int], returnType := some .int }, accessFlags := 9, code := some k9c2 }
/-- java/util/Objects -/
def k9 : Class := { plain "java/util/Objects" (some 0) with
  accessFlags := 49
  interfaces := #[]
  cf := some (fileOf pool9 42 #[] #[{ accessFlags := 2, nameIndex := 5, descriptorIndex := 6, attributes := #[] }, { accessFlags := 9, nameIndex := 45, descriptorIndex := 94, attributes := #[] }, { accessFlags := 9, nameIndex := 113, descriptorIndex := 175, attributes := #[] }] 49 2 #[] #[])
  fields := #[]
  methods := #[k9m0, k9m1, k9m2]
  instanceTypes := #[]
  staticTypes := #[]
  resolved := Array.replicate 184 none
  statics := none }

def pool10 : Array CpInfo := pool [(2, .class_ 4), (1, u "java/lang/Object"), (0, u "<init>"), (0, u "()V"), (17, .class_ 26), (1, u "jdk/internal/util/Preconditions"), (6, u "checkIndex"), (13, u "checkFromToIndex"), (7, .class_ 56), (0, u "jdk/internal/util/Preconditions$4"), (57, .class_ 115), (0, u "jdk/internal/util/Preconditions$1"), (7, u "SIOOBE_FORMATTER"), (0, u "Ljava/util/function/BiFunction;"), (0, .class_ 126), (0, u "jdk/internal/util/Preconditions$2"), (3, u "AIOOBE_FORMATTER"), (0, .class_ 132), (0, u "jdk/internal/util/Preconditions$3"), (3, u "IOOBE_FORMATTER"), (41, u "(IILjava/util/function/BiFunction;)I"), (4, u "(IIILjava/util/function/BiFunction;)I")] 10

def k10m0 : Method := { name := "<init>", desc := "()V", sig := { parameters := [], returnType := none }, accessFlags := 1, code := none }
def k10c1 : Code := { maxStack := 3, maxLocals := 3, code := jdk_41_method_11_code, exceptionTable := #[], attributes := #[] }
def k10m1 : Method := { name := "checkIndex", desc := "(IILjava/util/function/BiFunction;)I", sig := { parameters := [.int, .int, (.object "java/util/function/BiFunction")], returnType := some .int }, accessFlags := 9, code := some k10c1 }
def k10c2 : Code := { maxStack := 4, maxLocals := 4, code := jdk_41_method_12_code, exceptionTable := #[], attributes := #[] }
def k10m2 : Method := { name := "checkFromToIndex", desc := "(IIILjava/util/function/BiFunction;)I", sig := { parameters := [.int, .int, .int, (.object "java/util/function/BiFunction")], returnType := some .int }, accessFlags := 9, code := some k10c2 }
/-- jdk/internal/util/Preconditions -/
def k10 : Class := { plain "jdk/internal/util/Preconditions" (some 0) with
  accessFlags := 33
  interfaces := #[]
  cf := some (fileOf pool10 24 #[.nestMembers #[55, 131, 125, 114]] #[{ accessFlags := 1, nameIndex := 5, descriptorIndex := 6, attributes := #[] }, { accessFlags := 9, nameIndex := 33, descriptorIndex := 178, attributes := #[] }, { accessFlags := 9, nameIndex := 47, descriptorIndex := 183, attributes := #[] }] 33 2 #[] #[{ accessFlags := 25, nameIndex := 123, descriptorIndex := 124, attributes := #[] }, { accessFlags := 25, nameIndex := 130, descriptorIndex := 124, attributes := #[] }, { accessFlags := 25, nameIndex := 136, descriptorIndex := 124, attributes := #[] }])
  fields := #[{ name := "SIOOBE_FORMATTER", type := (.object "java/util/function/BiFunction"), accessFlags := 25, slot := 0, constantValue := 0 }, { name := "AIOOBE_FORMATTER", type := (.object "java/util/function/BiFunction"), accessFlags := 25, slot := 1, constantValue := 0 }, { name := "IOOBE_FORMATTER", type := (.object "java/util/function/BiFunction"), accessFlags := 25, slot := 2, constantValue := 0 }]
  methods := #[k10m0, k10m1, k10m2]
  instanceTypes := #[]
  staticTypes := #[(.object "java/util/function/BiFunction"), (.object "java/util/function/BiFunction"), (.object "java/util/function/BiFunction")]
  resolved := Array.replicate 194 none
  statics := some 1 }

def pool11 : Array CpInfo := pool [(3, .class_ 4), (0, u "java/lang/String"), (1, .class_ 8), (1, u "java/lang/Object"), (0, u "<init>"), (0, u "()V"), (0, .methodref 12 13), (0, .class_ 14), (0, .nameAndType 15 16), (0, u "java/lang/StringUTF16"), (0, u "newBytesLength"), (0, u "(I)I"), (3, .integer 1073741823), (23, .fieldref 12 45), (0, .nameAndType 46 47), (0, u "$assertionsDisabled"), (0, u "Z"), (0, .methodref 12 49), (0, .nameAndType 50 51), (0, u "length"), (0, u "([B)I"), (7, .fieldref 12 60), (0, .nameAndType 61 62), (0, u "HI_BYTE_SHIFT"), (0, u "I"), (0, .fieldref 12 64), (0, .nameAndType 65 62), (0, u "LO_BYTE_SHIFT"), (1, .methodref 12 68), (0, .nameAndType 69 70), (0, u "checkIndex"), (0, u "(I[B)V"), (0, .methodref 12 72), (0, .nameAndType 73 74), (0, u "getChar"), (0, u "([BI)C"), (0, .methodref 76 77), (0, .class_ 78), (0, .nameAndType 79 80), (0, u "java/lang/Character"), (0, u "isHighSurrogate"), (0, u "(C)Z"), (0, .methodref 76 82), (0, .nameAndType 83 80), (0, u "isLowSurrogate"), (7, u "([BIIZ)I"), (8, .methodref 12 101), (0, .nameAndType 102 91), (0, u "codePointCount"), (4, .methodref 12 108), (0, .nameAndType 109 110), (0, u "newBytesFor"), (0, u "(I)[B"), (0, .methodref 12 112), (0, .nameAndType 113 114), (0, u "putChar"), (0, u "([BII)V"), (0, .methodref 12 116), (0, .nameAndType 117 118), (0, u "compress"), (0, u "([CI[BII)I"), (0, .methodref 12 120), (0, .nameAndType 121 122), (0, u "toBytes"), (0, u "([CII)[B"), (127, u "([BII)I"), (10, u "coderFromArrayLen"), (0, u "([BI)B"), (106, .class_ 371), (1, u "java/lang/StringUTF16$LinesSpliterator"), (20, u "charAt"), (21, .methodref 3 415), (0, .nameAndType 69 416), (0, u "(II)V"), (13, u "MAX_LENGTH"), (196, .class_ 628), (0, u "java/lang/StringUTF16$CodePointsSpliterator"), (0, .class_ 630), (0, u "java/lang/StringUTF16$CharsSpliterator")] 4

def k11m0 : Method := { name := "<init>", desc := "()V", sig := { parameters := [], returnType := none }, accessFlags := 0, code := none }
def k11c1 : Code := { maxStack := 1, maxLocals := 1, code := jdk_52_method_2_code, exceptionTable := #[], attributes := #[] }
def k11m1 : Method := { name := "newBytesFor", desc := "(I)[B", sig := { parameters := [.int], returnType := some (.array .byte) }, accessFlags := 9, code := some k11c1 }
def k11c2 : Code := { maxStack := 4, maxLocals := 1, code := jdk_52_method_3_code, exceptionTable := #[], attributes := #[] }
def k11m2 : Method := { name := "newBytesLength", desc := "(I)I", sig := { parameters := [.int], returnType := some .int }, accessFlags := 9, code := some k11c2 }
def k11c3 : Code := { maxStack := 4, maxLocals := 3, code := jdk_52_method_4_code, exceptionTable := #[], attributes := #[] }
def k11m3 : Method := { name := "putChar", desc := "([BII)V", sig := { parameters := [(.array .byte), .int, .int], returnType := none }, accessFlags := 8, code := some k11c3 }
def k11c4 : Code := { maxStack := 3, maxLocals := 2, code := jdk_52_method_5_code, exceptionTable := #[], attributes := #[] }
def k11m4 : Method := { name := "getChar", desc := "([BI)C", sig := { parameters := [(.array .byte), .int], returnType := some .char }, accessFlags := 8, code := some k11c4 }
def k11c5 : Code := { maxStack := 2, maxLocals := 1, code := jdk_52_method_6_code, exceptionTable := #[], attributes := #[] }
def k11m5 : Method := { name := "length", desc := "([B)I", sig := { parameters := [(.array .byte)], returnType := some .int }, accessFlags := 9, code := some k11c5 }
def k11c6 : Code := { maxStack := 3, maxLocals := 6, code := jdk_52_method_11_code, exceptionTable := #[], attributes := #[] }
def k11m6 : Method := { name := "codePointCount", desc := "([BIIZ)I", sig := { parameters := [(.array .byte), .int, .int, .boolean], returnType := some .int }, accessFlags := 10, code := some k11c6 }
def k11c7 : Code := { maxStack := 4, maxLocals := 3, code := jdk_52_method_12_code, exceptionTable := #[], attributes := #[] }
def k11m7 : Method := { name := "codePointCount", desc := "([BII)I", sig := { parameters := [(.array .byte), .int, .int], returnType := some .int }, accessFlags := 9, code := some k11c7 }
def k11c8 : Code := { maxStack := 4, maxLocals := 5, code := jdk_52_method_14_code, exceptionTable := #[], attributes := #[] }
def k11m8 : Method := { name := "toBytes", desc := "([CII)[B", sig := { parameters := [(.array .char), .int, .int], returnType := some (.array .byte) }, accessFlags := 9, code := some k11c8 }
def k11c9 : Code := { maxStack := 2, maxLocals := 2, code := jdk_52_method_15_code, exceptionTable := #[], attributes := #[] }
def k11m9 : Method := { name := "coderFromArrayLen", desc := "([BI)B", sig := { parameters := [(.array .byte), .int], returnType := some .byte }, accessFlags := 8, code := some k11c9 }
def k11c10 : Code := { maxStack := 5, maxLocals := 6, code := jdk_52_method_16_code, exceptionTable := #[], attributes := #[] }
def k11m10 : Method := { name := "compress", desc := "([CII)[B", sig := { parameters := [(.array .char), .int, .int], returnType := some (.array .byte) }, accessFlags := 9, code := some k11c10 }
def k11c11 : Code := { maxStack := 3, maxLocals := 7, code := jdk_52_method_21_code, exceptionTable := #[], attributes := #[] }
def k11m11 : Method := { name := "compress", desc := "([CI[BII)I", sig := { parameters := [(.array .char), .int, (.array .byte), .int, .int], returnType := some .int }, accessFlags := 9, code := some k11c11 }
def k11c12 : Code := { maxStack := 2, maxLocals := 2, code := jdk_52_method_83_code, exceptionTable := #[], attributes := #[] }
def k11m12 : Method := { name := "charAt", desc := "([BI)C", sig := { parameters := [(.array .byte), .int], returnType := some .char }, accessFlags := 9, code := some k11c12 }
def k11c13 : Code := { maxStack := 2, maxLocals := 2, code := jdk_52_method_91_code, exceptionTable := #[], attributes := #[] }
def k11m13 : Method := { name := "checkIndex", desc := "(I[B)V", sig := { parameters := [.int, (.array .byte)], returnType := none }, accessFlags := 9, code := some k11c13 }
/-- java/lang/StringUTF16 -/
def k11 : Class := { plain "java/lang/StringUTF16" (some 0) with
  accessFlags := 48
  interfaces := #[]
  cf := some (fileOf pool11 12 #[.nestMembers #[627, 629, 369]] #[{ accessFlags := 0, nameIndex := 9, descriptorIndex := 10, attributes := #[] }, { accessFlags := 9, nameIndex := 109, descriptorIndex := 110, attributes := #[] }, { accessFlags := 9, nameIndex := 15, descriptorIndex := 16, attributes := #[] }, { accessFlags := 8, nameIndex := 113, descriptorIndex := 114, attributes := #[] }, { accessFlags := 8, nameIndex := 73, descriptorIndex := 74, attributes := #[] }, { accessFlags := 9, nameIndex := 50, descriptorIndex := 51, attributes := #[] }, { accessFlags := 10, nameIndex := 102, descriptorIndex := 91, attributes := #[] }, { accessFlags := 9, nameIndex := 102, descriptorIndex := 250, attributes := #[] }, { accessFlags := 9, nameIndex := 121, descriptorIndex := 122, attributes := #[] }, { accessFlags := 8, nameIndex := 261, descriptorIndex := 262, attributes := #[] }, { accessFlags := 9, nameIndex := 117, descriptorIndex := 122, attributes := #[] }, { accessFlags := 9, nameIndex := 117, descriptorIndex := 118, attributes := #[] }, { accessFlags := 9, nameIndex := 392, descriptorIndex := 74, attributes := #[] }, { accessFlags := 9, nameIndex := 69, descriptorIndex := 70, attributes := #[] }] 48 6 #[] #[{ accessFlags := 26, nameIndex := 61, descriptorIndex := 62, attributes := #[] }, { accessFlags := 26, nameIndex := 65, descriptorIndex := 62, attributes := #[] }, { accessFlags := 24, nameIndex := 430, descriptorIndex := 62, attributes := #[] }, { accessFlags := 4120, nameIndex := 46, descriptorIndex := 47, attributes := #[] }])
  fields := #[{ name := "HI_BYTE_SHIFT", type := .int, accessFlags := 26, slot := 0, constantValue := 0 }, { name := "LO_BYTE_SHIFT", type := .int, accessFlags := 26, slot := 1, constantValue := 0 }, { name := "MAX_LENGTH", type := .int, accessFlags := 24, slot := 2, constantValue := 0 }, { name := "$assertionsDisabled", type := .boolean, accessFlags := 4120, slot := 3, constantValue := 0 }]
  methods := #[k11m0, k11m1, k11m2, k11m3, k11m4, k11m5, k11m6, k11m7, k11m8, k11m9, k11m10, k11m11, k11m12, k11m13]
  instanceTypes := #[]
  staticTypes := #[.int, .int, .int, .boolean]
  resolved := Array.replicate 635 none
  statics := some 2 }

def pool12 : Array CpInfo := pool [(1, .class_ 2), (0, u "java/lang/Character"), (18, u "value"), (0, u "C"), (19, .class_ 44), (1, u "java/lang/Object"), (3, .class_ 50), (1, u "java/lang/Character$CharacterCache"), (24, .integer 55296), (0, .integer 56320), (0, .integer 57344), (0, .methodref 1 79), (0, .nameAndType 80 81), (0, u "isHighSurrogate"), (0, u "(C)Z"), (0, .methodref 1 83), (0, .nameAndType 84 81), (0, u "isLowSurrogate"), (1, .interfaceMethodref 87 88), (0, .class_ 89), (0, .nameAndType 90 91), (0, u "java/lang/CharSequence"), (0, u "charAt"), (0, u "(I)C"), (0, .interfaceMethodref 87 93), (0, .nameAndType 94 95), (0, u "length"), (0, u "()I"), (188, u "$assertionsDisabled"), (0, u "Z"), (21, .class_ 309), (1, u "java/lang/Character$UnicodeBlock"), (73, u "TYPE"), (0, u "Ljava/lang/Class;"), (0, .class_ 386), (0, u "java/io/Serializable"), (0, .class_ 388), (0, u "java/lang/Comparable"), (0, .class_ 390), (0, u "java/lang/constant/Constable"), (0, u "MIN_RADIX"), (0, u "I"), (2, u "MAX_RADIX"), (1, u "MIN_VALUE"), (1, u "MAX_VALUE"), (3, u "UNASSIGNED"), (0, u "B"), (0, u "UPPERCASE_LETTER"), (1, u "LOWERCASE_LETTER"), (0, u "TITLECASE_LETTER"), (1, u "MODIFIER_LETTER"), (1, u "OTHER_LETTER"), (1, u "NON_SPACING_MARK"), (1, u "ENCLOSING_MARK"), (1, u "COMBINING_SPACING_MARK"), (1, u "DECIMAL_DIGIT_NUMBER"), (1, u "LETTER_NUMBER"), (1, u "OTHER_NUMBER"), (1, u "SPACE_SEPARATOR"), (1, u "LINE_SEPARATOR"), (1, u "PARAGRAPH_SEPARATOR"), (1, u "CONTROL"), (1, u "FORMAT"), (1, u "PRIVATE_USE"), (1, u "SURROGATE"), (1, u "DASH_PUNCTUATION"), (1, u "START_PUNCTUATION"), (1, u "END_PUNCTUATION"), (1, u "CONNECTOR_PUNCTUATION"), (1, u "OTHER_PUNCTUATION"), (1, u "MATH_SYMBOL"), (1, u "CURRENCY_SYMBOL"), (1, u "MODIFIER_SYMBOL"), (1, u "OTHER_SYMBOL"), (1, u "INITIAL_QUOTE_PUNCTUATION"), (1, u "FINAL_QUOTE_PUNCTUATION"), (1, u "ERROR"), (1, u "DIRECTIONALITY_UNDEFINED"), (0, u "DIRECTIONALITY_LEFT_TO_RIGHT"), (0, u "DIRECTIONALITY_RIGHT_TO_LEFT"), (0, u "DIRECTIONALITY_RIGHT_TO_LEFT_ARABIC"), (0, u "DIRECTIONALITY_EUROPEAN_NUMBER"), (0, u "DIRECTIONALITY_EUROPEAN_NUMBER_SEPARATOR"), (0, u "DIRECTIONALITY_EUROPEAN_NUMBER_TERMINATOR"), (0, u "DIRECTIONALITY_ARABIC_NUMBER"), (0, u "DIRECTIONALITY_COMMON_NUMBER_SEPARATOR"), (0, u "DIRECTIONALITY_NONSPACING_MARK"), (0, u "DIRECTIONALITY_BOUNDARY_NEUTRAL"), (0, u "DIRECTIONALITY_PARAGRAPH_SEPARATOR"), (0, u "DIRECTIONALITY_SEGMENT_SEPARATOR"), (0, u "DIRECTIONALITY_WHITESPACE"), (0, u "DIRECTIONALITY_OTHER_NEUTRALS"), (0, u "DIRECTIONALITY_LEFT_TO_RIGHT_EMBEDDING"), (0, u "DIRECTIONALITY_LEFT_TO_RIGHT_OVERRIDE"), (0, u "DIRECTIONALITY_RIGHT_TO_LEFT_EMBEDDING"), (0, u "DIRECTIONALITY_RIGHT_TO_LEFT_OVERRIDE"), (1, u "DIRECTIONALITY_POP_DIRECTIONAL_FORMAT"), (0, u "DIRECTIONALITY_LEFT_TO_RIGHT_ISOLATE"), (0, u "DIRECTIONALITY_RIGHT_TO_LEFT_ISOLATE"), (0, u "DIRECTIONALITY_FIRST_STRONG_ISOLATE"), (0, u "DIRECTIONALITY_POP_DIRECTIONAL_ISOLATE"), (0, u "MIN_HIGH_SURROGATE"), (0, u "MAX_HIGH_SURROGATE"), (1, u "MIN_LOW_SURROGATE"), (0, u "MAX_LOW_SURROGATE"), (1, u "MIN_SURROGATE"), (0, u "MAX_SURROGATE"), (0, u "MIN_SUPPLEMENTARY_CODE_POINT"), (0, u "MIN_CODE_POINT"), (0, u "MAX_CODE_POINT"), (1, u "serialVersionUID"), (0, u "J"), (2, u "SIZE"), (0, u "BYTES"), (49, u "(Ljava/lang/CharSequence;II)I"), (6, u "offsetByCodePoints"), (31, .class_ 596), (0, u "java/lang/Character$UnicodeScript"), (0, .class_ 598), (0, u "java/lang/Character$Subset")] 5

def k12c0 : Code := { maxStack := 2, maxLocals := 1, code := jdk_89_method_14_code, exceptionTable := #[], attributes := #[] }
def k12m0 : Method := { name := "isHighSurrogate", desc := "(C)Z", sig := { parameters := [.char], returnType := some .boolean }, accessFlags := 9, code := some k12c0 }
def k12c1 : Code := { maxStack := 2, maxLocals := 1, code := jdk_89_method_15_code, exceptionTable := #[], attributes := #[] }
def k12m1 : Method := { name := "isLowSurrogate", desc := "(C)Z", sig := { parameters := [.char], returnType := some .boolean }, accessFlags := 9, code := some k12c1 }
def k12c2 : Code := { maxStack := 3, maxLocals := 6, code := jdk_89_method_36_code, exceptionTable := #[], attributes := #[] }
def k12m2 : Method := { name := "offsetByCodePoints", desc := "(Ljava/lang/CharSequence;II)I", sig := { parameters := [(.object "java/lang/CharSequence"), .int, .int], returnType := some .int }, accessFlags := 9, code := some k12c2 }
/-- java/lang/Character -/
def k12 : Class := { plain "java/lang/Character" (some 0) with
  accessFlags := 49
  interfaces := #[2, 3, 5]
  cf := some (fileOf pool12 1 #[.nestMembers #[48, 595, 307, 597]] #[{ accessFlags := 9, nameIndex := 80, descriptorIndex := 81, attributes := #[] }, { accessFlags := 9, nameIndex := 84, descriptorIndex := 81, attributes := #[] }, { accessFlags := 9, nameIndex := 563, descriptorIndex := 556, attributes := #[] }] 49 42 #[385, 387, 389] #[{ accessFlags := 25, nameIndex := 391, descriptorIndex := 392, attributes := #[] }, { accessFlags := 25, nameIndex := 395, descriptorIndex := 392, attributes := #[] }, { accessFlags := 25, nameIndex := 397, descriptorIndex := 22, attributes := #[] }, { accessFlags := 25, nameIndex := 399, descriptorIndex := 22, attributes := #[] }, { accessFlags := 25, nameIndex := 383, descriptorIndex := 384, attributes := #[] }, { accessFlags := 25, nameIndex := 403, descriptorIndex := 404, attributes := #[] }, { accessFlags := 25, nameIndex := 405, descriptorIndex := 404, attributes := #[] }, { accessFlags := 25, nameIndex := 407, descriptorIndex := 404, attributes := #[] }, { accessFlags := 25, nameIndex := 408, descriptorIndex := 404, attributes := #[] }, { accessFlags := 25, nameIndex := 410, descriptorIndex := 404, attributes := #[] }, { accessFlags := 25, nameIndex := 412, descriptorIndex := 404, attributes := #[] }, { accessFlags := 25, nameIndex := 414, descriptorIndex := 404, attributes := #[] }, { accessFlags := 25, nameIndex := 416, descriptorIndex := 404, attributes := #[] }, { accessFlags := 25, nameIndex := 418, descriptorIndex := 404, attributes := #[] }, { accessFlags := 25, nameIndex := 420, descriptorIndex := 404, attributes := #[] }, { accessFlags := 25, nameIndex := 422, descriptorIndex := 404, attributes := #[] }, { accessFlags := 25, nameIndex := 424, descriptorIndex := 404, attributes := #[] }, { accessFlags := 25, nameIndex := 426, descriptorIndex := 404, attributes := #[] }, { accessFlags := 25, nameIndex := 428, descriptorIndex := 404, attributes := #[] }, { accessFlags := 25, nameIndex := 430, descriptorIndex := 404, attributes := #[] }, { accessFlags := 25, nameIndex := 432, descriptorIndex := 404, attributes := #[] }, { accessFlags := 25, nameIndex := 434, descriptorIndex := 404, attributes := #[] }, { accessFlags := 25, nameIndex := 436, descriptorIndex := 404, attributes := #[] }, { accessFlags := 25, nameIndex := 438, descriptorIndex := 404, attributes := #[] }, { accessFlags := 25, nameIndex := 440, descriptorIndex := 404, attributes := #[] }, { accessFlags := 25, nameIndex := 442, descriptorIndex := 404, attributes := #[] }, { accessFlags := 25, nameIndex := 444, descriptorIndex := 404, attributes := #[] }, { accessFlags := 25, nameIndex := 446, descriptorIndex := 404, attributes := #[] }, { accessFlags := 25, nameIndex := 448, descriptorIndex := 404, attributes := #[] }, { accessFlags := 25, nameIndex := 450, descriptorIndex := 404, attributes := #[] }, { accessFlags := 25, nameIndex := 452, descriptorIndex := 404, attributes := #[] }, { accessFlags := 25, nameIndex := 454, descriptorIndex := 404, attributes := #[] }, { accessFlags := 25, nameIndex := 456, descriptorIndex := 404, attributes := #[] }, { accessFlags := 25, nameIndex := 458, descriptorIndex := 404, attributes := #[] }, { accessFlags := 25, nameIndex := 460, descriptorIndex := 404, attributes := #[] }, { accessFlags := 24, nameIndex := 462, descriptorIndex := 392, attributes := #[] }, { accessFlags := 25, nameIndex := 464, descriptorIndex := 404, attributes := #[] }, { accessFlags := 25, nameIndex := 465, descriptorIndex := 404, attributes := #[] }, { accessFlags := 25, nameIndex := 466, descriptorIndex := 404, attributes := #[] }, { accessFlags := 25, nameIndex := 467, descriptorIndex := 404, attributes := #[] }, { accessFlags := 25, nameIndex := 468, descriptorIndex := 404, attributes := #[] }, { accessFlags := 25, nameIndex := 469, descriptorIndex := 404, attributes := #[] }, { accessFlags := 25, nameIndex := 470, descriptorIndex := 404, attributes := #[] }, { accessFlags := 25, nameIndex := 471, descriptorIndex := 404, attributes := #[] }, { accessFlags := 25, nameIndex := 472, descriptorIndex := 404, attributes := #[] }, { accessFlags := 25, nameIndex := 473, descriptorIndex := 404, attributes := #[] }, { accessFlags := 25, nameIndex := 474, descriptorIndex := 404, attributes := #[] }, { accessFlags := 25, nameIndex := 475, descriptorIndex := 404, attributes := #[] }, { accessFlags := 25, nameIndex := 476, descriptorIndex := 404, attributes := #[] }, { accessFlags := 25, nameIndex := 477, descriptorIndex := 404, attributes := #[] }, { accessFlags := 25, nameIndex := 478, descriptorIndex := 404, attributes := #[] }, { accessFlags := 25, nameIndex := 479, descriptorIndex := 404, attributes := #[] }, { accessFlags := 25, nameIndex := 480, descriptorIndex := 404, attributes := #[] }, { accessFlags := 25, nameIndex := 481, descriptorIndex := 404, attributes := #[] }, { accessFlags := 25, nameIndex := 482, descriptorIndex := 404, attributes := #[] }, { accessFlags := 25, nameIndex := 484, descriptorIndex := 404, attributes := #[] }, { accessFlags := 25, nameIndex := 485, descriptorIndex := 404, attributes := #[] }, { accessFlags := 25, nameIndex := 486, descriptorIndex := 404, attributes := #[] }, { accessFlags := 25, nameIndex := 487, descriptorIndex := 404, attributes := #[] }, { accessFlags := 25, nameIndex := 488, descriptorIndex := 404, attributes := #[] }, { accessFlags := 25, nameIndex := 489, descriptorIndex := 22, attributes := #[] }, { accessFlags := 25, nameIndex := 490, descriptorIndex := 22, attributes := #[] }, { accessFlags := 25, nameIndex := 492, descriptorIndex := 22, attributes := #[] }, { accessFlags := 25, nameIndex := 493, descriptorIndex := 22, attributes := #[] }, { accessFlags := 25, nameIndex := 495, descriptorIndex := 22, attributes := #[] }, { accessFlags := 25, nameIndex := 496, descriptorIndex := 22, attributes := #[] }, { accessFlags := 25, nameIndex := 497, descriptorIndex := 392, attributes := #[] }, { accessFlags := 25, nameIndex := 498, descriptorIndex := 392, attributes := #[] }, { accessFlags := 25, nameIndex := 499, descriptorIndex := 392, attributes := #[] }, { accessFlags := 18, nameIndex := 21, descriptorIndex := 22, attributes := #[] }, { accessFlags := 26, nameIndex := 501, descriptorIndex := 502, attributes := #[] }, { accessFlags := 25, nameIndex := 505, descriptorIndex := 392, attributes := #[] }, { accessFlags := 25, nameIndex := 506, descriptorIndex := 392, attributes := #[] }, { accessFlags := 4120, nameIndex := 284, descriptorIndex := 285, attributes := #[] }])
  fields := #[{ name := "MIN_RADIX", type := .int, accessFlags := 25, slot := 0, constantValue := 0 }, { name := "MAX_RADIX", type := .int, accessFlags := 25, slot := 1, constantValue := 0 }, { name := "MIN_VALUE", type := .char, accessFlags := 25, slot := 2, constantValue := 0 }, { name := "MAX_VALUE", type := .char, accessFlags := 25, slot := 3, constantValue := 0 }, { name := "TYPE", type := (.object "java/lang/Class"), accessFlags := 25, slot := 4, constantValue := 0 }, { name := "UNASSIGNED", type := .byte, accessFlags := 25, slot := 5, constantValue := 0 }, { name := "UPPERCASE_LETTER", type := .byte, accessFlags := 25, slot := 6, constantValue := 0 }, { name := "LOWERCASE_LETTER", type := .byte, accessFlags := 25, slot := 7, constantValue := 0 }, { name := "TITLECASE_LETTER", type := .byte, accessFlags := 25, slot := 8, constantValue := 0 }, { name := "MODIFIER_LETTER", type := .byte, accessFlags := 25, slot := 9, constantValue := 0 }, { name := "OTHER_LETTER", type := .byte, accessFlags := 25, slot := 10, constantValue := 0 }, { name := "NON_SPACING_MARK", type := .byte, accessFlags := 25, slot := 11, constantValue := 0 }, { name := "ENCLOSING_MARK", type := .byte, accessFlags := 25, slot := 12, constantValue := 0 }, { name := "COMBINING_SPACING_MARK", type := .byte, accessFlags := 25, slot := 13, constantValue := 0 }, { name := "DECIMAL_DIGIT_NUMBER", type := .byte, accessFlags := 25, slot := 14, constantValue := 0 }, { name := "LETTER_NUMBER", type := .byte, accessFlags := 25, slot := 15, constantValue := 0 }, { name := "OTHER_NUMBER", type := .byte, accessFlags := 25, slot := 16, constantValue := 0 }, { name := "SPACE_SEPARATOR", type := .byte, accessFlags := 25, slot := 17, constantValue := 0 }, { name := "LINE_SEPARATOR", type := .byte, accessFlags := 25, slot := 18, constantValue := 0 }, { name := "PARAGRAPH_SEPARATOR", type := .byte, accessFlags := 25, slot := 19, constantValue := 0 }, { name := "CONTROL", type := .byte, accessFlags := 25, slot := 20, constantValue := 0 }, { name := "FORMAT", type := .byte, accessFlags := 25, slot := 21, constantValue := 0 }, { name := "PRIVATE_USE", type := .byte, accessFlags := 25, slot := 22, constantValue := 0 }, { name := "SURROGATE", type := .byte, accessFlags := 25, slot := 23, constantValue := 0 }, { name := "DASH_PUNCTUATION", type := .byte, accessFlags := 25, slot := 24, constantValue := 0 }, { name := "START_PUNCTUATION", type := .byte, accessFlags := 25, slot := 25, constantValue := 0 }, { name := "END_PUNCTUATION", type := .byte, accessFlags := 25, slot := 26, constantValue := 0 }, { name := "CONNECTOR_PUNCTUATION", type := .byte, accessFlags := 25, slot := 27, constantValue := 0 }, { name := "OTHER_PUNCTUATION", type := .byte, accessFlags := 25, slot := 28, constantValue := 0 }, { name := "MATH_SYMBOL", type := .byte, accessFlags := 25, slot := 29, constantValue := 0 }, { name := "CURRENCY_SYMBOL", type := .byte, accessFlags := 25, slot := 30, constantValue := 0 }, { name := "MODIFIER_SYMBOL", type := .byte, accessFlags := 25, slot := 31, constantValue := 0 }, { name := "OTHER_SYMBOL", type := .byte, accessFlags := 25, slot := 32, constantValue := 0 }, { name := "INITIAL_QUOTE_PUNCTUATION", type := .byte, accessFlags := 25, slot := 33, constantValue := 0 }, { name := "FINAL_QUOTE_PUNCTUATION", type := .byte, accessFlags := 25, slot := 34, constantValue := 0 }, { name := "ERROR", type := .int, accessFlags := 24, slot := 35, constantValue := 0 }, { name := "DIRECTIONALITY_UNDEFINED", type := .byte, accessFlags := 25, slot := 36, constantValue := 0 }, { name := "DIRECTIONALITY_LEFT_TO_RIGHT", type := .byte, accessFlags := 25, slot := 37, constantValue := 0 }, { name := "DIRECTIONALITY_RIGHT_TO_LEFT", type := .byte, accessFlags := 25, slot := 38, constantValue := 0 }, { name := "DIRECTIONALITY_RIGHT_TO_LEFT_ARABIC", type := .byte, accessFlags := 25, slot := 39, constantValue := 0 }, { name := "DIRECTIONALITY_EUROPEAN_NUMBER", type := .byte, accessFlags := 25, slot := 40, constantValue := 0 }, { name := "DIRECTIONALITY_EUROPEAN_NUMBER_SEPARATOR", type := .byte, accessFlags := 25, slot := 41, constantValue := 0 }, { name := "DIRECTIONALITY_EUROPEAN_NUMBER_TERMINATOR", type := .byte, accessFlags := 25, slot := 42, constantValue := 0 }, { name := "DIRECTIONALITY_ARABIC_NUMBER", type := .byte, accessFlags := 25, slot := 43, constantValue := 0 }, { name := "DIRECTIONALITY_COMMON_NUMBER_SEPARATOR", type := .byte, accessFlags := 25, slot := 44, constantValue := 0 }, { name := "DIRECTIONALITY_NONSPACING_MARK", type := .byte, accessFlags := 25, slot := 45, constantValue := 0 }, { name := "DIRECTIONALITY_BOUNDARY_NEUTRAL", type := .byte, accessFlags := 25, slot := 46, constantValue := 0 }, { name := "DIRECTIONALITY_PARAGRAPH_SEPARATOR", type := .byte, accessFlags := 25, slot := 47, constantValue := 0 }, { name := "DIRECTIONALITY_SEGMENT_SEPARATOR", type := .byte, accessFlags := 25, slot := 48, constantValue := 0 }, { name := "DIRECTIONALITY_WHITESPACE", type := .byte, accessFlags := 25, slot := 49, constantValue := 0 }, { name := "DIRECTIONALITY_OTHER_NEUTRALS", type := .byte, accessFlags := 25, slot := 50, constantValue := 0 }, { name := "DIRECTIONALITY_LEFT_TO_RIGHT_EMBEDDING", type := .byte, accessFlags := 25, slot := 51, constantValue := 0 }, { name := "DIRECTIONALITY_LEFT_TO_RIGHT_OVERRIDE", type := .byte, accessFlags := 25, slot := 52, constantValue := 0 }, { name := "DIRECTIONALITY_RIGHT_TO_LEFT_EMBEDDING", type := .byte, accessFlags := 25, slot := 53, constantValue := 0 }, { name := "DIRECTIONALITY_RIGHT_TO_LEFT_OVERRIDE", type := .byte, accessFlags := 25, slot := 54, constantValue := 0 }, { name := "DIRECTIONALITY_POP_DIRECTIONAL_FORMAT", type := .byte, accessFlags := 25, slot := 55, constantValue := 0 }, { name := "DIRECTIONALITY_LEFT_TO_RIGHT_ISOLATE", type := .byte, accessFlags := 25, slot := 56, constantValue := 0 }, { name := "DIRECTIONALITY_RIGHT_TO_LEFT_ISOLATE", type := .byte, accessFlags := 25, slot := 57, constantValue := 0 }, { name := "DIRECTIONALITY_FIRST_STRONG_ISOLATE", type := .byte, accessFlags := 25, slot := 58, constantValue := 0 }, { name := "DIRECTIONALITY_POP_DIRECTIONAL_ISOLATE", type := .byte, accessFlags := 25, slot := 59, constantValue := 0 }, { name := "MIN_HIGH_SURROGATE", type := .char, accessFlags := 25, slot := 60, constantValue := 0 }, { name := "MAX_HIGH_SURROGATE", type := .char, accessFlags := 25, slot := 61, constantValue := 0 }, { name := "MIN_LOW_SURROGATE", type := .char, accessFlags := 25, slot := 62, constantValue := 0 }, { name := "MAX_LOW_SURROGATE", type := .char, accessFlags := 25, slot := 63, constantValue := 0 }, { name := "MIN_SURROGATE", type := .char, accessFlags := 25, slot := 64, constantValue := 0 }, { name := "MAX_SURROGATE", type := .char, accessFlags := 25, slot := 65, constantValue := 0 }, { name := "MIN_SUPPLEMENTARY_CODE_POINT", type := .int, accessFlags := 25, slot := 66, constantValue := 0 }, { name := "MIN_CODE_POINT", type := .int, accessFlags := 25, slot := 67, constantValue := 0 }, { name := "MAX_CODE_POINT", type := .int, accessFlags := 25, slot := 68, constantValue := 0 }, { name := "value", type := .char, accessFlags := 18, slot := 0, constantValue := 0 }, { name := "serialVersionUID", type := .long, accessFlags := 26, slot := 69, constantValue := 0 }, { name := "SIZE", type := .int, accessFlags := 25, slot := 70, constantValue := 0 }, { name := "BYTES", type := .int, accessFlags := 25, slot := 71, constantValue := 0 }, { name := "$assertionsDisabled", type := .boolean, accessFlags := 4120, slot := 72, constantValue := 0 }]
  methods := #[k12m0, k12m1, k12m2]
  instanceTypes := #[.char]
  staticTypes := #[.int, .int, .char, .char, (.object "java/lang/Class"), .byte, .byte, .byte, .byte, .byte, .byte, .byte, .byte, .byte, .byte, .byte, .byte, .byte, .byte, .byte, .byte, .byte, .byte, .byte, .byte, .byte, .byte, .byte, .byte, .byte, .byte, .byte, .byte, .byte, .byte, .int, .byte, .byte, .byte, .byte, .byte, .byte, .byte, .byte, .byte, .byte, .byte, .byte, .byte, .byte, .byte, .byte, .byte, .byte, .byte, .byte, .byte, .byte, .byte, .byte, .char, .char, .char, .char, .char, .char, .int, .int, .int, .long, .int, .int, .boolean]
  resolved := Array.replicate 604 none
  statics := none }

def pool13 : Array CpInfo := pool [(1, .class_ 2), (0, u "java/lang/String"), (1, .class_ 6), (1, u "java/lang/Object"), (0, u "<init>"), (0, u "()V"), (0, .methodref 1 10), (0, .nameAndType 11 12), (0, u "checkIndex"), (0, u "(II)V"), (1, .class_ 16), (1, u "java/lang/StringLatin1"), (36, u "([BI)C"), (67, u "$assertionsDisabled"), (0, u "Z"), (98, .class_ 223), (1, u "java/lang/StringLatin1$LinesSpliterator"), (28, u "charAt"), (137, .class_ 391), (0, u "java/lang/StringLatin1$CharsSpliterator")] 3

def k13m0 : Method := { name := "<init>", desc := "()V", sig := { parameters := [], returnType := none }, accessFlags := 0, code := none }
def k13c1 : Code := { maxStack := 2, maxLocals := 2, code := jdk_43_method_2_code, exceptionTable := #[], attributes := #[] }
def k13m1 : Method := { name := "charAt", desc := "([BI)C", sig := { parameters := [(.array .byte), .int], returnType := some .char }, accessFlags := 9, code := some k13c1 }
/-- java/lang/StringLatin1 -/
def k13 : Class := { plain "java/lang/StringLatin1" (some 0) with
  accessFlags := 48
  interfaces := #[]
  cf := some (fileOf pool13 14 #[.nestMembers #[390, 221]] #[{ accessFlags := 0, nameIndex := 7, descriptorIndex := 8, attributes := #[] }, { accessFlags := 9, nameIndex := 252, descriptorIndex := 53, attributes := #[] }] 48 4 #[] #[{ accessFlags := 4120, nameIndex := 121, descriptorIndex := 122, attributes := #[] }])
  fields := #[{ name := "$assertionsDisabled", type := .boolean, accessFlags := 4120, slot := 0, constantValue := 0 }]
  methods := #[k13m0, k13m1]
  instanceTypes := #[]
  staticTypes := #[.boolean]
  resolved := Array.replicate 395 none
  statics := none }

def pool14 : Array CpInfo := pool [(9, u "<init>"), (6, .class_ 18), (1, u "java/lang/Object"), (0, u "()V"), (1, .class_ 23), (1, u "jdk/internal/util/ArraysSupport"), (0, u "LOG2_ARRAY_LONG_INDEX_SCALE"), (0, u "I"), (2, u "U"), (0, u "Ljdk/internal/misc/Unsafe;"), (8, u "BIG_ENDIAN"), (0, u "Z"), (8, u "LOG2_BYTE_BIT_SIZE"), (4, u "LOG2_ARRAY_INT_INDEX_SCALE"), (54, u "JLA"), (0, u "Ljdk/internal/access/JavaLangAccess;"), (11, u "LOG2_ARRAY_BOOLEAN_INDEX_SCALE"), (9, u "LOG2_ARRAY_BYTE_INDEX_SCALE"), (5, u "LOG2_ARRAY_CHAR_INDEX_SCALE"), (5, u "LOG2_ARRAY_SHORT_INDEX_SCALE"), (18, u "LOG2_ARRAY_FLOAT_INDEX_SCALE"), (24, u "LOG2_ARRAY_DOUBLE_INDEX_SCALE"), (89, u "T_BOOLEAN"), (2, u "T_CHAR"), (1, u "T_FLOAT"), (1, u "T_DOUBLE"), (1, u "T_BYTE"), (1, u "T_SHORT"), (1, u "T_INT"), (1, u "T_LONG"), (1, u "SOFT_MAX_ARRAY_LENGTH")] 83

def k14m0 : Method := { name := "<init>", desc := "()V", sig := { parameters := [], returnType := none }, accessFlags := 2, code := none }
/-- jdk/internal/util/ArraysSupport -/
def k14 : Class := { plain "jdk/internal/util/ArraysSupport" (some 0) with
  accessFlags := 33
  interfaces := #[]
  cf := some (fileOf pool14 21 #[] #[{ accessFlags := 2, nameIndex := 9, descriptorIndex := 19, attributes := #[] }] 33 16 #[] #[{ accessFlags := 24, nameIndex := 28, descriptorIndex := 29, attributes := #[] }, { accessFlags := 26, nameIndex := 38, descriptorIndex := 39, attributes := #[] }, { accessFlags := 25, nameIndex := 121, descriptorIndex := 25, attributes := #[] }, { accessFlags := 25, nameIndex := 131, descriptorIndex := 25, attributes := #[] }, { accessFlags := 25, nameIndex := 137, descriptorIndex := 25, attributes := #[] }, { accessFlags := 25, nameIndex := 143, descriptorIndex := 25, attributes := #[] }, { accessFlags := 25, nameIndex := 53, descriptorIndex := 25, attributes := #[] }, { accessFlags := 25, nameIndex := 24, descriptorIndex := 25, attributes := #[] }, { accessFlags := 25, nameIndex := 162, descriptorIndex := 25, attributes := #[] }, { accessFlags := 25, nameIndex := 187, descriptorIndex := 25, attributes := #[] }, { accessFlags := 26, nameIndex := 48, descriptorIndex := 25, attributes := #[] }, { accessFlags := 25, nameIndex := 277, descriptorIndex := 25, attributes := #[] }, { accessFlags := 25, nameIndex := 280, descriptorIndex := 25, attributes := #[] }, { accessFlags := 25, nameIndex := 282, descriptorIndex := 25, attributes := #[] }, { accessFlags := 25, nameIndex := 284, descriptorIndex := 25, attributes := #[] }, { accessFlags := 25, nameIndex := 286, descriptorIndex := 25, attributes := #[] }, { accessFlags := 25, nameIndex := 288, descriptorIndex := 25, attributes := #[] }, { accessFlags := 25, nameIndex := 290, descriptorIndex := 25, attributes := #[] }, { accessFlags := 25, nameIndex := 292, descriptorIndex := 25, attributes := #[] }, { accessFlags := 26, nameIndex := 108, descriptorIndex := 109, attributes := #[] }, { accessFlags := 25, nameIndex := 294, descriptorIndex := 25, attributes := #[] }])
  fields := #[{ name := "U", type := (.object "jdk/internal/misc/Unsafe"), accessFlags := 24, slot := 0, constantValue := 0 }, { name := "BIG_ENDIAN", type := .boolean, accessFlags := 26, slot := 1, constantValue := 0 }, { name := "LOG2_ARRAY_BOOLEAN_INDEX_SCALE", type := .int, accessFlags := 25, slot := 2, constantValue := 0 }, { name := "LOG2_ARRAY_BYTE_INDEX_SCALE", type := .int, accessFlags := 25, slot := 3, constantValue := 0 }, { name := "LOG2_ARRAY_CHAR_INDEX_SCALE", type := .int, accessFlags := 25, slot := 4, constantValue := 0 }, { name := "LOG2_ARRAY_SHORT_INDEX_SCALE", type := .int, accessFlags := 25, slot := 5, constantValue := 0 }, { name := "LOG2_ARRAY_INT_INDEX_SCALE", type := .int, accessFlags := 25, slot := 6, constantValue := 0 }, { name := "LOG2_ARRAY_LONG_INDEX_SCALE", type := .int, accessFlags := 25, slot := 7, constantValue := 0 }, { name := "LOG2_ARRAY_FLOAT_INDEX_SCALE", type := .int, accessFlags := 25, slot := 8, constantValue := 0 }, { name := "LOG2_ARRAY_DOUBLE_INDEX_SCALE", type := .int, accessFlags := 25, slot := 9, constantValue := 0 }, { name := "LOG2_BYTE_BIT_SIZE", type := .int, accessFlags := 26, slot := 10, constantValue := 0 }, { name := "T_BOOLEAN", type := .int, accessFlags := 25, slot := 11, constantValue := 0 }, { name := "T_CHAR", type := .int, accessFlags := 25, slot := 12, constantValue := 0 }, { name := "T_FLOAT", type := .int, accessFlags := 25, slot := 13, constantValue := 0 }, { name := "T_DOUBLE", type := .int, accessFlags := 25, slot := 14, constantValue := 0 }, { name := "T_BYTE", type := .int, accessFlags := 25, slot := 15, constantValue := 0 }, { name := "T_SHORT", type := .int, accessFlags := 25, slot := 16, constantValue := 0 }, { name := "T_INT", type := .int, accessFlags := 25, slot := 17, constantValue := 0 }, { name := "T_LONG", type := .int, accessFlags := 25, slot := 18, constantValue := 0 }, { name := "JLA", type := (.object "jdk/internal/access/JavaLangAccess"), accessFlags := 26, slot := 19, constantValue := 0 }, { name := "SOFT_MAX_ARRAY_LENGTH", type := .int, accessFlags := 25, slot := 20, constantValue := 0 }]
  methods := #[k14m0]
  instanceTypes := #[]
  staticTypes := #[(.object "jdk/internal/misc/Unsafe"), .boolean, .int, .int, .int, .int, .int, .int, .int, .int, .int, .int, .int, .int, .int, .int, .int, .int, .int, (.object "jdk/internal/access/JavaLangAccess"), .int]
  resolved := Array.replicate 378 none
  statics := none }

def pool15 : Array CpInfo := pool [(1, u "java/lang/Cloneable"), (0, .class_ 1), (0, u "java/lang/Object"), (0, .class_ 3)] 3

/-- java/lang/Cloneable -/
def k15 : Class := { plain "java/lang/Cloneable" (some 0) with
  accessFlags := 1537
  interfaces := #[]
  cf := some (fileOf pool15 2 #[] #[] 1537 4 #[] #[])
  fields := #[]
  methods := #[]
  instanceTypes := #[]
  staticTypes := #[]
  resolved := Array.replicate 8 none
  statics := none }

/-- the primitive byte -/
def k16 : Class := { plain "byte" none with kind := .primitive 'B', accessFlags := 0x411 }
/-- [B -/
def k17 : Class := { plain "[B" (some 0) with kind := .array 16 .byte, interfaces := #[15, 2], accessFlags := 1041 }

/-- the primitive char -/
def k18 : Class := { plain "char" none with kind := .primitive 'C', accessFlags := 0x411 }
/-- [C -/
def k19 : Class := { plain "[C" (some 0) with kind := .array 18 .char, interfaces := #[15, 2], accessFlags := 1041 }

/-- the primitive int -/
def k20 : Class := { plain "int" none with kind := .primitive 'I', accessFlags := 0x411 }
/-- [I -/
def k21 : Class := { plain "[I" (some 0) with kind := .array 20 .int, interfaces := #[15, 2], accessFlags := 1041 }

def heap : Heap := #[{ cls := 7, slots := #[.long 0, .int 1, .null, .int 0, .null, .int 0, .int 0], vm := .statics 7 },
  { cls := 10, slots := #[.null, .null, .null], vm := .statics 10 },
  { cls := 11, slots := #[.int 0, .int 8, .int 0, .int 1], vm := .statics 11 }]
def classes : Array Class := #[k0, k1, k2, k3, k4, k5, k6, k7, k8, k9, k10, k11, k12, k13, k14, k15, k16, k17, k18, k19, k20, k21]
def interned : List (Array UInt16 × Addr) := []
def slotsUsed : Nat := 14
def theMethod : MethodId := ⟨1, 5⟩
def args0 : Array Value := #[.int 2, .int 7, .int 1, .int 9, .int 2, .int 5]
def aboutOver (below : List Frame) : State where
  vm := { classes := classes, interned := interned.toArray }
  heap := heap
  slotsUsed := slotsUsed
  threads := #[{ frames := .invoking theMethod args0 :: below }]
def below0 : List Frame := [.native { method := ⟨0, 0⟩, args := #[] }]
def about1 : State := aboutOver below0
def p0 : Program := .bare "" "" ""
def e0 : Env := launch0.env 0 0 0
theorem w_frames : about1.frames = Frame.invoking theMethod args0 :: below0 := rfl
set_option maxRecDepth 65536 in
theorem w_args : argsFit about1.vm theMethod args0 = true := by decide +kernel
set_option maxRecDepth 65536 in
theorem w_heap : heapFits about1 = true := by decide +kernel
set_option maxRecDepth 65536 in
theorem w_runnable : about1.curStatus? = some .runnable := by decide +kernel
set_option maxRecDepth 65536 in
theorem w_alone : about1.alone = true := by decide +kernel
set_option maxRecDepth 65536 in
theorem w_named : about1.methodNamed? x = some theMethod := by decide +kernel
set_option maxRecDepth 65536 in
theorem w_hears : about1.hears theMethod below0 = true := by decide +kernel
set_option maxRecDepth 65536 in
theorem w_ripe : about1.ripe theMethod args0 below0 = true := by decide +kernel
theorem w_running : about1.status = .running := rfl
set_option maxRecDepth 65536 in
theorem w_room : about1.hasRoom e0.platform room_1 = true :=
  launch0.hasRoom_least _ room_1 (by decide +kernel) (by decide +kernel) (by decide +kernel) (by decide +kernel) (by decide +kernel) (by decide +kernel)
theorem allAtoms_all (ts : List Jvm.Cond) (a : Array Jvm.Value) (st : Jvm.State) : (allAtoms ts).before a st = ts.all (fun c => c.before a st) := by
  induction ts with
  | nil => rfl
  | cons c t ih =>
    show (Jvm.Cond.and c (allAtoms t)).before a st = _
    rw [Jvm.Cond.before_and, ih, List.all_cons]
def words1 : List Jvm.Cond := Jvm.Cond.code x code maxLocals ret :: tables_1
/-- a 'code' word, met by the world's own term for the bytes: nothing is compared byte by byte -/
theorem code_word {y : MethodName} {bytes : ByteArray} {mx : Nat} {rt : Option FieldType} {a : Array Value} {s : State} {m : MethodId} {meth : Method} {c : Code} (h1 : s.methodNamed? y = some m) (h2 : s.vm.method? m = some meth) (h3 : meth.code = some c) (h4 : c.code = bytes)
    (h5 : (c.maxLocals == mx && c.exceptionTable.isEmpty && decide (c.maxStack ≤ mostOperands) && decide (meth.sig.returnType = rt) && !meth.locks && decide (parseMethodDescriptor y.desc = some meth.sig)) = true) : (Jvm.Cond.code y bytes mx rt).before a s = true := by
  simp only [Bool.and_eq_true, beq_iff_eq, Bool.not_eq_true', decide_eq_true_eq] at h5
  obtain ⟨⟨⟨⟨⟨g1, g2⟩, g3⟩, g4⟩, g5⟩, g6⟩ := h5
  simp [Cond.before, Cond.holds, Cond.value, h1, h2, h3, h4, g1, g2, g3, g4, g5, g6]
def isCode : Jvm.Cond → Bool
  | .code _ _ _ _ => true
  | _ => false
theorem all_split {L : List Jvm.Cond} {P : Jvm.Cond → Bool} (h1 : L.all (fun c => isCode c || P c) = true) (h2 : ∀ c ∈ L.filter isCode, P c = true) : L.all P = true := by
  refine List.all_eq_true.mpr fun c hc => ?_
  have h := List.all_eq_true.mp h1 c hc
  rcases Bool.eq_false_or_eq_true (isCode c) with hi | hi
  · exact h2 c (List.mem_filter.mpr ⟨hc, hi⟩)
  · simpa [hi] using h
set_option maxRecDepth 65536 in
theorem w_c0 : (Jvm.Cond.code x code maxLocals ret).before args0 about1 = true := code_word (m := ⟨1, 5⟩) (meth := k1m5) (c := k1c5) (by decide +kernel) rfl rfl rfl (by decide +kernel)
set_option maxRecDepth 65536 in
theorem w_c1 : (Jvm.Cond.code ({ cls := "com/example/shush/shush/OccurrenceMatchedPinLaw", name := "draw", desc := "(I)C" } : Jvm.MethodName) method_2_code (3 : Nat) (Option.some Jvm.ClassFile.FieldType.char)).before args0 about1 = true := code_word (m := ⟨1, 1⟩) (meth := k1m1) (c := k1c1) (by decide +kernel) rfl rfl rfl (by decide +kernel)
set_option maxRecDepth 65536 in
theorem w_c2 : (Jvm.Cond.code ({ cls := "java/lang/String", name := "<init>", desc := "([C)V" } : Jvm.MethodName) jdk_42_method_3_code (2 : Nat) (Option.none : Option Jvm.ClassFile.FieldType)).before args0 about1 = true := code_word (m := ⟨7, 1⟩) (meth := k7m1) (c := k7c1) (by decide +kernel) rfl rfl rfl (by decide +kernel)
set_option maxRecDepth 65536 in
theorem w_c3 : (Jvm.Cond.code ({ cls := "java/lang/String", name := "<init>", desc := "([CIILjava/lang/Void;)V" } : Jvm.MethodName) jdk_42_method_149_code (6 : Nat) (Option.none : Option Jvm.ClassFile.FieldType)).before args0 about1 = true := code_word (m := ⟨7, 6⟩) (meth := k7m6) (c := k7c6) (by decide +kernel) rfl rfl rfl (by decide +kernel)
set_option maxRecDepth 65536 in
theorem w_c4 : (Jvm.Cond.code ({ cls := "java/lang/Object", name := "<init>", desc := "()V" } : Jvm.MethodName) object_method_1_code (1 : Nat) (Option.none : Option Jvm.ClassFile.FieldType)).before args0 about1 = true := code_word (m := ⟨0, 0⟩) (meth := k0m0) (c := k0c0) (by decide +kernel) rfl rfl rfl (by decide +kernel)
set_option maxRecDepth 65536 in
theorem w_c5 : (Jvm.Cond.code ({ cls := "com/example/shush/shush/Occurrence", name := "<init>", desc := "(Ljava/lang/String;II)V" } : Jvm.MethodName) prog_16_method_1_code (4 : Nat) (Option.none : Option Jvm.ClassFile.FieldType)).before args0 about1 = true := code_word (m := ⟨8, 0⟩) (meth := k8m0) (c := k8c0) (by decide +kernel) rfl rfl rfl (by decide +kernel)
set_option maxRecDepth 65536 in
theorem w_c6 : (Jvm.Cond.code ({ cls := "java/util/Objects", name := "requireNonNull", desc := "(Ljava/lang/Object;Ljava/lang/String;)Ljava/lang/Object;" } : Jvm.MethodName) jdk_31_method_11_code (2 : Nat) (Option.some (Jvm.ClassFile.FieldType.object "java/lang/Object"))).before args0 about1 = true := code_word (m := ⟨9, 1⟩) (meth := k9m1) (c := k9c1) (by decide +kernel) rfl rfl rfl (by decide +kernel)
set_option maxRecDepth 65536 in
theorem w_c7 : (Jvm.Cond.code ({ cls := "com/example/shush/shush/Occurrence", name := "matched", desc := "()[I" } : Jvm.MethodName) prog_16_method_6_code (4 : Nat) (Option.some (Jvm.ClassFile.FieldType.array Jvm.ClassFile.FieldType.int))).before args0 about1 = true := code_word (m := ⟨8, 1⟩) (meth := k8m1) (c := k8c1) (by decide +kernel) rfl rfl rfl (by decide +kernel)
set_option maxRecDepth 65536 in
theorem w_c8 : (Jvm.Cond.code ({ cls := "java/lang/String", name := "length", desc := "()I" } : Jvm.MethodName) jdk_42_method_54_code (1 : Nat) (Option.some Jvm.ClassFile.FieldType.int)).before args0 about1 = true := code_word (m := ⟨7, 2⟩) (meth := k7m2) (c := k7c2) (by decide +kernel) rfl rfl rfl (by decide +kernel)
set_option maxRecDepth 65536 in
theorem w_c9 : (Jvm.Cond.code ({ cls := "java/lang/String", name := "coder", desc := "()B" } : Jvm.MethodName) jdk_42_method_152_code (1 : Nat) (Option.some Jvm.ClassFile.FieldType.byte)).before args0 about1 = true := code_word (m := ⟨7, 7⟩) (meth := k7m7) (c := k7c7) (by decide +kernel) rfl rfl rfl (by decide +kernel)
set_option maxRecDepth 65536 in
theorem w_c10 : (Jvm.Cond.code ({ cls := "java/lang/String", name := "codePointCount", desc := "(II)I" } : Jvm.MethodName) jdk_42_method_59_code (3 : Nat) (Option.some Jvm.ClassFile.FieldType.int)).before args0 about1 = true := code_word (m := ⟨7, 4⟩) (meth := k7m4) (c := k7c4) (by decide +kernel) rfl rfl rfl (by decide +kernel)
set_option maxRecDepth 65536 in
theorem w_c11 : (Jvm.Cond.code ({ cls := "java/util/Objects", name := "checkFromToIndex", desc := "(III)I" } : Jvm.MethodName) jdk_31_method_18_code (3 : Nat) (Option.some Jvm.ClassFile.FieldType.int)).before args0 about1 = true := code_word (m := ⟨9, 2⟩) (meth := k9m2) (c := k9c2) (by decide +kernel) rfl rfl rfl (by decide +kernel)
set_option maxRecDepth 65536 in
theorem w_c12 : (Jvm.Cond.code ({ cls := "jdk/internal/util/Preconditions", name := "checkFromToIndex", desc := "(IIILjava/util/function/BiFunction;)I" } : Jvm.MethodName) jdk_41_method_12_code (4 : Nat) (Option.some Jvm.ClassFile.FieldType.int)).before args0 about1 = true := code_word (m := ⟨10, 2⟩) (meth := k10m2) (c := k10c2) (by decide +kernel) rfl rfl rfl (by decide +kernel)
set_option maxRecDepth 65536 in
theorem w_c13 : (Jvm.Cond.code ({ cls := "java/lang/String", name := "isLatin1", desc := "()Z" } : Jvm.MethodName) jdk_42_method_154_code (1 : Nat) (Option.some Jvm.ClassFile.FieldType.boolean)).before args0 about1 = true := code_word (m := ⟨7, 8⟩) (meth := k7m8) (c := k7c8) (by decide +kernel) rfl rfl rfl (by decide +kernel)
set_option maxRecDepth 65536 in
theorem w_c14 : (Jvm.Cond.code ({ cls := "com/example/shush/shush/OccurrenceMatchedPinLaw", name := "same", desc := "([I[II)Z" } : Jvm.MethodName) method_5_code (3 : Nat) (Option.some Jvm.ClassFile.FieldType.boolean)).before args0 about1 = true := code_word (m := ⟨1, 4⟩) (meth := k1m4) (c := k1c4) (by decide +kernel) rfl rfl rfl (by decide +kernel)
set_option maxRecDepth 65536 in
theorem w_c15 : (Jvm.Cond.code ({ cls := "java/lang/StringUTF16", name := "compress", desc := "([CII)[B" } : Jvm.MethodName) jdk_52_method_16_code (6 : Nat) (Option.some (Jvm.ClassFile.FieldType.array Jvm.ClassFile.FieldType.byte))).before args0 about1 = true := code_word (m := ⟨11, 10⟩) (meth := k11m10) (c := k11c10) (by decide +kernel) rfl rfl rfl (by decide +kernel)
set_option maxRecDepth 65536 in
theorem w_c16 : (Jvm.Cond.code ({ cls := "java/lang/StringUTF16", name := "compress", desc := "([CI[BII)I" } : Jvm.MethodName) jdk_52_method_21_code (7 : Nat) (Option.some Jvm.ClassFile.FieldType.int)).before args0 about1 = true := code_word (m := ⟨11, 11⟩) (meth := k11m11) (c := k11c11) (by decide +kernel) rfl rfl rfl (by decide +kernel)
set_option maxRecDepth 65536 in
theorem w_c17 : (Jvm.Cond.code ({ cls := "java/lang/StringUTF16", name := "coderFromArrayLen", desc := "([BI)B" } : Jvm.MethodName) jdk_52_method_15_code (2 : Nat) (Option.some Jvm.ClassFile.FieldType.byte)).before args0 about1 = true := code_word (m := ⟨11, 9⟩) (meth := k11m9) (c := k11c9) (by decide +kernel) rfl rfl rfl (by decide +kernel)
set_option maxRecDepth 65536 in
theorem w_c18 : (Jvm.Cond.code ({ cls := "java/lang/String", name := "offsetByCodePoints", desc := "(II)I" } : Jvm.MethodName) jdk_42_method_60_code (3 : Nat) (Option.some Jvm.ClassFile.FieldType.int)).before args0 about1 = true := code_word (m := ⟨7, 5⟩) (meth := k7m5) (c := k7c5) (by decide +kernel) rfl rfl rfl (by decide +kernel)
set_option maxRecDepth 65536 in
theorem w_c19 : (Jvm.Cond.code ({ cls := "java/lang/Character", name := "offsetByCodePoints", desc := "(Ljava/lang/CharSequence;II)I" } : Jvm.MethodName) jdk_89_method_36_code (6 : Nat) (Option.some Jvm.ClassFile.FieldType.int)).before args0 about1 = true := code_word (m := ⟨12, 2⟩) (meth := k12m2) (c := k12c2) (by decide +kernel) rfl rfl rfl (by decide +kernel)
set_option maxRecDepth 65536 in
theorem w_c20 : (Jvm.Cond.code ({ cls := "java/lang/String", name := "charAt", desc := "(I)C" } : Jvm.MethodName) jdk_42_method_56_code (2 : Nat) (Option.some Jvm.ClassFile.FieldType.char)).before args0 about1 = true := code_word (m := ⟨7, 3⟩) (meth := k7m3) (c := k7c3) (by decide +kernel) rfl rfl rfl (by decide +kernel)
set_option maxRecDepth 65536 in
theorem w_c21 : (Jvm.Cond.code ({ cls := "java/lang/StringLatin1", name := "charAt", desc := "([BI)C" } : Jvm.MethodName) jdk_43_method_2_code (2 : Nat) (Option.some Jvm.ClassFile.FieldType.char)).before args0 about1 = true := code_word (m := ⟨13, 1⟩) (meth := k13m1) (c := k13c1) (by decide +kernel) rfl rfl rfl (by decide +kernel)
set_option maxRecDepth 65536 in
theorem w_c22 : (Jvm.Cond.code ({ cls := "java/lang/String", name := "checkIndex", desc := "(II)V" } : Jvm.MethodName) jdk_42_method_155_code (2 : Nat) (Option.none : Option Jvm.ClassFile.FieldType)).before args0 about1 = true := code_word (m := ⟨7, 9⟩) (meth := k7m9) (c := k7c9) (by decide +kernel) rfl rfl rfl (by decide +kernel)
set_option maxRecDepth 65536 in
theorem w_c23 : (Jvm.Cond.code ({ cls := "jdk/internal/util/Preconditions", name := "checkIndex", desc := "(IILjava/util/function/BiFunction;)I" } : Jvm.MethodName) jdk_41_method_11_code (3 : Nat) (Option.some Jvm.ClassFile.FieldType.int)).before args0 about1 = true := code_word (m := ⟨10, 1⟩) (meth := k10m1) (c := k10c1) (by decide +kernel) rfl rfl rfl (by decide +kernel)
set_option maxRecDepth 65536 in
theorem w_c24 : (Jvm.Cond.code ({ cls := "java/lang/Character", name := "isHighSurrogate", desc := "(C)Z" } : Jvm.MethodName) jdk_89_method_14_code (1 : Nat) (Option.some Jvm.ClassFile.FieldType.boolean)).before args0 about1 = true := code_word (m := ⟨12, 0⟩) (meth := k12m0) (c := k12c0) (by decide +kernel) rfl rfl rfl (by decide +kernel)
set_option maxRecDepth 65536 in
theorem w_c25 : (Jvm.Cond.code ({ cls := "java/lang/StringUTF16", name := "toBytes", desc := "([CII)[B" } : Jvm.MethodName) jdk_52_method_14_code (5 : Nat) (Option.some (Jvm.ClassFile.FieldType.array Jvm.ClassFile.FieldType.byte))).before args0 about1 = true := code_word (m := ⟨11, 8⟩) (meth := k11m8) (c := k11c8) (by decide +kernel) rfl rfl rfl (by decide +kernel)
set_option maxRecDepth 65536 in
theorem w_c26 : (Jvm.Cond.code ({ cls := "java/lang/StringUTF16", name := "newBytesFor", desc := "(I)[B" } : Jvm.MethodName) jdk_52_method_2_code (1 : Nat) (Option.some (Jvm.ClassFile.FieldType.array Jvm.ClassFile.FieldType.byte))).before args0 about1 = true := code_word (m := ⟨11, 1⟩) (meth := k11m1) (c := k11c1) (by decide +kernel) rfl rfl rfl (by decide +kernel)
set_option maxRecDepth 65536 in
theorem w_c27 : (Jvm.Cond.code ({ cls := "java/lang/StringUTF16", name := "newBytesLength", desc := "(I)I" } : Jvm.MethodName) jdk_52_method_3_code (1 : Nat) (Option.some Jvm.ClassFile.FieldType.int)).before args0 about1 = true := code_word (m := ⟨11, 2⟩) (meth := k11m2) (c := k11c2) (by decide +kernel) rfl rfl rfl (by decide +kernel)
set_option maxRecDepth 65536 in
theorem w_c28 : (Jvm.Cond.code ({ cls := "java/lang/StringUTF16", name := "putChar", desc := "([BII)V" } : Jvm.MethodName) jdk_52_method_4_code (3 : Nat) (Option.none : Option Jvm.ClassFile.FieldType)).before args0 about1 = true := code_word (m := ⟨11, 3⟩) (meth := k11m3) (c := k11c3) (by decide +kernel) rfl rfl rfl (by decide +kernel)
set_option maxRecDepth 65536 in
theorem w_c29 : (Jvm.Cond.code ({ cls := "java/lang/StringUTF16", name := "getChar", desc := "([BI)C" } : Jvm.MethodName) jdk_52_method_5_code (2 : Nat) (Option.some Jvm.ClassFile.FieldType.char)).before args0 about1 = true := code_word (m := ⟨11, 4⟩) (meth := k11m4) (c := k11c4) (by decide +kernel) rfl rfl rfl (by decide +kernel)
set_option maxRecDepth 65536 in
theorem w_c30 : (Jvm.Cond.code ({ cls := "com/example/shush/shush/OccurrenceMatchedPinLaw", name := "hi", desc := "(C)Z" } : Jvm.MethodName) method_3_code (1 : Nat) (Option.some Jvm.ClassFile.FieldType.boolean)).before args0 about1 = true := code_word (m := ⟨1, 2⟩) (meth := k1m2) (c := k1c2) (by decide +kernel) rfl rfl rfl (by decide +kernel)
set_option maxRecDepth 65536 in
theorem w_c31 : (Jvm.Cond.code ({ cls := "java/lang/StringUTF16", name := "codePointCount", desc := "([BII)I" } : Jvm.MethodName) jdk_52_method_12_code (3 : Nat) (Option.some Jvm.ClassFile.FieldType.int)).before args0 about1 = true := code_word (m := ⟨11, 7⟩) (meth := k11m7) (c := k11c7) (by decide +kernel) rfl rfl rfl (by decide +kernel)
set_option maxRecDepth 65536 in
theorem w_c32 : (Jvm.Cond.code ({ cls := "java/lang/StringUTF16", name := "codePointCount", desc := "([BIIZ)I" } : Jvm.MethodName) jdk_52_method_11_code (6 : Nat) (Option.some Jvm.ClassFile.FieldType.int)).before args0 about1 = true := code_word (m := ⟨11, 6⟩) (meth := k11m6) (c := k11c6) (by decide +kernel) rfl rfl rfl (by decide +kernel)
set_option maxRecDepth 65536 in
theorem w_c33 : (Jvm.Cond.code ({ cls := "java/lang/StringUTF16", name := "charAt", desc := "([BI)C" } : Jvm.MethodName) jdk_52_method_83_code (2 : Nat) (Option.some Jvm.ClassFile.FieldType.char)).before args0 about1 = true := code_word (m := ⟨11, 12⟩) (meth := k11m12) (c := k11c12) (by decide +kernel) rfl rfl rfl (by decide +kernel)
set_option maxRecDepth 65536 in
theorem w_c34 : (Jvm.Cond.code ({ cls := "java/lang/StringUTF16", name := "checkIndex", desc := "(I[B)V" } : Jvm.MethodName) jdk_52_method_91_code (2 : Nat) (Option.none : Option Jvm.ClassFile.FieldType)).before args0 about1 = true := code_word (m := ⟨11, 13⟩) (meth := k11m13) (c := k11c13) (by decide +kernel) rfl rfl rfl (by decide +kernel)
set_option maxRecDepth 65536 in
theorem w_c35 : (Jvm.Cond.code ({ cls := "java/lang/StringUTF16", name := "length", desc := "([B)I" } : Jvm.MethodName) jdk_52_method_6_code (1 : Nat) (Option.some Jvm.ClassFile.FieldType.int)).before args0 about1 = true := code_word (m := ⟨11, 5⟩) (meth := k11m5) (c := k11c5) (by decide +kernel) rfl rfl rfl (by decide +kernel)
set_option maxRecDepth 65536 in
theorem w_c36 : (Jvm.Cond.code ({ cls := "com/example/shush/shush/OccurrenceMatchedPinLaw", name := "lo", desc := "(C)Z" } : Jvm.MethodName) method_4_code (1 : Nat) (Option.some Jvm.ClassFile.FieldType.boolean)).before args0 about1 = true := code_word (m := ⟨1, 3⟩) (meth := k1m3) (c := k1c3) (by decide +kernel) rfl rfl rfl (by decide +kernel)
set_option maxRecDepth 65536 in
theorem w_c37 : (Jvm.Cond.code ({ cls := "java/lang/Character", name := "isLowSurrogate", desc := "(C)Z" } : Jvm.MethodName) jdk_89_method_15_code (1 : Nat) (Option.some Jvm.ClassFile.FieldType.boolean)).before args0 about1 = true := code_word (m := ⟨12, 1⟩) (meth := k12m1) (c := k12c1) (by decide +kernel) rfl rfl rfl (by decide +kernel)
def codes1 : List Jvm.Cond := [Jvm.Cond.code x code maxLocals ret, Jvm.Cond.code ({ cls := "com/example/shush/shush/OccurrenceMatchedPinLaw", name := "draw", desc := "(I)C" } : Jvm.MethodName) method_2_code (3 : Nat) (Option.some Jvm.ClassFile.FieldType.char), Jvm.Cond.code ({ cls := "java/lang/String", name := "<init>", desc := "([C)V" } : Jvm.MethodName) jdk_42_method_3_code (2 : Nat) (Option.none : Option Jvm.ClassFile.FieldType), Jvm.Cond.code ({ cls := "java/lang/String", name := "<init>", desc := "([CIILjava/lang/Void;)V" } : Jvm.MethodName) jdk_42_method_149_code (6 : Nat) (Option.none : Option Jvm.ClassFile.FieldType), Jvm.Cond.code ({ cls := "java/lang/Object", name := "<init>", desc := "()V" } : Jvm.MethodName) object_method_1_code (1 : Nat) (Option.none : Option Jvm.ClassFile.FieldType), Jvm.Cond.code ({ cls := "com/example/shush/shush/Occurrence", name := "<init>", desc := "(Ljava/lang/String;II)V" } : Jvm.MethodName) prog_16_method_1_code (4 : Nat) (Option.none : Option Jvm.ClassFile.FieldType), Jvm.Cond.code ({ cls := "java/util/Objects", name := "requireNonNull", desc := "(Ljava/lang/Object;Ljava/lang/String;)Ljava/lang/Object;" } : Jvm.MethodName) jdk_31_method_11_code (2 : Nat) (Option.some (Jvm.ClassFile.FieldType.object "java/lang/Object")), Jvm.Cond.code ({ cls := "com/example/shush/shush/Occurrence", name := "matched", desc := "()[I" } : Jvm.MethodName) prog_16_method_6_code (4 : Nat) (Option.some (Jvm.ClassFile.FieldType.array Jvm.ClassFile.FieldType.int)), Jvm.Cond.code ({ cls := "java/lang/String", name := "length", desc := "()I" } : Jvm.MethodName) jdk_42_method_54_code (1 : Nat) (Option.some Jvm.ClassFile.FieldType.int), Jvm.Cond.code ({ cls := "java/lang/String", name := "coder", desc := "()B" } : Jvm.MethodName) jdk_42_method_152_code (1 : Nat) (Option.some Jvm.ClassFile.FieldType.byte), Jvm.Cond.code ({ cls := "java/lang/String", name := "codePointCount", desc := "(II)I" } : Jvm.MethodName) jdk_42_method_59_code (3 : Nat) (Option.some Jvm.ClassFile.FieldType.int), Jvm.Cond.code ({ cls := "java/util/Objects", name := "checkFromToIndex", desc := "(III)I" } : Jvm.MethodName) jdk_31_method_18_code (3 : Nat) (Option.some Jvm.ClassFile.FieldType.int), Jvm.Cond.code ({ cls := "jdk/internal/util/Preconditions", name := "checkFromToIndex", desc := "(IIILjava/util/function/BiFunction;)I" } : Jvm.MethodName) jdk_41_method_12_code (4 : Nat) (Option.some Jvm.ClassFile.FieldType.int), Jvm.Cond.code ({ cls := "java/lang/String", name := "isLatin1", desc := "()Z" } : Jvm.MethodName) jdk_42_method_154_code (1 : Nat) (Option.some Jvm.ClassFile.FieldType.boolean), Jvm.Cond.code ({ cls := "com/example/shush/shush/OccurrenceMatchedPinLaw", name := "same", desc := "([I[II)Z" } : Jvm.MethodName) method_5_code (3 : Nat) (Option.some Jvm.ClassFile.FieldType.boolean), Jvm.Cond.code ({ cls := "java/lang/StringUTF16", name := "compress", desc := "([CII)[B" } : Jvm.MethodName) jdk_52_method_16_code (6 : Nat) (Option.some (Jvm.ClassFile.FieldType.array Jvm.ClassFile.FieldType.byte)), Jvm.Cond.code ({ cls := "java/lang/StringUTF16", name := "compress", desc := "([CI[BII)I" } : Jvm.MethodName) jdk_52_method_21_code (7 : Nat) (Option.some Jvm.ClassFile.FieldType.int), Jvm.Cond.code ({ cls := "java/lang/StringUTF16", name := "coderFromArrayLen", desc := "([BI)B" } : Jvm.MethodName) jdk_52_method_15_code (2 : Nat) (Option.some Jvm.ClassFile.FieldType.byte), Jvm.Cond.code ({ cls := "java/lang/String", name := "offsetByCodePoints", desc := "(II)I" } : Jvm.MethodName) jdk_42_method_60_code (3 : Nat) (Option.some Jvm.ClassFile.FieldType.int), Jvm.Cond.code ({ cls := "java/lang/Character", name := "offsetByCodePoints", desc := "(Ljava/lang/CharSequence;II)I" } : Jvm.MethodName) jdk_89_method_36_code (6 : Nat) (Option.some Jvm.ClassFile.FieldType.int), Jvm.Cond.code ({ cls := "java/lang/String", name := "charAt", desc := "(I)C" } : Jvm.MethodName) jdk_42_method_56_code (2 : Nat) (Option.some Jvm.ClassFile.FieldType.char), Jvm.Cond.code ({ cls := "java/lang/StringLatin1", name := "charAt", desc := "([BI)C" } : Jvm.MethodName) jdk_43_method_2_code (2 : Nat) (Option.some Jvm.ClassFile.FieldType.char), Jvm.Cond.code ({ cls := "java/lang/String", name := "checkIndex", desc := "(II)V" } : Jvm.MethodName) jdk_42_method_155_code (2 : Nat) (Option.none : Option Jvm.ClassFile.FieldType), Jvm.Cond.code ({ cls := "jdk/internal/util/Preconditions", name := "checkIndex", desc := "(IILjava/util/function/BiFunction;)I" } : Jvm.MethodName) jdk_41_method_11_code (3 : Nat) (Option.some Jvm.ClassFile.FieldType.int), Jvm.Cond.code ({ cls := "java/lang/Character", name := "isHighSurrogate", desc := "(C)Z" } : Jvm.MethodName) jdk_89_method_14_code (1 : Nat) (Option.some Jvm.ClassFile.FieldType.boolean), Jvm.Cond.code ({ cls := "java/lang/StringUTF16", name := "toBytes", desc := "([CII)[B" } : Jvm.MethodName) jdk_52_method_14_code (5 : Nat) (Option.some (Jvm.ClassFile.FieldType.array Jvm.ClassFile.FieldType.byte)), Jvm.Cond.code ({ cls := "java/lang/StringUTF16", name := "newBytesFor", desc := "(I)[B" } : Jvm.MethodName) jdk_52_method_2_code (1 : Nat) (Option.some (Jvm.ClassFile.FieldType.array Jvm.ClassFile.FieldType.byte)), Jvm.Cond.code ({ cls := "java/lang/StringUTF16", name := "newBytesLength", desc := "(I)I" } : Jvm.MethodName) jdk_52_method_3_code (1 : Nat) (Option.some Jvm.ClassFile.FieldType.int), Jvm.Cond.code ({ cls := "java/lang/StringUTF16", name := "putChar", desc := "([BII)V" } : Jvm.MethodName) jdk_52_method_4_code (3 : Nat) (Option.none : Option Jvm.ClassFile.FieldType), Jvm.Cond.code ({ cls := "java/lang/StringUTF16", name := "getChar", desc := "([BI)C" } : Jvm.MethodName) jdk_52_method_5_code (2 : Nat) (Option.some Jvm.ClassFile.FieldType.char), Jvm.Cond.code ({ cls := "com/example/shush/shush/OccurrenceMatchedPinLaw", name := "hi", desc := "(C)Z" } : Jvm.MethodName) method_3_code (1 : Nat) (Option.some Jvm.ClassFile.FieldType.boolean), Jvm.Cond.code ({ cls := "java/lang/StringUTF16", name := "codePointCount", desc := "([BII)I" } : Jvm.MethodName) jdk_52_method_12_code (3 : Nat) (Option.some Jvm.ClassFile.FieldType.int), Jvm.Cond.code ({ cls := "java/lang/StringUTF16", name := "codePointCount", desc := "([BIIZ)I" } : Jvm.MethodName) jdk_52_method_11_code (6 : Nat) (Option.some Jvm.ClassFile.FieldType.int), Jvm.Cond.code ({ cls := "java/lang/StringUTF16", name := "charAt", desc := "([BI)C" } : Jvm.MethodName) jdk_52_method_83_code (2 : Nat) (Option.some Jvm.ClassFile.FieldType.char), Jvm.Cond.code ({ cls := "java/lang/StringUTF16", name := "checkIndex", desc := "(I[B)V" } : Jvm.MethodName) jdk_52_method_91_code (2 : Nat) (Option.none : Option Jvm.ClassFile.FieldType), Jvm.Cond.code ({ cls := "java/lang/StringUTF16", name := "length", desc := "([B)I" } : Jvm.MethodName) jdk_52_method_6_code (1 : Nat) (Option.some Jvm.ClassFile.FieldType.int), Jvm.Cond.code ({ cls := "com/example/shush/shush/OccurrenceMatchedPinLaw", name := "lo", desc := "(C)Z" } : Jvm.MethodName) method_4_code (1 : Nat) (Option.some Jvm.ClassFile.FieldType.boolean), Jvm.Cond.code ({ cls := "java/lang/Character", name := "isLowSurrogate", desc := "(C)Z" } : Jvm.MethodName) jdk_89_method_15_code (1 : Nat) (Option.some Jvm.ClassFile.FieldType.boolean)]
set_option maxRecDepth 65536 in
theorem codes_eq : words1.filter isCode = codes1 := rfl
theorem w_codes : ∀ c ∈ words1.filter isCode, c.before args0 about1 = true := by
  rw [codes_eq]
  intro c hc
  simp only [codes1, List.mem_cons, List.not_mem_nil, or_false] at hc
  rcases hc with rfl | rfl | rfl | rfl | rfl | rfl | rfl | rfl | rfl | rfl | rfl | rfl | rfl | rfl | rfl | rfl | rfl | rfl | rfl | rfl | rfl | rfl | rfl | rfl | rfl | rfl | rfl | rfl | rfl | rfl | rfl | rfl | rfl | rfl | rfl | rfl | rfl | rfl
  · exact w_c0
  · exact w_c1
  · exact w_c2
  · exact w_c3
  · exact w_c4
  · exact w_c5
  · exact w_c6
  · exact w_c7
  · exact w_c8
  · exact w_c9
  · exact w_c10
  · exact w_c11
  · exact w_c12
  · exact w_c13
  · exact w_c14
  · exact w_c15
  · exact w_c16
  · exact w_c17
  · exact w_c18
  · exact w_c19
  · exact w_c20
  · exact w_c21
  · exact w_c22
  · exact w_c23
  · exact w_c24
  · exact w_c25
  · exact w_c26
  · exact w_c27
  · exact w_c28
  · exact w_c29
  · exact w_c30
  · exact w_c31
  · exact w_c32
  · exact w_c33
  · exact w_c34
  · exact w_c35
  · exact w_c36
  · exact w_c37
set_option maxRecDepth 65536 in
theorem w_t1 : (words1.take 24).all (fun c => isCode c || c.before args0 about1) = true := by decide +kernel
set_option maxRecDepth 65536 in
theorem w_t2 : ((words1.drop 24).take 24).all (fun c => isCode c || c.before args0 about1) = true := by decide +kernel
set_option maxRecDepth 65536 in
theorem w_t3 : (((words1.drop 24).drop 24).take 24).all (fun c => isCode c || c.before args0 about1) = true := by decide +kernel
set_option maxRecDepth 65536 in
theorem w_t4 : ((((words1.drop 24).drop 24).drop 24).take 24).all (fun c => isCode c || c.before args0 about1) = true := by decide +kernel
set_option maxRecDepth 65536 in
theorem w_t5 : (((((words1.drop 24).drop 24).drop 24).drop 24).take 24).all (fun c => isCode c || c.before args0 about1) = true := by decide +kernel
set_option maxRecDepth 65536 in
theorem w_t6 : ((((((words1.drop 24).drop 24).drop 24).drop 24).drop 24).take 24).all (fun c => isCode c || c.before args0 about1) = true := by decide +kernel
set_option maxRecDepth 65536 in
theorem w_t7 : (((((((words1.drop 24).drop 24).drop 24).drop 24).drop 24).drop 24).take 24).all (fun c => isCode c || c.before args0 about1) = true := by decide +kernel
set_option maxRecDepth 65536 in
theorem w_t8 : (((((((words1.drop 24).drop 24).drop 24).drop 24).drop 24).drop 24).drop 24).all (fun c => isCode c || c.before args0 about1) = true := by decide +kernel
theorem w_tables : (allAtoms (Jvm.Cond.code x code maxLocals ret :: tables_1)).before args0 about1 = true := by
  rw [allAtoms_all]
  show words1.all (fun c => c.before args0 about1) = true
  refine all_split ?_ w_codes
  rw [← List.take_append_drop 24 words1, List.all_append, w_t1, ← List.take_append_drop 24 (words1.drop 24), List.all_append, w_t2, ← List.take_append_drop 24 ((words1.drop 24).drop 24), List.all_append, w_t3, ← List.take_append_drop 24 (((words1.drop 24).drop 24).drop 24), List.all_append, w_t4, ← List.take_append_drop 24 ((((words1.drop 24).drop 24).drop 24).drop 24), List.all_append, w_t5, ← List.take_append_drop 24 (((((words1.drop 24).drop 24).drop 24).drop 24).drop 24), List.all_append, w_t6, ← List.take_append_drop 24 ((((((words1.drop 24).drop 24).drop 24).drop 24).drop 24).drop 24), List.all_append, w_t7, w_t8]
  rfl
set_option maxRecDepth 65536 in
theorem w_rest : rest_1_c.before args0 about1 = true := by decide +kernel
set_option maxRecDepth 65536 in
theorem w_case : (Jvm.Cond.and given_1 narrow_1).before args0 about1 = true := by decide +kernel
set_option maxRecDepth 65536 in
theorem w_consts : constsHeld consts_1 about1 := Jvm.Lit.constsHeldB_iff.mp (by decide +kernel)
theorem w_applies : (headSpec (Jvm.Cond.code x code maxLocals ret :: tables_1) room_1).applies x e0.platform about1 = true :=
  (Spec.applies_iff w_frames).mpr ⟨w_running, w_runnable, w_alone, w_named, w_hears, w_ripe, w_room, w_tables⟩
theorem atStart : AtStart classFile x code maxLocals ret World_1 tables_1 room_1 Calls_1 rest_1 Pre_1 launch0 p0 e0 about1 theMethod args0 below0 :=
  ⟨lists_1, trivial, launch0.admits_env _ _ _, launch0.least_env, fairChoices_fair.cas, fairChoices_fair.clock, w_frames, w_args, w_heap, w_applies, ⟨w_consts, trivial⟩, w_rest, w_case⟩
end start1
theorem witness_1 : WitnessClaimed_1 := ⟨start1.p0, start1.e0, start1.about1, start1.theMethod, start1.args0, start1.below0, start1.atStart⟩
end Jvm.Pilot.@@N@@
