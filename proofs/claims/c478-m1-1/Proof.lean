import JvmDerived
import JvmDerived.Pilot.@@N@@Statement
import JvmDerived.Pilot.@@N@@Code
set_option linter.unusedVariables false
set_option linter.unusedSimpArgs false
namespace Jvm.RoadKit
open Sem ClassFile Op Lib Jvm.Stand Jvm.Free Jvm.LawKit
section New
variable {p : Program} {l : Launch} {e : Env} {R : Room} {s : State} {m : MethodId} {args : Array Value} {below : List Frame} {meth : Method} {c : Code} {T : State} {locs : List Loc} {cells slots : Nat}
theorem retI (X : Stand p l e R s m args below meth c T locs cells slots) (hx : p.tables.exec = Jvm.exec) {pc : Nat} {Ls : Array Slot} {z : Int32} {rest : List Value} (hret : meth.sig.returnType = some .int) (hd : decode c.code pc = .ok (.ireturn, 1)) {fs : List Frame}
    (hl : ∀ (f : JFrame) (acts : List Action), f.method = m → f.locked = none → f.entered = [] → (doReturn e (T.setTop f) acts (some (.int z))).1 = T.setFrames fs) : Steps p.tables e below (T.setTop (mkF m pc Ls (.int z :: rest))) (T.setFrames fs) :=
  retOut X hx hret rfl (Or.inl ⟨rfl, Or.inl rfl, z, rfl⟩) hd hl
end New
end Jvm.RoadKit
/- laws to paste: Road.chN, Road.lenW, Road.empW, Road.codOf, shr0, shr1, pair_says, wide_lo, wide_hi (cut by pick.py; bodies as the Statement names them) -/
namespace Jvm.Pilot.@@N@@
namespace StrChars
open Jvm Sem ClassFile Op Lib Jvm.Stand Jvm.Free.XT Jvm.Free.ALB Jvm.Free.JM Jvm.Free
open Jvm.Lib.Cold (StaticIs)
/-- a char array whose places are chars -/
def Ch (a : Addr) (A : Cell) (U : State) : Prop := Arr .char a A U ∧ Typed .char A
theorem Ch.mv {a : Addr} {A : Cell} {U U' : State} (h : Ch a A U) (hal : U.vm.Alike U'.vm) (hh : U'.heap = U.heap) : Ch a A U' := ⟨h.1.mv hal hh, h.2⟩
theorem Ch.keep {a : Addr} {A : Cell} {U U' : State} (h : Ch a A U) (hal : U.vm.Alike U'.vm) (hk : U'.heap[a]? = some A) : Ch a A U' := ⟨h.1.keep hal hk, h.2⟩
/-- what place i of a char[]'s cell holds -/
def cv (A : Cell) (i : Nat) : Int32 := match A.slots[i]? with | some (.int x) => x | _ => 0
theorem Ch.get {a : Addr} {A : Cell} {U : State} (h : Ch a A U) {i : Nat} (hi : i < A.slots.size) : A.slots[i]? = some (.int (cv A i)) := by
  have e := Array.getElem?_eq_getElem hi
  have f := h.2 i _ e
  unfold cv; rw [e]
  generalize A.slots[i] = v at f
  cases v <;> simp [fits] at f ⊢
/-- the byte that i2b leaves of a char -/
def lo8 (x : Int32) : Int32 := x.toInt8.toInt32
theorem fits_lo8 (y : Int32) : fits .byte (.int (lo8 y)) = true := by
  have h1 := y.toInt8.le_toInt
  have h2 := y.toInt8.toInt_lt
  simp only [lo8, fits, Bool.and_eq_true, decide_eq_true_eq, Int32.le_iff_toInt_le, Int8.toInt_toInt32, show (-128 : Int32).toInt = -128 from by decide, show (127 : Int32).toInt = 127 from by decide]
  omega
/-- A' is A but that each place j of lo .. hi - 1 holds f j -/
def Laid (A A' : Cell) (lo hi : Nat) (f : Nat → Value) : Prop := A'.cls = A.cls ∧ A'.vm = A.vm ∧ A'.slots.size = A.slots.size ∧ ∀ i, A'.slots[i]? = if lo ≤ i ∧ i < hi then some (f i) else A.slots[i]?
theorem Laid.zero (A : Cell) (lo : Nat) (f : Nat → Value) : Laid A A lo (lo + 0) f := ⟨rfl, rfl, rfl, fun i => by rw [if_neg (by omega)]⟩
theorem Laid.step {A Ak : Cell} {lo k : Nat} {f : Nat → Value} {v : Value} (h : Laid A Ak lo k f) (hlo : lo ≤ k) (hk : k < Ak.slots.size) (hv : v = f k) : Laid A (Ak.setSlot k v) lo (k + 1) f := by
  refine ⟨h.1, h.2.1, by simpa [Cell.setSlot] using h.2.2.1, fun i => ?_⟩
  by_cases e : k = i
  · subst e; rw [Cell.slots_setSlot_self v hk, if_pos (by omega), hv]
  · rw [Cell.slots_setSlot_ne v e, h.2.2.2 i]
    by_cases q : lo ≤ i ∧ i < k
    · rw [if_pos q, if_pos (by omega)]
    · rw [if_neg q, if_neg (by omega)]
def U16 : String := "java/lang/StringUTF16"
namespace Cmp5
def yN : MethodName := ⟨"java/lang/StringUTF16", "compress", "([CI[BII)I"⟩
abbrev yB : ByteArray := jdk_52_method_21_code
theorem d0 : decode yB 0 = .ok (.iconst 0, 1) := by decide +kernel
theorem d1 : decode yB 1 = .ok (.istore 5, 2) := by decide +kernel
theorem d3 : decode yB 3 = .ok (.iload 5, 2) := by decide +kernel
theorem d5 : decode yB 5 = .ok (.iload 4, 2) := by decide +kernel
theorem d7 : decode yB 7 = .ok (.if_icmp (.ge) 37, 3) := by decide +kernel
theorem d10 : decode yB 10 = .ok (.aload_n 0, 1) := by decide +kernel
theorem d11 : decode yB 11 = .ok (.iload_n 1, 1) := by decide +kernel
theorem d12 : decode yB 12 = .ok (.caload, 1) := by decide +kernel
theorem d13 : decode yB 13 = .ok (.istore 6, 2) := by decide +kernel
theorem d15 : decode yB 15 = .ok (.iload 6, 2) := by decide +kernel
theorem d17 : decode yB 17 = .ok (.sipush 255, 3) := by decide +kernel
theorem d20 : decode yB 20 = .ok (.if_icmp (.le) 6, 3) := by decide +kernel
theorem d26 : decode yB 26 = .ok (.aload_n 2, 1) := by decide +kernel
theorem d27 : decode yB 27 = .ok (.iload_n 3, 1) := by decide +kernel
theorem d28 : decode yB 28 = .ok (.iload 6, 2) := by decide +kernel
theorem d30 : decode yB 30 = .ok (.i2b, 1) := by decide +kernel
theorem d31 : decode yB 31 = .ok (.bastore, 1) := by decide +kernel
theorem d32 : decode yB 32 = .ok (.iinc 1 1, 3) := by decide +kernel
theorem d35 : decode yB 35 = .ok (.iinc 3 1, 3) := by decide +kernel
theorem d38 : decode yB 38 = .ok (.iinc 5 1, 3) := by decide +kernel
theorem d41 : decode yB 41 = .ok (.goto (-38), 3) := by decide +kernel
theorem d44 : decode yB 44 = .ok (.iload 4, 2) := by decide +kernel
theorem d46 : decode yB 46 = .ok (.ireturn, 1) := by decide +kernel
def site : List Cond := []
def tab : Cond := tabOf yN yB 7 (some .int) site
def P (b : Addr) (A : Cell) (d : Addr) (B : Cell) (o q len : Nat) (args : Array Value) (s : State) : Prop := args = #[.ref b, .int (Int32.ofNat o), .ref d, .int (Int32.ofNat q), .int (Int32.ofNat len)] ∧ Ch b A s ∧ Arr .byte d B s ∧ b ≠ d ∧ o + len ≤ A.slots.size ∧ q + len ≤ B.slots.size ∧ ∀ i, i < len → ¬ 255 < cv A (o + i)
def E (b : Addr) (A : Cell) (d : Addr) (B : Cell) (o q len : Nat) (r : Option Value) (s u : State) : Prop := r = some (.int (Int32.ofNat len)) ∧ ∃ B', Put d B' s u ∧ Laid B B' q (q + len) (fun j => Value.int (lo8 (cv A (o + (j - q)))))
/-- no char of the range above 255: len; the places written hold each char's low byte -/
theorem law (l : Launch) (b : Addr) (A : Cell) (d : Addr) (B : Cell) (o q len : Nat) : Law l yN 5 5 0 0 yB 7 (some .int) site (P b A d B o q len) (E b A d B o q len) (copyLocs d q len) 0 0 := by
  refine Law.of_walk (plainFor_of_name (by decide +kernel)) (by decide +kernel) (by decide +kernel) (by decide) (fun _ _ h => by rw [h.1]; rfl) (fun _ U U' hal hh h => ⟨h.1, h.2.1.mv hal hh, h.2.2.1.mv hal hh, h.2.2.2⟩) (fun r U U' V V' h1 hal h2 h => ⟨h.1, h.2.elim fun B' q => ⟨B', q.1.mv h1 h2, q.2⟩⟩) ?_
  intro p e s m args below meth c s₁ X0 hexec hbytes hml hret hlk hnm hown hh0 W hP
  obtain ⟨rfl, hA, hB, hne, l1, l2, hp⟩ := hP
  have c1 : Steps p.tables e below (s₁.setTop (entryFrame m #[.ref b, .int (Int32.ofNat o), .ref d, .int (Int32.ofNat q), .int (Int32.ofNat len)] 7)) (s₁.setTop (mkF m 0 #[.val (.ref b), .val (.int (Int32.ofNat o)), .val (.ref d), .val (.int (Int32.ofNat q)), .val (.int (Int32.ofNat len)), .unset, .unset] [])) := entry rfl
  have hA0 := hA.1.mv X0.warmed.alike hh0
  have hB0 := hB.mv X0.warmed.alike hh0
  have a31 := hA.1.2.2.2
  have c2 : Steps p.tables e below (s₁.setTop (entryFrame m #[.ref b, .int (Int32.ofNat o), .ref d, .int (Int32.ofNat q), .int (Int32.ofNat len)] 7)) (s₁.setTop (mkF m 3 #[.val (.ref b), .val (.int (Int32.ofNat o)), .val (.ref d), .val (.int (Int32.ofNat q)), .val (.int (Int32.ofNat len)), .val (.int 0), .unset] [])) := c1.trans (by
    refine iconstV X0.here hexec rfl 0 (hb hbytes d0) (by decide) ?_
    refine XS.istore X0.here hexec rfl (hb hbytes d1) rfl rfl ?_
    exact Steps.refl _)
  have loop : ∀ (r i : Nat), i + r = len → ∀ (z : Slot), (z = .unset ∨ ∃ w, z = .val w ∧ w.category = 1) → ∀ (Tl : State) (Bk : Cell), Stand p l e { frames := 0, locals := 0, cells := 0, slots := 0 } s m #[.ref b, .int (Int32.ofNat o), .ref d, .int (Int32.ofNat q), .int (Int32.ofNat len)] below meth c Tl ([] ++ copyLocs d q i) 0 0 → Put d Bk s₁ Tl → Laid B Bk q (q + i) (fun j => Value.int (lo8 (cv A (o + (j - q))))) →
      Steps p.tables e below (s₁.setTop (entryFrame m #[.ref b, .int (Int32.ofNat o), .ref d, .int (Int32.ofNat q), .int (Int32.ofNat len)] 7)) (Tl.setTop (mkF m 3 #[.val (.ref b), .val (.int (Int32.ofNat (o + i))), .val (.ref d), .val (.int (Int32.ofNat (q + i))), .val (.int (Int32.ofNat len)), .val (.int (Int32.ofNat i)), z] [])) → ∃ (T' : State) (B' : Cell) (z' : Slot), Stand p l e { frames := 0, locals := 0, cells := 0, slots := 0 } s m #[.ref b, .int (Int32.ofNat o), .ref d, .int (Int32.ofNat q), .int (Int32.ofNat len)] below meth c T' ([] ++ copyLocs d q len) 0 0 ∧ Put d B' s₁ T' ∧ Laid B B' q (q + len) (fun j => Value.int (lo8 (cv A (o + (j - q))))) ∧
      Steps p.tables e below (s₁.setTop (entryFrame m #[.ref b, .int (Int32.ofNat o), .ref d, .int (Int32.ofNat q), .int (Int32.ofNat len)] 7)) (T'.setTop (mkF m 3 #[.val (.ref b), .val (.int (Int32.ofNat (o + len))), .val (.ref d), .val (.int (Int32.ofNat (q + len))), .val (.int (Int32.ofNat len)), .val (.int (Int32.ofNat len)), z'] [])) := by
    intro r
    induction r with
    | zero =>
      intro i hi z hz Tl Bk Xl pl fl cl
      have hil : i = len := by omega
      rw [hil] at Xl fl cl
      exact ⟨Tl, Bk, z, Xl, pl, fl, cl⟩
    | succ r ih =>
      intro i hi z hz Tl Bk Xl pl fl cl
      have all := X0.warmed.alike.symm.trans Xl.warmed.alike
      have hAl := hA0.keep all (pl.other hne hA0.1)
      have hBk := hB0.like all pl.1 fl.1 fl.2.1 fl.2.2.1
      have hlt : q + i < Bk.slots.size := by rw [fl.2.2.1]; omega
      have c3 : Steps p.tables e below (s₁.setTop (entryFrame m #[.ref b, .int (Int32.ofNat o), .ref d, .int (Int32.ofNat q), .int (Int32.ofNat len)] 7)) (Tl.setTop (mkF m 12 #[.val (.ref b), .val (.int (Int32.ofNat (o + i))), .val (.ref d), .val (.int (Int32.ofNat (q + i))), .val (.int (Int32.ofNat len)), .val (.int (Int32.ofNat i)), z] [.int (Int32.ofNat (o + i)), .ref b])) := cl.trans (by
        refine XS.iload Xl.here hexec rfl (hb hbytes d3) rfl ?_
        refine XS.iload Xl.here hexec rfl (hb hbytes d5) rfl ?_
        refine XS.icmpNo Xl.here hexec rfl (hb hbytes d7) rfl (ii_ge_f (lt32 (by omega) (by omega))) ?_
        refine XS.aloadN Xl.here hexec rfl (hb hbytes d10) rfl rfl ?_
        refine XS.iloadN Xl.here hexec rfl (hb hbytes d11) rfl ?_
        exact Steps.refl _)
      have c4 : Steps p.tables e below (s₁.setTop (entryFrame m #[.ref b, .int (Int32.ofNat o), .ref d, .int (Int32.ofNat q), .int (Int32.ofNat len)] 7)) (Tl.setTop (mkF m 13 #[.val (.ref b), .val (.int (Int32.ofNat (o + i))), .val (.ref d), .val (.int (Int32.ofNat (q + i))), .val (.int (Int32.ofNat len)), .val (.int (Int32.ofNat i)), z] [.int (cv A (o + i))])) := c3.trans (by
        refine Xl.aget hexec hAl rfl (hA.get (i := o + i) (by omega)) rfl rfl (hb hbytes d12) ?_
        exact Steps.refl _)
      have c5 : Steps p.tables e below (s₁.setTop (entryFrame m #[.ref b, .int (Int32.ofNat o), .ref d, .int (Int32.ofNat q), .int (Int32.ofNat len)] 7)) (Tl.setTop (mkF m 15 #[.val (.ref b), .val (.int (Int32.ofNat (o + i))), .val (.ref d), .val (.int (Int32.ofNat (q + i))), .val (.int (Int32.ofNat len)), .val (.int (Int32.ofNat i)), .val (.int (cv A (o + i)))] [])) := c4.trans (by
        refine XS.istoreS Xl.here hexec rfl (hb hbytes d13) rfl rfl hz ?_
        exact Steps.refl _)
      have c6 : Steps p.tables e below (s₁.setTop (entryFrame m #[.ref b, .int (Int32.ofNat o), .ref d, .int (Int32.ofNat q), .int (Int32.ofNat len)] 7)) (Tl.setTop (mkF m 31 #[.val (.ref b), .val (.int (Int32.ofNat (o + i))), .val (.ref d), .val (.int (Int32.ofNat (q + i))), .val (.int (Int32.ofNat len)), .val (.int (Int32.ofNat i)), .val (.int (cv A (o + i)))] [.int (lo8 (cv A (o + i))), .int (Int32.ofNat (q + i)), .ref d])) := c5.trans (by
        refine XS.iload Xl.here hexec rfl (hb hbytes d15) rfl ?_
        refine sipushV Xl.here hexec rfl 255 (hb hbytes d17) (by decide) ?_
        refine XS.icmpYes Xl.here hexec rfl (pc0 := 20) rfl (hb hbytes d20) rfl (ii_le_t (hp i (by omega))) (by decide) rfl ?_
        refine XS.aloadN Xl.here hexec rfl (hb hbytes d26) rfl rfl ?_
        refine XS.iloadN Xl.here hexec rfl (hb hbytes d27) rfl ?_
        refine XS.iload Xl.here hexec rfl (hb hbytes d28) rfl ?_
        refine i2b Xl.here hexec rfl (hb hbytes d30) rfl ?_
        exact Steps.refl _)
      obtain ⟨T7, X7, p7, st7⟩ := Xl.aput hexec hBk rfl hlt rfl (fits_lo8 (cv A (o + i))) (g := (mkF m 31 #[.val (.ref b), .val (.int (Int32.ofNat (o + i))), .val (.ref d), .val (.int (Int32.ofNat (q + i))), .val (.int (Int32.ofNat len)), .val (.int (Int32.ofNat i)), .val (.int (cv A (o + i)))] [.int (lo8 (cv A (o + i))), .int (Int32.ofNat (q + i)), .ref d])) rfl (rest := []) rfl (hb hbytes d31)
      have c8 : Steps p.tables e below (s₁.setTop (entryFrame m #[.ref b, .int (Int32.ofNat o), .ref d, .int (Int32.ofNat q), .int (Int32.ofNat len)] 7)) (T7.setTop (mkF m 32 #[.val (.ref b), .val (.int (Int32.ofNat (o + i))), .val (.ref d), .val (.int (Int32.ofNat (q + i))), .val (.int (Int32.ofNat len)), .val (.int (Int32.ofNat i)), .val (.int (cv A (o + i)))] [])) := c6.trans (st7 _ (Steps.refl _))
      have c9 : Steps p.tables e below (s₁.setTop (entryFrame m #[.ref b, .int (Int32.ofNat o), .ref d, .int (Int32.ofNat q), .int (Int32.ofNat len)] 7)) (T7.setTop (mkF m 3 #[.val (.ref b), .val (.int (Int32.ofNat (o + i) + 1)), .val (.ref d), .val (.int (Int32.ofNat (q + i) + 1)), .val (.int (Int32.ofNat len)), .val (.int (Int32.ofNat i + 1)), .val (.int (cv A (o + i)))] [])) := c8.trans (by
        refine iincV X7.here hexec rfl 1 (hb hbytes d32) (by decide) rfl rfl ?_
        refine iincV X7.here hexec rfl 1 (hb hbytes d35) (by decide) rfl rfl ?_
        refine iincV X7.here hexec rfl 1 (hb hbytes d38) (by decide) rfl rfl ?_
        refine XS.goto X7.here hexec rfl (pc0 := 41) rfl (hb hbytes d41) (by decide) rfl ?_
        exact Steps.refl _)
      have c10 : Steps p.tables e below (s₁.setTop (entryFrame m #[.ref b, .int (Int32.ofNat o), .ref d, .int (Int32.ofNat q), .int (Int32.ofNat len)] 7)) (T7.setTop (mkF m 3 #[.val (.ref b), .val (.int (Int32.ofNat (o + (i + 1)))), .val (.ref d), .val (.int (Int32.ofNat (q + (i + 1)))), .val (.int (Int32.ofNat len)), .val (.int (Int32.ofNat (i + 1))), .val (.int (cv A (o + i)))] [])) := by
        have := c9
        rw [succ32, succ32, succ32] at this
        exact this
      exact ih (i + 1) (by omega) _ (Or.inr ⟨_, rfl, rfl⟩) T7 _ (by rw [copyLocs_step, ← List.append_assoc]; exact X7) (pl.trans p7) (fl.step (by omega) hlt (by simp)) c10
  obtain ⟨T9, B9, z9, X9, p9, f9, g9⟩ := loop len 0 (by omega) .unset (Or.inl rfl) s₁ B (by simpa [copyLocs] using X0) ⟨hB0.1, fun _ _ => rfl, rfl⟩ (Laid.zero _ _ _) c2
  have c11 : Steps p.tables e below (s₁.setTop (entryFrame m #[.ref b, .int (Int32.ofNat o), .ref d, .int (Int32.ofNat q), .int (Int32.ofNat len)] 7)) (T9.setTop (mkF m 46 #[.val (.ref b), .val (.int (Int32.ofNat (o + len))), .val (.ref d), .val (.int (Int32.ofNat (q + len))), .val (.int (Int32.ofNat len)), .val (.int (Int32.ofNat len)), z9] [.int (Int32.ofNat len)])) := g9.trans (by
    refine XS.iload X9.here hexec rfl (hb hbytes d3) rfl ?_
    refine XS.iload X9.here hexec rfl (hb hbytes d5) rfl ?_
    refine XS.icmpYes X9.here hexec rfl (pc0 := 7) rfl (hb hbytes d7) rfl (ii_ge_t (nlt32 (by omega) (Nat.le_refl _))) (by decide) rfl ?_
    refine XS.iload X9.here hexec rfl (hb hbytes d44) rfl ?_
    exact Steps.refl _)
  exact ⟨T9, some (.int (Int32.ofNat len)), _, _, _, X9, by simp, rfl, rfl, (fun h => by cases h), ⟨rfl, B9, p9.from hh0, f9⟩, fun fs hl => c11.trans (X9.ireturnOut hexec hret rfl (Or.inl rfl) (hb hbytes d46) hl)⟩
end Cmp5
namespace Cmp3
def yN : MethodName := ⟨"java/lang/StringUTF16", "compress", "([CII)[B"⟩
abbrev yB : ByteArray := jdk_52_method_16_code
theorem d0 : decode yB 0 = .ok (.iload_n 2, 1) := by decide +kernel
theorem d1 : decode yB 1 = .ok (.newarray .byte, 2) := by decide +kernel
theorem d3 : decode yB 3 = .ok (.astore_n 3, 1) := by decide +kernel
theorem d4 : decode yB 4 = .ok (.aload_n 0, 1) := by decide +kernel
theorem d5 : decode yB 5 = .ok (.iload_n 1, 1) := by decide +kernel
theorem d6 : decode yB 6 = .ok (.aload_n 3, 1) := by decide +kernel
theorem d7 : decode yB 7 = .ok (.iconst 0, 1) := by decide +kernel
theorem d8 : decode yB 8 = .ok (.iload_n 2, 1) := by decide +kernel
theorem d9 : decode yB 9 = .ok (.invokestatic 115, 3) := by decide +kernel
theorem d12 : decode yB 12 = .ok (.istore 4, 2) := by decide +kernel
theorem d14 : decode yB 14 = .ok (.iload 4, 2) := by decide +kernel
theorem d16 : decode yB 16 = .ok (.iload_n 2, 1) := by decide +kernel
theorem d17 : decode yB 17 = .ok (.if_icmp (.eq) 40, 3) := by decide +kernel
theorem d57 : decode yB 57 = .ok (.aload_n 3, 1) := by decide +kernel
theorem d58 : decode yB 58 = .ok (.areturn, 1) := by decide +kernel
def site : List Cond := [.arrayClass .byte, Cmp5.tab] ++ staticW U16 115 Cmp5.yN
def tab : Cond := tabOf yN yB 6 (some (.array .byte)) site
def P (b : Addr) (A : Cell) (o len : Nat) (args : Array Value) (s : State) : Prop := args = #[.ref b, .int (Int32.ofNat o), .int (Int32.ofNat len)] ∧ Ch b A s ∧ o + len ≤ A.slots.size ∧ len ≤ 536870912 ∧ ∀ i, i < len → ¬ 255 < cv A (o + i)
def E (b : Addr) (A : Cell) (o len : Nat) (r : Option Value) (s u : State) : Prop := NewArr .byte "[B" len (fun j => .int (lo8 (cv A (o + j)))) r s u ∧ u.heap.size = s.heap.size + 1
/-- no char of the range above 255: a new byte[] of their low bytes -/
theorem law (l : Launch) (b : Addr) (A : Cell) (o len : Nat) : Law l yN 3 3 1 18 yB 6 (some (.array .byte)) site (P b A o len) (E b A o len) [] 1 len := by
  refine Law.of_walk (plainFor_of_name (by decide +kernel)) (by decide +kernel) (by decide +kernel) (by decide) (fun _ _ h => by rw [h.1]; rfl) (fun _ U U' hal hh h => ⟨h.1, h.2.1.mv hal hh, h.2.2⟩) (fun r U U' V V' h1 hal h2 h => ⟨NewArr.mv r U U' V V' h1 hal h2 h.1, by rw [h1, h2]; exact h.2⟩) ?_
  intro p e s m args below meth c s₁ X0 hexec hbytes hml hret hlk hnm hown hh0 W hP
  obtain ⟨rfl, hA, l1, l2, hp⟩ := hP
  have a31 := hA.1.2.2.2
  have c1 : Steps p.tables e below (s₁.setTop (entryFrame m #[.ref b, .int (Int32.ofNat o), .int (Int32.ofNat len)] 6)) (s₁.setTop (mkF m 0 #[.val (.ref b), .val (.int (Int32.ofNat o)), .val (.int (Int32.ofNat len)), .unset, .unset, .unset] [])) := entry rfl
  have c2 : Steps p.tables e below (s₁.setTop (entryFrame m #[.ref b, .int (Int32.ofNat o), .int (Int32.ofNat len)] 6)) (s₁.setTop (mkF m 1 #[.val (.ref b), .val (.int (Int32.ofNat o)), .val (.int (Int32.ofNat len)), .unset, .unset, .unset] [.int (Int32.ofNat len)])) := c1.trans (by
    refine XS.iloadN X0.here hexec rfl (hb hbytes d0) rfl ?_
    exact Steps.refl _)
  obtain ⟨T3, B3, X3, ba3, bs3, bv3, bh3, bf3, st3⟩ := X0.anew hexec (atype := .byte) (wk W (.arrayClass .byte)) rfl (by show len * 1 ≤ _; omega) (by omega) (g := (mkF m 1 #[.val (.ref b), .val (.int (Int32.ofNat o)), .val (.int (Int32.ofNat len)), .unset, .unset, .unset] [.int (Int32.ofNat len)])) rfl (hb hbytes d1) (rest := []) rfl (Nat.le_refl _) (by show 0 + len ≤ len; omega)
  rw [hh0] at ba3 st3
  have kp3 : XT.Kept s T3 := (XT.Kept.of_eq hh0).push bh3
  have hA3 := hA.keep X3.warmed.alike (kp3 _ _ hA.1.1)
  have hne : b ≠ s.heap.size := hA.1.ne
  have c4 : Steps p.tables e below (s₁.setTop (entryFrame m #[.ref b, .int (Int32.ofNat o), .int (Int32.ofNat len)] 6)) (T3.setTop (mkF m 3 #[.val (.ref b), .val (.int (Int32.ofNat o)), .val (.int (Int32.ofNat len)), .unset, .unset, .unset] [.ref s.heap.size])) := c2.trans (st3 _ (Steps.refl _))
  have c5 : Steps p.tables e below (s₁.setTop (entryFrame m #[.ref b, .int (Int32.ofNat o), .int (Int32.ofNat len)] 6)) (T3.setTop (mkF m 9 #[.val (.ref b), .val (.int (Int32.ofNat o)), .val (.int (Int32.ofNat len)), .val (.ref s.heap.size), .unset, .unset] [.int (Int32.ofNat len), .int 0, .ref s.heap.size, .int (Int32.ofNat o), .ref b])) := c4.trans (by
    refine XS.astoreN X3.here hexec rfl (hb hbytes d3) rfl rfl rfl ?_
    refine XS.aloadN X3.here hexec rfl (hb hbytes d4) rfl rfl ?_
    refine XS.iloadN X3.here hexec rfl (hb hbytes d5) rfl ?_
    refine XS.aloadN X3.here hexec rfl (hb hbytes d6) rfl rfl ?_
    refine iconstV X3.here hexec rfl 0 (hb hbytes d7) (by decide) ?_
    refine XS.iloadN X3.here hexec rfl (hb hbytes d8) rfl ?_
    exact Steps.refl _)
  obtain ⟨v6, T6, X6, E6, g6⟩ := X3.callS hexec (Cmp5.law l b A s.heap.size B3 o 0 len) hown (wks W (staticW U16 115 Cmp5.yN)) (wk W Cmp5.tab) (W := 0) (Nat.le_of_ble_eq_true rfl) (Nat.le_of_ble_eq_true rfl) (Nat.le_refl _) (by show 0 + len + 0 ≤ len; omega) (g := (mkF m 9 #[.val (.ref b), .val (.int (Int32.ofNat o)), .val (.int (Int32.ofNat len)), .val (.ref s.heap.size), .unset, .unset] [.int (Int32.ofNat len), .int (Int32.ofNat 0), .ref s.heap.size, .int (Int32.ofNat o), .ref b])) rfl (by rw [hml]; rfl) c5 (argsL := [.ref b, .int (Int32.ofNat o), .ref s.heap.size, .int (Int32.ofNat 0), .int (Int32.ofNat len)]) (rest := []) rfl rfl (by show 2 * 0 + 0 ≤ _; decide) (hb hbytes d9) (⟨rfl, hA3, ba3, hne, l1, by rw [bs3]; simp, hp⟩)
  obtain ⟨rfl, B6, p6, f6⟩ := E6
  have c7 : Steps p.tables e below (s₁.setTop (entryFrame m #[.ref b, .int (Int32.ofNat o), .int (Int32.ofNat len)] 6)) (T6.setTop (mkF m 12 #[.val (.ref b), .val (.int (Int32.ofNat o)), .val (.int (Int32.ofNat len)), .val (.ref s.heap.size), .unset, .unset] [.int (Int32.ofNat len)])) := g6
  have c8 : Steps p.tables e below (s₁.setTop (entryFrame m #[.ref b, .int (Int32.ofNat o), .int (Int32.ofNat len)] 6)) (T6.setTop (mkF m 58 #[.val (.ref b), .val (.int (Int32.ofNat o)), .val (.int (Int32.ofNat len)), .val (.ref s.heap.size), .val (.int (Int32.ofNat len)), .unset] [.ref s.heap.size])) := c7.trans (by
    refine XS.istore X6.here hexec rfl (hb hbytes d12) rfl rfl ?_
    refine XS.iload X6.here hexec rfl (hb hbytes d14) rfl ?_
    refine XS.iloadN X6.here hexec rfl (hb hbytes d16) rfl ?_
    refine XS.icmpYes X6.here hexec rfl (pc0 := 17) rfl (hb hbytes d17) rfl (ii_eq_t rfl) (by decide) rfl ?_
    refine XS.aloadN X6.here hexec rfl (hb hbytes d57) rfl rfl ?_
    exact Steps.refl _)
  have X8 := X6.wide (L' := []) (cells' := 1) (slots' := len) (fun x hx hlt => by
    simp only [List.nil_append, copyLocs, List.mem_map, List.mem_range] at hx
    obtain ⟨i, -, rfl⟩ := hx
    exact absurd hlt (Nat.lt_irrefl _)) (Nat.le_refl _) (by omega)
  exact ⟨T6, some (.ref s.heap.size), _, _, _, X8, rfl, rfl, rfl, (fun h => by cases h), ⟨⟨rfl, B6, ba3.like (X3.warmed.alike.symm.trans X6.warmed.alike) p6.1 f6.1 f6.2.1 f6.2.2.1, f6.2.1.trans bv3, by rw [X6.warmed.alike.findClass, f6.1]; exact bf3, by rw [f6.2.2.1, bs3]; simp, fun j hj => by rw [f6.2.2.2 j, if_pos (by omega)]; rfl, kp3.put p6 (Nat.le_refl _)⟩, by rw [p6.2.2, bh3, hh0]; simp⟩, fun fs hl => c8.trans (X8.areturnOut hexec rfl hret rfl (hb hbytes d58) hl)⟩
end Cmp3
namespace CodL
def yN : MethodName := ⟨"java/lang/StringUTF16", "coderFromArrayLen", "([BI)B"⟩
abbrev yB : ByteArray := jdk_52_method_15_code
theorem d0 : decode yB 0 = .ok (.iload_n 1, 1) := by decide +kernel
theorem d1 : decode yB 1 = .ok (.aload_n 0, 1) := by decide +kernel
theorem d2 : decode yB 2 = .ok (.arraylength, 1) := by decide +kernel
theorem d3 : decode yB 3 = .ok (.isub, 1) := by decide +kernel
theorem d4 : decode yB 4 = .ok (.bipush 31, 2) := by decide +kernel
theorem d6 : decode yB 6 = .ok (.iushr, 1) := by decide +kernel
theorem d7 : decode yB 7 = .ok (.i2b, 1) := by decide +kernel
theorem d8 : decode yB 8 = .ok (.ireturn, 1) := by decide +kernel
def site : List Cond := []
def tab : Cond := tabOf yN yB 2 (some .byte) site
def P (d : Addr) (B : Cell) (args : Array Value) (s : State) : Prop := args = #[.ref d, .int (Int32.ofNat B.slots.size)] ∧ Arr .byte d B s
def E (r : Option Value) (s u : State) : Prop := XT.PureE (some (.int 0)) r s u
/-- an array as long as the number of chars: LATIN1 -/
theorem law (l : Launch) (d : Addr) (B : Cell) : Law l yN 2 2 0 0 yB 2 (some .byte) site (P d B) E [] 0 0 := by
  refine Law.of_walk (plainFor_of_name (by decide +kernel)) (by decide +kernel) (by decide +kernel) (by decide) (fun _ _ h => by rw [h.1]; rfl) (fun _ U U' hal hh h => ⟨h.1, h.2.mv hal hh⟩) (fun r U U' V V' h1 hal h2 h => XT.PureE.mv r U U' V V' h1 hal h2 h) ?_
  intro p e s m args below meth c s₁ X0 hexec hbytes hml hret hlk hnm hown hh0 W hP
  obtain ⟨rfl, hB⟩ := hP
  have hB0 := hB.mv X0.warmed.alike hh0
  have c1 : Steps p.tables e below (s₁.setTop (entryFrame m #[.ref d, .int (Int32.ofNat B.slots.size)] 2)) (s₁.setTop (mkF m 0 #[.val (.ref d), .val (.int (Int32.ofNat B.slots.size))] [])) := entry rfl
  have c2 : Steps p.tables e below (s₁.setTop (entryFrame m #[.ref d, .int (Int32.ofNat B.slots.size)] 2)) (s₁.setTop (mkF m 2 #[.val (.ref d), .val (.int (Int32.ofNat B.slots.size))] [.ref d, .int (Int32.ofNat B.slots.size)])) := c1.trans (by
    refine XS.iloadN X0.here hexec rfl (hb hbytes d0) rfl ?_
    refine XS.aloadN X0.here hexec rfl (hb hbytes d1) rfl rfl ?_
    exact Steps.refl _)
  have c3 : Steps p.tables e below (s₁.setTop (entryFrame m #[.ref d, .int (Int32.ofNat B.slots.size)] 2)) (s₁.setTop (mkF m 8 #[.val (.ref d), .val (.int (Int32.ofNat B.slots.size))] [.int (lo8 (ushr (Int32.ofNat B.slots.size - Int32.ofNat B.slots.size) 31))])) := c2.trans (by
    refine X0.alen hexec hB0 rfl rfl (hb hbytes d2) ?_
    refine XS.isub X0.here hexec rfl (hb hbytes d3) rfl ?_
    refine bipushV X0.here hexec rfl 31 (hb hbytes d4) (by decide) ?_
    refine iushr X0.here hexec rfl (hb hbytes d6) rfl ?_
    refine i2b X0.here hexec rfl (hb hbytes d7) rfl ?_
    exact Steps.refl _)
  have e0 : lo8 (ushr (Int32.ofNat B.slots.size - Int32.ofNat B.slots.size) 31) = 0 := by rw [Int32.sub_self]; decide
  rw [e0] at c3
  exact ⟨s₁, some (.int 0), _, _, _, X0, rfl, rfl, rfl, (fun h => by cases h), ⟨rfl, hh0⟩, fun fs hl => c3.trans (X0.ireturnOut hexec hret rfl (Or.inr (Or.inr (Or.inl rfl))) (hb hbytes d8) hl)⟩
end CodL
/-- the String at a is Latin-1 over a new byte[] (the heap's one new cell): the low bytes of the len chars of A from o on; every cell but a is kept -/
def Got (a : Addr) (D : Cell) (fV fC : Field) (A : Cell) (o len : Nat) (r : Option Value) (s u : State) : Prop := r = none ∧ ∃ D' V : Cell, Blank "java/lang/String" a D' u ∧ Same D D' [fV.slot, fC.slot] ∧ D'.slots[fV.slot]? = some (.ref s.heap.size) ∧ D'.slots[fC.slot]? = some (.int 0) ∧ Arr .byte s.heap.size V u ∧ V.vm = .none ∧ u.vm.findClass "[B" = some V.cls ∧ V.slots.size = len ∧ (∀ j, j < len → V.slots[j]? = some (.int (lo8 (cv A (o + j))))) ∧ (∀ (y : Addr) (c : Cell), y ≠ a → s.heap[y]? = some c → u.heap[y]? = some c) ∧ u.heap.size = s.heap.size + 1
theorem Got.mv {a : Addr} {D A : Cell} {fV fC : Field} {o len : Nat} : ∀ r (U U' V V' : State), U'.heap = U.heap → V.vm.Alike V'.vm → V'.heap = V.heap → Got a D fV fC A o len r U V → Got a D fV fC A o len r U' V' :=
  fun r U U' V V' h1 hal h2 ⟨e0, D', X, a1, a2, a3, a4, a5, a6, a7, a8, a9, a10, a11⟩ => ⟨e0, D', X, a1.mv hal h2, a2, by rw [h1]; exact a3, a4, by rw [h1]; exact a5.mv hal h2, a6, by rw [hal.findClass]; exact a7, a8, a9, by rw [h1, h2]; exact a10, by rw [h1, h2]; exact a11⟩
namespace New4
def yN : MethodName := ⟨"java/lang/String", "<init>", "([CIILjava/lang/Void;)V"⟩
abbrev yB : ByteArray := jdk_42_method_149_code
theorem d0 : decode yB 0 = .ok (.aload_n 0, 1) := by decide +kernel
theorem d1 : decode yB 1 = .ok (.invokespecial 1, 3) := by decide +kernel
theorem d4 : decode yB 4 = .ok (.iload_n 3, 1) := by decide +kernel
theorem d5 : decode yB 5 = .ok (.ifCond (.ne) 22, 3) := by decide +kernel
theorem d27 : decode yB 27 = .ok (.getstatic 38, 3) := by decide +kernel
theorem d30 : decode yB 30 = .ok (.ifCond (.eq) 28, 3) := by decide +kernel
theorem d33 : decode yB 33 = .ok (.aload_n 1, 1) := by decide +kernel
theorem d34 : decode yB 34 = .ok (.iload_n 2, 1) := by decide +kernel
theorem d35 : decode yB 35 = .ok (.iload_n 3, 1) := by decide +kernel
theorem d36 : decode yB 36 = .ok (.invokestatic 177, 3) := by decide +kernel
theorem d39 : decode yB 39 = .ok (.astore 5, 2) := by decide +kernel
theorem d41 : decode yB 41 = .ok (.aload_n 0, 1) := by decide +kernel
theorem d42 : decode yB 42 = .ok (.aload 5, 2) := by decide +kernel
theorem d44 : decode yB 44 = .ok (.iload_n 3, 1) := by decide +kernel
theorem d45 : decode yB 45 = .ok (.invokestatic 47, 3) := by decide +kernel
theorem d48 : decode yB 48 = .ok (.putfield 15, 3) := by decide +kernel
theorem d51 : decode yB 51 = .ok (.aload_n 0, 1) := by decide +kernel
theorem d52 : decode yB 52 = .ok (.aload 5, 2) := by decide +kernel
theorem d54 : decode yB 54 = .ok (.putfield 9, 3) := by decide +kernel
theorem d57 : decode yB 57 = .ok (.return_, 1) := by decide +kernel
def site : List Cond := [.fieldLink "java/lang/String" 38 "java/lang/String" "COMPACT_STRINGS" "Z", Cmp3.tab, CodL.tab, .laysFinal "java/lang/String" "java/lang/String" "value" "[B", .fieldLink "java/lang/String" 9 "java/lang/String" "value" "[B", .laysFinal "java/lang/String" "java/lang/String" "coder" "B", .fieldLink "java/lang/String" 15 "java/lang/String" "coder" "B"] ++ objW "java/lang/String" 1 ++ staticW "java/lang/String" 177 Cmp3.yN ++ staticW "java/lang/String" 47 CodL.yN
def tab : Cond := tabOf yN yB 6 none site
def P (a : Addr) (D : Cell) (fV fC : Field) (b : Addr) (A : Cell) (z : Int32) (o len : Nat) (args : Array Value) (s : State) : Prop := args = #[.ref a, .ref b, .int (Int32.ofNat o), .int (Int32.ofNat len), .null] ∧ Blank "java/lang/String" a D s ∧ Found "java/lang/String" "value" "[B" fV s ∧ Found "java/lang/String" "coder" "B" fC s ∧ Ch b A s ∧ StaticIs s "java/lang/String" "COMPACT_STRINGS" "Z" (.int z) ∧ ¬ z = 0 ∧ 0 < len ∧ o + len ≤ A.slots.size ∧ len ≤ 536870912 ∧ ∀ i, i < len → ¬ 255 < cv A (o + i)
def E (a : Addr) (D : Cell) (fV fC : Field) (A : Cell) (o len : Nat) (r : Option Value) (s u : State) : Prop := Got a D fV fC A o len r s u
/-- len > 0, no char of the range above 255: a Latin-1 String of their low bytes -/
theorem law (l : Launch) (a : Addr) (D : Cell) (fV fC : Field) (b : Addr) (A : Cell) (z : Int32) (o len : Nat) : Law l yN 5 4 2 35 yB 6 none site (P a D fV fC b A z o len) (E a D fV fC A o len) [⟨a, fC.slot⟩, ⟨a, fV.slot⟩] 1 len := by
  refine Law.of_walk (plainFor_of_name (by decide +kernel)) (by decide +kernel) (by decide +kernel) (by decide) (fun _ _ h => by rw [h.1]; rfl) (fun _ U U' hal hh h => ⟨h.1, h.2.1.mv hal hh, h.2.2.1.al hal, h.2.2.2.1.al hal, h.2.2.2.2.1.mv hal hh, h.2.2.2.2.2.1.there hal hh, h.2.2.2.2.2.2⟩) (fun r U U' V V' h1 hal h2 h => Got.mv r U U' V V' h1 hal h2 h) ?_
  intro p e s m args below meth c s₁ X0 hexec hbytes hml hret hlk hnm hown hh0 W hP
  obtain ⟨rfl, hB, f1, f2, hA, s1, hz, l0, l1, l2, hp⟩ := hP
  have a31 := hA.1.2.2.2
  have c1 : Steps p.tables e below (s₁.setTop (entryFrame m #[.ref a, .ref b, .int (Int32.ofNat o), .int (Int32.ofNat len), .null] 6)) (s₁.setTop (mkF m 0 #[.val (.ref a), .val (.ref b), .val (.int (Int32.ofNat o)), .val (.int (Int32.ofNat len)), .val .null, .unset] [])) := entry rfl
  have c2 : Steps p.tables e below (s₁.setTop (entryFrame m #[.ref a, .ref b, .int (Int32.ofNat o), .int (Int32.ofNat len), .null] 6)) (s₁.setTop (mkF m 1 #[.val (.ref a), .val (.ref b), .val (.int (Int32.ofNat o)), .val (.int (Int32.ofNat len)), .val .null, .unset] [.ref a])) := c1.trans (by
    refine XS.aloadN X0.here hexec rfl (hb hbytes d0) rfl rfl ?_
    exact Steps.refl _)
  obtain ⟨T3, X3, q3, st3⟩ := X0.oinit hexec hown (wks W (objW "java/lang/String" 1)) (g := (mkF m 1 #[.val (.ref a), .val (.ref b), .val (.int (Int32.ofNat o)), .val (.int (Int32.ofNat len)), .val .null, .unset] [.ref a])) rfl (by rw [hml]; rfl) (rest := []) rfl (hb hbytes d1) (W := 0) (by show 2 * 0 + 0 ≤ _; decide) (Nat.le_of_ble_eq_true rfl) (Nat.le_of_ble_eq_true rfl)
  have hh3 := q3.trans hh0
  have c4 : Steps p.tables e below (s₁.setTop (entryFrame m #[.ref a, .ref b, .int (Int32.ofNat o), .int (Int32.ofNat len), .null] 6)) (T3.setTop (mkF m 27 #[.val (.ref a), .val (.ref b), .val (.int (Int32.ofNat o)), .val (.int (Int32.ofNat len)), .val .null, .unset] [])) := (c2.trans (st3 _ (Steps.refl _))).trans (by
    refine XS.iloadN X3.here hexec rfl (hb hbytes d4) rfl ?_
    refine XS.ifYes X3.here hexec rfl (pc0 := 5) rfl (hb hbytes d5) rfl (i0_ne_t (nz32 (by omega) l0)) (by decide) rfl ?_
    exact Steps.refl _)
  obtain ⟨T5, X5, q5, st5⟩ := X3.sget hexec hown (wk W (.fieldLink "java/lang/String" 38 "java/lang/String" "COMPACT_STRINGS" "Z")) s1 (fun _ _ h => by rw [hh3]; exact h) (g := (mkF m 27 #[.val (.ref a), .val (.ref b), .val (.int (Int32.ofNat o)), .val (.int (Int32.ofNat len)), .val .null, .unset] [])) rfl (hb hbytes d27)
  have hh5 := q5.trans hh3
  have c6 : Steps p.tables e below (s₁.setTop (entryFrame m #[.ref a, .ref b, .int (Int32.ofNat o), .int (Int32.ofNat len), .null] 6)) (T5.setTop (mkF m 30 #[.val (.ref a), .val (.ref b), .val (.int (Int32.ofNat o)), .val (.int (Int32.ofNat len)), .val .null, .unset] [.int z])) := c4.trans (st5 _ (Steps.refl _))
  have c7 : Steps p.tables e below (s₁.setTop (entryFrame m #[.ref a, .ref b, .int (Int32.ofNat o), .int (Int32.ofNat len), .null] 6)) (T5.setTop (mkF m 36 #[.val (.ref a), .val (.ref b), .val (.int (Int32.ofNat o)), .val (.int (Int32.ofNat len)), .val .null, .unset] [.int (Int32.ofNat len), .int (Int32.ofNat o), .ref b])) := c6.trans (by
    refine XS.ifNo X5.here hexec rfl (hb hbytes d30) rfl (i0_eq_f hz) ?_
    refine XS.aloadN X5.here hexec rfl (hb hbytes d33) rfl rfl ?_
    refine XS.iloadN X5.here hexec rfl (hb hbytes d34) rfl ?_
    refine XS.iloadN X5.here hexec rfl (hb hbytes d35) rfl ?_
    exact Steps.refl _)
  obtain ⟨v8, T8, X8, E8, g8⟩ := X5.callS hexec (Cmp3.law l b A o len) hown (wks W (staticW "java/lang/String" 177 Cmp3.yN)) (wk W Cmp3.tab) (W := 0) (Nat.le_of_ble_eq_true rfl) (Nat.le_of_ble_eq_true rfl) (Nat.le_refl _) (by show 0 + len ≤ len; omega) (g := (mkF m 36 #[.val (.ref a), .val (.ref b), .val (.int (Int32.ofNat o)), .val (.int (Int32.ofNat len)), .val .null, .unset] [.int (Int32.ofNat len), .int (Int32.ofNat o), .ref b])) rfl (by rw [hml]; rfl) c7 (argsL := [.ref b, .int (Int32.ofNat o), .int (Int32.ofNat len)]) (rest := []) rfl rfl (by show 2 * 0 + 0 ≤ _; decide) (hb hbytes d36) (⟨rfl, hA.mv X5.warmed.alike hh5, l1, l2, hp⟩)
  obtain ⟨e8, z8⟩ := E8
  obtain ⟨rfl, N, n1, n2, n3, n4, n5, n6⟩ := NewArr.mv _ T5 s _ _ hh5.symm (Vm.Alike.refl _) rfl e8
  rw [hh5] at z8
  have hB1 := hB.keep X8.warmed.alike (n6 _ _ hB.1)
  have hne : s.heap.size ≠ a := (Nat.ne_of_lt (Array.getElem?_eq_some_iff.mp hB.1).1).symm
  have c9 : Steps p.tables e below (s₁.setTop (entryFrame m #[.ref a, .ref b, .int (Int32.ofNat o), .int (Int32.ofNat len), .null] 6)) (T8.setTop (mkF m 39 #[.val (.ref a), .val (.ref b), .val (.int (Int32.ofNat o)), .val (.int (Int32.ofNat len)), .val .null, .unset] [.ref s.heap.size])) := g8
  have c10 : Steps p.tables e below (s₁.setTop (entryFrame m #[.ref a, .ref b, .int (Int32.ofNat o), .int (Int32.ofNat len), .null] 6)) (T8.setTop (mkF m 45 #[.val (.ref a), .val (.ref b), .val (.int (Int32.ofNat o)), .val (.int (Int32.ofNat len)), .val .null, .val (.ref s.heap.size)] [.int (Int32.ofNat N.slots.size), .ref s.heap.size, .ref a])) := by
    have hc : Steps p.tables e below (s₁.setTop (entryFrame m #[.ref a, .ref b, .int (Int32.ofNat o), .int (Int32.ofNat len), .null] 6)) (T8.setTop (mkF m 45 #[.val (.ref a), .val (.ref b), .val (.int (Int32.ofNat o)), .val (.int (Int32.ofNat len)), .val .null, .val (.ref s.heap.size)] [.int (Int32.ofNat len), .ref s.heap.size, .ref a])) := c9.trans (by
      refine XS.astore X8.here hexec rfl (hb hbytes d39) rfl rfl rfl ?_
      refine XS.aloadN X8.here hexec rfl (hb hbytes d41) rfl rfl ?_
      refine XS.aload X8.here hexec rfl (hb hbytes d42) rfl rfl ?_
      refine XS.iloadN X8.here hexec rfl (hb hbytes d44) rfl ?_
      exact Steps.refl _)
    rw [n4]; exact hc
  obtain ⟨v11, T11, X11, E11, g11⟩ := X8.callS hexec (CodL.law l s.heap.size N) hown (wks W (staticW "java/lang/String" 47 CodL.yN)) (wk W CodL.tab) (W := 1) (Nat.le_of_ble_eq_true rfl) (Nat.le_of_ble_eq_true rfl) (Nat.le_refl _) (by show 0 + len + 0 ≤ len; omega) (g := (mkF m 45 #[.val (.ref a), .val (.ref b), .val (.int (Int32.ofNat o)), .val (.int (Int32.ofNat len)), .val .null, .val (.ref s.heap.size)] [.int (Int32.ofNat N.slots.size), .ref s.heap.size, .ref a])) rfl (by rw [hml]; rfl) c10 (argsL := [.ref s.heap.size, .int (Int32.ofNat N.slots.size)]) (rest := [.ref a]) rfl rfl (by show 2 * 0 + (1 + 0) ≤ _; decide) (hb hbytes d45) (⟨rfl, n1⟩)
  obtain ⟨rfl, q11⟩ := E11
  have hB11 := hB1.mv (X8.warmed.alike.symm.trans X11.warmed.alike) q11
  have c12 : Steps p.tables e below (s₁.setTop (entryFrame m #[.ref a, .ref b, .int (Int32.ofNat o), .int (Int32.ofNat len), .null] 6)) (T11.setTop (mkF m 48 #[.val (.ref a), .val (.ref b), .val (.int (Int32.ofNat o)), .val (.int (Int32.ofNat len)), .val .null, .val (.ref s.heap.size)] [.int 0, .ref a])) := g11
  obtain ⟨T13, X13, p13, bl13, sl13, st13⟩ := X11.finit hexec hown (wk W (.fieldLink "java/lang/String" 15 "java/lang/String" "coder" "B")) (Or.inr ⟨_, (wk W (.laysFinal "java/lang/String" "java/lang/String" "coder" "B"))⟩) (Or.inl ⟨rfl, hnm⟩) f2 (Or.inl rfl) hB11 (t := .byte) (by decide +kernel) rfl (g := (mkF m 48 #[.val (.ref a), .val (.ref b), .val (.int (Int32.ofNat o)), .val (.int (Int32.ofNat len)), .val .null, .val (.ref s.heap.size)] [.int 0, .ref a])) rfl (rest := []) rfl (hb hbytes d48)
  have c14 : Steps p.tables e below (s₁.setTop (entryFrame m #[.ref a, .ref b, .int (Int32.ofNat o), .int (Int32.ofNat len), .null] 6)) (T13.setTop (mkF m 54 #[.val (.ref a), .val (.ref b), .val (.int (Int32.ofNat o)), .val (.int (Int32.ofNat len)), .val .null, .val (.ref s.heap.size)] [.ref s.heap.size, .ref a])) := (c12.trans (st13 _ (Steps.refl _))).trans (by
    refine XS.aloadN X13.here hexec rfl (hb hbytes d51) rfl rfl ?_
    refine XS.aload X13.here hexec rfl (hb hbytes d52) rfl rfl ?_
    exact Steps.refl _)
  obtain ⟨T15, X15, p15, bl15, sl15, st15⟩ := X13.finit hexec hown (wk W (.fieldLink "java/lang/String" 9 "java/lang/String" "value" "[B")) (Or.inr ⟨_, (wk W (.laysFinal "java/lang/String" "java/lang/String" "value" "[B"))⟩) (Or.inl ⟨rfl, hnm⟩) f1 (Or.inl rfl) bl13 (t := (.array .byte)) (by decide +kernel) rfl (g := (mkF m 54 #[.val (.ref a), .val (.ref b), .val (.int (Int32.ofNat o)), .val (.int (Int32.ofNat len)), .val .null, .val (.ref s.heap.size)] [.ref s.heap.size, .ref a])) rfl (rest := []) rfl (hb hbytes d54)
  have c16 : Steps p.tables e below (s₁.setTop (entryFrame m #[.ref a, .ref b, .int (Int32.ofNat o), .int (Int32.ofNat len), .null] 6)) (T15.setTop (mkF m 57 #[.val (.ref a), .val (.ref b), .val (.int (Int32.ofNat o)), .val (.int (Int32.ofNat len)), .val .null, .val (.ref s.heap.size)] [])) := c14.trans (st15 _ (Steps.refl _))
  have ap := apart (Or.inr ⟨_, (wk W (.laysFinal "java/lang/String" "java/lang/String" "value" "[B"))⟩) (Or.inr ⟨_, (wk W (.laysFinal "java/lang/String" "java/lang/String" "coder" "B"))⟩) f1 f2 (t₁ := .array .byte) (t₂ := .byte) (by decide +kernel) (by decide +kernel) (by decide)
  have al := X8.warmed.alike.symm.trans X15.warmed.alike
  have n7 : T11.heap[s.heap.size]? = some N := by rw [q11]; exact n1.1
  exact ⟨T15, none, _, _, _, X15, by simp, rfl, by omega, (fun _ => rfl), ⟨rfl, _, N, bl15, ((Same.refl D _).set _ (by simp)).set _ (by simp), sl15, (Cell.slots_setSlot_ne _ ap).trans sl13, n1.keep al (p15.other hne (p13.other hne n7)), n2, by rw [al.findClass]; exact n3, n4, n5, fun y c h1 h2 => p15.other h1 (p13.other h1 (by rw [q11]; exact n6 y c h2)), by rw [p15.2.2, p13.2.2, q11]; exact z8⟩, fun fs hl => c16.trans (X15.returnOut hexec hret (hb hbytes d57) hl)⟩
end New4
namespace New1
def yN : MethodName := ⟨"java/lang/String", "<init>", "([C)V"⟩
abbrev yB : ByteArray := jdk_42_method_3_code
theorem d0 : decode yB 0 = .ok (.aload_n 0, 1) := by decide +kernel
theorem d1 : decode yB 1 = .ok (.aload_n 1, 1) := by decide +kernel
theorem d2 : decode yB 2 = .ok (.iconst 0, 1) := by decide +kernel
theorem d3 : decode yB 3 = .ok (.aload_n 1, 1) := by decide +kernel
theorem d4 : decode yB 4 = .ok (.arraylength, 1) := by decide +kernel
theorem d5 : decode yB 5 = .ok (.aconst_null, 1) := by decide +kernel
theorem d6 : decode yB 6 = .ok (.invokespecial 27, 3) := by decide +kernel
theorem d9 : decode yB 9 = .ok (.return_, 1) := by decide +kernel
def site : List Cond := [New4.tab] ++ initW "java/lang/String" 27 New4.yN
def tab : Cond := tabOf yN yB 2 none site
def P (a : Addr) (D : Cell) (fV fC : Field) (b : Addr) (A : Cell) (z : Int32) (args : Array Value) (s : State) : Prop := args = #[.ref a, .ref b] ∧ Blank "java/lang/String" a D s ∧ Found "java/lang/String" "value" "[B" fV s ∧ Found "java/lang/String" "coder" "B" fC s ∧ Ch b A s ∧ StaticIs s "java/lang/String" "COMPACT_STRINGS" "Z" (.int z) ∧ ¬ z = 0 ∧ 0 < A.slots.size ∧ A.slots.size ≤ 536870912 ∧ ∀ i, i < A.slots.size → ¬ 255 < cv A i
def E (a : Addr) (D : Cell) (fV fC : Field) (A : Cell) (r : Option Value) (s u : State) : Prop := Got a D fV fC A 0 A.slots.size r s u
/-- new String(chars), not empty, no char above 255: a Latin-1 String of their low bytes -/
theorem law (l : Launch) (a : Addr) (D : Cell) (fV fC : Field) (b : Addr) (A : Cell) (z : Int32) : Law l yN 2 1 3 52 yB 2 none site (P a D fV fC b A z) (E a D fV fC A) [⟨a, fC.slot⟩, ⟨a, fV.slot⟩] 1 A.slots.size := by
  refine Law.of_walk (plainFor_of_name (by decide +kernel)) (by decide +kernel) (by decide +kernel) (by decide) (fun _ _ h => by rw [h.1]; rfl) (fun _ U U' hal hh h => ⟨h.1, h.2.1.mv hal hh, h.2.2.1.al hal, h.2.2.2.1.al hal, h.2.2.2.2.1.mv hal hh, h.2.2.2.2.2.1.there hal hh, h.2.2.2.2.2.2⟩) (fun r U U' V V' h1 hal h2 h => Got.mv r U U' V V' h1 hal h2 h) ?_
  intro p e s m args below meth c s₁ X0 hexec hbytes hml hret hlk hnm hown hh0 W hP
  obtain ⟨rfl, hB, f1, f2, hA, s1, hz, l0, l2, hp⟩ := hP
  have c1 : Steps p.tables e below (s₁.setTop (entryFrame m #[.ref a, .ref b] 2)) (s₁.setTop (mkF m 0 #[.val (.ref a), .val (.ref b)] [])) := entry rfl
  have c2 : Steps p.tables e below (s₁.setTop (entryFrame m #[.ref a, .ref b] 2)) (s₁.setTop (mkF m 6 #[.val (.ref a), .val (.ref b)] [.null, .int (Int32.ofNat A.slots.size), .int 0, .ref b, .ref a])) := c1.trans (by
    refine XS.aloadN X0.here hexec rfl (hb hbytes d0) rfl rfl ?_
    refine XS.aloadN X0.here hexec rfl (hb hbytes d1) rfl rfl ?_
    refine iconstV X0.here hexec rfl 0 (hb hbytes d2) (by decide) ?_
    refine XS.aloadN X0.here hexec rfl (hb hbytes d3) rfl rfl ?_
    refine X0.alen hexec (hA.1.mv X0.warmed.alike hh0) rfl rfl (hb hbytes d4) ?_
    refine XS.aconstNull X0.here hexec rfl (hb hbytes d5) ?_
    exact Steps.refl _)
  obtain ⟨v3, T3, X3, E3, g3⟩ := X0.callN hexec (New4.law l a D fV fC b A z 0 A.slots.size) rfl hown (wks W (initW "java/lang/String" 27 New4.yN)) (W New4.tab (by simp only [site, List.mem_cons, List.mem_append, true_or, or_true])) (W := 0) (Nat.le_of_ble_eq_true rfl) (Nat.le_of_ble_eq_true rfl) (Nat.le_refl _) (by show 0 + A.slots.size ≤ A.slots.size; omega) (g := (mkF m 6 #[.val (.ref a), .val (.ref b)] [.null, .int (Int32.ofNat A.slots.size), .int (Int32.ofNat 0), .ref b, .ref a])) rfl (by rw [hml]; rfl) c2 (argsL := [.ref b, .int (Int32.ofNat 0), .int (Int32.ofNat A.slots.size), .null]) (rest := []) rfl rfl (by show 2 * 0 + 0 ≤ _; decide) (hb hbytes d6) (⟨rfl, hB.mv X0.warmed.alike hh0, f1.al X0.warmed.alike, f2.al X0.warmed.alike, hA.mv X0.warmed.alike hh0, s1.there X0.warmed.alike hh0, hz, l0, by omega, l2, fun i hi => by rw [Nat.zero_add]; exact hp i hi⟩)
  have e0 := Got.mv _ s₁ s _ _ hh0.symm (Vm.Alike.refl _) rfl E3
  obtain rfl := e0.1
  have c4 : Steps p.tables e below (s₁.setTop (entryFrame m #[.ref a, .ref b] 2)) (T3.setTop (mkF m 9 #[.val (.ref a), .val (.ref b)] [])) := g3
  exact ⟨T3, none, _, _, _, X3, by simp, rfl, by omega, (fun _ => rfl), e0, fun fs hl => c4.trans (X3.returnOut hexec hret (hb hbytes d9) hl)⟩
theorem pays {l : Launch} {R : Room} {p : Program} {e : Env} {below : List Frame} {s : State} {sargs : Array Value} {len W : Nat} (a : Addr) (D : Cell) (fV fC : Field) (b : Addr) (A : Cell) (z : Int32) (htab : tab.before sargs s = true) (hfr : 4 ≤ R.frames) (hlo : W + 65 ≤ R.locals) :
    Back l R p e below s sargs yN len W (fun A₁ a₁ => A₁.cells + 1 ≤ R.cells ∧ A₁.slots + A.slots.size ≤ R.slots ∧ P a D fV fC b A z a₁ A₁.U) (fun A₁ _ v₁ B₁ => E a D fV fC A v₁ A₁.U B₁.U ∧ B₁.locs = A₁.locs ++ [⟨a, fC.slot⟩, ⟨a, fV.slot⟩] ∧ B₁.cells = A₁.cells + 1 ∧ B₁.slots = A₁.slots + A.slots.size) :=
  (law l a D fV fC b A z).pays htab hfr (by omega)
end New1
/-- the byte, read back as charAt reads it, is the char -/
theorem lo8_mask {x : Int32} (h0 : ¬ x < 0) (h1 : ¬ 255 < x) : lo8 x &&& 255 = x := by
  have t : ∀ k : Fin 256, lo8 (Int32.ofNat k.val) &&& 255 = Int32.ofNat k.val := by decide +kernel
  rw [Int32.lt_iff_toInt_lt] at h0 h1
  have e0 : (0 : Int32).toInt = 0 := rfl
  have e1 : (255 : Int32).toInt = 255 := rfl
  obtain ⟨k, hk⟩ : ∃ k : Nat, x.toInt = k := ⟨x.toInt.toNat, by omega⟩
  have hx : x = Int32.ofNat k := Int32.toInt_inj.mp (by rw [hk, Int32.toInt_ofNat_small (by omega)])
  rw [hx]
  exact t ⟨k, by omega⟩
end StrChars
namespace StrChars.Road
open Jvm Sem ClassFile Op Lib Jvm.Stand Jvm.Free Jvm.Free.XT
open Jvm.Lib.Cold (StaticIs)
abbrev ST : String := "java/lang/String"
/-- every table word that New1's law asks, flat -/
abbrev words : List Jvm.Cond := [.code New1.yN New1.yB 2 none, .initialized ST, .methodLink ST 27 New4.yN, .instanceMethod New4.yN,
  .code New4.yN New4.yB 6 none, .fieldLink ST 38 ST "COMPACT_STRINGS" "Z", .laysFinal ST ST "value" "[B", .fieldLink ST 9 ST "value" "[B", .laysFinal ST ST "coder" "B", .fieldLink ST 15 ST "coder" "B",
  .methodLink ST 1 Lib.objectInit, .instanceMethod Lib.objectInit, .code Lib.objectInit ⟨#[0xb1]⟩ 1 none, .methodLink ST 177 Cmp3.yN, .static Cmp3.yN, .methodLink ST 47 CodL.yN, .static CodL.yN,
  .code Cmp3.yN Cmp3.yB 6 (some (.array .byte)), .initialized U16, .arrayClass .byte, .methodLink U16 115 Cmp5.yN, .static Cmp5.yN, .code Cmp5.yN Cmp5.yB 7 (some .int), .code CodL.yN CodL.yB 2 (some .byte)]
theorem tab_of {a : Array Value} {s : State} (h : ∀ w ∈ words, w.before a s = true) : New1.tab.before a s = true := by
  have h5 : Cmp5.tab.before a s = true := unparts (wk h (.code Cmp5.yN Cmp5.yB 7 (some .int))) (wks h (.initialized Cmp5.yN.cls :: Cmp5.site))
  have hc : CodL.tab.before a s = true := unparts (wk h (.code CodL.yN CodL.yB 2 (some .byte))) (wks h (.initialized CodL.yN.cls :: CodL.site))
  have q5 : ∀ w ∈ Cmp5.tab :: words, w.before a s = true := fun w hw => (List.mem_cons.mp hw).elim (fun e => e ▸ h5) (h w)
  have h3 : Cmp3.tab.before a s = true := unparts (wk q5 (.code Cmp3.yN Cmp3.yB 6 (some (.array .byte)))) (wks q5 (.initialized Cmp3.yN.cls :: Cmp3.site))
  have q3 : ∀ w ∈ Cmp3.tab :: CodL.tab :: words, w.before a s = true := fun w hw => (List.mem_cons.mp hw).elim (fun e => e ▸ h3) fun hw => (List.mem_cons.mp hw).elim (fun e => e ▸ hc) (h w)
  have h4 : New4.tab.before a s = true := unparts (wk q3 (.code New4.yN New4.yB 6 none)) (wks q3 (.initialized New4.yN.cls :: New4.site))
  have q4 : ∀ w ∈ New4.tab :: words, w.before a s = true := fun w hw => (List.mem_cons.mp hw).elim (fun e => e ▸ h4) (h w)
  exact unparts (wk q4 (.code New1.yN New1.yB 2 none)) (wks q4 (.initialized New1.yN.cls :: New1.site))
/-- the words ride from the start Z to the walk's own state -/
theorem moved {Z s : State} {a0 args : Array Value} (hZ : Z.Warmed39 s.vm) (hw : ∀ d ∈ words, d.before a0 Z = true) : ∀ d ∈ words, d.before args s = true := fun d hd => by
  have q := hw d hd
  have t : ∀ d ∈ words, d = .arrayClass .byte ∨ (d.onTables && d.keepsFace) = true := by decide +kernel
  rcases t d hd with rfl | t
  · exact RoadKit.mvA hZ q
  · exact RoadKit.mv hZ q t
/-- WHAT COMES BACK, over the tables of the start Z: h the heap at the call, h' behind it -/
def Q (Z : State) (x : Addr) (A : Cell) (h : Heap) (v : Option Value) (h' : Heap) (L : List Loc) : Prop := v = none ∧ (∀ y ∈ L, y.base = x) ∧ RoadKit.Keep h h' [x] ∧ h'.size = h.size + 1 ∧ RoadKit.Exa Z h' x ST ∧ RoadKit.Fld Z h' x ST "value" "[B" (.ref h.size) ∧ RoadKit.Fld Z h' x ST "coder" "B" (.int 0) ∧
  (∃ V : Cell, RoadKit.Arr Z h' h.size V .byte ∧ V.vm = .none ∧ Z.vm.findClass "[B" = some V.cls ∧ V.slots.size = A.slots.size ∧ ∀ j, j < A.slots.size → V.slots[j]? = some (.int (lo8 (cv A j)))) ∧
  ∀ (O n d : String) (w : Value), RoadKit.Fld Z h x O n d w → RoadKit.slotOf Z O n d ≠ RoadKit.slotOf Z ST "value" "[B" → RoadKit.slotOf Z O n d ≠ RoadKit.slotOf Z ST "coder" "B" → RoadKit.Fld Z h' x O n d w
/-- **new String(chars) AT A CALL, IN THE ROAD'S FORM**: for specialBack behind newO: x the fresh String, b the char[] with the cell A -/
theorem back {p : Program} {l : Launch} {e : Env} {R : Room} {s : State} {args : Array Value} {below : List Frame} {len W : Nat} {Z : State} {a0 : Array Value} {h : Heap} (hZ : Z.Warmed39 s.vm) (hw : ∀ d ∈ words, d.before a0 Z = true) {kI : Nat} (wi : (Jvm.Cond.instantiable ST kI).before a0 Z = true)
    {x b : Addr} {A : Cell} {z : Int32} {v0 c0 : Value} (E : RoadKit.Exa Z h x ST) (V : RoadKit.Fld Z h x ST "value" "[B" v0) (C : RoadKit.Fld Z h x ST "coder" "B" c0) (K : RoadKit.Arr Z h b A .char) (hty : Typed .char A) (S : RoadKit.Sta Z h ST "COMPACT_STRINGS" "Z" (.int z)) (hz : ¬ z = 0)
    (l0 : 0 < A.slots.size) (l2 : A.slots.size ≤ 536870912) (hp : ∀ i, i < A.slots.size → ¬ 255 < cv A i) (hfr : 4 ≤ R.frames) (hlo : W + 65 ≤ R.locals) :
    Back l R p e below s args New1.yN len W (fun P a => a = #[.ref x, .ref b] ∧ P.U.heap = h ∧ P.cells + 1 ≤ R.cells ∧ P.slots + A.slots.size ≤ R.slots)
      (fun P _ v B => ∃ L, Q Z x A h v B.U.heap L ∧ B.locs = P.locs ++ L ∧ B.cells = P.cells + 1 ∧ B.slots = P.slots + A.slots.size) := by
  intro m meth c P g ig mk a X hg hsize hdg hW hn hp'
  obtain ⟨rfl, rfl, r1, r2⟩ := hp'
  have al : Z.vm.Alike P.U.vm := hZ.alike.trans X.warmed.alike
  obtain ⟨D, cfV, kV, iV, fV, hD, gV, stV, knV, obV, asV, slV⟩ := id V
  obtain ⟨D', cfC, kC, iC, fC, hD', gC, stC, -, -, asC, slC⟩ := id C
  cases hD.symm.trans hD'
  obtain ⟨D2, kD, e1, e2, e3, e4, e5⟩ := id E
  cases hD.symm.trans e1
  obtain ⟨c2, k2, i1, i2, i3, -⟩ := Cond.instantiable_spec wi
  cases e2.symm.trans i1
  cases e3.symm.trans i2
  obtain ⟨kU, u1, u2⟩ := al.2.2 _ _ e3
  have hB : Blank ST x D P.U := ⟨hD, ⟨knV, fun q hq => by rw [hq] at obV; cases obV⟩, by rw [al.findClass]; exact e2, kU, u1, by rw [u2]; exact i3, by rw [u2]; exact e5 i3⟩
  have F1 : Found ST "value" "[B" fV P.U := ⟨SBG.found_only al ⟨cfV, kV, iV, gV⟩, stV⟩
  have F2 : Found ST "coder" "B" fC P.U := ⟨SBG.found_only al ⟨cfC, kC, iC, gC⟩, stC⟩
  have hA : Ch b A P.U := ⟨⟨K.1, State.isArrayOf_alike al K.2.1, K.2.2, by omega⟩, hty⟩
  have hS : StaticIs P.U ST "COMPACT_STRINGS" "Z" (.int z) := by
    obtain ⟨cfS, iS, kS, fS, st, cS, t1, t2, t3, t4, t5, t6, t7⟩ := S
    exact StaticIs.there (s := { Z with heap := P.U.heap }) ⟨cfS, iS, kS, fS, st, cS, t1, t2, t3, t4, t5, (fun q => by rw [q] at t6; cases t6), t7⟩ al rfl
  obtain ⟨v, B, X', ⟨⟨hv, E', V', q1, q2, q3, q4, q5, q6, q7, q8, q9, q10, q11⟩, hl, hc, hs⟩, st⟩ := New1.pays x D fV fC b A z (tab_of (moved hZ hw)) hfr hlo m meth c P g ig mk _ X hg hsize hdg hW hn ⟨r1, r2, rfl, hB, F1, F2, hA, hS, hz, l0, l2, hp⟩
  have al' : Z.vm.Alike B.U.vm := hZ.alike.trans X'.warmed.alike
  have hsz : E'.slots.size = D.slots.size := by
    obtain ⟨-, -, -, kB, w1, w2, w3⟩ := q1
    obtain ⟨kB', y1, y2⟩ := al'.2.2 _ _ e3
    rw [q2.2.1] at w1
    cases w1.symm.trans y1
    rw [w3, e5 i3, y2]
  refine ⟨v, B, X', ⟨_, ⟨hv, ?_, ⟨by omega, fun y cy hy hn' => q10 y cy (by simpa using hn') hy, fun y cy hy => ?_⟩, q11, ⟨E', _, q1.1, by rw [q2.2.1]; exact e2, by rw [q2.2.1]; exact e3, by rw [q2.1]; exact obV, fun _ => by rw [hsz]; exact e5 i3⟩,
    ⟨E', cfV, kV, iV, fV, q1.1, gV, stV, by rw [q2.1]; exact knV, by rw [q2.1]; exact obV, by rw [q2.2.1]; exact asV, q3⟩, ⟨E', cfC, kC, iC, fC, q1.1, gC, stC, by rw [q2.1]; exact knV, by rw [q2.1]; exact obV, by rw [q2.2.1]; exact asC, q4⟩,
    ⟨V', ⟨q5.1, State.isArrayOf_alike al'.symm q5.2.1, q5.2.2.1⟩, q6, by rw [← al'.findClass]; exact q7, q8, fun j hj => by have := q9 j hj; rwa [Nat.zero_add] at this⟩, fun O n d w F n1 n2 => ?_⟩, hl, hc, hs⟩, st⟩
  · intro y hy
    simp only [List.mem_cons, List.not_mem_nil, or_false] at hy
    rcases hy with rfl | rfl <;> rfl
  · by_cases q : y = x
    · subst q
      cases hD.symm.trans hy
      exact ⟨E', q1.1, q2.2.1, q2.1, hsz⟩
    · exact ⟨cy, q10 y cy q hy, rfl, rfl, rfl⟩
  · obtain ⟨D3, cf, k, i, f, g1, g2, g3, g4, g5, g6, g7⟩ := F
    cases hD.symm.trans g1
    simp only [RoadKit.slotOf, g2, gV, gC, Option.map_some, Option.getD_some] at n1 n2
    exact ⟨E', cf, k, i, f, q1.1, g2, g3, by rw [q2.1]; exact g4, by rw [q2.1]; exact g5, by rw [q2.2.1]; exact g6, by rw [q2.2.2 f.slot (by simp [n1, n2])]; exact g7⟩
end StrChars.Road
namespace StrChars.Road
open Jvm Sem ClassFile Op Lib Jvm.Stand Jvm.Free Jvm.Free.XT
/-- WHAT COMES BACK, the byte[] as a list of values -/
def QA (Z : State) (x : Addr) (zn : Int32) (cs : List Int32) (h : Heap) (v : Option Value) (h' : Heap) (L : List Loc) : Prop := v = none ∧ (∀ y ∈ L, y.base = x) ∧ RoadKit.Keep h h' [x] ∧ h'.size = h.size + 1 ∧ RoadKit.Exa Z h' x ST ∧ RoadKit.Fld Z h' x ST "value" "[B" (.ref h.size) ∧ RoadKit.Fld Z h' x ST "coder" "B" (.int 0) ∧
  (∃ kb, Z.vm.findClass "[B" = some kb ∧ RoadKit.Arv Z h' h.size kb .byte zn (cs.map fun c => .int (lo8 c)) (.int 0)) ∧
  ∀ (O n d : String) (w : Value), RoadKit.Fld Z h x O n d w → RoadKit.slotOf Z O n d ≠ RoadKit.slotOf Z ST "value" "[B" → RoadKit.slotOf Z O n d ≠ RoadKit.slotOf Z ST "coder" "B" → RoadKit.Fld Z h' x O n d w
/-- **new String(chars) AT A CALL, THE ARRAYS AS LISTS**: the char[] at b holds cs, not empty, no char above 255 -/
theorem backArv {p : Program} {l : Launch} {e : Env} {R : Room} {s : State} {args : Array Value} {below : List Frame} {len W : Nat} {Z : State} {a0 : Array Value} {h : Heap} (hZ : Z.Warmed39 s.vm) (hw : ∀ d ∈ words, d.before a0 Z = true) {kI : Nat} (wi : (Jvm.Cond.instantiable ST kI).before a0 Z = true)
    {x b : Addr} {k : ClassId} {zn z : Int32} {cs : List Int32} {dv v0 c0 : Value} (E : RoadKit.Exa Z h x ST) (V : RoadKit.Fld Z h x ST "value" "[B" v0) (C : RoadKit.Fld Z h x ST "coder" "B" c0) (K : RoadKit.Arv Z h b k .char zn (cs.map Value.int) dv) (S : RoadKit.Sta Z h ST "COMPACT_STRINGS" "Z" (.int z)) (hz : ¬ z = 0)
    (hlen : zn.toNatClampNeg = cs.length) (h0 : 0 < cs.length) (hbig : cs.length ≤ 536870912) (hall : ∀ c ∈ cs, ¬ 255 < c) (hfr : 4 ≤ R.frames) (hlo : W + 65 ≤ R.locals) :
    Back l R p e below s args New1.yN len W (fun P a => a = #[.ref x, .ref b] ∧ P.U.heap = h ∧ P.cells + 1 ≤ R.cells ∧ P.slots + cs.length ≤ R.slots)
      (fun P _ v B => ∃ L, QA Z x zn cs h v B.U.heap L ∧ B.locs = P.locs ++ L ∧ B.cells = P.cells + 1 ∧ B.slots = P.slots + cs.length) := by
  obtain ⟨A, K1, K2, K3, K4, K5, K6⟩ := K
  have e : A.slots.size = cs.length := K3.trans hlen
  have hat : ∀ (i : Nat) (hi : i < cs.length), A.slots[i]? = some (.int cs[i]) := fun i hi => by rw [K5 i (by omega)]; simp [List.getD_eq_getElem?_getD, hi]
  have hcv : ∀ (i : Nat) (hi : i < cs.length), cv A i = cs[i] := fun i hi => by unfold cv; rw [hat i hi]
  have hty : Typed .char A := fun i v hv => by
    have hi : i < A.slots.size := (Array.getElem?_eq_some_iff.mp hv).1
    have q := K5 i hi
    rw [hv] at q
    rw [Option.some.inj q]
    exact K6 i hi
  refine Back.mono (back hZ hw wi E V C K1 hty S hz (by omega) (by omega) (fun i hi => by rw [hcv i (by omega)]; exact hall _ (List.getElem_mem _)) hfr hlo) (fun P a hp => ⟨hp.1, hp.2.1, hp.2.2.1, by rw [e]; exact hp.2.2.2⟩) (fun P a v B hp hq => ?_)
  obtain ⟨L, ⟨q1, q2, q3, q4, q5, q6, q7, ⟨V', v1, v2, v3, v4, v5⟩, q9⟩, hl, hc, hs⟩ := hq
  refine ⟨L, ⟨q1, q2, q3, q4, q5, q6, q7, ⟨V'.cls, v3, V', v1, rfl, by rw [v4, e, hlen], K4, fun i hi => ?_, fun i hi => ?_⟩, q9⟩, hl, hc, by rw [hs, e]⟩
  · have hi' : i < cs.length := by omega
    rw [v5 i (by omega), hcv i hi']; simp [List.getD_eq_getElem?_getD, hi']
  · have hi' : i < cs.length := by omega
    simp only [List.getD_eq_getElem?_getD, List.getElem?_map, List.getElem?_eq_getElem hi', Option.map_some, Option.getD_some]
    exact fits_lo8 _
end StrChars.Road
namespace StrChars.Road
open Jvm Sem ClassFile Op Lib Jvm.Stand Jvm.Free Jvm.Free.XT
/-- WHAT COMES BACK, in the writer's own shape -/
def QV (Z : State) (x : Addr) (N : Int32) (bs : List Int32) (h : Heap) (n0 : Nat) (v : Option Value) (h' : Heap) (L : List Loc) : Prop := v = none ∧ RoadKit.Fr n0 L ∧ RoadKit.Keep h h' [x] ∧ RoadKit.Exa Z h' x ST ∧ RoadKit.Fld Z h' x ST "coder" "B" (.int 0) ∧
  ∃ (t : Addr) (kb : ClassId), n0 ≤ t ∧ h.size ≤ t ∧ ¬ t = x ∧ RoadKit.Fld Z h' x ST "value" "[B" (.ref t) ∧ RoadKit.Arv Z h' t kb .byte N (bs.map Value.int) (.int 0)
/-- **new String(chars) AT A CALL, FOR THE WRITER**: a char[] of n known ints, each 0 to 255 -/
theorem backV {p : Program} {l : Launch} {e : Env} {R : Room} {s : State} {args : Array Value} {below : List Frame} {len W : Nat} {Z : State} {a0 : Array Value} {h : Heap} (hZ : Z.Warmed39 s.vm) (hw : ∀ d ∈ words, d.before a0 Z = true) {kI : Nat} (wi : (Jvm.Cond.instantiable ST kI).before a0 Z = true)
    {x b : Addr} {kC : ClassId} {cs bs : List Int32} {d v0 c0 : Value} {z N : Int32} {n n0 : Nat} (hx0 : n0 ≤ x) (hh0 : n0 ≤ h.size) (E : RoadKit.Exa Z h x ST) (V : RoadKit.Fld Z h x ST "value" "[B" v0) (C : RoadKit.Fld Z h x ST "coder" "B" c0) (K : RoadKit.Arv Z h b kC .char N (cs.map Value.int) d) (S : RoadKit.Sta Z h ST "COMPACT_STRINGS" "Z" (.int z)) (hz : ¬ z = 0)
    (hn : cs.length = n) (hN : N = Int32.ofNat n) (l0 : 0 < n) (l2 : n ≤ 4000) (hp : ∀ c ∈ cs, ¬ c < 0 ∧ ¬ (255 : Int32) < c) (hb : bs = cs.map (fun c => c.toInt8.toInt32)) (hfr : 4 ≤ R.frames) (hlo : W + 65 ≤ R.locals) :
    Back l R p e below s args (⟨"java/lang/String", "<init>", "([C)V"⟩ : MethodName) len W (fun P a => a = #[.ref x, .ref b] ∧ P.U.heap = h ∧ P.cells + 1 ≤ R.cells ∧ P.slots + n ≤ R.slots)
      (fun P _ v B => ∃ L, QV Z x N bs h n0 v B.U.heap L ∧ B.locs = P.locs ++ L ∧ B.cells = P.cells + 1 ∧ B.slots = P.slots + n) := by
  subst hn hN hb
  refine Back.mono (backArv hZ hw wi E V C K S hz (n32 (by omega)) l0 (by omega) (fun c hc => (hp c hc).2) hfr hlo) (fun P a hp => hp) (fun P a v B hp hq => ?_)
  obtain ⟨L, ⟨q1, q2, q3, q4, q5, q6, q7, ⟨kb, v1, v2⟩, q9⟩, hl, hc, hs⟩ := hq
  exact ⟨L, ⟨q1, fun y hy => by rw [q2 y hy]; exact hx0, q3, q5, q7, h.size, kb, hh0, Nat.le_refl _, Nat.ne_of_gt E.lt, q6, by rw [List.map_map]; exact v2⟩, hl, hc, hs⟩
end StrChars.Road
namespace StrChars
open Jvm Sem ClassFile Op Lib Jvm.Stand Jvm.Free.XT Jvm.Free.ALB Jvm.Free.JM Jvm.Free
open Jvm.Lib.Cold (StaticIs)
def hi8 (x : Int32) : Int32 := lo8 (x >>> ((8 : Int32) &&& 31))
/-- what StringUTF16.getChar makes of two bytes -/
def pairCh (u v : Int32) : Int32 := (((u &&& 255) <<< ((0 : Int32) &&& 31)) ||| ((v &&& 255) <<< ((8 : Int32) &&& 31))).toUInt32.toUInt16.toUInt32.toInt32
theorem shr0 (c : Int32) : c >>> ((0 : Int32) &&& 31) = c := by
  have e : ((0 : Int32) &&& 31) = 0 := by decide
  rw [e]
  apply Int32.toBitVec_inj.mp
  rw [Int32.toBitVec_shiftRight]
  have e1 : ((0 : Int32).toBitVec.smod 32) = 0#32 := by decide
  rw [e1, BitVec.sshiftRight_eq']
  exact BitVec.sshiftRight_zero
theorem lo8_and (x : Int32) : (lo8 x &&& 255).toBitVec.toNat = x.toBitVec.toNat % 256 := by
  have h : (lo8 x).toBitVec = (x.toBitVec.signExtend 8).signExtend 32 := by rw [lo8, Int8.toBitVec_toInt32, Int32.toBitVec_toInt8]
  rw [Int32.toBitVec_and, BitVec.toNat_and, h]
  have e : ((x.toBitVec.signExtend 8).signExtend 32).toNat % 256 = x.toBitVec.toNat % 256 := by
    rw [BitVec.toNat_signExtend]
    have hlt := x.toBitVec.isLt
    simp only [BitVec.toNat_setWidth, BitVec.toNat_signExtend]
    split <;> split <;> omega
  rw [← e]
  exact Nat.and_two_pow_sub_one_eq_mod _ 8
theorem pair_says {c : Int32} (h0 : ¬ c < 0) (h1 : ¬ 65535 < c) : pairCh (lo8 c) (hi8 c) = c := by
  rw [Int32.lt_iff_toInt_lt] at h0 h1
  have e0 : (0 : Int32).toInt = 0 := rfl
  have e1 : (65535 : Int32).toInt = 65535 := rfl
  have hc : c.toInt = c.toBitVec.toNat := by
    have := c.toBitVec.isLt
    have e : c.toInt = c.toBitVec.toInt := rfl
    rw [e] at h0 h1
    rw [e]
    rw [BitVec.toInt_eq_toNat_cond] at h0 h1 ⊢
    split at h0 <;> split <;> omega
  have hn : c.toBitVec.toNat < 65536 := by omega
  have a1 := lo8_and c
  have a2 : (hi8 c &&& 255).toBitVec.toNat = c.toBitVec.toNat / 256 := by
    rw [hi8, lo8_and]
    have e : ((8 : Int32) &&& 31) = 8 := by decide
    rw [e, Int32.toBitVec_shiftRight]
    have e2 : ((8 : Int32).toBitVec.smod 32) = 8#32 := by decide
    rw [e2, BitVec.sshiftRight_eq', BitVec.toNat_sshiftRight_of_msb_false (by rw [BitVec.msb_eq_false_iff_two_mul_lt]; omega)]
    show c.toBitVec.toNat >>> 8 % 256 = _
    rw [Nat.shiftRight_eq_div_pow]
    omega
  unfold pairCh
  apply Int32.toBitVec_inj.mp
  apply BitVec.eq_of_toNat_eq
  have f0 : ((0 : Int32) &&& 31) = 0 := by decide
  have f8 : ((8 : Int32) &&& 31) = 8 := by decide
  rw [f0, f8]
  have g : (((lo8 c &&& 255) <<< (0 : Int32)) ||| ((hi8 c &&& 255) <<< (8 : Int32))).toBitVec.toNat = c.toBitVec.toNat := by
    rw [Int32.toBitVec_or, Int32.toBitVec_shiftLeft, Int32.toBitVec_shiftLeft]
    have s0 : ((0 : Int32).toBitVec.smod 32) = 0#32 := by decide
    have s8 : ((8 : Int32).toBitVec.smod 32) = 8#32 := by decide
    rw [s0, s8, BitVec.toNat_or]
    simp only [BitVec.shiftLeft_eq', BitVec.toNat_shiftLeft, a1, a2]
    show (c.toBitVec.toNat % 256) <<< 0 % 2 ^ 32 ||| (c.toBitVec.toNat / 256) <<< 8 % 2 ^ 32 = _
    rw [Nat.shiftLeft_zero, Nat.mod_eq_of_lt (show c.toBitVec.toNat % 256 < 2 ^ 32 by omega), Nat.mod_eq_of_lt (show (c.toBitVec.toNat / 256) <<< 8 < 2 ^ 32 by rw [Nat.shiftLeft_eq]; omega), Nat.or_comm, ← Nat.shiftLeft_add_eq_or_of_lt (by omega), Nat.shiftLeft_eq]
    omega
  show BitVec.toNat (((((lo8 c &&& 255) <<< (0 : Int32)) ||| ((hi8 c &&& 255) <<< (8 : Int32))).toBitVec.setWidth 16).setWidth 32) = _
  rw [BitVec.toNat_setWidth, BitVec.toNat_setWidth, g]
  omega
end StrChars
namespace StrChars
open Jvm Sem ClassFile Op Lib Jvm.Stand Jvm.Free.XT Jvm.Free.ALB Jvm.Free.JM Jvm.Free
open Jvm.Lib.Cold (StaticIs)
theorem shr1 {n : Nat} (h : 2 * n < 2 ^ 31) : Int32.ofNat (2 * n) >>> ((1 : Int32) &&& 31) = Int32.ofNat n := by
  have e : ((1 : Int32) &&& 31) = 1 := by decide
  rw [e]
  apply Int32.toBitVec_inj.mp
  rw [Int32.toBitVec_shiftRight]
  have e1 : ((1 : Int32).toBitVec.smod 32) = 1#32 := by decide
  have hm : (BitVec.ofNat 32 (2 * n)).toNat = 2 * n := by rw [BitVec.toNat_ofNat, Nat.mod_eq_of_lt (by omega)]
  rw [e1, BitVec.sshiftRight_eq']
  apply BitVec.eq_of_toNat_eq
  show ((BitVec.ofNat 32 (2 * n)).sshiftRight 1).toNat = (BitVec.ofNat 32 n).toNat
  rw [BitVec.toNat_sshiftRight_of_msb_false (by rw [BitVec.msb_eq_false_iff_two_mul_lt, hm]; omega), hm, BitVec.toNat_ofNat, Nat.shiftRight_eq_div_pow]
  omega
/-- charAt's cast of a byte read back -/
def chr8 (u : Int32) : Int32 := (u &&& 255).toUInt32.toUInt16.toUInt32.toInt32
theorem chr8_lo8 {c : Int32} (h0 : ¬ c < 0) (h1 : ¬ 255 < c) : chr8 (lo8 c) = c := by
  have t : ∀ k : Fin 256, (Int32.ofNat k.val).toUInt32.toUInt16.toUInt32.toInt32 = Int32.ofNat k.val := by decide +kernel
  unfold chr8
  rw [lo8_mask h0 h1]
  rw [Int32.lt_iff_toInt_lt] at h0 h1
  have e0 : (0 : Int32).toInt = 0 := rfl
  have e1 : (255 : Int32).toInt = 255 := rfl
  obtain ⟨k, hk⟩ : ∃ k : Nat, c.toInt = k := ⟨c.toInt.toNat, by omega⟩
  have hx : c = Int32.ofNat k := Int32.toInt_inj.mp (by rw [hk, Int32.toInt_ofNat_small (by omega)])
  rw [hx]
  exact t ⟨k, by omega⟩
theorem narrow_ch {c : Int32} (h0 : ¬ c < 0) (h1 : ¬ 65535 < c) : narrow .char (.int c) = .int c := by
  have q : narrow .char (.int (pairCh (lo8 c) (hi8 c))) = .int (pairCh (lo8 c) (hi8 c)) := narrow_c _
  rwa [pair_says h0 h1] at q
/-- the array's cell V codes the n chars f 0 .. f (n - 1) by the coder cd, as the JDK does: coder 1 just where some char is above 255 -/
def Cod (cd : Int32) (n : Nat) (f : Nat → Int32) (V : Cell) : Prop := (cd = 0 ∧ V.slots.size = n ∧ ∀ j, j < n → V.slots[j]? = some (.int (lo8 (f j))) ∧ ¬ 255 < f j) ∨ (cd = 1 ∧ V.slots.size = 2 * n ∧ (∀ j, j < n → V.slots[2 * j]? = some (.int (lo8 (f j))) ∧ V.slots[2 * j + 1]? = some (.int (hi8 (f j)))) ∧ ∃ j, j < n ∧ 255 < f j)
theorem Cod.cd {cd : Int32} {n : Nat} {f : Nat → Int32} {V : Cell} (h : Cod cd n f V) : cd = 0 ∨ cd = 1 := h.imp (fun q => q.1) fun q => q.1
theorem Cod.len {cd : Int32} {n : Nat} {f : Nat → Int32} {V : Cell} (h : Cod cd n f V) (hs : V.slots.size < 2 ^ 31) : Int32.ofNat V.slots.size >>> (cd &&& 31) = Int32.ofNat n := by
  rcases h with ⟨rfl, h, -⟩ | ⟨rfl, h, -⟩
  · rw [shr0, h]
  · rw [h, shr1 (by omega)]
/-- **x is a String of the n chars f 0 .. f (n - 1)**, Latin-1 or UTF-16; its array at t has the cell V -/
def Txt (x t : Addr) (V : Cell) (cd : Int32) (n : Nat) (f : Nat → Int32) (U : State) : Prop := Exact "java/lang/String" x U ∧ Has x "java/lang/String" "value" "[B" (.ref t) U ∧ Has x "java/lang/String" "coder" "B" (.int cd) U ∧ XT.Arr .byte t V U ∧ Cod cd n f V ∧ ∀ j, j < n → ¬ f j < 0 ∧ ¬ 65535 < f j
theorem Txt.mv {x t : Addr} {V : Cell} {cd : Int32} {n : Nat} {f : Nat → Int32} {U U' : State} (h : Txt x t V cd n f U) (hal : U.vm.Alike U'.vm) (hh : U'.heap = U.heap) : Txt x t V cd n f U' := ⟨h.1.mv hal hh, h.2.1.mv hal hh, h.2.2.1.mv hal hh, h.2.2.2.1.mv hal hh, h.2.2.2.2⟩
namespace Cdr
def yN : MethodName := ⟨"java/lang/String", "coder", "()B"⟩
abbrev yB : ByteArray := jdk_42_method_152_code
theorem d0 : decode yB 0 = .ok (.getstatic 38, 3) := by decide +kernel
theorem d3 : decode yB 3 = .ok (.ifCond (.eq) 10, 3) := by decide +kernel
theorem d6 : decode yB 6 = .ok (.aload_n 0, 1) := by decide +kernel
theorem d7 : decode yB 7 = .ok (.getfield 15, 3) := by decide +kernel
theorem d10 : decode yB 10 = .ok (.goto 4, 3) := by decide +kernel
theorem d14 : decode yB 14 = .ok (.ireturn, 1) := by decide +kernel
def site : List Cond := [.fieldLink "java/lang/String" 38 "java/lang/String" "COMPACT_STRINGS" "Z", .fieldLink "java/lang/String" 15 "java/lang/String" "coder" "B"]
def tab : Cond := tabOf yN yB 1 (some .byte) site
def P (x : Addr) (cd z : Int32) (args : Array Value) (s : State) : Prop := args = #[.ref x] ∧ Has x "java/lang/String" "coder" "B" (.int cd) s ∧ (cd = 0 ∨ cd = 1) ∧ StaticIs s "java/lang/String" "COMPACT_STRINGS" "Z" (.int z) ∧ ¬ z = 0
def E (cd : Int32) (r : Option Value) (s u : State) : Prop := XT.PureE (some (.int cd)) r s u
theorem law (l : Launch) (x : Addr) (cd z : Int32) : Law l yN 1 0 0 0 yB 1 (some .byte) site (P x cd z) (E cd) [] 0 0 := by
  refine Law.of_walk (plainFor_of_name (by decide +kernel)) (by decide +kernel) (by decide +kernel) (by decide) (fun _ _ h => by rw [h.1]; rfl) (fun _ U U' hal hh h => ⟨h.1, h.2.1.mv hal hh, h.2.2.1, h.2.2.2.1.there hal hh, h.2.2.2.2⟩) (fun r U U' V V' h1 hal h2 h => XT.PureE.mv r U U' V V' h1 hal h2 h) ?_
  intro p e s m args below meth c s₁ X0 hexec hbytes hml hret hlk hnm hown hh0 W hP
  obtain ⟨rfl, hx, hc, s1, hz⟩ := hP
  have c1 : Steps p.tables e below (s₁.setTop (entryFrame m #[.ref x] 1)) (s₁.setTop (mkF m 0 #[.val (.ref x)] [])) := entry rfl
  obtain ⟨T2, X2, q2, st2⟩ := X0.sget hexec hown (wk W (.fieldLink "java/lang/String" 38 "java/lang/String" "COMPACT_STRINGS" "Z")) s1 (fun _ _ h => by rw [hh0]; exact h) (g := (mkF m 0 #[.val (.ref x)] [])) rfl (hb hbytes d0)
  have hh2 := q2.trans hh0
  have c3 : Steps p.tables e below (s₁.setTop (entryFrame m #[.ref x] 1)) (T2.setTop (mkF m 7 #[.val (.ref x)] [.ref x])) := (c1.trans (st2 _ (Steps.refl _))).trans (by
    refine XS.ifNo X2.here hexec rfl (hb hbytes d3) rfl (i0_eq_f hz) ?_
    refine XS.aloadN X2.here hexec rfl (hb hbytes d6) rfl rfl ?_
    exact Steps.refl _)
  obtain ⟨T4, X4, q4, st4⟩ := X2.hget hexec hown (wk W (.fieldLink "java/lang/String" 15 "java/lang/String" "coder" "B")) (hx.mv X2.warmed.alike hh2) (g := (mkF m 7 #[.val (.ref x)] [.ref x])) rfl (rest := []) rfl (hb hbytes d7)
  have c5 : Steps p.tables e below (s₁.setTop (entryFrame m #[.ref x] 1)) (T4.setTop (mkF m 14 #[.val (.ref x)] [.int cd])) := (c3.trans (st4 _ (Steps.refl _))).trans (by
    refine XS.goto X4.here hexec rfl (pc0 := 10) rfl (hb hbytes d10) (by decide) rfl ?_
    exact Steps.refl _)
  exact ⟨T4, some (.int cd), _, _, _, X4, rfl, rfl, rfl, (fun h => by cases h), ⟨rfl, q4.trans hh2⟩, fun fs hl => c5.trans (X4.ireturnOut hexec hret (by rcases hc with rfl | rfl <;> rfl) (Or.inr (Or.inr (Or.inl rfl))) (hb hbytes d14) hl)⟩
end Cdr
namespace Len
def yN : MethodName := ⟨"java/lang/String", "length", "()I"⟩
abbrev yB : ByteArray := jdk_42_method_54_code
theorem d0 : decode yB 0 = .ok (.aload_n 0, 1) := by decide +kernel
theorem d1 : decode yB 1 = .ok (.getfield 9, 3) := by decide +kernel
theorem d4 : decode yB 4 = .ok (.arraylength, 1) := by decide +kernel
theorem d5 : decode yB 5 = .ok (.aload_n 0, 1) := by decide +kernel
theorem d6 : decode yB 6 = .ok (.invokevirtual 335, 3) := by decide +kernel
theorem d9 : decode yB 9 = .ok (.ishr, 1) := by decide +kernel
theorem d10 : decode yB 10 = .ok (.ireturn, 1) := by decide +kernel
def site : List Cond := [.fieldLink "java/lang/String" 9 "java/lang/String" "value" "[B", Cdr.tab] ++ virtW "java/lang/String" 335 "java/lang/String" Cdr.yN Cdr.yN
def tab : Cond := tabOf yN yB 1 (some .int) site
def P (x t : Addr) (V : Cell) (cd : Int32) (n : Nat) (f : Nat → Int32) (z : Int32) (args : Array Value) (s : State) : Prop := args = #[.ref x] ∧ Txt x t V cd n f s ∧ StaticIs s "java/lang/String" "COMPACT_STRINGS" "Z" (.int z) ∧ ¬ z = 0
def E (n : Nat) (r : Option Value) (s u : State) : Prop := XT.PureE (some (.int (Int32.ofNat n))) r s u
/-- length() of a String of n chars, in either coding -/
theorem law (l : Launch) (x t : Addr) (V : Cell) (cd : Int32) (n : Nat) (f : Nat → Int32) (z : Int32) : Law l yN 1 0 1 13 yB 1 (some .int) site (P x t V cd n f z) (E n) [] 0 0 := by
  refine Law.of_walk (plainFor_of_name (by decide +kernel)) (by decide +kernel) (by decide +kernel) (by decide) (fun _ _ h => by rw [h.1]; rfl) (fun _ U U' hal hh h => ⟨h.1, h.2.1.mv hal hh, h.2.2.1.there hal hh, h.2.2.2⟩) (fun r U U' V V' h1 hal h2 h => XT.PureE.mv r U U' V V' h1 hal h2 h) ?_
  intro p e s m args below meth c s₁ X0 hexec hbytes hml hret hlk hnm hown hh0 W hP
  obtain ⟨rfl, hx, s1, hz⟩ := hP
  have v31 := hx.2.2.2.1.2.2.2
  have c1 : Steps p.tables e below (s₁.setTop (entryFrame m #[.ref x] 1)) (s₁.setTop (mkF m 1 #[.val (.ref x)] [.ref x])) := Steps.trans (entry rfl) (by
    show Steps p.tables e below (s₁.setTop (mkF m 0 #[.val (.ref x)] [])) _
    refine XS.aloadN X0.here hexec rfl (hb hbytes d0) rfl rfl ?_
    exact Steps.refl _)
  obtain ⟨T2, X2, q2, st2⟩ := X0.hget hexec hown (wk W (.fieldLink "java/lang/String" 9 "java/lang/String" "value" "[B")) (hx.mv X0.warmed.alike hh0).2.1 (g := (mkF m 1 #[.val (.ref x)] [.ref x])) rfl (rest := []) rfl (hb hbytes d1)
  have hh2 := q2.trans hh0
  have hx2 := hx.mv X2.warmed.alike hh2
  have c3 : Steps p.tables e below (s₁.setTop (entryFrame m #[.ref x] 1)) (T2.setTop (mkF m 6 #[.val (.ref x)] [.ref x, .int (Int32.ofNat V.slots.size)])) := (c1.trans (st2 _ (Steps.refl _))).trans (by
    refine X2.alen hexec hx2.2.2.2.1 rfl rfl (hb hbytes d4) ?_
    refine XS.aloadN X2.here hexec rfl (hb hbytes d5) rfl rfl ?_
    exact Steps.refl _)
  obtain ⟨v4, T4, X4, E4, g4⟩ := X2.callV hexec (Cdr.law l x cd z) hown (wks W (virtW "java/lang/String" 335 "java/lang/String" Cdr.yN Cdr.yN)) rfl (by decide) (wk W Cdr.tab) (W := 1) (Nat.le_of_ble_eq_true rfl) (Nat.le_of_ble_eq_true rfl) (Nat.le_refl _) (Nat.le_refl _) (hx2.1.fc X2.warmed.alike) hx2.1.is (g := (mkF m 6 #[.val (.ref x)] [.ref x, .int (Int32.ofNat V.slots.size)])) rfl (by rw [hml]; rfl) c3 (argsL := []) (rest := [.int (Int32.ofNat V.slots.size)]) rfl rfl (by show 2 * 0 + (1 + 0) ≤ _; decide) (hb hbytes d6) (⟨rfl, hx2.2.2.1, hx.2.2.2.2.1.cd, s1.there X2.warmed.alike hh2, hz⟩)
  obtain ⟨rfl, q4⟩ := E4
  have c5 : Steps p.tables e below (s₁.setTop (entryFrame m #[.ref x] 1)) (T4.setTop (mkF m 10 #[.val (.ref x)] [.int (Int32.ofNat V.slots.size >>> (cd &&& 31))])) := Steps.trans g4 (by
    refine ishr X4.here hexec rfl (hb hbytes d9) rfl ?_
    exact Steps.refl _)
  rw [hx.2.2.2.2.1.len v31] at c5
  exact ⟨T4, some (.int (Int32.ofNat n)), _, _, _, X4, rfl, rfl, rfl, (fun h => by cases h), ⟨rfl, q4.trans hh2⟩, fun fs hl => c5.trans (X4.ireturnOut hexec hret rfl (Or.inl rfl) (hb hbytes d10) hl)⟩
theorem pays {l : Launch} {R : Room} {p : Program} {e : Env} {below : List Frame} {s : State} {sargs : Array Value} {len W : Nat} (x t : Addr) (V : Cell) (cd : Int32) (n : Nat) (f : Nat → Int32) (z : Int32) (htab : tab.before sargs s = true) (hfr : 2 ≤ R.frames) (hlo : W + 25 ≤ R.locals) :
    Back l R p e below s sargs yN len W (fun A₁ a₁ => A₁.cells + 0 ≤ R.cells ∧ A₁.slots + 0 ≤ R.slots ∧ P x t V cd n f z a₁ A₁.U) (fun A₁ _ v₁ B₁ => E n v₁ A₁.U B₁.U ∧ B₁.locs = A₁.locs ++ [] ∧ B₁.cells = A₁.cells + 0 ∧ B₁.slots = A₁.slots + 0) :=
  (law l x t V cd n f z).pays htab hfr (by omega)
end Len
namespace IsL
def yN : MethodName := ⟨"java/lang/String", "isLatin1", "()Z"⟩
abbrev yB : ByteArray := jdk_42_method_154_code
theorem d0 : decode yB 0 = .ok (.getstatic 38, 3) := by decide +kernel
theorem d3 : decode yB 3 = .ok (.ifCond (.eq) 14, 3) := by decide +kernel
theorem d6 : decode yB 6 = .ok (.aload_n 0, 1) := by decide +kernel
theorem d7 : decode yB 7 = .ok (.getfield 15, 3) := by decide +kernel
theorem d10 : decode yB 10 = .ok (.ifCond (.ne) 7, 3) := by decide +kernel
theorem d13 : decode yB 13 = .ok (.iconst 1, 1) := by decide +kernel
theorem d14 : decode yB 14 = .ok (.goto 4, 3) := by decide +kernel
theorem d17 : decode yB 17 = .ok (.iconst 0, 1) := by decide +kernel
theorem d18 : decode yB 18 = .ok (.ireturn, 1) := by decide +kernel
def site : List Cond := [.fieldLink "java/lang/String" 38 "java/lang/String" "COMPACT_STRINGS" "Z", .fieldLink "java/lang/String" 15 "java/lang/String" "coder" "B"]
def tab : Cond := tabOf yN yB 1 (some .boolean) site
def P (x : Addr) (cd z : Int32) (args : Array Value) (s : State) : Prop := args = #[.ref x] ∧ Has x "java/lang/String" "coder" "B" (.int cd) s ∧ (cd = 0 ∨ cd = 1) ∧ StaticIs s "java/lang/String" "COMPACT_STRINGS" "Z" (.int z) ∧ ¬ z = 0
def E (cd : Int32) (r : Option Value) (s u : State) : Prop := XT.PureE (some (.int (1 - cd))) r s u
theorem law (l : Launch) (x : Addr) (cd z : Int32) : Law l yN 1 0 0 0 yB 1 (some .boolean) site (P x cd z) (E cd) [] 0 0 := by
  refine Law.of_walk (plainFor_of_name (by decide +kernel)) (by decide +kernel) (by decide +kernel) (by decide) (fun _ _ h => by rw [h.1]; rfl) (fun _ U U' hal hh h => ⟨h.1, h.2.1.mv hal hh, h.2.2.1, h.2.2.2.1.there hal hh, h.2.2.2.2⟩) (fun r U U' V V' h1 hal h2 h => XT.PureE.mv r U U' V V' h1 hal h2 h) ?_
  intro p e s m args below meth c s₁ X0 hexec hbytes hml hret hlk hnm hown hh0 W hP
  obtain ⟨rfl, hx, hc, s1, hz⟩ := hP
  have c1 : Steps p.tables e below (s₁.setTop (entryFrame m #[.ref x] 1)) (s₁.setTop (mkF m 0 #[.val (.ref x)] [])) := entry rfl
  obtain ⟨T2, X2, q2, st2⟩ := X0.sget hexec hown (wk W (.fieldLink "java/lang/String" 38 "java/lang/String" "COMPACT_STRINGS" "Z")) s1 (fun _ _ h => by rw [hh0]; exact h) (g := (mkF m 0 #[.val (.ref x)] [])) rfl (hb hbytes d0)
  have hh2 := q2.trans hh0
  have c3 : Steps p.tables e below (s₁.setTop (entryFrame m #[.ref x] 1)) (T2.setTop (mkF m 7 #[.val (.ref x)] [.ref x])) := (c1.trans (st2 _ (Steps.refl _))).trans (by
    refine XS.ifNo X2.here hexec rfl (hb hbytes d3) rfl (i0_eq_f hz) ?_
    refine XS.aloadN X2.here hexec rfl (hb hbytes d6) rfl rfl ?_
    exact Steps.refl _)
  obtain ⟨T4, X4, q4, st4⟩ := X2.hget hexec hown (wk W (.fieldLink "java/lang/String" 15 "java/lang/String" "coder" "B")) (hx.mv X2.warmed.alike hh2) (g := (mkF m 7 #[.val (.ref x)] [.ref x])) rfl (rest := []) rfl (hb hbytes d7)
  have c5 : Steps p.tables e below (s₁.setTop (entryFrame m #[.ref x] 1)) (T4.setTop (mkF m 10 #[.val (.ref x)] [.int cd])) := c3.trans (st4 _ (Steps.refl _))
  have c6 : Steps p.tables e below (s₁.setTop (entryFrame m #[.ref x] 1)) (T4.setTop (mkF m 18 #[.val (.ref x)] [.int (1 - cd)])) := by
    rcases hc with rfl | rfl
    · exact c5.trans (by
        refine XS.ifNo X4.here hexec rfl (hb hbytes d10) rfl (i0_ne_f rfl) ?_
        refine iconstV X4.here hexec rfl 1 (hb hbytes d13) (by decide) ?_
        refine XS.goto X4.here hexec rfl (pc0 := 14) rfl (hb hbytes d14) (by decide) rfl ?_
        exact Steps.refl _)
    · exact c5.trans (by
        refine XS.ifYes X4.here hexec rfl (pc0 := 10) rfl (hb hbytes d10) rfl (i0_ne_t (by decide)) (by decide) rfl ?_
        refine iconstV X4.here hexec rfl 0 (hb hbytes d17) (by decide) ?_
        exact Steps.refl _)
  exact ⟨T4, some (.int (1 - cd)), _, _, _, X4, rfl, rfl, rfl, (fun h => by cases h), ⟨rfl, q4.trans hh2⟩, fun fs hl => c6.trans (X4.ireturnOut hexec hret (by rcases hc with rfl | rfl <;> rfl) (Or.inr (Or.inl rfl)) (hb hbytes d18) hl)⟩
end IsL
namespace LChA
def yN : MethodName := ⟨"java/lang/StringLatin1", "charAt", "([BI)C"⟩
abbrev yB : ByteArray := jdk_43_method_2_code
theorem d0 : decode yB 0 = .ok (.iload_n 1, 1) := by decide +kernel
theorem d1 : decode yB 1 = .ok (.aload_n 0, 1) := by decide +kernel
theorem d2 : decode yB 2 = .ok (.arraylength, 1) := by decide +kernel
theorem d3 : decode yB 3 = .ok (.invokestatic 9, 3) := by decide +kernel
theorem d6 : decode yB 6 = .ok (.aload_n 0, 1) := by decide +kernel
theorem d7 : decode yB 7 = .ok (.iload_n 1, 1) := by decide +kernel
theorem d8 : decode yB 8 = .ok (.baload, 1) := by decide +kernel
theorem d9 : decode yB 9 = .ok (.sipush 255, 3) := by decide +kernel
theorem d12 : decode yB 12 = .ok (.iand, 1) := by decide +kernel
theorem d13 : decode yB 13 = .ok (.i2c, 1) := by decide +kernel
theorem d14 : decode yB 14 = .ok (.ireturn, 1) := by decide +kernel
def site : List Cond := [JO.Str_checkIndex.tab] ++ staticW "java/lang/StringLatin1" 9 JO.Str_checkIndex.yN
def tab : Cond := tabOf yN yB 2 (some .char) site
def P (t : Addr) (V : Cell) (i : Nat) (u : Int32) (fm : Value) (args : Array Value) (s : State) : Prop := args = #[.ref t, .int (Int32.ofNat i)] ∧ XT.Arr .byte t V s ∧ V.slots[i]? = some (.int u) ∧ (StaticIs s "jdk/internal/util/Preconditions" "SIOOBE_FORMATTER" "Ljava/util/function/BiFunction;" fm ∧ fm.isRef = true)
def E (u : Int32) (r : Option Value) (s w : State) : Prop := XT.PureE (some (.int (chr8 u))) r s w
theorem law (l : Launch) (t : Addr) (V : Cell) (i : Nat) (u : Int32) (fm : Value) : Law l yN 2 2 2 27 yB 2 (some .char) site (P t V i u fm) (E u) [] 0 0 := by
  refine Law.of_walk (plainFor_of_name (by decide +kernel)) (by decide +kernel) (by decide +kernel) (by decide) (fun _ _ h => by rw [h.1]; rfl) (fun _ U U' hal hh h => ⟨h.1, h.2.1.mv hal hh, h.2.2.1, h.2.2.2.1.there hal hh, h.2.2.2.2⟩) (fun r U U' V V' h1 hal h2 h => XT.PureE.mv r U U' V V' h1 hal h2 h) ?_
  intro p e s m args below meth c s₁ X0 hexec hbytes hml hret hlk hnm hown hh0 W hP
  obtain ⟨rfl, hV, hu, s1, rf⟩ := hP
  have v31 := hV.2.2.2
  have hi : i < V.slots.size := (Array.getElem?_eq_some_iff.mp hu).1
  have c1 : Steps p.tables e below (s₁.setTop (entryFrame m #[.ref t, .int (Int32.ofNat i)] 2)) (s₁.setTop (mkF m 0 #[.val (.ref t), .val (.int (Int32.ofNat i))] [])) := entry rfl
  have c2 : Steps p.tables e below (s₁.setTop (entryFrame m #[.ref t, .int (Int32.ofNat i)] 2)) (s₁.setTop (mkF m 3 #[.val (.ref t), .val (.int (Int32.ofNat i))] [.int (Int32.ofNat V.slots.size), .int (Int32.ofNat i)])) := c1.trans (by
    refine XS.iloadN X0.here hexec rfl (hb hbytes d0) rfl ?_
    refine XS.aloadN X0.here hexec rfl (hb hbytes d1) rfl rfl ?_
    refine X0.alen hexec (hV.mv X0.warmed.alike hh0) rfl rfl (hb hbytes d2) ?_
    exact Steps.refl _)
  obtain ⟨v3, T3, X3, E3, g3⟩ := X0.callS hexec (JO.Str_checkIndex.law l (Int32.ofNat i) (Int32.ofNat V.slots.size) fm) hown (wks W (staticW "java/lang/StringLatin1" 9 JO.Str_checkIndex.yN)) (wk W JO.Str_checkIndex.tab) (W := 0) (Nat.le_of_ble_eq_true rfl) (Nat.le_of_ble_eq_true rfl) (Nat.le_refl _) (Nat.le_refl _) (g := (mkF m 3 #[.val (.ref t), .val (.int (Int32.ofNat i))] [.int (Int32.ofNat V.slots.size), .int (Int32.ofNat i)])) rfl (by rw [hml]; rfl) c2 (argsL := [.int (Int32.ofNat i), .int (Int32.ofNat V.slots.size)]) (rest := []) rfl rfl (by show 2 * 0 + 0 ≤ _; decide) (hb hbytes d3) (⟨rfl, rf, s1.there X0.warmed.alike hh0, Int32.ofNat_not_neg (by omega), lt32 v31 hi⟩)
  obtain ⟨rfl, q3⟩ := E3
  have hh3 := q3.trans hh0
  have c4 : Steps p.tables e below (s₁.setTop (entryFrame m #[.ref t, .int (Int32.ofNat i)] 2)) (T3.setTop (mkF m 14 #[.val (.ref t), .val (.int (Int32.ofNat i))] [.int (chr8 u)])) := Steps.trans g3 (by
    refine XS.aloadN X3.here hexec rfl (hb hbytes d6) rfl rfl ?_
    refine XS.iloadN X3.here hexec rfl (hb hbytes d7) rfl ?_
    refine X3.aget hexec (hV.mv X3.warmed.alike hh3) rfl hu rfl rfl (hb hbytes d8) ?_
    refine sipushV X3.here hexec rfl 255 (hb hbytes d9) (by decide) ?_
    refine XS.iand X3.here hexec rfl (hb hbytes d12) rfl ?_
    refine i2c X3.here hexec rfl (hb hbytes d13) rfl ?_
    exact Steps.refl _)
  exact ⟨T3, some (.int (chr8 u)), _, _, _, X3, rfl, rfl, rfl, (fun h => by cases h), ⟨rfl, hh3⟩, fun fs hl => c4.trans (X3.ireturnOut hexec hret (narrow_c _) (Or.inr (Or.inr (Or.inr (Or.inl rfl)))) (hb hbytes d14) hl)⟩
end LChA
end StrChars
namespace StrChars.Road
open Jvm Sem ClassFile Op Lib Jvm.Stand Jvm.Free Jvm.Free.XT
open Jvm.Lib.Cold (StaticIs)
theorem consq {a : Array Value} {s : State} {c : Jvm.Cond} {L : List Jvm.Cond} (h0 : c.before a s = true) (h : ∀ w ∈ L, w.before a s = true) : ∀ w ∈ c :: L, w.before a s = true := fun w hw => (List.mem_cons.mp hw).elim (fun e => e ▸ h0) (h w)
/-- the words of String.length(), either coding -/
abbrev wordsLen : List Jvm.Cond := [.code Len.yN Len.yB 1 (some .int), .initialized ST, .fieldLink ST 9 ST "value" "[B", .fieldLink ST 38 ST "COMPACT_STRINGS" "Z", .fieldLink ST 15 ST "coder" "B", .code Cdr.yN Cdr.yB 1 (some .byte), .methodLink ST 335 Cdr.yN, .declares Cdr.yN, .selects ST Cdr.yN Cdr.yN, .instanceMethod Cdr.yN]
theorem tabLen_of {a : Array Value} {s : State} (h : ∀ w ∈ wordsLen, w.before a s = true) : Len.tab.before a s = true := by
  have hc : Cdr.tab.before a s = true := unparts (wk h (.code Cdr.yN Cdr.yB 1 (some .byte))) (wks h (.initialized Cdr.yN.cls :: Cdr.site))
  have q := consq hc h
  exact unparts (wk q (.code Len.yN Len.yB 1 (some .int))) (wks q (.initialized Len.yN.cls :: Len.site))
theorem movedLen {Z s : State} {a0 args : Array Value} (hZ : Z.Warmed39 s.vm) (hw : ∀ d ∈ wordsLen, d.before a0 Z = true) : ∀ d ∈ wordsLen, d.before args s = true := fun d hd => by
  have q := hw d hd
  have t : ∀ d ∈ wordsLen, d = .arrayClass .byte ∨ (d.onTables && d.keepsFace) = true := by decide +kernel
  rcases t d hd with rfl | t
  · exact RoadKit.mvA hZ q
  · exact RoadKit.mv hZ q t
/-- the bytes of the chars cs, low before high -/
def wideBytes : List Int32 → List Value
  | [] => []
  | c :: cs => .int (lo8 c) :: .int (hi8 c) :: wideBytes cs
theorem wide_lo (d : Value) : ∀ (cs : List Int32) (j : Nat), j < cs.length → (wideBytes cs).getD (2 * j) d = .int (lo8 (cs.getD j 0))
  | [], j, h => absurd h (Nat.not_lt_zero j)
  | c :: cs, 0, _ => rfl
  | c :: cs, j + 1, h => by
    have q := wide_lo d cs j (by simpa using h)
    rw [show 2 * (j + 1) = 2 * j + 1 + 1 from by omega]
    simpa [wideBytes] using q
theorem wide_hi (d : Value) : ∀ (cs : List Int32) (j : Nat), j < cs.length → (wideBytes cs).getD (2 * j + 1) d = .int (hi8 (cs.getD j 0))
  | [], j, h => absurd h (Nat.not_lt_zero j)
  | c :: cs, 0, _ => rfl
  | c :: cs, j + 1, h => by
    have q := wide_hi d cs j (by simpa using h)
    rw [show 2 * (j + 1) + 1 = 2 * j + 1 + 1 + 1 from by omega]
    simpa [wideBytes] using q
theorem low_at (d : Value) (cs : List Int32) (j : Nat) (h : j < cs.length) : (cs.map fun c => Value.int (lo8 c)).getD j d = .int (lo8 (cs.getD j 0)) := by
  simp [List.getD_eq_getElem?_getD, h]
/-- an array of N2 bytes vs codes the chars cs by the coder cd -/
def CodA (cs : List Int32) (cd N2 : Int32) (vs : List Value) : Prop := (cd = 0 ∧ N2 = Int32.ofNat cs.length ∧ vs = (cs.map fun c => Value.int (lo8 c)) ∧ ∀ c ∈ cs, ¬ 255 < c) ∨ (cd = 1 ∧ N2 = Int32.ofNat (2 * cs.length) ∧ vs = wideBytes cs ∧ ∃ c ∈ cs, 255 < c)
theorem CodA.cod {cs : List Int32} {cd N2 : Int32} {vs : List Value} {V : Cell} (h : CodA cs cd N2 vs) (hn : 2 * cs.length < 2 ^ 31) (hs : V.slots.size = N2.toNatClampNeg) (hv : RoadKit.Has V vs (.int 0)) : Cod cd cs.length (fun j => cs.getD j 0) V := by
  rcases h with ⟨rfl, rfl, rfl, h⟩ | ⟨rfl, rfl, rfl, c, hc, hw⟩
  · rw [n32 (by omega)] at hs
    exact Or.inl ⟨rfl, hs, fun j hj => ⟨by rw [hv j (by omega), low_at _ _ _ hj], by
      have e : cs.getD j 0 = cs[j] := by simp [List.getD_eq_getElem?_getD, hj]
      show ¬ 255 < cs.getD j 0
      rw [e]; exact h _ (List.getElem_mem _)⟩⟩
  · rw [n32 (by omega)] at hs
    obtain ⟨j, hj, rfl⟩ := List.getElem_of_mem hc
    exact Or.inr ⟨rfl, hs, fun j hj => ⟨by rw [hv _ (by omega), wide_lo _ _ _ hj], by rw [hv _ (by omega), wide_hi _ _ _ hj]⟩, j, hj, by
      have e : cs.getD j 0 = cs[j] := by simp [List.getD_eq_getElem?_getD, hj]
      show 255 < cs.getD j 0
      rw [e]; exact hw⟩
/-- an object of exactly java/lang/String, its two fields found: as the laws ask it -/
theorem strObj {Z U : State} {a0 : Array Value} {kI : Nat} (wi : (Jvm.Cond.instantiable ST kI).before a0 Z = true) (al : Z.vm.Alike U.vm) {x : Addr} {v0 c0 : Value} (E : RoadKit.Exa Z U.heap x ST) (V : RoadKit.Fld Z U.heap x ST "value" "[B" v0) (C : RoadKit.Fld Z U.heap x ST "coder" "B" c0) :
    ∃ (D : Cell) (fV fC : Field), Blank ST x D U ∧ Found ST "value" "[B" fV U ∧ Found ST "coder" "B" fC U ∧ D.slots[fV.slot]? = some v0 ∧ D.slots[fC.slot]? = some c0 ∧ RoadKit.slotOf Z ST "value" "[B" = fV.slot ∧ RoadKit.slotOf Z ST "coder" "B" = fC.slot := by
  obtain ⟨D, cfV, kV, iV, fV, hD, gV, stV, knV, obV, asV, slV⟩ := V
  obtain ⟨D', cfC, kC, iC, fC, hD', gC, stC, -, -, asC, slC⟩ := C
  cases hD.symm.trans hD'
  obtain ⟨D2, kD, e1, e2, e3, e4, e5⟩ := E
  cases hD.symm.trans e1
  obtain ⟨c2, k2, i1, i2, i3, -⟩ := Cond.instantiable_spec wi
  cases e2.symm.trans i1
  cases e3.symm.trans i2
  obtain ⟨kU, u1, u2⟩ := al.2.2 _ _ e3
  exact ⟨D, fV, fC, ⟨hD, ⟨knV, fun q hq => by rw [hq] at obV; cases obV⟩, by rw [al.findClass]; exact e2, kU, u1, by rw [u2]; exact i3, by rw [u2]; exact e5 i3⟩, ⟨SBG.found_only al ⟨cfV, kV, iV, gV⟩, stV⟩, ⟨SBG.found_only al ⟨cfC, kC, iC, gC⟩, stC⟩, slV, slC, by simp [RoadKit.slotOf, gV], by simp [RoadKit.slotOf, gC]⟩
theorem sta_is {Z U : State} (al : Z.vm.Alike U.vm) {C n d : String} {v : Value} (S : RoadKit.Sta Z U.heap C n d v) : StaticIs U C n d v := by
  obtain ⟨cfS, iS, kS, fS, st, cS, t1, t2, t3, t4, t5, t6, t7⟩ := S
  exact StaticIs.there (s := { Z with heap := U.heap }) ⟨cfS, iS, kS, fS, st, cS, t1, t2, t3, t4, t5, (fun q => by rw [q] at t6; cases t6), t7⟩ al rfl
/-- **length() OF SUCH A STRING** -/
theorem lenW {p : Program} {l : Launch} {e : Env} {R : Room} {s : State} {args : Array Value} {below : List Frame} {len W : Nat} {Z : State} {a0 : Array Value} {h : Heap} (hZ : Z.Warmed39 s.vm) (hw : ∀ d ∈ wordsLen, d.before a0 Z = true) {kI : Nat} (wi : (Jvm.Cond.instantiable ST kI).before a0 Z = true)
    {x t : Addr} {kb : ClassId} {cs : List Int32} {cd N2 z : Int32} {vs : List Value} (E : RoadKit.Exa Z h x ST) (V : RoadKit.Fld Z h x ST "value" "[B" (.ref t)) (C : RoadKit.Fld Z h x ST "coder" "B" (.int cd)) (K : RoadKit.Arv Z h t kb .byte N2 vs (.int 0)) (hc : CodA cs cd N2 vs) (hb : ∀ c ∈ cs, ¬ c < 0 ∧ ¬ (65535 : Int32) < c)
    (S : RoadKit.Sta Z h ST "COMPACT_STRINGS" "Z" (.int z)) (hz : ¬ z = 0) (l2 : cs.length ≤ 4000) (hfr : 2 ≤ R.frames) (hlo : W + 25 ≤ R.locals) :
    Back l R p e below s args (⟨"java/lang/String", "length", "()I"⟩ : MethodName) len W (fun P a => a = #[.ref x] ∧ P.U.heap = h ∧ P.cells + 0 ≤ R.cells ∧ P.slots + 0 ≤ R.slots)
      (fun P _ v B => ∃ L, (v = some (.int (Int32.ofNat cs.length)) ∧ L = [] ∧ B.U.heap = h) ∧ B.locs = P.locs ++ L ∧ B.cells = P.cells + 0 ∧ B.slots = P.slots + 0) := by
  obtain ⟨A, K1, K2, K3, K4, K5, K6⟩ := K
  have hcod := hc.cod (by omega) K3 K5
  intro m meth c P g ig mk a X hg hsize hdg hW hn hp'
  obtain ⟨rfl, rfl, r1, r2⟩ := hp'
  have al : Z.vm.Alike P.U.vm := hZ.alike.trans X.warmed.alike
  obtain ⟨D, fV, fC, hB, F1, F2, g1, g2, -, -⟩ := strObj wi al E V C
  have hx : Txt x t A cd cs.length (fun j => cs.getD j 0) P.U := ⟨⟨_, hB.2.2.1, D, hB.1, rfl, by cases q : D.vm <;> first | rfl | exact absurd q (hB.2.1.2 _)⟩, Has.of hB F1 g1, Has.of hB F2 g2, ⟨K1.1, State.isArrayOf_alike al K1.2.1, K1.2.2, by rcases hcod with ⟨-, q, -⟩ | ⟨-, q, -⟩ <;> omega⟩, hcod, fun j hj => by
    have e : cs.getD j 0 = cs[j] := by simp [List.getD_eq_getElem?_getD, hj]
    show ¬ cs.getD j 0 < 0 ∧ ¬ 65535 < cs.getD j 0
    rw [e]; exact hb _ (List.getElem_mem _)⟩
  obtain ⟨v, B, X', ⟨⟨hv, hh⟩, hl, hk, hs⟩, st⟩ := Len.pays x t A cd cs.length (fun j => cs.getD j 0) z (tabLen_of (movedLen hZ hw)) hfr hlo m meth c P g ig mk _ X hg hsize hdg hW hn ⟨r1, r2, rfl, hx, sta_is al S, hz⟩
  exact ⟨v, B, X', ⟨[], ⟨hv, rfl, hh⟩, hl, hk, hs⟩, st⟩
end StrChars.Road
namespace StrChars
open Jvm Sem ClassFile Op Lib Jvm.Stand Jvm.Free.XT Jvm.Free.ALB Jvm.Free.JM Jvm.Free
open Jvm.Lib.Cold (StaticIs)
namespace Emp
def yN : MethodName := ⟨"java/lang/String", "isEmpty", "()Z"⟩
abbrev yB : ByteArray := jdk_42_method_55_code
theorem d0 : decode yB 0 = .ok (.aload_n 0, 1) := by decide +kernel
theorem d1 : decode yB 1 = .ok (.getfield 9, 3) := by decide +kernel
theorem d4 : decode yB 4 = .ok (.arraylength, 1) := by decide +kernel
theorem d5 : decode yB 5 = .ok (.ifCond (.ne) 7, 3) := by decide +kernel
theorem d8 : decode yB 8 = .ok (.iconst 1, 1) := by decide +kernel
theorem d9 : decode yB 9 = .ok (.goto 4, 3) := by decide +kernel
theorem d12 : decode yB 12 = .ok (.iconst 0, 1) := by decide +kernel
theorem d13 : decode yB 13 = .ok (.ireturn, 1) := by decide +kernel
def site : List Cond := [.fieldLink "java/lang/String" 9 "java/lang/String" "value" "[B"]
def tab : Cond := tabOf yN yB 1 (some .boolean) site
def P (x t : Addr) (V : Cell) (cd : Int32) (n : Nat) (f : Nat → Int32) (args : Array Value) (s : State) : Prop := args = #[.ref x] ∧ Txt x t V cd n f s
def E (n : Nat) (r : Option Value) (s u : State) : Prop := XT.PureE (some (.int (if n = 0 then 1 else 0))) r s u
/-- isEmpty() of a String of n chars -/
theorem law (l : Launch) (x t : Addr) (V : Cell) (cd : Int32) (n : Nat) (f : Nat → Int32) : Law l yN 1 0 0 0 yB 1 (some .boolean) site (P x t V cd n f) (E n) [] 0 0 := by
  refine Law.of_walk (plainFor_of_name (by decide +kernel)) (by decide +kernel) (by decide +kernel) (by decide) (fun _ _ h => by rw [h.1]; rfl) (fun _ U U' hal hh h => ⟨h.1, h.2.mv hal hh⟩) (fun r U U' V V' h1 hal h2 h => XT.PureE.mv r U U' V V' h1 hal h2 h) ?_
  intro p e s m args below meth c s₁ X0 hexec hbytes hml hret hlk hnm hown hh0 W hP
  obtain ⟨rfl, hx⟩ := hP
  have v31 := hx.2.2.2.1.2.2.2
  have c1 : Steps p.tables e below (s₁.setTop (entryFrame m #[.ref x] 1)) (s₁.setTop (mkF m 1 #[.val (.ref x)] [.ref x])) := Steps.trans (entry rfl) (by
    show Steps p.tables e below (s₁.setTop (mkF m 0 #[.val (.ref x)] [])) _
    refine XS.aloadN X0.here hexec rfl (hb hbytes d0) rfl rfl ?_
    exact Steps.refl _)
  obtain ⟨T2, X2, q2, st2⟩ := X0.hget hexec hown (wk W (.fieldLink "java/lang/String" 9 "java/lang/String" "value" "[B")) (hx.mv X0.warmed.alike hh0).2.1 (g := (mkF m 1 #[.val (.ref x)] [.ref x])) rfl (rest := []) rfl (hb hbytes d1)
  have hh2 := q2.trans hh0
  have hx2 := hx.mv X2.warmed.alike hh2
  have c3 : Steps p.tables e below (s₁.setTop (entryFrame m #[.ref x] 1)) (T2.setTop (mkF m 5 #[.val (.ref x)] [.int (Int32.ofNat V.slots.size)])) := (c1.trans (st2 _ (Steps.refl _))).trans (by
    refine X2.alen hexec hx2.2.2.2.1 rfl rfl (hb hbytes d4) ?_
    exact Steps.refl _)
  have hz : V.slots.size = 0 ↔ n = 0 := by
    rcases hx.2.2.2.2.1 with ⟨-, q, -⟩ | ⟨-, q, -⟩ <;> omega
  by_cases h0 : n = 0
  · have c4 : Steps p.tables e below (s₁.setTop (entryFrame m #[.ref x] 1)) (T2.setTop (mkF m 13 #[.val (.ref x)] [.int 1])) := c3.trans (by
      refine XS.ifNo X2.here hexec rfl (hb hbytes d5) rfl (i0_ne_f (by rw [hz.mpr h0]; rfl)) ?_
      refine iconstV X2.here hexec rfl 1 (hb hbytes d8) (by decide) ?_
      refine XS.goto X2.here hexec rfl (pc0 := 9) rfl (hb hbytes d9) (by decide) rfl ?_
      exact Steps.refl _)
    exact ⟨T2, some (.int 1), _, _, _, X2, rfl, rfl, rfl, (fun h => by cases h), ⟨by rw [if_pos h0], hh2⟩, fun fs hl => c4.trans (X2.ireturnOut hexec hret rfl (Or.inr (Or.inl rfl)) (hb hbytes d13) hl)⟩
  · have c4 : Steps p.tables e below (s₁.setTop (entryFrame m #[.ref x] 1)) (T2.setTop (mkF m 13 #[.val (.ref x)] [.int 0])) := c3.trans (by
      refine XS.ifYes X2.here hexec rfl (pc0 := 5) rfl (hb hbytes d5) rfl (i0_ne_t (nz32 v31 (by omega))) (by decide) rfl ?_
      refine iconstV X2.here hexec rfl 0 (hb hbytes d12) (by decide) ?_
      exact Steps.refl _)
    exact ⟨T2, some (.int 0), _, _, _, X2, rfl, rfl, rfl, (fun h => by cases h), ⟨by rw [if_neg h0], hh2⟩, fun fs hl => c4.trans (X2.ireturnOut hexec hret rfl (Or.inr (Or.inl rfl)) (hb hbytes d13) hl)⟩
theorem pays {l : Launch} {R : Room} {p : Program} {e : Env} {below : List Frame} {s : State} {sargs : Array Value} {len W : Nat} (x t : Addr) (V : Cell) (cd : Int32) (n : Nat) (f : Nat → Int32) (htab : tab.before sargs s = true) (hfr : 1 ≤ R.frames) (hlo : W + 12 ≤ R.locals) :
    Back l R p e below s sargs yN len W (fun A₁ a₁ => A₁.cells + 0 ≤ R.cells ∧ A₁.slots + 0 ≤ R.slots ∧ P x t V cd n f a₁ A₁.U) (fun A₁ _ v₁ B₁ => E n v₁ A₁.U B₁.U ∧ B₁.locs = A₁.locs ++ [] ∧ B₁.cells = A₁.cells + 0 ∧ B₁.slots = A₁.slots + 0) :=
  (law l x t V cd n f).pays htab hfr (by omega)
end Emp
end StrChars
namespace StrChars.Road
open Jvm Sem ClassFile Op Lib Jvm.Stand Jvm.Free Jvm.Free.XT
open Jvm.Lib.Cold (StaticIs)
/-- the words of String.isEmpty() -/
abbrev wordsEmp : List Jvm.Cond := [.code Emp.yN Emp.yB 1 (some .boolean), .initialized ST, .fieldLink ST 9 ST "value" "[B"]
theorem tabEmp_of {a : Array Value} {s : State} (h : ∀ w ∈ wordsEmp, w.before a s = true) : Emp.tab.before a s = true := unparts (wk h (.code Emp.yN Emp.yB 1 (some .boolean))) (wks h (.initialized Emp.yN.cls :: Emp.site))
theorem movedEmp {Z s : State} {a0 args : Array Value} (hZ : Z.Warmed39 s.vm) (hw : ∀ d ∈ wordsEmp, d.before a0 Z = true) : ∀ d ∈ wordsEmp, d.before args s = true := fun d hd => by
  have t : ∀ d ∈ wordsEmp, (d.onTables && d.keepsFace) = true := by decide +kernel
  exact RoadKit.mv hZ (hw d hd) (t d hd)
/-- the road's facts of a String, as the laws ask it -/
theorem txt_of {Z U : State} {a0 : Array Value} {kI : Nat} (wi : (Jvm.Cond.instantiable ST kI).before a0 Z = true) (al : Z.vm.Alike U.vm) {x t : Addr} {kb : ClassId} {cs : List Int32} {cd N2 : Int32} {vs : List Value} (E : RoadKit.Exa Z U.heap x ST) (V : RoadKit.Fld Z U.heap x ST "value" "[B" (.ref t)) (C : RoadKit.Fld Z U.heap x ST "coder" "B" (.int cd)) (K : RoadKit.Arv Z U.heap t kb .byte N2 vs (.int 0)) (hc : CodA cs cd N2 vs) (hb : ∀ c ∈ cs, ¬ c < 0 ∧ ¬ (65535 : Int32) < c) (l2 : cs.length ≤ 4000) :
    ∃ A, Txt x t A cd cs.length (fun j => cs.getD j 0) U := by
  obtain ⟨A, K1, K2, K3, K4, K5, K6⟩ := K
  have hcod := hc.cod (by omega) K3 K5
  obtain ⟨D, fV, fC, hB, F1, F2, g1, g2, -, -⟩ := strObj wi al E V C
  exact ⟨A, ⟨_, hB.2.2.1, D, hB.1, rfl, by cases q : D.vm <;> first | rfl | exact absurd q (hB.2.1.2 _)⟩, Has.of hB F1 g1, Has.of hB F2 g2, ⟨K1.1, State.isArrayOf_alike al K1.2.1, K1.2.2, by rcases hcod with ⟨-, q, -⟩ | ⟨-, q, -⟩ <;> omega⟩, hcod, fun j hj => by
    have e : cs.getD j 0 = cs[j] := by simp [List.getD_eq_getElem?_getD, hj]
    show ¬ cs.getD j 0 < 0 ∧ ¬ 65535 < cs.getD j 0
    rw [e]; exact hb _ (List.getElem_mem _)⟩
/-- **isEmpty() OF SUCH A STRING** -/
theorem empW {p : Program} {l : Launch} {e : Env} {R : Room} {s : State} {args : Array Value} {below : List Frame} {len W : Nat} {Z : State} {a0 : Array Value} {h : Heap} (hZ : Z.Warmed39 s.vm) (hw : ∀ d ∈ wordsEmp, d.before a0 Z = true) {kI : Nat} (wi : (Jvm.Cond.instantiable ST kI).before a0 Z = true)
    {x t : Addr} {kb : ClassId} {cs : List Int32} {cd N2 : Int32} {vs : List Value} (E : RoadKit.Exa Z h x ST) (V : RoadKit.Fld Z h x ST "value" "[B" (.ref t)) (C : RoadKit.Fld Z h x ST "coder" "B" (.int cd)) (K : RoadKit.Arv Z h t kb .byte N2 vs (.int 0)) (hc : CodA cs cd N2 vs) (hb : ∀ c ∈ cs, ¬ c < 0 ∧ ¬ (65535 : Int32) < c) (l2 : cs.length ≤ 4000) (hfr : 1 ≤ R.frames) (hlo : W + 12 ≤ R.locals) :
    Back l R p e below s args (⟨"java/lang/String", "isEmpty", "()Z"⟩ : MethodName) len W (fun P a => a = #[.ref x] ∧ P.U.heap = h ∧ P.cells + 0 ≤ R.cells ∧ P.slots + 0 ≤ R.slots)
      (fun P _ v B => ∃ L, (v = some (.int (if cs.length = 0 then 1 else 0)) ∧ L = [] ∧ B.U.heap = h) ∧ B.locs = P.locs ++ L ∧ B.cells = P.cells + 0 ∧ B.slots = P.slots + 0) := by
  intro m meth c P g ig mk a X hg hsize hdg hW hn hp'
  obtain ⟨rfl, rfl, r1, r2⟩ := hp'
  have al : Z.vm.Alike P.U.vm := hZ.alike.trans X.warmed.alike
  obtain ⟨A, hx⟩ := txt_of wi al E V C K hc hb l2
  obtain ⟨v, B, X', ⟨⟨hv, hh⟩, hl, hk, hs⟩, st⟩ := Emp.pays x t A cd cs.length (fun j => cs.getD j 0) (tabEmp_of (movedEmp hZ hw)) hfr hlo m meth c P g ig mk _ X hg hsize hdg hW hn ⟨r1, r2, rfl, hx⟩
  exact ⟨v, B, X', ⟨[], ⟨hv, rfl, hh⟩, hl, hk, hs⟩, st⟩
end StrChars.Road
namespace StrChars
open Jvm Sem ClassFile Op Lib Jvm.Stand Jvm.Free.XT Jvm.Free.ALB Jvm.Free.JM Jvm.Free
open Jvm.Lib.Cold (StaticIs)
namespace ChN
def yN : MethodName := ⟨"java/lang/String", "charAt", "(I)C"⟩
abbrev yB : ByteArray := jdk_42_method_56_code
theorem d0 : decode yB 0 = .ok (.aload_n 0, 1) := by decide +kernel
theorem d1 : decode yB 1 = .ok (.invokevirtual 492, 3) := by decide +kernel
theorem d4 : decode yB 4 = .ok (.ifCond (.eq) 12, 3) := by decide +kernel
theorem d7 : decode yB 7 = .ok (.aload_n 0, 1) := by decide +kernel
theorem d8 : decode yB 8 = .ok (.getfield 9, 3) := by decide +kernel
theorem d11 : decode yB 11 = .ok (.iload_n 1, 1) := by decide +kernel
theorem d12 : decode yB 12 = .ok (.invokestatic 495, 3) := by decide +kernel
theorem d15 : decode yB 15 = .ok (.ireturn, 1) := by decide +kernel
def site : List Cond := [.fieldLink "java/lang/String" 9 "java/lang/String" "value" "[B", IsL.tab, LChA.tab] ++ virtW "java/lang/String" 492 "java/lang/String" IsL.yN IsL.yN ++ staticW "java/lang/String" 495 LChA.yN
def tab : Cond := tabOf yN yB 2 (some .char) site
def P (x t : Addr) (V : Cell) (n : Nat) (f : Nat → Int32) (z : Int32) (fm : Value) (i : Nat) (args : Array Value) (s : State) : Prop := args = #[.ref x, .int (Int32.ofNat i)] ∧ Txt x t V 0 n f s ∧ i < n ∧ StaticIs s "java/lang/String" "COMPACT_STRINGS" "Z" (.int z) ∧ ¬ z = 0 ∧ StaticIs s "jdk/internal/util/Preconditions" "SIOOBE_FORMATTER" "Ljava/util/function/BiFunction;" fm ∧ fm.isRef = true
def E (f : Nat → Int32) (i : Nat) (r : Option Value) (s u : State) : Prop := XT.PureE (some (.int (f i))) r s u
/-- charAt(i) of a Latin-1 String of n chars, i < n: f i -/
theorem law (l : Launch) (x t : Addr) (V : Cell) (n : Nat) (f : Nat → Int32) (z : Int32) (fm : Value) (i : Nat) : Law l yN 2 1 3 40 yB 2 (some .char) site (P x t V n f z fm i) (E f i) [] 0 0 := by
  refine Law.of_walk (plainFor_of_name (by decide +kernel)) (by decide +kernel) (by decide +kernel) (by decide) (fun _ _ h => by rw [h.1]; rfl) (fun _ U U' hal hh h => ⟨h.1, h.2.1.mv hal hh, h.2.2.1, h.2.2.2.1.there hal hh, h.2.2.2.2.1, h.2.2.2.2.2.1.there hal hh, h.2.2.2.2.2.2⟩) (fun r U U' V V' h1 hal h2 h => XT.PureE.mv r U U' V V' h1 hal h2 h) ?_
  intro p e s m args below meth c s₁ X0 hexec hbytes hml hret hlk hnm hown hh0 W hP
  obtain ⟨rfl, hx, hi, s1, hz, s3, rf⟩ := hP
  have v31 := hx.2.2.2.1.2.2.2
  have hr := hx.2.2.2.2.2 i hi
  have hx0 := hx.mv X0.warmed.alike hh0
  have c1 : Steps p.tables e below (s₁.setTop (entryFrame m #[.ref x, .int (Int32.ofNat i)] 2)) (s₁.setTop (mkF m 1 #[.val (.ref x), .val (.int (Int32.ofNat i))] [.ref x])) := Steps.trans (entry rfl) (by
    show Steps p.tables e below (s₁.setTop (mkF m 0 #[.val (.ref x), .val (.int (Int32.ofNat i))] [])) _
    refine XS.aloadN X0.here hexec rfl (hb hbytes d0) rfl rfl ?_
    exact Steps.refl _)
  obtain ⟨v2, T2, X2, E2, g2⟩ := X0.callV hexec (IsL.law l x 0 z) hown (wks W (virtW "java/lang/String" 492 "java/lang/String" IsL.yN IsL.yN)) rfl (by decide) (wk W IsL.tab) (W := 0) (Nat.le_of_ble_eq_true rfl) (Nat.le_of_ble_eq_true rfl) (Nat.le_refl _) (Nat.le_refl _) (hx0.1.fc X0.warmed.alike) hx0.1.is (g := (mkF m 1 #[.val (.ref x), .val (.int (Int32.ofNat i))] [.ref x])) rfl (by rw [hml]; rfl) c1 (argsL := []) (rest := []) rfl rfl (by show 2 * 0 + 0 ≤ _; decide) (hb hbytes d1) (⟨rfl, hx0.2.2.1, hx.2.2.2.2.1.cd, s1.there X0.warmed.alike hh0, hz⟩)
  obtain ⟨rfl, q2⟩ := E2
  have hh2 := q2.trans hh0
  have hx2 := hx.mv X2.warmed.alike hh2
  obtain ⟨-, k1, k2⟩ | ⟨k0, -⟩ := hx.2.2.2.2.1
  · have c3 : Steps p.tables e below (s₁.setTop (entryFrame m #[.ref x, .int (Int32.ofNat i)] 2)) (T2.setTop (mkF m 8 #[.val (.ref x), .val (.int (Int32.ofNat i))] [.ref x])) := Steps.trans g2 (by
      refine XS.ifNo X2.here hexec rfl (hb hbytes d4) rfl (i0_eq_f (by decide)) ?_
      refine XS.aloadN X2.here hexec rfl (hb hbytes d7) rfl rfl ?_
      exact Steps.refl _)
    obtain ⟨T4, X4, q4, st4⟩ := X2.hget hexec hown (wk W (.fieldLink "java/lang/String" 9 "java/lang/String" "value" "[B")) hx2.2.1 (g := (mkF m 8 #[.val (.ref x), .val (.int (Int32.ofNat i))] [.ref x])) rfl (rest := []) rfl (hb hbytes d8)
    have hh4 := q4.trans hh2
    have c5 : Steps p.tables e below (s₁.setTop (entryFrame m #[.ref x, .int (Int32.ofNat i)] 2)) (T4.setTop (mkF m 12 #[.val (.ref x), .val (.int (Int32.ofNat i))] [.int (Int32.ofNat i), .ref t])) := (c3.trans (st4 _ (Steps.refl _))).trans (by
      refine XS.iloadN X4.here hexec rfl (hb hbytes d11) rfl ?_
      exact Steps.refl _)
    obtain ⟨v6, T6, X6, E6, g6⟩ := X4.callS hexec (LChA.law l t V i (lo8 (f i)) fm) hown (wks W (staticW "java/lang/String" 495 LChA.yN)) (wk W LChA.tab) (W := 0) (Nat.le_of_ble_eq_true rfl) (Nat.le_of_ble_eq_true rfl) (Nat.le_refl _) (Nat.le_refl _) (g := (mkF m 12 #[.val (.ref x), .val (.int (Int32.ofNat i))] [.int (Int32.ofNat i), .ref t])) rfl (by rw [hml]; rfl) c5 (argsL := [.ref t, .int (Int32.ofNat i)]) (rest := []) rfl rfl (by show 2 * 0 + 0 ≤ _; decide) (hb hbytes d12) (⟨rfl, hx.2.2.2.1.mv X4.warmed.alike hh4, (k2 i hi).1, s3.there X4.warmed.alike hh4, rf⟩)
    obtain ⟨rfl, q6⟩ := E6
    rw [chr8_lo8 hr.1 (k2 i hi).2] at g6
    exact ⟨T6, some (.int (f i)), _, _, _, X6, rfl, rfl, rfl, (fun h => by cases h), ⟨rfl, q6.trans hh4⟩, fun fs hl => Steps.trans g6 (X6.ireturnOut hexec hret (narrow_ch hr.1 hr.2) (Or.inr (Or.inr (Or.inr (Or.inl rfl)))) (hb hbytes d15) hl)⟩
  · exact absurd k0 (by decide)
theorem pays {l : Launch} {R : Room} {p : Program} {e : Env} {below : List Frame} {s : State} {sargs : Array Value} {len W : Nat} (x t : Addr) (V : Cell) (n : Nat) (f : Nat → Int32) (z : Int32) (fm : Value) (i : Nat) (htab : tab.before sargs s = true) (hfr : 4 ≤ R.frames) (hlo : W + 53 ≤ R.locals) :
    Back l R p e below s sargs yN len W (fun A₁ a₁ => A₁.cells + 0 ≤ R.cells ∧ A₁.slots + 0 ≤ R.slots ∧ P x t V n f z fm i a₁ A₁.U) (fun A₁ _ v₁ B₁ => E f i v₁ A₁.U B₁.U ∧ B₁.locs = A₁.locs ++ [] ∧ B₁.cells = A₁.cells + 0 ∧ B₁.slots = A₁.slots + 0) :=
  (law l x t V n f z fm i).pays htab hfr (by omega)
end ChN
end StrChars
namespace StrChars.Road
open Jvm Sem ClassFile Op Lib Jvm.Stand Jvm.Free Jvm.Free.XT
open Jvm.Lib.Cold (StaticIs)
/-- the words of String.charAt(int), the Latin-1 road alone -/
abbrev wordsChN : List Jvm.Cond := [.code ChN.yN ChN.yB 2 (some .char), .initialized ST, .fieldLink ST 9 ST "value" "[B", .fieldLink ST 38 ST "COMPACT_STRINGS" "Z", .fieldLink ST 15 ST "coder" "B", .code IsL.yN IsL.yB 1 (some .boolean), .methodLink ST 492 IsL.yN, .declares IsL.yN, .selects ST IsL.yN IsL.yN, .instanceMethod IsL.yN,
  .methodLink ST 495 LChA.yN, .static LChA.yN, .code LChA.yN LChA.yB 2 (some .char), .initialized "java/lang/StringLatin1", .methodLink "java/lang/StringLatin1" 9 JO.Str_checkIndex.yN, .static JO.Str_checkIndex.yN, .code JO.Str_checkIndex.yN JO.Str_checkIndex.yB 2 none,
  .fieldLink ST 1053 "jdk/internal/util/Preconditions" "SIOOBE_FORMATTER" "Ljava/util/function/BiFunction;", .methodLink ST 1059 JC.PreCheck.yN, .static JC.PreCheck.yN, .code JC.PreCheck.yN JC.PreCheck.yB 3 (some .int), .initialized "jdk/internal/util/Preconditions"]
theorem tabChN_of {a : Array Value} {s : State} (h : ∀ w ∈ wordsChN, w.before a s = true) : ChN.tab.before a s = true := by
  have hp : JC.PreCheck.tab.before a s = true := unparts (wk h (.code JC.PreCheck.yN JC.PreCheck.yB 3 (some .int))) (wks h (.initialized JC.PreCheck.yN.cls :: JC.PreCheck.site))
  have qk := consq hp h
  have hk : JO.Str_checkIndex.tab.before a s = true := unparts (wk qk (.code JO.Str_checkIndex.yN JO.Str_checkIndex.yB 2 none)) (wks qk (.initialized JO.Str_checkIndex.yN.cls :: JO.Str_checkIndex.site))
  have ql := consq hk h
  have hl : LChA.tab.before a s = true := unparts (wk ql (.code LChA.yN LChA.yB 2 (some .char))) (wks ql (.initialized LChA.yN.cls :: LChA.site))
  have hi : IsL.tab.before a s = true := unparts (wk h (.code IsL.yN IsL.yB 1 (some .boolean))) (wks h (.initialized IsL.yN.cls :: IsL.site))
  have q := consq hi (consq hl h)
  exact unparts (wk q (.code ChN.yN ChN.yB 2 (some .char))) (wks q (.initialized ChN.yN.cls :: ChN.site))
theorem movedChN {Z s : State} {a0 args : Array Value} (hZ : Z.Warmed39 s.vm) (hw : ∀ d ∈ wordsChN, d.before a0 Z = true) : ∀ d ∈ wordsChN, d.before args s = true := fun d hd => by
  have t : ∀ d ∈ wordsChN, (d.onTables && d.keepsFace) = true := by decide +kernel
  exact RoadKit.mv hZ (hw d hd) (t d hd)
/-- **charAt(i) OF A LATIN-1 STRING**, i < n: the char -/
theorem chN {p : Program} {l : Launch} {e : Env} {R : Room} {s : State} {args : Array Value} {below : List Frame} {len W : Nat} {Z : State} {a0 : Array Value} {h : Heap} (hZ : Z.Warmed39 s.vm) (hw : ∀ d ∈ wordsChN, d.before a0 Z = true) {kI : Nat} (wi : (Jvm.Cond.instantiable ST kI).before a0 Z = true)
    {x t : Addr} {kb : ClassId} {cs : List Int32} {N2 z : Int32} {vs : List Value} {fm : Value} {i : Nat} {j : Int32} (E : RoadKit.Exa Z h x ST) (V : RoadKit.Fld Z h x ST "value" "[B" (.ref t)) (C : RoadKit.Fld Z h x ST "coder" "B" (.int 0)) (K : RoadKit.Arv Z h t kb .byte N2 vs (.int 0)) (hc : CodA cs 0 N2 vs) (hb : ∀ c ∈ cs, ¬ c < 0 ∧ ¬ (65535 : Int32) < c)
    (S : RoadKit.Sta Z h ST "COMPACT_STRINGS" "Z" (.int z)) (hz : ¬ z = 0) (F : RoadKit.Sta Z h "jdk/internal/util/Preconditions" "SIOOBE_FORMATTER" "Ljava/util/function/BiFunction;" fm) (rf : fm.isRef = true) (l2 : cs.length ≤ 4000) (hi : i < cs.length) (hj : j = Int32.ofNat i) (hfr : 4 ≤ R.frames) (hlo : W + 53 ≤ R.locals) :
    Back l R p e below s args (⟨"java/lang/String", "charAt", "(I)C"⟩ : MethodName) len W (fun P a => a = #[.ref x, .int j] ∧ P.U.heap = h ∧ P.cells + 0 ≤ R.cells ∧ P.slots + 0 ≤ R.slots)
      (fun P _ v B => ∃ L, (v = some (.int (cs.getD i 0)) ∧ L = [] ∧ B.U.heap = h) ∧ B.locs = P.locs ++ L ∧ B.cells = P.cells + 0 ∧ B.slots = P.slots + 0) := by
  subst hj
  intro m meth c P g ig mk a X hg hsize hdg hW hn hp'
  obtain ⟨rfl, rfl, r1, r2⟩ := hp'
  have al : Z.vm.Alike P.U.vm := hZ.alike.trans X.warmed.alike
  obtain ⟨A, hx⟩ := txt_of wi al E V C K hc hb l2
  obtain ⟨v, B, X', ⟨⟨hv, hh⟩, hl, hk, hs⟩, st⟩ := ChN.pays x t A cs.length (fun j => cs.getD j 0) z fm i (tabChN_of (movedChN hZ hw)) hfr hlo m meth c P g ig mk _ X hg hsize hdg hW hn ⟨r1, r2, rfl, hx, hi, sta_is al S, hz, sta_is al F, rf⟩
  exact ⟨v, B, X', ⟨[], ⟨hv, rfl, hh⟩, hl, hk, hs⟩, st⟩
/-- what backV says of its String, as the contracts of this text ask it: cs's low bytes, coder 0 -/
theorem codOf {cs : List Int32} {n : Nat} (hn : cs.length = n) (hb : ∀ c ∈ cs, ¬ 255 < c) : CodA cs 0 (Int32.ofNat n) ((cs.map lo8).map Value.int) := Or.inl ⟨rfl, by rw [hn], by simp [List.map_map, Function.comp_def], hb⟩
end StrChars.Road
end Jvm.Pilot.@@N@@
namespace Jvm.Pilot.@@N@@
def own_ushr (x y : Int32) : Int32 := (x.toUInt32 >>> (y &&& 31).toUInt32).toInt32
def own_ushrL (x : Int64) (y : Int32) : Int64 := (x.toUInt64 >>> (y &&& 0x3f).toInt64.toUInt64).toInt64
def own_cmpL (x y : Int64) : Int32 := if x > y then 1 else if x = y then 0 else -1
open Jvm Jvm.ClassFile Sem Op Lib Jvm.Free Jvm.Stand Jvm.LawKit Jvm.RoadKit Bundle Jvm.Pilot.@@N@@.Jvm.D
theorem own_rem_eq (x y : Int32) : x - x / y * y = x % y := by
  apply Int32.toInt_inj.mp
  have h := Int.tmod_add_mul_tdiv x.toInt y.toInt
  have e : (x % y).toInt = (x % y).toInt.bmod (2 ^ 32) := (Int.bmod_eq_of_le (Int32.le_toInt _) (Int32.toInt_lt _)).symm
  rw [e, Int32.toInt_sub, Int32.toInt_mul, Int32.toInt_div, Int32.toInt_mod, Int.sub_bmod_bmod, Int.sub_bmod, Int.bmod_mul_bmod, ← Int.sub_bmod]
  congr 1
  rw [Int.mul_comm (x.toInt.tdiv y.toInt)]
  omega
theorem own_W {a0 : Array Value} {Z : State} (hw : ∀ d ∈ tables_1, d.before a0 Z = true) (i : Nat) {d : Jvm.Cond} (h : tables_1[i]? = some d) : d.before a0 Z = true := hw d (List.mem_of_getElem? h)
theorem own_small (x : Int32) (h : x.toBitVec.toNat < 256) : nar .char (x.toUInt32.toUInt16.toUInt32.toInt32) = x ∧ ¬ x < 0 ∧ ¬ (255 : Int32) < x := by
  have t : ∀ k : Fin 256, nar .char ((Int32.ofNat k.val).toUInt32.toUInt16.toUInt32.toInt32) = Int32.ofNat k.val ∧ ¬ Int32.ofNat k.val < 0 ∧ ¬ (255 : Int32) < Int32.ofNat k.val := by decide +kernel
  have e : x = Int32.ofNat x.toBitVec.toNat := by
    apply Int32.toBitVec_inj.mp
    show _ = BitVec.ofNat 32 _
    rw [BitVec.ofNat_toNat]; simp
  rw [e]
  exact t ⟨_, h⟩
theorem own_andlt (x y : Int32) {k : Nat} (h : y.toBitVec.toNat < k) : (x &&& y).toBitVec.toNat < k := by
  rw [Int32.toBitVec_and, BitVec.toNat_and]
  exact Nat.lt_of_le_of_lt Nat.and_le_right h
theorem own_xorlt (x y : Int32) (hx : x.toBitVec.toNat < 2 ^ 8) (hy : y.toBitVec.toNat < 2 ^ 8) : (x ^^^ y).toBitVec.toNat < 256 := by
  rw [Int32.toBitVec_xor, BitVec.toNat_xor]
  exact Nat.xor_lt_two_pow hx hy
theorem own_narb (y : Int32) : nar .byte (StrChars.lo8 y) = StrChars.lo8 y := by
  show (y.toInt8.toInt32).toInt8.toInt32 = y.toInt8.toInt32
  simp
theorem own_charnat (c : Int32) (h0 : ¬ c < 0) (h1 : ¬ (65535 : Int32) < c) : c.toBitVec.toNat < 65536 := by
  rw [Int32.lt_iff_toInt_lt] at h0 h1
  have e0 : (0 : Int32).toInt = 0 := rfl
  have e1 : (65535 : Int32).toInt = 65535 := rfl
  have e2 : c.toInt = c.toBitVec.toInt := rfl
  rw [e0, e2] at h0; rw [e1, e2] at h1
  have := BitVec.toInt_eq_toNat_cond c.toBitVec
  have := c.toBitVec.isLt
  split at * <;> omega
theorem own_narc (c : Int32) (h0 : ¬ c < 0) (h1 : ¬ (65535 : Int32) < c) : nar .char c = c := by
  have h := own_charnat c h0 h1
  apply Int32.toBitVec_inj.mp
  apply BitVec.eq_of_toNat_eq
  show (c.toUInt32.toUInt16.toUInt32).toNat = c.toUInt32.toNat
  have e : c.toUInt32.toNat = c.toBitVec.toNat := rfl
  simp only [UInt16.toNat_toUInt32, UInt32.toNat_toUInt16]
  rw [e]; omega
/-- x is a String of the chars cs at h, its two cells below k -/
def StrB (Z : State) (h : Heap) (k : Nat) (a : Addr) (cs : List Int32) : Prop := a < k ∧ Exa Z h a "java/lang/String" ∧ ∃ (t : Addr) (kb : ClassId) (cd N2 : Int32) (vs : List Value), t < k ∧ Fld Z h a "java/lang/String" "value" "[B" (.ref t) ∧ Fld Z h a "java/lang/String" "coder" "B" (.int cd) ∧ Arv Z h t kb .byte N2 vs (.int 0) ∧ StrChars.Road.CodA cs cd N2 vs ∧ (∀ c ∈ cs, ¬ c < 0 ∧ ¬ (65535 : Int32) < c) ∧ cs.length ≤ 4000
theorem StrB.ext {Z : State} {h h' : Heap} {k : Nat} {a : Addr} {cs : List Int32} (F : StrB Z h k a cs) (E : Ext h h') : StrB Z h' k a cs := by
  obtain ⟨a1, a2, t, kb, cd, N2, vs, b1, b2, b3, b4, r⟩ := F
  exact ⟨a1, a2.ext E, t, kb, cd, N2, vs, b1, b2.ext E, b3.ext E, b4.ext E, r⟩
theorem own_notin {x : Addr} {k : Nat} {ws : List Addr} (h : x < k) (q : ∀ y ∈ ws, k ≤ y) : x ∉ ws := fun z => absurd h (Nat.not_lt.mpr (q x z))
theorem StrB.keep {Z : State} {h h' : Heap} {k : Nat} {a : Addr} {cs : List Int32} {ws : List Addr} (F : StrB Z h k a cs) (K : Keep h h' ws) (q : ∀ x ∈ ws, k ≤ x) : StrB Z h' k a cs := by
  obtain ⟨a1, a2, t, kb, cd, N2, vs, b1, b2, b3, b4, r⟩ := F
  exact ⟨a1, a2.keep K, t, kb, cd, N2, vs, b1, b2.keep K (own_notin a1 q), b3.keep K (own_notin a1 q), b4.keep K (own_notin b1 q), r⟩
theorem StrB.wr {Z : State} {h h' : Heap} {k : Nat} {a x : Addr} {cs : List Int32} {sl : Nat} {v : Value} (F : StrB Z h k a cs) (W : Wr h h' x sl v) (q : k ≤ x) : StrB Z h' k a cs := F.keep (Keep.of_wr W) (allS q all0)
theorem StrB.now {Z : State} {h : Heap} {k : Nat} {a : Addr} {cs : List Int32} (F : StrB Z h k a cs) : StrB Z h h.size a cs := by
  obtain ⟨a1, a2, t, kb, cd, N2, vs, b1, b2, b3, b4, r⟩ := F
  exact ⟨a2.lt, a2, t, kb, cd, N2, vs, b4.lt, b2, b3, b4, r⟩
theorem StrB.exa {Z : State} {h : Heap} {k : Nat} {a : Addr} {cs : List Int32} (F : StrB Z h k a cs) : Exa Z h a "java/lang/String" := F.2.1
theorem own_lenS {p : Program} {l : Launch} {e : Env} {R : Room} {s : State} {args : Array Value} {below : List Frame} {len W : Nat} {Z : State} {a0 : Array Value} {h : Heap} (hZ : Z.Warmed39 s.vm) (hw : ∀ d ∈ StrChars.Road.wordsLen, d.before a0 Z = true) {kI : Nat} (wi : (Jvm.Cond.instantiable "java/lang/String" kI).before a0 Z = true)
    {x : Addr} {k : Nat} {cs : List Int32} (F : StrB Z h k x cs) {z : Int32} (S : Sta Z h "java/lang/String" "COMPACT_STRINGS" "Z" (.int z)) (hz : ¬ z = 0) (hfr : 2 ≤ R.frames) (hlo : W + 25 ≤ R.locals) :
    Back l R p e below s args (⟨"java/lang/String", "length", "()I"⟩ : MethodName) len W (fun P a => a = #[.ref x] ∧ P.U.heap = h ∧ P.cells + 0 ≤ R.cells ∧ P.slots + 0 ≤ R.slots)
      (fun P _ v B => ∃ L, (v = some (.int (Int32.ofNat cs.length)) ∧ L = [] ∧ B.U.heap = h) ∧ B.locs = P.locs ++ L ∧ B.cells = P.cells + 0 ∧ B.slots = P.slots + 0) := by
  obtain ⟨_, E1, t, kb, cd, N2, vs, _, V1, C1, K1, hc, hb, hl⟩ := F
  exact StrChars.Road.lenW hZ hw wi E1 V1 C1 K1 hc hb S hz hl hfr hlo
theorem own_empS {p : Program} {l : Launch} {e : Env} {R : Room} {s : State} {args : Array Value} {below : List Frame} {len W : Nat} {Z : State} {a0 : Array Value} {h : Heap} (hZ : Z.Warmed39 s.vm) (hw : ∀ d ∈ StrChars.Road.wordsEmp, d.before a0 Z = true) {kI : Nat} (wi : (Jvm.Cond.instantiable "java/lang/String" kI).before a0 Z = true)
    {x : Addr} {k : Nat} {cs : List Int32} (F : StrB Z h k x cs) (hfr : 1 ≤ R.frames) (hlo : W + 12 ≤ R.locals) :
    Back l R p e below s args (⟨"java/lang/String", "isEmpty", "()Z"⟩ : MethodName) len W (fun P a => a = #[.ref x] ∧ P.U.heap = h ∧ P.cells + 0 ≤ R.cells ∧ P.slots + 0 ≤ R.slots)
      (fun P _ v B => ∃ L, (v = some (.int (if cs.length = 0 then 1 else 0)) ∧ L = [] ∧ B.U.heap = h) ∧ B.locs = P.locs ++ L ∧ B.cells = P.cells + 0 ∧ B.slots = P.slots + 0) := by
  obtain ⟨_, E1, t, kb, cd, N2, vs, _, V1, C1, K1, hc, hb, hl⟩ := F
  exact StrChars.Road.empW hZ hw wi E1 V1 C1 K1 hc hb hl hfr hlo
abbrev own_EL : List (String × Nat) := [("java/lang/String", 7)]
theorem own_EW {Z : State} {a0 : Array Value} (hw : ∀ d ∈ tables_1, d.before a0 Z = true) : EW Z a0 own_EL := (EW.cons (own_W hw 20 rfl) (by decide) EW.nil)
def own_J (Z : State) (EL : List (String × Nat)) (xs : List Addr) (h : Heap) (vm : Vm) : Prop := CHv Z EL vm h ∧ ∀ x ∈ xs, Safe Z EL vm h x
theorem own_backX {p : Program} {l : Launch} {e : Env} {R : Room} {s : State} {args : Array Value} {below : List Frame} {Z : State} {a0 : Array Value} {EL : List (String × Nat)} {h : Heap} {vm0 : Vm} {y : MethodName} {bytes : ByteArray} {maxL : Nat} {ret : Option FieldType} {rm : Room} {len W : Nat} {as' : Array Value} {Q : Option Value → Heap → List Loc → Prop} {xs : List Addr}
    (hM : MetFree l y (head1 [Jvm.Cond.code y bytes maxL ret] rm) (fun a U => a = as' ∧ Z.Warmed39 U.vm ∧ U.heap = h ∧ own_J Z EL xs h U.vm) (fun _ _ _ _ _ => True) (fun _ U o U' => ∃ v L, o = .returned v ∧ Q v U'.heap L ∧ CHr Z EL U.vm U.heap U'.vm U'.heap ∧ ReturnedEndW U o U' L rm.cells rm.slots))
    (hZ : Z.Warmed39 vm0) (wc : (Jvm.Cond.code y bytes maxL ret).before a0 Z = true) (wz : (Jvm.Cond.initialized y.cls).before a0 Z = true) (hf : rm.frames + 1 ≤ R.frames) (hl : W + (maxL + 11) + rm.locals ≤ R.locals) (hEL : EW Z a0 EL) (H : own_J Z EL xs h vm0) (hlt : ∀ x ∈ xs, x < h.size) :
    BackS l R p e below (s.setVm vm0) args y len W (fun A a => a = as' ∧ A.U.heap = h ∧ A.cells + rm.cells ≤ R.cells ∧ A.slots + rm.slots ≤ R.slots)
      (fun A _ v B => ∃ L, Q v B.U.heap L ∧ B.locs = A.locs ++ L ∧ B.cells = A.cells + rm.cells ∧ B.slots = A.slots + rm.slots ∧ CHr Z EL vm0 h B.U.vm B.U.heap) := by
  refine BackS.of_freeW (bytes := bytes) (maxL := maxL) (ret := ret) (E := fun _ first o t L k n => k = rm.cells ∧ n = rm.slots ∧ (∃ v, o = .returned v ∧ Q v t.heap L) ∧ CHr Z EL first.vm first.heap t.vm t.heap) hM hf hl ?_ ?_ (fun _ _ _ _ _ _ _ _ _ => trivial) ?_ ?_
  · intro m meth c A a Y hp
    have hU : Z.Warmed39 A.U.vm := wtrans (s := s.setVm vm0) hZ Y.warmed
    exact ⟨by show (Jvm.Cond.and _ .tt).before a A.U = true; rw [Cond.before_and, mv hU wc]; rfl, mv hU wc, mv hU wz, hp.2.2.1, hp.2.2.2⟩
  · intro m meth c A a g mk Y hp
    have hr := CHv.at Y hZ hEL H.1
    exact ⟨hp.1, wtrans (s := s.setVm vm0) hZ Y.warmed, hp.2.1, hr.1, fun x hx => hr.safe (hlt x hx) (H.2 x hx)⟩
  · rintro _ _ _ _ ⟨v, L, h1, h2, h3, h4⟩
    exact ⟨L, _, _, h4, rfl, rfl, ⟨v, h1, h2⟩, h3⟩
  · rintro m meth c A a g mk v t L k n Y hp _ _ ⟨e1, e2, ⟨v', e3, e4⟩, e5⟩
    cases e3; subst e1 e2
    refine ⟨L, e4, rfl, rfl, rfl, (CHv.at Y hZ hEL H.1).trans ?_⟩
    rw [← hp.2.1]; exact e5

theorem own_pn_6 : plainName "jdk/internal/util/Preconditions" = true := by decide +kernel
theorem own_d1_0 : decode jdk_41_method_11_code 0 = .ok (.iload_n 0, 1) := by decide +kernel
theorem own_d1_1 : decode jdk_41_method_11_code 1 = .ok (.ifCond .lt 8, 3) := by decide +kernel
theorem own_d1_4 : decode jdk_41_method_11_code 4 = .ok (.iload_n 0, 1) := by decide +kernel
theorem own_d1_5 : decode jdk_41_method_11_code 5 = .ok (.iload_n 1, 1) := by decide +kernel
theorem own_d1_6 : decode jdk_41_method_11_code 6 = .ok (.if_icmp .lt 10, 3) := by decide +kernel
theorem own_d1_16 : decode jdk_41_method_11_code 16 = .ok (.iload_n 0, 1) := by decide +kernel
theorem own_d1_17 : decode jdk_41_method_11_code 17 = .ok (.ireturn, 1) := by decide +kernel
theorem own_ef_pcN (m : MethodId) (x0 : Int32) (x1 : Int32) : entryFrame m #[(.int x0), (.int x1), .null] 3 = mkF m 0 #[iv x0, iv x1, .val .null] [] := by first | (simp [entryFrame, mkF, argsToLocals, Value.category]; done) | rfl
def Q_pcN (Z : State) (i1 n1 : Int32) (h0 : Heap) (n0 : Nat) (v : Option Value) (h : Heap) (L : List Loc) : Prop := v = some (.int i1) ∧ Fr n0 L ∧ h = h0
set_option maxRecDepth 65536 in
set_option maxHeartbeats 40000000 in
theorem rm_pcN (l : Launch) (Z : State) (a0 : Array Value) (hw : ∀ d ∈ tables_1, d.before a0 Z = true) (ws : List Jvm.Cond) (i1 n1 : Int32) (h0 : Heap) (n0 : Nat) (Z0 : n0 ≤ h0.size) (hi : ¬ i1 < 0) (hn : i1 < n1) :
    MetFree l (⟨"jdk/internal/util/Preconditions", "checkIndex", "(IILjava/util/function/BiFunction;)I"⟩ : MethodName) (head1 (Jvm.Cond.code (⟨"jdk/internal/util/Preconditions", "checkIndex", "(IILjava/util/function/BiFunction;)I"⟩ : MethodName) jdk_41_method_11_code 3 (some .int) :: ws) ({ frames := 0, cells := 0, slots := 0, locals := 0 } : Room)) (fun a U => a = #[(.int i1), (.int n1), .null] ∧ Z.Warmed39 U.vm ∧ U.heap = h0) (fun _ _ _ _ _ => True) (fun _ U o U' => ∃ v L, o = .returned v ∧ Q_pcN Z i1 n1 h0 n0 v U'.heap L ∧ FrameEnd U o U' L ({ frames := 0, cells := 0, slots := 0, locals := 0 } : Room).cells ({ frames := 0, cells := 0, slots := 0, locals := 0 } : Room).slots) := by
  refine MetFree.of_bodySF (plainFor_of_name own_pn_6) hisR ?_
  intro p e s m args below meth c s₁ Bd hml0 hP hK
  obtain ⟨rfl, hZ, hh⟩ := hP
  have hx := Bd.exec
  have hby := Bd.bytes
  have hml : c.maxLocals = 3 := hml0
  have hown : s.vm.findClass "jdk/internal/util/Preconditions" = some m.cls := findClass_of_methodNamed Bd.named
  have hnm := (name_of_methodNamed Bd.named Bd.method).1
  have W := own_W hw
  have X0 : Stand p l e ({ frames := 0, cells := 0, slots := 0, locals := 0 } : Room) s m #[(.int i1), (.int n1), .null] below meth c s₁ [] 0 0 := Stand.of_body Bd
  have e0 : s₁.heap = h0 := by rw [← hh, Bd.state]; rfl
  have N0 := Fr.nil n0
  have pre0 : ∀ tq, Steps p.tables e below (s₁.setTop (mkF m 0 #[iv i1, iv n1, .val .null] [])) tq → Steps p.tables e below (s₁.setTop (entryFrame m #[(.int i1), (.int n1), .null] 3)) tq := fun tq k => castTop (own_ef_pcN m i1 n1) k
  obtain ⟨fs, hr, hrun, hended, hW, hsame⟩ := X0.leave (v := some (.int i1)) (fun h => by rw [Bd.returns] at h; cases h)
  refine ⟨_, _, pre0 _ (?_), hrun, hended, _, _, rfl, ?_, ⟨_, rfl⟩, hW, hsame.mono (by decide) (by decide)⟩
  · show Steps p.tables e below (s₁.setTop (mkF m 0 #[iv i1, iv n1, .val .null] [])) _
    refine XS.iloadN X0.here hx rfl (hb hby own_d1_0) rfl ?_
    show Steps _ _ _ (s₁.setTop (mkF m 1 _ [.int i1])) _
    refine XS.ifNo X0.here hx rfl (hb hby own_d1_1) rfl ((if0 _ _).trans (flt (hi : ¬ (i1 < (0 : Int32)))).1) ?_
    show Steps _ _ _ (s₁.setTop (mkF m 4 _ [])) _
    refine XS.iloadN X0.here hx rfl (hb hby own_d1_4) rfl ?_
    show Steps _ _ _ (s₁.setTop (mkF m 5 _ [.int i1])) _
    refine XS.iloadN X0.here hx rfl (hb hby own_d1_5) rfl ?_
    show Steps _ _ _ (s₁.setTop (mkF m 6 _ [.int n1, .int i1])) _
    refine XS.icmpYes X0.here hx rfl (pc0 := 6) (pc' := 16) rfl (hb hby own_d1_6) rfl (tlt (hn : i1 < n1)).1 (by decide) (by decide) ?_
    show Steps _ _ _ (s₁.setTop (mkF m 16 _ [])) _
    refine XS.iloadN X0.here hx rfl (hb hby own_d1_16) rfl ?_
    show Steps _ _ _ (s₁.setTop (mkF m 17 _ [.int i1])) _
    exact retI X0 hx Bd.returns (hb hby own_d1_17) hr
  · show Q_pcN Z i1 n1 h0 n0 _ s₁.heap _
    rw [e0]
    exact ⟨rfl, N0, rfl⟩
theorem own_ef_pcR (m : MethodId) (x0 : Int32) (x1 : Int32) (x2 : Addr) : entryFrame m #[(.int x0), (.int x1), (.ref x2)] 3 = mkF m 0 #[iv x0, iv x1, rv x2] [] := by first | (simp [entryFrame, mkF, argsToLocals, Value.category]; done) | rfl
def Q_pcR (Z : State) (i1 n1 : Int32) (f1 : Addr) (h0 : Heap) (n0 : Nat) (v : Option Value) (h : Heap) (L : List Loc) : Prop := v = some (.int i1) ∧ Fr n0 L ∧ h = h0
set_option maxRecDepth 65536 in
set_option maxHeartbeats 40000000 in
theorem rm_pcR (l : Launch) (Z : State) (a0 : Array Value) (hw : ∀ d ∈ tables_1, d.before a0 Z = true) (ws : List Jvm.Cond) (i1 n1 : Int32) (f1 : Addr) (h0 : Heap) (n0 : Nat) (Z0 : n0 ≤ h0.size) (hi : ¬ i1 < 0) (hn : i1 < n1) :
    MetFree l (⟨"jdk/internal/util/Preconditions", "checkIndex", "(IILjava/util/function/BiFunction;)I"⟩ : MethodName) (head1 (Jvm.Cond.code (⟨"jdk/internal/util/Preconditions", "checkIndex", "(IILjava/util/function/BiFunction;)I"⟩ : MethodName) jdk_41_method_11_code 3 (some .int) :: ws) ({ frames := 0, cells := 0, slots := 0, locals := 0 } : Room)) (fun a U => a = #[(.int i1), (.int n1), (.ref f1)] ∧ Z.Warmed39 U.vm ∧ U.heap = h0) (fun _ _ _ _ _ => True) (fun _ U o U' => ∃ v L, o = .returned v ∧ Q_pcR Z i1 n1 f1 h0 n0 v U'.heap L ∧ FrameEnd U o U' L ({ frames := 0, cells := 0, slots := 0, locals := 0 } : Room).cells ({ frames := 0, cells := 0, slots := 0, locals := 0 } : Room).slots) := by
  refine MetFree.of_bodySF (plainFor_of_name own_pn_6) hisR ?_
  intro p e s m args below meth c s₁ Bd hml0 hP hK
  obtain ⟨rfl, hZ, hh⟩ := hP
  have hx := Bd.exec
  have hby := Bd.bytes
  have hml : c.maxLocals = 3 := hml0
  have hown : s.vm.findClass "jdk/internal/util/Preconditions" = some m.cls := findClass_of_methodNamed Bd.named
  have hnm := (name_of_methodNamed Bd.named Bd.method).1
  have W := own_W hw
  have X0 : Stand p l e ({ frames := 0, cells := 0, slots := 0, locals := 0 } : Room) s m #[(.int i1), (.int n1), (.ref f1)] below meth c s₁ [] 0 0 := Stand.of_body Bd
  have e0 : s₁.heap = h0 := by rw [← hh, Bd.state]; rfl
  have N0 := Fr.nil n0
  have pre0 : ∀ tq, Steps p.tables e below (s₁.setTop (mkF m 0 #[iv i1, iv n1, rv f1] [])) tq → Steps p.tables e below (s₁.setTop (entryFrame m #[(.int i1), (.int n1), (.ref f1)] 3)) tq := fun tq k => castTop (own_ef_pcR m i1 n1 f1) k
  obtain ⟨fs, hr, hrun, hended, hW, hsame⟩ := X0.leave (v := some (.int i1)) (fun h => by rw [Bd.returns] at h; cases h)
  refine ⟨_, _, pre0 _ (?_), hrun, hended, _, _, rfl, ?_, ⟨_, rfl⟩, hW, hsame.mono (by decide) (by decide)⟩
  · show Steps p.tables e below (s₁.setTop (mkF m 0 #[iv i1, iv n1, rv f1] [])) _
    refine XS.iloadN X0.here hx rfl (hb hby own_d1_0) rfl ?_
    show Steps _ _ _ (s₁.setTop (mkF m 1 _ [.int i1])) _
    refine XS.ifNo X0.here hx rfl (hb hby own_d1_1) rfl ((if0 _ _).trans (flt (hi : ¬ (i1 < (0 : Int32)))).1) ?_
    show Steps _ _ _ (s₁.setTop (mkF m 4 _ [])) _
    refine XS.iloadN X0.here hx rfl (hb hby own_d1_4) rfl ?_
    show Steps _ _ _ (s₁.setTop (mkF m 5 _ [.int i1])) _
    refine XS.iloadN X0.here hx rfl (hb hby own_d1_5) rfl ?_
    show Steps _ _ _ (s₁.setTop (mkF m 6 _ [.int n1, .int i1])) _
    refine XS.icmpYes X0.here hx rfl (pc0 := 6) (pc' := 16) rfl (hb hby own_d1_6) rfl (tlt (hn : i1 < n1)).1 (by decide) (by decide) ?_
    show Steps _ _ _ (s₁.setTop (mkF m 16 _ [])) _
    refine XS.iloadN X0.here hx rfl (hb hby own_d1_16) rfl ?_
    show Steps _ _ _ (s₁.setTop (mkF m 17 _ [.int i1])) _
    exact retI X0 hx Bd.returns (hb hby own_d1_17) hr
  · show Q_pcR Z i1 n1 f1 h0 n0 _ s₁.heap _
    rw [e0]
    exact ⟨rfl, N0, rfl⟩
theorem own_pn_3 : plainName "java/lang/String" = true := by decide +kernel
theorem own_d5_0 : decode jdk_42_method_155_code 0 = .ok (.iload_n 0, 1) := by decide +kernel
theorem own_d5_1 : decode jdk_42_method_155_code 1 = .ok (.iload_n 1, 1) := by decide +kernel
theorem own_d5_2 : decode jdk_42_method_155_code 2 = .ok (.getstatic 1053, 3) := by decide +kernel
theorem own_d5_5 : decode jdk_42_method_155_code 5 = .ok (.invokestatic 1059, 3) := by decide +kernel
theorem own_pd_14 : parseMethodDescriptor "(IILjava/util/function/BiFunction;)I" = some ⟨[.int, .int, (.object "java/util/function/BiFunction")], some .int⟩ := by decide +kernel
theorem own_d5_8 : decode jdk_42_method_155_code 8 = .ok (.pop, 1) := by decide +kernel
theorem own_d5_9 : decode jdk_42_method_155_code 9 = .ok (.return_, 1) := by decide +kernel
theorem own_ef_sci (m : MethodId) (x0 : Int32) (x1 : Int32) : entryFrame m #[(.int x0), (.int x1)] 2 = mkF m 0 #[iv x0, iv x1] [] := by first | (simp [entryFrame, mkF, argsToLocals, Value.category]; done) | rfl
def Q_sci (Z : State) (i1 n1 : Int32) (G3 : Value) (h0 : Heap) (n0 : Nat) (v : Option Value) (h : Heap) (L : List Loc) : Prop := v = none ∧ Fr n0 L ∧ h = h0
set_option maxRecDepth 65536 in
set_option maxHeartbeats 40000000 in
theorem rm_sci (l : Launch) (Z : State) (a0 : Array Value) (hw : ∀ d ∈ tables_1, d.before a0 Z = true) (ws : List Jvm.Cond) (i1 n1 : Int32) (G3 : Value) (h0 : Heap) (n0 : Nat) (Z0 : n0 ≤ h0.size) (X00 : Old Z n0 h0) (hi : ¬ i1 < 0) (hn : i1 < n1) (O4 : Sta Z Z.heap "jdk/internal/util/Preconditions" "SIOOBE_FORMATTER" "Ljava/util/function/BiFunction;" G3) (rG3 : G3.isRef = true) :
    MetFree l (⟨"java/lang/String", "checkIndex", "(II)V"⟩ : MethodName) (head1 (Jvm.Cond.code (⟨"java/lang/String", "checkIndex", "(II)V"⟩ : MethodName) jdk_42_method_155_code 2 none :: ws) ({ frames := 1, cells := 0, slots := 0, locals := 16 } : Room)) (fun a U => a = #[(.int i1), (.int n1)] ∧ Z.Warmed39 U.vm ∧ U.heap = h0) (fun _ _ _ _ _ => True) (fun _ U o U' => ∃ v L, o = .returned v ∧ Q_sci Z i1 n1 G3 h0 n0 v U'.heap L ∧ FrameEnd U o U' L ({ frames := 1, cells := 0, slots := 0, locals := 16 } : Room).cells ({ frames := 1, cells := 0, slots := 0, locals := 16 } : Room).slots) := by
  refine MetFree.of_bodySF (plainFor_of_name own_pn_3) hisR ?_
  intro p e s m args below meth c s₁ Bd hml0 hP hK
  obtain ⟨rfl, hZ, hh⟩ := hP
  have hx := Bd.exec
  have hby := Bd.bytes
  have hml : c.maxLocals = 2 := hml0
  have hown : s.vm.findClass "java/lang/String" = some m.cls := findClass_of_methodNamed Bd.named
  have hnm := (name_of_methodNamed Bd.named Bd.method).1
  have W := own_W hw
  have X0 : Stand p l e ({ frames := 1, cells := 0, slots := 0, locals := 16 } : Room) s m #[(.int i1), (.int n1)] below meth c s₁ [] 0 0 := Stand.of_body Bd
  have e0 : s₁.heap = h0 := by rw [← hh, Bd.state]; rfl
  have N0 := Fr.nil n0
  have pre0 : ∀ tq, Steps p.tables e below (s₁.setTop (mkF m 0 #[iv i1, iv n1] [])) tq → Steps p.tables e below (s₁.setTop (entryFrame m #[(.int i1), (.int n1)] 2)) tq := fun tq k => castTop (own_ef_sci m i1 n1) k
  rcases ref_cases rG3 with rfl | ⟨f1, rfl⟩
  · obtain ⟨T1, X1, e1, st1⟩ := getS2 X0 hx hZ hown (host := "") (Or.inl (W 78 rfl)) Via.refl e0 (O4.ext X00.2) (g := (mkF m 2 #[iv i1, iv n1] [.int n1, .int i1])) rfl (hb hby own_d5_2)
    obtain ⟨_, _, ⟨T2, L2, k2, n2⟩, -, X2, ⟨Lc2, hQ2, l2, y2, z2⟩, st2⟩ := Jvm.LawKit.callS X1 hx (y := (⟨"jdk/internal/util/Preconditions", "checkIndex", "(IILjava/util/function/BiFunction;)I"⟩ : MethodName)) hown (mvT hZ (W 80 rfl)) (mvT hZ (W 81 rfl)) (mvT hZ (W 79 rfl)) (mvT hZ (W 82 rfl)) (by decide) (backOf (W := 0) (rm_pcN l Z a0 hw [] i1 n1 h0 n0 Z0 hi hn) hZ (W 82 rfl) (W 79 rfl) (by decide) (by decide)) (g := (mkF m 5 #[iv i1, iv n1] [.null, .int n1, .int i1])) rfl (by rw [hml]; rfl) (argsL := [.int i1, .int n1, .null]) (rest := []) (lenOf own_pd_14 rfl) rfl (by show 2 * 0 + _ ≤ _; exact Nat.le_of_eq rfl) (hb hby own_d5_5) (fun _ _ => ⟨rfl, e1, (by decide : 0 + 0 ≤ _), (by decide : 0 + 0 ≤ _)⟩)
    dsimp only [Pt.U, Pt.locs, Pt.cells, Pt.slots] at X2 l2 y2 z2 st2 hQ2
    subst l2 y2 z2
    obtain ⟨rfl, Nq2, e2⟩ := hQ2
    have N2 := Fr.app N0 Nq2
    obtain ⟨fs, hr, hrun, hended, hW, hsame⟩ := X2.leave (v := none) (fun _ => rfl)
    refine ⟨_, _, pre0 _ (?_), hrun, hended, _, _, rfl, ?_, ⟨_, rfl⟩, hW, hsame.mono (by decide) (by decide)⟩
    · show Steps p.tables e below (s₁.setTop (mkF m 0 #[iv i1, iv n1] [])) _
      refine XS.iloadN X0.here hx rfl (hb hby own_d5_0) rfl ?_
      show Steps _ _ _ (s₁.setTop (mkF m 1 _ [.int i1])) _
      refine XS.iloadN X0.here hx rfl (hb hby own_d5_1) rfl ?_
      show Steps _ _ _ (s₁.setTop (mkF m 2 _ [.int n1, .int i1])) _
      refine st1 _ ?_
      show Steps p.tables e below (T1.setTop (mkF m 5 #[iv i1, iv n1] [.null, .int n1, .int i1])) _
      refine st2 _ ?_
      show Steps p.tables e below (T2.setTop (mkF m 8 #[iv i1, iv n1] [.int i1])) _
      refine XS.pop X2.here hx rfl (hb hby own_d5_8) rfl rfl ?_
      show Steps _ _ _ (T2.setTop (mkF m 9 _ [])) _
      exact X2.returnOut hx Bd.returns (hb hby own_d5_9) hr
    · show Q_sci Z i1 n1 _ h0 n0 _ T2.heap _
      rw [e2]
      exact ⟨rfl, N2, rfl⟩
  · obtain ⟨T3, X3, e3, st3⟩ := getS2 X0 hx hZ hown (host := "") (Or.inl (W 78 rfl)) Via.refl e0 (O4.ext X00.2) (g := (mkF m 2 #[iv i1, iv n1] [.int n1, .int i1])) rfl (hb hby own_d5_2)
    obtain ⟨_, _, ⟨T4, L4, k4, n4⟩, -, X4, ⟨Lc4, hQ4, l4, y4, z4⟩, st4⟩ := Jvm.LawKit.callS X3 hx (y := (⟨"jdk/internal/util/Preconditions", "checkIndex", "(IILjava/util/function/BiFunction;)I"⟩ : MethodName)) hown (mvT hZ (W 80 rfl)) (mvT hZ (W 81 rfl)) (mvT hZ (W 79 rfl)) (mvT hZ (W 82 rfl)) (by decide) (backOf (W := 0) (rm_pcR l Z a0 hw [] i1 n1 f1 h0 n0 Z0 hi hn) hZ (W 82 rfl) (W 79 rfl) (by decide) (by decide)) (g := (mkF m 5 #[iv i1, iv n1] [.ref f1, .int n1, .int i1])) rfl (by rw [hml]; rfl) (argsL := [.int i1, .int n1, .ref f1]) (rest := []) (lenOf own_pd_14 rfl) rfl (by show 2 * 0 + _ ≤ _; exact Nat.le_of_eq rfl) (hb hby own_d5_5) (fun _ _ => ⟨rfl, e3, (by decide : 0 + 0 ≤ _), (by decide : 0 + 0 ≤ _)⟩)
    dsimp only [Pt.U, Pt.locs, Pt.cells, Pt.slots] at X4 l4 y4 z4 st4 hQ4
    subst l4 y4 z4
    obtain ⟨rfl, Nq4, e4⟩ := hQ4
    have N4 := Fr.app N0 Nq4
    obtain ⟨fs, hr, hrun, hended, hW, hsame⟩ := X4.leave (v := none) (fun _ => rfl)
    refine ⟨_, _, pre0 _ (?_), hrun, hended, _, _, rfl, ?_, ⟨_, rfl⟩, hW, hsame.mono (by decide) (by decide)⟩
    · show Steps p.tables e below (s₁.setTop (mkF m 0 #[iv i1, iv n1] [])) _
      refine XS.iloadN X0.here hx rfl (hb hby own_d5_0) rfl ?_
      show Steps _ _ _ (s₁.setTop (mkF m 1 _ [.int i1])) _
      refine XS.iloadN X0.here hx rfl (hb hby own_d5_1) rfl ?_
      show Steps _ _ _ (s₁.setTop (mkF m 2 _ [.int n1, .int i1])) _
      refine st3 _ ?_
      show Steps p.tables e below (T3.setTop (mkF m 5 #[iv i1, iv n1] [.ref f1, .int n1, .int i1])) _
      refine st4 _ ?_
      show Steps p.tables e below (T4.setTop (mkF m 8 #[iv i1, iv n1] [.int i1])) _
      refine XS.pop X4.here hx rfl (hb hby own_d5_8) rfl rfl ?_
      show Steps _ _ _ (T4.setTop (mkF m 9 _ [])) _
      exact X4.returnOut hx Bd.returns (hb hby own_d5_9) hr
    · show Q_sci Z i1 n1 _ h0 n0 _ T4.heap _
      rw [e4]
      exact ⟨rfl, N4, rfl⟩
theorem own_pn_5 : plainName "java/lang/StringUTF16" = true := by decide +kernel
theorem own_d19_0 : decode jdk_52_method_6_code 0 = .ok (.aload_n 0, 1) := by decide +kernel
theorem own_d19_1 : decode jdk_52_method_6_code 1 = .ok (.arraylength, 1) := by decide +kernel
theorem own_d19_2 : decode jdk_52_method_6_code 2 = .ok (.iconst 1, 1) := by decide +kernel
theorem own_d19_3 : decode jdk_52_method_6_code 3 = .ok (.ishr, 1) := by decide +kernel
theorem own_d19_4 : decode jdk_52_method_6_code 4 = .ok (.ireturn, 1) := by decide +kernel
theorem own_ef_ulen (m : MethodId) (x0 : Addr) : entryFrame m #[(.ref x0)] 1 = mkF m 0 #[rv x0] [] := by first | (simp [entryFrame, mkF, argsToLocals, Value.category]; done) | rfl
def Q_ulen (Z : State) (t1 : Addr) (kb : ClassId) (N2 n1 : Int32) (vs : List Value) (h0 : Heap) (n0 : Nat) (v : Option Value) (h : Heap) (L : List Loc) : Prop := v = some (.int n1) ∧ Fr n0 L ∧ h = h0
set_option maxRecDepth 65536 in
set_option maxHeartbeats 40000000 in
theorem rm_ulen (l : Launch) (Z : State) (a0 : Array Value) (hw : ∀ d ∈ tables_1, d.before a0 Z = true) (ws : List Jvm.Cond) (t1 : Addr) (kb : ClassId) (N2 n1 : Int32) (vs : List Value) (h0 : Heap) (n0 : Nat) (Z0 : n0 ≤ h0.size) (V1 : Arv Z h0 t1 kb .byte N2 vs (.int 0)) (hN : N2 >>> ((1 : Int32) &&& 31) = n1) :
    MetFree l (⟨"java/lang/StringUTF16", "length", "([B)I"⟩ : MethodName) (head1 (Jvm.Cond.code (⟨"java/lang/StringUTF16", "length", "([B)I"⟩ : MethodName) jdk_52_method_6_code 1 (some .int) :: ws) ({ frames := 0, cells := 0, slots := 0, locals := 0 } : Room)) (fun a U => a = #[(.ref t1)] ∧ Z.Warmed39 U.vm ∧ U.heap = h0) (fun _ _ _ _ _ => True) (fun _ U o U' => ∃ v L, o = .returned v ∧ Q_ulen Z t1 kb N2 n1 vs h0 n0 v U'.heap L ∧ FrameEnd U o U' L ({ frames := 0, cells := 0, slots := 0, locals := 0 } : Room).cells ({ frames := 0, cells := 0, slots := 0, locals := 0 } : Room).slots) := by
  refine MetFree.of_bodySF (plainFor_of_name own_pn_5) hisR ?_
  intro p e s m args below meth c s₁ Bd hml0 hP hK
  obtain ⟨rfl, hZ, hh⟩ := hP
  have hx := Bd.exec
  have hby := Bd.bytes
  have hml : c.maxLocals = 1 := hml0
  have hown : s.vm.findClass "java/lang/StringUTF16" = some m.cls := findClass_of_methodNamed Bd.named
  have hnm := (name_of_methodNamed Bd.named Bd.method).1
  have W := own_W hw
  have X0 : Stand p l e ({ frames := 0, cells := 0, slots := 0, locals := 0 } : Room) s m #[(.ref t1)] below meth c s₁ [] 0 0 := Stand.of_body Bd
  have e0 : s₁.heap = h0 := by rw [← hh, Bd.state]; rfl
  have N0 := Fr.nil n0
  have pre0 : ∀ tq, Steps p.tables e below (s₁.setTop (mkF m 0 #[rv t1] [])) tq → Steps p.tables e below (s₁.setTop (entryFrame m #[(.ref t1)] 1)) tq := fun tq k => castTop (own_ef_ulen m t1) k
  obtain ⟨cl5, Ar5, aq5, aS5, aN5, aH5, aG5⟩ := id V1
  obtain ⟨fs, hr, hrun, hended, hW, hsame⟩ := X0.leave (v := some (.int n1)) (fun h => by rw [Bd.returns] at h; cases h)
  refine ⟨_, _, pre0 _ (?_), hrun, hended, _, _, rfl, ?_, ⟨_, rfl⟩, hW, hsame.mono (by decide) (by decide)⟩
  · show Steps p.tables e below (s₁.setTop (mkF m 0 #[rv t1] [])) _
    refine XS.aloadN X0.here hx rfl (hb hby own_d19_0) rfl rfl ?_
    show Steps _ _ _ (s₁.setTop (mkF m 1 _ [.ref t1])) _
    refine X0.arraylength hx (by rw [e0]; exact Ar5.1) (State.isArrayOf_alike hZ.alike Ar5.2.1) (g := (mkF m 1 #[rv t1] [.ref t1])) rfl rfl (hb hby own_d19_1) _ ?_
    rw [len_of aS5 aN5]
    show Steps p.tables e below (s₁.setTop (mkF m 2 #[rv t1] [.int N2])) _
    refine XS.iconst X0.here hx rfl (hb hby own_d19_2) ?_
    show Steps _ _ _ (s₁.setTop (mkF m 3 _ [.int 1, .int N2])) _
    refine XS.ishr X0.here hx rfl (hb hby own_d19_3) rfl ?_
    rw [hN]
    show Steps p.tables e below (s₁.setTop (mkF m 4 #[rv t1] [.int n1])) _
    exact retI X0 hx Bd.returns (hb hby own_d19_4) hr
  · show Q_ulen Z t1 kb N2 n1 vs h0 n0 _ s₁.heap _
    rw [e0]
    exact ⟨rfl, N0, rfl⟩
theorem own_d21_0 : decode jdk_52_method_91_code 0 = .ok (.iload_n 0, 1) := by decide +kernel
theorem own_d21_1 : decode jdk_52_method_91_code 1 = .ok (.aload_n 1, 1) := by decide +kernel
theorem own_d21_2 : decode jdk_52_method_91_code 2 = .ok (.invokestatic 48, 3) := by decide +kernel
theorem own_pd_19 : parseMethodDescriptor "([B)I" = some ⟨[(.array .byte)], some .int⟩ := by decide +kernel
theorem own_d21_5 : decode jdk_52_method_91_code 5 = .ok (.invokestatic 414, 3) := by decide +kernel
theorem own_pd_13 : parseMethodDescriptor "(II)V" = some ⟨[.int, .int], none⟩ := by decide +kernel
theorem own_d21_8 : decode jdk_52_method_91_code 8 = .ok (.return_, 1) := by decide +kernel
theorem own_ef_uci (m : MethodId) (x0 : Int32) (x1 : Addr) : entryFrame m #[(.int x0), (.ref x1)] 2 = mkF m 0 #[iv x0, rv x1] [] := by first | (simp [entryFrame, mkF, argsToLocals, Value.category]; done) | rfl
def Q_uci (Z : State) (i1 : Int32) (t1 : Addr) (kb : ClassId) (N2 n1 : Int32) (vs : List Value) (G3 : Value) (h0 : Heap) (n0 : Nat) (v : Option Value) (h : Heap) (L : List Loc) : Prop := v = none ∧ Fr n0 L ∧ h = h0
set_option maxRecDepth 65536 in
set_option maxHeartbeats 40000000 in
theorem rm_uci (l : Launch) (Z : State) (a0 : Array Value) (hw : ∀ d ∈ tables_1, d.before a0 Z = true) (ws : List Jvm.Cond) (i1 : Int32) (t1 : Addr) (kb : ClassId) (N2 n1 : Int32) (vs : List Value) (G3 : Value) (h0 : Heap) (n0 : Nat) (Z0 : n0 ≤ h0.size) (X00 : Old Z n0 h0) (V1 : Arv Z h0 t1 kb .byte N2 vs (.int 0)) (hN : N2 >>> ((1 : Int32) &&& 31) = n1) (hi : ¬ i1 < 0) (hn : i1 < n1) (O4 : Sta Z Z.heap "jdk/internal/util/Preconditions" "SIOOBE_FORMATTER" "Ljava/util/function/BiFunction;" G3) (rG3 : G3.isRef = true) :
    MetFree l (⟨"java/lang/StringUTF16", "checkIndex", "(I[B)V"⟩ : MethodName) (head1 (Jvm.Cond.code (⟨"java/lang/StringUTF16", "checkIndex", "(I[B)V"⟩ : MethodName) jdk_52_method_91_code 2 none :: ws) ({ frames := 2, cells := 0, slots := 0, locals := 40 } : Room)) (fun a U => a = #[(.int i1), (.ref t1)] ∧ Z.Warmed39 U.vm ∧ U.heap = h0) (fun _ _ _ _ _ => True) (fun _ U o U' => ∃ v L, o = .returned v ∧ Q_uci Z i1 t1 kb N2 n1 vs G3 h0 n0 v U'.heap L ∧ FrameEnd U o U' L ({ frames := 2, cells := 0, slots := 0, locals := 40 } : Room).cells ({ frames := 2, cells := 0, slots := 0, locals := 40 } : Room).slots) := by
  refine MetFree.of_bodySF (plainFor_of_name own_pn_5) hisR ?_
  intro p e s m args below meth c s₁ Bd hml0 hP hK
  obtain ⟨rfl, hZ, hh⟩ := hP
  have hx := Bd.exec
  have hby := Bd.bytes
  have hml : c.maxLocals = 2 := hml0
  have hown : s.vm.findClass "java/lang/StringUTF16" = some m.cls := findClass_of_methodNamed Bd.named
  have hnm := (name_of_methodNamed Bd.named Bd.method).1
  have W := own_W hw
  have X0 : Stand p l e ({ frames := 2, cells := 0, slots := 0, locals := 40 } : Room) s m #[(.int i1), (.ref t1)] below meth c s₁ [] 0 0 := Stand.of_body Bd
  have e0 : s₁.heap = h0 := by rw [← hh, Bd.state]; rfl
  have N0 := Fr.nil n0
  have pre0 : ∀ tq, Steps p.tables e below (s₁.setTop (mkF m 0 #[iv i1, rv t1] [])) tq → Steps p.tables e below (s₁.setTop (entryFrame m #[(.int i1), (.ref t1)] 2)) tq := fun tq k => castTop (own_ef_uci m i1 t1) k
  obtain ⟨_, _, ⟨T6, L6, k6, n6⟩, -, X6, ⟨Lc6, hQ6, l6, y6, z6⟩, st6⟩ := Jvm.LawKit.callS X0 hx (y := (⟨"java/lang/StringUTF16", "length", "([B)I"⟩ : MethodName)) hown (mvT hZ (W 111 rfl)) (mvT hZ (W 112 rfl)) (mvT hZ (W 50 rfl)) (mvT hZ (W 113 rfl)) (by decide) (backOf (W := 1) (rm_ulen l Z a0 hw [] t1 kb N2 n1 vs h0 n0 Z0 V1 hN) hZ (W 113 rfl) (W 50 rfl) (by decide) (by decide)) (g := (mkF m 2 #[iv i1, rv t1] [.ref t1, .int i1])) rfl (by rw [hml]; rfl) (argsL := [.ref t1]) (rest := [.int i1]) (lenOf own_pd_19 rfl) rfl (by show 2 * 0 + _ ≤ _; exact Nat.le_of_eq rfl) (hb hby own_d21_2) (fun _ _ => ⟨rfl, e0, (by decide : 0 + 0 ≤ _), (by decide : 0 + 0 ≤ _)⟩)
  dsimp only [Pt.U, Pt.locs, Pt.cells, Pt.slots] at X6 l6 y6 z6 st6 hQ6
  subst l6 y6 z6
  obtain ⟨rfl, Nq6, e6⟩ := hQ6
  have N6 := Fr.app N0 Nq6
  obtain ⟨_, _, ⟨T7, L7, k7, n7⟩, -, X7, ⟨Lc7, hQ7, l7, y7, z7⟩, st7⟩ := Jvm.LawKit.callS X6 hx (y := (⟨"java/lang/String", "checkIndex", "(II)V"⟩ : MethodName)) hown (mvT hZ (W 114 rfl)) (mvT hZ (W 76 rfl)) (mvT hZ (W 8 rfl)) (mvT hZ (W 77 rfl)) (by decide) (backOf (W := 0) (rm_sci l Z a0 hw [] i1 n1 G3 h0 n0 Z0 X00 hi hn O4 rG3) hZ (W 77 rfl) (W 8 rfl) (by decide) (by decide)) (g := (mkF m 5 #[iv i1, rv t1] [.int n1, .int i1])) rfl (by rw [hml]; rfl) (argsL := [.int i1, .int n1]) (rest := []) (lenOf own_pd_13 rfl) rfl (by show 2 * 0 + _ ≤ _; exact Nat.le_of_eq rfl) (hb hby own_d21_5) (fun _ _ => ⟨rfl, e6, (by decide : 0 + 0 ≤ _), (by decide : 0 + 0 ≤ _)⟩)
  dsimp only [Pt.U, Pt.locs, Pt.cells, Pt.slots] at X7 l7 y7 z7 st7 hQ7
  subst l7 y7 z7
  obtain ⟨rfl, Nq7, e7⟩ := hQ7
  have N7 := Fr.app N6 Nq7
  obtain ⟨fs, hr, hrun, hended, hW, hsame⟩ := X7.leave (v := none) (fun _ => rfl)
  refine ⟨_, _, pre0 _ (?_), hrun, hended, _, _, rfl, ?_, ⟨_, rfl⟩, hW, hsame.mono (by decide) (by decide)⟩
  · show Steps p.tables e below (s₁.setTop (mkF m 0 #[iv i1, rv t1] [])) _
    refine XS.iloadN X0.here hx rfl (hb hby own_d21_0) rfl ?_
    show Steps _ _ _ (s₁.setTop (mkF m 1 _ [.int i1])) _
    refine XS.aloadN X0.here hx rfl (hb hby own_d21_1) rfl rfl ?_
    show Steps _ _ _ (s₁.setTop (mkF m 2 _ [.ref t1, .int i1])) _
    refine st6 _ ?_
    show Steps p.tables e below (T6.setTop (mkF m 5 #[iv i1, rv t1] [.int n1, .int i1])) _
    refine st7 _ ?_
    show Steps p.tables e below (T7.setTop (mkF m 8 #[iv i1, rv t1] [])) _
    exact X7.returnOut hx Bd.returns (hb hby own_d21_8) hr
  · show Q_uci Z i1 t1 kb N2 n1 vs G3 h0 n0 _ T7.heap _
    rw [e7]
    exact ⟨rfl, N7, rfl⟩
theorem own_d18_0 : decode jdk_52_method_5_code 0 = .ok (.getstatic 44, 3) := by decide +kernel
theorem own_d18_3 : decode jdk_52_method_5_code 3 = .ok (.ifCond .ne 25, 3) := by decide +kernel
theorem own_d18_28 : decode jdk_52_method_5_code 28 = .ok (.iload_n 1, 1) := by decide +kernel
theorem own_d18_29 : decode jdk_52_method_5_code 29 = .ok (.iconst 1, 1) := by decide +kernel
theorem own_d18_30 : decode jdk_52_method_5_code 30 = .ok (.ishl, 1) := by decide +kernel
theorem own_d18_31 : decode jdk_52_method_5_code 31 = .ok (.istore_n 1, 1) := by decide +kernel
theorem own_d18_32 : decode jdk_52_method_5_code 32 = .ok (.aload_n 0, 1) := by decide +kernel
theorem own_d18_33 : decode jdk_52_method_5_code 33 = .ok (.iload_n 1, 1) := by decide +kernel
theorem own_d18_34 : decode jdk_52_method_5_code 34 = .ok (.iinc 1 1, 3) := by decide +kernel
theorem own_d18_37 : decode jdk_52_method_5_code 37 = .ok (.baload, 1) := by decide +kernel
theorem own_d18_38 : decode jdk_52_method_5_code 38 = .ok (.sipush 255, 3) := by decide +kernel
theorem own_d18_41 : decode jdk_52_method_5_code 41 = .ok (.iand, 1) := by decide +kernel
theorem own_d18_42 : decode jdk_52_method_5_code 42 = .ok (.getstatic 59, 3) := by decide +kernel
theorem own_d18_45 : decode jdk_52_method_5_code 45 = .ok (.ishl, 1) := by decide +kernel
theorem own_d18_46 : decode jdk_52_method_5_code 46 = .ok (.aload_n 0, 1) := by decide +kernel
theorem own_d18_47 : decode jdk_52_method_5_code 47 = .ok (.iload_n 1, 1) := by decide +kernel
theorem own_d18_48 : decode jdk_52_method_5_code 48 = .ok (.baload, 1) := by decide +kernel
theorem own_d18_49 : decode jdk_52_method_5_code 49 = .ok (.sipush 255, 3) := by decide +kernel
theorem own_d18_52 : decode jdk_52_method_5_code 52 = .ok (.iand, 1) := by decide +kernel
theorem own_d18_53 : decode jdk_52_method_5_code 53 = .ok (.getstatic 63, 3) := by decide +kernel
theorem own_d18_56 : decode jdk_52_method_5_code 56 = .ok (.ishl, 1) := by decide +kernel
theorem own_d18_57 : decode jdk_52_method_5_code 57 = .ok (.ior, 1) := by decide +kernel
theorem own_d18_58 : decode jdk_52_method_5_code 58 = .ok (.i2c, 1) := by decide +kernel
theorem own_d18_59 : decode jdk_52_method_5_code 59 = .ok (.ireturn, 1) := by decide +kernel
theorem own_ef_uget (m : MethodId) (x0 : Addr) (x1 : Int32) : entryFrame m #[(.ref x0), (.int x1)] 2 = mkF m 0 #[rv x0, iv x1] [] := by first | (simp [entryFrame, mkF, argsToLocals, Value.category]; done) | rfl
def Q_uget (Z : State) (t1 : Addr) (i1 i2 i3 : Int32) (kb : ClassId) (N2 c1 : Int32) (vs : List Value) (h0 : Heap) (n0 : Nat) (v : Option Value) (h : Heap) (L : List Loc) : Prop := v = some (.int c1) ∧ Fr n0 L ∧ h = h0
set_option maxRecDepth 65536 in
set_option maxHeartbeats 40000000 in
theorem rm_uget (l : Launch) (Z : State) (a0 : Array Value) (hw : ∀ d ∈ tables_1, d.before a0 Z = true) (ws : List Jvm.Cond) (t1 : Addr) (i1 i2 i3 : Int32) (kb : ClassId) (N2 c1 : Int32) (vs : List Value) (h0 : Heap) (n0 : Nat) (Z0 : n0 ≤ h0.size) (X00 : Old Z n0 h0) (V1 : Arv Z h0 t1 kb .byte N2 vs (.int 0)) (e2 : i1 <<< ((1 : Int32) &&& 31) = i2) (e3 : i2 + 1 = i3) (b2 : ¬ i2 < 0 ∧ i2 < N2) (b3 : ¬ i3 < 0 ∧ i3 < N2) (v2 : vs.getD i2.toNatClampNeg (.int 0) = .int (StrChars.lo8 c1)) (v3 : vs.getD i3.toNatClampNeg (.int 0) = .int (StrChars.hi8 c1)) (hc : ¬ c1 < 0 ∧ ¬ (65535 : Int32) < c1) (OA : Sta Z Z.heap "java/lang/StringUTF16" "$assertionsDisabled" "Z" (.int (1 : Int32))) (OH : Sta Z Z.heap "java/lang/StringUTF16" "HI_BYTE_SHIFT" "I" (.int (0 : Int32))) (OL : Sta Z Z.heap "java/lang/StringUTF16" "LO_BYTE_SHIFT" "I" (.int (8 : Int32))) :
    MetFree l (⟨"java/lang/StringUTF16", "getChar", "([BI)C"⟩ : MethodName) (head1 (Jvm.Cond.code (⟨"java/lang/StringUTF16", "getChar", "([BI)C"⟩ : MethodName) jdk_52_method_5_code 2 (some .char) :: ws) ({ frames := 0, cells := 0, slots := 0, locals := 0 } : Room)) (fun a U => a = #[(.ref t1), (.int i1)] ∧ Z.Warmed39 U.vm ∧ U.heap = h0) (fun _ _ _ _ _ => True) (fun _ U o U' => ∃ v L, o = .returned v ∧ Q_uget Z t1 i1 i2 i3 kb N2 c1 vs h0 n0 v U'.heap L ∧ FrameEnd U o U' L ({ frames := 0, cells := 0, slots := 0, locals := 0 } : Room).cells ({ frames := 0, cells := 0, slots := 0, locals := 0 } : Room).slots) := by
  refine MetFree.of_bodySF (plainFor_of_name own_pn_5) hisR ?_
  intro p e s m args below meth c s₁ Bd hml0 hP hK
  obtain ⟨rfl, hZ, hh⟩ := hP
  have hx := Bd.exec
  have hby := Bd.bytes
  have hml : c.maxLocals = 2 := hml0
  have hown : s.vm.findClass "java/lang/StringUTF16" = some m.cls := findClass_of_methodNamed Bd.named
  have hnm := (name_of_methodNamed Bd.named Bd.method).1
  have W := own_W hw
  have X0 : Stand p l e ({ frames := 0, cells := 0, slots := 0, locals := 0 } : Room) s m #[(.ref t1), (.int i1)] below meth c s₁ [] 0 0 := Stand.of_body Bd
  have e0 : s₁.heap = h0 := by rw [← hh, Bd.state]; rfl
  have N0 := Fr.nil n0
  have pre0 : ∀ tq, Steps p.tables e below (s₁.setTop (mkF m 0 #[rv t1, iv i1] [])) tq → Steps p.tables e below (s₁.setTop (entryFrame m #[(.ref t1), (.int i1)] 2)) tq := fun tq k => castTop (own_ef_uget m t1 i1) k
  obtain ⟨cl8, Ar8, aq8, aS8, aN8, aH8, aG8⟩ := id V1
  have hi2 := inb_of aS8 b2
  have hi3 := inb_of aS8 b3
  have ha2 := Has.at aH8 hi2 v2
  have ha3 := Has.at aH8 hi3 v3
  obtain ⟨T9, X9, e9, st9⟩ := getS2 X0 hx hZ hown (host := "") (Or.inl (W 99 rfl)) Via.refl e0 (OA.ext X00.2) (g := (mkF m 0 #[rv t1, iv i1] [])) rfl (hb hby own_d18_0)
  obtain ⟨T10, X10, e10, st10⟩ := getS2 X9 hx hZ hown (host := "") (Or.inl (W 100 rfl)) Via.refl e9 (OH.ext X00.2) (g := (mkF m 42 #[rv t1, iv i3] [.int ((StrChars.lo8 c1) &&& (255 : Int32))])) rfl (hb hby own_d18_42)
  obtain ⟨T11, X11, e11, st11⟩ := getS2 X10 hx hZ hown (host := "") (Or.inl (W 101 rfl)) Via.refl e10 (OL.ext X00.2) (g := (mkF m 53 #[rv t1, iv i3] [.int ((StrChars.hi8 c1) &&& (255 : Int32)), .int (((StrChars.lo8 c1) &&& (255 : Int32)) <<< ((0 : Int32) &&& 31))])) rfl (hb hby own_d18_53)
  obtain ⟨fs, hr, hrun, hended, hW, hsame⟩ := X11.leave (v := some (.int (nar .char c1))) (fun h => by rw [Bd.returns] at h; cases h)
  refine ⟨_, _, pre0 _ (?_), hrun, hended, _, _, rfl, ?_, ⟨_, rfl⟩, hW, hsame.mono (by decide) (by decide)⟩
  · show Steps p.tables e below (s₁.setTop (mkF m 0 #[rv t1, iv i1] [])) _
    refine st9 _ ?_
    show Steps p.tables e below (T9.setTop (mkF m 3 #[rv t1, iv i1] [.int 1])) _
    refine XS.ifYes X9.here hx rfl (pc0 := 3) (pc' := 28) rfl (hb hby own_d18_3) rfl ((if0 _ _).trans (feq ((by decide) : ¬ ((1 : Int32) = (0 : Int32)))).2) (by decide) (by decide) ?_
    show Steps _ _ _ (T9.setTop (mkF m 28 _ [])) _
    refine XS.iloadN X9.here hx rfl (hb hby own_d18_28) rfl ?_
    show Steps _ _ _ (T9.setTop (mkF m 29 _ [.int i1])) _
    refine XS.iconst X9.here hx rfl (hb hby own_d18_29) ?_
    show Steps _ _ _ (T9.setTop (mkF m 30 _ [.int 1, .int i1])) _
    refine XS.ishl X9.here hx rfl (hb hby own_d18_30) rfl ?_
    rw [e2]
    show Steps p.tables e below (T9.setTop (mkF m 31 #[rv t1, iv i1] [.int i2])) _
    refine XS.istoreN X9.here hx rfl (hb hby own_d18_31) rfl (l' := #[rv t1, iv i2]) rfl ?_
    show Steps _ _ _ (T9.setTop (mkF m 32 _ [])) _
    refine XS.aloadN X9.here hx rfl (hb hby own_d18_32) rfl rfl ?_
    show Steps _ _ _ (T9.setTop (mkF m 33 _ [.ref t1])) _
    refine XS.iloadN X9.here hx rfl (hb hby own_d18_33) rfl ?_
    show Steps _ _ _ (T9.setTop (mkF m 34 _ [.int i2, .ref t1])) _
    refine XS.iinc X9.here hx rfl (hb hby own_d18_34) rfl (l' := #[rv t1, iv i3]) (by rw [show i2 + Int32.ofInt 1 = i3 from e3]; rfl) ?_
    show Steps _ _ _ (T9.setTop (mkF m 37 _ [.int i2, .ref t1])) _
    refine X9.baloadBytes hx (j := i2) (v := (.int (StrChars.lo8 c1))) (by rw [e9]; exact Ar8.1) (State.isArrayOf_alike hZ.alike Ar8.2.1) Ar8.2.2 hi2 ha2 (g := (mkF m 37 #[rv t1, iv i3] [.int i2, .ref t1])) rfl rfl (hb hby own_d18_37) _ ?_
    show Steps p.tables e below (T9.setTop (mkF m 38 #[rv t1, iv i3] [.int (StrChars.lo8 c1)])) _
    refine XS.sipush X9.here hx rfl (hb hby own_d18_38) ?_
    show Steps _ _ _ (T9.setTop (mkF m 41 _ [.int 255, .int (StrChars.lo8 c1)])) _
    refine XS.iand X9.here hx rfl (hb hby own_d18_41) rfl ?_
    show Steps _ _ _ (T9.setTop (mkF m 42 _ [.int ((StrChars.lo8 c1) &&& (255 : Int32))])) _
    refine st10 _ ?_
    show Steps p.tables e below (T10.setTop (mkF m 45 #[rv t1, iv i3] [.int 0, .int ((StrChars.lo8 c1) &&& (255 : Int32))])) _
    refine XS.ishl X10.here hx rfl (hb hby own_d18_45) rfl ?_
    show Steps _ _ _ (T10.setTop (mkF m 46 _ [.int (((StrChars.lo8 c1) &&& (255 : Int32)) <<< ((0 : Int32) &&& 31))])) _
    refine XS.aloadN X10.here hx rfl (hb hby own_d18_46) rfl rfl ?_
    show Steps _ _ _ (T10.setTop (mkF m 47 _ [.ref t1, .int (((StrChars.lo8 c1) &&& (255 : Int32)) <<< ((0 : Int32) &&& 31))])) _
    refine XS.iloadN X10.here hx rfl (hb hby own_d18_47) rfl ?_
    show Steps _ _ _ (T10.setTop (mkF m 48 _ [.int i3, .ref t1, .int (((StrChars.lo8 c1) &&& (255 : Int32)) <<< ((0 : Int32) &&& 31))])) _
    refine X10.baloadBytes hx (j := i3) (v := (.int (StrChars.hi8 c1))) (by rw [e10]; exact Ar8.1) (State.isArrayOf_alike hZ.alike Ar8.2.1) Ar8.2.2 hi3 ha3 (g := (mkF m 48 #[rv t1, iv i3] [.int i3, .ref t1, .int (((StrChars.lo8 c1) &&& (255 : Int32)) <<< ((0 : Int32) &&& 31))])) rfl rfl (hb hby own_d18_48) _ ?_
    show Steps p.tables e below (T10.setTop (mkF m 49 #[rv t1, iv i3] [.int (StrChars.hi8 c1), .int (((StrChars.lo8 c1) &&& (255 : Int32)) <<< ((0 : Int32) &&& 31))])) _
    refine XS.sipush X10.here hx rfl (hb hby own_d18_49) ?_
    show Steps _ _ _ (T10.setTop (mkF m 52 _ [.int 255, .int (StrChars.hi8 c1), .int (((StrChars.lo8 c1) &&& (255 : Int32)) <<< ((0 : Int32) &&& 31))])) _
    refine XS.iand X10.here hx rfl (hb hby own_d18_52) rfl ?_
    show Steps _ _ _ (T10.setTop (mkF m 53 _ [.int ((StrChars.hi8 c1) &&& (255 : Int32)), .int (((StrChars.lo8 c1) &&& (255 : Int32)) <<< ((0 : Int32) &&& 31))])) _
    refine st11 _ ?_
    show Steps p.tables e below (T11.setTop (mkF m 56 #[rv t1, iv i3] [.int 8, .int ((StrChars.hi8 c1) &&& (255 : Int32)), .int (((StrChars.lo8 c1) &&& (255 : Int32)) <<< ((0 : Int32) &&& 31))])) _
    refine XS.ishl X11.here hx rfl (hb hby own_d18_56) rfl ?_
    show Steps _ _ _ (T11.setTop (mkF m 57 _ [.int (((StrChars.hi8 c1) &&& (255 : Int32)) <<< ((8 : Int32) &&& 31)), .int (((StrChars.lo8 c1) &&& (255 : Int32)) <<< ((0 : Int32) &&& 31))])) _
    refine XS.ior X11.here hx rfl (hb hby own_d18_57) rfl ?_
    show Steps _ _ _ (T11.setTop (mkF m 58 _ [.int ((((StrChars.lo8 c1) &&& (255 : Int32)) <<< ((0 : Int32) &&& 31)) ||| (((StrChars.hi8 c1) &&& (255 : Int32)) <<< ((8 : Int32) &&& 31)))])) _
    refine XS.i2c X11.here hx rfl (hb hby own_d18_58) rfl ?_
    rw [show (((StrChars.lo8 c1 &&& (255 : Int32)) <<< ((0 : Int32) &&& 31)) ||| ((StrChars.hi8 c1 &&& (255 : Int32)) <<< ((8 : Int32) &&& 31))).toUInt32.toUInt16.toUInt32.toInt32 = c1 from StrChars.pair_says hc.1 hc.2]
    show Steps p.tables e below (T11.setTop (mkF m 59 #[rv t1, iv i3] [.int c1])) _
    exact retN X11 hx (t := .char) Bd.returns (by simp) (hb hby own_d18_59) hr
  · show Q_uget Z t1 i1 i2 i3 kb N2 c1 vs h0 n0 _ T11.heap _
    rw [e11]
    exact ⟨by rw [own_narc c1 hc.1 hc.2], N0, rfl⟩
theorem own_d20_0 : decode jdk_52_method_83_code 0 = .ok (.iload_n 1, 1) := by decide +kernel
theorem own_d20_1 : decode jdk_52_method_83_code 1 = .ok (.aload_n 0, 1) := by decide +kernel
theorem own_d20_2 : decode jdk_52_method_83_code 2 = .ok (.invokestatic 67, 3) := by decide +kernel
theorem own_pd_18 : parseMethodDescriptor "(I[B)V" = some ⟨[.int, (.array .byte)], none⟩ := by decide +kernel
theorem own_d20_5 : decode jdk_52_method_83_code 5 = .ok (.aload_n 0, 1) := by decide +kernel
theorem own_d20_6 : decode jdk_52_method_83_code 6 = .ok (.iload_n 1, 1) := by decide +kernel
theorem own_d20_7 : decode jdk_52_method_83_code 7 = .ok (.invokestatic 71, 3) := by decide +kernel
theorem own_pd_12 : parseMethodDescriptor "([BI)C" = some ⟨[(.array .byte), .int], some .char⟩ := by decide +kernel
theorem own_d20_10 : decode jdk_52_method_83_code 10 = .ok (.ireturn, 1) := by decide +kernel
theorem own_ef_uch (m : MethodId) (x0 : Addr) (x1 : Int32) : entryFrame m #[(.ref x0), (.int x1)] 2 = mkF m 0 #[rv x0, iv x1] [] := by first | (simp [entryFrame, mkF, argsToLocals, Value.category]; done) | rfl
def Q_uch (Z : State) (t1 : Addr) (i1 i2 i3 : Int32) (kb : ClassId) (N2 n1 c1 : Int32) (vs : List Value) (G3 : Value) (h0 : Heap) (n0 : Nat) (v : Option Value) (h : Heap) (L : List Loc) : Prop := v = some (.int c1) ∧ Fr n0 L ∧ h = h0
set_option maxRecDepth 65536 in
set_option maxHeartbeats 40000000 in
theorem rm_uch (l : Launch) (Z : State) (a0 : Array Value) (hw : ∀ d ∈ tables_1, d.before a0 Z = true) (ws : List Jvm.Cond) (t1 : Addr) (i1 i2 i3 : Int32) (kb : ClassId) (N2 n1 c1 : Int32) (vs : List Value) (G3 : Value) (h0 : Heap) (n0 : Nat) (Z0 : n0 ≤ h0.size) (X00 : Old Z n0 h0) (V1 : Arv Z h0 t1 kb .byte N2 vs (.int 0)) (hN : N2 >>> ((1 : Int32) &&& 31) = n1) (hi : ¬ i1 < 0) (hn : i1 < n1) (e2 : i1 <<< ((1 : Int32) &&& 31) = i2) (e3 : i2 + 1 = i3) (b2 : ¬ i2 < 0 ∧ i2 < N2) (b3 : ¬ i3 < 0 ∧ i3 < N2) (v2 : vs.getD i2.toNatClampNeg (.int 0) = .int (StrChars.lo8 c1)) (v3 : vs.getD i3.toNatClampNeg (.int 0) = .int (StrChars.hi8 c1)) (hc : ¬ c1 < 0 ∧ ¬ (65535 : Int32) < c1) (O4 : Sta Z Z.heap "jdk/internal/util/Preconditions" "SIOOBE_FORMATTER" "Ljava/util/function/BiFunction;" G3) (rG3 : G3.isRef = true) (OA : Sta Z Z.heap "java/lang/StringUTF16" "$assertionsDisabled" "Z" (.int (1 : Int32))) (OH : Sta Z Z.heap "java/lang/StringUTF16" "HI_BYTE_SHIFT" "I" (.int (0 : Int32))) (OL : Sta Z Z.heap "java/lang/StringUTF16" "LO_BYTE_SHIFT" "I" (.int (8 : Int32))) :
    MetFree l (⟨"java/lang/StringUTF16", "charAt", "([BI)C"⟩ : MethodName) (head1 (Jvm.Cond.code (⟨"java/lang/StringUTF16", "charAt", "([BI)C"⟩ : MethodName) jdk_52_method_83_code 2 (some .char) :: ws) ({ frames := 3, cells := 0, slots := 0, locals := 60 } : Room)) (fun a U => a = #[(.ref t1), (.int i1)] ∧ Z.Warmed39 U.vm ∧ U.heap = h0) (fun _ _ _ _ _ => True) (fun _ U o U' => ∃ v L, o = .returned v ∧ Q_uch Z t1 i1 i2 i3 kb N2 n1 c1 vs G3 h0 n0 v U'.heap L ∧ FrameEnd U o U' L ({ frames := 3, cells := 0, slots := 0, locals := 60 } : Room).cells ({ frames := 3, cells := 0, slots := 0, locals := 60 } : Room).slots) := by
  refine MetFree.of_bodySF (plainFor_of_name own_pn_5) hisR ?_
  intro p e s m args below meth c s₁ Bd hml0 hP hK
  obtain ⟨rfl, hZ, hh⟩ := hP
  have hx := Bd.exec
  have hby := Bd.bytes
  have hml : c.maxLocals = 2 := hml0
  have hown : s.vm.findClass "java/lang/StringUTF16" = some m.cls := findClass_of_methodNamed Bd.named
  have hnm := (name_of_methodNamed Bd.named Bd.method).1
  have W := own_W hw
  have X0 : Stand p l e ({ frames := 3, cells := 0, slots := 0, locals := 60 } : Room) s m #[(.ref t1), (.int i1)] below meth c s₁ [] 0 0 := Stand.of_body Bd
  have e0 : s₁.heap = h0 := by rw [← hh, Bd.state]; rfl
  have N0 := Fr.nil n0
  have pre0 : ∀ tq, Steps p.tables e below (s₁.setTop (mkF m 0 #[rv t1, iv i1] [])) tq → Steps p.tables e below (s₁.setTop (entryFrame m #[(.ref t1), (.int i1)] 2)) tq := fun tq k => castTop (own_ef_uch m t1 i1) k
  obtain ⟨_, _, ⟨T12, L12, k12, n12⟩, -, X12, ⟨Lc12, hQ12, l12, y12, z12⟩, st12⟩ := Jvm.LawKit.callS X0 hx (y := (⟨"java/lang/StringUTF16", "checkIndex", "(I[B)V"⟩ : MethodName)) hown (mvT hZ (W 108 rfl)) (mvT hZ (W 109 rfl)) (mvT hZ (W 50 rfl)) (mvT hZ (W 110 rfl)) (by decide) (backOf (W := 0) (rm_uci l Z a0 hw [] i1 t1 kb N2 n1 vs G3 h0 n0 Z0 X00 V1 hN hi hn O4 rG3) hZ (W 110 rfl) (W 50 rfl) (by decide) (by decide)) (g := (mkF m 2 #[rv t1, iv i1] [.ref t1, .int i1])) rfl (by rw [hml]; rfl) (argsL := [.int i1, .ref t1]) (rest := []) (lenOf own_pd_18 rfl) rfl (by show 2 * 0 + _ ≤ _; exact Nat.le_of_eq rfl) (hb hby own_d20_2) (fun _ _ => ⟨rfl, e0, (by decide : 0 + 0 ≤ _), (by decide : 0 + 0 ≤ _)⟩)
  dsimp only [Pt.U, Pt.locs, Pt.cells, Pt.slots] at X12 l12 y12 z12 st12 hQ12
  subst l12 y12 z12
  obtain ⟨rfl, Nq12, e12⟩ := hQ12
  have N12 := Fr.app N0 Nq12
  obtain ⟨_, _, ⟨T13, L13, k13, n13⟩, -, X13, ⟨Lc13, hQ13, l13, y13, z13⟩, st13⟩ := Jvm.LawKit.callS X12 hx (y := (⟨"java/lang/StringUTF16", "getChar", "([BI)C"⟩ : MethodName)) hown (mvT hZ (W 102 rfl)) (mvT hZ (W 103 rfl)) (mvT hZ (W 50 rfl)) (mvT hZ (W 104 rfl)) (by decide) (backOf (W := 0) (rm_uget l Z a0 hw [] t1 i1 i2 i3 kb N2 c1 vs h0 n0 Z0 X00 V1 e2 e3 b2 b3 v2 v3 hc OA OH OL) hZ (W 104 rfl) (W 50 rfl) (by decide) (by decide)) (g := (mkF m 7 #[rv t1, iv i1] [.int i1, .ref t1])) rfl (by rw [hml]; rfl) (argsL := [.ref t1, .int i1]) (rest := []) (lenOf own_pd_12 rfl) rfl (by show 2 * 0 + _ ≤ _; exact Nat.le_of_eq rfl) (hb hby own_d20_7) (fun _ _ => ⟨rfl, e12, (by decide : 0 + 0 ≤ _), (by decide : 0 + 0 ≤ _)⟩)
  dsimp only [Pt.U, Pt.locs, Pt.cells, Pt.slots] at X13 l13 y13 z13 st13 hQ13
  subst l13 y13 z13
  obtain ⟨rfl, Nq13, e13⟩ := hQ13
  have N13 := Fr.app N12 Nq13
  obtain ⟨fs, hr, hrun, hended, hW, hsame⟩ := X13.leave (v := some (.int (nar .char c1))) (fun h => by rw [Bd.returns] at h; cases h)
  refine ⟨_, _, pre0 _ (?_), hrun, hended, _, _, rfl, ?_, ⟨_, rfl⟩, hW, hsame.mono (by decide) (by decide)⟩
  · show Steps p.tables e below (s₁.setTop (mkF m 0 #[rv t1, iv i1] [])) _
    refine XS.iloadN X0.here hx rfl (hb hby own_d20_0) rfl ?_
    show Steps _ _ _ (s₁.setTop (mkF m 1 _ [.int i1])) _
    refine XS.aloadN X0.here hx rfl (hb hby own_d20_1) rfl rfl ?_
    show Steps _ _ _ (s₁.setTop (mkF m 2 _ [.ref t1, .int i1])) _
    refine st12 _ ?_
    show Steps p.tables e below (T12.setTop (mkF m 5 #[rv t1, iv i1] [])) _
    refine XS.aloadN X12.here hx rfl (hb hby own_d20_5) rfl rfl ?_
    show Steps _ _ _ (T12.setTop (mkF m 6 _ [.ref t1])) _
    refine XS.iloadN X12.here hx rfl (hb hby own_d20_6) rfl ?_
    show Steps _ _ _ (T12.setTop (mkF m 7 _ [.int i1, .ref t1])) _
    refine st13 _ ?_
    show Steps p.tables e below (T13.setTop (mkF m 10 #[rv t1, iv i1] [.int c1])) _
    exact retN X13 hx (t := .char) Bd.returns (by simp) (hb hby own_d20_10) hr
  · show Q_uch Z t1 i1 i2 i3 kb N2 n1 c1 vs G3 h0 n0 _ T13.heap _
    rw [e13]
    exact ⟨by rw [own_narc c1 hc.1 hc.2], N13, rfl⟩
theorem own_d17_0 : decode jdk_52_method_4_code 0 = .ok (.getstatic 44, 3) := by decide +kernel
theorem own_d17_3 : decode jdk_52_method_4_code 3 = .ok (.ifCond .ne 25, 3) := by decide +kernel
theorem own_d17_28 : decode jdk_52_method_4_code 28 = .ok (.iload_n 1, 1) := by decide +kernel
theorem own_d17_29 : decode jdk_52_method_4_code 29 = .ok (.iconst 1, 1) := by decide +kernel
theorem own_d17_30 : decode jdk_52_method_4_code 30 = .ok (.ishl, 1) := by decide +kernel
theorem own_d17_31 : decode jdk_52_method_4_code 31 = .ok (.istore_n 1, 1) := by decide +kernel
theorem own_d17_32 : decode jdk_52_method_4_code 32 = .ok (.aload_n 0, 1) := by decide +kernel
theorem own_d17_33 : decode jdk_52_method_4_code 33 = .ok (.iload_n 1, 1) := by decide +kernel
theorem own_d17_34 : decode jdk_52_method_4_code 34 = .ok (.iinc 1 1, 3) := by decide +kernel
theorem own_d17_37 : decode jdk_52_method_4_code 37 = .ok (.iload_n 2, 1) := by decide +kernel
theorem own_d17_38 : decode jdk_52_method_4_code 38 = .ok (.getstatic 59, 3) := by decide +kernel
theorem own_d17_41 : decode jdk_52_method_4_code 41 = .ok (.ishr, 1) := by decide +kernel
theorem own_d17_42 : decode jdk_52_method_4_code 42 = .ok (.i2b, 1) := by decide +kernel
theorem own_d17_43 : decode jdk_52_method_4_code 43 = .ok (.bastore, 1) := by decide +kernel
theorem own_d17_44 : decode jdk_52_method_4_code 44 = .ok (.aload_n 0, 1) := by decide +kernel
theorem own_d17_45 : decode jdk_52_method_4_code 45 = .ok (.iload_n 1, 1) := by decide +kernel
theorem own_d17_46 : decode jdk_52_method_4_code 46 = .ok (.iload_n 2, 1) := by decide +kernel
theorem own_d17_47 : decode jdk_52_method_4_code 47 = .ok (.getstatic 63, 3) := by decide +kernel
theorem own_d17_50 : decode jdk_52_method_4_code 50 = .ok (.ishr, 1) := by decide +kernel
theorem own_d17_51 : decode jdk_52_method_4_code 51 = .ok (.i2b, 1) := by decide +kernel
theorem own_d17_52 : decode jdk_52_method_4_code 52 = .ok (.bastore, 1) := by decide +kernel
theorem own_d17_53 : decode jdk_52_method_4_code 53 = .ok (.return_, 1) := by decide +kernel
theorem own_ef_uput (m : MethodId) (x0 : Addr) (x1 : Int32) (x2 : Int32) : entryFrame m #[(.ref x0), (.int x1), (.int x2)] 3 = mkF m 0 #[rv x0, iv x1, iv x2] [] := by first | (simp [entryFrame, mkF, argsToLocals, Value.category]; done) | rfl
def Q_uput (Z : State) (t1 : Addr) (i1 i2 i3 : Int32) (kb : ClassId) (N2 c1 : Int32) (vs : List Value) (h0 : Heap) (n0 : Nat) (v : Option Value) (h : Heap) (L : List Loc) : Prop := v = none ∧ Fr n0 L ∧ Keep h0 h [t1] ∧ Arv Z h t1 kb .byte N2 ((vs.set i2.toNatClampNeg (.int (StrChars.lo8 c1))).set i3.toNatClampNeg (.int (StrChars.hi8 c1))) (.int 0)
set_option maxRecDepth 65536 in
set_option maxHeartbeats 40000000 in
theorem rm_uput (l : Launch) (Z : State) (a0 : Array Value) (hw : ∀ d ∈ tables_1, d.before a0 Z = true) (ws : List Jvm.Cond) (t1 : Addr) (i1 i2 i3 : Int32) (kb : ClassId) (N2 c1 : Int32) (vs : List Value) (h0 : Heap) (n0 : Nat) (Z0 : n0 ≤ h0.size) (X00 : Old Z n0 h0) (V1 : Arv Z h0 t1 kb .byte N2 vs (.int 0)) (g1 : n0 ≤ t1) (e2 : i1 <<< ((1 : Int32) &&& 31) = i2) (e3 : i2 + 1 = i3) (b2 : ¬ i2 < 0 ∧ i2 < N2) (b3 : ¬ i3 < 0 ∧ i3 < N2) (l2 : i2.toNatClampNeg < vs.length) (l3 : i3.toNatClampNeg < vs.length) (OA : Sta Z Z.heap "java/lang/StringUTF16" "$assertionsDisabled" "Z" (.int (1 : Int32))) (OH : Sta Z Z.heap "java/lang/StringUTF16" "HI_BYTE_SHIFT" "I" (.int (0 : Int32))) (OL : Sta Z Z.heap "java/lang/StringUTF16" "LO_BYTE_SHIFT" "I" (.int (8 : Int32))) :
    MetFree l (⟨"java/lang/StringUTF16", "putChar", "([BII)V"⟩ : MethodName) (head1 (Jvm.Cond.code (⟨"java/lang/StringUTF16", "putChar", "([BII)V"⟩ : MethodName) jdk_52_method_4_code 3 none :: ws) ({ frames := 0, cells := 0, slots := 0, locals := 0 } : Room)) (fun a U => a = #[(.ref t1), (.int i1), (.int c1)] ∧ Z.Warmed39 U.vm ∧ U.heap = h0) (fun _ _ _ _ _ => True) (fun _ U o U' => ∃ v L, o = .returned v ∧ Q_uput Z t1 i1 i2 i3 kb N2 c1 vs h0 n0 v U'.heap L ∧ FrameEnd U o U' L ({ frames := 0, cells := 0, slots := 0, locals := 0 } : Room).cells ({ frames := 0, cells := 0, slots := 0, locals := 0 } : Room).slots) := by
  refine MetFree.of_bodySF (plainFor_of_name own_pn_5) hisR ?_
  intro p e s m args below meth c s₁ Bd hml0 hP hK
  obtain ⟨rfl, hZ, hh⟩ := hP
  have hx := Bd.exec
  have hby := Bd.bytes
  have hml : c.maxLocals = 3 := hml0
  have hown : s.vm.findClass "java/lang/StringUTF16" = some m.cls := findClass_of_methodNamed Bd.named
  have hnm := (name_of_methodNamed Bd.named Bd.method).1
  have W := own_W hw
  have X0 : Stand p l e ({ frames := 0, cells := 0, slots := 0, locals := 0 } : Room) s m #[(.ref t1), (.int i1), (.int c1)] below meth c s₁ [] 0 0 := Stand.of_body Bd
  have e0 : s₁.heap = h0 := by rw [← hh, Bd.state]; rfl
  have N0 := Fr.nil n0
  have pre0 : ∀ tq, Steps p.tables e below (s₁.setTop (mkF m 0 #[rv t1, iv i1, iv c1] [])) tq → Steps p.tables e below (s₁.setTop (entryFrame m #[(.ref t1), (.int i1), (.int c1)] 3)) tq := fun tq k => castTop (own_ef_uput m t1 i1 c1) k
  have K14 : Keep h0 h0 [t1] := Keep.refl h0 [t1]
  obtain ⟨T15, X15, e15, st15⟩ := getS2 X0 hx hZ hown (host := "") (Or.inl (W 99 rfl)) Via.refl e0 (OA.ext X00.2) (g := (mkF m 0 #[rv t1, iv i1, iv c1] [])) rfl (hb hby own_d17_0)
  obtain ⟨T16, X16, e16, st16⟩ := getS2 X15 hx hZ hown (host := "") (Or.inl (W 100 rfl)) Via.refl e15 (OH.ext X00.2) (g := (mkF m 38 #[rv t1, iv i3, iv c1] [.int c1, .int i2, .ref t1])) rfl (hb hby own_d17_38)
  obtain ⟨cl17, Ar17, aq17, aS17, aN17, aH17, aG17⟩ := id V1
  obtain ⟨T18, h18, X18, e18, W18, st18⟩ := stB X16 hx hZ e16 Ar17 (j := i2) (inb_of aS17 b2) (g := (mkF m 43 #[rv t1, iv i3, iv c1] [.int ((c1 >>> ((0 : Int32) &&& 31)).toInt8.toInt32), .int i2, .ref t1])) rfl rfl (hb hby own_d17_43)
  have N18 := Fr.snoc X18 N0 g1
  have V18 := Arv.set Ar17 aq17 aS17 aN17 aH17 aG17 (fits_nar_byte _) W18 _ rfl l2
  rw [show Value.int ((((c1 >>> ((0 : Int32) &&& 31)).toInt8.toInt32)).toInt8.toInt32) = .int (StrChars.lo8 c1) from congrArg Value.int ((own_narb _).trans (congrArg StrChars.lo8 (StrChars.shr0 c1)))] at V18
  have Z19 : n0 ≤ h18.size := Nat.le_trans Z0 (Keep.of_wr W18).1
  have O20 : Old Z n0 h18 := X00.wr W18 g1
  have K21 : Keep h0 h18 [t1] := K14.wr W18 (Or.inl (List.mem_of_getElem? (i := 0) rfl))
  obtain ⟨T22, X22, e22, st22⟩ := getS2 X18 hx hZ hown (host := "") (Or.inl (W 101 rfl)) Via.refl e18 (OL.ext O20.2) (g := (mkF m 47 #[rv t1, iv i3, iv c1] [.int c1, .int i3, .ref t1])) rfl (hb hby own_d17_47)
  obtain ⟨cl23, Ar23, aq23, aS23, aN23, aH23, aG23⟩ := id V18
  obtain ⟨T24, h24, X24, e24, W24, st24⟩ := stB X22 hx hZ e22 Ar23 (j := i3) (inb_of aS23 b3) (g := (mkF m 52 #[rv t1, iv i3, iv c1] [.int ((c1 >>> ((8 : Int32) &&& 31)).toInt8.toInt32), .int i3, .ref t1])) rfl rfl (hb hby own_d17_52)
  have N24 := Fr.snoc X24 N18 g1
  have V24 := Arv.set Ar23 aq23 aS23 aN23 aH23 aG23 (fits_nar_byte _) W24 _ rfl (by rw [List.length_set]; exact l3)
  rw [show Value.int ((((c1 >>> ((8 : Int32) &&& 31)).toInt8.toInt32)).toInt8.toInt32) = .int (StrChars.hi8 c1) from congrArg Value.int (own_narb _)] at V24
  have Z25 : n0 ≤ h24.size := Nat.le_trans Z19 (Keep.of_wr W24).1
  have O26 : Old Z n0 h24 := O20.wr W24 g1
  have K27 : Keep h0 h24 [t1] := K21.wr W24 (Or.inl (List.mem_of_getElem? (i := 0) rfl))
  obtain ⟨fs, hr, hrun, hended, hW, hsame⟩ := X24.leave (v := none) (fun _ => rfl)
  refine ⟨_, _, pre0 _ (?_), hrun, hended, _, _, rfl, ?_, ⟨_, rfl⟩, hW, hsame.mono (by decide) (by decide)⟩
  · show Steps p.tables e below (s₁.setTop (mkF m 0 #[rv t1, iv i1, iv c1] [])) _
    refine st15 _ ?_
    show Steps p.tables e below (T15.setTop (mkF m 3 #[rv t1, iv i1, iv c1] [.int 1])) _
    refine XS.ifYes X15.here hx rfl (pc0 := 3) (pc' := 28) rfl (hb hby own_d17_3) rfl ((if0 _ _).trans (feq ((by decide) : ¬ ((1 : Int32) = (0 : Int32)))).2) (by decide) (by decide) ?_
    show Steps _ _ _ (T15.setTop (mkF m 28 _ [])) _
    refine XS.iloadN X15.here hx rfl (hb hby own_d17_28) rfl ?_
    show Steps _ _ _ (T15.setTop (mkF m 29 _ [.int i1])) _
    refine XS.iconst X15.here hx rfl (hb hby own_d17_29) ?_
    show Steps _ _ _ (T15.setTop (mkF m 30 _ [.int 1, .int i1])) _
    refine XS.ishl X15.here hx rfl (hb hby own_d17_30) rfl ?_
    rw [e2]
    show Steps p.tables e below (T15.setTop (mkF m 31 #[rv t1, iv i1, iv c1] [.int i2])) _
    refine XS.istoreN X15.here hx rfl (hb hby own_d17_31) rfl (l' := #[rv t1, iv i2, iv c1]) rfl ?_
    show Steps _ _ _ (T15.setTop (mkF m 32 _ [])) _
    refine XS.aloadN X15.here hx rfl (hb hby own_d17_32) rfl rfl ?_
    show Steps _ _ _ (T15.setTop (mkF m 33 _ [.ref t1])) _
    refine XS.iloadN X15.here hx rfl (hb hby own_d17_33) rfl ?_
    show Steps _ _ _ (T15.setTop (mkF m 34 _ [.int i2, .ref t1])) _
    refine XS.iinc X15.here hx rfl (hb hby own_d17_34) rfl (l' := #[rv t1, iv i3, iv c1]) (by rw [show i2 + Int32.ofInt 1 = i3 from e3]; rfl) ?_
    show Steps _ _ _ (T15.setTop (mkF m 37 _ [.int i2, .ref t1])) _
    refine XS.iloadN X15.here hx rfl (hb hby own_d17_37) rfl ?_
    show Steps _ _ _ (T15.setTop (mkF m 38 _ [.int c1, .int i2, .ref t1])) _
    refine st16 _ ?_
    show Steps p.tables e below (T16.setTop (mkF m 41 #[rv t1, iv i3, iv c1] [.int 0, .int c1, .int i2, .ref t1])) _
    refine XS.ishr X16.here hx rfl (hb hby own_d17_41) rfl ?_
    show Steps _ _ _ (T16.setTop (mkF m 42 _ [.int (c1 >>> ((0 : Int32) &&& 31)), .int i2, .ref t1])) _
    refine XS.i2b X16.here hx rfl (hb hby own_d17_42) rfl ?_
    show Steps _ _ _ (T16.setTop (mkF m 43 _ [.int ((c1 >>> ((0 : Int32) &&& 31)).toInt8.toInt32), .int i2, .ref t1])) _
    refine st18 _ ?_
    show Steps p.tables e below (T18.setTop (mkF m 44 #[rv t1, iv i3, iv c1] [])) _
    refine XS.aloadN X18.here hx rfl (hb hby own_d17_44) rfl rfl ?_
    show Steps _ _ _ (T18.setTop (mkF m 45 _ [.ref t1])) _
    refine XS.iloadN X18.here hx rfl (hb hby own_d17_45) rfl ?_
    show Steps _ _ _ (T18.setTop (mkF m 46 _ [.int i3, .ref t1])) _
    refine XS.iloadN X18.here hx rfl (hb hby own_d17_46) rfl ?_
    show Steps _ _ _ (T18.setTop (mkF m 47 _ [.int c1, .int i3, .ref t1])) _
    refine st22 _ ?_
    show Steps p.tables e below (T22.setTop (mkF m 50 #[rv t1, iv i3, iv c1] [.int 8, .int c1, .int i3, .ref t1])) _
    refine XS.ishr X22.here hx rfl (hb hby own_d17_50) rfl ?_
    show Steps _ _ _ (T22.setTop (mkF m 51 _ [.int (c1 >>> ((8 : Int32) &&& 31)), .int i3, .ref t1])) _
    refine XS.i2b X22.here hx rfl (hb hby own_d17_51) rfl ?_
    show Steps _ _ _ (T22.setTop (mkF m 52 _ [.int ((c1 >>> ((8 : Int32) &&& 31)).toInt8.toInt32), .int i3, .ref t1])) _
    refine st24 _ ?_
    show Steps p.tables e below (T24.setTop (mkF m 53 #[rv t1, iv i3, iv c1] [])) _
    exact X24.returnOut hx Bd.returns (hb hby own_d17_53) hr
  · show Q_uput Z t1 i1 i2 i3 kb N2 c1 vs h0 n0 _ T24.heap _
    rw [e24]
    exact ⟨rfl, N24, K27, V24⟩
theorem own_d16_0 : decode jdk_52_method_3_code 0 = .ok (.iload_n 0, 1) := by decide +kernel
theorem own_d16_1 : decode jdk_52_method_3_code 1 = .ok (.ifCond .ge 11, 3) := by decide +kernel
theorem own_d16_12 : decode jdk_52_method_3_code 12 = .ok (.iload_n 0, 1) := by decide +kernel
theorem own_d16_13 : decode jdk_52_method_3_code 13 = .ok (.ldc 20, 2) := by decide +kernel
theorem own_d16_15 : decode jdk_52_method_3_code 15 = .ok (.if_icmp .lt 40, 3) := by decide +kernel
theorem own_d16_55 : decode jdk_52_method_3_code 55 = .ok (.iload_n 0, 1) := by decide +kernel
theorem own_d16_56 : decode jdk_52_method_3_code 56 = .ok (.iconst 1, 1) := by decide +kernel
theorem own_d16_57 : decode jdk_52_method_3_code 57 = .ok (.ishl, 1) := by decide +kernel
theorem own_d16_58 : decode jdk_52_method_3_code 58 = .ok (.ireturn, 1) := by decide +kernel
theorem own_ef_unbl (m : MethodId) (x0 : Int32) : entryFrame m #[(.int x0)] 1 = mkF m 0 #[iv x0] [] := by first | (simp [entryFrame, mkF, argsToLocals, Value.category]; done) | rfl
def Q_unbl (Z : State) (n1 N2 : Int32) (h0 : Heap) (n0 : Nat) (v : Option Value) (h : Heap) (L : List Loc) : Prop := v = some (.int N2) ∧ Fr n0 L ∧ h = h0
set_option maxRecDepth 65536 in
set_option maxHeartbeats 40000000 in
theorem rm_unbl (l : Launch) (Z : State) (a0 : Array Value) (hw : ∀ d ∈ tables_1, d.before a0 Z = true) (ws : List Jvm.Cond) (n1 N2 : Int32) (h0 : Heap) (n0 : Nat) (Z0 : n0 ≤ h0.size) (hn : ¬ n1 < 0) (hbn : n1 < (1073741823 : Int32)) (hN : n1 <<< ((1 : Int32) &&& 31) = N2) :
    MetFree l (⟨"java/lang/StringUTF16", "newBytesLength", "(I)I"⟩ : MethodName) (head1 (Jvm.Cond.code (⟨"java/lang/StringUTF16", "newBytesLength", "(I)I"⟩ : MethodName) jdk_52_method_3_code 1 (some .int) :: ws) ({ frames := 0, cells := 0, slots := 0, locals := 0 } : Room)) (fun a U => a = #[(.int n1)] ∧ Z.Warmed39 U.vm ∧ U.heap = h0) (fun _ _ _ _ _ => True) (fun _ U o U' => ∃ v L, o = .returned v ∧ Q_unbl Z n1 N2 h0 n0 v U'.heap L ∧ FrameEnd U o U' L ({ frames := 0, cells := 0, slots := 0, locals := 0 } : Room).cells ({ frames := 0, cells := 0, slots := 0, locals := 0 } : Room).slots) := by
  refine MetFree.of_bodySF (plainFor_of_name own_pn_5) hisR ?_
  intro p e s m args below meth c s₁ Bd hml0 hP hK
  obtain ⟨rfl, hZ, hh⟩ := hP
  have hx := Bd.exec
  have hby := Bd.bytes
  have hml : c.maxLocals = 1 := hml0
  have hown : s.vm.findClass "java/lang/StringUTF16" = some m.cls := findClass_of_methodNamed Bd.named
  have hnm := (name_of_methodNamed Bd.named Bd.method).1
  have W := own_W hw
  have X0 : Stand p l e ({ frames := 0, cells := 0, slots := 0, locals := 0 } : Room) s m #[(.int n1)] below meth c s₁ [] 0 0 := Stand.of_body Bd
  have e0 : s₁.heap = h0 := by rw [← hh, Bd.state]; rfl
  have N0 := Fr.nil n0
  have pre0 : ∀ tq, Steps p.tables e below (s₁.setTop (mkF m 0 #[iv n1] [])) tq → Steps p.tables e below (s₁.setTop (entryFrame m #[(.int n1)] 1)) tq := fun tq k => castTop (own_ef_unbl m n1) k
  obtain ⟨fs, hr, hrun, hended, hW, hsame⟩ := X0.leave (v := some (.int N2)) (fun h => by rw [Bd.returns] at h; cases h)
  refine ⟨_, _, pre0 _ (?_), hrun, hended, _, _, rfl, ?_, ⟨_, rfl⟩, hW, hsame.mono (by decide) (by decide)⟩
  · show Steps p.tables e below (s₁.setTop (mkF m 0 #[iv n1] [])) _
    refine XS.iloadN X0.here hx rfl (hb hby own_d16_0) rfl ?_
    show Steps _ _ _ (s₁.setTop (mkF m 1 _ [.int n1])) _
    refine XS.ifYes X0.here hx rfl (pc0 := 1) (pc' := 12) rfl (hb hby own_d16_1) rfl ((if0 _ _).trans (flt (hn : ¬ (n1 < (0 : Int32)))).2.1) (by decide) (by decide) ?_
    show Steps _ _ _ (s₁.setTop (mkF m 12 _ [])) _
    refine XS.iloadN X0.here hx rfl (hb hby own_d16_12) rfl ?_
    show Steps _ _ _ (s₁.setTop (mkF m 13 _ [.int n1])) _
    refine Jvm.Stand.ldcI X0 hx hown (mvT hZ (W 95 rfl)) rfl (hb hby own_d16_13) ?_
    show Steps _ _ _ (s₁.setTop (mkF m 15 _ [.int 1073741823, .int n1])) _
    refine XS.icmpYes X0.here hx rfl (pc0 := 15) (pc' := 55) rfl (hb hby own_d16_15) rfl (tlt (hbn : n1 < (1073741823 : Int32))).1 (by decide) (by decide) ?_
    show Steps _ _ _ (s₁.setTop (mkF m 55 _ [])) _
    refine XS.iloadN X0.here hx rfl (hb hby own_d16_55) rfl ?_
    show Steps _ _ _ (s₁.setTop (mkF m 56 _ [.int n1])) _
    refine XS.iconst X0.here hx rfl (hb hby own_d16_56) ?_
    show Steps _ _ _ (s₁.setTop (mkF m 57 _ [.int 1, .int n1])) _
    refine XS.ishl X0.here hx rfl (hb hby own_d16_57) rfl ?_
    rw [hN]
    show Steps p.tables e below (s₁.setTop (mkF m 58 #[iv n1] [.int N2])) _
    exact retI X0 hx Bd.returns (hb hby own_d16_58) hr
  · show Q_unbl Z n1 N2 h0 n0 _ s₁.heap _
    rw [e0]
    exact ⟨rfl, N0, rfl⟩
theorem own_ofNat2 {n : Nat} (h : 2 * n < 2147483648) : Int32.ofNat n <<< ((1 : Int32) &&& 31) = Int32.ofNat (2 * n) := by
  rw [show ((1 : Int32) &&& 31) = 1 from rfl]
  apply Int32.toBitVec_inj.mp
  rw [Int32.toBitVec_shiftLeft]
  show (BitVec.ofNat 32 n) <<< (((1 : Int32).toBitVec).smod 32) = BitVec.ofNat 32 (2 * n)
  rw [show ((1 : Int32).toBitVec).smod 32 = 1#32 from by decide]
  apply BitVec.eq_of_toNat_eq
  simp [BitVec.toNat_shiftLeft, Nat.shiftLeft_eq, Nat.mul_comm]
theorem own_n32 {n : Nat} (hn : n < 2147483648) : (Int32.ofNat n).toNatClampNeg = n := by
  rw [Int32.toNatClampNeg, Int32.toInt_ofNat_of_lt (by omega)]; rfl
theorem own_nn {n : Nat} (hn : n < 2147483648) : ¬ Int32.ofNat n < 0 := by
  rw [Int32.lt_iff_toInt_lt, Int32.toInt_ofNat_of_lt (by omega), show (0 : Int32).toInt = 0 from rfl]; omega
theorem own_ltI {i n : Nat} (hi : i < 2147483648) (hn : n < 2147483648) : Int32.ofNat i < Int32.ofNat n ↔ i < n := by
  rw [Int32.lt_iff_toInt_lt, Int32.toInt_ofNat_of_lt (by omega), Int32.toInt_ofNat_of_lt (by omega)]; omega
theorem own_one (i : Nat) : Int32.ofNat i + (1 : Int32) = Int32.ofNat (i + 1) := (Int32.ofNat_add i 1).symm

def own_lows (cs : List Int32) : List Value := cs.map fun c => .int (StrChars.lo8 c)
theorem own_take1 (cs : List Int32) {i : Nat} (h : i < cs.length) : cs.take (i + 1) = cs.take i ++ [cs.getD i 0] := by
  rw [List.take_add_one, List.getElem?_eq_getElem h]
  simp [List.getD_eq_getElem?_getD, h]
theorem own_lows_len (cs : List Int32) {i : Nat} (h : i ≤ cs.length) : (own_lows (cs.take i)).length = i := by
  simp [own_lows]; omega
theorem own_lows_next (cs : List Int32) {i : Nat} (h : i < cs.length) : (own_lows (cs.take i) ++ List.replicate 1 (Value.int (0 : Int32))).set i (.int (StrChars.lo8 (cs.getD i 0))) = own_lows (cs.take (i + 1)) := by
  have hl := own_lows_len cs (Nat.le_of_lt h)
  rw [List.set_append, if_neg (by omega), hl, Nat.sub_self, own_take1 cs h]
  simp [own_lows]
theorem own_wide_len : ∀ cs : List Int32, (StrChars.Road.wideBytes cs).length = 2 * cs.length
  | [] => rfl
  | c :: cs => by simp only [StrChars.Road.wideBytes, List.length_cons, own_wide_len cs]; omega
theorem own_wide_app : ∀ (as bs : List Int32), StrChars.Road.wideBytes (as ++ bs) = StrChars.Road.wideBytes as ++ StrChars.Road.wideBytes bs
  | [], bs => rfl
  | a :: as, bs => by simp only [List.cons_append, StrChars.Road.wideBytes, own_wide_app as bs]
theorem own_wide_next (cs : List Int32) {i : Nat} (h : i < cs.length) : ((StrChars.Road.wideBytes (cs.take i) ++ List.replicate 2 (Value.int (0 : Int32))).set (2 * i) (.int (StrChars.lo8 (cs.getD i 0)))).set (2 * i + 1) (.int (StrChars.hi8 (cs.getD i 0))) = StrChars.Road.wideBytes (cs.take (i + 1)) := by
  have hl : (StrChars.Road.wideBytes (cs.take i)).length = 2 * i := by rw [own_wide_len, List.length_take]; omega
  rw [own_take1 cs h, own_wide_app, List.set_append, if_neg (by omega), List.set_append, if_neg (by omega), hl, Nat.sub_self, show 2 * i + 1 - 2 * i = 1 by omega]
  rfl
theorem own_getc (cs : List Int32) {i : Nat} (h : i < cs.length) : (cs.map Value.int).getD i (.int 0) = .int (cs.getD i 0) := by
  simp [List.getD_eq_getElem?_getD, h]
theorem own_gmem (cs : List Int32) {i : Nat} (h : i < cs.length) : cs.getD i 0 ∈ cs := by
  have e : cs.getD i 0 = cs[i] := by simp [List.getD_eq_getElem?_getD, h]
  rw [e]; exact List.getElem_mem h
theorem own_four {n : Nat} (h0 : 0 < n) (h : n ≤ 4) : n = 1 ∨ n = 2 ∨ n = 3 ∨ n = 4 := by omega
theorem own_cfl {n : Nat} (h0 : 0 < n) (h : n ≤ 4) : nar .byte ((own_ushr (Int32.ofNat n - Int32.ofNat n) (31 : Int32)).toInt8.toInt32) = 0 := by rcases own_four h0 h with rfl | rfl | rfl | rfl <;> decide
theorem own_cfw {n : Nat} (h0 : 0 < n) (h : n ≤ 4) : nar .byte ((own_ushr (Int32.ofNat n - Int32.ofNat (2 * n)) (31 : Int32)).toInt8.toInt32) = 1 := by rcases own_four h0 h with rfl | rfl | rfl | rfl <;> decide
theorem own_nz {n : Nat} (h0 : 0 < n) (h : n ≤ 4) : ¬ (Int32.ofNat n = (0 : Int32)) := by rcases own_four h0 h with rfl | rfl | rfl | rfl <;> decide
theorem own_ofNat_inj {a b : Nat} (ha : a < 2147483648) (hb : b < 2147483648) (h : Int32.ofNat a = Int32.ofNat b) : a = b := by
  have := congrArg Int32.toInt h
  rw [Int32.toInt_ofNat_of_lt (by omega), Int32.toInt_ofNat_of_lt (by omega)] at this; omega
theorem own_st6 {z0 z1 z2 z3 z4 z5 : Value} {s6 : Slot} {v : Int32} (h : One s6) : storeLocals #[.val z0, .val z1, .val z2, .val z3, .val z4, .val z5, s6] 6 (.int v) = some #[.val z0, .val z1, .val z2, .val z3, .val z4, .val z5, .val (.int v)] := by
  rcases h with rfl | ⟨w, rfl, hw⟩
  · rfl
  · cases w <;> first | rfl | (simp [Value.category] at hw)

theorem own_d15_0 : decode jdk_52_method_2_code 0 = .ok (.iload_n 0, 1) := by decide +kernel
theorem own_d15_1 : decode jdk_52_method_2_code 1 = .ok (.invokestatic 11, 3) := by decide +kernel
theorem own_pd_16 : parseMethodDescriptor "(I)I" = some ⟨[.int], some .int⟩ := by decide +kernel
theorem own_d15_4 : decode jdk_52_method_2_code 4 = .ok (.newarray .byte, 2) := by decide +kernel
theorem own_d15_6 : decode jdk_52_method_2_code 6 = .ok (.areturn, 1) := by decide +kernel
theorem own_ef_unbf (m : MethodId) (x0 : Int32) : entryFrame m #[(.int x0)] 1 = mkF m 0 #[iv x0] [] := by first | (simp [entryFrame, mkF, argsToLocals, Value.category]; done) | rfl
def Q_unbf (Z : State) (cs : List Int32) (h0 : Heap) (n0 : Nat) (v : Option Value) (h : Heap) (L : List Loc) : Prop := ∃ b kb, v = some (.ref b) ∧ Fr n0 L ∧ Keep h0 h [] ∧ h0.size ≤ b ∧ Arv Z h b kb .byte (Int32.ofNat (2 * cs.length)) [] (.int 0)
set_option maxRecDepth 65536 in
set_option maxHeartbeats 40000000 in
theorem rm_unbf (l : Launch) (Z : State) (a0 : Array Value) (hw : ∀ d ∈ tables_1, d.before a0 Z = true) (ws : List Jvm.Cond) (cs : List Int32) (h0 : Heap) (n0 : Nat) (Z0 : n0 ≤ h0.size) (hn0 : 0 < cs.length) (hn4 : cs.length ≤ 4)  :
    MetFree l (⟨"java/lang/StringUTF16", "newBytesFor", "(I)[B"⟩ : MethodName) (head1 (Jvm.Cond.code (⟨"java/lang/StringUTF16", "newBytesFor", "(I)[B"⟩ : MethodName) jdk_52_method_2_code 1 (some (.array .byte)) :: ws) ({ frames := 1, cells := 1, slots := 8, locals := 12 } : Room)) (fun a U => a = #[(.int (Int32.ofNat cs.length))] ∧ Z.Warmed39 U.vm ∧ U.heap = h0) (fun _ _ _ _ _ => True) (fun _ U o U' => ∃ v L, o = .returned v ∧ Q_unbf Z cs h0 n0 v U'.heap L ∧ FrameEnd U o U' L ({ frames := 1, cells := 1, slots := 8, locals := 12 } : Room).cells ({ frames := 1, cells := 1, slots := 8, locals := 12 } : Room).slots) := by
  refine MetFree.of_bodySF (plainFor_of_name own_pn_5) hisR ?_
  intro p e s m args below meth c s₁ Bd hml0 hP hK
  obtain ⟨rfl, hZ, hh⟩ := hP
  have hx := Bd.exec
  have hby := Bd.bytes
  have hml : c.maxLocals = 1 := hml0
  have hown : s.vm.findClass "java/lang/StringUTF16" = some m.cls := findClass_of_methodNamed Bd.named
  have hnm := (name_of_methodNamed Bd.named Bd.method).1
  have W := own_W hw
  have X0 : Stand p l e ({ frames := 1, cells := 1, slots := 8, locals := 12 } : Room) s m #[(.int (Int32.ofNat cs.length))] below meth c s₁ [] 0 0 := Stand.of_body Bd
  have e0 : s₁.heap = h0 := by rw [← hh, Bd.state]; rfl
  have N0 := Fr.nil n0
  have pre0 : ∀ tq, Steps p.tables e below (s₁.setTop (mkF m 0 #[iv (Int32.ofNat cs.length)] [])) tq → Steps p.tables e below (s₁.setTop (entryFrame m #[(.int (Int32.ofNat cs.length))] 1)) tq := fun tq k => castTop (own_ef_unbf m (Int32.ofNat cs.length)) k
  have K28 : Keep h0 h0 [] := Keep.refl h0 []
  obtain ⟨_, _, ⟨T29, L29, k29, n29⟩, -, X29, ⟨Lc29, hQ29, l29, y29, z29⟩, st29⟩ := Jvm.LawKit.callS X0 hx (y := (⟨"java/lang/StringUTF16", "newBytesLength", "(I)I"⟩ : MethodName)) hown (mvT hZ (W 92 rfl)) (mvT hZ (W 93 rfl)) (mvT hZ (W 50 rfl)) (mvT hZ (W 94 rfl)) (by decide) (backOf (W := 0) (rm_unbl l Z a0 hw [] (Int32.ofNat cs.length) (Int32.ofNat (2 * cs.length)) h0 n0 Z0 (own_nn (by omega)) ((own_ltI (n := 1073741823) (by omega) (by omega)).mpr (by omega)) (own_ofNat2 (by omega))) hZ (W 94 rfl) (W 50 rfl) (by decide) (by decide)) (g := (mkF m 1 #[iv (Int32.ofNat cs.length)] [.int (Int32.ofNat cs.length)])) rfl (by rw [hml]; rfl) (argsL := [.int (Int32.ofNat cs.length)]) (rest := []) (lenOf own_pd_16 rfl) rfl (by show 2 * 0 + _ ≤ _; exact Nat.le_of_eq rfl) (hb hby own_d15_1) (fun _ _ => ⟨rfl, e0, (by decide : 0 + 0 ≤ _), (by decide : 0 + 0 ≤ _)⟩)
  dsimp only [Pt.U, Pt.locs, Pt.cells, Pt.slots] at X29 l29 y29 z29 st29 hQ29
  subst l29 y29 z29
  obtain ⟨rfl, Nq29, e29⟩ := hQ29
  have N29 := Fr.app N0 Nq29
  obtain ⟨T30, h30, k30, X30, e30, E30, A30, st30⟩ := newP X29 hx hZ (W 21 rfl) e29 (g := (mkF m 4 #[iv (Int32.ofNat cs.length)] [.int (Int32.ofNat (2 * cs.length))])) rfl (hb hby own_d15_4) rfl (own_nn (by omega)) (cap := 8) (by rw [own_n32 (by omega)]; omega) (by decide) (by decide) (by decide)
  obtain ⟨b30, g30⟩ : ∃ z, z = h0.size := ⟨_, rfl⟩
  rw [← g30] at A30 st30
  have g31 : n0 ≤ b30 := Nat.le_trans Z0 (Nat.le_of_eq g30.symm)
  have g32 : h0.size ≤ b30 := Nat.le_trans K28.1 (Nat.le_of_eq g30.symm)
  have Z33 : n0 ≤ h30.size := Nat.le_trans Z0 E30.1
  have K34 : Keep h0 h30 [] := K28.ext E30
  have V30 : Arv Z h30 b30 k30 .byte (Int32.ofNat (2 * cs.length)) [] (.int (0 : Int32)) := Arv.new A30 (own_nn (by omega))
  obtain ⟨fs, hr, hrun, hended, hW, hsame⟩ := X30.leave (v := some (.ref b30)) (fun h => by rw [Bd.returns] at h; cases h)
  refine ⟨_, _, pre0 _ (?_), hrun, hended, _, _, rfl, ?_, ⟨_, rfl⟩, hW, hsame.mono (by decide) (by decide)⟩
  · show Steps p.tables e below (s₁.setTop (mkF m 0 #[iv (Int32.ofNat cs.length)] [])) _
    refine XS.iloadN X0.here hx rfl (hb hby own_d15_0) rfl ?_
    show Steps _ _ _ (s₁.setTop (mkF m 1 _ [.int (Int32.ofNat cs.length)])) _
    refine st29 _ ?_
    show Steps p.tables e below (T29.setTop (mkF m 4 #[iv (Int32.ofNat cs.length)] [.int (Int32.ofNat (2 * cs.length))])) _
    refine st30 _ ?_
    show Steps p.tables e below (T30.setTop (mkF m 6 #[iv (Int32.ofNat cs.length)] [.ref b30])) _
    exact retOut X30 hx Bd.returns rfl (Or.inr (Or.inr (Or.inr (Or.inr ⟨rfl, rfl, rfl⟩)))) (hb hby own_d15_6) hr
  · show Q_unbf Z cs h0 n0 _ T30.heap _
    rw [e30]
    exact ⟨b30, k30, rfl, N29, K34, g32, V30⟩
theorem own_d11_0 : decode jdk_52_method_14_code 0 = .ok (.iload_n 2, 1) := by decide +kernel
theorem own_d11_1 : decode jdk_52_method_14_code 1 = .ok (.invokestatic 107, 3) := by decide +kernel
theorem own_pd_15 : parseMethodDescriptor "(I)[B" = some ⟨[.int], some (.array .byte)⟩ := by decide +kernel
theorem own_d11_4 : decode jdk_52_method_14_code 4 = .ok (.astore_n 3, 1) := by decide +kernel
theorem own_d11_5 : decode jdk_52_method_14_code 5 = .ok (.iconst 0, 1) := by decide +kernel
theorem own_d11_6 : decode jdk_52_method_14_code 6 = .ok (.istore 4, 2) := by decide +kernel
theorem own_d11_8 : decode jdk_52_method_14_code 8 = .ok (.iload 4, 2) := by decide +kernel
theorem own_d11_10 : decode jdk_52_method_14_code 10 = .ok (.iload_n 2, 1) := by decide +kernel
theorem own_d11_11 : decode jdk_52_method_14_code 11 = .ok (.if_icmp .ge 21, 3) := by decide +kernel
theorem own_d11_14 : decode jdk_52_method_14_code 14 = .ok (.aload_n 3, 1) := by decide +kernel
theorem own_d11_15 : decode jdk_52_method_14_code 15 = .ok (.iload 4, 2) := by decide +kernel
theorem own_d11_17 : decode jdk_52_method_14_code 17 = .ok (.aload_n 0, 1) := by decide +kernel
theorem own_d11_18 : decode jdk_52_method_14_code 18 = .ok (.iload_n 1, 1) := by decide +kernel
theorem own_d11_19 : decode jdk_52_method_14_code 19 = .ok (.caload, 1) := by decide +kernel
theorem own_d11_20 : decode jdk_52_method_14_code 20 = .ok (.invokestatic 111, 3) := by decide +kernel
theorem own_pd_17 : parseMethodDescriptor "([BII)V" = some ⟨[(.array .byte), .int, .int], none⟩ := by decide +kernel
theorem own_d11_23 : decode jdk_52_method_14_code 23 = .ok (.iinc 1 1, 3) := by decide +kernel
theorem own_d11_26 : decode jdk_52_method_14_code 26 = .ok (.iinc 4 1, 3) := by decide +kernel
theorem own_d11_29 : decode jdk_52_method_14_code 29 = .ok (.goto (-21), 3) := by decide +kernel
theorem own_d11_32 : decode jdk_52_method_14_code 32 = .ok (.aload_n 3, 1) := by decide +kernel
theorem own_d11_33 : decode jdk_52_method_14_code 33 = .ok (.areturn, 1) := by decide +kernel
theorem own_ef_utb (m : MethodId) (x0 : Addr) (x1 : Int32) (x2 : Int32) : entryFrame m #[(.ref x0), (.int x1), (.int x2)] 5 = mkF m 0 #[rv x0, iv x1, iv x2, .unset, .unset] [] := by first | (simp [entryFrame, mkF, argsToLocals, Value.category]; done) | rfl
def Q_utb (Z : State) (b1 : Addr) (kc : ClassId) (cs : List Int32) (h0 : Heap) (n0 : Nat) (v : Option Value) (h : Heap) (L : List Loc) : Prop := ∃ b kb, v = some (.ref b) ∧ Fr n0 L ∧ Keep h0 h [] ∧ h0.size ≤ b ∧ Arv Z h b kb .byte (Int32.ofNat (2 * cs.length)) (StrChars.Road.wideBytes cs) (.int 0)
set_option maxRecDepth 65536 in
set_option maxHeartbeats 40000000 in
theorem rm_utb (l : Launch) (Z : State) (a0 : Array Value) (hw : ∀ d ∈ tables_1, d.before a0 Z = true) (ws : List Jvm.Cond) (b1 : Addr) (kc : ClassId) (cs : List Int32) (h0 : Heap) (n0 : Nat) (Z0 : n0 ≤ h0.size) (X00 : Old Z n0 h0) (V1 : Arv Z h0 b1 kc .char (Int32.ofNat cs.length) (cs.map Value.int) (.int 0)) (hn0 : 0 < cs.length) (hn4 : cs.length ≤ 4) (OA : Sta Z Z.heap "java/lang/StringUTF16" "$assertionsDisabled" "Z" (.int (1 : Int32))) (OH : Sta Z Z.heap "java/lang/StringUTF16" "HI_BYTE_SHIFT" "I" (.int (0 : Int32))) (OL : Sta Z Z.heap "java/lang/StringUTF16" "LO_BYTE_SHIFT" "I" (.int (8 : Int32))) :
    MetFree l (⟨"java/lang/StringUTF16", "toBytes", "([CII)[B"⟩ : MethodName) (head1 (Jvm.Cond.code (⟨"java/lang/StringUTF16", "toBytes", "([CII)[B"⟩ : MethodName) jdk_52_method_14_code 5 (some (.array .byte)) :: ws) ({ frames := 2, cells := 1, slots := 8, locals := 24 } : Room)) (fun a U => a = #[(.ref b1), (.int (0 : Int32)), (.int (Int32.ofNat cs.length))] ∧ Z.Warmed39 U.vm ∧ U.heap = h0) (fun _ _ _ _ _ => True) (fun _ U o U' => ∃ v L, o = .returned v ∧ Q_utb Z b1 kc cs h0 n0 v U'.heap L ∧ FrameEnd U o U' L ({ frames := 2, cells := 1, slots := 8, locals := 24 } : Room).cells ({ frames := 2, cells := 1, slots := 8, locals := 24 } : Room).slots) := by
  refine MetFree.of_bodySF (plainFor_of_name own_pn_5) hisR ?_
  intro p e s m args below meth c s₁ Bd hml0 hP hK
  obtain ⟨rfl, hZ, hh⟩ := hP
  have hx := Bd.exec
  have hby := Bd.bytes
  have hml : c.maxLocals = 5 := hml0
  have hown : s.vm.findClass "java/lang/StringUTF16" = some m.cls := findClass_of_methodNamed Bd.named
  have hnm := (name_of_methodNamed Bd.named Bd.method).1
  have W := own_W hw
  have X0 : Stand p l e ({ frames := 2, cells := 1, slots := 8, locals := 24 } : Room) s m #[(.ref b1), (.int (0 : Int32)), (.int (Int32.ofNat cs.length))] below meth c s₁ [] 0 0 := Stand.of_body Bd
  have e0 : s₁.heap = h0 := by rw [← hh, Bd.state]; rfl
  have N0 := Fr.nil n0
  have pre0 : ∀ tq, Steps p.tables e below (s₁.setTop (mkF m 0 #[rv b1, iv 0, iv (Int32.ofNat cs.length), .unset, .unset] [])) tq → Steps p.tables e below (s₁.setTop (entryFrame m #[(.ref b1), (.int (0 : Int32)), (.int (Int32.ofNat cs.length))] 5)) tq := fun tq k => castTop (own_ef_utb m b1 (0 : Int32) (Int32.ofNat cs.length)) k
  have K35 : Keep h0 h0 [] := Keep.refl h0 []
  obtain ⟨_, _, ⟨T36, L36, k36, n36⟩, -, X36, ⟨Lc36, hQ36, l36, y36, z36⟩, st36⟩ := Jvm.LawKit.callS X0 hx (y := (⟨"java/lang/StringUTF16", "newBytesFor", "(I)[B"⟩ : MethodName)) hown (mvT hZ (W 89 rfl)) (mvT hZ (W 90 rfl)) (mvT hZ (W 50 rfl)) (mvT hZ (W 91 rfl)) (by decide) (backOf (W := 0) (rm_unbf l Z a0 hw [] cs h0 n0 Z0 hn0 hn4) hZ (W 91 rfl) (W 50 rfl) (by decide) (by decide)) (g := (mkF m 1 #[rv b1, iv 0, iv (Int32.ofNat cs.length), .unset, .unset] [.int (Int32.ofNat cs.length)])) rfl (by rw [hml]; rfl) (argsL := [.int (Int32.ofNat cs.length)]) (rest := []) (lenOf own_pd_15 rfl) rfl (by show 2 * 0 + _ ≤ _; exact Nat.le_of_eq rfl) (hb hby own_d11_1) (fun _ _ => ⟨rfl, e0, (by decide : 0 + 1 ≤ _), (by decide : 0 + 8 ≤ _)⟩)
  dsimp only [Pt.U, Pt.locs, Pt.cells, Pt.slots] at X36 l36 y36 z36 st36 hQ36
  subst l36 y36 z36
  obtain ⟨b36, kb36, hv36, Nq36, K36, sb36, V36⟩ := hQ36
  subst hv36
  have N36 := Fr.app N0 Nq36
  have g37 : n0 ≤ b36 := Nat.le_trans Z0 sb36
  have g38 : h0.size ≤ b36 := Nat.le_trans K35.1 sb36
  have Z39 : n0 ≤ T36.heap.size := Nat.le_trans Z0 K36.1
  have O40 : Old Z n0 T36.heap := X00.keep K36 all0
  have K41 : Keep h0 T36.heap [] := K35.trans K36 all0
  have G42 : ∀ tq, Steps p.tables e below (T36.setTop (mkF m 8 #[rv b1, iv 0, iv (Int32.ofNat cs.length), rv b36, iv 0] [])) tq → Steps p.tables e below (s₁.setTop (mkF m 0 #[rv b1, iv 0, iv (Int32.ofNat cs.length), .unset, .unset] [])) tq := by
    intro tq kk
    show Steps p.tables e below (s₁.setTop (mkF m 0 #[rv b1, iv 0, iv (Int32.ofNat cs.length), .unset, .unset] [])) _
    refine XS.iloadN X0.here hx rfl (hb hby own_d11_0) rfl ?_
    show Steps _ _ _ (s₁.setTop (mkF m 1 _ [.int (Int32.ofNat cs.length)])) _
    refine st36 _ ?_
    show Steps p.tables e below (T36.setTop (mkF m 4 #[rv b1, iv 0, iv (Int32.ofNat cs.length), .unset, .unset] [.ref b36])) _
    refine XS.astoreN X36.here hx rfl (hb hby own_d11_4) rfl rfl (l' := #[rv b1, iv 0, iv (Int32.ofNat cs.length), rv b36, .unset]) rfl ?_
    show Steps _ _ _ (T36.setTop (mkF m 5 _ [])) _
    refine XS.iconst X36.here hx rfl (hb hby own_d11_5) ?_
    show Steps _ _ _ (T36.setTop (mkF m 6 _ [.int 0])) _
    refine XS.istore X36.here hx rfl (hb hby own_d11_6) rfl (l' := #[rv b1, iv 0, iv (Int32.ofNat cs.length), rv b36, iv 0]) rfl ?_
    exact kk
  have f43 := (V1.keep K36 nin0)
  have hne : b1 ≠ b36 := (Nat.ne_of_lt (Nat.lt_of_lt_of_le V1.lt sb36))
  have loop : ∀ (k i : Nat) (T : State) (locs : List Loc) (h : Heap), i + k = cs.length → Stand p l e ({ frames := 2, cells := 1, slots := 8, locals := 24 } : Room) s m #[(.ref b1), (.int (0 : Int32)), (.int (Int32.ofNat cs.length))] below meth c T locs 1 8 → T.heap = h → Fr n0 locs → n0 ≤ h.size → Old Z n0 h → Keep T36.heap h [b36] → Arv Z h b36 kb36 .byte (Int32.ofNat (2 * cs.length)) (StrChars.Road.wideBytes (cs.take i)) (.int 0) →
      ∃ (T' : State) (locs' : List Loc) (h' : Heap), Stand p l e ({ frames := 2, cells := 1, slots := 8, locals := 24 } : Room) s m #[(.ref b1), (.int (0 : Int32)), (.int (Int32.ofNat cs.length))] below meth c T' locs' 1 8 ∧ T'.heap = h' ∧ Fr n0 locs' ∧ Keep T36.heap h' [b36] ∧ Arv Z h' b36 kb36 .byte (Int32.ofNat (2 * cs.length)) (StrChars.Road.wideBytes cs) (.int 0) ∧ (∀ tgt, Steps p.tables e below (T'.setTop (mkF m 32 #[rv b1, iv (Int32.ofNat cs.length), iv (Int32.ofNat cs.length), rv b36, iv (Int32.ofNat cs.length)] [])) tgt → Steps p.tables e below (T.setTop (mkF m 8 #[rv b1, iv (Int32.ofNat i), iv (Int32.ofNat cs.length), rv b36, iv (Int32.ofNat i)] [])) tgt) := by
    intro k
    induction k with
    | zero =>
      intro i T locs h hi XT eT NT ZT OT KT VT
      have hii : i = cs.length := by omega
      subst hii
      rw [List.take_length] at VT
      have G44 : ∀ tq, Steps p.tables e below (T.setTop (mkF m 32 #[rv b1, iv (Int32.ofNat cs.length), iv (Int32.ofNat cs.length), rv b36, iv (Int32.ofNat cs.length)] [])) tq → Steps p.tables e below (T.setTop (mkF m 8 #[rv b1, iv (Int32.ofNat cs.length), iv (Int32.ofNat cs.length), rv b36, iv (Int32.ofNat cs.length)] [])) tq := by
        intro tq kk
        show Steps p.tables e below (T.setTop (mkF m 8 #[rv b1, iv (Int32.ofNat cs.length), iv (Int32.ofNat cs.length), rv b36, iv (Int32.ofNat cs.length)] [])) _
        refine XS.iload XT.here hx rfl (hb hby own_d11_8) rfl ?_
        show Steps _ _ _ (T.setTop (mkF m 10 _ [.int (Int32.ofNat cs.length)])) _
        refine XS.iloadN XT.here hx rfl (hb hby own_d11_10) rfl ?_
        show Steps _ _ _ (T.setTop (mkF m 11 _ [.int (Int32.ofNat cs.length), .int (Int32.ofNat cs.length)])) _
        refine XS.icmpYes XT.here hx rfl (pc0 := 11) (pc' := 32) rfl (hb hby own_d11_11) rfl (flt (Int32.lt_irrefl : ¬ ((Int32.ofNat cs.length) < (Int32.ofNat cs.length)))).2.1 (by decide) (by decide) ?_
        exact kk
      exact ⟨T, locs, h, XT, eT, NT, KT, VT, fun tgt kk => G44 _ kk⟩
    | succ k ih =>
      intro i T locs h hi XT eT NT ZT OT KT VT
      have hil : i < cs.length := by omega
      have hit : Int32.ofNat i < (Int32.ofNat cs.length) := (own_ltI (by omega) (by omega)).mpr hil
      have VC := f43.keep KT (ninS hne nin0)
      obtain ⟨cl45, Ar45, aq45, aS45, aN45, aH45, aG45⟩ := id VC
      have hin := inb_of aS45 ⟨own_nn (n := i) (by omega), hit⟩
      have hat := Has.at aH45 hin (show (cs.map Value.int).getD (Int32.ofNat i).toNatClampNeg (.int 0) = .int (cs.getD i 0) by rw [own_n32 (by omega)]; exact own_getc cs hil)
      have VP := VT.pad (pad_rep _ (.int (0 : Int32)) 2)
      obtain ⟨_, _, ⟨T46, L46, k46, n46⟩, -, X46, ⟨Lc46, hQ46, l46, y46, z46⟩, st46⟩ := Jvm.LawKit.callS XT hx (y := (⟨"java/lang/StringUTF16", "putChar", "([BII)V"⟩ : MethodName)) hown (mvT hZ (W 96 rfl)) (mvT hZ (W 97 rfl)) (mvT hZ (W 50 rfl)) (mvT hZ (W 98 rfl)) (by decide) (backOf (W := 0) (rm_uput l Z a0 hw [] b36 (Int32.ofNat i) (Int32.ofNat (2 * i)) (Int32.ofNat (2 * i + 1)) kb36 (Int32.ofNat (2 * cs.length)) (cs.getD i 0) _ h n0 ZT OT VP g37 (own_ofNat2 (by omega)) (own_one _) ⟨own_nn (by omega), (own_ltI (by omega) (by omega)).mpr (by omega)⟩ ⟨own_nn (by omega), (own_ltI (by omega) (by omega)).mpr (by omega)⟩ (by rw [own_n32 (by omega), List.length_append, own_wide_len, List.length_take, List.length_replicate]; omega) (by rw [own_n32 (by omega), List.length_append, own_wide_len, List.length_take, List.length_replicate]; omega) OA OH OL) hZ (W 98 rfl) (W 50 rfl) (by decide) (by decide)) (g := (mkF m 20 #[rv b1, iv (Int32.ofNat i), iv (Int32.ofNat cs.length), rv b36, iv (Int32.ofNat i)] [.int (cs.getD i 0), .int (Int32.ofNat i), .ref b36])) rfl (by rw [hml]; rfl) (argsL := [.ref b36, .int (Int32.ofNat i), .int (cs.getD i 0)]) (rest := []) (lenOf own_pd_17 rfl) rfl (by show 2 * 0 + _ ≤ _; exact Nat.le_of_eq rfl) (hb hby own_d11_20) (fun _ _ => ⟨rfl, eT, (by decide : 1 + 0 ≤ _), (by decide : 8 + 0 ≤ _)⟩)
      dsimp only [Pt.U, Pt.locs, Pt.cells, Pt.slots] at X46 l46 y46 z46 st46 hQ46
      subst l46 y46 z46
      obtain ⟨rfl, Nq46, K46, Vx46⟩ := hQ46
      have N46 := Fr.app NT Nq46
      rw [own_n32 (by omega), own_n32 (by omega), own_wide_next cs hil] at Vx46
      have Z47 : n0 ≤ T46.heap.size := Nat.le_trans ZT K46.1
      have O48 : Old Z n0 T46.heap := OT.keep K46 (allS g37 all0)
      have G49 : ∀ tq, Steps p.tables e below (T46.setTop (mkF m 8 #[rv b1, iv (Int32.ofNat (i + 1)), iv (Int32.ofNat cs.length), rv b36, iv (Int32.ofNat (i + 1))] [])) tq → Steps p.tables e below (T.setTop (mkF m 8 #[rv b1, iv (Int32.ofNat i), iv (Int32.ofNat cs.length), rv b36, iv (Int32.ofNat i)] [])) tq := by
        intro tq kk
        show Steps p.tables e below (T.setTop (mkF m 8 #[rv b1, iv (Int32.ofNat i), iv (Int32.ofNat cs.length), rv b36, iv (Int32.ofNat i)] [])) _
        refine XS.iload XT.here hx rfl (hb hby own_d11_8) rfl ?_
        show Steps _ _ _ (T.setTop (mkF m 10 _ [.int (Int32.ofNat i)])) _
        refine XS.iloadN XT.here hx rfl (hb hby own_d11_10) rfl ?_
        show Steps _ _ _ (T.setTop (mkF m 11 _ [.int (Int32.ofNat cs.length), .int (Int32.ofNat i)])) _
        refine XS.icmpNo XT.here hx rfl (hb hby own_d11_11) rfl (tlt (hit : (Int32.ofNat i) < (Int32.ofNat cs.length))).2.1 ?_
        show Steps _ _ _ (T.setTop (mkF m 14 _ [])) _
        refine XS.aloadN XT.here hx rfl (hb hby own_d11_14) rfl rfl ?_
        show Steps _ _ _ (T.setTop (mkF m 15 _ [.ref b36])) _
        refine XS.iload XT.here hx rfl (hb hby own_d11_15) rfl ?_
        show Steps _ _ _ (T.setTop (mkF m 17 _ [.int (Int32.ofNat i), .ref b36])) _
        refine XS.aloadN XT.here hx rfl (hb hby own_d11_17) rfl rfl ?_
        show Steps _ _ _ (T.setTop (mkF m 18 _ [.ref b1, .int (Int32.ofNat i), .ref b36])) _
        refine XS.iloadN XT.here hx rfl (hb hby own_d11_18) rfl ?_
        show Steps _ _ _ (T.setTop (mkF m 19 _ [.int (Int32.ofNat i), .ref b1, .int (Int32.ofNat i), .ref b36])) _
        refine XT.caload hx (j := (Int32.ofNat i)) (v := (.int (cs.getD i 0))) (by rw [eT]; exact Ar45.1) (State.isArrayOf_alike hZ.alike Ar45.2.1) Ar45.2.2 hin hat (g := (mkF m 19 #[rv b1, iv (Int32.ofNat i), iv (Int32.ofNat cs.length), rv b36, iv (Int32.ofNat i)] [.int (Int32.ofNat i), .ref b1, .int (Int32.ofNat i), .ref b36])) rfl rfl (hb hby own_d11_19) _ ?_
        show Steps p.tables e below (T.setTop (mkF m 20 #[rv b1, iv (Int32.ofNat i), iv (Int32.ofNat cs.length), rv b36, iv (Int32.ofNat i)] [.int (cs.getD i 0), .int (Int32.ofNat i), .ref b36])) _
        refine st46 _ ?_
        show Steps p.tables e below (T46.setTop (mkF m 23 #[rv b1, iv (Int32.ofNat i), iv (Int32.ofNat cs.length), rv b36, iv (Int32.ofNat i)] [])) _
        refine XS.iinc X46.here hx rfl (hb hby own_d11_23) rfl (l' := #[rv b1, iv (Int32.ofNat (i + 1)), iv (Int32.ofNat cs.length), rv b36, iv (Int32.ofNat i)]) (by rw [show Int32.ofNat i + Int32.ofInt 1 = Int32.ofNat (i + 1) from own_one i]; rfl) ?_
        show Steps _ _ _ (T46.setTop (mkF m 26 _ [])) _
        refine XS.iinc X46.here hx rfl (hb hby own_d11_26) rfl (l' := #[rv b1, iv (Int32.ofNat (i + 1)), iv (Int32.ofNat cs.length), rv b36, iv (Int32.ofNat (i + 1))]) (by rw [show Int32.ofNat i + Int32.ofInt 1 = Int32.ofNat (i + 1) from own_one i]; rfl) ?_
        show Steps _ _ _ (T46.setTop (mkF m 29 _ [])) _
        refine XS.goto X46.here hx rfl (pc0 := 29) (pc' := 8) rfl (hb hby own_d11_29) (by decide) (by decide) ?_
        exact kk
      obtain ⟨T', locs', h', XA, eA, NA, KA, VA, GA⟩ := ih (i + 1) T46 _ T46.heap (by omega) X46 rfl N46 Z47 O48 (KT.trans K46 (allS (Or.inl (by simp)) all0)) Vx46
      exact ⟨T', locs', h', XA, eA, NA, KA, VA, fun tgt kk => G49 _ (GA _ kk)⟩
  obtain ⟨T9, locs9, h9, X9, e9, N9, K9, V9, G9⟩ := loop cs.length 0 T36 _ T36.heap (by omega) X36 rfl N36 Z39 O40 (Keep.refl _ _) V36
  have KF : Keep h0 h9 [] := K41.trans K9 (allS (Or.inr g38) all0)
  obtain ⟨fs, hr, hrun, hended, hW, hsame⟩ := X9.leave (v := some (.ref b36)) (fun h => by rw [Bd.returns] at h; cases h)
  refine ⟨_, _, pre0 _ (G42 _ (G9 _ (?_))), hrun, hended, _, _, rfl, ?_, ⟨_, rfl⟩, hW, hsame.mono (by decide) (by decide)⟩
  · show Steps p.tables e below (T9.setTop (mkF m 32 #[rv b1, iv (Int32.ofNat cs.length), iv (Int32.ofNat cs.length), rv b36, iv (Int32.ofNat cs.length)] [])) _
    refine XS.aloadN X9.here hx rfl (hb hby own_d11_32) rfl rfl ?_
    show Steps _ _ _ (T9.setTop (mkF m 33 _ [.ref b36])) _
    exact retOut X9 hx Bd.returns rfl (Or.inr (Or.inr (Or.inr (Or.inr ⟨rfl, rfl, rfl⟩)))) (hb hby own_d11_33) hr
  · show Q_utb Z b1 kc cs h0 n0 _ T9.heap _
    rw [e9]
    exact ⟨b36, kb36, rfl, N9, KF, g38, V9⟩
theorem own_d14_0 : decode jdk_52_method_21_code 0 = .ok (.iconst 0, 1) := by decide +kernel
theorem own_d14_1 : decode jdk_52_method_21_code 1 = .ok (.istore 5, 2) := by decide +kernel
theorem own_d14_3 : decode jdk_52_method_21_code 3 = .ok (.iload 5, 2) := by decide +kernel
theorem own_d14_5 : decode jdk_52_method_21_code 5 = .ok (.iload 4, 2) := by decide +kernel
theorem own_d14_7 : decode jdk_52_method_21_code 7 = .ok (.if_icmp .ge 37, 3) := by decide +kernel
theorem own_d14_10 : decode jdk_52_method_21_code 10 = .ok (.aload_n 0, 1) := by decide +kernel
theorem own_d14_11 : decode jdk_52_method_21_code 11 = .ok (.iload_n 1, 1) := by decide +kernel
theorem own_d14_12 : decode jdk_52_method_21_code 12 = .ok (.caload, 1) := by decide +kernel
theorem own_d14_13 : decode jdk_52_method_21_code 13 = .ok (.istore 6, 2) := by decide +kernel
theorem own_d14_15 : decode jdk_52_method_21_code 15 = .ok (.iload 6, 2) := by decide +kernel
theorem own_d14_17 : decode jdk_52_method_21_code 17 = .ok (.sipush 255, 3) := by decide +kernel
theorem own_d14_20 : decode jdk_52_method_21_code 20 = .ok (.if_icmp .le 6, 3) := by decide +kernel
theorem own_d14_26 : decode jdk_52_method_21_code 26 = .ok (.aload_n 2, 1) := by decide +kernel
theorem own_d14_27 : decode jdk_52_method_21_code 27 = .ok (.iload_n 3, 1) := by decide +kernel
theorem own_d14_28 : decode jdk_52_method_21_code 28 = .ok (.iload 6, 2) := by decide +kernel
theorem own_d14_30 : decode jdk_52_method_21_code 30 = .ok (.i2b, 1) := by decide +kernel
theorem own_d14_31 : decode jdk_52_method_21_code 31 = .ok (.bastore, 1) := by decide +kernel
theorem own_d14_32 : decode jdk_52_method_21_code 32 = .ok (.iinc 1 1, 3) := by decide +kernel
theorem own_d14_35 : decode jdk_52_method_21_code 35 = .ok (.iinc 3 1, 3) := by decide +kernel
theorem own_d14_38 : decode jdk_52_method_21_code 38 = .ok (.iinc 5 1, 3) := by decide +kernel
theorem own_d14_41 : decode jdk_52_method_21_code 41 = .ok (.goto (-38), 3) := by decide +kernel
theorem own_d14_44 : decode jdk_52_method_21_code 44 = .ok (.iload 4, 2) := by decide +kernel
theorem own_d14_46 : decode jdk_52_method_21_code 46 = .ok (.ireturn, 1) := by decide +kernel
theorem own_d14_23 : decode jdk_52_method_21_code 23 = .ok (.iload 5, 2) := by decide +kernel
theorem own_d14_25 : decode jdk_52_method_21_code 25 = .ok (.ireturn, 1) := by decide +kernel
theorem own_ef_ucl (m : MethodId) (x0 : Addr) (x1 : Int32) (x2 : Addr) (x3 : Int32) (x4 : Int32) : entryFrame m #[(.ref x0), (.int x1), (.ref x2), (.int x3), (.int x4)] 7 = mkF m 0 #[rv x0, iv x1, rv x2, iv x3, iv x4, .unset, .unset] [] := by first | (simp [entryFrame, mkF, argsToLocals, Value.category]; done) | rfl
def Q_ucl (Z : State) (b1 d1 : Addr) (kc kd : ClassId) (cs : List Int32) (h0 : Heap) (n0 : Nat) (v : Option Value) (h : Heap) (L : List Loc) : Prop := Fr n0 L ∧ Keep h0 h [d1] ∧ ((v = some (.int (Int32.ofNat cs.length)) ∧ (∀ c ∈ cs, ¬ (255 : Int32) < c) ∧ Arv Z h d1 kd .byte (Int32.ofNat cs.length) (own_lows cs) (.int 0)) ∨ (∃ i, v = some (.int (Int32.ofNat i)) ∧ i < cs.length ∧ (255 : Int32) < cs.getD i 0))
set_option maxRecDepth 65536 in
set_option maxHeartbeats 40000000 in
theorem rm_ucl (l : Launch) (Z : State) (a0 : Array Value) (hw : ∀ d ∈ tables_1, d.before a0 Z = true) (ws : List Jvm.Cond) (b1 d1 : Addr) (kc kd : ClassId) (cs : List Int32) (h0 : Heap) (n0 : Nat) (Z0 : n0 ≤ h0.size) (V1 : Arv Z h0 b1 kc .char (Int32.ofNat cs.length) (cs.map Value.int) (.int 0)) (V2 : Arv Z h0 d1 kd .byte (Int32.ofNat cs.length) [] (.int 0)) (hne : b1 ≠ d1) (g1 : n0 ≤ d1) (hn0 : 0 < cs.length) (hn4 : cs.length ≤ 4)  :
    MetFree l (⟨"java/lang/StringUTF16", "compress", "([CI[BII)I"⟩ : MethodName) (head1 (Jvm.Cond.code (⟨"java/lang/StringUTF16", "compress", "([CI[BII)I"⟩ : MethodName) jdk_52_method_21_code 7 (some .int) :: ws) ({ frames := 0, cells := 0, slots := 0, locals := 0 } : Room)) (fun a U => a = #[(.ref b1), (.int (0 : Int32)), (.ref d1), (.int (0 : Int32)), (.int (Int32.ofNat cs.length))] ∧ Z.Warmed39 U.vm ∧ U.heap = h0) (fun _ _ _ _ _ => True) (fun _ U o U' => ∃ v L, o = .returned v ∧ Q_ucl Z b1 d1 kc kd cs h0 n0 v U'.heap L ∧ FrameEnd U o U' L ({ frames := 0, cells := 0, slots := 0, locals := 0 } : Room).cells ({ frames := 0, cells := 0, slots := 0, locals := 0 } : Room).slots) := by
  refine MetFree.of_bodySF (plainFor_of_name own_pn_5) hisR ?_
  intro p e s m args below meth c s₁ Bd hml0 hP hK
  obtain ⟨rfl, hZ, hh⟩ := hP
  have hx := Bd.exec
  have hby := Bd.bytes
  have hml : c.maxLocals = 7 := hml0
  have hown : s.vm.findClass "java/lang/StringUTF16" = some m.cls := findClass_of_methodNamed Bd.named
  have hnm := (name_of_methodNamed Bd.named Bd.method).1
  have W := own_W hw
  have X0 : Stand p l e ({ frames := 0, cells := 0, slots := 0, locals := 0 } : Room) s m #[(.ref b1), (.int (0 : Int32)), (.ref d1), (.int (0 : Int32)), (.int (Int32.ofNat cs.length))] below meth c s₁ [] 0 0 := Stand.of_body Bd
  have e0 : s₁.heap = h0 := by rw [← hh, Bd.state]; rfl
  have N0 := Fr.nil n0
  have pre0 : ∀ tq, Steps p.tables e below (s₁.setTop (mkF m 0 #[rv b1, iv 0, rv d1, iv 0, iv (Int32.ofNat cs.length), .unset, .unset] [])) tq → Steps p.tables e below (s₁.setTop (entryFrame m #[(.ref b1), (.int (0 : Int32)), (.ref d1), (.int (0 : Int32)), (.int (Int32.ofNat cs.length))] 7)) tq := fun tq k => castTop (own_ef_ucl m b1 (0 : Int32) d1 (0 : Int32) (Int32.ofNat cs.length)) k
  have G50 : ∀ tq, Steps p.tables e below (s₁.setTop (mkF m 3 #[rv b1, iv 0, rv d1, iv 0, iv (Int32.ofNat cs.length), iv 0, .unset] [])) tq → Steps p.tables e below (s₁.setTop (mkF m 0 #[rv b1, iv 0, rv d1, iv 0, iv (Int32.ofNat cs.length), .unset, .unset] [])) tq := by
    intro tq kk
    show Steps p.tables e below (s₁.setTop (mkF m 0 #[rv b1, iv 0, rv d1, iv 0, iv (Int32.ofNat cs.length), .unset, .unset] [])) _
    refine XS.iconst X0.here hx rfl (hb hby own_d14_0) ?_
    show Steps _ _ _ (s₁.setTop (mkF m 1 _ [.int 0])) _
    refine XS.istore X0.here hx rfl (hb hby own_d14_1) rfl (l' := #[rv b1, iv 0, rv d1, iv 0, iv (Int32.ofNat cs.length), iv 0, .unset]) rfl ?_
    exact kk
  have loop : ∀ (k i : Nat) (s6 : Slot) (T : State) (locs : List Loc) (h : Heap), i + k = cs.length → One s6 → (∀ j, j < i → ¬ (255 : Int32) < cs.getD j 0) → Stand p l e ({ frames := 0, cells := 0, slots := 0, locals := 0 } : Room) s m #[(.ref b1), (.int (0 : Int32)), (.ref d1), (.int (0 : Int32)), (.int (Int32.ofNat cs.length))] below meth c T locs 0 0 → T.heap = h → Fr n0 locs → Keep h0 h [d1] → Arv Z h d1 kd .byte (Int32.ofNat cs.length) (own_lows (cs.take i)) (.int 0) →
      ∃ (T' : State) (locs' : List Loc) (h' : Heap) (s6' : Slot) (i' pc' : Nat), Stand p l e ({ frames := 0, cells := 0, slots := 0, locals := 0 } : Room) s m #[(.ref b1), (.int (0 : Int32)), (.ref d1), (.int (0 : Int32)), (.int (Int32.ofNat cs.length))] below meth c T' locs' 0 0 ∧ T'.heap = h' ∧ Fr n0 locs' ∧ Keep h0 h' [d1] ∧ ((pc' = 44 ∧ (∀ j, j < cs.length → ¬ (255 : Int32) < cs.getD j 0) ∧ Arv Z h' d1 kd .byte (Int32.ofNat cs.length) (own_lows cs) (.int 0)) ∨ (pc' = 23 ∧ i' < cs.length ∧ (255 : Int32) < cs.getD i' 0)) ∧ (∀ tgt, Steps p.tables e below (T'.setTop (mkF m pc' #[rv b1, iv (Int32.ofNat i'), rv d1, iv (Int32.ofNat i'), iv (Int32.ofNat cs.length), iv (Int32.ofNat i'), s6'] [])) tgt → Steps p.tables e below (T.setTop (mkF m 3 #[rv b1, iv (Int32.ofNat i), rv d1, iv (Int32.ofNat i), iv (Int32.ofNat cs.length), iv (Int32.ofNat i), s6] [])) tgt) := by
    intro k
    induction k with
    | zero =>
      intro i s6 T locs h hi h6 hd XT eT NT KT VT
      have hii : i = cs.length := by omega
      subst hii
      rw [List.take_length] at VT
      have G51 : ∀ tq, Steps p.tables e below (T.setTop (mkF m 44 #[rv b1, iv (Int32.ofNat cs.length), rv d1, iv (Int32.ofNat cs.length), iv (Int32.ofNat cs.length), iv (Int32.ofNat cs.length), s6] [])) tq → Steps p.tables e below (T.setTop (mkF m 3 #[rv b1, iv (Int32.ofNat cs.length), rv d1, iv (Int32.ofNat cs.length), iv (Int32.ofNat cs.length), iv (Int32.ofNat cs.length), s6] [])) tq := by
        intro tq kk
        show Steps p.tables e below (T.setTop (mkF m 3 #[rv b1, iv (Int32.ofNat cs.length), rv d1, iv (Int32.ofNat cs.length), iv (Int32.ofNat cs.length), iv (Int32.ofNat cs.length), s6] [])) _
        refine XS.iload XT.here hx rfl (hb hby own_d14_3) rfl ?_
        show Steps _ _ _ (T.setTop (mkF m 5 _ [.int (Int32.ofNat cs.length)])) _
        refine XS.iload XT.here hx rfl (hb hby own_d14_5) rfl ?_
        show Steps _ _ _ (T.setTop (mkF m 7 _ [.int (Int32.ofNat cs.length), .int (Int32.ofNat cs.length)])) _
        refine XS.icmpYes XT.here hx rfl (pc0 := 7) (pc' := 44) rfl (hb hby own_d14_7) rfl (flt (Int32.lt_irrefl : ¬ ((Int32.ofNat cs.length) < (Int32.ofNat cs.length)))).2.1 (by decide) (by decide) ?_
        exact kk
      exact ⟨T, locs, h, s6, cs.length, 44, XT, eT, NT, KT, Or.inl ⟨rfl, hd, VT⟩, fun tgt kk => G51 _ kk⟩
    | succ k ih =>
      intro i s6 T locs h hi h6 hd XT eT NT KT VT
      have hil : i < cs.length := by omega
      have hit : Int32.ofNat i < (Int32.ofNat cs.length) := (own_ltI (by omega) (by omega)).mpr hil
      have VC := V1.keep KT (ninS hne nin0)
      obtain ⟨cl52, Ar52, aq52, aS52, aN52, aH52, aG52⟩ := id VC
      have hin := inb_of aS52 ⟨own_nn (n := i) (by omega), hit⟩
      have hat := Has.at aH52 hin (show (cs.map Value.int).getD (Int32.ofNat i).toNatClampNeg (.int 0) = .int (cs.getD i 0) by rw [own_n32 (by omega)]; exact own_getc cs hil)
      have G53 : ∀ tq, Steps p.tables e below (T.setTop (mkF m 20 #[rv b1, iv (Int32.ofNat i), rv d1, iv (Int32.ofNat i), iv (Int32.ofNat cs.length), iv (Int32.ofNat i), iv (cs.getD i 0)] [.int 255, .int (cs.getD i 0)])) tq → Steps p.tables e below (T.setTop (mkF m 3 #[rv b1, iv (Int32.ofNat i), rv d1, iv (Int32.ofNat i), iv (Int32.ofNat cs.length), iv (Int32.ofNat i), s6] [])) tq := by
        intro tq kk
        show Steps p.tables e below (T.setTop (mkF m 3 #[rv b1, iv (Int32.ofNat i), rv d1, iv (Int32.ofNat i), iv (Int32.ofNat cs.length), iv (Int32.ofNat i), s6] [])) _
        refine XS.iload XT.here hx rfl (hb hby own_d14_3) rfl ?_
        show Steps _ _ _ (T.setTop (mkF m 5 _ [.int (Int32.ofNat i)])) _
        refine XS.iload XT.here hx rfl (hb hby own_d14_5) rfl ?_
        show Steps _ _ _ (T.setTop (mkF m 7 _ [.int (Int32.ofNat cs.length), .int (Int32.ofNat i)])) _
        refine XS.icmpNo XT.here hx rfl (hb hby own_d14_7) rfl (tlt (hit : (Int32.ofNat i) < (Int32.ofNat cs.length))).2.1 ?_
        show Steps _ _ _ (T.setTop (mkF m 10 _ [])) _
        refine XS.aloadN XT.here hx rfl (hb hby own_d14_10) rfl rfl ?_
        show Steps _ _ _ (T.setTop (mkF m 11 _ [.ref b1])) _
        refine XS.iloadN XT.here hx rfl (hb hby own_d14_11) rfl ?_
        show Steps _ _ _ (T.setTop (mkF m 12 _ [.int (Int32.ofNat i), .ref b1])) _
        refine XT.caload hx (j := (Int32.ofNat i)) (v := (.int (cs.getD i 0))) (by rw [eT]; exact Ar52.1) (State.isArrayOf_alike hZ.alike Ar52.2.1) Ar52.2.2 hin hat (g := (mkF m 12 #[rv b1, iv (Int32.ofNat i), rv d1, iv (Int32.ofNat i), iv (Int32.ofNat cs.length), iv (Int32.ofNat i), s6] [.int (Int32.ofNat i), .ref b1])) rfl rfl (hb hby own_d14_12) _ ?_
        show Steps p.tables e below (T.setTop (mkF m 13 #[rv b1, iv (Int32.ofNat i), rv d1, iv (Int32.ofNat i), iv (Int32.ofNat cs.length), iv (Int32.ofNat i), s6] [.int (cs.getD i 0)])) _
        refine XS.istore XT.here hx rfl (hb hby own_d14_13) rfl (l' := #[rv b1, iv (Int32.ofNat i), rv d1, iv (Int32.ofNat i), iv (Int32.ofNat cs.length), iv (Int32.ofNat i), iv (cs.getD i 0)]) (own_st6 h6) ?_
        show Steps _ _ _ (T.setTop (mkF m 15 _ [])) _
        refine XS.iload XT.here hx rfl (hb hby own_d14_15) rfl ?_
        show Steps _ _ _ (T.setTop (mkF m 17 _ [.int (cs.getD i 0)])) _
        refine XS.sipush XT.here hx rfl (hb hby own_d14_17) ?_
        exact kk
      by_cases hg : (255 : Int32) < cs.getD i 0
      · have G54 : ∀ tq, Steps p.tables e below (T.setTop (mkF m 23 #[rv b1, iv (Int32.ofNat i), rv d1, iv (Int32.ofNat i), iv (Int32.ofNat cs.length), iv (Int32.ofNat i), iv (cs.getD i 0)] [])) tq → Steps p.tables e below (T.setTop (mkF m 20 #[rv b1, iv (Int32.ofNat i), rv d1, iv (Int32.ofNat i), iv (Int32.ofNat cs.length), iv (Int32.ofNat i), iv (cs.getD i 0)] [.int 255, .int (cs.getD i 0)])) tq := by
          intro tq kk
          show Steps p.tables e below (T.setTop (mkF m 20 #[rv b1, iv (Int32.ofNat i), rv d1, iv (Int32.ofNat i), iv (Int32.ofNat cs.length), iv (Int32.ofNat i), iv (cs.getD i 0)] [.int 255, .int (cs.getD i 0)])) _
          refine XS.icmpNo XT.here hx rfl (hb hby own_d14_20) rfl (tlt (hg : (255 : Int32) < (cs.getD i 0))).2.2.2 ?_
          exact kk
        exact ⟨T, _, h, _, i, 23, XT, eT, NT, KT, Or.inr ⟨rfl, hil, hg⟩, fun tgt kk => G53 _ (G54 _ kk)⟩
      · have VP := VT.pad (pad_rep _ (.int (0 : Int32)) 1)
        obtain ⟨clD, ArD, aqD, aSD, aND, aHD, aGD⟩ := id VP
        obtain ⟨T55, h55, X55, e55, W55, st55⟩ := stB XT hx hZ eT ArD (j := Int32.ofNat i) (inb_of aSD ⟨own_nn (n := i) (by omega), hit⟩) (g := (mkF m 31 #[rv b1, iv (Int32.ofNat i), rv d1, iv (Int32.ofNat i), iv (Int32.ofNat cs.length), iv (Int32.ofNat i), iv (cs.getD i 0)] [.int ((cs.getD i 0).toInt8.toInt32), .int (Int32.ofNat i), .ref d1])) rfl rfl (hb hby own_d14_31)
        have N55 := Fr.snoc X55 NT g1
        have Vx55 := Arv.set ArD aqD aSD aND aHD aGD (fits_nar_byte _) W55 i (own_n32 (by omega)) (by rw [List.length_append, own_lows_len cs (by omega), List.length_replicate]; omega)
        rw [show Value.int (((cs.getD i 0).toInt8.toInt32).toInt8.toInt32) = .int (StrChars.lo8 (cs.getD i 0)) from congrArg Value.int (own_narb _), own_lows_next cs hil] at Vx55
        have G56 : ∀ tq, Steps p.tables e below (T55.setTop (mkF m 3 #[rv b1, iv (Int32.ofNat (i + 1)), rv d1, iv (Int32.ofNat (i + 1)), iv (Int32.ofNat cs.length), iv (Int32.ofNat (i + 1)), iv (cs.getD i 0)] [])) tq → Steps p.tables e below (T.setTop (mkF m 20 #[rv b1, iv (Int32.ofNat i), rv d1, iv (Int32.ofNat i), iv (Int32.ofNat cs.length), iv (Int32.ofNat i), iv (cs.getD i 0)] [.int 255, .int (cs.getD i 0)])) tq := by
          intro tq kk
          show Steps p.tables e below (T.setTop (mkF m 20 #[rv b1, iv (Int32.ofNat i), rv d1, iv (Int32.ofNat i), iv (Int32.ofNat cs.length), iv (Int32.ofNat i), iv (cs.getD i 0)] [.int 255, .int (cs.getD i 0)])) _
          refine XS.icmpYes XT.here hx rfl (pc0 := 20) (pc' := 26) rfl (hb hby own_d14_20) rfl (flt (hg : ¬ ((255 : Int32) < (cs.getD i 0)))).2.2.2 (by decide) (by decide) ?_
          show Steps _ _ _ (T.setTop (mkF m 26 _ [])) _
          refine XS.aloadN XT.here hx rfl (hb hby own_d14_26) rfl rfl ?_
          show Steps _ _ _ (T.setTop (mkF m 27 _ [.ref d1])) _
          refine XS.iloadN XT.here hx rfl (hb hby own_d14_27) rfl ?_
          show Steps _ _ _ (T.setTop (mkF m 28 _ [.int (Int32.ofNat i), .ref d1])) _
          refine XS.iload XT.here hx rfl (hb hby own_d14_28) rfl ?_
          show Steps _ _ _ (T.setTop (mkF m 30 _ [.int (cs.getD i 0), .int (Int32.ofNat i), .ref d1])) _
          refine XS.i2b XT.here hx rfl (hb hby own_d14_30) rfl ?_
          show Steps _ _ _ (T.setTop (mkF m 31 _ [.int ((cs.getD i 0).toInt8.toInt32), .int (Int32.ofNat i), .ref d1])) _
          refine st55 _ ?_
          show Steps p.tables e below (T55.setTop (mkF m 32 #[rv b1, iv (Int32.ofNat i), rv d1, iv (Int32.ofNat i), iv (Int32.ofNat cs.length), iv (Int32.ofNat i), iv (cs.getD i 0)] [])) _
          refine XS.iinc X55.here hx rfl (hb hby own_d14_32) rfl (l' := #[rv b1, iv (Int32.ofNat (i + 1)), rv d1, iv (Int32.ofNat i), iv (Int32.ofNat cs.length), iv (Int32.ofNat i), iv (cs.getD i 0)]) (by rw [show Int32.ofNat i + Int32.ofInt 1 = Int32.ofNat (i + 1) from own_one i]; rfl) ?_
          show Steps _ _ _ (T55.setTop (mkF m 35 _ [])) _
          refine XS.iinc X55.here hx rfl (hb hby own_d14_35) rfl (l' := #[rv b1, iv (Int32.ofNat (i + 1)), rv d1, iv (Int32.ofNat (i + 1)), iv (Int32.ofNat cs.length), iv (Int32.ofNat i), iv (cs.getD i 0)]) (by rw [show Int32.ofNat i + Int32.ofInt 1 = Int32.ofNat (i + 1) from own_one i]; rfl) ?_
          show Steps _ _ _ (T55.setTop (mkF m 38 _ [])) _
          refine XS.iinc X55.here hx rfl (hb hby own_d14_38) rfl (l' := #[rv b1, iv (Int32.ofNat (i + 1)), rv d1, iv (Int32.ofNat (i + 1)), iv (Int32.ofNat cs.length), iv (Int32.ofNat (i + 1)), iv (cs.getD i 0)]) (by rw [show Int32.ofNat i + Int32.ofInt 1 = Int32.ofNat (i + 1) from own_one i]; rfl) ?_
          show Steps _ _ _ (T55.setTop (mkF m 41 _ [])) _
          refine XS.goto X55.here hx rfl (pc0 := 41) (pc' := 3) rfl (hb hby own_d14_41) (by decide) (by decide) ?_
          exact kk
        obtain ⟨T', locs', h', s6', i', pc', XA, eA, NA, KA, hA, GA⟩ := ih (i + 1) (.val (.int (cs.getD i 0))) T55 _ h55 (by omega) (One.val rfl) (fun j hj => by
          by_cases hji : j = i
          · subst hji; exact hg
          · exact hd j (by omega)) X55 e55 N55 (KT.wr W55 (Or.inl (by simp))) Vx55
        exact ⟨T', locs', h', s6', i', pc', XA, eA, NA, KA, hA, fun tgt kk => G53 _ (G56 _ (GA _ kk))⟩
  obtain ⟨T9, locs9, h9, s9, i9, pc9, X9, e9, N9, K9, h9c, G9⟩ := loop cs.length 0 .unset s₁ _ h0 (by omega) One.u (fun j hj => absurd hj (by omega)) X0 e0 N0 (Keep.refl _ _) V2
  rcases h9c with ⟨rfl, hall, VA⟩ | ⟨rfl, hi9, hg9⟩
  · obtain ⟨fs, hr, hrun, hended, hW, hsame⟩ := X9.leave (v := some (.int (Int32.ofNat cs.length))) (fun h => by rw [Bd.returns] at h; cases h)
    refine ⟨_, _, pre0 _ (G50 _ (G9 _ (?_))), hrun, hended, _, _, rfl, ?_, ⟨_, rfl⟩, hW, hsame.mono (by decide) (by decide)⟩
    · show Steps p.tables e below (T9.setTop (mkF m 44 #[rv b1, iv (Int32.ofNat i9), rv d1, iv (Int32.ofNat i9), iv (Int32.ofNat cs.length), iv (Int32.ofNat i9), s9] [])) _
      refine XS.iload X9.here hx rfl (hb hby own_d14_44) rfl ?_
      show Steps _ _ _ (T9.setTop (mkF m 46 _ [.int (Int32.ofNat cs.length)])) _
      exact retI X9 hx Bd.returns (hb hby own_d14_46) hr
    · show Q_ucl Z b1 d1 kc kd cs h0 n0 _ T9.heap _
      rw [e9]
      exact ⟨N9, K9, Or.inl ⟨rfl, (fun c hc => by obtain ⟨j, hj, e⟩ := List.getElem_of_mem hc; have := hall j hj; simp only [List.getD_eq_getElem?_getD, List.getElem?_eq_getElem hj, Option.getD_some, e] at this; exact this), VA⟩⟩
  · obtain ⟨fs, hr, hrun, hended, hW, hsame⟩ := X9.leave (v := some (.int (Int32.ofNat i9))) (fun h => by rw [Bd.returns] at h; cases h)
    refine ⟨_, _, pre0 _ (G50 _ (G9 _ (?_))), hrun, hended, _, _, rfl, ?_, ⟨_, rfl⟩, hW, hsame.mono (by decide) (by decide)⟩
    · show Steps p.tables e below (T9.setTop (mkF m 23 #[rv b1, iv (Int32.ofNat i9), rv d1, iv (Int32.ofNat i9), iv (Int32.ofNat cs.length), iv (Int32.ofNat i9), s9] [])) _
      refine XS.iload X9.here hx rfl (hb hby own_d14_23) rfl ?_
      show Steps _ _ _ (T9.setTop (mkF m 25 _ [.int (Int32.ofNat i9)])) _
      exact retI X9 hx Bd.returns (hb hby own_d14_25) hr
    · show Q_ucl Z b1 d1 kc kd cs h0 n0 _ T9.heap _
      rw [e9]
      exact ⟨N9, K9, Or.inr ⟨i9, rfl, hi9, hg9⟩⟩
theorem own_d13_0 : decode jdk_52_method_16_code 0 = .ok (.iload_n 2, 1) := by decide +kernel
theorem own_d13_1 : decode jdk_52_method_16_code 1 = .ok (.newarray .byte, 2) := by decide +kernel
theorem own_d13_3 : decode jdk_52_method_16_code 3 = .ok (.astore_n 3, 1) := by decide +kernel
theorem own_d13_4 : decode jdk_52_method_16_code 4 = .ok (.aload_n 0, 1) := by decide +kernel
theorem own_d13_5 : decode jdk_52_method_16_code 5 = .ok (.iload_n 1, 1) := by decide +kernel
theorem own_d13_6 : decode jdk_52_method_16_code 6 = .ok (.aload_n 3, 1) := by decide +kernel
theorem own_d13_7 : decode jdk_52_method_16_code 7 = .ok (.iconst 0, 1) := by decide +kernel
theorem own_d13_8 : decode jdk_52_method_16_code 8 = .ok (.iload_n 2, 1) := by decide +kernel
theorem own_d13_9 : decode jdk_52_method_16_code 9 = .ok (.invokestatic 115, 3) := by decide +kernel
theorem own_pd_9 : parseMethodDescriptor "([CI[BII)I" = some ⟨[(.array .char), .int, (.array .byte), .int, .int], some .int⟩ := by decide +kernel
theorem own_d13_12 : decode jdk_52_method_16_code 12 = .ok (.istore 4, 2) := by decide +kernel
theorem own_d13_14 : decode jdk_52_method_16_code 14 = .ok (.iload 4, 2) := by decide +kernel
theorem own_d13_16 : decode jdk_52_method_16_code 16 = .ok (.iload_n 2, 1) := by decide +kernel
theorem own_d13_17 : decode jdk_52_method_16_code 17 = .ok (.if_icmp .eq 40, 3) := by decide +kernel
theorem own_d13_57 : decode jdk_52_method_16_code 57 = .ok (.aload_n 3, 1) := by decide +kernel
theorem own_d13_58 : decode jdk_52_method_16_code 58 = .ok (.areturn, 1) := by decide +kernel
theorem own_d13_20 : decode jdk_52_method_16_code 20 = .ok (.aload_n 0, 1) := by decide +kernel
theorem own_d13_21 : decode jdk_52_method_16_code 21 = .ok (.iload_n 1, 1) := by decide +kernel
theorem own_d13_22 : decode jdk_52_method_16_code 22 = .ok (.iload_n 2, 1) := by decide +kernel
theorem own_d13_23 : decode jdk_52_method_16_code 23 = .ok (.invokestatic 119, 3) := by decide +kernel
theorem own_pd_8 : parseMethodDescriptor "([CII)[B" = some ⟨[(.array .char), .int, .int], some (.array .byte)⟩ := by decide +kernel
theorem own_d13_26 : decode jdk_52_method_16_code 26 = .ok (.astore 5, 2) := by decide +kernel
theorem own_d13_28 : decode jdk_52_method_16_code 28 = .ok (.aload 5, 2) := by decide +kernel
theorem own_d13_30 : decode jdk_52_method_16_code 30 = .ok (.iload 4, 2) := by decide +kernel
theorem own_d13_32 : decode jdk_52_method_16_code 32 = .ok (.invokestatic 71, 3) := by decide +kernel
theorem own_d13_35 : decode jdk_52_method_16_code 35 = .ok (.sipush 255, 3) := by decide +kernel
theorem own_d13_38 : decode jdk_52_method_16_code 38 = .ok (.if_icmp .gt 16, 3) := by decide +kernel
theorem own_d13_54 : decode jdk_52_method_16_code 54 = .ok (.aload 5, 2) := by decide +kernel
theorem own_d13_56 : decode jdk_52_method_16_code 56 = .ok (.areturn, 1) := by decide +kernel
theorem own_ef_uc (m : MethodId) (x0 : Addr) (x1 : Int32) (x2 : Int32) : entryFrame m #[(.ref x0), (.int x1), (.int x2)] 6 = mkF m 0 #[rv x0, iv x1, iv x2, .unset, .unset, .unset] [] := by first | (simp [entryFrame, mkF, argsToLocals, Value.category]; done) | rfl
def Q_uc (Z : State) (b1 : Addr) (kc : ClassId) (cs : List Int32) (h0 : Heap) (n0 : Nat) (v : Option Value) (h : Heap) (L : List Loc) : Prop := ∃ b kb, v = some (.ref b) ∧ Fr n0 L ∧ Keep h0 h [] ∧ h0.size ≤ b ∧ (((∀ c ∈ cs, ¬ (255 : Int32) < c) ∧ Arv Z h b kb .byte (Int32.ofNat cs.length) (own_lows cs) (.int 0)) ∨ ((∃ c ∈ cs, (255 : Int32) < c) ∧ Arv Z h b kb .byte (Int32.ofNat (2 * cs.length)) (StrChars.Road.wideBytes cs) (.int 0)))
set_option maxRecDepth 65536 in
set_option maxHeartbeats 40000000 in
theorem rm_uc (l : Launch) (Z : State) (a0 : Array Value) (hw : ∀ d ∈ tables_1, d.before a0 Z = true) (ws : List Jvm.Cond) (b1 : Addr) (kc : ClassId) (cs : List Int32) (h0 : Heap) (n0 : Nat) (Z0 : n0 ≤ h0.size) (X00 : Old Z n0 h0) (V1 : Arv Z h0 b1 kc .char (Int32.ofNat cs.length) (cs.map Value.int) (.int 0)) (hn0 : 0 < cs.length) (hn4 : cs.length ≤ 4) (hbs : ∀ c ∈ cs, ¬ c < 0 ∧ ¬ (65535 : Int32) < c) (OA : Sta Z Z.heap "java/lang/StringUTF16" "$assertionsDisabled" "Z" (.int (1 : Int32))) (OH : Sta Z Z.heap "java/lang/StringUTF16" "HI_BYTE_SHIFT" "I" (.int (0 : Int32))) (OL : Sta Z Z.heap "java/lang/StringUTF16" "LO_BYTE_SHIFT" "I" (.int (8 : Int32))) :
    MetFree l (⟨"java/lang/StringUTF16", "compress", "([CII)[B"⟩ : MethodName) (head1 (Jvm.Cond.code (⟨"java/lang/StringUTF16", "compress", "([CII)[B"⟩ : MethodName) jdk_52_method_16_code 6 (some (.array .byte)) :: ws) ({ frames := 3, cells := 2, slots := 12, locals := 48 } : Room)) (fun a U => a = #[(.ref b1), (.int (0 : Int32)), (.int (Int32.ofNat cs.length))] ∧ Z.Warmed39 U.vm ∧ U.heap = h0) (fun _ _ _ _ _ => True) (fun _ U o U' => ∃ v L, o = .returned v ∧ Q_uc Z b1 kc cs h0 n0 v U'.heap L ∧ FrameEnd U o U' L ({ frames := 3, cells := 2, slots := 12, locals := 48 } : Room).cells ({ frames := 3, cells := 2, slots := 12, locals := 48 } : Room).slots) := by
  refine MetFree.of_bodySF (plainFor_of_name own_pn_5) hisR ?_
  intro p e s m args below meth c s₁ Bd hml0 hP hK
  obtain ⟨rfl, hZ, hh⟩ := hP
  have hx := Bd.exec
  have hby := Bd.bytes
  have hml : c.maxLocals = 6 := hml0
  have hown : s.vm.findClass "java/lang/StringUTF16" = some m.cls := findClass_of_methodNamed Bd.named
  have hnm := (name_of_methodNamed Bd.named Bd.method).1
  have W := own_W hw
  have X0 : Stand p l e ({ frames := 3, cells := 2, slots := 12, locals := 48 } : Room) s m #[(.ref b1), (.int (0 : Int32)), (.int (Int32.ofNat cs.length))] below meth c s₁ [] 0 0 := Stand.of_body Bd
  have e0 : s₁.heap = h0 := by rw [← hh, Bd.state]; rfl
  have N0 := Fr.nil n0
  have pre0 : ∀ tq, Steps p.tables e below (s₁.setTop (mkF m 0 #[rv b1, iv 0, iv (Int32.ofNat cs.length), .unset, .unset, .unset] [])) tq → Steps p.tables e below (s₁.setTop (entryFrame m #[(.ref b1), (.int (0 : Int32)), (.int (Int32.ofNat cs.length))] 6)) tq := fun tq k => castTop (own_ef_uc m b1 (0 : Int32) (Int32.ofNat cs.length)) k
  have K57 : Keep h0 h0 [] := Keep.refl h0 []
  obtain ⟨T58, h58, k58, X58, e58, E58, A58, st58⟩ := newP X0 hx hZ (W 21 rfl) e0 (g := (mkF m 1 #[rv b1, iv 0, iv (Int32.ofNat cs.length), .unset, .unset, .unset] [.int (Int32.ofNat cs.length)])) rfl (hb hby own_d13_1) rfl (own_nn (by omega)) (cap := 4) (by rw [own_n32 (by omega)]; omega) (by decide) (by decide) (by decide)
  obtain ⟨b58, g58⟩ : ∃ z, z = h0.size := ⟨_, rfl⟩
  rw [← g58] at A58 st58
  have g59 : n0 ≤ b58 := Nat.le_trans Z0 (Nat.le_of_eq g58.symm)
  have g60 : h0.size ≤ b58 := Nat.le_trans K57.1 (Nat.le_of_eq g58.symm)
  have Z61 : n0 ≤ h58.size := Nat.le_trans Z0 E58.1
  have O62 : Old Z n0 h58 := X00.ext E58
  have K63 : Keep h0 h58 [] := K57.ext E58
  have V58 : Arv Z h58 b58 k58 .byte (Int32.ofNat cs.length) [] (.int (0 : Int32)) := Arv.new A58 (own_nn (by omega))
  have f64 := (V1.ext E58)
  obtain ⟨_, _, ⟨T65, L65, k65, n65⟩, -, X65, ⟨Lc65, hQ65, l65, y65, z65⟩, st65⟩ := Jvm.LawKit.callS X58 hx (y := (⟨"java/lang/StringUTF16", "compress", "([CI[BII)I"⟩ : MethodName)) hown (mvT hZ (W 52 rfl)) (mvT hZ (W 53 rfl)) (mvT hZ (W 50 rfl)) (mvT hZ (W 54 rfl)) (by decide) (backOf (W := 0) (rm_ucl l Z a0 hw [] b1 b58 kc k58 cs h58 n0 Z61 f64 V58 (Nat.ne_of_lt (Nat.lt_of_lt_of_le V1.lt (Nat.le_of_eq g58.symm))) g59 hn0 hn4) hZ (W 54 rfl) (W 50 rfl) (by decide) (by decide)) (g := (mkF m 9 #[rv b1, iv 0, iv (Int32.ofNat cs.length), rv b58, .unset, .unset] [.int (Int32.ofNat cs.length), .int 0, .ref b58, .int 0, .ref b1])) rfl (by rw [hml]; rfl) (argsL := [.ref b1, .int 0, .ref b58, .int 0, .int (Int32.ofNat cs.length)]) (rest := []) (lenOf own_pd_9 rfl) rfl (by show 2 * 0 + _ ≤ _; exact Nat.le_of_eq rfl) (hb hby own_d13_9) (fun _ _ => ⟨rfl, e58, (by decide : 1 + 0 ≤ _), (by decide : 4 + 0 ≤ _)⟩)
  dsimp only [Pt.U, Pt.locs, Pt.cells, Pt.slots] at X65 l65 y65 z65 st65 hQ65
  subst l65 y65 z65
  obtain ⟨Nq65, K65, hcase⟩ := hQ65
  have N65 := Fr.app N0 Nq65
  have Z66 : n0 ≤ T65.heap.size := Nat.le_trans Z61 K65.1
  have O67 : Old Z n0 T65.heap := O62.keep K65 (allS g59 all0)
  have K68 : Keep h0 T65.heap [] := K63.trans K65 (allS (Or.inr g60) all0)
  rcases hcase with ⟨rfl, hla, hA⟩ | ⟨i, rfl, hil, hg⟩
  · obtain ⟨fs, hr, hrun, hended, hW, hsame⟩ := X65.leave (v := some (.ref b58)) (fun h => by rw [Bd.returns] at h; cases h)
    refine ⟨_, _, pre0 _ (?_), hrun, hended, _, _, rfl, ?_, ⟨_, rfl⟩, hW, hsame.mono (by decide) (by decide)⟩
    · show Steps p.tables e below (s₁.setTop (mkF m 0 #[rv b1, iv 0, iv (Int32.ofNat cs.length), .unset, .unset, .unset] [])) _
      refine XS.iloadN X0.here hx rfl (hb hby own_d13_0) rfl ?_
      show Steps _ _ _ (s₁.setTop (mkF m 1 _ [.int (Int32.ofNat cs.length)])) _
      refine st58 _ ?_
      show Steps p.tables e below (T58.setTop (mkF m 3 #[rv b1, iv 0, iv (Int32.ofNat cs.length), .unset, .unset, .unset] [.ref b58])) _
      refine XS.astoreN X58.here hx rfl (hb hby own_d13_3) rfl rfl (l' := #[rv b1, iv 0, iv (Int32.ofNat cs.length), rv b58, .unset, .unset]) rfl ?_
      show Steps _ _ _ (T58.setTop (mkF m 4 _ [])) _
      refine XS.aloadN X58.here hx rfl (hb hby own_d13_4) rfl rfl ?_
      show Steps _ _ _ (T58.setTop (mkF m 5 _ [.ref b1])) _
      refine XS.iloadN X58.here hx rfl (hb hby own_d13_5) rfl ?_
      show Steps _ _ _ (T58.setTop (mkF m 6 _ [.int 0, .ref b1])) _
      refine XS.aloadN X58.here hx rfl (hb hby own_d13_6) rfl rfl ?_
      show Steps _ _ _ (T58.setTop (mkF m 7 _ [.ref b58, .int 0, .ref b1])) _
      refine XS.iconst X58.here hx rfl (hb hby own_d13_7) ?_
      show Steps _ _ _ (T58.setTop (mkF m 8 _ [.int 0, .ref b58, .int 0, .ref b1])) _
      refine XS.iloadN X58.here hx rfl (hb hby own_d13_8) rfl ?_
      show Steps _ _ _ (T58.setTop (mkF m 9 _ [.int (Int32.ofNat cs.length), .int 0, .ref b58, .int 0, .ref b1])) _
      refine st65 _ ?_
      show Steps p.tables e below (T65.setTop (mkF m 12 #[rv b1, iv 0, iv (Int32.ofNat cs.length), rv b58, .unset, .unset] [.int (Int32.ofNat cs.length)])) _
      refine XS.istore X65.here hx rfl (hb hby own_d13_12) rfl (l' := #[rv b1, iv 0, iv (Int32.ofNat cs.length), rv b58, iv (Int32.ofNat cs.length), .unset]) rfl ?_
      show Steps _ _ _ (T65.setTop (mkF m 14 _ [])) _
      refine XS.iload X65.here hx rfl (hb hby own_d13_14) rfl ?_
      show Steps _ _ _ (T65.setTop (mkF m 16 _ [.int (Int32.ofNat cs.length)])) _
      refine XS.iloadN X65.here hx rfl (hb hby own_d13_16) rfl ?_
      show Steps _ _ _ (T65.setTop (mkF m 17 _ [.int (Int32.ofNat cs.length), .int (Int32.ofNat cs.length)])) _
      refine XS.icmpYes X65.here hx rfl (pc0 := 17) (pc' := 57) rfl (hb hby own_d13_17) rfl (teq (rfl : (Int32.ofNat cs.length) = (Int32.ofNat cs.length))).1 (by decide) (by decide) ?_
      show Steps _ _ _ (T65.setTop (mkF m 57 _ [])) _
      refine XS.aloadN X65.here hx rfl (hb hby own_d13_57) rfl rfl ?_
      show Steps _ _ _ (T65.setTop (mkF m 58 _ [.ref b58])) _
      exact retOut X65 hx Bd.returns rfl (Or.inr (Or.inr (Or.inr (Or.inr ⟨rfl, rfl, rfl⟩)))) (hb hby own_d13_58) hr
    · show Q_uc Z b1 kc cs h0 n0 _ T65.heap _
      exact ⟨b58, k58, rfl, N65, K68, g60, Or.inl ⟨hla, hA⟩⟩
  · have hni : ¬ (Int32.ofNat i = (Int32.ofNat cs.length)) := fun q => absurd (own_ofNat_inj (by omega) (by omega) q) (by omega)
    have f69 := (f64.keep K65 (ninS (Nat.ne_of_lt (Nat.lt_of_lt_of_le V1.lt (Nat.le_of_eq g58.symm))) nin0))
    obtain ⟨_, _, ⟨T70, L70, k70, n70⟩, -, X70, ⟨Lc70, hQ70, l70, y70, z70⟩, st70⟩ := Jvm.LawKit.callS X65 hx (y := (⟨"java/lang/StringUTF16", "toBytes", "([CII)[B"⟩ : MethodName)) hown (mvT hZ (W 86 rfl)) (mvT hZ (W 87 rfl)) (mvT hZ (W 50 rfl)) (mvT hZ (W 88 rfl)) (by decide) (backOf (W := 0) (rm_utb l Z a0 hw [] b1 kc cs T65.heap n0 Z66 O67 f69 hn0 hn4 OA OH OL) hZ (W 88 rfl) (W 50 rfl) (by decide) (by decide)) (g := (mkF m 23 #[rv b1, iv 0, iv (Int32.ofNat cs.length), rv b58, iv (Int32.ofNat i), .unset] [.int (Int32.ofNat cs.length), .int 0, .ref b1])) rfl (by rw [hml]; rfl) (argsL := [.ref b1, .int 0, .int (Int32.ofNat cs.length)]) (rest := []) (lenOf own_pd_8 rfl) rfl (by show 2 * 0 + _ ≤ _; exact Nat.le_of_eq rfl) (hb hby own_d13_23) (fun _ _ => ⟨rfl, rfl, (by decide : 1 + 1 ≤ _), (by decide : 4 + 8 ≤ _)⟩)
    dsimp only [Pt.U, Pt.locs, Pt.cells, Pt.slots] at X70 l70 y70 z70 st70 hQ70
    subst l70 y70 z70
    obtain ⟨b70, kb70, hv70, Nq70, K70, sb70, V70⟩ := hQ70
    subst hv70
    have N70 := Fr.app N65 Nq70
    have g71 : n0 ≤ b70 := Nat.le_trans Z66 sb70
    have g72 : h0.size ≤ b70 := Nat.le_trans K68.1 sb70
    have Z73 : n0 ≤ T70.heap.size := Nat.le_trans Z66 K70.1
    have O74 : Old Z n0 T70.heap := O67.keep K70 all0
    have K75 : Keep h0 T70.heap [] := K68.trans K70 all0
    obtain ⟨_, _, ⟨T76, L76, k76, n76⟩, -, X76, ⟨Lc76, hQ76, l76, y76, z76⟩, st76⟩ := Jvm.LawKit.callS X70 hx (y := (⟨"java/lang/StringUTF16", "getChar", "([BI)C"⟩ : MethodName)) hown (mvT hZ (W 102 rfl)) (mvT hZ (W 103 rfl)) (mvT hZ (W 50 rfl)) (mvT hZ (W 104 rfl)) (by decide) (backOf (W := 0) (rm_uget l Z a0 hw [] b70 (Int32.ofNat i) (Int32.ofNat (2 * i)) (Int32.ofNat (2 * i + 1)) kb70 (Int32.ofNat (2 * cs.length)) (cs.getD i 0) (StrChars.Road.wideBytes cs) T70.heap n0 Z73 O74 V70 (own_ofNat2 (by omega)) (own_one _) ⟨own_nn (by omega), (own_ltI (by omega) (by omega)).mpr (by omega)⟩ ⟨own_nn (by omega), (own_ltI (by omega) (by omega)).mpr (by omega)⟩ (by rw [own_n32 (by omega)]; exact StrChars.Road.wide_lo _ cs i hil) (by rw [own_n32 (by omega)]; exact StrChars.Road.wide_hi _ cs i hil) (hbs _ (own_gmem cs hil)) OA OH OL) hZ (W 104 rfl) (W 50 rfl) (by decide) (by decide)) (g := (mkF m 32 #[rv b1, iv 0, iv (Int32.ofNat cs.length), rv b58, iv (Int32.ofNat i), rv b70] [.int (Int32.ofNat i), .ref b70])) rfl (by rw [hml]; rfl) (argsL := [.ref b70, .int (Int32.ofNat i)]) (rest := []) (lenOf own_pd_12 rfl) rfl (by show 2 * 0 + _ ≤ _; exact Nat.le_of_eq rfl) (hb hby own_d13_32) (fun _ _ => ⟨rfl, rfl, (by decide : 2 + 0 ≤ _), (by decide : 12 + 0 ≤ _)⟩)
    dsimp only [Pt.U, Pt.locs, Pt.cells, Pt.slots] at X76 l76 y76 z76 st76 hQ76
    subst l76 y76 z76
    obtain ⟨rfl, Nq76, e76⟩ := hQ76
    have N76 := Fr.app N70 Nq76
    obtain ⟨fs, hr, hrun, hended, hW, hsame⟩ := X76.leave (v := some (.ref b70)) (fun h => by rw [Bd.returns] at h; cases h)
    refine ⟨_, _, pre0 _ (?_), hrun, hended, _, _, rfl, ?_, ⟨_, rfl⟩, hW, hsame.mono (by decide) (by decide)⟩
    · show Steps p.tables e below (s₁.setTop (mkF m 0 #[rv b1, iv 0, iv (Int32.ofNat cs.length), .unset, .unset, .unset] [])) _
      refine XS.iloadN X0.here hx rfl (hb hby own_d13_0) rfl ?_
      show Steps _ _ _ (s₁.setTop (mkF m 1 _ [.int (Int32.ofNat cs.length)])) _
      refine st58 _ ?_
      show Steps p.tables e below (T58.setTop (mkF m 3 #[rv b1, iv 0, iv (Int32.ofNat cs.length), .unset, .unset, .unset] [.ref b58])) _
      refine XS.astoreN X58.here hx rfl (hb hby own_d13_3) rfl rfl (l' := #[rv b1, iv 0, iv (Int32.ofNat cs.length), rv b58, .unset, .unset]) rfl ?_
      show Steps _ _ _ (T58.setTop (mkF m 4 _ [])) _
      refine XS.aloadN X58.here hx rfl (hb hby own_d13_4) rfl rfl ?_
      show Steps _ _ _ (T58.setTop (mkF m 5 _ [.ref b1])) _
      refine XS.iloadN X58.here hx rfl (hb hby own_d13_5) rfl ?_
      show Steps _ _ _ (T58.setTop (mkF m 6 _ [.int 0, .ref b1])) _
      refine XS.aloadN X58.here hx rfl (hb hby own_d13_6) rfl rfl ?_
      show Steps _ _ _ (T58.setTop (mkF m 7 _ [.ref b58, .int 0, .ref b1])) _
      refine XS.iconst X58.here hx rfl (hb hby own_d13_7) ?_
      show Steps _ _ _ (T58.setTop (mkF m 8 _ [.int 0, .ref b58, .int 0, .ref b1])) _
      refine XS.iloadN X58.here hx rfl (hb hby own_d13_8) rfl ?_
      show Steps _ _ _ (T58.setTop (mkF m 9 _ [.int (Int32.ofNat cs.length), .int 0, .ref b58, .int 0, .ref b1])) _
      refine st65 _ ?_
      show Steps p.tables e below (T65.setTop (mkF m 12 #[rv b1, iv 0, iv (Int32.ofNat cs.length), rv b58, .unset, .unset] [.int (Int32.ofNat i)])) _
      refine XS.istore X65.here hx rfl (hb hby own_d13_12) rfl (l' := #[rv b1, iv 0, iv (Int32.ofNat cs.length), rv b58, iv (Int32.ofNat i), .unset]) rfl ?_
      show Steps _ _ _ (T65.setTop (mkF m 14 _ [])) _
      refine XS.iload X65.here hx rfl (hb hby own_d13_14) rfl ?_
      show Steps _ _ _ (T65.setTop (mkF m 16 _ [.int (Int32.ofNat i)])) _
      refine XS.iloadN X65.here hx rfl (hb hby own_d13_16) rfl ?_
      show Steps _ _ _ (T65.setTop (mkF m 17 _ [.int (Int32.ofNat cs.length), .int (Int32.ofNat i)])) _
      refine XS.icmpNo X65.here hx rfl (hb hby own_d13_17) rfl (feq (hni : ¬ ((Int32.ofNat i) = (Int32.ofNat cs.length)))).1 ?_
      show Steps _ _ _ (T65.setTop (mkF m 20 _ [])) _
      refine XS.aloadN X65.here hx rfl (hb hby own_d13_20) rfl rfl ?_
      show Steps _ _ _ (T65.setTop (mkF m 21 _ [.ref b1])) _
      refine XS.iloadN X65.here hx rfl (hb hby own_d13_21) rfl ?_
      show Steps _ _ _ (T65.setTop (mkF m 22 _ [.int 0, .ref b1])) _
      refine XS.iloadN X65.here hx rfl (hb hby own_d13_22) rfl ?_
      show Steps _ _ _ (T65.setTop (mkF m 23 _ [.int (Int32.ofNat cs.length), .int 0, .ref b1])) _
      refine st70 _ ?_
      show Steps p.tables e below (T70.setTop (mkF m 26 #[rv b1, iv 0, iv (Int32.ofNat cs.length), rv b58, iv (Int32.ofNat i), .unset] [.ref b70])) _
      refine XS.astore X70.here hx rfl (hb hby own_d13_26) rfl rfl (l' := #[rv b1, iv 0, iv (Int32.ofNat cs.length), rv b58, iv (Int32.ofNat i), rv b70]) rfl ?_
      show Steps _ _ _ (T70.setTop (mkF m 28 _ [])) _
      refine XS.aload X70.here hx rfl (hb hby own_d13_28) rfl rfl ?_
      show Steps _ _ _ (T70.setTop (mkF m 30 _ [.ref b70])) _
      refine XS.iload X70.here hx rfl (hb hby own_d13_30) rfl ?_
      show Steps _ _ _ (T70.setTop (mkF m 32 _ [.int (Int32.ofNat i), .ref b70])) _
      refine st76 _ ?_
      show Steps p.tables e below (T76.setTop (mkF m 35 #[rv b1, iv 0, iv (Int32.ofNat cs.length), rv b58, iv (Int32.ofNat i), rv b70] [.int (cs.getD i 0)])) _
      refine XS.sipush X76.here hx rfl (hb hby own_d13_35) ?_
      show Steps _ _ _ (T76.setTop (mkF m 38 _ [.int 255, .int (cs.getD i 0)])) _
      refine XS.icmpYes X76.here hx rfl (pc0 := 38) (pc' := 54) rfl (hb hby own_d13_38) rfl (tlt (hg : (255 : Int32) < (cs.getD i 0))).2.2.1 (by decide) (by decide) ?_
      show Steps _ _ _ (T76.setTop (mkF m 54 _ [])) _
      refine XS.aload X76.here hx rfl (hb hby own_d13_54) rfl rfl ?_
      show Steps _ _ _ (T76.setTop (mkF m 56 _ [.ref b70])) _
      exact retOut X76 hx Bd.returns rfl (Or.inr (Or.inr (Or.inr (Or.inr ⟨rfl, rfl, rfl⟩)))) (hb hby own_d13_56) hr
    · show Q_uc Z b1 kc cs h0 n0 _ T76.heap _
      rw [e76]
      exact ⟨b70, kb70, rfl, N76, K75, g72, Or.inr ⟨⟨_, own_gmem cs hil, hg⟩, V70⟩⟩
theorem own_d12_0 : decode jdk_52_method_15_code 0 = .ok (.iload_n 1, 1) := by decide +kernel
theorem own_d12_1 : decode jdk_52_method_15_code 1 = .ok (.aload_n 0, 1) := by decide +kernel
theorem own_d12_2 : decode jdk_52_method_15_code 2 = .ok (.arraylength, 1) := by decide +kernel
theorem own_d12_3 : decode jdk_52_method_15_code 3 = .ok (.isub, 1) := by decide +kernel
theorem own_d12_4 : decode jdk_52_method_15_code 4 = .ok (.bipush 31, 2) := by decide +kernel
theorem own_d12_6 : decode jdk_52_method_15_code 6 = .ok (.iushr, 1) := by decide +kernel
theorem own_d12_7 : decode jdk_52_method_15_code 7 = .ok (.i2b, 1) := by decide +kernel
theorem own_d12_8 : decode jdk_52_method_15_code 8 = .ok (.ireturn, 1) := by decide +kernel
theorem own_ef_cfl (m : MethodId) (x0 : Addr) (x1 : Int32) : entryFrame m #[(.ref x0), (.int x1)] 2 = mkF m 0 #[rv x0, iv x1] [] := by first | (simp [entryFrame, mkF, argsToLocals, Value.category]; done) | rfl
def Q_cfl (Z : State) (t1 : Addr) (kb : ClassId) (vs : List Value) (cs : List Int32) (h0 : Heap) (n0 : Nat) (v : Option Value) (h : Heap) (L : List Loc) : Prop := v = some (.int (0 : Int32)) ∧ Fr n0 L ∧ h = h0
set_option maxRecDepth 65536 in
set_option maxHeartbeats 40000000 in
theorem rm_cfl (l : Launch) (Z : State) (a0 : Array Value) (hw : ∀ d ∈ tables_1, d.before a0 Z = true) (ws : List Jvm.Cond) (t1 : Addr) (kb : ClassId) (vs : List Value) (cs : List Int32) (h0 : Heap) (n0 : Nat) (Z0 : n0 ≤ h0.size) (V1 : Arv Z h0 t1 kb .byte (Int32.ofNat cs.length) vs (.int 0)) (hn0 : 0 < cs.length) (hn4 : cs.length ≤ 4)  :
    MetFree l (⟨"java/lang/StringUTF16", "coderFromArrayLen", "([BI)B"⟩ : MethodName) (head1 (Jvm.Cond.code (⟨"java/lang/StringUTF16", "coderFromArrayLen", "([BI)B"⟩ : MethodName) jdk_52_method_15_code 2 (some .byte) :: ws) ({ frames := 0, cells := 0, slots := 0, locals := 0 } : Room)) (fun a U => a = #[(.ref t1), (.int (Int32.ofNat cs.length))] ∧ Z.Warmed39 U.vm ∧ U.heap = h0) (fun _ _ _ _ _ => True) (fun _ U o U' => ∃ v L, o = .returned v ∧ Q_cfl Z t1 kb vs cs h0 n0 v U'.heap L ∧ FrameEnd U o U' L ({ frames := 0, cells := 0, slots := 0, locals := 0 } : Room).cells ({ frames := 0, cells := 0, slots := 0, locals := 0 } : Room).slots) := by
  refine MetFree.of_bodySF (plainFor_of_name own_pn_5) hisR ?_
  intro p e s m args below meth c s₁ Bd hml0 hP hK
  obtain ⟨rfl, hZ, hh⟩ := hP
  have hx := Bd.exec
  have hby := Bd.bytes
  have hml : c.maxLocals = 2 := hml0
  have hown : s.vm.findClass "java/lang/StringUTF16" = some m.cls := findClass_of_methodNamed Bd.named
  have hnm := (name_of_methodNamed Bd.named Bd.method).1
  have W := own_W hw
  have X0 : Stand p l e ({ frames := 0, cells := 0, slots := 0, locals := 0 } : Room) s m #[(.ref t1), (.int (Int32.ofNat cs.length))] below meth c s₁ [] 0 0 := Stand.of_body Bd
  have e0 : s₁.heap = h0 := by rw [← hh, Bd.state]; rfl
  have N0 := Fr.nil n0
  have pre0 : ∀ tq, Steps p.tables e below (s₁.setTop (mkF m 0 #[rv t1, iv (Int32.ofNat cs.length)] [])) tq → Steps p.tables e below (s₁.setTop (entryFrame m #[(.ref t1), (.int (Int32.ofNat cs.length))] 2)) tq := fun tq k => castTop (own_ef_cfl m t1 (Int32.ofNat cs.length)) k
  obtain ⟨cl77, Ar77, aq77, aS77, aN77, aH77, aG77⟩ := id V1
  obtain ⟨fs, hr, hrun, hended, hW, hsame⟩ := X0.leave (v := some (.int (nar .byte ((own_ushr ((Int32.ofNat cs.length) - (Int32.ofNat cs.length)) (31 : Int32)).toInt8.toInt32)))) (fun h => by rw [Bd.returns] at h; cases h)
  refine ⟨_, _, pre0 _ (?_), hrun, hended, _, _, rfl, ?_, ⟨_, rfl⟩, hW, hsame.mono (by decide) (by decide)⟩
  · show Steps p.tables e below (s₁.setTop (mkF m 0 #[rv t1, iv (Int32.ofNat cs.length)] [])) _
    refine XS.iloadN X0.here hx rfl (hb hby own_d12_0) rfl ?_
    show Steps _ _ _ (s₁.setTop (mkF m 1 _ [.int (Int32.ofNat cs.length)])) _
    refine XS.aloadN X0.here hx rfl (hb hby own_d12_1) rfl rfl ?_
    show Steps _ _ _ (s₁.setTop (mkF m 2 _ [.ref t1, .int (Int32.ofNat cs.length)])) _
    refine X0.arraylength hx (by rw [e0]; exact Ar77.1) (State.isArrayOf_alike hZ.alike Ar77.2.1) (g := (mkF m 2 #[rv t1, iv (Int32.ofNat cs.length)] [.ref t1, .int (Int32.ofNat cs.length)])) rfl rfl (hb hby own_d12_2) _ ?_
    rw [len_of aS77 aN77]
    show Steps p.tables e below (s₁.setTop (mkF m 3 #[rv t1, iv (Int32.ofNat cs.length)] [.int (Int32.ofNat cs.length), .int (Int32.ofNat cs.length)])) _
    refine XS.isub X0.here hx rfl (hb hby own_d12_3) rfl ?_
    show Steps _ _ _ (s₁.setTop (mkF m 4 _ [.int ((Int32.ofNat cs.length) - (Int32.ofNat cs.length))])) _
    refine XS.bipush X0.here hx rfl (hb hby own_d12_4) ?_
    show Steps _ _ _ (s₁.setTop (mkF m 6 _ [.int 31, .int ((Int32.ofNat cs.length) - (Int32.ofNat cs.length))])) _
    refine XS.iushr X0.here hx rfl (hb hby own_d12_6) rfl ?_
    show Steps _ _ _ (s₁.setTop (mkF m 7 _ [.int (own_ushr ((Int32.ofNat cs.length) - (Int32.ofNat cs.length)) (31 : Int32))])) _
    refine XS.i2b X0.here hx rfl (hb hby own_d12_7) rfl ?_
    show Steps _ _ _ (s₁.setTop (mkF m 8 _ [.int ((own_ushr ((Int32.ofNat cs.length) - (Int32.ofNat cs.length)) (31 : Int32)).toInt8.toInt32)])) _
    exact retN X0 hx (t := .byte) Bd.returns (by simp) (hb hby own_d12_8) hr
  · show Q_cfl Z t1 kb vs cs h0 n0 _ s₁.heap _
    rw [e0]
    exact ⟨by rw [own_cfl hn0 hn4], N0, rfl⟩
theorem own_ef_cfw (m : MethodId) (x0 : Addr) (x1 : Int32) : entryFrame m #[(.ref x0), (.int x1)] 2 = mkF m 0 #[rv x0, iv x1] [] := by first | (simp [entryFrame, mkF, argsToLocals, Value.category]; done) | rfl
def Q_cfw (Z : State) (t1 : Addr) (kb : ClassId) (vs : List Value) (cs : List Int32) (h0 : Heap) (n0 : Nat) (v : Option Value) (h : Heap) (L : List Loc) : Prop := v = some (.int (1 : Int32)) ∧ Fr n0 L ∧ h = h0
set_option maxRecDepth 65536 in
set_option maxHeartbeats 40000000 in
theorem rm_cfw (l : Launch) (Z : State) (a0 : Array Value) (hw : ∀ d ∈ tables_1, d.before a0 Z = true) (ws : List Jvm.Cond) (t1 : Addr) (kb : ClassId) (vs : List Value) (cs : List Int32) (h0 : Heap) (n0 : Nat) (Z0 : n0 ≤ h0.size) (V1 : Arv Z h0 t1 kb .byte (Int32.ofNat (2 * cs.length)) vs (.int 0)) (hn0 : 0 < cs.length) (hn4 : cs.length ≤ 4)  :
    MetFree l (⟨"java/lang/StringUTF16", "coderFromArrayLen", "([BI)B"⟩ : MethodName) (head1 (Jvm.Cond.code (⟨"java/lang/StringUTF16", "coderFromArrayLen", "([BI)B"⟩ : MethodName) jdk_52_method_15_code 2 (some .byte) :: ws) ({ frames := 0, cells := 0, slots := 0, locals := 0 } : Room)) (fun a U => a = #[(.ref t1), (.int (Int32.ofNat cs.length))] ∧ Z.Warmed39 U.vm ∧ U.heap = h0) (fun _ _ _ _ _ => True) (fun _ U o U' => ∃ v L, o = .returned v ∧ Q_cfw Z t1 kb vs cs h0 n0 v U'.heap L ∧ FrameEnd U o U' L ({ frames := 0, cells := 0, slots := 0, locals := 0 } : Room).cells ({ frames := 0, cells := 0, slots := 0, locals := 0 } : Room).slots) := by
  refine MetFree.of_bodySF (plainFor_of_name own_pn_5) hisR ?_
  intro p e s m args below meth c s₁ Bd hml0 hP hK
  obtain ⟨rfl, hZ, hh⟩ := hP
  have hx := Bd.exec
  have hby := Bd.bytes
  have hml : c.maxLocals = 2 := hml0
  have hown : s.vm.findClass "java/lang/StringUTF16" = some m.cls := findClass_of_methodNamed Bd.named
  have hnm := (name_of_methodNamed Bd.named Bd.method).1
  have W := own_W hw
  have X0 : Stand p l e ({ frames := 0, cells := 0, slots := 0, locals := 0 } : Room) s m #[(.ref t1), (.int (Int32.ofNat cs.length))] below meth c s₁ [] 0 0 := Stand.of_body Bd
  have e0 : s₁.heap = h0 := by rw [← hh, Bd.state]; rfl
  have N0 := Fr.nil n0
  have pre0 : ∀ tq, Steps p.tables e below (s₁.setTop (mkF m 0 #[rv t1, iv (Int32.ofNat cs.length)] [])) tq → Steps p.tables e below (s₁.setTop (entryFrame m #[(.ref t1), (.int (Int32.ofNat cs.length))] 2)) tq := fun tq k => castTop (own_ef_cfw m t1 (Int32.ofNat cs.length)) k
  obtain ⟨cl78, Ar78, aq78, aS78, aN78, aH78, aG78⟩ := id V1
  obtain ⟨fs, hr, hrun, hended, hW, hsame⟩ := X0.leave (v := some (.int (nar .byte ((own_ushr ((Int32.ofNat cs.length) - (Int32.ofNat (2 * cs.length))) (31 : Int32)).toInt8.toInt32)))) (fun h => by rw [Bd.returns] at h; cases h)
  refine ⟨_, _, pre0 _ (?_), hrun, hended, _, _, rfl, ?_, ⟨_, rfl⟩, hW, hsame.mono (by decide) (by decide)⟩
  · show Steps p.tables e below (s₁.setTop (mkF m 0 #[rv t1, iv (Int32.ofNat cs.length)] [])) _
    refine XS.iloadN X0.here hx rfl (hb hby own_d12_0) rfl ?_
    show Steps _ _ _ (s₁.setTop (mkF m 1 _ [.int (Int32.ofNat cs.length)])) _
    refine XS.aloadN X0.here hx rfl (hb hby own_d12_1) rfl rfl ?_
    show Steps _ _ _ (s₁.setTop (mkF m 2 _ [.ref t1, .int (Int32.ofNat cs.length)])) _
    refine X0.arraylength hx (by rw [e0]; exact Ar78.1) (State.isArrayOf_alike hZ.alike Ar78.2.1) (g := (mkF m 2 #[rv t1, iv (Int32.ofNat cs.length)] [.ref t1, .int (Int32.ofNat cs.length)])) rfl rfl (hb hby own_d12_2) _ ?_
    rw [len_of aS78 aN78]
    show Steps p.tables e below (s₁.setTop (mkF m 3 #[rv t1, iv (Int32.ofNat cs.length)] [.int (Int32.ofNat (2 * cs.length)), .int (Int32.ofNat cs.length)])) _
    refine XS.isub X0.here hx rfl (hb hby own_d12_3) rfl ?_
    show Steps _ _ _ (s₁.setTop (mkF m 4 _ [.int ((Int32.ofNat cs.length) - (Int32.ofNat (2 * cs.length)))])) _
    refine XS.bipush X0.here hx rfl (hb hby own_d12_4) ?_
    show Steps _ _ _ (s₁.setTop (mkF m 6 _ [.int 31, .int ((Int32.ofNat cs.length) - (Int32.ofNat (2 * cs.length)))])) _
    refine XS.iushr X0.here hx rfl (hb hby own_d12_6) rfl ?_
    show Steps _ _ _ (s₁.setTop (mkF m 7 _ [.int (own_ushr ((Int32.ofNat cs.length) - (Int32.ofNat (2 * cs.length))) (31 : Int32))])) _
    refine XS.i2b X0.here hx rfl (hb hby own_d12_7) rfl ?_
    show Steps _ _ _ (s₁.setTop (mkF m 8 _ [.int ((own_ushr ((Int32.ofNat cs.length) - (Int32.ofNat (2 * cs.length))) (31 : Int32)).toInt8.toInt32)])) _
    exact retN X0 hx (t := .byte) Bd.returns (by simp) (hb hby own_d12_8) hr
  · show Q_cfw Z t1 kb vs cs h0 n0 _ s₁.heap _
    rw [e0]
    exact ⟨by rw [own_cfw hn0 hn4], N0, rfl⟩
theorem own_d2_0 : decode jdk_42_method_149_code 0 = .ok (.aload_n 0, 1) := by decide +kernel
theorem own_d2_1 : decode jdk_42_method_149_code 1 = .ok (.invokespecial 1, 3) := by decide +kernel
theorem own_d2_4 : decode jdk_42_method_149_code 4 = .ok (.iload_n 3, 1) := by decide +kernel
theorem own_d2_5 : decode jdk_42_method_149_code 5 = .ok (.ifCond .ne 22, 3) := by decide +kernel
theorem own_d2_27 : decode jdk_42_method_149_code 27 = .ok (.getstatic 38, 3) := by decide +kernel
theorem own_d2_30 : decode jdk_42_method_149_code 30 = .ok (.ifCond .eq 28, 3) := by decide +kernel
theorem own_d2_33 : decode jdk_42_method_149_code 33 = .ok (.aload_n 1, 1) := by decide +kernel
theorem own_d2_34 : decode jdk_42_method_149_code 34 = .ok (.iload_n 2, 1) := by decide +kernel
theorem own_d2_35 : decode jdk_42_method_149_code 35 = .ok (.iload_n 3, 1) := by decide +kernel
theorem own_d2_36 : decode jdk_42_method_149_code 36 = .ok (.invokestatic 177, 3) := by decide +kernel
theorem own_d2_39 : decode jdk_42_method_149_code 39 = .ok (.astore 5, 2) := by decide +kernel
theorem own_d2_41 : decode jdk_42_method_149_code 41 = .ok (.aload_n 0, 1) := by decide +kernel
theorem own_d2_42 : decode jdk_42_method_149_code 42 = .ok (.aload 5, 2) := by decide +kernel
theorem own_d2_44 : decode jdk_42_method_149_code 44 = .ok (.iload_n 3, 1) := by decide +kernel
theorem own_d2_45 : decode jdk_42_method_149_code 45 = .ok (.invokestatic 47, 3) := by decide +kernel
theorem own_pd_10 : parseMethodDescriptor "([BI)B" = some ⟨[(.array .byte), .int], some .byte⟩ := by decide +kernel
theorem own_d2_48 : decode jdk_42_method_149_code 48 = .ok (.putfield 15, 3) := by decide +kernel
theorem own_d2_51 : decode jdk_42_method_149_code 51 = .ok (.aload_n 0, 1) := by decide +kernel
theorem own_d2_52 : decode jdk_42_method_149_code 52 = .ok (.aload 5, 2) := by decide +kernel
theorem own_d2_54 : decode jdk_42_method_149_code 54 = .ok (.putfield 9, 3) := by decide +kernel
theorem own_d2_57 : decode jdk_42_method_149_code 57 = .ok (.return_, 1) := by decide +kernel
theorem own_ef_sn4 (m : MethodId) (x0 : Addr) (x1 : Addr) (x2 : Int32) (x3 : Int32) : entryFrame m #[(.ref x0), (.ref x1), (.int x2), (.int x3), .null] 6 = mkF m 0 #[rv x0, rv x1, iv x2, iv x3, .val .null, .unset] [] := by first | (simp [entryFrame, mkF, argsToLocals, Value.category]; done) | rfl
def Q_sn4 (Z : State) (a1 b1 : Addr) (kc : ClassId) (G1 : Int32) (cs : List Int32) (h0 : Heap) (n0 : Nat) (v : Option Value) (h : Heap) (L : List Loc) : Prop := v = none ∧ Fr n0 L ∧ Keep h0 h [a1] ∧ Exa Z h a1 "java/lang/String" ∧ ∃ t kb, h0.size ≤ t ∧ Fld Z h a1 "java/lang/String" "value" "[B" (.ref t) ∧ (((∀ c ∈ cs, ¬ (255 : Int32) < c) ∧ Fld Z h a1 "java/lang/String" "coder" "B" (.int (0 : Int32)) ∧ Arv Z h t kb .byte (Int32.ofNat cs.length) (own_lows cs) (.int 0)) ∨ ((∃ c ∈ cs, (255 : Int32) < c) ∧ Fld Z h a1 "java/lang/String" "coder" "B" (.int (1 : Int32)) ∧ Arv Z h t kb .byte (Int32.ofNat (2 * cs.length)) (StrChars.Road.wideBytes cs) (.int 0)))
set_option maxRecDepth 65536 in
set_option maxHeartbeats 40000000 in
theorem rm_sn4 (l : Launch) (Z : State) (a0 : Array Value) (hw : ∀ d ∈ tables_1, d.before a0 Z = true) (ws : List Jvm.Cond) (a1 b1 : Addr) (kc : ClassId) (G1 : Int32) (cs : List Int32) (h0 : Heap) (n0 : Nat) (Z0 : n0 ≤ h0.size) (X00 : Old Z n0 h0) (V1 : Arv Z h0 b1 kc .char (Int32.ofNat cs.length) (cs.map Value.int) (.int 0)) (hn0 : 0 < cs.length) (hn4 : cs.length ≤ 4)  (hbs : ∀ c ∈ cs, ¬ c < 0 ∧ ¬ (65535 : Int32) < c) (E1 : Exa Z h0 a1 "java/lang/String") (g1 : n0 ≤ a1) (F1 : Fld Z h0 a1 "java/lang/String" "value" "[B" .null) (F2 : Fld Z h0 a1 "java/lang/String" "coder" "B" (.int (0 : Int32))) (hne : b1 ≠ a1) (O2 : Sta Z Z.heap "java/lang/String" "COMPACT_STRINGS" "Z" (.int G1)) (P5 : ¬ (G1 = (0 : Int32))) (OA : Sta Z Z.heap "java/lang/StringUTF16" "$assertionsDisabled" "Z" (.int (1 : Int32))) (OH : Sta Z Z.heap "java/lang/StringUTF16" "HI_BYTE_SHIFT" "I" (.int (0 : Int32))) (OL : Sta Z Z.heap "java/lang/StringUTF16" "LO_BYTE_SHIFT" "I" (.int (8 : Int32))) :
    MetFree l (⟨"java/lang/String", "<init>", "([CIILjava/lang/Void;)V"⟩ : MethodName) (head1 (Jvm.Cond.code (⟨"java/lang/String", "<init>", "([CIILjava/lang/Void;)V"⟩ : MethodName) jdk_42_method_149_code 6 none :: ws) ({ frames := 4, cells := 2, slots := 12, locals := 66 } : Room)) (fun a U => a = #[(.ref a1), (.ref b1), (.int (0 : Int32)), (.int (Int32.ofNat cs.length)), .null] ∧ Z.Warmed39 U.vm ∧ U.heap = h0) (fun _ _ _ _ _ => True) (fun _ U o U' => ∃ v L, o = .returned v ∧ Q_sn4 Z a1 b1 kc G1 cs h0 n0 v U'.heap L ∧ FrameEnd U o U' L ({ frames := 4, cells := 2, slots := 12, locals := 66 } : Room).cells ({ frames := 4, cells := 2, slots := 12, locals := 66 } : Room).slots) := by
  refine MetFree.of_bodySF (plainFor_of_name own_pn_3) hisR ?_
  intro p e s m args below meth c s₁ Bd hml0 hP hK
  obtain ⟨rfl, hZ, hh⟩ := hP
  have hx := Bd.exec
  have hby := Bd.bytes
  have hml : c.maxLocals = 6 := hml0
  have hown : s.vm.findClass "java/lang/String" = some m.cls := findClass_of_methodNamed Bd.named
  have hnm := (name_of_methodNamed Bd.named Bd.method).1
  have W := own_W hw
  have X0 : Stand p l e ({ frames := 4, cells := 2, slots := 12, locals := 66 } : Room) s m #[(.ref a1), (.ref b1), (.int (0 : Int32)), (.int (Int32.ofNat cs.length)), .null] below meth c s₁ [] 0 0 := Stand.of_body Bd
  have e0 : s₁.heap = h0 := by rw [← hh, Bd.state]; rfl
  have N0 := Fr.nil n0
  have pre0 : ∀ tq, Steps p.tables e below (s₁.setTop (mkF m 0 #[rv a1, rv b1, iv 0, iv (Int32.ofNat cs.length), .val .null, .unset] [])) tq → Steps p.tables e below (s₁.setTop (entryFrame m #[(.ref a1), (.ref b1), (.int (0 : Int32)), (.int (Int32.ofNat cs.length)), .null] 6)) tq := fun tq k => castTop (own_ef_sn4 m a1 b1 (0 : Int32) (Int32.ofNat cs.length)) k
  have K79 : Keep h0 h0 [a1] := Keep.refl h0 [a1]
  obtain ⟨T80, X80, e80, st80⟩ := initO X0 hx hZ hown (W 17 rfl) (W 18 rfl) (W 19 rfl) e0 (g := (mkF m 1 #[rv a1, rv b1, iv 0, iv (Int32.ofNat cs.length), .val .null, .unset] [.ref a1])) rfl (by rw [hml]; rfl) rfl (hb hby own_d2_1) (by decide) (W := 0) (by show 2 * 0 + _ ≤ _; exact Nat.le_of_eq rfl) (by decide)
  obtain ⟨T81, X81, e81, st81⟩ := getS2 X80 hx hZ hown (host := "") (Or.inl (W 47 rfl)) Via.refl e80 (O2.ext X00.2) (g := (mkF m 27 #[rv a1, rv b1, iv 0, iv (Int32.ofNat cs.length), .val .null, .unset] [])) rfl (hb hby own_d2_27)
  obtain ⟨_, _, ⟨T82, L82, k82, n82⟩, -, X82, ⟨Lc82, hQ82, l82, y82, z82⟩, st82⟩ := Jvm.LawKit.callS X81 hx (y := (⟨"java/lang/StringUTF16", "compress", "([CII)[B"⟩ : MethodName)) hown (mvT hZ (W 48 rfl)) (mvT hZ (W 49 rfl)) (mvT hZ (W 50 rfl)) (mvT hZ (W 51 rfl)) (by decide) (backOf (W := 0) (rm_uc l Z a0 hw [] b1 kc cs h0 n0 Z0 X00 V1 hn0 hn4 hbs OA OH OL) hZ (W 51 rfl) (W 50 rfl) (by decide) (by decide)) (g := (mkF m 36 #[rv a1, rv b1, iv 0, iv (Int32.ofNat cs.length), .val .null, .unset] [.int (Int32.ofNat cs.length), .int 0, .ref b1])) rfl (by rw [hml]; rfl) (argsL := [.ref b1, .int 0, .int (Int32.ofNat cs.length)]) (rest := []) (lenOf own_pd_8 rfl) rfl (by show 2 * 0 + _ ≤ _; exact Nat.le_of_eq rfl) (hb hby own_d2_36) (fun _ _ => ⟨rfl, e81, (by decide : 0 + 2 ≤ _), (by decide : 0 + 12 ≤ _)⟩)
  dsimp only [Pt.U, Pt.locs, Pt.cells, Pt.slots] at X82 l82 y82 z82 st82 hQ82
  subst l82 y82 z82
  obtain ⟨b82, kb82, hv82, Nq82, K82, sb82, hcase⟩ := hQ82
  subst hv82
  have N82 := Fr.app N0 Nq82
  have g83 : n0 ≤ b82 := Nat.le_trans Z0 sb82
  have g84 : h0.size ≤ b82 := Nat.le_trans K79.1 sb82
  have Z85 : n0 ≤ T82.heap.size := Nat.le_trans Z0 K82.1
  have O86 : Old Z n0 T82.heap := X00.keep K82 all0
  have K87 : Keep h0 T82.heap [a1] := K79.trans K82 all0
  have G88 : ∀ tq, Steps p.tables e below (T82.setTop (mkF m 39 #[rv a1, rv b1, iv 0, iv (Int32.ofNat cs.length), .val .null, .unset] [.ref b82])) tq → Steps p.tables e below (s₁.setTop (mkF m 0 #[rv a1, rv b1, iv 0, iv (Int32.ofNat cs.length), .val .null, .unset] [])) tq := by
    intro tq kk
    show Steps p.tables e below (s₁.setTop (mkF m 0 #[rv a1, rv b1, iv 0, iv (Int32.ofNat cs.length), .val .null, .unset] [])) _
    refine XS.aloadN X0.here hx rfl (hb hby own_d2_0) rfl rfl ?_
    show Steps _ _ _ (s₁.setTop (mkF m 1 _ [.ref a1])) _
    refine st80 _ ?_
    show Steps p.tables e below (T80.setTop (mkF m 4 #[rv a1, rv b1, iv 0, iv (Int32.ofNat cs.length), .val .null, .unset] [])) _
    refine XS.iloadN X80.here hx rfl (hb hby own_d2_4) rfl ?_
    show Steps _ _ _ (T80.setTop (mkF m 5 _ [.int (Int32.ofNat cs.length)])) _
    refine XS.ifYes X80.here hx rfl (pc0 := 5) (pc' := 27) rfl (hb hby own_d2_5) rfl ((if0 _ _).trans (feq (own_nz hn0 hn4 : ¬ ((Int32.ofNat cs.length) = (0 : Int32)))).2) (by decide) (by decide) ?_
    show Steps _ _ _ (T80.setTop (mkF m 27 _ [])) _
    refine st81 _ ?_
    show Steps p.tables e below (T81.setTop (mkF m 30 #[rv a1, rv b1, iv 0, iv (Int32.ofNat cs.length), .val .null, .unset] [.int G1])) _
    refine XS.ifNo X81.here hx rfl (hb hby own_d2_30) rfl ((if0 _ _).trans (feq (P5 : ¬ (G1 = (0 : Int32)))).1) ?_
    show Steps _ _ _ (T81.setTop (mkF m 33 _ [])) _
    refine XS.aloadN X81.here hx rfl (hb hby own_d2_33) rfl rfl ?_
    show Steps _ _ _ (T81.setTop (mkF m 34 _ [.ref b1])) _
    refine XS.iloadN X81.here hx rfl (hb hby own_d2_34) rfl ?_
    show Steps _ _ _ (T81.setTop (mkF m 35 _ [.int 0, .ref b1])) _
    refine XS.iloadN X81.here hx rfl (hb hby own_d2_35) rfl ?_
    show Steps _ _ _ (T81.setTop (mkF m 36 _ [.int (Int32.ofNat cs.length), .int 0, .ref b1])) _
    refine st82 _ ?_
    exact kk
  rcases hcase with ⟨hg, hA⟩ | ⟨hg, hA⟩
  · obtain ⟨_, _, ⟨T89, L89, k89, n89⟩, -, X89, ⟨Lc89, hQ89, l89, y89, z89⟩, st89⟩ := Jvm.LawKit.callS X82 hx (y := (⟨"java/lang/StringUTF16", "coderFromArrayLen", "([BI)B"⟩ : MethodName)) hown (mvT hZ (W 55 rfl)) (mvT hZ (W 56 rfl)) (mvT hZ (W 50 rfl)) (mvT hZ (W 57 rfl)) (by decide) (backOf (W := 1) (rm_cfl l Z a0 hw [] b82 kb82 (own_lows cs) cs T82.heap n0 Z85 hA hn0 hn4) hZ (W 57 rfl) (W 50 rfl) (by decide) (by decide)) (g := (mkF m 45 #[rv a1, rv b1, iv 0, iv (Int32.ofNat cs.length), .val .null, rv b82] [.int (Int32.ofNat cs.length), .ref b82, .ref a1])) rfl (by rw [hml]; rfl) (argsL := [.ref b82, .int (Int32.ofNat cs.length)]) (rest := [.ref a1]) (lenOf own_pd_10 rfl) rfl (by show 2 * 0 + _ ≤ _; exact Nat.le_of_eq rfl) (hb hby own_d2_45) (fun _ _ => ⟨rfl, rfl, (by decide : 2 + 0 ≤ _), (by decide : 12 + 0 ≤ _)⟩)
    dsimp only [Pt.U, Pt.locs, Pt.cells, Pt.slots] at X89 l89 y89 z89 st89 hQ89
    subst l89 y89 z89
    obtain ⟨rfl, Nq89, e89⟩ := hQ89
    have N89 := Fr.app N82 Nq89
    have f91 := (F2.keep K82 nin0)
    have f92 := (E1.keep K82)
    obtain ⟨T90, h90, X90, e90, W90, st90⟩ := putFN X89 hx hZ hown (W 27 rfl) Via.refl e89 f91 f92 (Or.inr ⟨(W 23 rfl), rfl, hnm⟩) (W 7 rfl) (ty := .byte) (v' := (.int (0 : Int32))) (by decide) rfl rfl (g := (mkF m 48 #[rv a1, rv b1, iv 0, iv (Int32.ofNat cs.length), .val .null, rv b82] [.int 0, .ref a1])) rfl rfl (hb hby own_d2_48)
    have N90 := Fr.snoc X90 N89 g1
    have Fw90 := f91.same W90
    have Z93 : n0 ≤ h90.size := Nat.le_trans Z85 (Keep.of_wr W90).1
    have O94 : Old Z n0 h90 := O86.wr W90 g1
    have K95 : Keep h0 h90 [a1] := K87.wr W90 (Or.inl (List.mem_of_getElem? (i := 0) rfl))
    have f97 := ((F1.keep K82 nin0).other W90 (Or.inr (slot_ne (Or.inr (W 22 rfl)) (Or.inr (W 23 rfl)) (by decide) (t := (.array .byte)) (t' := .byte) (by decide) (by decide))))
    have f98 := (f92.wr W90)
    obtain ⟨T96, h96, X96, e96, W96, st96⟩ := putF X90 hx hZ hown (host := "") (Or.inl (W 26 rfl)) Via.refl e90 f97 f98 (Or.inr ⟨(W 22 rfl), rfl, hnm⟩) (W 7 rfl) (ty := (.array .byte)) (by decide) rfl rfl (g := (mkF m 54 #[rv a1, rv b1, iv 0, iv (Int32.ofNat cs.length), .val .null, rv b82] [.ref b82, .ref a1])) rfl rfl (hb hby own_d2_54)
    have N96 := Fr.snoc X96 N90 g1
    have Fw96 := f97.same W96
    have Z99 : n0 ≤ h96.size := Nat.le_trans Z93 (Keep.of_wr W96).1
    have O100 : Old Z n0 h96 := O94.wr W96 g1
    have K101 : Keep h0 h96 [a1] := K95.wr W96 (Or.inl (List.mem_of_getElem? (i := 0) rfl))
    have f102 := (f98.wr W96)
    have f103 := (Fw90.other W96 (Or.inr (slot_ne (Or.inr (W 23 rfl)) (Or.inr (W 22 rfl)) (by decide) (t := .byte) (t' := (.array .byte)) (by decide) (by decide))))
    have f104 := ((hA.other W90 (Ne.symm (Nat.ne_of_lt (Nat.lt_of_lt_of_le E1.lt sb82)))).other W96 (Ne.symm (Nat.ne_of_lt (Nat.lt_of_lt_of_le E1.lt sb82))))
    obtain ⟨fs, hr, hrun, hended, hW, hsame⟩ := X96.leave (v := none) (fun _ => rfl)
    refine ⟨_, _, pre0 _ (G88 _ (?_)), hrun, hended, _, _, rfl, ?_, ⟨_, rfl⟩, hW, hsame.mono (by decide) (by decide)⟩
    · show Steps p.tables e below (T82.setTop (mkF m 39 #[rv a1, rv b1, iv 0, iv (Int32.ofNat cs.length), .val .null, .unset] [.ref b82])) _
      refine XS.astore X82.here hx rfl (hb hby own_d2_39) rfl rfl (l' := #[rv a1, rv b1, iv 0, iv (Int32.ofNat cs.length), .val .null, rv b82]) rfl ?_
      show Steps _ _ _ (T82.setTop (mkF m 41 _ [])) _
      refine XS.aloadN X82.here hx rfl (hb hby own_d2_41) rfl rfl ?_
      show Steps _ _ _ (T82.setTop (mkF m 42 _ [.ref a1])) _
      refine XS.aload X82.here hx rfl (hb hby own_d2_42) rfl rfl ?_
      show Steps _ _ _ (T82.setTop (mkF m 44 _ [.ref b82, .ref a1])) _
      refine XS.iloadN X82.here hx rfl (hb hby own_d2_44) rfl ?_
      show Steps _ _ _ (T82.setTop (mkF m 45 _ [.int (Int32.ofNat cs.length), .ref b82, .ref a1])) _
      refine st89 _ ?_
      show Steps p.tables e below (T89.setTop (mkF m 48 #[rv a1, rv b1, iv 0, iv (Int32.ofNat cs.length), .val .null, rv b82] [.int 0, .ref a1])) _
      refine st90 _ ?_
      show Steps p.tables e below (T90.setTop (mkF m 51 #[rv a1, rv b1, iv 0, iv (Int32.ofNat cs.length), .val .null, rv b82] [])) _
      refine XS.aloadN X90.here hx rfl (hb hby own_d2_51) rfl rfl ?_
      show Steps _ _ _ (T90.setTop (mkF m 52 _ [.ref a1])) _
      refine XS.aload X90.here hx rfl (hb hby own_d2_52) rfl rfl ?_
      show Steps _ _ _ (T90.setTop (mkF m 54 _ [.ref b82, .ref a1])) _
      refine st96 _ ?_
      show Steps p.tables e below (T96.setTop (mkF m 57 #[rv a1, rv b1, iv 0, iv (Int32.ofNat cs.length), .val .null, rv b82] [])) _
      exact X96.returnOut hx Bd.returns (hb hby own_d2_57) hr
    · show Q_sn4 Z a1 b1 kc G1 cs h0 n0 _ T96.heap _
      rw [e96]
      exact ⟨rfl, N96, K101, f102, b82, kb82, g84, Fw96, Or.inl ⟨hg, f103, f104⟩⟩
  · obtain ⟨_, _, ⟨T105, L105, k105, n105⟩, -, X105, ⟨Lc105, hQ105, l105, y105, z105⟩, st105⟩ := Jvm.LawKit.callS X82 hx (y := (⟨"java/lang/StringUTF16", "coderFromArrayLen", "([BI)B"⟩ : MethodName)) hown (mvT hZ (W 55 rfl)) (mvT hZ (W 56 rfl)) (mvT hZ (W 50 rfl)) (mvT hZ (W 57 rfl)) (by decide) (backOf (W := 1) (rm_cfw l Z a0 hw [] b82 kb82 (StrChars.Road.wideBytes cs) cs T82.heap n0 Z85 hA hn0 hn4) hZ (W 57 rfl) (W 50 rfl) (by decide) (by decide)) (g := (mkF m 45 #[rv a1, rv b1, iv 0, iv (Int32.ofNat cs.length), .val .null, rv b82] [.int (Int32.ofNat cs.length), .ref b82, .ref a1])) rfl (by rw [hml]; rfl) (argsL := [.ref b82, .int (Int32.ofNat cs.length)]) (rest := [.ref a1]) (lenOf own_pd_10 rfl) rfl (by show 2 * 0 + _ ≤ _; exact Nat.le_of_eq rfl) (hb hby own_d2_45) (fun _ _ => ⟨rfl, rfl, (by decide : 2 + 0 ≤ _), (by decide : 12 + 0 ≤ _)⟩)
    dsimp only [Pt.U, Pt.locs, Pt.cells, Pt.slots] at X105 l105 y105 z105 st105 hQ105
    subst l105 y105 z105
    obtain ⟨rfl, Nq105, e105⟩ := hQ105
    have N105 := Fr.app N82 Nq105
    have f107 := (F2.keep K82 nin0)
    have f108 := (E1.keep K82)
    obtain ⟨T106, h106, X106, e106, W106, st106⟩ := putFN X105 hx hZ hown (W 27 rfl) Via.refl e105 f107 f108 (Or.inr ⟨(W 23 rfl), rfl, hnm⟩) (W 7 rfl) (ty := .byte) (v' := (.int (1 : Int32))) (by decide) rfl rfl (g := (mkF m 48 #[rv a1, rv b1, iv 0, iv (Int32.ofNat cs.length), .val .null, rv b82] [.int 1, .ref a1])) rfl rfl (hb hby own_d2_48)
    have N106 := Fr.snoc X106 N105 g1
    have Fw106 := f107.same W106
    have Z109 : n0 ≤ h106.size := Nat.le_trans Z85 (Keep.of_wr W106).1
    have O110 : Old Z n0 h106 := O86.wr W106 g1
    have K111 : Keep h0 h106 [a1] := K87.wr W106 (Or.inl (List.mem_of_getElem? (i := 0) rfl))
    have f113 := ((F1.keep K82 nin0).other W106 (Or.inr (slot_ne (Or.inr (W 22 rfl)) (Or.inr (W 23 rfl)) (by decide) (t := (.array .byte)) (t' := .byte) (by decide) (by decide))))
    have f114 := (f108.wr W106)
    obtain ⟨T112, h112, X112, e112, W112, st112⟩ := putF X106 hx hZ hown (host := "") (Or.inl (W 26 rfl)) Via.refl e106 f113 f114 (Or.inr ⟨(W 22 rfl), rfl, hnm⟩) (W 7 rfl) (ty := (.array .byte)) (by decide) rfl rfl (g := (mkF m 54 #[rv a1, rv b1, iv 0, iv (Int32.ofNat cs.length), .val .null, rv b82] [.ref b82, .ref a1])) rfl rfl (hb hby own_d2_54)
    have N112 := Fr.snoc X112 N106 g1
    have Fw112 := f113.same W112
    have Z115 : n0 ≤ h112.size := Nat.le_trans Z109 (Keep.of_wr W112).1
    have O116 : Old Z n0 h112 := O110.wr W112 g1
    have K117 : Keep h0 h112 [a1] := K111.wr W112 (Or.inl (List.mem_of_getElem? (i := 0) rfl))
    have f118 := (f114.wr W112)
    have f119 := (Fw106.other W112 (Or.inr (slot_ne (Or.inr (W 23 rfl)) (Or.inr (W 22 rfl)) (by decide) (t := .byte) (t' := (.array .byte)) (by decide) (by decide))))
    have f120 := ((hA.other W106 (Ne.symm (Nat.ne_of_lt (Nat.lt_of_lt_of_le E1.lt sb82)))).other W112 (Ne.symm (Nat.ne_of_lt (Nat.lt_of_lt_of_le E1.lt sb82))))
    obtain ⟨fs, hr, hrun, hended, hW, hsame⟩ := X112.leave (v := none) (fun _ => rfl)
    refine ⟨_, _, pre0 _ (G88 _ (?_)), hrun, hended, _, _, rfl, ?_, ⟨_, rfl⟩, hW, hsame.mono (by decide) (by decide)⟩
    · show Steps p.tables e below (T82.setTop (mkF m 39 #[rv a1, rv b1, iv 0, iv (Int32.ofNat cs.length), .val .null, .unset] [.ref b82])) _
      refine XS.astore X82.here hx rfl (hb hby own_d2_39) rfl rfl (l' := #[rv a1, rv b1, iv 0, iv (Int32.ofNat cs.length), .val .null, rv b82]) rfl ?_
      show Steps _ _ _ (T82.setTop (mkF m 41 _ [])) _
      refine XS.aloadN X82.here hx rfl (hb hby own_d2_41) rfl rfl ?_
      show Steps _ _ _ (T82.setTop (mkF m 42 _ [.ref a1])) _
      refine XS.aload X82.here hx rfl (hb hby own_d2_42) rfl rfl ?_
      show Steps _ _ _ (T82.setTop (mkF m 44 _ [.ref b82, .ref a1])) _
      refine XS.iloadN X82.here hx rfl (hb hby own_d2_44) rfl ?_
      show Steps _ _ _ (T82.setTop (mkF m 45 _ [.int (Int32.ofNat cs.length), .ref b82, .ref a1])) _
      refine st105 _ ?_
      show Steps p.tables e below (T105.setTop (mkF m 48 #[rv a1, rv b1, iv 0, iv (Int32.ofNat cs.length), .val .null, rv b82] [.int 1, .ref a1])) _
      refine st106 _ ?_
      show Steps p.tables e below (T106.setTop (mkF m 51 #[rv a1, rv b1, iv 0, iv (Int32.ofNat cs.length), .val .null, rv b82] [])) _
      refine XS.aloadN X106.here hx rfl (hb hby own_d2_51) rfl rfl ?_
      show Steps _ _ _ (T106.setTop (mkF m 52 _ [.ref a1])) _
      refine XS.aload X106.here hx rfl (hb hby own_d2_52) rfl rfl ?_
      show Steps _ _ _ (T106.setTop (mkF m 54 _ [.ref b82, .ref a1])) _
      refine st112 _ ?_
      show Steps p.tables e below (T112.setTop (mkF m 57 #[rv a1, rv b1, iv 0, iv (Int32.ofNat cs.length), .val .null, rv b82] [])) _
      exact X112.returnOut hx Bd.returns (hb hby own_d2_57) hr
    · show Q_sn4 Z a1 b1 kc G1 cs h0 n0 _ T112.heap _
      rw [e112]
      exact ⟨rfl, N112, K117, f118, b82, kb82, g84, Fw112, Or.inr ⟨hg, f119, f120⟩⟩
theorem own_d6_0 : decode jdk_42_method_3_code 0 = .ok (.aload_n 0, 1) := by decide +kernel
theorem own_d6_1 : decode jdk_42_method_3_code 1 = .ok (.aload_n 1, 1) := by decide +kernel
theorem own_d6_2 : decode jdk_42_method_3_code 2 = .ok (.iconst 0, 1) := by decide +kernel
theorem own_d6_3 : decode jdk_42_method_3_code 3 = .ok (.aload_n 1, 1) := by decide +kernel
theorem own_d6_4 : decode jdk_42_method_3_code 4 = .ok (.arraylength, 1) := by decide +kernel
theorem own_d6_5 : decode jdk_42_method_3_code 5 = .ok (.aconst_null, 1) := by decide +kernel
theorem own_d6_6 : decode jdk_42_method_3_code 6 = .ok (.invokespecial 27, 3) := by decide +kernel
theorem own_pd_2 : parseMethodDescriptor "([CIILjava/lang/Void;)V" = some ⟨[(.array .char), .int, .int, (.object "java/lang/Void")], none⟩ := by decide +kernel
theorem own_d6_9 : decode jdk_42_method_3_code 9 = .ok (.return_, 1) := by decide +kernel
theorem own_ef_snew (m : MethodId) (x0 : Addr) (x1 : Addr) : entryFrame m #[(.ref x0), (.ref x1)] 2 = mkF m 0 #[rv x0, rv x1] [] := by first | (simp [entryFrame, mkF, argsToLocals, Value.category]; done) | rfl
def Q_snew (Z : State) (a1 b1 : Addr) (kc : ClassId) (G1 : Int32) (cs : List Int32) (h0 : Heap) (n0 : Nat) (v : Option Value) (h : Heap) (L : List Loc) : Prop := v = none ∧ Fr n0 L ∧ Keep h0 h [a1] ∧ StrB Z h h.size a1 cs
set_option maxRecDepth 65536 in
set_option maxHeartbeats 40000000 in
theorem rm_snew (l : Launch) (Z : State) (a0 : Array Value) (hw : ∀ d ∈ tables_1, d.before a0 Z = true) (ws : List Jvm.Cond) (a1 b1 : Addr) (kc : ClassId) (G1 : Int32) (cs : List Int32) (h0 : Heap) (n0 : Nat) (Z0 : n0 ≤ h0.size) (X00 : Old Z n0 h0) (V1 : Arv Z h0 b1 kc .char (Int32.ofNat cs.length) (cs.map Value.int) (.int 0)) (hn0 : 0 < cs.length) (hn4 : cs.length ≤ 4)  (hbs : ∀ c ∈ cs, ¬ c < 0 ∧ ¬ (65535 : Int32) < c) (E1 : Exa Z h0 a1 "java/lang/String") (g1 : n0 ≤ a1) (F1 : Fld Z h0 a1 "java/lang/String" "value" "[B" .null) (F2 : Fld Z h0 a1 "java/lang/String" "coder" "B" (.int (0 : Int32))) (hne : b1 ≠ a1) (O2 : Sta Z Z.heap "java/lang/String" "COMPACT_STRINGS" "Z" (.int G1)) (P5 : ¬ (G1 = (0 : Int32))) (OA : Sta Z Z.heap "java/lang/StringUTF16" "$assertionsDisabled" "Z" (.int (1 : Int32))) (OH : Sta Z Z.heap "java/lang/StringUTF16" "HI_BYTE_SHIFT" "I" (.int (0 : Int32))) (OL : Sta Z Z.heap "java/lang/StringUTF16" "LO_BYTE_SHIFT" "I" (.int (8 : Int32))) :
    MetFree l (⟨"java/lang/String", "<init>", "([C)V"⟩ : MethodName) (head1 (Jvm.Cond.code (⟨"java/lang/String", "<init>", "([C)V"⟩ : MethodName) jdk_42_method_3_code 2 none :: ws) ({ frames := 5, cells := 2, slots := 12, locals := 84 } : Room)) (fun a U => a = #[(.ref a1), (.ref b1)] ∧ Z.Warmed39 U.vm ∧ U.heap = h0) (fun _ _ _ _ _ => True) (fun _ U o U' => ∃ v L, o = .returned v ∧ Q_snew Z a1 b1 kc G1 cs h0 n0 v U'.heap L ∧ FrameEnd U o U' L ({ frames := 5, cells := 2, slots := 12, locals := 84 } : Room).cells ({ frames := 5, cells := 2, slots := 12, locals := 84 } : Room).slots) := by
  refine MetFree.of_bodySF (plainFor_of_name own_pn_3) hisR ?_
  intro p e s m args below meth c s₁ Bd hml0 hP hK
  obtain ⟨rfl, hZ, hh⟩ := hP
  have hx := Bd.exec
  have hby := Bd.bytes
  have hml : c.maxLocals = 2 := hml0
  have hown : s.vm.findClass "java/lang/String" = some m.cls := findClass_of_methodNamed Bd.named
  have hnm := (name_of_methodNamed Bd.named Bd.method).1
  have W := own_W hw
  have X0 : Stand p l e ({ frames := 5, cells := 2, slots := 12, locals := 84 } : Room) s m #[(.ref a1), (.ref b1)] below meth c s₁ [] 0 0 := Stand.of_body Bd
  have e0 : s₁.heap = h0 := by rw [← hh, Bd.state]; rfl
  have N0 := Fr.nil n0
  have pre0 : ∀ tq, Steps p.tables e below (s₁.setTop (mkF m 0 #[rv a1, rv b1] [])) tq → Steps p.tables e below (s₁.setTop (entryFrame m #[(.ref a1), (.ref b1)] 2)) tq := fun tq k => castTop (own_ef_snew m a1 b1) k
  have K121 : Keep h0 h0 [a1] := Keep.refl h0 [a1]
  obtain ⟨cl122, Ar122, aq122, aS122, aN122, aH122, aG122⟩ := id V1
  obtain ⟨_, _, ⟨T123, L123, k123, n123⟩, -, X123, ⟨Lc123, hQ123, l123, y123, z123⟩, st123⟩ := X0.specialBack hx (y := (⟨"java/lang/String", "<init>", "([CIILjava/lang/Void;)V"⟩ : MethodName)) rfl hown (mvT hZ (W 13 rfl)) (mvT hZ (W 14 rfl)) (mvT hZ (W 16 rfl)) (by decide) (backOf (W := 0) (rm_sn4 l Z a0 hw [] a1 b1 kc G1 cs h0 n0 Z0 X00 V1 hn0 hn4 hbs E1 g1 F1 F2 hne O2 P5 OA OH OL) hZ (W 16 rfl) (W 8 rfl) (by decide) (by decide)) (g := (mkF m 6 #[rv a1, rv b1] [.null, .int (Int32.ofNat cs.length), .int 0, .ref b1, .ref a1])) rfl (by rw [hml]; rfl) (Steps.refl _) (a := a1) (argsL := [.ref b1, .int 0, .int (Int32.ofNat cs.length), .null]) (rest := []) (lenOf own_pd_2 rfl) rfl (by show 2 * 0 + _ ≤ _; exact Nat.le_of_eq rfl) (hb hby own_d6_6) (fun _ _ => ⟨rfl, e0, (by decide : 0 + 2 ≤ _), (by decide : 0 + 12 ≤ _)⟩)
  dsimp only [Pt.U, Pt.locs, Pt.cells, Pt.slots] at X123 l123 y123 z123 st123 hQ123
  subst l123 y123 z123
  obtain ⟨rfl, Nq123, K123, gE123, t123, kb123, st_123, gV123, hcase⟩ := hQ123
  have N123 := Fr.app N0 Nq123
  have Z124 : n0 ≤ T123.heap.size := Nat.le_trans Z0 K123.1
  have O125 : Old Z n0 T123.heap := X00.keep K123 (allS g1 all0)
  have K126 : Keep h0 T123.heap [a1] := K121.trans K123 (allS (Or.inl (List.mem_of_getElem? (i := 0) rfl)) all0)
  have hS : StrB Z T123.heap T123.heap.size a1 cs := by
    rcases hcase with ⟨hg, gC, gA⟩ | ⟨hg, gC, gA⟩
    · exact ⟨gE123.lt, gE123, t123, kb123, 0, _, _, gA.lt, gV123, gC, gA, Or.inl ⟨rfl, rfl, rfl, hg⟩, hbs, (by omega)⟩
    · exact ⟨gE123.lt, gE123, t123, kb123, 1, _, _, gA.lt, gV123, gC, gA, Or.inr ⟨rfl, rfl, rfl, hg⟩, hbs, (by omega)⟩
  obtain ⟨fs, hr, hrun, hended, hW, hsame⟩ := X123.leave (v := none) (fun _ => rfl)
  refine ⟨_, _, pre0 _ (?_), hrun, hended, _, _, rfl, ?_, ⟨_, rfl⟩, hW, hsame.mono (by decide) (by decide)⟩
  · show Steps p.tables e below (s₁.setTop (mkF m 0 #[rv a1, rv b1] [])) _
    refine XS.aloadN X0.here hx rfl (hb hby own_d6_0) rfl rfl ?_
    show Steps _ _ _ (s₁.setTop (mkF m 1 _ [.ref a1])) _
    refine XS.aloadN X0.here hx rfl (hb hby own_d6_1) rfl rfl ?_
    show Steps _ _ _ (s₁.setTop (mkF m 2 _ [.ref b1, .ref a1])) _
    refine XS.iconst X0.here hx rfl (hb hby own_d6_2) ?_
    show Steps _ _ _ (s₁.setTop (mkF m 3 _ [.int 0, .ref b1, .ref a1])) _
    refine XS.aloadN X0.here hx rfl (hb hby own_d6_3) rfl rfl ?_
    show Steps _ _ _ (s₁.setTop (mkF m 4 _ [.ref b1, .int 0, .ref b1, .ref a1])) _
    refine X0.arraylength hx (by rw [e0]; exact Ar122.1) (State.isArrayOf_alike hZ.alike Ar122.2.1) (g := (mkF m 4 #[rv a1, rv b1] [.ref b1, .int 0, .ref b1, .ref a1])) rfl rfl (hb hby own_d6_4) _ ?_
    rw [len_of aS122 aN122]
    show Steps p.tables e below (s₁.setTop (mkF m 5 #[rv a1, rv b1] [.int (Int32.ofNat cs.length), .int 0, .ref b1, .ref a1])) _
    refine XS.aconstNull X0.here hx rfl (hb hby own_d6_5) ?_
    show Steps _ _ _ (s₁.setTop (mkF m 6 _ [.null, .int (Int32.ofNat cs.length), .int 0, .ref b1, .ref a1])) _
    refine st123.trans ?_
    show Steps p.tables e below (T123.setTop (mkF m 9 #[rv a1, rv b1] [])) _
    exact X123.returnOut hx Bd.returns (hb hby own_d6_9) hr
  · show Q_snew Z a1 b1 kc G1 cs h0 n0 _ T123.heap _
    exact ⟨rfl, N123, K126, hS⟩
theorem own_d4_0 : decode jdk_42_method_154_code 0 = .ok (.getstatic 38, 3) := by decide +kernel
theorem own_d4_3 : decode jdk_42_method_154_code 3 = .ok (.ifCond .eq 14, 3) := by decide +kernel
theorem own_d4_6 : decode jdk_42_method_154_code 6 = .ok (.aload_n 0, 1) := by decide +kernel
theorem own_d4_7 : decode jdk_42_method_154_code 7 = .ok (.getfield 15, 3) := by decide +kernel
theorem own_d4_10 : decode jdk_42_method_154_code 10 = .ok (.ifCond .ne 7, 3) := by decide +kernel
theorem own_d4_17 : decode jdk_42_method_154_code 17 = .ok (.iconst 0, 1) := by decide +kernel
theorem own_d4_18 : decode jdk_42_method_154_code 18 = .ok (.ireturn, 1) := by decide +kernel
theorem own_ef_il0 (m : MethodId) (x0 : Addr) : entryFrame m #[(.ref x0)] 1 = mkF m 0 #[rv x0] [] := by first | (simp [entryFrame, mkF, argsToLocals, Value.category]; done) | rfl
def Q_il0 (Z : State) (a1 : Addr) (G1 : Int32) (h0 : Heap) (n0 : Nat) (v : Option Value) (h : Heap) (L : List Loc) : Prop := v = some (.int 0) ∧ Fr n0 L ∧ h = h0
set_option maxRecDepth 65536 in
set_option maxHeartbeats 40000000 in
theorem rm_il0 (l : Launch) (Z : State) (a0 : Array Value) (hw : ∀ d ∈ tables_1, d.before a0 Z = true) (ws : List Jvm.Cond) (a1 : Addr) (G1 : Int32) (h0 : Heap) (n0 : Nat) (Z0 : n0 ≤ h0.size) (X00 : Old Z n0 h0) (F2 : Fld Z h0 a1 "java/lang/String" "coder" "B" (.int (1 : Int32))) (O2 : Sta Z Z.heap "java/lang/String" "COMPACT_STRINGS" "Z" (.int G1)) (P5 : ¬ (G1 = (0 : Int32))) :
    MetFree l (⟨"java/lang/String", "isLatin1", "()Z"⟩ : MethodName) (head1 (Jvm.Cond.code (⟨"java/lang/String", "isLatin1", "()Z"⟩ : MethodName) jdk_42_method_154_code 1 (some .boolean) :: ws) ({ frames := 0, cells := 0, slots := 0, locals := 0 } : Room)) (fun a U => a = #[(.ref a1)] ∧ Z.Warmed39 U.vm ∧ U.heap = h0) (fun _ _ _ _ _ => True) (fun _ U o U' => ∃ v L, o = .returned v ∧ Q_il0 Z a1 G1 h0 n0 v U'.heap L ∧ FrameEnd U o U' L ({ frames := 0, cells := 0, slots := 0, locals := 0 } : Room).cells ({ frames := 0, cells := 0, slots := 0, locals := 0 } : Room).slots) := by
  refine MetFree.of_bodySF (plainFor_of_name own_pn_3) hisR ?_
  intro p e s m args below meth c s₁ Bd hml0 hP hK
  obtain ⟨rfl, hZ, hh⟩ := hP
  have hx := Bd.exec
  have hby := Bd.bytes
  have hml : c.maxLocals = 1 := hml0
  have hown : s.vm.findClass "java/lang/String" = some m.cls := findClass_of_methodNamed Bd.named
  have hnm := (name_of_methodNamed Bd.named Bd.method).1
  have W := own_W hw
  have X0 : Stand p l e ({ frames := 0, cells := 0, slots := 0, locals := 0 } : Room) s m #[(.ref a1)] below meth c s₁ [] 0 0 := Stand.of_body Bd
  have e0 : s₁.heap = h0 := by rw [← hh, Bd.state]; rfl
  have N0 := Fr.nil n0
  have pre0 : ∀ tq, Steps p.tables e below (s₁.setTop (mkF m 0 #[rv a1] [])) tq → Steps p.tables e below (s₁.setTop (entryFrame m #[(.ref a1)] 1)) tq := fun tq k => castTop (own_ef_il0 m a1) k
  obtain ⟨T127, X127, e127, st127⟩ := getS2 X0 hx hZ hown (host := "") (Or.inl (W 47 rfl)) Via.refl e0 (O2.ext X00.2) (g := (mkF m 0 #[rv a1] [])) rfl (hb hby own_d4_0)
  obtain ⟨T128, X128, e128, st128⟩ := getF X127 hx hZ hown (host := "") (Or.inl (W 27 rfl)) Via.refl e127 F2 (g := (mkF m 7 #[rv a1] [.ref a1])) rfl rfl (hb hby own_d4_7)
  obtain ⟨fs, hr, hrun, hended, hW, hsame⟩ := X128.leave (v := some (.int (0 : Int32))) (fun h => by rw [Bd.returns] at h; cases h)
  refine ⟨_, _, pre0 _ (?_), hrun, hended, _, _, rfl, ?_, ⟨_, rfl⟩, hW, hsame.mono (by decide) (by decide)⟩
  · show Steps p.tables e below (s₁.setTop (mkF m 0 #[rv a1] [])) _
    refine st127 _ ?_
    show Steps p.tables e below (T127.setTop (mkF m 3 #[rv a1] [.int G1])) _
    refine XS.ifNo X127.here hx rfl (hb hby own_d4_3) rfl ((if0 _ _).trans (feq (P5 : ¬ (G1 = (0 : Int32)))).1) ?_
    show Steps _ _ _ (T127.setTop (mkF m 6 _ [])) _
    refine XS.aloadN X127.here hx rfl (hb hby own_d4_6) rfl rfl ?_
    show Steps _ _ _ (T127.setTop (mkF m 7 _ [.ref a1])) _
    refine st128 _ ?_
    show Steps p.tables e below (T128.setTop (mkF m 10 #[rv a1] [.int 1])) _
    refine XS.ifYes X128.here hx rfl (pc0 := 10) (pc' := 17) rfl (hb hby own_d4_10) rfl ((if0 _ _).trans (feq ((by decide) : ¬ ((1 : Int32) = (0 : Int32)))).2) (by decide) (by decide) ?_
    show Steps _ _ _ (T128.setTop (mkF m 17 _ [])) _
    refine XS.iconst X128.here hx rfl (hb hby own_d4_17) ?_
    show Steps _ _ _ (T128.setTop (mkF m 18 _ [.int 0])) _
    exact retN X128 hx (t := .boolean) Bd.returns (by simp) (hb hby own_d4_18) hr
  · show Q_il0 Z a1 G1 h0 n0 _ T128.heap _
    rw [e128]
    exact ⟨rfl, N0, rfl⟩
theorem own_d9_0 : decode jdk_42_method_56_code 0 = .ok (.aload_n 0, 1) := by decide +kernel
theorem own_d9_1 : decode jdk_42_method_56_code 1 = .ok (.invokevirtual 492, 3) := by decide +kernel
theorem own_pd_5 : parseMethodDescriptor "()Z" = some ⟨[], some .boolean⟩ := by decide +kernel
theorem own_d9_4 : decode jdk_42_method_56_code 4 = .ok (.ifCond .eq 12, 3) := by decide +kernel
theorem own_d9_16 : decode jdk_42_method_56_code 16 = .ok (.aload_n 0, 1) := by decide +kernel
theorem own_d9_17 : decode jdk_42_method_56_code 17 = .ok (.getfield 9, 3) := by decide +kernel
theorem own_d9_20 : decode jdk_42_method_56_code 20 = .ok (.iload_n 1, 1) := by decide +kernel
theorem own_d9_21 : decode jdk_42_method_56_code 21 = .ok (.invokestatic 498, 3) := by decide +kernel
theorem own_d9_24 : decode jdk_42_method_56_code 24 = .ok (.ireturn, 1) := by decide +kernel
theorem own_ef_sch (m : MethodId) (x0 : Addr) (x1 : Int32) : entryFrame m #[(.ref x0), (.int x1)] 2 = mkF m 0 #[rv x0, iv x1] [] := by first | (simp [entryFrame, mkF, argsToLocals, Value.category]; done) | rfl
def Q_sch (Z : State) (a1 t1 : Addr) (i1 i2 i3 : Int32) (kb : ClassId) (N2 n1 c1 G1 : Int32) (vs : List Value) (G3 : Value) (h0 : Heap) (n0 : Nat) (v : Option Value) (h : Heap) (L : List Loc) : Prop := v = some (.int c1) ∧ Fr n0 L ∧ h = h0
set_option maxRecDepth 65536 in
set_option maxHeartbeats 40000000 in
theorem rm_sch (l : Launch) (Z : State) (a0 : Array Value) (hw : ∀ d ∈ tables_1, d.before a0 Z = true) (ws : List Jvm.Cond) (a1 t1 : Addr) (i1 i2 i3 : Int32) (kb : ClassId) (N2 n1 c1 G1 : Int32) (vs : List Value) (G3 : Value) (h0 : Heap) (n0 : Nat) (Z0 : n0 ≤ h0.size) (X00 : Old Z n0 h0) (E1 : Exa Z h0 a1 "java/lang/String") (F1 : Fld Z h0 a1 "java/lang/String" "value" "[B" (.ref t1)) (F2 : Fld Z h0 a1 "java/lang/String" "coder" "B" (.int (1 : Int32))) (V1 : Arv Z h0 t1 kb .byte N2 vs (.int 0)) (hN : N2 >>> ((1 : Int32) &&& 31) = n1) (hi : ¬ i1 < 0) (hn : i1 < n1) (e2 : i1 <<< ((1 : Int32) &&& 31) = i2) (e3 : i2 + 1 = i3) (b2 : ¬ i2 < 0 ∧ i2 < N2) (b3 : ¬ i3 < 0 ∧ i3 < N2) (v2 : vs.getD i2.toNatClampNeg (.int 0) = .int (StrChars.lo8 c1)) (v3 : vs.getD i3.toNatClampNeg (.int 0) = .int (StrChars.hi8 c1)) (hc : ¬ c1 < 0 ∧ ¬ (65535 : Int32) < c1) (O2 : Sta Z Z.heap "java/lang/String" "COMPACT_STRINGS" "Z" (.int G1)) (P5 : ¬ (G1 = (0 : Int32))) (O4 : Sta Z Z.heap "jdk/internal/util/Preconditions" "SIOOBE_FORMATTER" "Ljava/util/function/BiFunction;" G3) (rG3 : G3.isRef = true) (OA : Sta Z Z.heap "java/lang/StringUTF16" "$assertionsDisabled" "Z" (.int (1 : Int32))) (OH : Sta Z Z.heap "java/lang/StringUTF16" "HI_BYTE_SHIFT" "I" (.int (0 : Int32))) (OL : Sta Z Z.heap "java/lang/StringUTF16" "LO_BYTE_SHIFT" "I" (.int (8 : Int32))) :
    MetFree l (⟨"java/lang/String", "charAt", "(I)C"⟩ : MethodName) (head1 (Jvm.Cond.code (⟨"java/lang/String", "charAt", "(I)C"⟩ : MethodName) jdk_42_method_56_code 2 (some .char) :: ws) ({ frames := 4, cells := 0, slots := 0, locals := 73 } : Room)) (fun a U => a = #[(.ref a1), (.int i1)] ∧ Z.Warmed39 U.vm ∧ U.heap = h0) (fun _ _ _ _ _ => True) (fun _ U o U' => ∃ v L, o = .returned v ∧ Q_sch Z a1 t1 i1 i2 i3 kb N2 n1 c1 G1 vs G3 h0 n0 v U'.heap L ∧ FrameEnd U o U' L ({ frames := 4, cells := 0, slots := 0, locals := 73 } : Room).cells ({ frames := 4, cells := 0, slots := 0, locals := 73 } : Room).slots) := by
  refine MetFree.of_bodySF (plainFor_of_name own_pn_3) hisR ?_
  intro p e s m args below meth c s₁ Bd hml0 hP hK
  obtain ⟨rfl, hZ, hh⟩ := hP
  have hx := Bd.exec
  have hby := Bd.bytes
  have hml : c.maxLocals = 2 := hml0
  have hown : s.vm.findClass "java/lang/String" = some m.cls := findClass_of_methodNamed Bd.named
  have hnm := (name_of_methodNamed Bd.named Bd.method).1
  have W := own_W hw
  have X0 : Stand p l e ({ frames := 4, cells := 0, slots := 0, locals := 73 } : Room) s m #[(.ref a1), (.int i1)] below meth c s₁ [] 0 0 := Stand.of_body Bd
  have e0 : s₁.heap = h0 := by rw [← hh, Bd.state]; rfl
  have N0 := Fr.nil n0
  have pre0 : ∀ tq, Steps p.tables e below (s₁.setTop (mkF m 0 #[rv a1, iv i1] [])) tq → Steps p.tables e below (s₁.setTop (entryFrame m #[(.ref a1), (.int i1)] 2)) tq := fun tq k => castTop (own_ef_sch m a1 i1) k
  obtain ⟨cq129, kq129, q129a, q129b, q129c⟩ := isOf hZ e0 E1
  obtain ⟨_, _, ⟨T129, L129, k129, n129⟩, -, X129, ⟨Lc129, hQ129, l129, y129, z129⟩, st129⟩ := X0.virtualBack hx (y := (⟨"java/lang/String", "isLatin1", "()Z"⟩ : MethodName)) (z := (⟨"java/lang/String", "isLatin1", "()Z"⟩ : MethodName)) hown (mvT hZ (W 66 rfl)) (mvT hZ (W 67 rfl)) (notFace_of_selects (args := #[]) (mvT hZ (W 69 rfl))) (mvT hZ (W 69 rfl)) (mvT hZ (W 68 rfl)) (by decide) (backOf (W := 0) (rm_il0 l Z a0 hw [] a1 G1 h0 n0 Z0 X00 F2 O2 P5) hZ (W 70 rfl) (W 8 rfl) (by decide) (by decide)) q129a q129c (g := (mkF m 1 #[rv a1, iv i1] [.ref a1])) rfl (by rw [hml]; rfl) (Steps.refl _) (argsL := []) (rest := []) (lenOf own_pd_5 rfl) rfl (by show 2 * 0 + _ ≤ _; exact Nat.le_of_eq rfl) (hb hby own_d9_1) (fun _ _ => ⟨rfl, e0, (by decide : 0 + 0 ≤ _), (by decide : 0 + 0 ≤ _)⟩)
  dsimp only [Pt.U, Pt.locs, Pt.cells, Pt.slots] at X129 l129 y129 z129 st129 hQ129
  subst l129 y129 z129
  obtain ⟨rfl, Nq129, e129⟩ := hQ129
  have N129 := Fr.app N0 Nq129
  obtain ⟨T130, X130, e130, st130⟩ := getF X129 hx hZ hown (host := "") (Or.inl (W 26 rfl)) Via.refl e129 F1 (g := (mkF m 17 #[rv a1, iv i1] [.ref a1])) rfl rfl (hb hby own_d9_17)
  obtain ⟨_, _, ⟨T131, L131, k131, n131⟩, -, X131, ⟨Lc131, hQ131, l131, y131, z131⟩, st131⟩ := Jvm.LawKit.callS X130 hx (y := (⟨"java/lang/StringUTF16", "charAt", "([BI)C"⟩ : MethodName)) hown (mvT hZ (W 105 rfl)) (mvT hZ (W 106 rfl)) (mvT hZ (W 50 rfl)) (mvT hZ (W 107 rfl)) (by decide) (backOf (W := 0) (rm_uch l Z a0 hw [] t1 i1 i2 i3 kb N2 n1 c1 vs G3 h0 n0 Z0 X00 V1 hN hi hn e2 e3 b2 b3 v2 v3 hc O4 rG3 OA OH OL) hZ (W 107 rfl) (W 50 rfl) (by decide) (by decide)) (g := (mkF m 21 #[rv a1, iv i1] [.int i1, .ref t1])) rfl (by rw [hml]; rfl) (argsL := [.ref t1, .int i1]) (rest := []) (lenOf own_pd_12 rfl) rfl (by show 2 * 0 + _ ≤ _; exact Nat.le_of_eq rfl) (hb hby own_d9_21) (fun _ _ => ⟨rfl, e130, (by decide : 0 + 0 ≤ _), (by decide : 0 + 0 ≤ _)⟩)
  dsimp only [Pt.U, Pt.locs, Pt.cells, Pt.slots] at X131 l131 y131 z131 st131 hQ131
  subst l131 y131 z131
  obtain ⟨rfl, Nq131, e131⟩ := hQ131
  have N131 := Fr.app N129 Nq131
  obtain ⟨fs, hr, hrun, hended, hW, hsame⟩ := X131.leave (v := some (.int (nar .char c1))) (fun h => by rw [Bd.returns] at h; cases h)
  refine ⟨_, _, pre0 _ (?_), hrun, hended, _, _, rfl, ?_, ⟨_, rfl⟩, hW, hsame.mono (by decide) (by decide)⟩
  · show Steps p.tables e below (s₁.setTop (mkF m 0 #[rv a1, iv i1] [])) _
    refine XS.aloadN X0.here hx rfl (hb hby own_d9_0) rfl rfl ?_
    show Steps _ _ _ (s₁.setTop (mkF m 1 _ [.ref a1])) _
    refine st129.trans ?_
    show Steps p.tables e below (T129.setTop (mkF m 4 #[rv a1, iv i1] [.int 0])) _
    refine XS.ifYes X129.here hx rfl (pc0 := 4) (pc' := 16) rfl (hb hby own_d9_4) rfl ((if0 _ _).trans (teq (rfl : (0 : Int32) = (0 : Int32))).1) (by decide) (by decide) ?_
    show Steps _ _ _ (T129.setTop (mkF m 16 _ [])) _
    refine XS.aloadN X129.here hx rfl (hb hby own_d9_16) rfl rfl ?_
    show Steps _ _ _ (T129.setTop (mkF m 17 _ [.ref a1])) _
    refine st130 _ ?_
    show Steps p.tables e below (T130.setTop (mkF m 20 #[rv a1, iv i1] [.ref t1])) _
    refine XS.iloadN X130.here hx rfl (hb hby own_d9_20) rfl ?_
    show Steps _ _ _ (T130.setTop (mkF m 21 _ [.int i1, .ref t1])) _
    refine st131 _ ?_
    show Steps p.tables e below (T131.setTop (mkF m 24 #[rv a1, iv i1] [.int c1])) _
    exact retN X131 hx (t := .char) Bd.returns (by simp) (hb hby own_d9_24) hr
  · show Q_sch Z a1 t1 i1 i2 i3 kb N2 n1 c1 G1 vs G3 h0 n0 _ T131.heap _
    rw [e131]
    exact ⟨by rw [own_narc c1 hc.1 hc.2], N131, rfl⟩
set_option maxRecDepth 65536 in
theorem own_chS {p : Program} {l : Launch} {e : Env} {R : Room} {s : State} {args : Array Value} {below : List Frame} {len W : Nat} {Z : State} {a0 : Array Value} {h : Heap} (hZ : Z.Warmed39 s.vm) (hw : ∀ d ∈ tables_1, d.before a0 Z = true)
    {x : Addr} {k i n0 : Nat} {j : Int32} {cs : List Int32} (Z0 : n0 ≤ h.size) (X00 : Old Z n0 h) (F : StrB Z h k x cs) (hi : i < cs.length) (hj : j = Int32.ofNat i) {G1 : Int32} {G3 : Value} (O2 : Sta Z Z.heap "java/lang/String" "COMPACT_STRINGS" "Z" (.int G1)) (P5 : ¬ (G1 = (0 : Int32))) (O4 : Sta Z Z.heap "jdk/internal/util/Preconditions" "SIOOBE_FORMATTER" "Ljava/util/function/BiFunction;" G3) (rG3 : G3.isRef = true) (OA : Sta Z Z.heap "java/lang/StringUTF16" "$assertionsDisabled" "Z" (.int (1 : Int32))) (OH : Sta Z Z.heap "java/lang/StringUTF16" "HI_BYTE_SHIFT" "I" (.int (0 : Int32))) (OL : Sta Z Z.heap "java/lang/StringUTF16" "LO_BYTE_SHIFT" "I" (.int (8 : Int32))) (hfr : 5 ≤ R.frames) (hlo : W + (2 + 11) + 73 ≤ R.locals) :
    Back l R p e below s args (⟨"java/lang/String", "charAt", "(I)C"⟩ : MethodName) len W (fun P a => a = #[.ref x, .int j] ∧ P.U.heap = h ∧ P.cells + 0 ≤ R.cells ∧ P.slots + 0 ≤ R.slots)
      (fun P _ v B => ∃ L, (v = some (.int (cs.getD i 0)) ∧ Fr n0 L ∧ B.U.heap = h) ∧ B.locs = P.locs ++ L ∧ B.cells = P.cells + 0 ∧ B.slots = P.slots + 0) := by
  obtain ⟨_, E1, t, kb, cd, N2, vs, _, V1, C1, K1, hc, hb, hl⟩ := F
  have hcb : ¬ cs.getD i 0 < 0 ∧ ¬ (65535 : Int32) < cs.getD i 0 := by
    have e : cs.getD i 0 = cs[i] := by simp [List.getD_eq_getElem?_getD, hi]
    rw [e]; exact hb _ (List.getElem_mem hi)
  have hc' := hc
  rcases hc with ⟨rfl, hN, hv, hle⟩ | ⟨rfl, rfl, rfl, hgt⟩
  · have hch : ∀ d ∈ StrChars.Road.wordsChN, d.before a0 Z = true := fun d hd => hw d ((by decide +kernel : ∀ d ∈ StrChars.Road.wordsChN, d ∈ tables_1) d hd)
    refine Back.mono (StrChars.Road.chN (W := W) hZ hch (kI := 4) (own_W hw 7 rfl) E1 V1 C1 K1 hc' hb (O2.ext X00.2) P5 (O4.ext X00.2) rG3 hl hi hj (by omega) (by omega)) (fun P a hp => hp) (fun P a v B hp hq => ?_)
    obtain ⟨L, ⟨q1, q2, q3⟩, q4⟩ := hq
    exact ⟨L, ⟨q1, by rw [q2]; exact Fr.nil n0, q3⟩, q4⟩
  · subst hj
    refine backOf (W := W) (rm_sch l Z a0 hw [] x t (Int32.ofNat i) (Int32.ofNat (2 * i)) (Int32.ofNat (2 * i + 1)) kb (Int32.ofNat (2 * cs.length)) (Int32.ofNat cs.length) (cs.getD i 0) G1 (StrChars.Road.wideBytes cs) G3 h n0 Z0 X00 E1 V1 C1 K1 (StrChars.shr1 (by omega)) (own_nn (by omega)) ((own_ltI (by omega) (by omega)).mpr hi) (own_ofNat2 (by omega)) (own_one _) ⟨own_nn (by omega), (own_ltI (by omega) (by omega)).mpr (by omega)⟩ ⟨own_nn (by omega), (own_ltI (by omega) (by omega)).mpr (by omega)⟩ (by rw [own_n32 (by omega)]; exact StrChars.Road.wide_lo _ cs i hi) (by rw [own_n32 (by omega)]; exact StrChars.Road.wide_hi _ cs i hi) hcb O2 P5 O4 rG3 OA OH OL) hZ (own_W hw 65 rfl) (own_W hw 8 rfl) hfr hlo
theorem own_d2_8 : decode jdk_42_method_149_code 8 = .ok (.aload_n 0, 1) := by decide +kernel
theorem own_d2_9 : decode jdk_42_method_149_code 9 = .ok (.ldc 7, 2) := by decide +kernel
theorem own_d2_11 : decode jdk_42_method_149_code 11 = .ok (.getfield 9, 3) := by decide +kernel
theorem own_d2_14 : decode jdk_42_method_149_code 14 = .ok (.putfield 9, 3) := by decide +kernel
theorem own_d2_17 : decode jdk_42_method_149_code 17 = .ok (.aload_n 0, 1) := by decide +kernel
theorem own_d2_18 : decode jdk_42_method_149_code 18 = .ok (.ldc 7, 2) := by decide +kernel
theorem own_d2_20 : decode jdk_42_method_149_code 20 = .ok (.getfield 15, 3) := by decide +kernel
theorem own_d2_23 : decode jdk_42_method_149_code 23 = .ok (.putfield 15, 3) := by decide +kernel
theorem own_d2_26 : decode jdk_42_method_149_code 26 = .ok (.return_, 1) := by decide +kernel
theorem own_ef_sn4_0 (m : MethodId) (x0 : Addr) (x1 : Addr) (x2 : Int32) (x3 : Int32) : entryFrame m #[(.ref x0), (.ref x1), (.int x2), (.int x3), .null] 6 = mkF m 0 #[rv x0, rv x1, iv x2, iv x3, .val .null, .unset] [] := by first | (simp [entryFrame, mkF, argsToLocals, Value.category]; done) | rfl
def Q_sn4_0 (Z : State) (a1 b1 : Addr) (h0 : Heap) (n0 : Nat) (v : Option Value) (h : Heap) (L : List Loc) : Prop := v = none ∧ Fr n0 L ∧ Keep h0 h [a1] ∧ StrB Z h h.size a1 []
set_option maxRecDepth 65536 in
set_option maxHeartbeats 40000000 in
theorem rm_sn4_0 (l : Launch) (Z : State) (a0 : Array Value) (hw : ∀ d ∈ tables_1, d.before a0 Z = true) (ws : List Jvm.Cond) (a1 b1 : Addr) (h0 : Heap) (n0 : Nat) (Z0 : n0 ≤ h0.size) (E1 : Exa Z h0 a1 "java/lang/String") (g1 : n0 ≤ a1) (F1 : Fld Z h0 a1 "java/lang/String" "value" "[B" .null) (F2 : Fld Z h0 a1 "java/lang/String" "coder" "B" (.int (0 : Int32))) :
    MetFree l (⟨"java/lang/String", "<init>", "([CIILjava/lang/Void;)V"⟩ : MethodName) (head1 (Jvm.Cond.code (⟨"java/lang/String", "<init>", "([CIILjava/lang/Void;)V"⟩ : MethodName) jdk_42_method_149_code 6 none :: ws) ({ frames := 1, cells := 4, slots := 8, locals := 12 } : Room)) (fun a U => a = #[(.ref a1), (.ref b1), (.int (0 : Int32)), (.int (0 : Int32)), .null] ∧ Z.Warmed39 U.vm ∧ U.heap = h0 ∧ own_J Z own_EL [a1] h0 U.vm) (fun _ _ _ _ _ => True) (fun _ U o U' => ∃ v L, o = .returned v ∧ Q_sn4_0 Z a1 b1 h0 n0 v U'.heap L ∧ CHr Z own_EL U.vm U.heap U'.vm U'.heap ∧ ReturnedEndW U o U' L ({ frames := 1, cells := 4, slots := 8, locals := 12 } : Room).cells ({ frames := 1, cells := 4, slots := 8, locals := 12 } : Room).slots) := by
  refine MetFree.of_bodySF (plainFor_of_name own_pn_3) hisR ?_
  intro p e s m args below meth c s₁ Bd hml0 hP hK
  obtain ⟨rfl, hZ, hh, hJ⟩ := hP
  have hx := Bd.exec
  have hby := Bd.bytes
  have hml : c.maxLocals = 6 := hml0
  have hown : s.vm.findClass "java/lang/String" = some m.cls := findClass_of_methodNamed Bd.named
  have hnm := (name_of_methodNamed Bd.named Bd.method).1
  have W := own_W hw
  have X0 : Stand p l e ({ frames := 1, cells := 4, slots := 8, locals := 12 } : Room) s m #[(.ref a1), (.ref b1), (.int (0 : Int32)), (.int (0 : Int32)), .null] below meth c s₁ [] 0 0 := Stand.of_body Bd
  have e0 : s₁.heap = h0 := by rw [← hh, Bd.state]; rfl
  have N0 := Fr.nil n0
  have pre0 : ∀ tq, Steps p.tables e below (s₁.setTop (mkF m 0 #[rv a1, rv b1, iv 0, iv 0, .val .null, .unset] [])) tq → Steps p.tables e below (s₁.setTop (entryFrame m #[(.ref a1), (.ref b1), (.int (0 : Int32)), (.int (0 : Int32)), .null] 6)) tq := fun tq k => castTop (own_ef_sn4_0 m a1 b1 (0 : Int32) (0 : Int32)) k
  have hEL := own_EW hw
  have wS : ∀ d ∈ Bundle.stringAtoms, d.before a0 Z = true := fun d hd => hw d ((by decide +kernel : ∀ d ∈ Bundle.stringAtoms, d ∈ tables_1) d hd)
  have hS0 : s.Since s.vm 0 := (State.WarmedH.refl s).since 0
  have hk0 : 0 ≤ h0.size := Nat.zero_le _
  have CH0 : CHv Z own_EL s.vm h0 := hJ.1
  have CR0 : CHr Z own_EL s.vm h0 s.vm h0 := CHr.refl CH0
  have X0 : Stand p l e ({ frames := 1, cells := 4, slots := 8, locals := 12 } : Room) (s.setVm s.vm) m #[(.ref a1), (.ref b1), (.int (0 : Int32)), (.int (0 : Int32)), .null] below meth c s₁ [] 0 0 := X0
  have sf_a1 : Safe Z own_EL s.vm h0 a1 := hJ.2 a1 (by simp)
  have K132 : Keep h0 h0 [a1] := Keep.refl h0 [a1]
  obtain ⟨T133, X133, e133, st133⟩ := initO X0 hx hZ hown (W 17 rfl) (W 18 rfl) (W 19 rfl) e0 (g := (mkF m 1 #[rv a1, rv b1, iv 0, iv 0, .val .null, .unset] [.ref a1])) rfl (by rw [hml]; rfl) rfl (hb hby own_d2_1) (by decide) (W := 0) (by show 2 * 0 + _ ≤ _; exact Nat.le_of_eq rfl) (by decide)
  obtain ⟨la134, T134, h134, kx134, lb134, lk134, X134, e134, E134, hS134, hk134, hZ134, hown134, lE134, lC134, lV134, lA134, l1134, l2134, A134, lL134, lsf134, st134⟩ := ldcCH (s := s) X133 hx hZ hown (W 20 rfl) wS e133 hS0 hk0 hEL (by simp) CH0 (vs := []) (z := (0 : Int32)) ⟨by decide, by rfl⟩ (by decide) rfl (g := (mkF m 9 #[rv a1, rv b1, iv 0, iv 0, .val .null, .unset] [.ref a1])) rfl (hb hby own_d2_9) (n := 0) (by decide) (by decide) (by decide) (by decide)
  have CR135 := CR0.trans A134
  have Z136 : n0 ≤ h134.size := Nat.le_trans Z0 E134.1
  have K137 : Keep h0 h134 [a1] := K132.ext E134
  have f138 := (A134.safe E1.lt sf_a1)
  have hna134 := lsf134 a1 f138
  obtain ⟨T139, X139, e139, st139⟩ := getF X134 hx hZ134 hown134 (host := "") (Or.inl (W 26 rfl)) Via.refl e134 lV134 (g := (mkF m 11 #[rv a1, rv b1, iv 0, iv 0, .val .null, .unset] [.ref la134, .ref a1])) rfl rfl (hb hby own_d2_11)
  have f141 := (F1.ext E134)
  have f142 := (E1.ext E134)
  obtain ⟨T140, h140, X140, e140, W140, st140⟩ := putF X139 hx hZ134 hown134 (host := "") (Or.inl (W 26 rfl)) Via.refl e139 f141 f142 (Or.inr ⟨(W 22 rfl), rfl, hnm⟩) (W 7 rfl) (ty := (.array .byte)) (by decide) rfl rfl (g := (mkF m 14 #[rv a1, rv b1, iv 0, iv 0, .val .null, .unset] [.ref lb134, .ref a1])) rfl rfl (hb hby own_d2_14)
  have N140 := Fr.snoc X140 N0 g1
  have Fw140 := f141.same W140
  have CR143 := CR135.trans (CHr.wr W140 f138 CR135.1)
  have Z144 : n0 ≤ h140.size := Nat.le_trans Z136 (Keep.of_wr W140).1
  have K145 : Keep h0 h140 [a1] := K137.wr W140 (Or.inl (List.mem_of_getElem? (i := 0) rfl))
  have hk146 := Nat.le_trans hk134 (Keep.of_wr W140).1
  obtain ⟨la147, T147, h147, kx147, lb147, lk147, X147, e147, E147, hS147, hk147, hZ147, hown147, lE147, lC147, lV147, lA147, l1147, l2147, A147, lL147, lsf147, st147⟩ := ldcCH (s := s) X140 hx hZ134 hown134 (W 20 rfl) wS e140 hS134 hk146 hEL (by simp) CR143.1 (vs := []) (z := (0 : Int32)) ⟨by decide, by rfl⟩ (by decide) rfl (g := (mkF m 18 #[rv a1, rv b1, iv 0, iv 0, .val .null, .unset] [.ref a1])) rfl (hb hby own_d2_18) (n := 0) (by decide) (by decide) (by decide) (by decide)
  have CR148 := CR143.trans A147
  have Z149 : n0 ≤ h147.size := Nat.le_trans Z144 E147.1
  have K150 : Keep h0 h147 [a1] := K145.ext E147
  have f151 := (Nat.lt_of_lt_of_le E1.lt E134.1)
  have f152 := (Nat.lt_of_lt_of_le f151 (Keep.of_wr W140).1)
  have f153 := (A147.safe f152 ((CHr.wr W140 f138 CR135.1).safe f151 f138))
  have hna147 := lsf147 a1 f153
  obtain ⟨T154, X154, e154, st154⟩ := getF X147 hx hZ147 hown147 (host := "") (Or.inl (W 27 rfl)) Via.refl e147 lC147 (g := (mkF m 20 #[rv a1, rv b1, iv 0, iv 0, .val .null, .unset] [.ref la147, .ref a1])) rfl rfl (hb hby own_d2_20)
  have f156 := (((F2.ext E134).other W140 (Or.inr (slot_ne (Or.inr (W 23 rfl)) (Or.inr (W 22 rfl)) (by decide) (t := .byte) (t' := (.array .byte)) (by decide) (by decide)))).ext E147)
  have f157 := ((f142.wr W140).ext E147)
  obtain ⟨T155, h155, X155, e155, W155, st155⟩ := putFN X154 hx hZ147 hown147 (W 27 rfl) Via.refl e154 f156 f157 (Or.inr ⟨(W 23 rfl), rfl, hnm⟩) (W 7 rfl) (ty := .byte) (v' := (.int (0 : Int32))) (by decide) rfl rfl (g := (mkF m 23 #[rv a1, rv b1, iv 0, iv 0, .val .null, .unset] [.int 0, .ref a1])) rfl rfl (hb hby own_d2_23)
  have N155 := Fr.snoc X155 N140 g1
  have Fw155 := f156.same W155
  have CR158 := CR148.trans (CHr.wr W155 f153 CR148.1)
  have Z159 : n0 ≤ h155.size := Nat.le_trans Z149 (Keep.of_wr W155).1
  have K160 : Keep h0 h155 [a1] := K150.wr W155 (Or.inl (List.mem_of_getElem? (i := 0) rfl))
  have hk161 := Nat.le_trans hk147 (Keep.of_wr W155).1
  have f162 := (f157.wr W155)
  have f163 := (((lA134.other W140 (Ne.symm hna134.2)).ext E147).other W155 (Ne.symm hna134.2))
  have f164 := ((Fw140.ext E147).other W155 (Or.inr (slot_ne (Or.inr (W 22 rfl)) (Or.inr (W 23 rfl)) (by decide) (t := (.array .byte)) (t' := .byte) (by decide) (by decide))))
  have hS : StrB Z h155 h155.size a1 [] := ⟨f162.lt, f162, lb134, lk134, 0, 0, [], f163.lt, f164, Fw155, f163, Or.inl ⟨rfl, rfl, rfl, fun c hc => by cases hc⟩, (fun c hc => by cases hc), (by decide)⟩
  have CRe := CR158.trans (CHv.at X155 hZ147 hEL CR158.1)
  obtain ⟨fs, hr, hrun, hended, hRW⟩ := X155.leaveW hS147 (by rw [e155]; exact hk161) (v := none) (fun _ => rfl)
  refine ⟨_, _, pre0 _ (?_), hrun, hended, _, _, rfl, ?_, (by rw [hh]; show CHr Z _ s.vm h0 T155.vm T155.heap; rw [e155]; exact CRe), hRW.1, hRW.2.1, hRW.2.2.1, hRW.2.2.2.mono (by decide) (by decide)⟩
  · show Steps p.tables e below (s₁.setTop (mkF m 0 #[rv a1, rv b1, iv 0, iv 0, .val .null, .unset] [])) _
    refine XS.aloadN X0.here hx rfl (hb hby own_d2_0) rfl rfl ?_
    show Steps _ _ _ (s₁.setTop (mkF m 1 _ [.ref a1])) _
    refine st133 _ ?_
    show Steps p.tables e below (T133.setTop (mkF m 4 #[rv a1, rv b1, iv 0, iv 0, .val .null, .unset] [])) _
    refine XS.iloadN X133.here hx rfl (hb hby own_d2_4) rfl ?_
    show Steps _ _ _ (T133.setTop (mkF m 5 _ [.int 0])) _
    refine XS.ifNo X133.here hx rfl (hb hby own_d2_5) rfl ((if0 _ _).trans (teq (rfl : (0 : Int32) = (0 : Int32))).2) ?_
    show Steps _ _ _ (T133.setTop (mkF m 8 _ [])) _
    refine XS.aloadN X133.here hx rfl (hb hby own_d2_8) rfl rfl ?_
    show Steps _ _ _ (T133.setTop (mkF m 9 _ [.ref a1])) _
    refine st134 _ ?_
    show Steps p.tables e below (T134.setTop (mkF m 11 #[rv a1, rv b1, iv 0, iv 0, .val .null, .unset] [.ref la134, .ref a1])) _
    refine st139 _ ?_
    show Steps p.tables e below (T139.setTop (mkF m 14 #[rv a1, rv b1, iv 0, iv 0, .val .null, .unset] [.ref lb134, .ref a1])) _
    refine st140 _ ?_
    show Steps p.tables e below (T140.setTop (mkF m 17 #[rv a1, rv b1, iv 0, iv 0, .val .null, .unset] [])) _
    refine XS.aloadN X140.here hx rfl (hb hby own_d2_17) rfl rfl ?_
    show Steps _ _ _ (T140.setTop (mkF m 18 _ [.ref a1])) _
    refine st147 _ ?_
    show Steps p.tables e below (T147.setTop (mkF m 20 #[rv a1, rv b1, iv 0, iv 0, .val .null, .unset] [.ref la147, .ref a1])) _
    refine st154 _ ?_
    show Steps p.tables e below (T154.setTop (mkF m 23 #[rv a1, rv b1, iv 0, iv 0, .val .null, .unset] [.int 0, .ref a1])) _
    refine st155 _ ?_
    show Steps p.tables e below (T155.setTop (mkF m 26 #[rv a1, rv b1, iv 0, iv 0, .val .null, .unset] [])) _
    exact X155.returnOut hx Bd.returns (hb hby own_d2_26) hr
  · show Q_sn4_0 Z a1 b1 h0 n0 _ T155.heap _
    rw [e155]
    exact ⟨rfl, N155, K160, hS⟩
theorem own_ef_snew0 (m : MethodId) (x0 : Addr) (x1 : Addr) : entryFrame m #[(.ref x0), (.ref x1)] 2 = mkF m 0 #[rv x0, rv x1] [] := by first | (simp [entryFrame, mkF, argsToLocals, Value.category]; done) | rfl
def Q_snew0 (Z : State) (a1 b1 : Addr) (kc : ClassId) (h0 : Heap) (n0 : Nat) (v : Option Value) (h : Heap) (L : List Loc) : Prop := v = none ∧ Fr n0 L ∧ Keep h0 h [a1] ∧ StrB Z h h.size a1 []
set_option maxRecDepth 65536 in
set_option maxHeartbeats 40000000 in
theorem rm_snew0 (l : Launch) (Z : State) (a0 : Array Value) (hw : ∀ d ∈ tables_1, d.before a0 Z = true) (ws : List Jvm.Cond) (a1 b1 : Addr) (kc : ClassId) (h0 : Heap) (n0 : Nat) (Z0 : n0 ≤ h0.size) (V1 : Arv Z h0 b1 kc .char (0 : Int32) [] (.int 0)) (E1 : Exa Z h0 a1 "java/lang/String") (g1 : n0 ≤ a1) (F1 : Fld Z h0 a1 "java/lang/String" "value" "[B" .null) (F2 : Fld Z h0 a1 "java/lang/String" "coder" "B" (.int (0 : Int32))) :
    MetFree l (⟨"java/lang/String", "<init>", "([C)V"⟩ : MethodName) (head1 (Jvm.Cond.code (⟨"java/lang/String", "<init>", "([C)V"⟩ : MethodName) jdk_42_method_3_code 2 none :: ws) ({ frames := 2, cells := 4, slots := 8, locals := 32 } : Room)) (fun a U => a = #[(.ref a1), (.ref b1)] ∧ Z.Warmed39 U.vm ∧ U.heap = h0 ∧ own_J Z own_EL [a1] h0 U.vm) (fun _ _ _ _ _ => True) (fun _ U o U' => ∃ v L, o = .returned v ∧ Q_snew0 Z a1 b1 kc h0 n0 v U'.heap L ∧ CHr Z own_EL U.vm U.heap U'.vm U'.heap ∧ ReturnedEndW U o U' L ({ frames := 2, cells := 4, slots := 8, locals := 32 } : Room).cells ({ frames := 2, cells := 4, slots := 8, locals := 32 } : Room).slots) := by
  refine MetFree.of_bodySF (plainFor_of_name own_pn_3) hisR ?_
  intro p e s m args below meth c s₁ Bd hml0 hP hK
  obtain ⟨rfl, hZ, hh, hJ⟩ := hP
  have hx := Bd.exec
  have hby := Bd.bytes
  have hml : c.maxLocals = 2 := hml0
  have hown : s.vm.findClass "java/lang/String" = some m.cls := findClass_of_methodNamed Bd.named
  have hnm := (name_of_methodNamed Bd.named Bd.method).1
  have W := own_W hw
  have X0 : Stand p l e ({ frames := 2, cells := 4, slots := 8, locals := 32 } : Room) s m #[(.ref a1), (.ref b1)] below meth c s₁ [] 0 0 := Stand.of_body Bd
  have e0 : s₁.heap = h0 := by rw [← hh, Bd.state]; rfl
  have N0 := Fr.nil n0
  have pre0 : ∀ tq, Steps p.tables e below (s₁.setTop (mkF m 0 #[rv a1, rv b1] [])) tq → Steps p.tables e below (s₁.setTop (entryFrame m #[(.ref a1), (.ref b1)] 2)) tq := fun tq k => castTop (own_ef_snew0 m a1 b1) k
  have hEL := own_EW hw
  have wS : ∀ d ∈ Bundle.stringAtoms, d.before a0 Z = true := fun d hd => hw d ((by decide +kernel : ∀ d ∈ Bundle.stringAtoms, d ∈ tables_1) d hd)
  have hS0 : s.Since s.vm 0 := (State.WarmedH.refl s).since 0
  have hk0 : 0 ≤ h0.size := Nat.zero_le _
  have CH0 : CHv Z own_EL s.vm h0 := hJ.1
  have CR0 : CHr Z own_EL s.vm h0 s.vm h0 := CHr.refl CH0
  have X0 : Stand p l e ({ frames := 2, cells := 4, slots := 8, locals := 32 } : Room) (s.setVm s.vm) m #[(.ref a1), (.ref b1)] below meth c s₁ [] 0 0 := X0
  have sf_a1 : Safe Z own_EL s.vm h0 a1 := hJ.2 a1 (by simp)
  have K165 : Keep h0 h0 [a1] := Keep.refl h0 [a1]
  obtain ⟨cl166, Ar166, aq166, aS166, aN166, aH166, aG166⟩ := id V1
  obtain ⟨_, _, ⟨T167, L167, k167, n167⟩, -, Xw167, hSw167, hgw167, ⟨Lc167, hQ167, l167, y167, z167, A167⟩, st167⟩ := X0.specialBackS hx (y := (⟨"java/lang/String", "<init>", "([CIILjava/lang/Void;)V"⟩ : MethodName)) rfl hown (mvT hZ (W 13 rfl)) (mvT hZ (W 14 rfl)) (mvT hZ (W 16 rfl)) (by decide) (own_backX (s := s) (W := 0) (rm_sn4_0 l Z a0 hw [] a1 b1 h0 n0 Z0 E1 g1 F1 F2) hZ (W 16 rfl) (W 8 rfl) (by decide) (by decide) hEL (xs := [a1]) ⟨CH0, (allS sf_a1 all0)⟩ (allS E1.lt all0)) (g := (mkF m 6 #[rv a1, rv b1] [.null, .int 0, .int 0, .ref b1, .ref a1])) rfl (by rw [hml]; rfl) (Steps.refl _) (a := a1) (argsL := [.ref b1, .int 0, .int 0, .null]) (rest := []) (lenOf own_pd_2 rfl) rfl (by show 2 * 0 + _ ≤ _; exact Nat.le_of_eq rfl) (hb hby own_d6_6) (fun _ _ => ⟨rfl, e0, (by decide : 0 + 4 ≤ _), (by decide : 0 + 8 ≤ _)⟩)
  dsimp only [Pt.U, Pt.locs, Pt.cells, Pt.slots] at Xw167 hSw167 hgw167 l167 y167 z167 A167 st167 hQ167
  subst l167 y167 z167
  obtain ⟨X167, hS167, hZ167, hown167⟩ := rebS (s := s) (T := T167) hS0 hk0 Xw167 hSw167 (by rw [← e0]; exact hgw167) hZ hown
  have hk167 : T167.heap.size ≤ T167.heap.size := Nat.le_refl _
  obtain ⟨rfl, Nq167, K167, hS⟩ := hQ167
  have N167 := Fr.app N0 Nq167
  have CR168 := CR0.trans A167
  have Z169 : n0 ≤ T167.heap.size := Nat.le_trans Z0 K167.1
  have K170 : Keep h0 T167.heap [a1] := K165.trans K167 (allS (Or.inl (List.mem_of_getElem? (i := 0) rfl)) all0)
  have CRe := CR168.trans (CHv.at X167 hZ167 hEL CR168.1)
  obtain ⟨fs, hr, hrun, hended, hRW⟩ := X167.leaveW hS167 hk167 (v := none) (fun _ => rfl)
  refine ⟨_, _, pre0 _ (?_), hrun, hended, _, _, rfl, ?_, (by rw [hh]; show CHr Z _ s.vm h0 T167.vm T167.heap; exact CRe), hRW.1, hRW.2.1, hRW.2.2.1, hRW.2.2.2.mono (by decide) (by decide)⟩
  · show Steps p.tables e below (s₁.setTop (mkF m 0 #[rv a1, rv b1] [])) _
    refine XS.aloadN X0.here hx rfl (hb hby own_d6_0) rfl rfl ?_
    show Steps _ _ _ (s₁.setTop (mkF m 1 _ [.ref a1])) _
    refine XS.aloadN X0.here hx rfl (hb hby own_d6_1) rfl rfl ?_
    show Steps _ _ _ (s₁.setTop (mkF m 2 _ [.ref b1, .ref a1])) _
    refine XS.iconst X0.here hx rfl (hb hby own_d6_2) ?_
    show Steps _ _ _ (s₁.setTop (mkF m 3 _ [.int 0, .ref b1, .ref a1])) _
    refine XS.aloadN X0.here hx rfl (hb hby own_d6_3) rfl rfl ?_
    show Steps _ _ _ (s₁.setTop (mkF m 4 _ [.ref b1, .int 0, .ref b1, .ref a1])) _
    refine X0.arraylength hx (by rw [e0]; exact Ar166.1) (State.isArrayOf_alike hZ.alike Ar166.2.1) (g := (mkF m 4 #[rv a1, rv b1] [.ref b1, .int 0, .ref b1, .ref a1])) rfl rfl (hb hby own_d6_4) _ ?_
    rw [len_of aS166 aN166]
    show Steps p.tables e below (s₁.setTop (mkF m 5 #[rv a1, rv b1] [.int 0, .int 0, .ref b1, .ref a1])) _
    refine XS.aconstNull X0.here hx rfl (hb hby own_d6_5) ?_
    show Steps _ _ _ (s₁.setTop (mkF m 6 _ [.null, .int 0, .int 0, .ref b1, .ref a1])) _
    refine st167.trans ?_
    show Steps p.tables e below (T167.setTop (mkF m 9 #[rv a1, rv b1] [])) _
    exact X167.returnOut hx Bd.returns (hb hby own_d6_9) hr
  · show Q_snew0 Z a1 b1 kc h0 n0 _ T167.heap _
    exact ⟨rfl, N167, K170, hS⟩
theorem own_staI {s : State} {args : Array Value} {C n d : String} {k : Int32} (h : (Jvm.Cond.eq (Jvm.Term.static C n d) (Jvm.Term.int k)).before args s = true) (hi : (Jvm.Cond.initializedFor C n d).before args s = true) : Sta s s.heap C n d (.int k) := by
  have hv := Cond.before_iff.mp h
  obtain ⟨x, y, ex, ey, k1, k2⟩ := cmp_v (Or.inl hv)
  have ey' : (Jvm.Term.int k).eval args s none [] s = some (.int k) := Term.int_eval k
  rw [ey'] at ey; cases ey
  obtain ⟨z, hz⟩ := k2
  subst hz
  have : z = k := by simpa [Cond.value, ex, ey'] using hv
  subst this
  exact Sta.start ex (Or.inl hi)
theorem own_charb (y : Int32) : ¬ nar .char y < 0 ∧ ¬ (65535 : Int32) < nar .char y := by
  have h := fits_nar_char y
  simp only [fits, Bool.and_eq_true, decide_eq_true_eq] at h
  exact ⟨Int32.not_lt.mpr h.1, Int32.not_lt.mpr h.2⟩
def own_sp (c : Int32) : Prop := c = (32 : Int32) ∨ c = (9 : Int32) ∨ c = (10 : Int32) ∨ c = (11 : Int32) ∨ c = (12 : Int32) ∨ c = (13 : Int32)
def own_ws (c : Int32) : Prop := c = (32 : Int32) ∨ (¬ c < (9 : Int32) ∧ ¬ (13 : Int32) < c)
theorem own_spws (c : Int32) : own_sp c ↔ own_ws c := by
  unfold own_sp own_ws
  constructor
  · rintro (h | h | h | h | h | h)
    · exact Or.inl h
    all_goals (subst h; exact Or.inr (by decide))
  · rintro (h | ⟨h1, h2⟩)
    · exact Or.inl h
    · rw [Int32.lt_iff_toInt_lt, show (9 : Int32).toInt = 9 from rfl] at h1
      rw [Int32.lt_iff_toInt_lt, show (13 : Int32).toInt = 13 from rfl] at h2
      rcases (show c.toInt = 9 ∨ c.toInt = 10 ∨ c.toInt = 11 ∨ c.toInt = 12 ∨ c.toInt = 13 by omega) with h | h | h | h | h
      · exact Or.inr (Or.inl (Int32.toInt_inj.mp h))
      · exact Or.inr (Or.inr (Or.inl (Int32.toInt_inj.mp h)))
      · exact Or.inr (Or.inr (Or.inr (Or.inl (Int32.toInt_inj.mp h))))
      · exact Or.inr (Or.inr (Or.inr (Or.inr (Or.inl (Int32.toInt_inj.mp h)))))
      · exact Or.inr (Or.inr (Or.inr (Or.inr (Or.inr (Int32.toInt_inj.mp h)))))
theorem own_ushr17 (x : Int32) : 0 ≤ (own_ushr x 17).toInt := by
  have h1 : (own_ushr x 17).toBitVec.toNat < 2147483648 := by
    unfold own_ushr
    rw [show ((17 : Int32) &&& 31).toUInt32 = 17 from rfl]
    show (x.toUInt32 >>> 17).toNat < 2147483648
    rw [UInt32.toNat_shiftRight]
    have := x.toUInt32.toNat_lt
    rw [show (17 : UInt32).toNat % 32 = 17 from rfl, Nat.shiftRight_eq_div_pow]
    omega
  show 0 ≤ BitVec.toInt _
  rw [BitVec.toInt_eq_toNat_of_lt (by omega)]; exact Int.natCast_nonneg _
theorem own_idx12 (x : Int32) : ¬ (own_ushr x 17) % (12 : Int32) < 0 ∧ (own_ushr x 17) % (12 : Int32) < (12 : Int32) := by
  have h0 := own_ushr17 x
  generalize own_ushr x 17 = A at *
  have e : (12 : Int32).toInt = 12 := rfl
  have hA : (A % 12).toInt = A.toInt % 12 := by rw [Int32.toInt_mod, e, Int.tmod_eq_emod_of_nonneg h0]
  have a0 := Int.emod_nonneg A.toInt (show (12 : Int) ≠ 0 by decide)
  have a1 := Int.emod_lt_of_pos A.toInt (show (0 : Int) < 12 by decide)
  rw [Int32.lt_iff_toInt_lt, Int32.lt_iff_toInt_lt, hA, e, show (0 : Int32).toInt = 0 from rfl]
  omega
theorem own_mod5 (x : Int32) : (x &&& (7 : Int32)) % (5 : Int32) = 0 ∨ (x &&& (7 : Int32)) % (5 : Int32) = 1 ∨ (x &&& (7 : Int32)) % (5 : Int32) = 2 ∨ (x &&& (7 : Int32)) % (5 : Int32) = 3 ∨ (x &&& (7 : Int32)) % (5 : Int32) = 4 := by
  have t : ∀ k : Fin 8, Int32.ofNat k.val % (5 : Int32) = 0 ∨ Int32.ofNat k.val % (5 : Int32) = 1 ∨ Int32.ofNat k.val % (5 : Int32) = 2 ∨ Int32.ofNat k.val % (5 : Int32) = 3 ∨ Int32.ofNat k.val % (5 : Int32) = 4 := by decide +kernel
  have h : (x &&& 7).toBitVec.toNat < 8 := own_andlt _ _ (by decide)
  have e : (x &&& 7) = Int32.ofNat (x &&& 7).toBitVec.toNat := by
    apply Int32.toBitVec_inj.mp
    show _ = BitVec.ofNat 32 _
    rw [BitVec.ofNat_toNat]; simp
  rw [e]; exact t ⟨_, h⟩
theorem own_pn_1 : plainName "com/example/seshat/seshat/trec/FieldsIsFieldPinLaw" = true := by decide +kernel
theorem own_d22_0 : decode method_3_code 0 = .ok (.iload_n 0, 1) := by decide +kernel
theorem own_d22_1 : decode method_3_code 1 = .ok (.ldc 28, 2) := by decide +kernel
theorem own_d22_3 : decode method_3_code 3 = .ok (.iand, 1) := by decide +kernel
theorem own_d22_4 : decode method_3_code 4 = .ok (.ifCond .eq 86, 3) := by decide +kernel
theorem own_d22_90 : decode method_3_code 90 = .ok (.iload_n 0, 1) := by decide +kernel
theorem own_d22_91 : decode method_3_code 91 = .ok (.ldc 29, 2) := by decide +kernel
theorem own_d22_93 : decode method_3_code 93 = .ok (.iand, 1) := by decide +kernel
theorem own_d22_94 : decode method_3_code 94 = .ok (.i2c, 1) := by decide +kernel
theorem own_d22_95 : decode method_3_code 95 = .ok (.ireturn, 1) := by decide +kernel
theorem own_d22_7 : decode method_3_code 7 = .ok (.bipush 12, 2) := by decide +kernel
theorem own_d22_9 : decode method_3_code 9 = .ok (.newarray .char, 2) := by decide +kernel
theorem own_d22_11 : decode method_3_code 11 = .ok (.dup, 1) := by decide +kernel
theorem own_d22_12 : decode method_3_code 12 = .ok (.iconst 0, 1) := by decide +kernel
theorem own_d22_13 : decode method_3_code 13 = .ok (.bipush 9, 2) := by decide +kernel
theorem own_d22_15 : decode method_3_code 15 = .ok (.castore, 1) := by decide +kernel
theorem own_d22_16 : decode method_3_code 16 = .ok (.dup, 1) := by decide +kernel
theorem own_d22_17 : decode method_3_code 17 = .ok (.iconst 1, 1) := by decide +kernel
theorem own_d22_18 : decode method_3_code 18 = .ok (.bipush 10, 2) := by decide +kernel
theorem own_d22_20 : decode method_3_code 20 = .ok (.castore, 1) := by decide +kernel
theorem own_d22_21 : decode method_3_code 21 = .ok (.dup, 1) := by decide +kernel
theorem own_d22_22 : decode method_3_code 22 = .ok (.iconst 2, 1) := by decide +kernel
theorem own_d22_23 : decode method_3_code 23 = .ok (.bipush 11, 2) := by decide +kernel
theorem own_d22_25 : decode method_3_code 25 = .ok (.castore, 1) := by decide +kernel
theorem own_d22_26 : decode method_3_code 26 = .ok (.dup, 1) := by decide +kernel
theorem own_d22_27 : decode method_3_code 27 = .ok (.iconst 3, 1) := by decide +kernel
theorem own_d22_28 : decode method_3_code 28 = .ok (.bipush 12, 2) := by decide +kernel
theorem own_d22_30 : decode method_3_code 30 = .ok (.castore, 1) := by decide +kernel
theorem own_d22_31 : decode method_3_code 31 = .ok (.dup, 1) := by decide +kernel
theorem own_d22_32 : decode method_3_code 32 = .ok (.iconst 4, 1) := by decide +kernel
theorem own_d22_33 : decode method_3_code 33 = .ok (.bipush 13, 2) := by decide +kernel
theorem own_d22_35 : decode method_3_code 35 = .ok (.castore, 1) := by decide +kernel
theorem own_d22_36 : decode method_3_code 36 = .ok (.dup, 1) := by decide +kernel
theorem own_d22_37 : decode method_3_code 37 = .ok (.iconst 5, 1) := by decide +kernel
theorem own_d22_38 : decode method_3_code 38 = .ok (.bipush 32, 2) := by decide +kernel
theorem own_d22_40 : decode method_3_code 40 = .ok (.castore, 1) := by decide +kernel
theorem own_d22_41 : decode method_3_code 41 = .ok (.dup, 1) := by decide +kernel
theorem own_d22_42 : decode method_3_code 42 = .ok (.bipush 6, 2) := by decide +kernel
theorem own_d22_44 : decode method_3_code 44 = .ok (.bipush 8, 2) := by decide +kernel
theorem own_d22_46 : decode method_3_code 46 = .ok (.castore, 1) := by decide +kernel
theorem own_d22_47 : decode method_3_code 47 = .ok (.dup, 1) := by decide +kernel
theorem own_d22_48 : decode method_3_code 48 = .ok (.bipush 7, 2) := by decide +kernel
theorem own_d22_50 : decode method_3_code 50 = .ok (.bipush 14, 2) := by decide +kernel
theorem own_d22_52 : decode method_3_code 52 = .ok (.castore, 1) := by decide +kernel
theorem own_d22_53 : decode method_3_code 53 = .ok (.dup, 1) := by decide +kernel
theorem own_d22_54 : decode method_3_code 54 = .ok (.bipush 8, 2) := by decide +kernel
theorem own_d22_56 : decode method_3_code 56 = .ok (.bipush 31, 2) := by decide +kernel
theorem own_d22_58 : decode method_3_code 58 = .ok (.castore, 1) := by decide +kernel
theorem own_d22_59 : decode method_3_code 59 = .ok (.dup, 1) := by decide +kernel
theorem own_d22_60 : decode method_3_code 60 = .ok (.bipush 9, 2) := by decide +kernel
theorem own_d22_62 : decode method_3_code 62 = .ok (.bipush 33, 2) := by decide +kernel
theorem own_d22_64 : decode method_3_code 64 = .ok (.castore, 1) := by decide +kernel
theorem own_d22_65 : decode method_3_code 65 = .ok (.dup, 1) := by decide +kernel
theorem own_d22_66 : decode method_3_code 66 = .ok (.bipush 10, 2) := by decide +kernel
theorem own_d22_68 : decode method_3_code 68 = .ok (.sipush 133, 3) := by decide +kernel
theorem own_d22_71 : decode method_3_code 71 = .ok (.castore, 1) := by decide +kernel
theorem own_d22_72 : decode method_3_code 72 = .ok (.dup, 1) := by decide +kernel
theorem own_d22_73 : decode method_3_code 73 = .ok (.bipush 11, 2) := by decide +kernel
theorem own_d22_75 : decode method_3_code 75 = .ok (.sipush 160, 3) := by decide +kernel
theorem own_d22_78 : decode method_3_code 78 = .ok (.castore, 1) := by decide +kernel
theorem own_d22_79 : decode method_3_code 79 = .ok (.astore_n 1, 1) := by decide +kernel
theorem own_d22_80 : decode method_3_code 80 = .ok (.aload_n 1, 1) := by decide +kernel
theorem own_d22_81 : decode method_3_code 81 = .ok (.iload_n 0, 1) := by decide +kernel
theorem own_d22_82 : decode method_3_code 82 = .ok (.bipush 17, 2) := by decide +kernel
theorem own_d22_84 : decode method_3_code 84 = .ok (.iushr, 1) := by decide +kernel
theorem own_d22_85 : decode method_3_code 85 = .ok (.bipush 12, 2) := by decide +kernel
theorem own_d22_87 : decode method_3_code 87 = .ok (.irem, 1) := by decide +kernel
theorem own_d22_88 : decode method_3_code 88 = .ok (.caload, 1) := by decide +kernel
theorem own_d22_89 : decode method_3_code 89 = .ok (.ireturn, 1) := by decide +kernel
theorem own_ef_pick (m : MethodId) (x0 : Int32) : entryFrame m #[(.int x0)] 2 = mkF m 0 #[iv x0, .unset] [] := by first | (simp [entryFrame, mkF, argsToLocals, Value.category]; done) | rfl
def Q_pick (Z : State) (p1 : Int32) (h0 : Heap) (n0 : Nat) (v : Option Value) (h : Heap) (L : List Loc) : Prop := ∃ c, v = some (.int c) ∧ (¬ c < 0 ∧ ¬ (65535 : Int32) < c) ∧ Fr n0 L ∧ Keep h0 h []
set_option maxRecDepth 65536 in
set_option maxHeartbeats 40000000 in
theorem rm_pick (l : Launch) (Z : State) (a0 : Array Value) (hw : ∀ d ∈ tables_1, d.before a0 Z = true) (ws : List Jvm.Cond) (p1 : Int32) (h0 : Heap) (n0 : Nat) (Z0 : n0 ≤ h0.size)  :
    MetFree l (⟨"com/example/seshat/seshat/trec/FieldsIsFieldPinLaw", "pick", "(I)C"⟩ : MethodName) (head1 (Jvm.Cond.code (⟨"com/example/seshat/seshat/trec/FieldsIsFieldPinLaw", "pick", "(I)C"⟩ : MethodName) method_3_code 2 (some .char) :: ws) ({ frames := 0, cells := 1, slots := 12, locals := 0 } : Room)) (fun a U => a = #[(.int p1)] ∧ Z.Warmed39 U.vm ∧ U.heap = h0) (fun _ _ _ _ _ => True) (fun _ U o U' => ∃ v L, o = .returned v ∧ Q_pick Z p1 h0 n0 v U'.heap L ∧ FrameEnd U o U' L ({ frames := 0, cells := 1, slots := 12, locals := 0 } : Room).cells ({ frames := 0, cells := 1, slots := 12, locals := 0 } : Room).slots) := by
  refine MetFree.of_bodySF (plainFor_of_name own_pn_1) hisR ?_
  intro p e s m args below meth c s₁ Bd hml0 hP hK
  obtain ⟨rfl, hZ, hh⟩ := hP
  have hx := Bd.exec
  have hby := Bd.bytes
  have hml : c.maxLocals = 2 := hml0
  have hown : s.vm.findClass "com/example/seshat/seshat/trec/FieldsIsFieldPinLaw" = some m.cls := findClass_of_methodNamed Bd.named
  have hnm := (name_of_methodNamed Bd.named Bd.method).1
  have W := own_W hw
  have X0 : Stand p l e ({ frames := 0, cells := 1, slots := 12, locals := 0 } : Room) s m #[(.int p1)] below meth c s₁ [] 0 0 := Stand.of_body Bd
  have e0 : s₁.heap = h0 := by rw [← hh, Bd.state]; rfl
  have N0 := Fr.nil n0
  have pre0 : ∀ tq, Steps p.tables e below (s₁.setTop (mkF m 0 #[iv p1, .unset] [])) tq → Steps p.tables e below (s₁.setTop (entryFrame m #[(.int p1)] 2)) tq := fun tq k => castTop (own_ef_pick m p1) k
  have K171 : Keep h0 h0 [] := Keep.refl h0 []
  have G172 : ∀ tq, Steps p.tables e below (s₁.setTop (mkF m 4 #[iv p1, .unset] [.int (p1 &&& (65536 : Int32))])) tq → Steps p.tables e below (s₁.setTop (mkF m 0 #[iv p1, .unset] [])) tq := by
    intro tq kk
    show Steps p.tables e below (s₁.setTop (mkF m 0 #[iv p1, .unset] [])) _
    refine XS.iloadN X0.here hx rfl (hb hby own_d22_0) rfl ?_
    show Steps _ _ _ (s₁.setTop (mkF m 1 _ [.int p1])) _
    refine Jvm.Stand.ldcI X0 hx hown (mvT hZ (W 4 rfl)) rfl (hb hby own_d22_1) ?_
    show Steps _ _ _ (s₁.setTop (mkF m 3 _ [.int 65536, .int p1])) _
    refine XS.iand X0.here hx rfl (hb hby own_d22_3) rfl ?_
    exact kk
  by_cases hc : (p1 &&& (65536 : Int32)) = (0 : Int32)
  · obtain ⟨fs, hr, hrun, hended, hW, hsame⟩ := X0.leave (v := some (.int (nar .char ((p1 &&& (65535 : Int32)).toUInt32.toUInt16.toUInt32.toInt32)))) (fun h => by rw [Bd.returns] at h; cases h)
    refine ⟨_, _, pre0 _ (G172 _ (?_)), hrun, hended, _, _, rfl, ?_, ⟨_, rfl⟩, hW, hsame.mono (by decide) (by decide)⟩
    · show Steps p.tables e below (s₁.setTop (mkF m 4 #[iv p1, .unset] [.int (p1 &&& (65536 : Int32))])) _
      refine XS.ifYes X0.here hx rfl (pc0 := 4) (pc' := 90) rfl (hb hby own_d22_4) rfl ((if0 _ _).trans (teq (hc : (p1 &&& (65536 : Int32)) = (0 : Int32))).1) (by decide) (by decide) ?_
      show Steps _ _ _ (s₁.setTop (mkF m 90 _ [])) _
      refine XS.iloadN X0.here hx rfl (hb hby own_d22_90) rfl ?_
      show Steps _ _ _ (s₁.setTop (mkF m 91 _ [.int p1])) _
      refine Jvm.Stand.ldcI X0 hx hown (mvT hZ (W 5 rfl)) rfl (hb hby own_d22_91) ?_
      show Steps _ _ _ (s₁.setTop (mkF m 93 _ [.int 65535, .int p1])) _
      refine XS.iand X0.here hx rfl (hb hby own_d22_93) rfl ?_
      show Steps _ _ _ (s₁.setTop (mkF m 94 _ [.int (p1 &&& (65535 : Int32))])) _
      refine XS.i2c X0.here hx rfl (hb hby own_d22_94) rfl ?_
      show Steps _ _ _ (s₁.setTop (mkF m 95 _ [.int ((p1 &&& (65535 : Int32)).toUInt32.toUInt16.toUInt32.toInt32)])) _
      exact retN X0 hx (t := .char) Bd.returns (by simp) (hb hby own_d22_95) hr
    · show Q_pick Z p1 h0 n0 _ s₁.heap _
      rw [e0]
      exact ⟨_, rfl, own_charb _, N0, K171⟩
  · obtain ⟨T173, h173, k173, X173, e173, E173, A173, st173⟩ := newP X0 hx hZ (W 9 rfl) e0 (g := (mkF m 9 #[iv p1, .unset] [.int 12])) rfl (hb hby own_d22_9) rfl (by decide : ¬ ((12 : Int32) < (0 : Int32))) (cap := 12) (by decide) (by decide) (by decide) (by decide)
    obtain ⟨b173, g173⟩ : ∃ z, z = h0.size := ⟨_, rfl⟩
    rw [← g173] at A173 st173
    have g174 : n0 ≤ b173 := Nat.le_trans Z0 (Nat.le_of_eq g173.symm)
    have g175 : h0.size ≤ b173 := Nat.le_trans K171.1 (Nat.le_of_eq g173.symm)
    have Z176 : n0 ≤ h173.size := Nat.le_trans Z0 E173.1
    have K177 : Keep h0 h173 [] := K171.ext E173
    have V173 : Arv Z h173 b173 k173 .char (12 : Int32) [(.int (0 : Int32)), (.int (0 : Int32)), (.int (0 : Int32)), (.int (0 : Int32)), (.int (0 : Int32)), (.int (0 : Int32)), (.int (0 : Int32)), (.int (0 : Int32)), (.int (0 : Int32)), (.int (0 : Int32)), (.int (0 : Int32)), (.int (0 : Int32))] (.int (0 : Int32)) := (Arv.new A173 (by decide : ¬ ((12 : Int32) < (0 : Int32)))).pad (pad_rep [] (.int (0 : Int32)) 12)
    obtain ⟨cl178, Ar178, aq178, aS178, aN178, aH178, aG178⟩ := id V173
    obtain ⟨T179, h179, X179, e179, W179, st179⟩ := stC X173 hx hZ e173 Ar178 (j := (0 : Int32)) (inb_of aS178 ⟨(by decide), (by decide)⟩) (g := (mkF m 15 #[iv p1, .unset] [.int 9, .int 0, .ref b173, .ref b173])) rfl rfl (hb hby own_d22_15)
    have N179 := Fr.snoc X179 N0 g174
    have Vx179 := Arv.set Ar178 aq178 aS178 aN178 aH178 aG178 (fits_nar_char _) W179 0 rfl (Nat.le_of_ble_eq_true rfl)
    have V179 : Arv Z h179 b173 k173 .char (12 : Int32) [(.int (9 : Int32)), (.int (0 : Int32)), (.int (0 : Int32)), (.int (0 : Int32)), (.int (0 : Int32)), (.int (0 : Int32)), (.int (0 : Int32)), (.int (0 : Int32)), (.int (0 : Int32)), (.int (0 : Int32)), (.int (0 : Int32)), (.int (0 : Int32))] (.int (0 : Int32)) := by
      have q := Vx179
      rw [show Value.int (nar .char (9 : Int32)) = (.int (9 : Int32)) from congrArg Value.int (by decide)] at q
      exact q
    have Z180 : n0 ≤ h179.size := Nat.le_trans Z176 (Keep.of_wr W179).1
    have K181 : Keep h0 h179 [] := K177.wr W179 (Or.inr g175)
    obtain ⟨cl182, Ar182, aq182, aS182, aN182, aH182, aG182⟩ := id V179
    obtain ⟨T183, h183, X183, e183, W183, st183⟩ := stC X179 hx hZ e179 Ar182 (j := (1 : Int32)) (inb_of aS182 ⟨(by decide), (by decide)⟩) (g := (mkF m 20 #[iv p1, .unset] [.int 10, .int 1, .ref b173, .ref b173])) rfl rfl (hb hby own_d22_20)
    have N183 := Fr.snoc X183 N179 g174
    have Vx183 := Arv.set Ar182 aq182 aS182 aN182 aH182 aG182 (fits_nar_char _) W183 1 rfl (Nat.le_of_ble_eq_true rfl)
    have V183 : Arv Z h183 b173 k173 .char (12 : Int32) [(.int (9 : Int32)), (.int (10 : Int32)), (.int (0 : Int32)), (.int (0 : Int32)), (.int (0 : Int32)), (.int (0 : Int32)), (.int (0 : Int32)), (.int (0 : Int32)), (.int (0 : Int32)), (.int (0 : Int32)), (.int (0 : Int32)), (.int (0 : Int32))] (.int (0 : Int32)) := by
      have q := Vx183
      rw [show Value.int (nar .char (10 : Int32)) = (.int (10 : Int32)) from congrArg Value.int (by decide)] at q
      exact q
    have Z184 : n0 ≤ h183.size := Nat.le_trans Z180 (Keep.of_wr W183).1
    have K185 : Keep h0 h183 [] := K181.wr W183 (Or.inr g175)
    obtain ⟨cl186, Ar186, aq186, aS186, aN186, aH186, aG186⟩ := id V183
    obtain ⟨T187, h187, X187, e187, W187, st187⟩ := stC X183 hx hZ e183 Ar186 (j := (2 : Int32)) (inb_of aS186 ⟨(by decide), (by decide)⟩) (g := (mkF m 25 #[iv p1, .unset] [.int 11, .int 2, .ref b173, .ref b173])) rfl rfl (hb hby own_d22_25)
    have N187 := Fr.snoc X187 N183 g174
    have Vx187 := Arv.set Ar186 aq186 aS186 aN186 aH186 aG186 (fits_nar_char _) W187 2 rfl (Nat.le_of_ble_eq_true rfl)
    have V187 : Arv Z h187 b173 k173 .char (12 : Int32) [(.int (9 : Int32)), (.int (10 : Int32)), (.int (11 : Int32)), (.int (0 : Int32)), (.int (0 : Int32)), (.int (0 : Int32)), (.int (0 : Int32)), (.int (0 : Int32)), (.int (0 : Int32)), (.int (0 : Int32)), (.int (0 : Int32)), (.int (0 : Int32))] (.int (0 : Int32)) := by
      have q := Vx187
      rw [show Value.int (nar .char (11 : Int32)) = (.int (11 : Int32)) from congrArg Value.int (by decide)] at q
      exact q
    have Z188 : n0 ≤ h187.size := Nat.le_trans Z184 (Keep.of_wr W187).1
    have K189 : Keep h0 h187 [] := K185.wr W187 (Or.inr g175)
    obtain ⟨cl190, Ar190, aq190, aS190, aN190, aH190, aG190⟩ := id V187
    obtain ⟨T191, h191, X191, e191, W191, st191⟩ := stC X187 hx hZ e187 Ar190 (j := (3 : Int32)) (inb_of aS190 ⟨(by decide), (by decide)⟩) (g := (mkF m 30 #[iv p1, .unset] [.int 12, .int 3, .ref b173, .ref b173])) rfl rfl (hb hby own_d22_30)
    have N191 := Fr.snoc X191 N187 g174
    have Vx191 := Arv.set Ar190 aq190 aS190 aN190 aH190 aG190 (fits_nar_char _) W191 3 rfl (Nat.le_of_ble_eq_true rfl)
    have V191 : Arv Z h191 b173 k173 .char (12 : Int32) [(.int (9 : Int32)), (.int (10 : Int32)), (.int (11 : Int32)), (.int (12 : Int32)), (.int (0 : Int32)), (.int (0 : Int32)), (.int (0 : Int32)), (.int (0 : Int32)), (.int (0 : Int32)), (.int (0 : Int32)), (.int (0 : Int32)), (.int (0 : Int32))] (.int (0 : Int32)) := by
      have q := Vx191
      rw [show Value.int (nar .char (12 : Int32)) = (.int (12 : Int32)) from congrArg Value.int (by decide)] at q
      exact q
    have Z192 : n0 ≤ h191.size := Nat.le_trans Z188 (Keep.of_wr W191).1
    have K193 : Keep h0 h191 [] := K189.wr W191 (Or.inr g175)
    obtain ⟨cl194, Ar194, aq194, aS194, aN194, aH194, aG194⟩ := id V191
    obtain ⟨T195, h195, X195, e195, W195, st195⟩ := stC X191 hx hZ e191 Ar194 (j := (4 : Int32)) (inb_of aS194 ⟨(by decide), (by decide)⟩) (g := (mkF m 35 #[iv p1, .unset] [.int 13, .int 4, .ref b173, .ref b173])) rfl rfl (hb hby own_d22_35)
    have N195 := Fr.snoc X195 N191 g174
    have Vx195 := Arv.set Ar194 aq194 aS194 aN194 aH194 aG194 (fits_nar_char _) W195 4 rfl (Nat.le_of_ble_eq_true rfl)
    have V195 : Arv Z h195 b173 k173 .char (12 : Int32) [(.int (9 : Int32)), (.int (10 : Int32)), (.int (11 : Int32)), (.int (12 : Int32)), (.int (13 : Int32)), (.int (0 : Int32)), (.int (0 : Int32)), (.int (0 : Int32)), (.int (0 : Int32)), (.int (0 : Int32)), (.int (0 : Int32)), (.int (0 : Int32))] (.int (0 : Int32)) := by
      have q := Vx195
      rw [show Value.int (nar .char (13 : Int32)) = (.int (13 : Int32)) from congrArg Value.int (by decide)] at q
      exact q
    have Z196 : n0 ≤ h195.size := Nat.le_trans Z192 (Keep.of_wr W195).1
    have K197 : Keep h0 h195 [] := K193.wr W195 (Or.inr g175)
    obtain ⟨cl198, Ar198, aq198, aS198, aN198, aH198, aG198⟩ := id V195
    obtain ⟨T199, h199, X199, e199, W199, st199⟩ := stC X195 hx hZ e195 Ar198 (j := (5 : Int32)) (inb_of aS198 ⟨(by decide), (by decide)⟩) (g := (mkF m 40 #[iv p1, .unset] [.int 32, .int 5, .ref b173, .ref b173])) rfl rfl (hb hby own_d22_40)
    have N199 := Fr.snoc X199 N195 g174
    have Vx199 := Arv.set Ar198 aq198 aS198 aN198 aH198 aG198 (fits_nar_char _) W199 5 rfl (Nat.le_of_ble_eq_true rfl)
    have V199 : Arv Z h199 b173 k173 .char (12 : Int32) [(.int (9 : Int32)), (.int (10 : Int32)), (.int (11 : Int32)), (.int (12 : Int32)), (.int (13 : Int32)), (.int (32 : Int32)), (.int (0 : Int32)), (.int (0 : Int32)), (.int (0 : Int32)), (.int (0 : Int32)), (.int (0 : Int32)), (.int (0 : Int32))] (.int (0 : Int32)) := by
      have q := Vx199
      rw [show Value.int (nar .char (32 : Int32)) = (.int (32 : Int32)) from congrArg Value.int (by decide)] at q
      exact q
    have Z200 : n0 ≤ h199.size := Nat.le_trans Z196 (Keep.of_wr W199).1
    have K201 : Keep h0 h199 [] := K197.wr W199 (Or.inr g175)
    obtain ⟨cl202, Ar202, aq202, aS202, aN202, aH202, aG202⟩ := id V199
    obtain ⟨T203, h203, X203, e203, W203, st203⟩ := stC X199 hx hZ e199 Ar202 (j := (6 : Int32)) (inb_of aS202 ⟨(by decide), (by decide)⟩) (g := (mkF m 46 #[iv p1, .unset] [.int 8, .int 6, .ref b173, .ref b173])) rfl rfl (hb hby own_d22_46)
    have N203 := Fr.snoc X203 N199 g174
    have Vx203 := Arv.set Ar202 aq202 aS202 aN202 aH202 aG202 (fits_nar_char _) W203 6 rfl (Nat.le_of_ble_eq_true rfl)
    have V203 : Arv Z h203 b173 k173 .char (12 : Int32) [(.int (9 : Int32)), (.int (10 : Int32)), (.int (11 : Int32)), (.int (12 : Int32)), (.int (13 : Int32)), (.int (32 : Int32)), (.int (8 : Int32)), (.int (0 : Int32)), (.int (0 : Int32)), (.int (0 : Int32)), (.int (0 : Int32)), (.int (0 : Int32))] (.int (0 : Int32)) := by
      have q := Vx203
      rw [show Value.int (nar .char (8 : Int32)) = (.int (8 : Int32)) from congrArg Value.int (by decide)] at q
      exact q
    have Z204 : n0 ≤ h203.size := Nat.le_trans Z200 (Keep.of_wr W203).1
    have K205 : Keep h0 h203 [] := K201.wr W203 (Or.inr g175)
    obtain ⟨cl206, Ar206, aq206, aS206, aN206, aH206, aG206⟩ := id V203
    obtain ⟨T207, h207, X207, e207, W207, st207⟩ := stC X203 hx hZ e203 Ar206 (j := (7 : Int32)) (inb_of aS206 ⟨(by decide), (by decide)⟩) (g := (mkF m 52 #[iv p1, .unset] [.int 14, .int 7, .ref b173, .ref b173])) rfl rfl (hb hby own_d22_52)
    have N207 := Fr.snoc X207 N203 g174
    have Vx207 := Arv.set Ar206 aq206 aS206 aN206 aH206 aG206 (fits_nar_char _) W207 7 rfl (Nat.le_of_ble_eq_true rfl)
    have V207 : Arv Z h207 b173 k173 .char (12 : Int32) [(.int (9 : Int32)), (.int (10 : Int32)), (.int (11 : Int32)), (.int (12 : Int32)), (.int (13 : Int32)), (.int (32 : Int32)), (.int (8 : Int32)), (.int (14 : Int32)), (.int (0 : Int32)), (.int (0 : Int32)), (.int (0 : Int32)), (.int (0 : Int32))] (.int (0 : Int32)) := by
      have q := Vx207
      rw [show Value.int (nar .char (14 : Int32)) = (.int (14 : Int32)) from congrArg Value.int (by decide)] at q
      exact q
    have Z208 : n0 ≤ h207.size := Nat.le_trans Z204 (Keep.of_wr W207).1
    have K209 : Keep h0 h207 [] := K205.wr W207 (Or.inr g175)
    obtain ⟨cl210, Ar210, aq210, aS210, aN210, aH210, aG210⟩ := id V207
    obtain ⟨T211, h211, X211, e211, W211, st211⟩ := stC X207 hx hZ e207 Ar210 (j := (8 : Int32)) (inb_of aS210 ⟨(by decide), (by decide)⟩) (g := (mkF m 58 #[iv p1, .unset] [.int 31, .int 8, .ref b173, .ref b173])) rfl rfl (hb hby own_d22_58)
    have N211 := Fr.snoc X211 N207 g174
    have Vx211 := Arv.set Ar210 aq210 aS210 aN210 aH210 aG210 (fits_nar_char _) W211 8 rfl (Nat.le_of_ble_eq_true rfl)
    have V211 : Arv Z h211 b173 k173 .char (12 : Int32) [(.int (9 : Int32)), (.int (10 : Int32)), (.int (11 : Int32)), (.int (12 : Int32)), (.int (13 : Int32)), (.int (32 : Int32)), (.int (8 : Int32)), (.int (14 : Int32)), (.int (31 : Int32)), (.int (0 : Int32)), (.int (0 : Int32)), (.int (0 : Int32))] (.int (0 : Int32)) := by
      have q := Vx211
      rw [show Value.int (nar .char (31 : Int32)) = (.int (31 : Int32)) from congrArg Value.int (by decide)] at q
      exact q
    have Z212 : n0 ≤ h211.size := Nat.le_trans Z208 (Keep.of_wr W211).1
    have K213 : Keep h0 h211 [] := K209.wr W211 (Or.inr g175)
    obtain ⟨cl214, Ar214, aq214, aS214, aN214, aH214, aG214⟩ := id V211
    obtain ⟨T215, h215, X215, e215, W215, st215⟩ := stC X211 hx hZ e211 Ar214 (j := (9 : Int32)) (inb_of aS214 ⟨(by decide), (by decide)⟩) (g := (mkF m 64 #[iv p1, .unset] [.int 33, .int 9, .ref b173, .ref b173])) rfl rfl (hb hby own_d22_64)
    have N215 := Fr.snoc X215 N211 g174
    have Vx215 := Arv.set Ar214 aq214 aS214 aN214 aH214 aG214 (fits_nar_char _) W215 9 rfl (Nat.le_of_ble_eq_true rfl)
    have V215 : Arv Z h215 b173 k173 .char (12 : Int32) [(.int (9 : Int32)), (.int (10 : Int32)), (.int (11 : Int32)), (.int (12 : Int32)), (.int (13 : Int32)), (.int (32 : Int32)), (.int (8 : Int32)), (.int (14 : Int32)), (.int (31 : Int32)), (.int (33 : Int32)), (.int (0 : Int32)), (.int (0 : Int32))] (.int (0 : Int32)) := by
      have q := Vx215
      rw [show Value.int (nar .char (33 : Int32)) = (.int (33 : Int32)) from congrArg Value.int (by decide)] at q
      exact q
    have Z216 : n0 ≤ h215.size := Nat.le_trans Z212 (Keep.of_wr W215).1
    have K217 : Keep h0 h215 [] := K213.wr W215 (Or.inr g175)
    obtain ⟨cl218, Ar218, aq218, aS218, aN218, aH218, aG218⟩ := id V215
    obtain ⟨T219, h219, X219, e219, W219, st219⟩ := stC X215 hx hZ e215 Ar218 (j := (10 : Int32)) (inb_of aS218 ⟨(by decide), (by decide)⟩) (g := (mkF m 71 #[iv p1, .unset] [.int 133, .int 10, .ref b173, .ref b173])) rfl rfl (hb hby own_d22_71)
    have N219 := Fr.snoc X219 N215 g174
    have Vx219 := Arv.set Ar218 aq218 aS218 aN218 aH218 aG218 (fits_nar_char _) W219 10 rfl (Nat.le_of_ble_eq_true rfl)
    have V219 : Arv Z h219 b173 k173 .char (12 : Int32) [(.int (9 : Int32)), (.int (10 : Int32)), (.int (11 : Int32)), (.int (12 : Int32)), (.int (13 : Int32)), (.int (32 : Int32)), (.int (8 : Int32)), (.int (14 : Int32)), (.int (31 : Int32)), (.int (33 : Int32)), (.int (133 : Int32)), (.int (0 : Int32))] (.int (0 : Int32)) := by
      have q := Vx219
      rw [show Value.int (nar .char (133 : Int32)) = (.int (133 : Int32)) from congrArg Value.int (by decide)] at q
      exact q
    have Z220 : n0 ≤ h219.size := Nat.le_trans Z216 (Keep.of_wr W219).1
    have K221 : Keep h0 h219 [] := K217.wr W219 (Or.inr g175)
    obtain ⟨cl222, Ar222, aq222, aS222, aN222, aH222, aG222⟩ := id V219
    obtain ⟨T223, h223, X223, e223, W223, st223⟩ := stC X219 hx hZ e219 Ar222 (j := (11 : Int32)) (inb_of aS222 ⟨(by decide), (by decide)⟩) (g := (mkF m 78 #[iv p1, .unset] [.int 160, .int 11, .ref b173, .ref b173])) rfl rfl (hb hby own_d22_78)
    have N223 := Fr.snoc X223 N219 g174
    have Vx223 := Arv.set Ar222 aq222 aS222 aN222 aH222 aG222 (fits_nar_char _) W223 11 rfl (Nat.le_of_ble_eq_true rfl)
    have V223 : Arv Z h223 b173 k173 .char (12 : Int32) [(.int (9 : Int32)), (.int (10 : Int32)), (.int (11 : Int32)), (.int (12 : Int32)), (.int (13 : Int32)), (.int (32 : Int32)), (.int (8 : Int32)), (.int (14 : Int32)), (.int (31 : Int32)), (.int (33 : Int32)), (.int (133 : Int32)), (.int (160 : Int32))] (.int (0 : Int32)) := by
      have q := Vx223
      rw [show Value.int (nar .char (160 : Int32)) = (.int (160 : Int32)) from congrArg Value.int (by decide)] at q
      exact q
    have Z224 : n0 ≤ h223.size := Nat.le_trans Z220 (Keep.of_wr W223).1
    have K225 : Keep h0 h223 [] := K221.wr W223 (Or.inr g175)
    obtain ⟨cl226, Ar226, aq226, aS226, aN226, aH226, aG226⟩ := id V223
    have hi := inb_of aS226 (own_idx12 p1)
    have hlt : (((own_ushr p1 (17 : Int32)) % (12 : Int32))).toNatClampNeg < cl226.slots.size := Nat.lt_of_not_le fun q => hi (Or.inr q)
    have hft := aG226 _ hlt
    obtain ⟨c9, ec9⟩ := fit_I hft (by simp)
    rw [ec9] at hft
    have ha := Has.at aH226 hi ec9
    have hb9 : ¬ c9 < 0 ∧ ¬ (65535 : Int32) < c9 := by
      simp only [fits, Bool.and_eq_true, decide_eq_true_eq] at hft
      exact ⟨Int32.not_lt.mpr hft.1, Int32.not_lt.mpr hft.2⟩
    obtain ⟨fs, hr, hrun, hended, hW, hsame⟩ := X223.leave (v := some (.int (nar .char c9))) (fun h => by rw [Bd.returns] at h; cases h)
    refine ⟨_, _, pre0 _ (G172 _ (?_)), hrun, hended, _, _, rfl, ?_, ⟨_, rfl⟩, hW, hsame.mono (by decide) (by decide)⟩
    · show Steps p.tables e below (s₁.setTop (mkF m 4 #[iv p1, .unset] [.int (p1 &&& (65536 : Int32))])) _
      refine XS.ifNo X0.here hx rfl (hb hby own_d22_4) rfl ((if0 _ _).trans (feq (hc : ¬ ((p1 &&& (65536 : Int32)) = (0 : Int32)))).1) ?_
      show Steps _ _ _ (s₁.setTop (mkF m 7 _ [])) _
      refine XS.bipush X0.here hx rfl (hb hby own_d22_7) ?_
      show Steps _ _ _ (s₁.setTop (mkF m 9 _ [.int 12])) _
      refine st173 _ ?_
      show Steps p.tables e below (T173.setTop (mkF m 11 #[iv p1, .unset] [.ref b173])) _
      refine XS.dup X173.here hx rfl (hb hby own_d22_11) rfl rfl ?_
      show Steps _ _ _ (T173.setTop (mkF m 12 _ [.ref b173, .ref b173])) _
      refine XS.iconst X173.here hx rfl (hb hby own_d22_12) ?_
      show Steps _ _ _ (T173.setTop (mkF m 13 _ [.int 0, .ref b173, .ref b173])) _
      refine XS.bipush X173.here hx rfl (hb hby own_d22_13) ?_
      show Steps _ _ _ (T173.setTop (mkF m 15 _ [.int 9, .int 0, .ref b173, .ref b173])) _
      refine st179 _ ?_
      show Steps p.tables e below (T179.setTop (mkF m 16 #[iv p1, .unset] [.ref b173])) _
      refine XS.dup X179.here hx rfl (hb hby own_d22_16) rfl rfl ?_
      show Steps _ _ _ (T179.setTop (mkF m 17 _ [.ref b173, .ref b173])) _
      refine XS.iconst X179.here hx rfl (hb hby own_d22_17) ?_
      show Steps _ _ _ (T179.setTop (mkF m 18 _ [.int 1, .ref b173, .ref b173])) _
      refine XS.bipush X179.here hx rfl (hb hby own_d22_18) ?_
      show Steps _ _ _ (T179.setTop (mkF m 20 _ [.int 10, .int 1, .ref b173, .ref b173])) _
      refine st183 _ ?_
      show Steps p.tables e below (T183.setTop (mkF m 21 #[iv p1, .unset] [.ref b173])) _
      refine XS.dup X183.here hx rfl (hb hby own_d22_21) rfl rfl ?_
      show Steps _ _ _ (T183.setTop (mkF m 22 _ [.ref b173, .ref b173])) _
      refine XS.iconst X183.here hx rfl (hb hby own_d22_22) ?_
      show Steps _ _ _ (T183.setTop (mkF m 23 _ [.int 2, .ref b173, .ref b173])) _
      refine XS.bipush X183.here hx rfl (hb hby own_d22_23) ?_
      show Steps _ _ _ (T183.setTop (mkF m 25 _ [.int 11, .int 2, .ref b173, .ref b173])) _
      refine st187 _ ?_
      show Steps p.tables e below (T187.setTop (mkF m 26 #[iv p1, .unset] [.ref b173])) _
      refine XS.dup X187.here hx rfl (hb hby own_d22_26) rfl rfl ?_
      show Steps _ _ _ (T187.setTop (mkF m 27 _ [.ref b173, .ref b173])) _
      refine XS.iconst X187.here hx rfl (hb hby own_d22_27) ?_
      show Steps _ _ _ (T187.setTop (mkF m 28 _ [.int 3, .ref b173, .ref b173])) _
      refine XS.bipush X187.here hx rfl (hb hby own_d22_28) ?_
      show Steps _ _ _ (T187.setTop (mkF m 30 _ [.int 12, .int 3, .ref b173, .ref b173])) _
      refine st191 _ ?_
      show Steps p.tables e below (T191.setTop (mkF m 31 #[iv p1, .unset] [.ref b173])) _
      refine XS.dup X191.here hx rfl (hb hby own_d22_31) rfl rfl ?_
      show Steps _ _ _ (T191.setTop (mkF m 32 _ [.ref b173, .ref b173])) _
      refine XS.iconst X191.here hx rfl (hb hby own_d22_32) ?_
      show Steps _ _ _ (T191.setTop (mkF m 33 _ [.int 4, .ref b173, .ref b173])) _
      refine XS.bipush X191.here hx rfl (hb hby own_d22_33) ?_
      show Steps _ _ _ (T191.setTop (mkF m 35 _ [.int 13, .int 4, .ref b173, .ref b173])) _
      refine st195 _ ?_
      show Steps p.tables e below (T195.setTop (mkF m 36 #[iv p1, .unset] [.ref b173])) _
      refine XS.dup X195.here hx rfl (hb hby own_d22_36) rfl rfl ?_
      show Steps _ _ _ (T195.setTop (mkF m 37 _ [.ref b173, .ref b173])) _
      refine XS.iconst X195.here hx rfl (hb hby own_d22_37) ?_
      show Steps _ _ _ (T195.setTop (mkF m 38 _ [.int 5, .ref b173, .ref b173])) _
      refine XS.bipush X195.here hx rfl (hb hby own_d22_38) ?_
      show Steps _ _ _ (T195.setTop (mkF m 40 _ [.int 32, .int 5, .ref b173, .ref b173])) _
      refine st199 _ ?_
      show Steps p.tables e below (T199.setTop (mkF m 41 #[iv p1, .unset] [.ref b173])) _
      refine XS.dup X199.here hx rfl (hb hby own_d22_41) rfl rfl ?_
      show Steps _ _ _ (T199.setTop (mkF m 42 _ [.ref b173, .ref b173])) _
      refine XS.bipush X199.here hx rfl (hb hby own_d22_42) ?_
      show Steps _ _ _ (T199.setTop (mkF m 44 _ [.int 6, .ref b173, .ref b173])) _
      refine XS.bipush X199.here hx rfl (hb hby own_d22_44) ?_
      show Steps _ _ _ (T199.setTop (mkF m 46 _ [.int 8, .int 6, .ref b173, .ref b173])) _
      refine st203 _ ?_
      show Steps p.tables e below (T203.setTop (mkF m 47 #[iv p1, .unset] [.ref b173])) _
      refine XS.dup X203.here hx rfl (hb hby own_d22_47) rfl rfl ?_
      show Steps _ _ _ (T203.setTop (mkF m 48 _ [.ref b173, .ref b173])) _
      refine XS.bipush X203.here hx rfl (hb hby own_d22_48) ?_
      show Steps _ _ _ (T203.setTop (mkF m 50 _ [.int 7, .ref b173, .ref b173])) _
      refine XS.bipush X203.here hx rfl (hb hby own_d22_50) ?_
      show Steps _ _ _ (T203.setTop (mkF m 52 _ [.int 14, .int 7, .ref b173, .ref b173])) _
      refine st207 _ ?_
      show Steps p.tables e below (T207.setTop (mkF m 53 #[iv p1, .unset] [.ref b173])) _
      refine XS.dup X207.here hx rfl (hb hby own_d22_53) rfl rfl ?_
      show Steps _ _ _ (T207.setTop (mkF m 54 _ [.ref b173, .ref b173])) _
      refine XS.bipush X207.here hx rfl (hb hby own_d22_54) ?_
      show Steps _ _ _ (T207.setTop (mkF m 56 _ [.int 8, .ref b173, .ref b173])) _
      refine XS.bipush X207.here hx rfl (hb hby own_d22_56) ?_
      show Steps _ _ _ (T207.setTop (mkF m 58 _ [.int 31, .int 8, .ref b173, .ref b173])) _
      refine st211 _ ?_
      show Steps p.tables e below (T211.setTop (mkF m 59 #[iv p1, .unset] [.ref b173])) _
      refine XS.dup X211.here hx rfl (hb hby own_d22_59) rfl rfl ?_
      show Steps _ _ _ (T211.setTop (mkF m 60 _ [.ref b173, .ref b173])) _
      refine XS.bipush X211.here hx rfl (hb hby own_d22_60) ?_
      show Steps _ _ _ (T211.setTop (mkF m 62 _ [.int 9, .ref b173, .ref b173])) _
      refine XS.bipush X211.here hx rfl (hb hby own_d22_62) ?_
      show Steps _ _ _ (T211.setTop (mkF m 64 _ [.int 33, .int 9, .ref b173, .ref b173])) _
      refine st215 _ ?_
      show Steps p.tables e below (T215.setTop (mkF m 65 #[iv p1, .unset] [.ref b173])) _
      refine XS.dup X215.here hx rfl (hb hby own_d22_65) rfl rfl ?_
      show Steps _ _ _ (T215.setTop (mkF m 66 _ [.ref b173, .ref b173])) _
      refine XS.bipush X215.here hx rfl (hb hby own_d22_66) ?_
      show Steps _ _ _ (T215.setTop (mkF m 68 _ [.int 10, .ref b173, .ref b173])) _
      refine XS.sipush X215.here hx rfl (hb hby own_d22_68) ?_
      show Steps _ _ _ (T215.setTop (mkF m 71 _ [.int 133, .int 10, .ref b173, .ref b173])) _
      refine st219 _ ?_
      show Steps p.tables e below (T219.setTop (mkF m 72 #[iv p1, .unset] [.ref b173])) _
      refine XS.dup X219.here hx rfl (hb hby own_d22_72) rfl rfl ?_
      show Steps _ _ _ (T219.setTop (mkF m 73 _ [.ref b173, .ref b173])) _
      refine XS.bipush X219.here hx rfl (hb hby own_d22_73) ?_
      show Steps _ _ _ (T219.setTop (mkF m 75 _ [.int 11, .ref b173, .ref b173])) _
      refine XS.sipush X219.here hx rfl (hb hby own_d22_75) ?_
      show Steps _ _ _ (T219.setTop (mkF m 78 _ [.int 160, .int 11, .ref b173, .ref b173])) _
      refine st223 _ ?_
      show Steps p.tables e below (T223.setTop (mkF m 79 #[iv p1, .unset] [.ref b173])) _
      refine XS.astoreN X223.here hx rfl (hb hby own_d22_79) rfl rfl (l' := #[iv p1, rv b173]) rfl ?_
      show Steps _ _ _ (T223.setTop (mkF m 80 _ [])) _
      refine XS.aloadN X223.here hx rfl (hb hby own_d22_80) rfl rfl ?_
      show Steps _ _ _ (T223.setTop (mkF m 81 _ [.ref b173])) _
      refine XS.iloadN X223.here hx rfl (hb hby own_d22_81) rfl ?_
      show Steps _ _ _ (T223.setTop (mkF m 82 _ [.int p1, .ref b173])) _
      refine XS.bipush X223.here hx rfl (hb hby own_d22_82) ?_
      show Steps _ _ _ (T223.setTop (mkF m 84 _ [.int 17, .int p1, .ref b173])) _
      refine XS.iushr X223.here hx rfl (hb hby own_d22_84) rfl ?_
      show Steps _ _ _ (T223.setTop (mkF m 85 _ [.int (own_ushr p1 (17 : Int32)), .ref b173])) _
      refine XS.bipush X223.here hx rfl (hb hby own_d22_85) ?_
      show Steps _ _ _ (T223.setTop (mkF m 87 _ [.int 12, .int (own_ushr p1 (17 : Int32)), .ref b173])) _
      refine XS.irem X223.here hx rfl (hb hby own_d22_87) rfl (by decide) ?_
      rw [own_rem_eq (own_ushr p1 (17 : Int32)) (12 : Int32)]
      show Steps p.tables e below (T223.setTop (mkF m 88 #[iv p1, rv b173] [.int ((own_ushr p1 (17 : Int32)) % (12 : Int32)), .ref b173])) _
      refine X223.caload hx (j := ((own_ushr p1 (17 : Int32)) % (12 : Int32))) (v := (.int c9)) (by rw [e223]; exact Ar226.1) (State.isArrayOf_alike hZ.alike Ar226.2.1) Ar226.2.2 hi ha (g := (mkF m 88 #[iv p1, rv b173] [.int ((own_ushr p1 (17 : Int32)) % (12 : Int32)), .ref b173])) rfl rfl (hb hby own_d22_88) _ ?_
      show Steps p.tables e below (T223.setTop (mkF m 89 #[iv p1, rv b173] [.int c9])) _
      exact retN X223 hx (t := .char) Bd.returns (by simp) (hb hby own_d22_89) hr
    · show Q_pick Z p1 h0 n0 _ T223.heap _
      rw [e223]
      exact ⟨_, rfl, own_charb _, N223, K225⟩
theorem own_d23_0 : decode method_4_code 0 = .ok (.iload_n 0, 1) := by decide +kernel
theorem own_d23_1 : decode method_4_code 1 = .ok (.bipush 32, 2) := by decide +kernel
theorem own_d23_3 : decode method_4_code 3 = .ok (.if_icmp .eq 15, 3) := by decide +kernel
theorem own_d23_18 : decode method_4_code 18 = .ok (.iconst 1, 1) := by decide +kernel
theorem own_d23_19 : decode method_4_code 19 = .ok (.goto 4, 3) := by decide +kernel
theorem own_d23_23 : decode method_4_code 23 = .ok (.ireturn, 1) := by decide +kernel
theorem own_d23_6 : decode method_4_code 6 = .ok (.iload_n 0, 1) := by decide +kernel
theorem own_d23_7 : decode method_4_code 7 = .ok (.bipush 9, 2) := by decide +kernel
theorem own_d23_9 : decode method_4_code 9 = .ok (.if_icmp .lt 13, 3) := by decide +kernel
theorem own_d23_22 : decode method_4_code 22 = .ok (.iconst 0, 1) := by decide +kernel
theorem own_d23_12 : decode method_4_code 12 = .ok (.iload_n 0, 1) := by decide +kernel
theorem own_d23_13 : decode method_4_code 13 = .ok (.bipush 13, 2) := by decide +kernel
theorem own_d23_15 : decode method_4_code 15 = .ok (.if_icmp .gt 7, 3) := by decide +kernel
theorem own_ef_ws (m : MethodId) (x0 : Int32) : entryFrame m #[(.int x0)] 1 = mkF m 0 #[iv x0] [] := by first | (simp [entryFrame, mkF, argsToLocals, Value.category]; done) | rfl
def Q_ws (Z : State) (c1 : Int32) (h0 : Heap) (n0 : Nat) (v : Option Value) (h : Heap) (L : List Loc) : Prop := Fr n0 L ∧ h = h0 ∧ ((v = some (.int 1) ∧ own_ws c1) ∨ (v = some (.int 0) ∧ ¬ own_ws c1))
set_option maxRecDepth 65536 in
set_option maxHeartbeats 40000000 in
theorem rm_ws (l : Launch) (Z : State) (a0 : Array Value) (hw : ∀ d ∈ tables_1, d.before a0 Z = true) (ws : List Jvm.Cond) (c1 : Int32) (h0 : Heap) (n0 : Nat) (Z0 : n0 ≤ h0.size)  :
    MetFree l (⟨"com/example/seshat/seshat/trec/FieldsIsFieldPinLaw", "ws", "(C)Z"⟩ : MethodName) (head1 (Jvm.Cond.code (⟨"com/example/seshat/seshat/trec/FieldsIsFieldPinLaw", "ws", "(C)Z"⟩ : MethodName) method_4_code 1 (some .boolean) :: ws) ({ frames := 0, cells := 0, slots := 0, locals := 0 } : Room)) (fun a U => a = #[(.int c1)] ∧ Z.Warmed39 U.vm ∧ U.heap = h0) (fun _ _ _ _ _ => True) (fun _ U o U' => ∃ v L, o = .returned v ∧ Q_ws Z c1 h0 n0 v U'.heap L ∧ FrameEnd U o U' L ({ frames := 0, cells := 0, slots := 0, locals := 0 } : Room).cells ({ frames := 0, cells := 0, slots := 0, locals := 0 } : Room).slots) := by
  refine MetFree.of_bodySF (plainFor_of_name own_pn_1) hisR ?_
  intro p e s m args below meth c s₁ Bd hml0 hP hK
  obtain ⟨rfl, hZ, hh⟩ := hP
  have hx := Bd.exec
  have hby := Bd.bytes
  have hml : c.maxLocals = 1 := hml0
  have hown : s.vm.findClass "com/example/seshat/seshat/trec/FieldsIsFieldPinLaw" = some m.cls := findClass_of_methodNamed Bd.named
  have hnm := (name_of_methodNamed Bd.named Bd.method).1
  have W := own_W hw
  have X0 : Stand p l e ({ frames := 0, cells := 0, slots := 0, locals := 0 } : Room) s m #[(.int c1)] below meth c s₁ [] 0 0 := Stand.of_body Bd
  have e0 : s₁.heap = h0 := by rw [← hh, Bd.state]; rfl
  have N0 := Fr.nil n0
  have pre0 : ∀ tq, Steps p.tables e below (s₁.setTop (mkF m 0 #[iv c1] [])) tq → Steps p.tables e below (s₁.setTop (entryFrame m #[(.int c1)] 1)) tq := fun tq k => castTop (own_ef_ws m c1) k
  by_cases h1 : c1 = (32 : Int32)
  · obtain ⟨fs, hr, hrun, hended, hW, hsame⟩ := X0.leave (v := some (.int (1 : Int32))) (fun h => by rw [Bd.returns] at h; cases h)
    refine ⟨_, _, pre0 _ (?_), hrun, hended, _, _, rfl, ?_, ⟨_, rfl⟩, hW, hsame.mono (by decide) (by decide)⟩
    · show Steps p.tables e below (s₁.setTop (mkF m 0 #[iv c1] [])) _
      refine XS.iloadN X0.here hx rfl (hb hby own_d23_0) rfl ?_
      show Steps _ _ _ (s₁.setTop (mkF m 1 _ [.int c1])) _
      refine XS.bipush X0.here hx rfl (hb hby own_d23_1) ?_
      show Steps _ _ _ (s₁.setTop (mkF m 3 _ [.int 32, .int c1])) _
      refine XS.icmpYes X0.here hx rfl (pc0 := 3) (pc' := 18) rfl (hb hby own_d23_3) rfl (teq (h1 : c1 = (32 : Int32))).1 (by decide) (by decide) ?_
      show Steps _ _ _ (s₁.setTop (mkF m 18 _ [])) _
      refine XS.iconst X0.here hx rfl (hb hby own_d23_18) ?_
      show Steps _ _ _ (s₁.setTop (mkF m 19 _ [.int 1])) _
      refine XS.goto X0.here hx rfl (pc0 := 19) (pc' := 23) rfl (hb hby own_d23_19) (by decide) (by decide) ?_
      show Steps _ _ _ (s₁.setTop (mkF m 23 _ [.int 1])) _
      exact retN X0 hx (t := .boolean) Bd.returns (by simp) (hb hby own_d23_23) hr
    · show Q_ws Z c1 h0 n0 _ s₁.heap _
      rw [e0]
      exact ⟨N0, rfl, Or.inl ⟨rfl, Or.inl h1⟩⟩
  · by_cases h2 : c1 < (9 : Int32)
    · obtain ⟨fs, hr, hrun, hended, hW, hsame⟩ := X0.leave (v := some (.int (0 : Int32))) (fun h => by rw [Bd.returns] at h; cases h)
      refine ⟨_, _, pre0 _ (?_), hrun, hended, _, _, rfl, ?_, ⟨_, rfl⟩, hW, hsame.mono (by decide) (by decide)⟩
      · show Steps p.tables e below (s₁.setTop (mkF m 0 #[iv c1] [])) _
        refine XS.iloadN X0.here hx rfl (hb hby own_d23_0) rfl ?_
        show Steps _ _ _ (s₁.setTop (mkF m 1 _ [.int c1])) _
        refine XS.bipush X0.here hx rfl (hb hby own_d23_1) ?_
        show Steps _ _ _ (s₁.setTop (mkF m 3 _ [.int 32, .int c1])) _
        refine XS.icmpNo X0.here hx rfl (hb hby own_d23_3) rfl (feq (h1 : ¬ (c1 = (32 : Int32)))).1 ?_
        show Steps _ _ _ (s₁.setTop (mkF m 6 _ [])) _
        refine XS.iloadN X0.here hx rfl (hb hby own_d23_6) rfl ?_
        show Steps _ _ _ (s₁.setTop (mkF m 7 _ [.int c1])) _
        refine XS.bipush X0.here hx rfl (hb hby own_d23_7) ?_
        show Steps _ _ _ (s₁.setTop (mkF m 9 _ [.int 9, .int c1])) _
        refine XS.icmpYes X0.here hx rfl (pc0 := 9) (pc' := 22) rfl (hb hby own_d23_9) rfl (tlt (h2 : c1 < (9 : Int32))).1 (by decide) (by decide) ?_
        show Steps _ _ _ (s₁.setTop (mkF m 22 _ [])) _
        refine XS.iconst X0.here hx rfl (hb hby own_d23_22) ?_
        show Steps _ _ _ (s₁.setTop (mkF m 23 _ [.int 0])) _
        exact retN X0 hx (t := .boolean) Bd.returns (by simp) (hb hby own_d23_23) hr
      · show Q_ws Z c1 h0 n0 _ s₁.heap _
        rw [e0]
        exact ⟨N0, rfl, Or.inr ⟨rfl, (fun q => q.elim h1 (fun q => q.1 h2))⟩⟩
    · by_cases h3 : (13 : Int32) < c1
      · obtain ⟨fs, hr, hrun, hended, hW, hsame⟩ := X0.leave (v := some (.int (0 : Int32))) (fun h => by rw [Bd.returns] at h; cases h)
        refine ⟨_, _, pre0 _ (?_), hrun, hended, _, _, rfl, ?_, ⟨_, rfl⟩, hW, hsame.mono (by decide) (by decide)⟩
        · show Steps p.tables e below (s₁.setTop (mkF m 0 #[iv c1] [])) _
          refine XS.iloadN X0.here hx rfl (hb hby own_d23_0) rfl ?_
          show Steps _ _ _ (s₁.setTop (mkF m 1 _ [.int c1])) _
          refine XS.bipush X0.here hx rfl (hb hby own_d23_1) ?_
          show Steps _ _ _ (s₁.setTop (mkF m 3 _ [.int 32, .int c1])) _
          refine XS.icmpNo X0.here hx rfl (hb hby own_d23_3) rfl (feq (h1 : ¬ (c1 = (32 : Int32)))).1 ?_
          show Steps _ _ _ (s₁.setTop (mkF m 6 _ [])) _
          refine XS.iloadN X0.here hx rfl (hb hby own_d23_6) rfl ?_
          show Steps _ _ _ (s₁.setTop (mkF m 7 _ [.int c1])) _
          refine XS.bipush X0.here hx rfl (hb hby own_d23_7) ?_
          show Steps _ _ _ (s₁.setTop (mkF m 9 _ [.int 9, .int c1])) _
          refine XS.icmpNo X0.here hx rfl (hb hby own_d23_9) rfl (flt (h2 : ¬ (c1 < (9 : Int32)))).1 ?_
          show Steps _ _ _ (s₁.setTop (mkF m 12 _ [])) _
          refine XS.iloadN X0.here hx rfl (hb hby own_d23_12) rfl ?_
          show Steps _ _ _ (s₁.setTop (mkF m 13 _ [.int c1])) _
          refine XS.bipush X0.here hx rfl (hb hby own_d23_13) ?_
          show Steps p.tables e below (s₁.setTop (mkF m 15 #[iv c1] [.int 13, .int c1])) _
          refine XS.icmpYes X0.here hx rfl (pc0 := 15) (pc' := 22) rfl (hb hby own_d23_15) rfl (tlt (h3 : (13 : Int32) < c1)).2.2.1 (by decide) (by decide) ?_
          show Steps _ _ _ (s₁.setTop (mkF m 22 _ [])) _
          refine XS.iconst X0.here hx rfl (hb hby own_d23_22) ?_
          show Steps _ _ _ (s₁.setTop (mkF m 23 _ [.int 0])) _
          exact retN X0 hx (t := .boolean) Bd.returns (by simp) (hb hby own_d23_23) hr
        · show Q_ws Z c1 h0 n0 _ s₁.heap _
          rw [e0]
          exact ⟨N0, rfl, Or.inr ⟨rfl, (fun q => q.elim h1 (fun q => q.2 h3))⟩⟩
      · obtain ⟨fs, hr, hrun, hended, hW, hsame⟩ := X0.leave (v := some (.int (1 : Int32))) (fun h => by rw [Bd.returns] at h; cases h)
        refine ⟨_, _, pre0 _ (?_), hrun, hended, _, _, rfl, ?_, ⟨_, rfl⟩, hW, hsame.mono (by decide) (by decide)⟩
        · show Steps p.tables e below (s₁.setTop (mkF m 0 #[iv c1] [])) _
          refine XS.iloadN X0.here hx rfl (hb hby own_d23_0) rfl ?_
          show Steps _ _ _ (s₁.setTop (mkF m 1 _ [.int c1])) _
          refine XS.bipush X0.here hx rfl (hb hby own_d23_1) ?_
          show Steps _ _ _ (s₁.setTop (mkF m 3 _ [.int 32, .int c1])) _
          refine XS.icmpNo X0.here hx rfl (hb hby own_d23_3) rfl (feq (h1 : ¬ (c1 = (32 : Int32)))).1 ?_
          show Steps _ _ _ (s₁.setTop (mkF m 6 _ [])) _
          refine XS.iloadN X0.here hx rfl (hb hby own_d23_6) rfl ?_
          show Steps _ _ _ (s₁.setTop (mkF m 7 _ [.int c1])) _
          refine XS.bipush X0.here hx rfl (hb hby own_d23_7) ?_
          show Steps _ _ _ (s₁.setTop (mkF m 9 _ [.int 9, .int c1])) _
          refine XS.icmpNo X0.here hx rfl (hb hby own_d23_9) rfl (flt (h2 : ¬ (c1 < (9 : Int32)))).1 ?_
          show Steps _ _ _ (s₁.setTop (mkF m 12 _ [])) _
          refine XS.iloadN X0.here hx rfl (hb hby own_d23_12) rfl ?_
          show Steps _ _ _ (s₁.setTop (mkF m 13 _ [.int c1])) _
          refine XS.bipush X0.here hx rfl (hb hby own_d23_13) ?_
          show Steps p.tables e below (s₁.setTop (mkF m 15 #[iv c1] [.int 13, .int c1])) _
          refine XS.icmpNo X0.here hx rfl (hb hby own_d23_15) rfl (flt (h3 : ¬ ((13 : Int32) < c1))).2.2.1 ?_
          show Steps _ _ _ (s₁.setTop (mkF m 18 _ [])) _
          refine XS.iconst X0.here hx rfl (hb hby own_d23_18) ?_
          show Steps _ _ _ (s₁.setTop (mkF m 19 _ [.int 1])) _
          refine XS.goto X0.here hx rfl (pc0 := 19) (pc' := 23) rfl (hb hby own_d23_19) (by decide) (by decide) ?_
          show Steps _ _ _ (s₁.setTop (mkF m 23 _ [.int 1])) _
          exact retN X0 hx (t := .boolean) Bd.returns (by simp) (hb hby own_d23_23) hr
        · show Q_ws Z c1 h0 n0 _ s₁.heap _
          rw [e0]
          exact ⟨N0, rfl, Or.inl ⟨rfl, Or.inr ⟨h2, h3⟩⟩⟩
theorem own_pn_0 : plainName "com/example/seshat/seshat/trec/Fields" = true := by decide +kernel
theorem own_d26_0 : decode prog_57_method_5_code 0 = .ok (.iload_n 0, 1) := by decide +kernel
theorem own_d26_1 : decode prog_57_method_5_code 1 = .ok (.bipush 32, 2) := by decide +kernel
theorem own_d26_3 : decode prog_57_method_5_code 3 = .ok (.if_icmp .eq 33, 3) := by decide +kernel
theorem own_d26_36 : decode prog_57_method_5_code 36 = .ok (.iconst 1, 1) := by decide +kernel
theorem own_d26_37 : decode prog_57_method_5_code 37 = .ok (.goto 4, 3) := by decide +kernel
theorem own_d26_41 : decode prog_57_method_5_code 41 = .ok (.ireturn, 1) := by decide +kernel
theorem own_d26_6 : decode prog_57_method_5_code 6 = .ok (.iload_n 0, 1) := by decide +kernel
theorem own_d26_7 : decode prog_57_method_5_code 7 = .ok (.bipush 9, 2) := by decide +kernel
theorem own_d26_9 : decode prog_57_method_5_code 9 = .ok (.if_icmp .eq 27, 3) := by decide +kernel
theorem own_d26_12 : decode prog_57_method_5_code 12 = .ok (.iload_n 0, 1) := by decide +kernel
theorem own_d26_13 : decode prog_57_method_5_code 13 = .ok (.bipush 10, 2) := by decide +kernel
theorem own_d26_15 : decode prog_57_method_5_code 15 = .ok (.if_icmp .eq 21, 3) := by decide +kernel
theorem own_d26_18 : decode prog_57_method_5_code 18 = .ok (.iload_n 0, 1) := by decide +kernel
theorem own_d26_19 : decode prog_57_method_5_code 19 = .ok (.bipush 11, 2) := by decide +kernel
theorem own_d26_21 : decode prog_57_method_5_code 21 = .ok (.if_icmp .eq 15, 3) := by decide +kernel
theorem own_d26_24 : decode prog_57_method_5_code 24 = .ok (.iload_n 0, 1) := by decide +kernel
theorem own_d26_25 : decode prog_57_method_5_code 25 = .ok (.bipush 12, 2) := by decide +kernel
theorem own_d26_27 : decode prog_57_method_5_code 27 = .ok (.if_icmp .eq 9, 3) := by decide +kernel
theorem own_d26_30 : decode prog_57_method_5_code 30 = .ok (.iload_n 0, 1) := by decide +kernel
theorem own_d26_31 : decode prog_57_method_5_code 31 = .ok (.bipush 13, 2) := by decide +kernel
theorem own_d26_33 : decode prog_57_method_5_code 33 = .ok (.if_icmp .ne 7, 3) := by decide +kernel
theorem own_d26_40 : decode prog_57_method_5_code 40 = .ok (.iconst 0, 1) := by decide +kernel
theorem own_ef_isp (m : MethodId) (x0 : Int32) : entryFrame m #[(.int x0)] 1 = mkF m 0 #[iv x0] [] := by first | (simp [entryFrame, mkF, argsToLocals, Value.category]; done) | rfl
def Q_isp (Z : State) (c1 : Int32) (h0 : Heap) (n0 : Nat) (v : Option Value) (h : Heap) (L : List Loc) : Prop := Fr n0 L ∧ h = h0 ∧ ((v = some (.int 1) ∧ own_sp c1) ∨ (v = some (.int 0) ∧ ¬ own_sp c1))
set_option maxRecDepth 65536 in
set_option maxHeartbeats 40000000 in
theorem rm_isp (l : Launch) (Z : State) (a0 : Array Value) (hw : ∀ d ∈ tables_1, d.before a0 Z = true) (ws : List Jvm.Cond) (c1 : Int32) (h0 : Heap) (n0 : Nat) (Z0 : n0 ≤ h0.size)  :
    MetFree l (⟨"com/example/seshat/seshat/trec/Fields", "isSpace", "(C)Z"⟩ : MethodName) (head1 (Jvm.Cond.code (⟨"com/example/seshat/seshat/trec/Fields", "isSpace", "(C)Z"⟩ : MethodName) prog_57_method_5_code 1 (some .boolean) :: ws) ({ frames := 0, cells := 0, slots := 0, locals := 0 } : Room)) (fun a U => a = #[(.int c1)] ∧ Z.Warmed39 U.vm ∧ U.heap = h0) (fun _ _ _ _ _ => True) (fun _ U o U' => ∃ v L, o = .returned v ∧ Q_isp Z c1 h0 n0 v U'.heap L ∧ FrameEnd U o U' L ({ frames := 0, cells := 0, slots := 0, locals := 0 } : Room).cells ({ frames := 0, cells := 0, slots := 0, locals := 0 } : Room).slots) := by
  refine MetFree.of_bodySF (plainFor_of_name own_pn_0) hisR ?_
  intro p e s m args below meth c s₁ Bd hml0 hP hK
  obtain ⟨rfl, hZ, hh⟩ := hP
  have hx := Bd.exec
  have hby := Bd.bytes
  have hml : c.maxLocals = 1 := hml0
  have hown : s.vm.findClass "com/example/seshat/seshat/trec/Fields" = some m.cls := findClass_of_methodNamed Bd.named
  have hnm := (name_of_methodNamed Bd.named Bd.method).1
  have W := own_W hw
  have X0 : Stand p l e ({ frames := 0, cells := 0, slots := 0, locals := 0 } : Room) s m #[(.int c1)] below meth c s₁ [] 0 0 := Stand.of_body Bd
  have e0 : s₁.heap = h0 := by rw [← hh, Bd.state]; rfl
  have N0 := Fr.nil n0
  have pre0 : ∀ tq, Steps p.tables e below (s₁.setTop (mkF m 0 #[iv c1] [])) tq → Steps p.tables e below (s₁.setTop (entryFrame m #[(.int c1)] 1)) tq := fun tq k => castTop (own_ef_isp m c1) k
  by_cases hk0 : c1 = (32 : Int32)
  · obtain ⟨fs, hr, hrun, hended, hW, hsame⟩ := X0.leave (v := some (.int (1 : Int32))) (fun h => by rw [Bd.returns] at h; cases h)
    refine ⟨_, _, pre0 _ (?_), hrun, hended, _, _, rfl, ?_, ⟨_, rfl⟩, hW, hsame.mono (by decide) (by decide)⟩
    · show Steps p.tables e below (s₁.setTop (mkF m 0 #[iv c1] [])) _
      refine XS.iloadN X0.here hx rfl (hb hby own_d26_0) rfl ?_
      show Steps _ _ _ (s₁.setTop (mkF m 1 _ [.int c1])) _
      refine XS.bipush X0.here hx rfl (hb hby own_d26_1) ?_
      show Steps _ _ _ (s₁.setTop (mkF m 3 _ [.int 32, .int c1])) _
      refine XS.icmpYes X0.here hx rfl (pc0 := 3) (pc' := 36) rfl (hb hby own_d26_3) rfl (teq (hk0 : c1 = (32 : Int32))).1 (by decide) (by decide) ?_
      show Steps _ _ _ (s₁.setTop (mkF m 36 _ [])) _
      refine XS.iconst X0.here hx rfl (hb hby own_d26_36) ?_
      show Steps _ _ _ (s₁.setTop (mkF m 37 _ [.int 1])) _
      refine XS.goto X0.here hx rfl (pc0 := 37) (pc' := 41) rfl (hb hby own_d26_37) (by decide) (by decide) ?_
      show Steps _ _ _ (s₁.setTop (mkF m 41 _ [.int 1])) _
      exact retN X0 hx (t := .boolean) Bd.returns (by simp) (hb hby own_d26_41) hr
    · show Q_isp Z c1 h0 n0 _ s₁.heap _
      rw [e0]
      exact ⟨N0, rfl, Or.inl ⟨rfl, Or.inl hk0⟩⟩
  · by_cases hk1 : c1 = (9 : Int32)
    · obtain ⟨fs, hr, hrun, hended, hW, hsame⟩ := X0.leave (v := some (.int (1 : Int32))) (fun h => by rw [Bd.returns] at h; cases h)
      refine ⟨_, _, pre0 _ (?_), hrun, hended, _, _, rfl, ?_, ⟨_, rfl⟩, hW, hsame.mono (by decide) (by decide)⟩
      · show Steps p.tables e below (s₁.setTop (mkF m 0 #[iv c1] [])) _
        refine XS.iloadN X0.here hx rfl (hb hby own_d26_0) rfl ?_
        show Steps _ _ _ (s₁.setTop (mkF m 1 _ [.int c1])) _
        refine XS.bipush X0.here hx rfl (hb hby own_d26_1) ?_
        show Steps _ _ _ (s₁.setTop (mkF m 3 _ [.int 32, .int c1])) _
        refine XS.icmpNo X0.here hx rfl (hb hby own_d26_3) rfl (feq (hk0 : ¬ (c1 = (32 : Int32)))).1 ?_
        show Steps _ _ _ (s₁.setTop (mkF m 6 _ [])) _
        refine XS.iloadN X0.here hx rfl (hb hby own_d26_6) rfl ?_
        show Steps _ _ _ (s₁.setTop (mkF m 7 _ [.int c1])) _
        refine XS.bipush X0.here hx rfl (hb hby own_d26_7) ?_
        show Steps _ _ _ (s₁.setTop (mkF m 9 _ [.int 9, .int c1])) _
        refine XS.icmpYes X0.here hx rfl (pc0 := 9) (pc' := 36) rfl (hb hby own_d26_9) rfl (teq (hk1 : c1 = (9 : Int32))).1 (by decide) (by decide) ?_
        show Steps _ _ _ (s₁.setTop (mkF m 36 _ [])) _
        refine XS.iconst X0.here hx rfl (hb hby own_d26_36) ?_
        show Steps _ _ _ (s₁.setTop (mkF m 37 _ [.int 1])) _
        refine XS.goto X0.here hx rfl (pc0 := 37) (pc' := 41) rfl (hb hby own_d26_37) (by decide) (by decide) ?_
        show Steps p.tables e below (s₁.setTop (mkF m 41 #[iv c1] [.int 1])) _
        exact retN X0 hx (t := .boolean) Bd.returns (by simp) (hb hby own_d26_41) hr
      · show Q_isp Z c1 h0 n0 _ s₁.heap _
        rw [e0]
        exact ⟨N0, rfl, Or.inl ⟨rfl, Or.inr (Or.inl hk1)⟩⟩
    · by_cases hk2 : c1 = (10 : Int32)
      · obtain ⟨fs, hr, hrun, hended, hW, hsame⟩ := X0.leave (v := some (.int (1 : Int32))) (fun h => by rw [Bd.returns] at h; cases h)
        refine ⟨_, _, pre0 _ (?_), hrun, hended, _, _, rfl, ?_, ⟨_, rfl⟩, hW, hsame.mono (by decide) (by decide)⟩
        · show Steps p.tables e below (s₁.setTop (mkF m 0 #[iv c1] [])) _
          refine XS.iloadN X0.here hx rfl (hb hby own_d26_0) rfl ?_
          show Steps _ _ _ (s₁.setTop (mkF m 1 _ [.int c1])) _
          refine XS.bipush X0.here hx rfl (hb hby own_d26_1) ?_
          show Steps _ _ _ (s₁.setTop (mkF m 3 _ [.int 32, .int c1])) _
          refine XS.icmpNo X0.here hx rfl (hb hby own_d26_3) rfl (feq (hk0 : ¬ (c1 = (32 : Int32)))).1 ?_
          show Steps _ _ _ (s₁.setTop (mkF m 6 _ [])) _
          refine XS.iloadN X0.here hx rfl (hb hby own_d26_6) rfl ?_
          show Steps _ _ _ (s₁.setTop (mkF m 7 _ [.int c1])) _
          refine XS.bipush X0.here hx rfl (hb hby own_d26_7) ?_
          show Steps _ _ _ (s₁.setTop (mkF m 9 _ [.int 9, .int c1])) _
          refine XS.icmpNo X0.here hx rfl (hb hby own_d26_9) rfl (feq (hk1 : ¬ (c1 = (9 : Int32)))).1 ?_
          show Steps _ _ _ (s₁.setTop (mkF m 12 _ [])) _
          refine XS.iloadN X0.here hx rfl (hb hby own_d26_12) rfl ?_
          show Steps _ _ _ (s₁.setTop (mkF m 13 _ [.int c1])) _
          refine XS.bipush X0.here hx rfl (hb hby own_d26_13) ?_
          show Steps p.tables e below (s₁.setTop (mkF m 15 #[iv c1] [.int 10, .int c1])) _
          refine XS.icmpYes X0.here hx rfl (pc0 := 15) (pc' := 36) rfl (hb hby own_d26_15) rfl (teq (hk2 : c1 = (10 : Int32))).1 (by decide) (by decide) ?_
          show Steps _ _ _ (s₁.setTop (mkF m 36 _ [])) _
          refine XS.iconst X0.here hx rfl (hb hby own_d26_36) ?_
          show Steps _ _ _ (s₁.setTop (mkF m 37 _ [.int 1])) _
          refine XS.goto X0.here hx rfl (pc0 := 37) (pc' := 41) rfl (hb hby own_d26_37) (by decide) (by decide) ?_
          show Steps _ _ _ (s₁.setTop (mkF m 41 _ [.int 1])) _
          exact retN X0 hx (t := .boolean) Bd.returns (by simp) (hb hby own_d26_41) hr
        · show Q_isp Z c1 h0 n0 _ s₁.heap _
          rw [e0]
          exact ⟨N0, rfl, Or.inl ⟨rfl, Or.inr (Or.inr (Or.inl hk2))⟩⟩
      · by_cases hk3 : c1 = (11 : Int32)
        · obtain ⟨fs, hr, hrun, hended, hW, hsame⟩ := X0.leave (v := some (.int (1 : Int32))) (fun h => by rw [Bd.returns] at h; cases h)
          refine ⟨_, _, pre0 _ (?_), hrun, hended, _, _, rfl, ?_, ⟨_, rfl⟩, hW, hsame.mono (by decide) (by decide)⟩
          · show Steps p.tables e below (s₁.setTop (mkF m 0 #[iv c1] [])) _
            refine XS.iloadN X0.here hx rfl (hb hby own_d26_0) rfl ?_
            show Steps _ _ _ (s₁.setTop (mkF m 1 _ [.int c1])) _
            refine XS.bipush X0.here hx rfl (hb hby own_d26_1) ?_
            show Steps _ _ _ (s₁.setTop (mkF m 3 _ [.int 32, .int c1])) _
            refine XS.icmpNo X0.here hx rfl (hb hby own_d26_3) rfl (feq (hk0 : ¬ (c1 = (32 : Int32)))).1 ?_
            show Steps _ _ _ (s₁.setTop (mkF m 6 _ [])) _
            refine XS.iloadN X0.here hx rfl (hb hby own_d26_6) rfl ?_
            show Steps _ _ _ (s₁.setTop (mkF m 7 _ [.int c1])) _
            refine XS.bipush X0.here hx rfl (hb hby own_d26_7) ?_
            show Steps _ _ _ (s₁.setTop (mkF m 9 _ [.int 9, .int c1])) _
            refine XS.icmpNo X0.here hx rfl (hb hby own_d26_9) rfl (feq (hk1 : ¬ (c1 = (9 : Int32)))).1 ?_
            show Steps _ _ _ (s₁.setTop (mkF m 12 _ [])) _
            refine XS.iloadN X0.here hx rfl (hb hby own_d26_12) rfl ?_
            show Steps _ _ _ (s₁.setTop (mkF m 13 _ [.int c1])) _
            refine XS.bipush X0.here hx rfl (hb hby own_d26_13) ?_
            show Steps p.tables e below (s₁.setTop (mkF m 15 #[iv c1] [.int 10, .int c1])) _
            refine XS.icmpNo X0.here hx rfl (hb hby own_d26_15) rfl (feq (hk2 : ¬ (c1 = (10 : Int32)))).1 ?_
            show Steps _ _ _ (s₁.setTop (mkF m 18 _ [])) _
            refine XS.iloadN X0.here hx rfl (hb hby own_d26_18) rfl ?_
            show Steps _ _ _ (s₁.setTop (mkF m 19 _ [.int c1])) _
            refine XS.bipush X0.here hx rfl (hb hby own_d26_19) ?_
            show Steps _ _ _ (s₁.setTop (mkF m 21 _ [.int 11, .int c1])) _
            refine XS.icmpYes X0.here hx rfl (pc0 := 21) (pc' := 36) rfl (hb hby own_d26_21) rfl (teq (hk3 : c1 = (11 : Int32))).1 (by decide) (by decide) ?_
            show Steps _ _ _ (s₁.setTop (mkF m 36 _ [])) _
            refine XS.iconst X0.here hx rfl (hb hby own_d26_36) ?_
            show Steps _ _ _ (s₁.setTop (mkF m 37 _ [.int 1])) _
            refine XS.goto X0.here hx rfl (pc0 := 37) (pc' := 41) rfl (hb hby own_d26_37) (by decide) (by decide) ?_
            show Steps _ _ _ (s₁.setTop (mkF m 41 _ [.int 1])) _
            exact retN X0 hx (t := .boolean) Bd.returns (by simp) (hb hby own_d26_41) hr
          · show Q_isp Z c1 h0 n0 _ s₁.heap _
            rw [e0]
            exact ⟨N0, rfl, Or.inl ⟨rfl, Or.inr (Or.inr (Or.inr (Or.inl hk3)))⟩⟩
        · by_cases hk4 : c1 = (12 : Int32)
          · obtain ⟨fs, hr, hrun, hended, hW, hsame⟩ := X0.leave (v := some (.int (1 : Int32))) (fun h => by rw [Bd.returns] at h; cases h)
            refine ⟨_, _, pre0 _ (?_), hrun, hended, _, _, rfl, ?_, ⟨_, rfl⟩, hW, hsame.mono (by decide) (by decide)⟩
            · show Steps p.tables e below (s₁.setTop (mkF m 0 #[iv c1] [])) _
              refine XS.iloadN X0.here hx rfl (hb hby own_d26_0) rfl ?_
              show Steps _ _ _ (s₁.setTop (mkF m 1 _ [.int c1])) _
              refine XS.bipush X0.here hx rfl (hb hby own_d26_1) ?_
              show Steps _ _ _ (s₁.setTop (mkF m 3 _ [.int 32, .int c1])) _
              refine XS.icmpNo X0.here hx rfl (hb hby own_d26_3) rfl (feq (hk0 : ¬ (c1 = (32 : Int32)))).1 ?_
              show Steps _ _ _ (s₁.setTop (mkF m 6 _ [])) _
              refine XS.iloadN X0.here hx rfl (hb hby own_d26_6) rfl ?_
              show Steps _ _ _ (s₁.setTop (mkF m 7 _ [.int c1])) _
              refine XS.bipush X0.here hx rfl (hb hby own_d26_7) ?_
              show Steps _ _ _ (s₁.setTop (mkF m 9 _ [.int 9, .int c1])) _
              refine XS.icmpNo X0.here hx rfl (hb hby own_d26_9) rfl (feq (hk1 : ¬ (c1 = (9 : Int32)))).1 ?_
              show Steps _ _ _ (s₁.setTop (mkF m 12 _ [])) _
              refine XS.iloadN X0.here hx rfl (hb hby own_d26_12) rfl ?_
              show Steps _ _ _ (s₁.setTop (mkF m 13 _ [.int c1])) _
              refine XS.bipush X0.here hx rfl (hb hby own_d26_13) ?_
              show Steps p.tables e below (s₁.setTop (mkF m 15 #[iv c1] [.int 10, .int c1])) _
              refine XS.icmpNo X0.here hx rfl (hb hby own_d26_15) rfl (feq (hk2 : ¬ (c1 = (10 : Int32)))).1 ?_
              show Steps _ _ _ (s₁.setTop (mkF m 18 _ [])) _
              refine XS.iloadN X0.here hx rfl (hb hby own_d26_18) rfl ?_
              show Steps _ _ _ (s₁.setTop (mkF m 19 _ [.int c1])) _
              refine XS.bipush X0.here hx rfl (hb hby own_d26_19) ?_
              show Steps _ _ _ (s₁.setTop (mkF m 21 _ [.int 11, .int c1])) _
              refine XS.icmpNo X0.here hx rfl (hb hby own_d26_21) rfl (feq (hk3 : ¬ (c1 = (11 : Int32)))).1 ?_
              show Steps _ _ _ (s₁.setTop (mkF m 24 _ [])) _
              refine XS.iloadN X0.here hx rfl (hb hby own_d26_24) rfl ?_
              show Steps _ _ _ (s₁.setTop (mkF m 25 _ [.int c1])) _
              refine XS.bipush X0.here hx rfl (hb hby own_d26_25) ?_
              show Steps _ _ _ (s₁.setTop (mkF m 27 _ [.int 12, .int c1])) _
              refine XS.icmpYes X0.here hx rfl (pc0 := 27) (pc' := 36) rfl (hb hby own_d26_27) rfl (teq (hk4 : c1 = (12 : Int32))).1 (by decide) (by decide) ?_
              show Steps _ _ _ (s₁.setTop (mkF m 36 _ [])) _
              refine XS.iconst X0.here hx rfl (hb hby own_d26_36) ?_
              show Steps p.tables e below (s₁.setTop (mkF m 37 #[iv c1] [.int 1])) _
              refine XS.goto X0.here hx rfl (pc0 := 37) (pc' := 41) rfl (hb hby own_d26_37) (by decide) (by decide) ?_
              show Steps _ _ _ (s₁.setTop (mkF m 41 _ [.int 1])) _
              exact retN X0 hx (t := .boolean) Bd.returns (by simp) (hb hby own_d26_41) hr
            · show Q_isp Z c1 h0 n0 _ s₁.heap _
              rw [e0]
              exact ⟨N0, rfl, Or.inl ⟨rfl, Or.inr (Or.inr (Or.inr (Or.inr (Or.inl hk4))))⟩⟩
          · by_cases hk5 : c1 = (13 : Int32)
            · obtain ⟨fs, hr, hrun, hended, hW, hsame⟩ := X0.leave (v := some (.int (1 : Int32))) (fun h => by rw [Bd.returns] at h; cases h)
              refine ⟨_, _, pre0 _ (?_), hrun, hended, _, _, rfl, ?_, ⟨_, rfl⟩, hW, hsame.mono (by decide) (by decide)⟩
              · show Steps p.tables e below (s₁.setTop (mkF m 0 #[iv c1] [])) _
                refine XS.iloadN X0.here hx rfl (hb hby own_d26_0) rfl ?_
                show Steps _ _ _ (s₁.setTop (mkF m 1 _ [.int c1])) _
                refine XS.bipush X0.here hx rfl (hb hby own_d26_1) ?_
                show Steps _ _ _ (s₁.setTop (mkF m 3 _ [.int 32, .int c1])) _
                refine XS.icmpNo X0.here hx rfl (hb hby own_d26_3) rfl (feq (hk0 : ¬ (c1 = (32 : Int32)))).1 ?_
                show Steps _ _ _ (s₁.setTop (mkF m 6 _ [])) _
                refine XS.iloadN X0.here hx rfl (hb hby own_d26_6) rfl ?_
                show Steps _ _ _ (s₁.setTop (mkF m 7 _ [.int c1])) _
                refine XS.bipush X0.here hx rfl (hb hby own_d26_7) ?_
                show Steps _ _ _ (s₁.setTop (mkF m 9 _ [.int 9, .int c1])) _
                refine XS.icmpNo X0.here hx rfl (hb hby own_d26_9) rfl (feq (hk1 : ¬ (c1 = (9 : Int32)))).1 ?_
                show Steps _ _ _ (s₁.setTop (mkF m 12 _ [])) _
                refine XS.iloadN X0.here hx rfl (hb hby own_d26_12) rfl ?_
                show Steps _ _ _ (s₁.setTop (mkF m 13 _ [.int c1])) _
                refine XS.bipush X0.here hx rfl (hb hby own_d26_13) ?_
                show Steps p.tables e below (s₁.setTop (mkF m 15 #[iv c1] [.int 10, .int c1])) _
                refine XS.icmpNo X0.here hx rfl (hb hby own_d26_15) rfl (feq (hk2 : ¬ (c1 = (10 : Int32)))).1 ?_
                show Steps _ _ _ (s₁.setTop (mkF m 18 _ [])) _
                refine XS.iloadN X0.here hx rfl (hb hby own_d26_18) rfl ?_
                show Steps _ _ _ (s₁.setTop (mkF m 19 _ [.int c1])) _
                refine XS.bipush X0.here hx rfl (hb hby own_d26_19) ?_
                show Steps _ _ _ (s₁.setTop (mkF m 21 _ [.int 11, .int c1])) _
                refine XS.icmpNo X0.here hx rfl (hb hby own_d26_21) rfl (feq (hk3 : ¬ (c1 = (11 : Int32)))).1 ?_
                show Steps _ _ _ (s₁.setTop (mkF m 24 _ [])) _
                refine XS.iloadN X0.here hx rfl (hb hby own_d26_24) rfl ?_
                show Steps _ _ _ (s₁.setTop (mkF m 25 _ [.int c1])) _
                refine XS.bipush X0.here hx rfl (hb hby own_d26_25) ?_
                show Steps _ _ _ (s₁.setTop (mkF m 27 _ [.int 12, .int c1])) _
                refine XS.icmpNo X0.here hx rfl (hb hby own_d26_27) rfl (feq (hk4 : ¬ (c1 = (12 : Int32)))).1 ?_
                show Steps _ _ _ (s₁.setTop (mkF m 30 _ [])) _
                refine XS.iloadN X0.here hx rfl (hb hby own_d26_30) rfl ?_
                show Steps p.tables e below (s₁.setTop (mkF m 31 #[iv c1] [.int c1])) _
                refine XS.bipush X0.here hx rfl (hb hby own_d26_31) ?_
                show Steps _ _ _ (s₁.setTop (mkF m 33 _ [.int 13, .int c1])) _
                refine XS.icmpNo X0.here hx rfl (hb hby own_d26_33) rfl (teq (hk5 : c1 = (13 : Int32))).2 ?_
                show Steps _ _ _ (s₁.setTop (mkF m 36 _ [])) _
                refine XS.iconst X0.here hx rfl (hb hby own_d26_36) ?_
                show Steps _ _ _ (s₁.setTop (mkF m 37 _ [.int 1])) _
                refine XS.goto X0.here hx rfl (pc0 := 37) (pc' := 41) rfl (hb hby own_d26_37) (by decide) (by decide) ?_
                show Steps _ _ _ (s₁.setTop (mkF m 41 _ [.int 1])) _
                exact retN X0 hx (t := .boolean) Bd.returns (by simp) (hb hby own_d26_41) hr
              · show Q_isp Z c1 h0 n0 _ s₁.heap _
                rw [e0]
                exact ⟨N0, rfl, Or.inl ⟨rfl, Or.inr (Or.inr (Or.inr (Or.inr (Or.inr (hk5)))))⟩⟩
            · obtain ⟨fs, hr, hrun, hended, hW, hsame⟩ := X0.leave (v := some (.int (0 : Int32))) (fun h => by rw [Bd.returns] at h; cases h)
              refine ⟨_, _, pre0 _ (?_), hrun, hended, _, _, rfl, ?_, ⟨_, rfl⟩, hW, hsame.mono (by decide) (by decide)⟩
              · show Steps p.tables e below (s₁.setTop (mkF m 0 #[iv c1] [])) _
                refine XS.iloadN X0.here hx rfl (hb hby own_d26_0) rfl ?_
                show Steps _ _ _ (s₁.setTop (mkF m 1 _ [.int c1])) _
                refine XS.bipush X0.here hx rfl (hb hby own_d26_1) ?_
                show Steps _ _ _ (s₁.setTop (mkF m 3 _ [.int 32, .int c1])) _
                refine XS.icmpNo X0.here hx rfl (hb hby own_d26_3) rfl (feq (hk0 : ¬ (c1 = (32 : Int32)))).1 ?_
                show Steps _ _ _ (s₁.setTop (mkF m 6 _ [])) _
                refine XS.iloadN X0.here hx rfl (hb hby own_d26_6) rfl ?_
                show Steps _ _ _ (s₁.setTop (mkF m 7 _ [.int c1])) _
                refine XS.bipush X0.here hx rfl (hb hby own_d26_7) ?_
                show Steps _ _ _ (s₁.setTop (mkF m 9 _ [.int 9, .int c1])) _
                refine XS.icmpNo X0.here hx rfl (hb hby own_d26_9) rfl (feq (hk1 : ¬ (c1 = (9 : Int32)))).1 ?_
                show Steps _ _ _ (s₁.setTop (mkF m 12 _ [])) _
                refine XS.iloadN X0.here hx rfl (hb hby own_d26_12) rfl ?_
                show Steps _ _ _ (s₁.setTop (mkF m 13 _ [.int c1])) _
                refine XS.bipush X0.here hx rfl (hb hby own_d26_13) ?_
                show Steps p.tables e below (s₁.setTop (mkF m 15 #[iv c1] [.int 10, .int c1])) _
                refine XS.icmpNo X0.here hx rfl (hb hby own_d26_15) rfl (feq (hk2 : ¬ (c1 = (10 : Int32)))).1 ?_
                show Steps _ _ _ (s₁.setTop (mkF m 18 _ [])) _
                refine XS.iloadN X0.here hx rfl (hb hby own_d26_18) rfl ?_
                show Steps _ _ _ (s₁.setTop (mkF m 19 _ [.int c1])) _
                refine XS.bipush X0.here hx rfl (hb hby own_d26_19) ?_
                show Steps _ _ _ (s₁.setTop (mkF m 21 _ [.int 11, .int c1])) _
                refine XS.icmpNo X0.here hx rfl (hb hby own_d26_21) rfl (feq (hk3 : ¬ (c1 = (11 : Int32)))).1 ?_
                show Steps _ _ _ (s₁.setTop (mkF m 24 _ [])) _
                refine XS.iloadN X0.here hx rfl (hb hby own_d26_24) rfl ?_
                show Steps _ _ _ (s₁.setTop (mkF m 25 _ [.int c1])) _
                refine XS.bipush X0.here hx rfl (hb hby own_d26_25) ?_
                show Steps _ _ _ (s₁.setTop (mkF m 27 _ [.int 12, .int c1])) _
                refine XS.icmpNo X0.here hx rfl (hb hby own_d26_27) rfl (feq (hk4 : ¬ (c1 = (12 : Int32)))).1 ?_
                show Steps _ _ _ (s₁.setTop (mkF m 30 _ [])) _
                refine XS.iloadN X0.here hx rfl (hb hby own_d26_30) rfl ?_
                show Steps p.tables e below (s₁.setTop (mkF m 31 #[iv c1] [.int c1])) _
                refine XS.bipush X0.here hx rfl (hb hby own_d26_31) ?_
                show Steps _ _ _ (s₁.setTop (mkF m 33 _ [.int 13, .int c1])) _
                refine XS.icmpYes X0.here hx rfl (pc0 := 33) (pc' := 40) rfl (hb hby own_d26_33) rfl (feq (hk5 : ¬ (c1 = (13 : Int32)))).2 (by decide) (by decide) ?_
                show Steps _ _ _ (s₁.setTop (mkF m 40 _ [])) _
                refine XS.iconst X0.here hx rfl (hb hby own_d26_40) ?_
                show Steps _ _ _ (s₁.setTop (mkF m 41 _ [.int 0])) _
                exact retN X0 hx (t := .boolean) Bd.returns (by simp) (hb hby own_d26_41) hr
              · show Q_isp Z c1 h0 n0 _ s₁.heap _
                rw [e0]
                exact ⟨N0, rfl, Or.inr ⟨rfl, (fun q => q.elim hk0 (fun q => q.elim hk1 (fun q => q.elim hk2 (fun q => q.elim hk3 (fun q => q.elim hk4 hk5)))))⟩⟩
theorem own_d25_0 : decode prog_57_method_3_code 0 = .ok (.aload_n 0, 1) := by decide +kernel
theorem own_d25_1 : decode prog_57_method_3_code 1 = .ok (.invokevirtual 68, 3) := by decide +kernel
theorem own_d25_4 : decode prog_57_method_3_code 4 = .ok (.ifCond .ne 7, 3) := by decide +kernel
theorem own_d25_11 : decode prog_57_method_3_code 11 = .ok (.iconst 0, 1) := by decide +kernel
theorem own_d25_12 : decode prog_57_method_3_code 12 = .ok (.istore_n 1, 1) := by decide +kernel
theorem own_d25_13 : decode prog_57_method_3_code 13 = .ok (.iconst 0, 1) := by decide +kernel
theorem own_d25_14 : decode prog_57_method_3_code 14 = .ok (.istore_n 2, 1) := by decide +kernel
theorem own_d25_15 : decode prog_57_method_3_code 15 = .ok (.iload_n 2, 1) := by decide +kernel
theorem own_d25_16 : decode prog_57_method_3_code 16 = .ok (.aload_n 0, 1) := by decide +kernel
theorem own_d25_17 : decode prog_57_method_3_code 17 = .ok (.invokevirtual 10, 3) := by decide +kernel
theorem own_pd_6 : parseMethodDescriptor "()I" = some ⟨[], some .int⟩ := by decide +kernel
theorem own_d25_20 : decode prog_57_method_3_code 20 = .ok (.if_icmp .ge 30, 3) := by decide +kernel
theorem own_d25_50 : decode prog_57_method_3_code 50 = .ok (.iload_n 1, 1) := by decide +kernel
theorem own_d25_51 : decode prog_57_method_3_code 51 = .ok (.ireturn, 1) := by decide +kernel
theorem own_d25_7 : decode prog_57_method_3_code 7 = .ok (.iconst 1, 1) := by decide +kernel
theorem own_d25_8 : decode prog_57_method_3_code 8 = .ok (.goto 4, 3) := by decide +kernel
theorem own_d25_23 : decode prog_57_method_3_code 23 = .ok (.iload_n 1, 1) := by decide +kernel
theorem own_d25_24 : decode prog_57_method_3_code 24 = .ok (.ifCond .eq 26, 3) := by decide +kernel
theorem own_d25_27 : decode prog_57_method_3_code 27 = .ok (.aload_n 0, 1) := by decide +kernel
theorem own_d25_28 : decode prog_57_method_3_code 28 = .ok (.iload_n 2, 1) := by decide +kernel
theorem own_d25_29 : decode prog_57_method_3_code 29 = .ok (.invokevirtual 16, 3) := by decide +kernel
theorem own_pd_0 : parseMethodDescriptor "(I)C" = some ⟨[.int], some .char⟩ := by decide +kernel
theorem own_d25_32 : decode prog_57_method_3_code 32 = .ok (.invokestatic 20, 3) := by decide +kernel
theorem own_pd_11 : parseMethodDescriptor "(C)Z" = some ⟨[.char], some .boolean⟩ := by decide +kernel
theorem own_d25_35 : decode prog_57_method_3_code 35 = .ok (.ifCond .ne 7, 3) := by decide +kernel
theorem own_d25_42 : decode prog_57_method_3_code 42 = .ok (.iconst 0, 1) := by decide +kernel
theorem own_d25_43 : decode prog_57_method_3_code 43 = .ok (.istore_n 1, 1) := by decide +kernel
theorem own_d25_44 : decode prog_57_method_3_code 44 = .ok (.iinc 2 1, 3) := by decide +kernel
theorem own_d25_47 : decode prog_57_method_3_code 47 = .ok (.goto (-32), 3) := by decide +kernel
theorem own_d25_38 : decode prog_57_method_3_code 38 = .ok (.iconst 1, 1) := by decide +kernel
theorem own_d25_39 : decode prog_57_method_3_code 39 = .ok (.goto 4, 3) := by decide +kernel
theorem own_ef_isf (m : MethodId) (x0 : Addr) : entryFrame m #[(.ref x0)] 3 = mkF m 0 #[rv x0, .unset, .unset] [] := by first | (simp [entryFrame, mkF, argsToLocals, Value.category]; done) | rfl
def Q_isf (Z : State) (x1 : Addr) (kx : Nat) (cs : List Int32) (G1 : Int32) (G3 : Value) (h0 : Heap) (n0 : Nat) (v : Option Value) (h : Heap) (L : List Loc) : Prop := Fr n0 L ∧ h = h0 ∧ ((v = some (.int 1) ∧ (0 < cs.length ∧ ∀ j, j < cs.length → ¬ own_sp (cs.getD j 0))) ∨ (v = some (.int 0) ∧ ¬ (0 < cs.length ∧ ∀ j, j < cs.length → ¬ own_sp (cs.getD j 0))))
set_option maxRecDepth 65536 in
set_option maxHeartbeats 40000000 in
theorem rm_isf (l : Launch) (Z : State) (a0 : Array Value) (hw : ∀ d ∈ tables_1, d.before a0 Z = true) (ws : List Jvm.Cond) (x1 : Addr) (kx : Nat) (cs : List Int32) (G1 : Int32) (G3 : Value) (h0 : Heap) (n0 : Nat) (Z0 : n0 ≤ h0.size) (X00 : Old Z n0 h0) (SX : StrB Z h0 kx x1 cs) (hl : cs.length ≤ 4) (O2 : Sta Z Z.heap "java/lang/String" "COMPACT_STRINGS" "Z" (.int G1)) (P5 : ¬ (G1 = (0 : Int32))) (O4 : Sta Z Z.heap "jdk/internal/util/Preconditions" "SIOOBE_FORMATTER" "Ljava/util/function/BiFunction;" G3) (rG3 : G3.isRef = true) (OA : Sta Z Z.heap "java/lang/StringUTF16" "$assertionsDisabled" "Z" (.int (1 : Int32))) (OH : Sta Z Z.heap "java/lang/StringUTF16" "HI_BYTE_SHIFT" "I" (.int (0 : Int32))) (OL : Sta Z Z.heap "java/lang/StringUTF16" "LO_BYTE_SHIFT" "I" (.int (8 : Int32))) :
    MetFree l (⟨"com/example/seshat/seshat/trec/Fields", "isField", "(Ljava/lang/String;)Z"⟩ : MethodName) (head1 (Jvm.Cond.code (⟨"com/example/seshat/seshat/trec/Fields", "isField", "(Ljava/lang/String;)Z"⟩ : MethodName) prog_57_method_3_code 3 (some .boolean) :: ws) ({ frames := 5, cells := 0, slots := 0, locals := 87 } : Room)) (fun a U => a = #[(.ref x1)] ∧ Z.Warmed39 U.vm ∧ U.heap = h0) (fun _ _ _ _ _ => True) (fun _ U o U' => ∃ v L, o = .returned v ∧ Q_isf Z x1 kx cs G1 G3 h0 n0 v U'.heap L ∧ FrameEnd U o U' L ({ frames := 5, cells := 0, slots := 0, locals := 87 } : Room).cells ({ frames := 5, cells := 0, slots := 0, locals := 87 } : Room).slots) := by
  refine MetFree.of_bodySF (plainFor_of_name own_pn_0) hisR ?_
  intro p e s m args below meth c s₁ Bd hml0 hP hK
  obtain ⟨rfl, hZ, hh⟩ := hP
  have hx := Bd.exec
  have hby := Bd.bytes
  have hml : c.maxLocals = 3 := hml0
  have hown : s.vm.findClass "com/example/seshat/seshat/trec/Fields" = some m.cls := findClass_of_methodNamed Bd.named
  have hnm := (name_of_methodNamed Bd.named Bd.method).1
  have W := own_W hw
  have X0 : Stand p l e ({ frames := 5, cells := 0, slots := 0, locals := 87 } : Room) s m #[(.ref x1)] below meth c s₁ [] 0 0 := Stand.of_body Bd
  have e0 : s₁.heap = h0 := by rw [← hh, Bd.state]; rfl
  have N0 := Fr.nil n0
  have pre0 : ∀ tq, Steps p.tables e below (s₁.setTop (mkF m 0 #[rv x1, .unset, .unset] [])) tq → Steps p.tables e below (s₁.setTop (entryFrame m #[(.ref x1)] 3)) tq := fun tq k => castTop (own_ef_isf m x1) k
  have hln : ∀ d ∈ StrChars.Road.wordsLen, d.before a0 Z = true := fun d hd => hw d ((by decide +kernel : ∀ d ∈ StrChars.Road.wordsLen, d ∈ tables_1) d hd)
  have hem : ∀ d ∈ StrChars.Road.wordsEmp, d.before a0 Z = true := fun d hd => hw d ((by decide +kernel : ∀ d ∈ StrChars.Road.wordsEmp, d ∈ tables_1) d hd)
  have EX := SX.exa
  obtain ⟨cq227, kq227, q227a, q227b, q227c⟩ := isOf hZ e0 EX
  obtain ⟨_, _, ⟨T227, L227, k227, n227⟩, -, X227, ⟨Lc227, hQ227, l227, y227, z227⟩, st227⟩ := X0.virtualBack hx (y := (⟨"java/lang/String", "isEmpty", "()Z"⟩ : MethodName)) (z := (⟨"java/lang/String", "isEmpty", "()Z"⟩ : MethodName)) hown (mvT hZ (W 32 rfl)) (mvT hZ (W 33 rfl)) (notFace_of_selects (args := #[]) (mvT hZ (W 35 rfl))) (mvT hZ (W 35 rfl)) (mvT hZ (W 34 rfl)) (by decide) (own_empS (W := 0) hZ hem (kI := 4) (W 7 rfl) SX (by decide) (by decide)) q227a q227c (g := (mkF m 1 #[rv x1, .unset, .unset] [.ref x1])) rfl (by rw [hml]; rfl) (Steps.refl _) (argsL := []) (rest := []) (lenOf own_pd_5 rfl) rfl (by show 2 * 0 + _ ≤ _; exact Nat.le_of_eq rfl) (hb hby own_d25_1) (fun _ _ => ⟨rfl, e0, (by decide : 0 + 0 ≤ _), (by decide : 0 + 0 ≤ _)⟩)
  dsimp only [Pt.U, Pt.locs, Pt.cells, Pt.slots] at X227 l227 y227 z227 st227 hQ227
  subst l227 y227 z227
  obtain ⟨rfl, rfl, e227⟩ := hQ227
  have N227 := Fr.app N0 (Fr.nil n0)
  have G228 : ∀ tq, Steps p.tables e below (T227.setTop (mkF m 4 #[rv x1, .unset, .unset] [.int (if cs.length = 0 then 1 else 0)])) tq → Steps p.tables e below (s₁.setTop (mkF m 0 #[rv x1, .unset, .unset] [])) tq := by
    intro tq kk
    show Steps p.tables e below (s₁.setTop (mkF m 0 #[rv x1, .unset, .unset] [])) _
    refine XS.aloadN X0.here hx rfl (hb hby own_d25_0) rfl rfl ?_
    show Steps _ _ _ (s₁.setTop (mkF m 1 _ [.ref x1])) _
    refine st227.trans ?_
    exact kk
  by_cases hz : cs.length = 0
  · rw [if_pos hz] at G228
    obtain ⟨cq229, kq229, q229a, q229b, q229c⟩ := isOf hZ e227 EX
    obtain ⟨_, _, ⟨T229, L229, k229, n229⟩, -, X229, ⟨Lc229, hQ229, l229, y229, z229⟩, st229⟩ := X227.virtualBack hx (y := (⟨"java/lang/String", "length", "()I"⟩ : MethodName)) (z := (⟨"java/lang/String", "length", "()I"⟩ : MethodName)) hown (mvT hZ (W 37 rfl)) (mvT hZ (W 38 rfl)) (notFace_of_selects (args := #[]) (mvT hZ (W 40 rfl))) (mvT hZ (W 40 rfl)) (mvT hZ (W 39 rfl)) (by decide) (own_lenS (W := 1) hZ hln (kI := 4) (W 7 rfl) SX (O2.ext X00.2) P5 (by decide) (by decide)) q229a q229c (g := (mkF m 17 #[rv x1, iv 0, iv 0] [.ref x1, .int 0])) rfl (by rw [hml]; rfl) (Steps.refl _) (argsL := []) (rest := [.int 0]) (lenOf own_pd_6 rfl) rfl (by show 2 * 0 + _ ≤ _; exact Nat.le_of_eq rfl) (hb hby own_d25_17) (fun _ _ => ⟨rfl, e227, (by decide : 0 + 0 ≤ _), (by decide : 0 + 0 ≤ _)⟩)
    dsimp only [Pt.U, Pt.locs, Pt.cells, Pt.slots] at X229 l229 y229 z229 st229 hQ229
    subst l229 y229 z229
    obtain ⟨rfl, rfl, e229⟩ := hQ229
    have N229 := Fr.app N227 (Fr.nil n0)
    obtain ⟨fs, hr, hrun, hended, hW, hsame⟩ := X229.leave (v := some (.int (0 : Int32))) (fun h => by rw [Bd.returns] at h; cases h)
    refine ⟨_, _, pre0 _ (G228 _ (?_)), hrun, hended, _, _, rfl, ?_, ⟨_, rfl⟩, hW, hsame.mono (by decide) (by decide)⟩
    · show Steps p.tables e below (T227.setTop (mkF m 4 #[rv x1, .unset, .unset] [.int 1])) _
      refine XS.ifYes X227.here hx rfl (pc0 := 4) (pc' := 11) rfl (hb hby own_d25_4) rfl ((if0 _ _).trans (feq ((by decide) : ¬ ((1 : Int32) = (0 : Int32)))).2) (by decide) (by decide) ?_
      show Steps _ _ _ (T227.setTop (mkF m 11 _ [])) _
      refine XS.iconst X227.here hx rfl (hb hby own_d25_11) ?_
      show Steps _ _ _ (T227.setTop (mkF m 12 _ [.int 0])) _
      refine XS.istoreN X227.here hx rfl (hb hby own_d25_12) rfl (l' := #[rv x1, iv 0, .unset]) rfl ?_
      show Steps _ _ _ (T227.setTop (mkF m 13 _ [])) _
      refine XS.iconst X227.here hx rfl (hb hby own_d25_13) ?_
      show Steps _ _ _ (T227.setTop (mkF m 14 _ [.int 0])) _
      refine XS.istoreN X227.here hx rfl (hb hby own_d25_14) rfl (l' := #[rv x1, iv 0, iv 0]) rfl ?_
      show Steps _ _ _ (T227.setTop (mkF m 15 _ [])) _
      refine XS.iloadN X227.here hx rfl (hb hby own_d25_15) rfl ?_
      show Steps _ _ _ (T227.setTop (mkF m 16 _ [.int 0])) _
      refine XS.aloadN X227.here hx rfl (hb hby own_d25_16) rfl rfl ?_
      show Steps _ _ _ (T227.setTop (mkF m 17 _ [.ref x1, .int 0])) _
      refine st229.trans ?_
      show Steps p.tables e below (T229.setTop (mkF m 20 #[rv x1, iv 0, iv 0] [.int (Int32.ofNat cs.length), .int 0])) _
      refine XS.icmpYes X229.here hx rfl (pc0 := 20) (pc' := 50) rfl (hb hby own_d25_20) rfl (flt ((by rw [hz]; decide) : ¬ ((0 : Int32) < (Int32.ofNat cs.length)))).2.1 (by decide) (by decide) ?_
      show Steps _ _ _ (T229.setTop (mkF m 50 _ [])) _
      refine XS.iloadN X229.here hx rfl (hb hby own_d25_50) rfl ?_
      show Steps _ _ _ (T229.setTop (mkF m 51 _ [.int 0])) _
      exact retN X229 hx (t := .boolean) Bd.returns (by simp) (hb hby own_d25_51) hr
    · show Q_isf Z x1 kx cs G1 G3 h0 n0 _ T229.heap _
      rw [e229]
      exact ⟨N229, rfl, Or.inr ⟨rfl, fun q => absurd q.1 (by omega)⟩⟩
  · rw [if_neg hz] at G228
    have G230 : ∀ tq, Steps p.tables e below (T227.setTop (mkF m 15 #[rv x1, iv 1, iv 0] [])) tq → Steps p.tables e below (T227.setTop (mkF m 4 #[rv x1, .unset, .unset] [.int 0])) tq := by
      intro tq kk
      show Steps p.tables e below (T227.setTop (mkF m 4 #[rv x1, .unset, .unset] [.int 0])) _
      refine XS.ifNo X227.here hx rfl (hb hby own_d25_4) rfl ((if0 _ _).trans (teq (rfl : (0 : Int32) = (0 : Int32))).2) ?_
      show Steps _ _ _ (T227.setTop (mkF m 7 _ [])) _
      refine XS.iconst X227.here hx rfl (hb hby own_d25_7) ?_
      show Steps _ _ _ (T227.setTop (mkF m 8 _ [.int 1])) _
      refine XS.goto X227.here hx rfl (pc0 := 8) (pc' := 12) rfl (hb hby own_d25_8) (by decide) (by decide) ?_
      show Steps _ _ _ (T227.setTop (mkF m 12 _ [.int 1])) _
      refine XS.istoreN X227.here hx rfl (hb hby own_d25_12) rfl (l' := #[rv x1, iv 1, .unset]) rfl ?_
      show Steps _ _ _ (T227.setTop (mkF m 13 _ [])) _
      refine XS.iconst X227.here hx rfl (hb hby own_d25_13) ?_
      show Steps _ _ _ (T227.setTop (mkF m 14 _ [.int 0])) _
      refine XS.istoreN X227.here hx rfl (hb hby own_d25_14) rfl (l' := #[rv x1, iv 1, iv 0]) rfl ?_
      exact kk
    have loop : ∀ (k i : Nat) (T : State) (locs : List Loc), i + k = cs.length → (∀ j, j < i → ¬ own_sp (cs.getD j 0)) → Stand p l e ({ frames := 5, cells := 0, slots := 0, locals := 87 } : Room) s m #[(.ref x1)] below meth c T locs 0 0 → T.heap = h0 → Fr n0 locs →
        ∃ (T' : State) (locs' : List Loc) (f' : Int32) (i' : Nat), Stand p l e ({ frames := 5, cells := 0, slots := 0, locals := 87 } : Room) s m #[(.ref x1)] below meth c T' locs' 0 0 ∧ T'.heap = h0 ∧ Fr n0 locs' ∧ (∀ tgt, Steps p.tables e below (T'.setTop (mkF m 50 #[.val (.ref x1), .val (.int f'), .val (.int (Int32.ofNat i'))] [])) tgt → Steps p.tables e below (T.setTop (mkF m 15 #[.val (.ref x1), .val (.int (1 : Int32)), .val (.int (Int32.ofNat i))] [])) tgt) ∧
          ((f' = 1 ∧ ∀ j, j < cs.length → ¬ own_sp (cs.getD j 0)) ∨ (f' = 0 ∧ ¬ ∀ j, j < cs.length → ¬ own_sp (cs.getD j 0))) := by
      intro k
      induction k with
      | zero =>
        intro i T locs hi hd XT eT NT
        have hii : i = cs.length := by omega
        subst hii
        obtain ⟨cq231, kq231, q231a, q231b, q231c⟩ := isOf hZ eT EX
        obtain ⟨_, _, ⟨T231, L231, k231, n231⟩, -, X231, ⟨Lc231, hQ231, l231, y231, z231⟩, st231⟩ := XT.virtualBack hx (y := (⟨"java/lang/String", "length", "()I"⟩ : MethodName)) (z := (⟨"java/lang/String", "length", "()I"⟩ : MethodName)) hown (mvT hZ (W 37 rfl)) (mvT hZ (W 38 rfl)) (notFace_of_selects (args := #[]) (mvT hZ (W 40 rfl))) (mvT hZ (W 40 rfl)) (mvT hZ (W 39 rfl)) (by decide) (own_lenS (W := 1) hZ hln (kI := 4) (W 7 rfl) SX (O2.ext X00.2) P5 (by decide) (by decide)) q231a q231c (g := (mkF m 17 #[rv x1, iv 1, iv (Int32.ofNat cs.length)] [.ref x1, .int (Int32.ofNat cs.length)])) rfl (by rw [hml]; rfl) (Steps.refl _) (argsL := []) (rest := [.int (Int32.ofNat cs.length)]) (lenOf own_pd_6 rfl) rfl (by show 2 * 0 + _ ≤ _; exact Nat.le_of_eq rfl) (hb hby own_d25_17) (fun _ _ => ⟨rfl, eT, (by decide : 0 + 0 ≤ _), (by decide : 0 + 0 ≤ _)⟩)
        dsimp only [Pt.U, Pt.locs, Pt.cells, Pt.slots] at X231 l231 y231 z231 st231 hQ231
        subst l231 y231 z231
        obtain ⟨rfl, rfl, e231⟩ := hQ231
        have N231 := Fr.app NT (Fr.nil n0)
        have G232 : ∀ tq, Steps p.tables e below (T231.setTop (mkF m 50 #[rv x1, iv 1, iv (Int32.ofNat cs.length)] [])) tq → Steps p.tables e below (T.setTop (mkF m 15 #[rv x1, iv 1, iv (Int32.ofNat cs.length)] [])) tq := by
          intro tq kk
          show Steps p.tables e below (T.setTop (mkF m 15 #[rv x1, iv 1, iv (Int32.ofNat cs.length)] [])) _
          refine XS.iloadN XT.here hx rfl (hb hby own_d25_15) rfl ?_
          show Steps _ _ _ (T.setTop (mkF m 16 _ [.int (Int32.ofNat cs.length)])) _
          refine XS.aloadN XT.here hx rfl (hb hby own_d25_16) rfl rfl ?_
          show Steps _ _ _ (T.setTop (mkF m 17 _ [.ref x1, .int (Int32.ofNat cs.length)])) _
          refine st231.trans ?_
          show Steps p.tables e below (T231.setTop (mkF m 20 #[rv x1, iv 1, iv (Int32.ofNat cs.length)] [.int (Int32.ofNat cs.length), .int (Int32.ofNat cs.length)])) _
          refine XS.icmpYes X231.here hx rfl (pc0 := 20) (pc' := 50) rfl (hb hby own_d25_20) rfl (flt (Int32.lt_irrefl : ¬ ((Int32.ofNat cs.length) < (Int32.ofNat cs.length)))).2.1 (by decide) (by decide) ?_
          exact kk
        exact ⟨T231, _, 1, cs.length, X231, e231, N231, fun tgt kk => G232 _ kk, Or.inl ⟨rfl, hd⟩⟩
      | succ k ih =>
        intro i T locs hi hd XT eT NT
        have hil : i < cs.length := by omega
        have hit : Int32.ofNat i < Int32.ofNat cs.length := (own_ltI (by omega) (by omega)).mpr hil
        obtain ⟨cq233, kq233, q233a, q233b, q233c⟩ := isOf hZ eT EX
        obtain ⟨_, _, ⟨T233, L233, k233, n233⟩, -, X233, ⟨Lc233, hQ233, l233, y233, z233⟩, st233⟩ := XT.virtualBack hx (y := (⟨"java/lang/String", "length", "()I"⟩ : MethodName)) (z := (⟨"java/lang/String", "length", "()I"⟩ : MethodName)) hown (mvT hZ (W 37 rfl)) (mvT hZ (W 38 rfl)) (notFace_of_selects (args := #[]) (mvT hZ (W 40 rfl))) (mvT hZ (W 40 rfl)) (mvT hZ (W 39 rfl)) (by decide) (own_lenS (W := 1) hZ hln (kI := 4) (W 7 rfl) SX (O2.ext X00.2) P5 (by decide) (by decide)) q233a q233c (g := (mkF m 17 #[rv x1, iv 1, iv (Int32.ofNat i)] [.ref x1, .int (Int32.ofNat i)])) rfl (by rw [hml]; rfl) (Steps.refl _) (argsL := []) (rest := [.int (Int32.ofNat i)]) (lenOf own_pd_6 rfl) rfl (by show 2 * 0 + _ ≤ _; exact Nat.le_of_eq rfl) (hb hby own_d25_17) (fun _ _ => ⟨rfl, eT, (by decide : 0 + 0 ≤ _), (by decide : 0 + 0 ≤ _)⟩)
        dsimp only [Pt.U, Pt.locs, Pt.cells, Pt.slots] at X233 l233 y233 z233 st233 hQ233
        subst l233 y233 z233
        obtain ⟨rfl, rfl, e233⟩ := hQ233
        have N233 := Fr.app NT (Fr.nil n0)
        obtain ⟨cq234, kq234, q234a, q234b, q234c⟩ := isOf hZ e233 EX
        obtain ⟨_, _, ⟨T234, L234, k234, n234⟩, -, X234, ⟨Lc234, hQ234, l234, y234, z234⟩, st234⟩ := X233.virtualBack hx (y := (⟨"java/lang/String", "charAt", "(I)C"⟩ : MethodName)) (z := (⟨"java/lang/String", "charAt", "(I)C"⟩ : MethodName)) hown (mvT hZ (W 61 rfl)) (mvT hZ (W 62 rfl)) (notFace_of_selects (args := #[]) (mvT hZ (W 64 rfl))) (mvT hZ (W 64 rfl)) (mvT hZ (W 63 rfl)) (by decide) (own_chS (W := 0) hZ hw (i := i) (n0 := n0) Z0 X00 SX hil rfl O2 P5 O4 rG3 OA OH OL (by decide) (by decide)) q234a q234c (g := (mkF m 29 #[rv x1, iv 1, iv (Int32.ofNat i)] [.int (Int32.ofNat i), .ref x1])) rfl (by rw [hml]; rfl) (Steps.refl _) (argsL := [.int (Int32.ofNat i)]) (rest := []) (lenOf own_pd_0 rfl) rfl (by show 2 * 0 + _ ≤ _; exact Nat.le_of_eq rfl) (hb hby own_d25_29) (fun _ _ => ⟨rfl, e233, (by decide : 0 + 0 ≤ _), (by decide : 0 + 0 ≤ _)⟩)
        dsimp only [Pt.U, Pt.locs, Pt.cells, Pt.slots] at X234 l234 y234 z234 st234 hQ234
        subst l234 y234 z234
        obtain ⟨rfl, Nq234, e234⟩ := hQ234
        have N234 := Fr.app N233 Nq234
        obtain ⟨_, _, ⟨T235, L235, k235, n235⟩, -, X235, ⟨Lc235, hQ235, l235, y235, z235⟩, st235⟩ := Jvm.LawKit.callS X234 hx (y := (⟨"com/example/seshat/seshat/trec/Fields", "isSpace", "(C)Z"⟩ : MethodName)) hown (mvT hZ (W 83 rfl)) (mvT hZ (W 84 rfl)) (mvT hZ (W 30 rfl)) (mvT hZ (W 85 rfl)) (by decide) (backOf (W := 0) (rm_isp l Z a0 hw [] (cs.getD i 0) h0 n0 Z0 ) hZ (W 85 rfl) (W 30 rfl) (by decide) (by decide)) (g := (mkF m 32 #[rv x1, iv 1, iv (Int32.ofNat i)] [.int (cs.getD i 0)])) rfl (by rw [hml]; rfl) (argsL := [.int (cs.getD i 0)]) (rest := []) (lenOf own_pd_11 rfl) rfl (by show 2 * 0 + _ ≤ _; exact Nat.le_of_eq rfl) (hb hby own_d25_32) (fun _ _ => ⟨rfl, e234, (by decide : 0 + 0 ≤ _), (by decide : 0 + 0 ≤ _)⟩)
        dsimp only [Pt.U, Pt.locs, Pt.cells, Pt.slots] at X235 l235 y235 z235 st235 hQ235
        subst l235 y235 z235
        obtain ⟨Nq235, e235, hq235⟩ := hQ235
        have N235 := Fr.app N234 Nq235
        rcases hq235 with ⟨rfl, hsp⟩ | ⟨rfl, hsp⟩
        · have G236 : ∀ tq, Steps p.tables e below (T235.setTop (mkF m 15 #[rv x1, iv 0, iv (Int32.ofNat (i + 1))] [])) tq → Steps p.tables e below (T.setTop (mkF m 15 #[rv x1, iv 1, iv (Int32.ofNat i)] [])) tq := by
            intro tq kk
            show Steps p.tables e below (T.setTop (mkF m 15 #[rv x1, iv 1, iv (Int32.ofNat i)] [])) _
            refine XS.iloadN XT.here hx rfl (hb hby own_d25_15) rfl ?_
            show Steps _ _ _ (T.setTop (mkF m 16 _ [.int (Int32.ofNat i)])) _
            refine XS.aloadN XT.here hx rfl (hb hby own_d25_16) rfl rfl ?_
            show Steps _ _ _ (T.setTop (mkF m 17 _ [.ref x1, .int (Int32.ofNat i)])) _
            refine st233.trans ?_
            show Steps p.tables e below (T233.setTop (mkF m 20 #[rv x1, iv 1, iv (Int32.ofNat i)] [.int (Int32.ofNat cs.length), .int (Int32.ofNat i)])) _
            refine XS.icmpNo X233.here hx rfl (hb hby own_d25_20) rfl (tlt (hit : (Int32.ofNat i) < (Int32.ofNat cs.length))).2.1 ?_
            show Steps _ _ _ (T233.setTop (mkF m 23 _ [])) _
            refine XS.iloadN X233.here hx rfl (hb hby own_d25_23) rfl ?_
            show Steps _ _ _ (T233.setTop (mkF m 24 _ [.int 1])) _
            refine XS.ifNo X233.here hx rfl (hb hby own_d25_24) rfl ((if0 _ _).trans (feq ((by decide) : ¬ ((1 : Int32) = (0 : Int32)))).1) ?_
            show Steps _ _ _ (T233.setTop (mkF m 27 _ [])) _
            refine XS.aloadN X233.here hx rfl (hb hby own_d25_27) rfl rfl ?_
            show Steps _ _ _ (T233.setTop (mkF m 28 _ [.ref x1])) _
            refine XS.iloadN X233.here hx rfl (hb hby own_d25_28) rfl ?_
            show Steps _ _ _ (T233.setTop (mkF m 29 _ [.int (Int32.ofNat i), .ref x1])) _
            refine st234.trans ?_
            show Steps p.tables e below (T234.setTop (mkF m 32 #[rv x1, iv 1, iv (Int32.ofNat i)] [.int (cs.getD i 0)])) _
            refine st235 _ ?_
            show Steps p.tables e below (T235.setTop (mkF m 35 #[rv x1, iv 1, iv (Int32.ofNat i)] [.int 1])) _
            refine XS.ifYes X235.here hx rfl (pc0 := 35) (pc' := 42) rfl (hb hby own_d25_35) rfl ((if0 _ _).trans (feq ((by decide) : ¬ ((1 : Int32) = (0 : Int32)))).2) (by decide) (by decide) ?_
            show Steps _ _ _ (T235.setTop (mkF m 42 _ [])) _
            refine XS.iconst X235.here hx rfl (hb hby own_d25_42) ?_
            show Steps _ _ _ (T235.setTop (mkF m 43 _ [.int 0])) _
            refine XS.istoreN X235.here hx rfl (hb hby own_d25_43) rfl (l' := #[rv x1, iv 0, iv (Int32.ofNat i)]) rfl ?_
            show Steps _ _ _ (T235.setTop (mkF m 44 _ [])) _
            refine XS.iinc X235.here hx rfl (hb hby own_d25_44) rfl (l' := #[rv x1, iv 0, iv (Int32.ofNat (i + 1))]) (by rw [show Int32.ofNat i + Int32.ofInt 1 = Int32.ofNat (i + 1) from own_one i]; rfl) ?_
            show Steps _ _ _ (T235.setTop (mkF m 47 _ [])) _
            refine XS.goto X235.here hx rfl (pc0 := 47) (pc' := 15) rfl (hb hby own_d25_47) (by decide) (by decide) ?_
            exact kk
          have hno : ¬ ∀ j, j < cs.length → ¬ own_sp (cs.getD j 0) := fun q => q i hil hsp
          by_cases hn : i + 1 < cs.length
          · have hit2 : Int32.ofNat (i + 1) < Int32.ofNat cs.length := (own_ltI (by omega) (by omega)).mpr hn
            obtain ⟨cq237, kq237, q237a, q237b, q237c⟩ := isOf hZ e235 EX
            obtain ⟨_, _, ⟨T237, L237, k237, n237⟩, -, X237, ⟨Lc237, hQ237, l237, y237, z237⟩, st237⟩ := X235.virtualBack hx (y := (⟨"java/lang/String", "length", "()I"⟩ : MethodName)) (z := (⟨"java/lang/String", "length", "()I"⟩ : MethodName)) hown (mvT hZ (W 37 rfl)) (mvT hZ (W 38 rfl)) (notFace_of_selects (args := #[]) (mvT hZ (W 40 rfl))) (mvT hZ (W 40 rfl)) (mvT hZ (W 39 rfl)) (by decide) (own_lenS (W := 1) hZ hln (kI := 4) (W 7 rfl) SX (O2.ext X00.2) P5 (by decide) (by decide)) q237a q237c (g := (mkF m 17 #[rv x1, iv 0, iv (Int32.ofNat (i + 1))] [.ref x1, .int (Int32.ofNat (i + 1))])) rfl (by rw [hml]; rfl) (Steps.refl _) (argsL := []) (rest := [.int (Int32.ofNat (i + 1))]) (lenOf own_pd_6 rfl) rfl (by show 2 * 0 + _ ≤ _; exact Nat.le_of_eq rfl) (hb hby own_d25_17) (fun _ _ => ⟨rfl, e235, (by decide : 0 + 0 ≤ _), (by decide : 0 + 0 ≤ _)⟩)
            dsimp only [Pt.U, Pt.locs, Pt.cells, Pt.slots] at X237 l237 y237 z237 st237 hQ237
            subst l237 y237 z237
            obtain ⟨rfl, rfl, e237⟩ := hQ237
            have N237 := Fr.app N235 (Fr.nil n0)
            have G238 : ∀ tq, Steps p.tables e below (T237.setTop (mkF m 50 #[rv x1, iv 0, iv (Int32.ofNat (i + 1))] [])) tq → Steps p.tables e below (T235.setTop (mkF m 15 #[rv x1, iv 0, iv (Int32.ofNat (i + 1))] [])) tq := by
              intro tq kk
              show Steps p.tables e below (T235.setTop (mkF m 15 #[rv x1, iv 0, iv (Int32.ofNat (i + 1))] [])) _
              refine XS.iloadN X235.here hx rfl (hb hby own_d25_15) rfl ?_
              show Steps _ _ _ (T235.setTop (mkF m 16 _ [.int (Int32.ofNat (i + 1))])) _
              refine XS.aloadN X235.here hx rfl (hb hby own_d25_16) rfl rfl ?_
              show Steps _ _ _ (T235.setTop (mkF m 17 _ [.ref x1, .int (Int32.ofNat (i + 1))])) _
              refine st237.trans ?_
              show Steps p.tables e below (T237.setTop (mkF m 20 #[rv x1, iv 0, iv (Int32.ofNat (i + 1))] [.int (Int32.ofNat cs.length), .int (Int32.ofNat (i + 1))])) _
              refine XS.icmpNo X237.here hx rfl (hb hby own_d25_20) rfl (tlt (hit2 : (Int32.ofNat (i + 1)) < (Int32.ofNat cs.length))).2.1 ?_
              show Steps _ _ _ (T237.setTop (mkF m 23 _ [])) _
              refine XS.iloadN X237.here hx rfl (hb hby own_d25_23) rfl ?_
              show Steps _ _ _ (T237.setTop (mkF m 24 _ [.int 0])) _
              refine XS.ifYes X237.here hx rfl (pc0 := 24) (pc' := 50) rfl (hb hby own_d25_24) rfl ((if0 _ _).trans (teq (rfl : (0 : Int32) = (0 : Int32))).1) (by decide) (by decide) ?_
              exact kk
            exact ⟨T237, _, 0, i + 1, X237, e237, N237, fun tgt kk => G236 _ (G238 _ kk), Or.inr ⟨rfl, hno⟩⟩
          · have hit2 : ¬ Int32.ofNat (i + 1) < Int32.ofNat cs.length := fun q => hn ((own_ltI (by omega) (by omega)).mp q)
            obtain ⟨cq239, kq239, q239a, q239b, q239c⟩ := isOf hZ e235 EX
            obtain ⟨_, _, ⟨T239, L239, k239, n239⟩, -, X239, ⟨Lc239, hQ239, l239, y239, z239⟩, st239⟩ := X235.virtualBack hx (y := (⟨"java/lang/String", "length", "()I"⟩ : MethodName)) (z := (⟨"java/lang/String", "length", "()I"⟩ : MethodName)) hown (mvT hZ (W 37 rfl)) (mvT hZ (W 38 rfl)) (notFace_of_selects (args := #[]) (mvT hZ (W 40 rfl))) (mvT hZ (W 40 rfl)) (mvT hZ (W 39 rfl)) (by decide) (own_lenS (W := 1) hZ hln (kI := 4) (W 7 rfl) SX (O2.ext X00.2) P5 (by decide) (by decide)) q239a q239c (g := (mkF m 17 #[rv x1, iv 0, iv (Int32.ofNat (i + 1))] [.ref x1, .int (Int32.ofNat (i + 1))])) rfl (by rw [hml]; rfl) (Steps.refl _) (argsL := []) (rest := [.int (Int32.ofNat (i + 1))]) (lenOf own_pd_6 rfl) rfl (by show 2 * 0 + _ ≤ _; exact Nat.le_of_eq rfl) (hb hby own_d25_17) (fun _ _ => ⟨rfl, e235, (by decide : 0 + 0 ≤ _), (by decide : 0 + 0 ≤ _)⟩)
            dsimp only [Pt.U, Pt.locs, Pt.cells, Pt.slots] at X239 l239 y239 z239 st239 hQ239
            subst l239 y239 z239
            obtain ⟨rfl, rfl, e239⟩ := hQ239
            have N239 := Fr.app N235 (Fr.nil n0)
            have G240 : ∀ tq, Steps p.tables e below (T239.setTop (mkF m 50 #[rv x1, iv 0, iv (Int32.ofNat (i + 1))] [])) tq → Steps p.tables e below (T235.setTop (mkF m 15 #[rv x1, iv 0, iv (Int32.ofNat (i + 1))] [])) tq := by
              intro tq kk
              show Steps p.tables e below (T235.setTop (mkF m 15 #[rv x1, iv 0, iv (Int32.ofNat (i + 1))] [])) _
              refine XS.iloadN X235.here hx rfl (hb hby own_d25_15) rfl ?_
              show Steps _ _ _ (T235.setTop (mkF m 16 _ [.int (Int32.ofNat (i + 1))])) _
              refine XS.aloadN X235.here hx rfl (hb hby own_d25_16) rfl rfl ?_
              show Steps _ _ _ (T235.setTop (mkF m 17 _ [.ref x1, .int (Int32.ofNat (i + 1))])) _
              refine st239.trans ?_
              show Steps p.tables e below (T239.setTop (mkF m 20 #[rv x1, iv 0, iv (Int32.ofNat (i + 1))] [.int (Int32.ofNat cs.length), .int (Int32.ofNat (i + 1))])) _
              refine XS.icmpYes X239.here hx rfl (pc0 := 20) (pc' := 50) rfl (hb hby own_d25_20) rfl (flt (hit2 : ¬ ((Int32.ofNat (i + 1)) < (Int32.ofNat cs.length)))).2.1 (by decide) (by decide) ?_
              exact kk
            exact ⟨T239, _, 0, i + 1, X239, e239, N239, fun tgt kk => G236 _ (G240 _ kk), Or.inr ⟨rfl, hno⟩⟩
        · have G241 : ∀ tq, Steps p.tables e below (T235.setTop (mkF m 15 #[rv x1, iv 1, iv (Int32.ofNat (i + 1))] [])) tq → Steps p.tables e below (T.setTop (mkF m 15 #[rv x1, iv 1, iv (Int32.ofNat i)] [])) tq := by
            intro tq kk
            show Steps p.tables e below (T.setTop (mkF m 15 #[rv x1, iv 1, iv (Int32.ofNat i)] [])) _
            refine XS.iloadN XT.here hx rfl (hb hby own_d25_15) rfl ?_
            show Steps _ _ _ (T.setTop (mkF m 16 _ [.int (Int32.ofNat i)])) _
            refine XS.aloadN XT.here hx rfl (hb hby own_d25_16) rfl rfl ?_
            show Steps _ _ _ (T.setTop (mkF m 17 _ [.ref x1, .int (Int32.ofNat i)])) _
            refine st233.trans ?_
            show Steps p.tables e below (T233.setTop (mkF m 20 #[rv x1, iv 1, iv (Int32.ofNat i)] [.int (Int32.ofNat cs.length), .int (Int32.ofNat i)])) _
            refine XS.icmpNo X233.here hx rfl (hb hby own_d25_20) rfl (tlt (hit : (Int32.ofNat i) < (Int32.ofNat cs.length))).2.1 ?_
            show Steps _ _ _ (T233.setTop (mkF m 23 _ [])) _
            refine XS.iloadN X233.here hx rfl (hb hby own_d25_23) rfl ?_
            show Steps _ _ _ (T233.setTop (mkF m 24 _ [.int 1])) _
            refine XS.ifNo X233.here hx rfl (hb hby own_d25_24) rfl ((if0 _ _).trans (feq ((by decide) : ¬ ((1 : Int32) = (0 : Int32)))).1) ?_
            show Steps _ _ _ (T233.setTop (mkF m 27 _ [])) _
            refine XS.aloadN X233.here hx rfl (hb hby own_d25_27) rfl rfl ?_
            show Steps _ _ _ (T233.setTop (mkF m 28 _ [.ref x1])) _
            refine XS.iloadN X233.here hx rfl (hb hby own_d25_28) rfl ?_
            show Steps _ _ _ (T233.setTop (mkF m 29 _ [.int (Int32.ofNat i), .ref x1])) _
            refine st234.trans ?_
            show Steps p.tables e below (T234.setTop (mkF m 32 #[rv x1, iv 1, iv (Int32.ofNat i)] [.int (cs.getD i 0)])) _
            refine st235 _ ?_
            show Steps p.tables e below (T235.setTop (mkF m 35 #[rv x1, iv 1, iv (Int32.ofNat i)] [.int 0])) _
            refine XS.ifNo X235.here hx rfl (hb hby own_d25_35) rfl ((if0 _ _).trans (teq (rfl : (0 : Int32) = (0 : Int32))).2) ?_
            show Steps _ _ _ (T235.setTop (mkF m 38 _ [])) _
            refine XS.iconst X235.here hx rfl (hb hby own_d25_38) ?_
            show Steps _ _ _ (T235.setTop (mkF m 39 _ [.int 1])) _
            refine XS.goto X235.here hx rfl (pc0 := 39) (pc' := 43) rfl (hb hby own_d25_39) (by decide) (by decide) ?_
            show Steps _ _ _ (T235.setTop (mkF m 43 _ [.int 1])) _
            refine XS.istoreN X235.here hx rfl (hb hby own_d25_43) rfl (l' := #[rv x1, iv 1, iv (Int32.ofNat i)]) rfl ?_
            show Steps _ _ _ (T235.setTop (mkF m 44 _ [])) _
            refine XS.iinc X235.here hx rfl (hb hby own_d25_44) rfl (l' := #[rv x1, iv 1, iv (Int32.ofNat (i + 1))]) (by rw [show Int32.ofNat i + Int32.ofInt 1 = Int32.ofNat (i + 1) from own_one i]; rfl) ?_
            show Steps _ _ _ (T235.setTop (mkF m 47 _ [])) _
            refine XS.goto X235.here hx rfl (pc0 := 47) (pc' := 15) rfl (hb hby own_d25_47) (by decide) (by decide) ?_
            exact kk
          obtain ⟨T', locs', f', i', XA, eA, NA, GA, hA⟩ := ih (i + 1) T235 _ (by omega) (fun j hj => by
            by_cases hji : j = i
            · subst hji; exact hsp
            · exact hd j (by omega)) X235 e235 N235
          exact ⟨T', locs', f', i', XA, eA, NA, fun tgt kk => G241 _ (GA _ kk), hA⟩
    obtain ⟨T9, locs9, f9, i9, X9, e9, N9, G9, h9⟩ := loop cs.length 0 T227 _ (by omega) (fun j hj => absurd hj (by omega)) X227 e227 N227
    rcases h9 with ⟨rfl, h9⟩ | ⟨rfl, h9⟩
    · obtain ⟨fs, hr, hrun, hended, hW, hsame⟩ := X9.leave (v := some (.int (1 : Int32))) (fun h => by rw [Bd.returns] at h; cases h)
      refine ⟨_, _, pre0 _ (G228 _ (G230 _ (G9 _ (?_)))), hrun, hended, _, _, rfl, ?_, ⟨_, rfl⟩, hW, hsame.mono (by decide) (by decide)⟩
      · show Steps p.tables e below (T9.setTop (mkF m 50 #[rv x1, iv 1, iv (Int32.ofNat i9)] [])) _
        refine XS.iloadN X9.here hx rfl (hb hby own_d25_50) rfl ?_
        show Steps _ _ _ (T9.setTop (mkF m 51 _ [.int 1])) _
        exact retN X9 hx (t := .boolean) Bd.returns (by simp) (hb hby own_d25_51) hr
      · show Q_isf Z x1 kx cs G1 G3 h0 n0 _ T9.heap _
        rw [e9]
        exact ⟨N9, rfl, Or.inl ⟨rfl, by omega, h9⟩⟩
    · obtain ⟨fs, hr, hrun, hended, hW, hsame⟩ := X9.leave (v := some (.int (0 : Int32))) (fun h => by rw [Bd.returns] at h; cases h)
      refine ⟨_, _, pre0 _ (G228 _ (G230 _ (G9 _ (?_)))), hrun, hended, _, _, rfl, ?_, ⟨_, rfl⟩, hW, hsame.mono (by decide) (by decide)⟩
      · show Steps p.tables e below (T9.setTop (mkF m 50 #[rv x1, iv 0, iv (Int32.ofNat i9)] [])) _
        refine XS.iloadN X9.here hx rfl (hb hby own_d25_50) rfl ?_
        show Steps _ _ _ (T9.setTop (mkF m 51 _ [.int 0])) _
        exact retN X9 hx (t := .boolean) Bd.returns (by simp) (hb hby own_d25_51) hr
      · show Q_isf Z x1 kx cs G1 G3 h0 n0 _ T9.heap _
        rw [e9]
        exact ⟨N9, rfl, Or.inr ⟨rfl, fun q => h9 q.2⟩⟩
theorem own_pd_1 : parseMethodDescriptor "([C)V" = some ⟨[(.array .char)], none⟩ := by decide +kernel
theorem own_pd_4 : parseMethodDescriptor "(Ljava/lang/String;)Z" = some ⟨[(.object "java/lang/String")], some .boolean⟩ := by decide +kernel
theorem own_ef_law (m : MethodId) (x0 : Int32) (x1 : Int32) (x2 : Int32) (x3 : Int32) (x4 : Int32) : entryFrame m #[(.int x0), (.int x1), (.int x2), (.int x3), (.int x4)] maxLocals = mkF m 0 #[iv x0, iv x1, iv x2, iv x3, iv x4, .unset, .unset, .unset, .unset, .unset, .unset, .unset] [] := by first | (simp [entryFrame, mkF, argsToLocals, Value.category, maxLocals]; done) | rfl
def Q_law (Z : State) (p1 p2 p3 p4 p5 G1 : Int32) (G3 : Value) (h0 : Heap) (n0 : Nat) (v : Option Value) (h : Heap) (L : List Loc) : Prop := v = some (.int 1) ∧ Fr n0 L
set_option maxRecDepth 65536 in
set_option maxHeartbeats 40000000 in
theorem rm_law (l : Launch) (Z : State) (a0 : Array Value) (hw : ∀ d ∈ tables_1, d.before a0 Z = true) (ws : List Jvm.Cond) (p1 p2 p3 p4 p5 G1 : Int32) (G3 : Value) (h0 : Heap) (n0 : Nat) (Z0 : n0 ≤ h0.size) (X00 : Old Z n0 h0) (O2 : Sta Z Z.heap "java/lang/String" "COMPACT_STRINGS" "Z" (.int G1)) (P5 : ¬ (G1 = (0 : Int32))) (O4 : Sta Z Z.heap "jdk/internal/util/Preconditions" "SIOOBE_FORMATTER" "Ljava/util/function/BiFunction;" G3) (rG3 : G3.isRef = true) (OA : Sta Z Z.heap "java/lang/StringUTF16" "$assertionsDisabled" "Z" (.int (1 : Int32))) (OH : Sta Z Z.heap "java/lang/StringUTF16" "HI_BYTE_SHIFT" "I" (.int (0 : Int32))) (OL : Sta Z Z.heap "java/lang/StringUTF16" "LO_BYTE_SHIFT" "I" (.int (8 : Int32))) :
    MetFree l x (head1 (Jvm.Cond.code x code maxLocals ret :: ws) room_1) (fun a U => a = #[(.int p1), (.int p2), (.int p3), (.int p4), (.int p5)] ∧ Z.Warmed39 U.vm ∧ U.heap = h0 ∧ own_J Z own_EL [] h0 U.vm) (fun _ _ _ _ _ => True) (fun _ U o U' => ∃ v L, o = .returned v ∧ Q_law Z p1 p2 p3 p4 p5 G1 G3 h0 n0 v U'.heap L ∧ CHr Z own_EL U.vm U.heap U'.vm U'.heap ∧ ReturnedEndW U o U' L 24 1216) := by
  refine MetFree.of_bodySF (plainFor_of_name own_pn_1) hisR ?_
  intro p e s m args below meth c s₁ Bd hml0 hP hK
  obtain ⟨rfl, hZ, hh, hJ⟩ := hP
  have hx := Bd.exec
  have hby := Bd.bytes
  have hml : c.maxLocals = 12 := hml0
  have hown : s.vm.findClass "com/example/seshat/seshat/trec/FieldsIsFieldPinLaw" = some m.cls := findClass_of_methodNamed Bd.named
  have hnm := (name_of_methodNamed Bd.named Bd.method).1
  have W := own_W hw
  have X0 : Stand p l e room_1 s m #[(.int p1), (.int p2), (.int p3), (.int p4), (.int p5)] below meth c s₁ [] 0 0 := Stand.of_body Bd
  have e0 : s₁.heap = h0 := by rw [← hh, Bd.state]; rfl
  have N0 := Fr.nil n0
  have pre0 : ∀ tq, Steps p.tables e below (s₁.setTop (mkF m 0 #[iv p1, iv p2, iv p3, iv p4, iv p5, .unset, .unset, .unset, .unset, .unset, .unset, .unset] [])) tq → Steps p.tables e below (s₁.setTop (entryFrame m #[(.int p1), (.int p2), (.int p3), (.int p4), (.int p5)] maxLocals)) tq := fun tq k => castTop (own_ef_law m p1 p2 p3 p4 p5) k
  have hEL := own_EW hw
  have wS : ∀ d ∈ Bundle.stringAtoms, d.before a0 Z = true := fun d hd => hw d ((by decide +kernel : ∀ d ∈ Bundle.stringAtoms, d ∈ tables_1) d hd)
  have hS0 : s.Since s.vm 0 := (State.WarmedH.refl s).since 0
  have hk0 : 0 ≤ h0.size := Nat.zero_le _
  have CH0 : CHv Z own_EL s.vm h0 := hJ.1
  have CR0 : CHr Z own_EL s.vm h0 s.vm h0 := CHr.refl CH0
  have X0 : Stand p l e room_1 (s.setVm s.vm) m #[(.int p1), (.int p2), (.int p3), (.int p4), (.int p5)] below meth c s₁ [] 0 0 := X0
  have hm5 := own_mod5 p1
  have Gn : ∀ tq, Steps p.tables e below (s₁.setTop (mkF m 6 #[iv p1, iv p2, iv p3, iv p4, iv p5, .unset, .unset, .unset, .unset, .unset, .unset, .unset] [.int ((p1 &&& (7 : Int32)) % (5 : Int32))])) tq → Steps p.tables e below (s₁.setTop (mkF m 0 #[iv p1, iv p2, iv p3, iv p4, iv p5, .unset, .unset, .unset, .unset, .unset, .unset, .unset] [])) tq := by
    intro tq kk
    show Steps p.tables e below (s₁.setTop (mkF m 0 #[iv p1, iv p2, iv p3, iv p4, iv p5, .unset, .unset, .unset, .unset, .unset, .unset, .unset] [])) _
    refine XS.iloadN X0.here hx rfl (hb hby at_0) rfl ?_
    show Steps _ _ _ (s₁.setTop (mkF m 1 _ [.int p1])) _
    refine XS.bipush X0.here hx rfl (hb hby at_1) ?_
    show Steps _ _ _ (s₁.setTop (mkF m 3 _ [.int 7, .int p1])) _
    refine XS.iand X0.here hx rfl (hb hby at_3) rfl ?_
    show Steps _ _ _ (s₁.setTop (mkF m 4 _ [.int (p1 &&& (7 : Int32))])) _
    refine XS.iconst X0.here hx rfl (hb hby at_4) ?_
    show Steps _ _ _ (s₁.setTop (mkF m 5 _ [.int 5, .int (p1 &&& (7 : Int32))])) _
    refine XS.irem X0.here hx rfl (hb hby at_5) rfl (by decide) ?_
    rw [own_rem_eq (p1 &&& (7 : Int32)) (5 : Int32)]
    exact kk
  generalize (p1 &&& (7 : Int32)) % (5 : Int32) = nn at Gn hm5
  obtain ⟨_, _, ⟨T242, L242, k242, n242⟩, -, X242, ⟨Lc242, hQ242, l242, y242, z242⟩, st242⟩ := Jvm.LawKit.callS X0 hx (y := (⟨"com/example/seshat/seshat/trec/FieldsIsFieldPinLaw", "pick", "(I)C"⟩ : MethodName)) hown (mvT hZ (W 0 rfl)) (mvT hZ (W 1 rfl)) (mvT hZ (W 2 rfl)) (mvT hZ (W 3 rfl)) (by decide) (backOf (W := 0) (rm_pick l Z a0 hw [] p2 h0 n0 Z0 ) hZ (W 3 rfl) (W 2 rfl) (by decide) (by decide)) (g := (mkF m 9 #[iv p1, iv p2, iv p3, iv p4, iv p5, iv nn, .unset, .unset, .unset, .unset, .unset, .unset] [.int p2])) rfl (by rw [hml]; rfl) (argsL := [.int p2]) (rest := []) (lenOf own_pd_0 rfl) rfl (by show 2 * 0 + _ ≤ _; exact Nat.le_of_eq rfl) (hb hby at_9) (fun _ _ => ⟨rfl, e0, (by decide : 0 + 1 ≤ _), (by decide : 0 + 12 ≤ _)⟩)
  dsimp only [Pt.U, Pt.locs, Pt.cells, Pt.slots] at X242 l242 y242 z242 st242 hQ242
  subst l242 y242 z242
  obtain ⟨c0, hv242, hb0, Nq242, K242⟩ := hQ242
  subst hv242
  have N242 := Fr.app N0 Nq242
  have CR243 := CR0.trans (CHr.keep K242 all0 CH0)
  have Z244 : n0 ≤ T242.heap.size := Nat.le_trans Z0 K242.1
  have O245 : Old Z n0 T242.heap := X00.keep K242 all0
  have hk246 := Nat.le_trans hk0 K242.1
  obtain ⟨_, _, ⟨T247, L247, k247, n247⟩, -, X247, ⟨Lc247, hQ247, l247, y247, z247⟩, st247⟩ := Jvm.LawKit.callS X242 hx (y := (⟨"com/example/seshat/seshat/trec/FieldsIsFieldPinLaw", "pick", "(I)C"⟩ : MethodName)) hown (mvT hZ (W 0 rfl)) (mvT hZ (W 1 rfl)) (mvT hZ (W 2 rfl)) (mvT hZ (W 3 rfl)) (by decide) (backOf (W := 0) (rm_pick l Z a0 hw [] p3 T242.heap n0 Z244 ) hZ (W 3 rfl) (W 2 rfl) (by decide) (by decide)) (g := (mkF m 15 #[iv p1, iv p2, iv p3, iv p4, iv p5, iv nn, iv c0, .unset, .unset, .unset, .unset, .unset] [.int p3])) rfl (by rw [hml]; rfl) (argsL := [.int p3]) (rest := []) (lenOf own_pd_0 rfl) rfl (by show 2 * 0 + _ ≤ _; exact Nat.le_of_eq rfl) (hb hby at_15) (fun _ _ => ⟨rfl, rfl, (by decide : 1 + 1 ≤ _), (by decide : 12 + 12 ≤ _)⟩)
  dsimp only [Pt.U, Pt.locs, Pt.cells, Pt.slots] at X247 l247 y247 z247 st247 hQ247
  subst l247 y247 z247
  obtain ⟨c1, hv247, hb1, Nq247, K247⟩ := hQ247
  subst hv247
  have N247 := Fr.app N242 Nq247
  have CR248 := CR243.trans (CHr.keep K247 all0 CR243.1)
  have Z249 : n0 ≤ T247.heap.size := Nat.le_trans Z244 K247.1
  have O250 : Old Z n0 T247.heap := O245.keep K247 all0
  have hk251 := Nat.le_trans hk246 K247.1
  obtain ⟨_, _, ⟨T252, L252, k252, n252⟩, -, X252, ⟨Lc252, hQ252, l252, y252, z252⟩, st252⟩ := Jvm.LawKit.callS X247 hx (y := (⟨"com/example/seshat/seshat/trec/FieldsIsFieldPinLaw", "pick", "(I)C"⟩ : MethodName)) hown (mvT hZ (W 0 rfl)) (mvT hZ (W 1 rfl)) (mvT hZ (W 2 rfl)) (mvT hZ (W 3 rfl)) (by decide) (backOf (W := 0) (rm_pick l Z a0 hw [] p4 T247.heap n0 Z249 ) hZ (W 3 rfl) (W 2 rfl) (by decide) (by decide)) (g := (mkF m 21 #[iv p1, iv p2, iv p3, iv p4, iv p5, iv nn, iv c0, iv c1, .unset, .unset, .unset, .unset] [.int p4])) rfl (by rw [hml]; rfl) (argsL := [.int p4]) (rest := []) (lenOf own_pd_0 rfl) rfl (by show 2 * 0 + _ ≤ _; exact Nat.le_of_eq rfl) (hb hby at_21) (fun _ _ => ⟨rfl, rfl, (by decide : 2 + 1 ≤ _), (by decide : 24 + 12 ≤ _)⟩)
  dsimp only [Pt.U, Pt.locs, Pt.cells, Pt.slots] at X252 l252 y252 z252 st252 hQ252
  subst l252 y252 z252
  obtain ⟨c2, hv252, hb2, Nq252, K252⟩ := hQ252
  subst hv252
  have N252 := Fr.app N247 Nq252
  have CR253 := CR248.trans (CHr.keep K252 all0 CR248.1)
  have Z254 : n0 ≤ T252.heap.size := Nat.le_trans Z249 K252.1
  have O255 : Old Z n0 T252.heap := O250.keep K252 all0
  have hk256 := Nat.le_trans hk251 K252.1
  obtain ⟨_, _, ⟨T257, L257, k257, n257⟩, -, X257, ⟨Lc257, hQ257, l257, y257, z257⟩, st257⟩ := Jvm.LawKit.callS X252 hx (y := (⟨"com/example/seshat/seshat/trec/FieldsIsFieldPinLaw", "pick", "(I)C"⟩ : MethodName)) hown (mvT hZ (W 0 rfl)) (mvT hZ (W 1 rfl)) (mvT hZ (W 2 rfl)) (mvT hZ (W 3 rfl)) (by decide) (backOf (W := 0) (rm_pick l Z a0 hw [] p5 T252.heap n0 Z254 ) hZ (W 3 rfl) (W 2 rfl) (by decide) (by decide)) (g := (mkF m 28 #[iv p1, iv p2, iv p3, iv p4, iv p5, iv nn, iv c0, iv c1, iv c2, .unset, .unset, .unset] [.int p5])) rfl (by rw [hml]; rfl) (argsL := [.int p5]) (rest := []) (lenOf own_pd_0 rfl) rfl (by show 2 * 0 + _ ≤ _; exact Nat.le_of_eq rfl) (hb hby at_28) (fun _ _ => ⟨rfl, rfl, (by decide : 3 + 1 ≤ _), (by decide : 36 + 12 ≤ _)⟩)
  dsimp only [Pt.U, Pt.locs, Pt.cells, Pt.slots] at X257 l257 y257 z257 st257 hQ257
  subst l257 y257 z257
  obtain ⟨c3, hv257, hb3, Nq257, K257⟩ := hQ257
  subst hv257
  have N257 := Fr.app N252 Nq257
  have CR258 := CR253.trans (CHr.keep K257 all0 CR253.1)
  have Z259 : n0 ≤ T257.heap.size := Nat.le_trans Z254 K257.1
  have O260 : Old Z n0 T257.heap := O255.keep K257 all0
  have hk261 := Nat.le_trans hk256 K257.1
  have G262 : ∀ tq, Steps p.tables e below (T257.setTop (mkF m 33 #[iv p1, iv p2, iv p3, iv p4, iv p5, iv nn, iv c0, iv c1, iv c2, iv c3, .unset, .unset] [])) tq → Steps p.tables e below (s₁.setTop (mkF m 6 #[iv p1, iv p2, iv p3, iv p4, iv p5, .unset, .unset, .unset, .unset, .unset, .unset, .unset] [.int nn])) tq := by
    intro tq kk
    show Steps p.tables e below (s₁.setTop (mkF m 6 #[iv p1, iv p2, iv p3, iv p4, iv p5, .unset, .unset, .unset, .unset, .unset, .unset, .unset] [.int nn])) _
    refine XS.istore X0.here hx rfl (hb hby at_6) rfl (l' := #[iv p1, iv p2, iv p3, iv p4, iv p5, iv nn, .unset, .unset, .unset, .unset, .unset, .unset]) rfl ?_
    show Steps _ _ _ (s₁.setTop (mkF m 8 _ [])) _
    refine XS.iloadN X0.here hx rfl (hb hby at_8) rfl ?_
    show Steps _ _ _ (s₁.setTop (mkF m 9 _ [.int p2])) _
    refine st242 _ ?_
    show Steps p.tables e below (T242.setTop (mkF m 12 #[iv p1, iv p2, iv p3, iv p4, iv p5, iv nn, .unset, .unset, .unset, .unset, .unset, .unset] [.int c0])) _
    refine XS.istore X242.here hx rfl (hb hby at_12) rfl (l' := #[iv p1, iv p2, iv p3, iv p4, iv p5, iv nn, iv c0, .unset, .unset, .unset, .unset, .unset]) rfl ?_
    show Steps _ _ _ (T242.setTop (mkF m 14 _ [])) _
    refine XS.iloadN X242.here hx rfl (hb hby at_14) rfl ?_
    show Steps _ _ _ (T242.setTop (mkF m 15 _ [.int p3])) _
    refine st247 _ ?_
    show Steps p.tables e below (T247.setTop (mkF m 18 #[iv p1, iv p2, iv p3, iv p4, iv p5, iv nn, iv c0, .unset, .unset, .unset, .unset, .unset] [.int c1])) _
    refine XS.istore X247.here hx rfl (hb hby at_18) rfl (l' := #[iv p1, iv p2, iv p3, iv p4, iv p5, iv nn, iv c0, iv c1, .unset, .unset, .unset, .unset]) rfl ?_
    show Steps _ _ _ (T247.setTop (mkF m 20 _ [])) _
    refine XS.iloadN X247.here hx rfl (hb hby at_20) rfl ?_
    show Steps _ _ _ (T247.setTop (mkF m 21 _ [.int p4])) _
    refine st252 _ ?_
    show Steps p.tables e below (T252.setTop (mkF m 24 #[iv p1, iv p2, iv p3, iv p4, iv p5, iv nn, iv c0, iv c1, .unset, .unset, .unset, .unset] [.int c2])) _
    refine XS.istore X252.here hx rfl (hb hby at_24) rfl (l' := #[iv p1, iv p2, iv p3, iv p4, iv p5, iv nn, iv c0, iv c1, iv c2, .unset, .unset, .unset]) rfl ?_
    show Steps _ _ _ (T252.setTop (mkF m 26 _ [])) _
    refine XS.iload X252.here hx rfl (hb hby at_26) rfl ?_
    show Steps _ _ _ (T252.setTop (mkF m 28 _ [.int p5])) _
    refine st257 _ ?_
    show Steps p.tables e below (T257.setTop (mkF m 31 #[iv p1, iv p2, iv p3, iv p4, iv p5, iv nn, iv c0, iv c1, iv c2, .unset, .unset, .unset] [.int c3])) _
    refine XS.istore X257.here hx rfl (hb hby at_31) rfl (l' := #[iv p1, iv p2, iv p3, iv p4, iv p5, iv nn, iv c0, iv c1, iv c2, iv c3, .unset, .unset]) rfl ?_
    exact kk
  rcases hm5 with rfl | rfl | rfl | rfl | rfl
  · obtain ⟨T263, h263, X263, e263, E263, A263, D263, -, st263⟩ := newO X257 hx hZ hown (W 6 rfl) (W 7 rfl) (W 8 rfl) rfl (g := (mkF m 38 #[iv p1, iv p2, iv p3, iv p4, iv p5, iv 0, iv c0, iv c1, iv c2, iv c3, .unset, .unset] [])) rfl (hb hby at_38) (by decide) (by decide)
    obtain ⟨b263, g263⟩ : ∃ z, z = T257.heap.size := ⟨_, rfl⟩
    rw [← g263] at A263 D263 st263
    have g264 : n0 ≤ b263 := Nat.le_trans Z259 (Nat.le_of_eq g263.symm)
    have CR265 := CR258.trans (CHr.ext E263 CR258.1)
    have Z266 : n0 ≤ h263.size := Nat.le_trans Z259 E263.1
    have O267 : Old Z n0 h263 := O260.ext E263
    have hk268 := Nat.le_trans hk261 E263.1
    have F269 : Fld Z h263 b263 "java/lang/String" "value" "[B" .null := D263 (Or.inr (W 22 rfl)) (ty := (.array .byte)) (by decide)
    have F270 : Fld Z h263 b263 "java/lang/String" "coder" "B" (.int (0 : Int32)) := D263 (Or.inr (W 23 rfl)) (ty := .byte) (by decide)
    obtain ⟨T271, h271, k271, X271, e271, E271, A271, st271⟩ := newP X263 hx hZ (W 9 rfl) e263 (g := (mkF m 43 #[iv p1, iv p2, iv p3, iv p4, iv p5, iv 0, iv c0, iv c1, iv c2, iv c3, .unset, .unset] [.int 0, .ref b263, .ref b263])) rfl (hb hby at_43) rfl (by decide : ¬ ((0 : Int32) < (0 : Int32))) (cap := 0) (by decide) (by decide) (by decide) (by decide)
    obtain ⟨b271, g271⟩ : ∃ z, z = h263.size := ⟨_, rfl⟩
    rw [← g271] at A271 st271
    have g272 : n0 ≤ b271 := Nat.le_trans Z266 (Nat.le_of_eq g271.symm)
    have CR273 := CR265.trans (CHr.ext E271 CR265.1)
    have Z274 : n0 ≤ h271.size := Nat.le_trans Z266 E271.1
    have O275 : Old Z n0 h271 := O267.ext E271
    have hk276 := Nat.le_trans hk268 E271.1
    have V271 : Arv Z h271 b271 k271 .char (0 : Int32) [] (.int (0 : Int32)) := Arv.new A271 (by decide : ¬ ((0 : Int32) < (0 : Int32)))
    have G277 : ∀ tq, Steps p.tables e below (T271.setTop (mkF m 45 #[iv p1, iv p2, iv p3, iv p4, iv p5, iv 0, iv c0, iv c1, iv c2, iv c3, .unset, .unset] [.ref b271, .ref b263, .ref b263])) tq → Steps p.tables e below (T257.setTop (mkF m 33 #[iv p1, iv p2, iv p3, iv p4, iv p5, iv 0, iv c0, iv c1, iv c2, iv c3, .unset, .unset] [])) tq := by
      intro tq kk
      show Steps p.tables e below (T257.setTop (mkF m 33 #[iv p1, iv p2, iv p3, iv p4, iv p5, iv 0, iv c0, iv c1, iv c2, iv c3, .unset, .unset] [])) _
      refine XS.iload X257.here hx rfl (hb hby at_33) rfl ?_
      show Steps _ _ _ (T257.setTop (mkF m 35 _ [.int 0])) _
      refine XS.ifNo X257.here hx rfl (hb hby at_35) rfl ((if0 _ _).trans (teq (rfl : (0 : Int32) = (0 : Int32))).2) ?_
      show Steps _ _ _ (T257.setTop (mkF m 38 _ [])) _
      refine st263 _ ?_
      show Steps p.tables e below (T263.setTop (mkF m 41 #[iv p1, iv p2, iv p3, iv p4, iv p5, iv 0, iv c0, iv c1, iv c2, iv c3, .unset, .unset] [.ref b263])) _
      refine XS.dup X263.here hx rfl (hb hby at_41) rfl rfl ?_
      show Steps _ _ _ (T263.setTop (mkF m 42 _ [.ref b263, .ref b263])) _
      refine XS.iconst X263.here hx rfl (hb hby at_42) ?_
      show Steps _ _ _ (T263.setTop (mkF m 43 _ [.int 0, .ref b263, .ref b263])) _
      refine st271 _ ?_
      exact kk
    have f278 := (A263.ext E271)
    have f279 := (F269.ext E271)
    have f280 := (F270.ext E271)
    have f282 := ((CHr.ext E271 CR265.1).safe A263.lt (Safe.ext E263 CR258.1 (Safe.new (Nat.le_of_eq g263.symm))))
    have f283 := (Nat.lt_of_lt_of_le A263.lt E271.1)
    obtain ⟨_, _, ⟨T281, L281, k281, n281⟩, -, Xw281, hSw281, hgw281, ⟨Lc281, hQ281, l281, y281, z281, A281⟩, st281⟩ := X271.specialBackS hx (y := (⟨"java/lang/String", "<init>", "([C)V"⟩ : MethodName)) rfl hown (mvT hZ (W 10 rfl)) (mvT hZ (W 11 rfl)) (mvT hZ (W 12 rfl)) (by decide) (own_backX (s := s) (W := 1) (rm_snew0 l Z a0 hw [] b263 b271 k271 h271 n0 Z274 V271 f278 g264 f279 f280) hZ (W 12 rfl) (W 8 rfl) (by decide) (by decide) hEL (xs := [b263]) ⟨CR273.1, (allS f282 all0)⟩ (allS f283 all0)) (g := (mkF m 45 #[iv p1, iv p2, iv p3, iv p4, iv p5, iv 0, iv c0, iv c1, iv c2, iv c3, .unset, .unset] [.ref b271, .ref b263, .ref b263])) rfl (by rw [hml]; rfl) (Steps.refl _) (a := b263) (argsL := [.ref b271]) (rest := [.ref b263]) (lenOf own_pd_1 rfl) rfl (by show 2 * 0 + _ ≤ _; exact Nat.le_of_eq rfl) (hb hby at_45) (fun _ _ => ⟨rfl, e271, (by decide : 6 + 4 ≤ _), (by decide : 52 + 8 ≤ _)⟩)
    dsimp only [Pt.U, Pt.locs, Pt.cells, Pt.slots] at Xw281 hSw281 hgw281 l281 y281 z281 A281 st281 hQ281
    subst l281 y281 z281
    obtain ⟨X281, hS281, hZ281, hown281⟩ := rebS (s := s) (T := T281) hS0 hk276 Xw281 hSw281 (by rw [← e271]; exact hgw281) hZ hown
    have hk281 : T281.heap.size ≤ T281.heap.size := Nat.le_refl _
    obtain ⟨rfl, Nq281, K281, SX⟩ := hQ281
    have N281 := Fr.app N257 Nq281
    have CR284 := CR273.trans A281
    have Z285 : n0 ≤ T281.heap.size := Nat.le_trans Z274 K281.1
    have O286 : Old Z n0 T281.heap := O275.keep K281 (allS g264 all0)
    have G287 : ∀ tq, Steps p.tables e below (T281.setTop (mkF m 178 #[iv p1, iv p2, iv p3, iv p4, iv p5, iv 0, iv c0, iv c1, iv c2, iv c3, rv b263, .unset] [])) tq → Steps p.tables e below (T271.setTop (mkF m 45 #[iv p1, iv p2, iv p3, iv p4, iv p5, iv 0, iv c0, iv c1, iv c2, iv c3, .unset, .unset] [.ref b271, .ref b263, .ref b263])) tq := by
      intro tq kk
      show Steps p.tables e below (T271.setTop (mkF m 45 #[iv p1, iv p2, iv p3, iv p4, iv p5, iv 0, iv c0, iv c1, iv c2, iv c3, .unset, .unset] [.ref b271, .ref b263, .ref b263])) _
      refine st281.trans ?_
      show Steps p.tables e below (T281.setTop (mkF m 48 #[iv p1, iv p2, iv p3, iv p4, iv p5, iv 0, iv c0, iv c1, iv c2, iv c3, .unset, .unset] [.ref b263])) _
      refine XS.astore X281.here hx rfl (hb hby at_48) rfl rfl (l' := #[iv p1, iv p2, iv p3, iv p4, iv p5, iv 0, iv c0, iv c1, iv c2, iv c3, rv b263, .unset]) rfl ?_
      show Steps _ _ _ (T281.setTop (mkF m 50 _ [])) _
      refine XS.goto X281.here hx rfl (pc0 := 50) (pc' := 178) rfl (hb hby at_50) (by decide) (by decide) ?_
      exact kk
    obtain ⟨_, _, ⟨T288, L288, k288, n288⟩, -, X288, ⟨Lc288, hQ288, l288, y288, z288⟩, st288⟩ := Jvm.LawKit.callS X281 hx (y := (⟨"com/example/seshat/seshat/trec/Fields", "isField", "(Ljava/lang/String;)Z"⟩ : MethodName)) hown281 (mvT hZ281 (W 28 rfl)) (mvT hZ281 (W 29 rfl)) (mvT hZ281 (W 30 rfl)) (mvT hZ281 (W 31 rfl)) (by decide) (backOf (W := 0) (rm_isf l Z a0 hw [] b263 _ ([] : List Int32) G1 G3 T281.heap n0 Z285 O286 SX (Nat.le_of_ble_eq_true rfl) O2 P5 O4 rG3 OA OH OL) hZ281 (W 31 rfl) (W 30 rfl) (by decide) (by decide)) (g := (mkF m 242 #[iv p1, iv p2, iv p3, iv p4, iv p5, iv 0, iv c0, iv c1, iv c2, iv c3, rv b263, iv 0] [.ref b263])) rfl (by rw [hml]; rfl) (argsL := [.ref b263]) (rest := []) (lenOf own_pd_4 rfl) rfl (by show 2 * 0 + _ ≤ _; exact Nat.le_of_eq rfl) (hb hby at_242) (fun _ _ => ⟨rfl, rfl, (by decide : 10 + 0 ≤ _), (by decide : 60 + 0 ≤ _)⟩)
    dsimp only [Pt.U, Pt.locs, Pt.cells, Pt.slots] at X288 l288 y288 z288 st288 hQ288
    subst l288 y288 z288
    obtain ⟨Nq288, e288, hq288⟩ := hQ288
    have N288 := Fr.app N281 Nq288
    rcases hq288 with ⟨rfl, hr⟩ | ⟨rfl, hr⟩
    · exact absurd hr.1 (by decide)
    · have CRe := CR284.trans (CHv.at X288 hZ281 hEL CR284.1)
      obtain ⟨fs, hr, hrun, hended, hRW⟩ := X288.leaveW hS281 (by rw [e288]; exact hk281) (v := some (.int (1 : Int32))) (fun h => by rw [Bd.returns] at h; cases h)
      refine ⟨_, _, pre0 _ (Gn _ (G262 _ (G277 _ (G287 _ (?_))))), hrun, hended, _, _, rfl, ?_, (by rw [hh]; show CHr Z _ s.vm h0 T288.vm T288.heap; rw [e288]; exact CRe), hRW.1, hRW.2.1, hRW.2.2.1, hRW.2.2.2.mono (by decide) (by decide)⟩
      · show Steps p.tables e below (T281.setTop (mkF m 178 #[iv p1, iv p2, iv p3, iv p4, iv p5, iv 0, iv c0, iv c1, iv c2, iv c3, rv b263, .unset] [])) _
        refine XS.iload X281.here hx rfl (hb hby at_178) rfl ?_
        show Steps _ _ _ (T281.setTop (mkF m 180 _ [.int 0])) _
        refine XS.ifYes X281.here hx rfl (pc0 := 180) (pc' := 237) rfl (hb hby at_180) rfl ((if0 _ _).trans (flt ((by decide) : ¬ ((0 : Int32) < (0 : Int32)))).2.2.2) (by decide) (by decide) ?_
        show Steps _ _ _ (T281.setTop (mkF m 237 _ [])) _
        refine XS.iconst X281.here hx rfl (hb hby at_237) ?_
        show Steps _ _ _ (T281.setTop (mkF m 238 _ [.int 0])) _
        refine XS.istore X281.here hx rfl (hb hby at_238) rfl (l' := #[iv p1, iv p2, iv p3, iv p4, iv p5, iv 0, iv c0, iv c1, iv c2, iv c3, rv b263, iv 0]) rfl ?_
        show Steps _ _ _ (T281.setTop (mkF m 240 _ [])) _
        refine XS.aload X281.here hx rfl (hb hby at_240) rfl rfl ?_
        show Steps _ _ _ (T281.setTop (mkF m 242 _ [.ref b263])) _
        refine st288 _ ?_
        show Steps p.tables e below (T288.setTop (mkF m 245 #[iv p1, iv p2, iv p3, iv p4, iv p5, iv 0, iv c0, iv c1, iv c2, iv c3, rv b263, iv 0] [.int 0])) _
        refine XS.iload X288.here hx rfl (hb hby at_245) rfl ?_
        show Steps _ _ _ (T288.setTop (mkF m 247 _ [.int 0, .int 0])) _
        refine XS.icmpNo X288.here hx rfl (hb hby at_247) rfl (teq (rfl : (0 : Int32) = (0 : Int32))).2 ?_
        show Steps _ _ _ (T288.setTop (mkF m 250 _ [])) _
        refine XS.iconst X288.here hx rfl (hb hby at_250) ?_
        show Steps _ _ _ (T288.setTop (mkF m 251 _ [.int 1])) _
        refine XS.goto X288.here hx rfl (pc0 := 251) (pc' := 255) rfl (hb hby at_251) (by decide) (by decide) ?_
        show Steps _ _ _ (T288.setTop (mkF m 255 _ [.int 1])) _
        exact retN X288 hx (t := .boolean) Bd.returns (by simp) (hb hby at_255) hr
      · show Q_law Z p1 p2 p3 p4 p5 G1 G3 h0 n0 _ T288.heap _
        rw [e288]
        exact ⟨rfl, N288⟩
  · obtain ⟨T289, h289, X289, e289, E289, A289, D289, -, st289⟩ := newO X257 hx hZ hown (W 6 rfl) (W 7 rfl) (W 8 rfl) rfl (g := (mkF m 59 #[iv p1, iv p2, iv p3, iv p4, iv p5, iv 1, iv c0, iv c1, iv c2, iv c3, .unset, .unset] [])) rfl (hb hby at_59) (by decide) (by decide)
    obtain ⟨b289, g289⟩ : ∃ z, z = T257.heap.size := ⟨_, rfl⟩
    rw [← g289] at A289 D289 st289
    have g290 : n0 ≤ b289 := Nat.le_trans Z259 (Nat.le_of_eq g289.symm)
    have CR291 := CR258.trans (CHr.ext E289 CR258.1)
    have Z292 : n0 ≤ h289.size := Nat.le_trans Z259 E289.1
    have O293 : Old Z n0 h289 := O260.ext E289
    have hk294 := Nat.le_trans hk261 E289.1
    have F295 : Fld Z h289 b289 "java/lang/String" "value" "[B" .null := D289 (Or.inr (W 22 rfl)) (ty := (.array .byte)) (by decide)
    have F296 : Fld Z h289 b289 "java/lang/String" "coder" "B" (.int (0 : Int32)) := D289 (Or.inr (W 23 rfl)) (ty := .byte) (by decide)
    obtain ⟨T297, h297, k297, X297, e297, E297, A297, st297⟩ := newP X289 hx hZ (W 9 rfl) e289 (g := (mkF m 64 #[iv p1, iv p2, iv p3, iv p4, iv p5, iv 1, iv c0, iv c1, iv c2, iv c3, .unset, .unset] [.int 1, .ref b289, .ref b289])) rfl (hb hby at_64) rfl (by decide : ¬ ((1 : Int32) < (0 : Int32))) (cap := 1) (by decide) (by decide) (by decide) (by decide)
    obtain ⟨b297, g297⟩ : ∃ z, z = h289.size := ⟨_, rfl⟩
    rw [← g297] at A297 st297
    have g298 : n0 ≤ b297 := Nat.le_trans Z292 (Nat.le_of_eq g297.symm)
    have CR299 := CR291.trans (CHr.ext E297 CR291.1)
    have Z300 : n0 ≤ h297.size := Nat.le_trans Z292 E297.1
    have O301 : Old Z n0 h297 := O293.ext E297
    have hk302 := Nat.le_trans hk294 E297.1
    have V297 : Arv Z h297 b297 k297 .char (1 : Int32) [(.int (0 : Int32))] (.int (0 : Int32)) := (Arv.new A297 (by decide : ¬ ((1 : Int32) < (0 : Int32)))).pad (pad_rep [] (.int (0 : Int32)) 1)
    obtain ⟨cl303, Ar303, aq303, aS303, aN303, aH303, aG303⟩ := id V297
    obtain ⟨T304, h304, X304, e304, W304, st304⟩ := stC X297 hx hZ e297 Ar303 (j := (0 : Int32)) (inb_of aS303 ⟨(by decide), (by decide)⟩) (g := (mkF m 70 #[iv p1, iv p2, iv p3, iv p4, iv p5, iv 1, iv c0, iv c1, iv c2, iv c3, .unset, .unset] [.int c0, .int 0, .ref b297, .ref b297, .ref b289, .ref b289])) rfl rfl (hb hby at_70)
    have N304 := Fr.snoc X304 N257 g298
    have Vx304 := Arv.set Ar303 aq303 aS303 aN303 aH303 aG303 (fits_nar_char _) W304 0 rfl (Nat.le_of_ble_eq_true rfl)
    have V304 : Arv Z h304 b297 k297 .char (1 : Int32) [(.int c0)] (.int (0 : Int32)) := by
      have q := Vx304
      rw [show Value.int (nar .char c0) = (.int c0) from congrArg Value.int (own_narc c0 hb0.1 hb0.2)] at q
      exact q
    have f306 := (Safe.ext E297 CR291.1 (Safe.new (Nat.le_of_eq g297.symm)))
    have CR305 := CR299.trans (CHr.wr W304 f306 CR299.1)
    have Z307 : n0 ≤ h304.size := Nat.le_trans Z300 (Keep.of_wr W304).1
    have O308 : Old Z n0 h304 := O301.wr W304 g298
    have hk309 := Nat.le_trans hk302 (Keep.of_wr W304).1
    have G310 : ∀ tq, Steps p.tables e below (T304.setTop (mkF m 71 #[iv p1, iv p2, iv p3, iv p4, iv p5, iv 1, iv c0, iv c1, iv c2, iv c3, .unset, .unset] [.ref b297, .ref b289, .ref b289])) tq → Steps p.tables e below (T257.setTop (mkF m 33 #[iv p1, iv p2, iv p3, iv p4, iv p5, iv 1, iv c0, iv c1, iv c2, iv c3, .unset, .unset] [])) tq := by
      intro tq kk
      show Steps p.tables e below (T257.setTop (mkF m 33 #[iv p1, iv p2, iv p3, iv p4, iv p5, iv 1, iv c0, iv c1, iv c2, iv c3, .unset, .unset] [])) _
      refine XS.iload X257.here hx rfl (hb hby at_33) rfl ?_
      show Steps _ _ _ (T257.setTop (mkF m 35 _ [.int 1])) _
      refine XS.ifYes X257.here hx rfl (pc0 := 35) (pc' := 53) rfl (hb hby at_35) rfl ((if0 _ _).trans (feq ((by decide) : ¬ ((1 : Int32) = (0 : Int32)))).2) (by decide) (by decide) ?_
      show Steps _ _ _ (T257.setTop (mkF m 53 _ [])) _
      refine XS.iload X257.here hx rfl (hb hby at_53) rfl ?_
      show Steps _ _ _ (T257.setTop (mkF m 55 _ [.int 1])) _
      refine XS.iconst X257.here hx rfl (hb hby at_55) ?_
      show Steps _ _ _ (T257.setTop (mkF m 56 _ [.int 1, .int 1])) _
      refine XS.icmpNo X257.here hx rfl (hb hby at_56) rfl (teq (rfl : (1 : Int32) = (1 : Int32))).2 ?_
      show Steps _ _ _ (T257.setTop (mkF m 59 _ [])) _
      refine st289 _ ?_
      show Steps p.tables e below (T289.setTop (mkF m 62 #[iv p1, iv p2, iv p3, iv p4, iv p5, iv 1, iv c0, iv c1, iv c2, iv c3, .unset, .unset] [.ref b289])) _
      refine XS.dup X289.here hx rfl (hb hby at_62) rfl rfl ?_
      show Steps _ _ _ (T289.setTop (mkF m 63 _ [.ref b289, .ref b289])) _
      refine XS.iconst X289.here hx rfl (hb hby at_63) ?_
      show Steps _ _ _ (T289.setTop (mkF m 64 _ [.int 1, .ref b289, .ref b289])) _
      refine st297 _ ?_
      show Steps p.tables e below (T297.setTop (mkF m 66 #[iv p1, iv p2, iv p3, iv p4, iv p5, iv 1, iv c0, iv c1, iv c2, iv c3, .unset, .unset] [.ref b297, .ref b289, .ref b289])) _
      refine XS.dup X297.here hx rfl (hb hby at_66) rfl rfl ?_
      show Steps _ _ _ (T297.setTop (mkF m 67 _ [.ref b297, .ref b297, .ref b289, .ref b289])) _
      refine XS.iconst X297.here hx rfl (hb hby at_67) ?_
      show Steps _ _ _ (T297.setTop (mkF m 68 _ [.int 0, .ref b297, .ref b297, .ref b289, .ref b289])) _
      refine XS.iload X297.here hx rfl (hb hby at_68) rfl ?_
      show Steps _ _ _ (T297.setTop (mkF m 70 _ [.int c0, .int 0, .ref b297, .ref b297, .ref b289, .ref b289])) _
      refine st304 _ ?_
      exact kk
    have hbA : ∀ c ∈ ([c0] : List Int32), ¬ c < 0 ∧ ¬ (65535 : Int32) < c := by
      intro c hc
      simp only [List.mem_cons, List.not_mem_nil, or_false] at hc
      rcases hc with rfl
      · exact hb0
    have f311 := ((A289.ext E297).wr W304)
    have f312 := ((F295.ext E297).other W304 (Or.inl (Nat.ne_of_lt (Nat.lt_of_lt_of_le A289.lt (Nat.le_of_eq g297.symm)))))
    have f313 := ((F296.ext E297).other W304 (Or.inl (Nat.ne_of_lt (Nat.lt_of_lt_of_le A289.lt (Nat.le_of_eq g297.symm)))))
    obtain ⟨_, _, ⟨T314, L314, k314, n314⟩, -, X314, ⟨Lc314, hQ314, l314, y314, z314⟩, st314⟩ := X304.specialBack hx (y := (⟨"java/lang/String", "<init>", "([C)V"⟩ : MethodName)) rfl hown (mvT hZ (W 10 rfl)) (mvT hZ (W 11 rfl)) (mvT hZ (W 12 rfl)) (by decide) (backOf (W := 1) (rm_snew l Z a0 hw [] b289 b297 k297 G1 ([c0] : List Int32) h304 n0 Z307 O308 V304 (Nat.le_of_ble_eq_true rfl) (Nat.le_of_ble_eq_true rfl) hbA f311 g290 f312 f313 (Ne.symm (Nat.ne_of_lt (Nat.lt_of_lt_of_le A289.lt (Nat.le_of_eq g297.symm)))) O2 P5 OA OH OL) hZ (W 12 rfl) (W 8 rfl) (by decide) (by decide)) (g := (mkF m 71 #[iv p1, iv p2, iv p3, iv p4, iv p5, iv 1, iv c0, iv c1, iv c2, iv c3, .unset, .unset] [.ref b297, .ref b289, .ref b289])) rfl (by rw [hml]; rfl) (Steps.refl _) (a := b289) (argsL := [.ref b297]) (rest := [.ref b289]) (lenOf own_pd_1 rfl) rfl (by show 2 * 0 + _ ≤ _; exact Nat.le_of_eq rfl) (hb hby at_71) (fun _ _ => ⟨rfl, e304, (by decide : 6 + 2 ≤ _), (by decide : 53 + 12 ≤ _)⟩)
    dsimp only [Pt.U, Pt.locs, Pt.cells, Pt.slots] at X314 l314 y314 z314 st314 hQ314
    subst l314 y314 z314
    obtain ⟨rfl, Nq314, K314, SX⟩ := hQ314
    have N314 := Fr.app N304 Nq314
    have f316 := (Nat.lt_of_lt_of_le A289.lt E297.1)
    have f317 := ((CHr.wr W304 f306 CR299.1).safe f316 ((CHr.ext E297 CR291.1).safe A289.lt (Safe.ext E289 CR258.1 (Safe.new (Nat.le_of_eq g289.symm)))))
    have CR315 := CR305.trans (CHr.keep K314 (allS f317 all0) CR305.1)
    have Z318 : n0 ≤ T314.heap.size := Nat.le_trans Z307 K314.1
    have O319 : Old Z n0 T314.heap := O308.keep K314 (allS g290 all0)
    have hk320 := Nat.le_trans hk309 K314.1
    have G321 : ∀ tq, Steps p.tables e below (T314.setTop (mkF m 178 #[iv p1, iv p2, iv p3, iv p4, iv p5, iv 1, iv c0, iv c1, iv c2, iv c3, rv b289, .unset] [])) tq → Steps p.tables e below (T304.setTop (mkF m 71 #[iv p1, iv p2, iv p3, iv p4, iv p5, iv 1, iv c0, iv c1, iv c2, iv c3, .unset, .unset] [.ref b297, .ref b289, .ref b289])) tq := by
      intro tq kk
      show Steps p.tables e below (T304.setTop (mkF m 71 #[iv p1, iv p2, iv p3, iv p4, iv p5, iv 1, iv c0, iv c1, iv c2, iv c3, .unset, .unset] [.ref b297, .ref b289, .ref b289])) _
      refine st314.trans ?_
      show Steps p.tables e below (T314.setTop (mkF m 74 #[iv p1, iv p2, iv p3, iv p4, iv p5, iv 1, iv c0, iv c1, iv c2, iv c3, .unset, .unset] [.ref b289])) _
      refine XS.astore X314.here hx rfl (hb hby at_74) rfl rfl (l' := #[iv p1, iv p2, iv p3, iv p4, iv p5, iv 1, iv c0, iv c1, iv c2, iv c3, rv b289, .unset]) rfl ?_
      show Steps _ _ _ (T314.setTop (mkF m 76 _ [])) _
      refine XS.goto X314.here hx rfl (pc0 := 76) (pc' := 178) rfl (hb hby at_76) (by decide) (by decide) ?_
      exact kk
    obtain ⟨ex, TE, locsE, XE, eE, NE, hex, GE⟩ : ∃ (ex : Int32) (TE : State) (locsE : List Loc), Stand p l e room_1 (s.setVm s.vm) m #[(.int p1), (.int p2), (.int p3), (.int p4), (.int p5)] below meth c TE locsE 8 65 ∧ TE.heap = T314.heap ∧ Fr n0 locsE ∧ ((ex = 1 ∧ ¬ own_ws c0) ∨ (ex = 0 ∧ ¬ (¬ own_ws c0))) ∧ (∀ tgt, Steps p.tables e below (TE.setTop (mkF m 238 #[iv p1, iv p2, iv p3, iv p4, iv p5, iv 1, iv c0, iv c1, iv c2, iv c3, rv b289, .unset] [.int ex])) tgt → Steps p.tables e below (T314.setTop (mkF m 178 #[iv p1, iv p2, iv p3, iv p4, iv p5, iv 1, iv c0, iv c1, iv c2, iv c3, rv b289, .unset] [])) tgt) := by
      obtain ⟨_, _, ⟨T322, L322, k322, n322⟩, -, X322, ⟨Lc322, hQ322, l322, y322, z322⟩, st322⟩ := Jvm.LawKit.callS X314 hx (y := (⟨"com/example/seshat/seshat/trec/FieldsIsFieldPinLaw", "ws", "(C)Z"⟩ : MethodName)) hown (mvT hZ (W 58 rfl)) (mvT hZ (W 59 rfl)) (mvT hZ (W 2 rfl)) (mvT hZ (W 60 rfl)) (by decide) (backOf (W := 0) (rm_ws l Z a0 hw [] c0 T314.heap n0 Z318 ) hZ (W 60 rfl) (W 2 rfl) (by decide) (by decide)) (g := (mkF m 185 #[iv p1, iv p2, iv p3, iv p4, iv p5, iv 1, iv c0, iv c1, iv c2, iv c3, rv b289, .unset] [.int c0])) rfl (by rw [hml]; rfl) (argsL := [.int c0]) (rest := []) (lenOf own_pd_11 rfl) rfl (by show 2 * 0 + _ ≤ _; exact Nat.le_of_eq rfl) (hb hby at_185) (fun _ _ => ⟨rfl, rfl, (by decide : 8 + 0 ≤ _), (by decide : 65 + 0 ≤ _)⟩)
      dsimp only [Pt.U, Pt.locs, Pt.cells, Pt.slots] at X322 l322 y322 z322 st322 hQ322
      subst l322 y322 z322
      obtain ⟨Nq322, e322, hq322⟩ := hQ322
      have N322 := Fr.app N314 Nq322
      rcases hq322 with ⟨rfl, hk0⟩ | ⟨rfl, hk0⟩
      · have G323 : ∀ tq, Steps p.tables e below (T322.setTop (mkF m 238 #[iv p1, iv p2, iv p3, iv p4, iv p5, iv 1, iv c0, iv c1, iv c2, iv c3, rv b289, .unset] [.int 0])) tq → Steps p.tables e below (T314.setTop (mkF m 178 #[iv p1, iv p2, iv p3, iv p4, iv p5, iv 1, iv c0, iv c1, iv c2, iv c3, rv b289, .unset] [])) tq := by
          intro tq kk
          show Steps p.tables e below (T314.setTop (mkF m 178 #[iv p1, iv p2, iv p3, iv p4, iv p5, iv 1, iv c0, iv c1, iv c2, iv c3, rv b289, .unset] [])) _
          refine XS.iload X314.here hx rfl (hb hby at_178) rfl ?_
          show Steps _ _ _ (T314.setTop (mkF m 180 _ [.int 1])) _
          refine XS.ifNo X314.here hx rfl (hb hby at_180) rfl ((if0 _ _).trans (tlt ((by decide) : (0 : Int32) < (1 : Int32))).2.2.2) ?_
          show Steps _ _ _ (T314.setTop (mkF m 183 _ [])) _
          refine XS.iload X314.here hx rfl (hb hby at_183) rfl ?_
          show Steps _ _ _ (T314.setTop (mkF m 185 _ [.int c0])) _
          refine st322 _ ?_
          show Steps p.tables e below (T322.setTop (mkF m 188 #[iv p1, iv p2, iv p3, iv p4, iv p5, iv 1, iv c0, iv c1, iv c2, iv c3, rv b289, .unset] [.int 1])) _
          refine XS.ifYes X322.here hx rfl (pc0 := 188) (pc' := 237) rfl (hb hby at_188) rfl ((if0 _ _).trans (feq ((by decide) : ¬ ((1 : Int32) = (0 : Int32)))).2) (by decide) (by decide) ?_
          show Steps _ _ _ (T322.setTop (mkF m 237 _ [])) _
          refine XS.iconst X322.here hx rfl (hb hby at_237) ?_
          exact kk
        exact ⟨0, T322, _, X322, e322, N322, Or.inr ⟨rfl, fun q => q hk0⟩, fun tgt kk => G323 _ kk⟩
      · have G324 : ∀ tq, Steps p.tables e below (T322.setTop (mkF m 238 #[iv p1, iv p2, iv p3, iv p4, iv p5, iv 1, iv c0, iv c1, iv c2, iv c3, rv b289, .unset] [.int 1])) tq → Steps p.tables e below (T314.setTop (mkF m 178 #[iv p1, iv p2, iv p3, iv p4, iv p5, iv 1, iv c0, iv c1, iv c2, iv c3, rv b289, .unset] [])) tq := by
          intro tq kk
          show Steps p.tables e below (T314.setTop (mkF m 178 #[iv p1, iv p2, iv p3, iv p4, iv p5, iv 1, iv c0, iv c1, iv c2, iv c3, rv b289, .unset] [])) _
          refine XS.iload X314.here hx rfl (hb hby at_178) rfl ?_
          show Steps _ _ _ (T314.setTop (mkF m 180 _ [.int 1])) _
          refine XS.ifNo X314.here hx rfl (hb hby at_180) rfl ((if0 _ _).trans (tlt ((by decide) : (0 : Int32) < (1 : Int32))).2.2.2) ?_
          show Steps _ _ _ (T314.setTop (mkF m 183 _ [])) _
          refine XS.iload X314.here hx rfl (hb hby at_183) rfl ?_
          show Steps _ _ _ (T314.setTop (mkF m 185 _ [.int c0])) _
          refine st322 _ ?_
          show Steps p.tables e below (T322.setTop (mkF m 188 #[iv p1, iv p2, iv p3, iv p4, iv p5, iv 1, iv c0, iv c1, iv c2, iv c3, rv b289, .unset] [.int 0])) _
          refine XS.ifNo X322.here hx rfl (hb hby at_188) rfl ((if0 _ _).trans (teq (rfl : (0 : Int32) = (0 : Int32))).2) ?_
          show Steps _ _ _ (T322.setTop (mkF m 191 _ [])) _
          refine XS.iload X322.here hx rfl (hb hby at_191) rfl ?_
          show Steps _ _ _ (T322.setTop (mkF m 193 _ [.int 1])) _
          refine XS.iconst X322.here hx rfl (hb hby at_193) ?_
          show Steps _ _ _ (T322.setTop (mkF m 194 _ [.int 2, .int 1])) _
          refine XS.icmpYes X322.here hx rfl (pc0 := 194) (pc' := 205) rfl (hb hby at_194) rfl (tlt ((by decide) : (1 : Int32) < (2 : Int32))).1 (by decide) (by decide) ?_
          show Steps _ _ _ (T322.setTop (mkF m 205 _ [])) _
          refine XS.iload X322.here hx rfl (hb hby at_205) rfl ?_
          show Steps _ _ _ (T322.setTop (mkF m 207 _ [.int 1])) _
          refine XS.iconst X322.here hx rfl (hb hby at_207) ?_
          show Steps _ _ _ (T322.setTop (mkF m 208 _ [.int 3, .int 1])) _
          refine XS.icmpYes X322.here hx rfl (pc0 := 208) (pc' := 219) rfl (hb hby at_208) rfl (tlt ((by decide) : (1 : Int32) < (3 : Int32))).1 (by decide) (by decide) ?_
          show Steps _ _ _ (T322.setTop (mkF m 219 _ [])) _
          refine XS.iload X322.here hx rfl (hb hby at_219) rfl ?_
          show Steps p.tables e below (T322.setTop (mkF m 221 #[iv p1, iv p2, iv p3, iv p4, iv p5, iv 1, iv c0, iv c1, iv c2, iv c3, rv b289, .unset] [.int 1])) _
          refine XS.iconst X322.here hx rfl (hb hby at_221) ?_
          show Steps _ _ _ (T322.setTop (mkF m 222 _ [.int 4, .int 1])) _
          refine XS.icmpYes X322.here hx rfl (pc0 := 222) (pc' := 233) rfl (hb hby at_222) rfl (tlt ((by decide) : (1 : Int32) < (4 : Int32))).1 (by decide) (by decide) ?_
          show Steps _ _ _ (T322.setTop (mkF m 233 _ [])) _
          refine XS.iconst X322.here hx rfl (hb hby at_233) ?_
          show Steps _ _ _ (T322.setTop (mkF m 234 _ [.int 1])) _
          refine XS.goto X322.here hx rfl (pc0 := 234) (pc' := 238) rfl (hb hby at_234) (by decide) (by decide) ?_
          exact kk
        exact ⟨1, T322, _, X322, e322, N322, Or.inl ⟨rfl, hk0⟩, fun tgt kk => G324 _ kk⟩
    obtain ⟨_, _, ⟨T325, L325, k325, n325⟩, -, X325, ⟨Lc325, hQ325, l325, y325, z325⟩, st325⟩ := Jvm.LawKit.callS XE hx (y := (⟨"com/example/seshat/seshat/trec/Fields", "isField", "(Ljava/lang/String;)Z"⟩ : MethodName)) hown (mvT hZ (W 28 rfl)) (mvT hZ (W 29 rfl)) (mvT hZ (W 30 rfl)) (mvT hZ (W 31 rfl)) (by decide) (backOf (W := 0) (rm_isf l Z a0 hw [] b289 _ ([c0] : List Int32) G1 G3 T314.heap n0 Z318 O319 SX (Nat.le_of_ble_eq_true rfl) O2 P5 O4 rG3 OA OH OL) hZ (W 31 rfl) (W 30 rfl) (by decide) (by decide)) (g := (mkF m 242 #[iv p1, iv p2, iv p3, iv p4, iv p5, iv 1, iv c0, iv c1, iv c2, iv c3, rv b289, iv ex] [.ref b289])) rfl (by rw [hml]; rfl) (argsL := [.ref b289]) (rest := []) (lenOf own_pd_4 rfl) rfl (by show 2 * 0 + _ ≤ _; exact Nat.le_of_eq rfl) (hb hby at_242) (fun _ _ => ⟨rfl, eE, (by decide : 8 + 0 ≤ _), (by decide : 65 + 0 ≤ _)⟩)
    dsimp only [Pt.U, Pt.locs, Pt.cells, Pt.slots] at X325 l325 y325 z325 st325 hQ325
    subst l325 y325 z325
    obtain ⟨Nq325, e325, hq325⟩ := hQ325
    have N325 := Fr.app NE Nq325
    have hall : (0 < ([c0] : List Int32).length ∧ ∀ j, j < ([c0] : List Int32).length → ¬ own_sp (([c0] : List Int32).getD j 0)) ↔ (¬ own_ws c0) := by
      simp only [own_spws]
      constructor
      · intro q; exact q.2 0 (Nat.le_of_ble_eq_true rfl)
      · intro q; refine ⟨(Nat.le_of_ble_eq_true rfl), fun j hj => ?_⟩
        have hj' : j < 1 := hj
        rcases (show j = 0 by omega) with rfl
        · exact q
    rcases hq325 with ⟨rfl, hr⟩ | ⟨rfl, hr⟩
    · obtain rfl : ex = 1 := hex.elim (fun q => q.1) (fun q => absurd (hall.mp hr) q.2)
      have CRe := CR315.trans (CHv.at X325 hZ hEL CR315.1)
      obtain ⟨fs, hr, hrun, hended, hRW⟩ := X325.leaveW hS0 (by rw [e325]; exact hk320) (v := some (.int (1 : Int32))) (fun h => by rw [Bd.returns] at h; cases h)
      refine ⟨_, _, pre0 _ (Gn _ (G262 _ (G310 _ (G321 _ (GE _ (?_)))))), hrun, hended, _, _, rfl, ?_, (by rw [hh]; show CHr Z _ s.vm h0 T325.vm T325.heap; rw [e325]; exact CRe), hRW.1, hRW.2.1, hRW.2.2.1, hRW.2.2.2.mono (by decide) (by decide)⟩
      · show Steps p.tables e below (TE.setTop (mkF m 238 #[iv p1, iv p2, iv p3, iv p4, iv p5, iv 1, iv c0, iv c1, iv c2, iv c3, rv b289, .unset] [.int 1])) _
        refine XS.istore XE.here hx rfl (hb hby at_238) rfl (l' := #[iv p1, iv p2, iv p3, iv p4, iv p5, iv 1, iv c0, iv c1, iv c2, iv c3, rv b289, iv 1]) rfl ?_
        show Steps _ _ _ (TE.setTop (mkF m 240 _ [])) _
        refine XS.aload XE.here hx rfl (hb hby at_240) rfl rfl ?_
        show Steps _ _ _ (TE.setTop (mkF m 242 _ [.ref b289])) _
        refine st325 _ ?_
        show Steps p.tables e below (T325.setTop (mkF m 245 #[iv p1, iv p2, iv p3, iv p4, iv p5, iv 1, iv c0, iv c1, iv c2, iv c3, rv b289, iv 1] [.int 1])) _
        refine XS.iload X325.here hx rfl (hb hby at_245) rfl ?_
        show Steps _ _ _ (T325.setTop (mkF m 247 _ [.int 1, .int 1])) _
        refine XS.icmpNo X325.here hx rfl (hb hby at_247) rfl (teq (rfl : (1 : Int32) = (1 : Int32))).2 ?_
        show Steps _ _ _ (T325.setTop (mkF m 250 _ [])) _
        refine XS.iconst X325.here hx rfl (hb hby at_250) ?_
        show Steps _ _ _ (T325.setTop (mkF m 251 _ [.int 1])) _
        refine XS.goto X325.here hx rfl (pc0 := 251) (pc' := 255) rfl (hb hby at_251) (by decide) (by decide) ?_
        show Steps _ _ _ (T325.setTop (mkF m 255 _ [.int 1])) _
        exact retN X325 hx (t := .boolean) Bd.returns (by simp) (hb hby at_255) hr
      · show Q_law Z p1 p2 p3 p4 p5 G1 G3 h0 n0 _ T325.heap _
        rw [e325]
        exact ⟨rfl, N325⟩
    · obtain rfl : ex = 0 := hex.elim (fun q => absurd (hall.mpr q.2) hr) (fun q => q.1)
      have CRe := CR315.trans (CHv.at X325 hZ hEL CR315.1)
      obtain ⟨fs, hr, hrun, hended, hRW⟩ := X325.leaveW hS0 (by rw [e325]; exact hk320) (v := some (.int (1 : Int32))) (fun h => by rw [Bd.returns] at h; cases h)
      refine ⟨_, _, pre0 _ (Gn _ (G262 _ (G310 _ (G321 _ (GE _ (?_)))))), hrun, hended, _, _, rfl, ?_, (by rw [hh]; show CHr Z _ s.vm h0 T325.vm T325.heap; rw [e325]; exact CRe), hRW.1, hRW.2.1, hRW.2.2.1, hRW.2.2.2.mono (by decide) (by decide)⟩
      · show Steps p.tables e below (TE.setTop (mkF m 238 #[iv p1, iv p2, iv p3, iv p4, iv p5, iv 1, iv c0, iv c1, iv c2, iv c3, rv b289, .unset] [.int 0])) _
        refine XS.istore XE.here hx rfl (hb hby at_238) rfl (l' := #[iv p1, iv p2, iv p3, iv p4, iv p5, iv 1, iv c0, iv c1, iv c2, iv c3, rv b289, iv 0]) rfl ?_
        show Steps _ _ _ (TE.setTop (mkF m 240 _ [])) _
        refine XS.aload XE.here hx rfl (hb hby at_240) rfl rfl ?_
        show Steps _ _ _ (TE.setTop (mkF m 242 _ [.ref b289])) _
        refine st325 _ ?_
        show Steps p.tables e below (T325.setTop (mkF m 245 #[iv p1, iv p2, iv p3, iv p4, iv p5, iv 1, iv c0, iv c1, iv c2, iv c3, rv b289, iv 0] [.int 0])) _
        refine XS.iload X325.here hx rfl (hb hby at_245) rfl ?_
        show Steps _ _ _ (T325.setTop (mkF m 247 _ [.int 0, .int 0])) _
        refine XS.icmpNo X325.here hx rfl (hb hby at_247) rfl (teq (rfl : (0 : Int32) = (0 : Int32))).2 ?_
        show Steps _ _ _ (T325.setTop (mkF m 250 _ [])) _
        refine XS.iconst X325.here hx rfl (hb hby at_250) ?_
        show Steps _ _ _ (T325.setTop (mkF m 251 _ [.int 1])) _
        refine XS.goto X325.here hx rfl (pc0 := 251) (pc' := 255) rfl (hb hby at_251) (by decide) (by decide) ?_
        show Steps _ _ _ (T325.setTop (mkF m 255 _ [.int 1])) _
        exact retN X325 hx (t := .boolean) Bd.returns (by simp) (hb hby at_255) hr
      · show Q_law Z p1 p2 p3 p4 p5 G1 G3 h0 n0 _ T325.heap _
        rw [e325]
        exact ⟨rfl, N325⟩
  · obtain ⟨T326, h326, X326, e326, E326, A326, D326, -, st326⟩ := newO X257 hx hZ hown (W 6 rfl) (W 7 rfl) (W 8 rfl) rfl (g := (mkF m 85 #[iv p1, iv p2, iv p3, iv p4, iv p5, iv 2, iv c0, iv c1, iv c2, iv c3, .unset, .unset] [])) rfl (hb hby at_85) (by decide) (by decide)
    obtain ⟨b326, g326⟩ : ∃ z, z = T257.heap.size := ⟨_, rfl⟩
    rw [← g326] at A326 D326 st326
    have g327 : n0 ≤ b326 := Nat.le_trans Z259 (Nat.le_of_eq g326.symm)
    have CR328 := CR258.trans (CHr.ext E326 CR258.1)
    have Z329 : n0 ≤ h326.size := Nat.le_trans Z259 E326.1
    have O330 : Old Z n0 h326 := O260.ext E326
    have hk331 := Nat.le_trans hk261 E326.1
    have F332 : Fld Z h326 b326 "java/lang/String" "value" "[B" .null := D326 (Or.inr (W 22 rfl)) (ty := (.array .byte)) (by decide)
    have F333 : Fld Z h326 b326 "java/lang/String" "coder" "B" (.int (0 : Int32)) := D326 (Or.inr (W 23 rfl)) (ty := .byte) (by decide)
    obtain ⟨T334, h334, k334, X334, e334, E334, A334, st334⟩ := newP X326 hx hZ (W 9 rfl) e326 (g := (mkF m 90 #[iv p1, iv p2, iv p3, iv p4, iv p5, iv 2, iv c0, iv c1, iv c2, iv c3, .unset, .unset] [.int 2, .ref b326, .ref b326])) rfl (hb hby at_90) rfl (by decide : ¬ ((2 : Int32) < (0 : Int32))) (cap := 2) (by decide) (by decide) (by decide) (by decide)
    obtain ⟨b334, g334⟩ : ∃ z, z = h326.size := ⟨_, rfl⟩
    rw [← g334] at A334 st334
    have g335 : n0 ≤ b334 := Nat.le_trans Z329 (Nat.le_of_eq g334.symm)
    have CR336 := CR328.trans (CHr.ext E334 CR328.1)
    have Z337 : n0 ≤ h334.size := Nat.le_trans Z329 E334.1
    have O338 : Old Z n0 h334 := O330.ext E334
    have hk339 := Nat.le_trans hk331 E334.1
    have V334 : Arv Z h334 b334 k334 .char (2 : Int32) [(.int (0 : Int32)), (.int (0 : Int32))] (.int (0 : Int32)) := (Arv.new A334 (by decide : ¬ ((2 : Int32) < (0 : Int32)))).pad (pad_rep [] (.int (0 : Int32)) 2)
    obtain ⟨cl340, Ar340, aq340, aS340, aN340, aH340, aG340⟩ := id V334
    obtain ⟨T341, h341, X341, e341, W341, st341⟩ := stC X334 hx hZ e334 Ar340 (j := (0 : Int32)) (inb_of aS340 ⟨(by decide), (by decide)⟩) (g := (mkF m 96 #[iv p1, iv p2, iv p3, iv p4, iv p5, iv 2, iv c0, iv c1, iv c2, iv c3, .unset, .unset] [.int c0, .int 0, .ref b334, .ref b334, .ref b326, .ref b326])) rfl rfl (hb hby at_96)
    have N341 := Fr.snoc X341 N257 g335
    have Vx341 := Arv.set Ar340 aq340 aS340 aN340 aH340 aG340 (fits_nar_char _) W341 0 rfl (Nat.le_of_ble_eq_true rfl)
    have V341 : Arv Z h341 b334 k334 .char (2 : Int32) [(.int c0), (.int (0 : Int32))] (.int (0 : Int32)) := by
      have q := Vx341
      rw [show Value.int (nar .char c0) = (.int c0) from congrArg Value.int (own_narc c0 hb0.1 hb0.2)] at q
      exact q
    have f343 := (Safe.ext E334 CR328.1 (Safe.new (Nat.le_of_eq g334.symm)))
    have CR342 := CR336.trans (CHr.wr W341 f343 CR336.1)
    have Z344 : n0 ≤ h341.size := Nat.le_trans Z337 (Keep.of_wr W341).1
    have O345 : Old Z n0 h341 := O338.wr W341 g335
    have hk346 := Nat.le_trans hk339 (Keep.of_wr W341).1
    obtain ⟨cl347, Ar347, aq347, aS347, aN347, aH347, aG347⟩ := id V341
    obtain ⟨T348, h348, X348, e348, W348, st348⟩ := stC X341 hx hZ e341 Ar347 (j := (1 : Int32)) (inb_of aS347 ⟨(by decide), (by decide)⟩) (g := (mkF m 101 #[iv p1, iv p2, iv p3, iv p4, iv p5, iv 2, iv c0, iv c1, iv c2, iv c3, .unset, .unset] [.int c1, .int 1, .ref b334, .ref b334, .ref b326, .ref b326])) rfl rfl (hb hby at_101)
    have N348 := Fr.snoc X348 N341 g335
    have Vx348 := Arv.set Ar347 aq347 aS347 aN347 aH347 aG347 (fits_nar_char _) W348 1 rfl (Nat.le_of_ble_eq_true rfl)
    have V348 : Arv Z h348 b334 k334 .char (2 : Int32) [(.int c0), (.int c1)] (.int (0 : Int32)) := by
      have q := Vx348
      rw [show Value.int (nar .char c1) = (.int c1) from congrArg Value.int (own_narc c1 hb1.1 hb1.2)] at q
      exact q
    have f350 := ((CHr.wr W341 f343 CR336.1).safe V334.lt f343)
    have CR349 := CR342.trans (CHr.wr W348 f350 CR342.1)
    have Z351 : n0 ≤ h348.size := Nat.le_trans Z344 (Keep.of_wr W348).1
    have O352 : Old Z n0 h348 := O345.wr W348 g335
    have hk353 := Nat.le_trans hk346 (Keep.of_wr W348).1
    have G354 : ∀ tq, Steps p.tables e below (T348.setTop (mkF m 102 #[iv p1, iv p2, iv p3, iv p4, iv p5, iv 2, iv c0, iv c1, iv c2, iv c3, .unset, .unset] [.ref b334, .ref b326, .ref b326])) tq → Steps p.tables e below (T257.setTop (mkF m 33 #[iv p1, iv p2, iv p3, iv p4, iv p5, iv 2, iv c0, iv c1, iv c2, iv c3, .unset, .unset] [])) tq := by
      intro tq kk
      show Steps p.tables e below (T257.setTop (mkF m 33 #[iv p1, iv p2, iv p3, iv p4, iv p5, iv 2, iv c0, iv c1, iv c2, iv c3, .unset, .unset] [])) _
      refine XS.iload X257.here hx rfl (hb hby at_33) rfl ?_
      show Steps _ _ _ (T257.setTop (mkF m 35 _ [.int 2])) _
      refine XS.ifYes X257.here hx rfl (pc0 := 35) (pc' := 53) rfl (hb hby at_35) rfl ((if0 _ _).trans (feq ((by decide) : ¬ ((2 : Int32) = (0 : Int32)))).2) (by decide) (by decide) ?_
      show Steps _ _ _ (T257.setTop (mkF m 53 _ [])) _
      refine XS.iload X257.here hx rfl (hb hby at_53) rfl ?_
      show Steps _ _ _ (T257.setTop (mkF m 55 _ [.int 2])) _
      refine XS.iconst X257.here hx rfl (hb hby at_55) ?_
      show Steps _ _ _ (T257.setTop (mkF m 56 _ [.int 1, .int 2])) _
      refine XS.icmpYes X257.here hx rfl (pc0 := 56) (pc' := 79) rfl (hb hby at_56) rfl (feq ((by decide) : ¬ ((2 : Int32) = (1 : Int32)))).2 (by decide) (by decide) ?_
      show Steps _ _ _ (T257.setTop (mkF m 79 _ [])) _
      refine XS.iload X257.here hx rfl (hb hby at_79) rfl ?_
      show Steps _ _ _ (T257.setTop (mkF m 81 _ [.int 2])) _
      refine XS.iconst X257.here hx rfl (hb hby at_81) ?_
      show Steps _ _ _ (T257.setTop (mkF m 82 _ [.int 2, .int 2])) _
      refine XS.icmpNo X257.here hx rfl (hb hby at_82) rfl (teq (rfl : (2 : Int32) = (2 : Int32))).2 ?_
      show Steps p.tables e below (T257.setTop (mkF m 85 #[iv p1, iv p2, iv p3, iv p4, iv p5, iv 2, iv c0, iv c1, iv c2, iv c3, .unset, .unset] [])) _
      refine st326 _ ?_
      show Steps p.tables e below (T326.setTop (mkF m 88 #[iv p1, iv p2, iv p3, iv p4, iv p5, iv 2, iv c0, iv c1, iv c2, iv c3, .unset, .unset] [.ref b326])) _
      refine XS.dup X326.here hx rfl (hb hby at_88) rfl rfl ?_
      show Steps _ _ _ (T326.setTop (mkF m 89 _ [.ref b326, .ref b326])) _
      refine XS.iconst X326.here hx rfl (hb hby at_89) ?_
      show Steps _ _ _ (T326.setTop (mkF m 90 _ [.int 2, .ref b326, .ref b326])) _
      refine st334 _ ?_
      show Steps p.tables e below (T334.setTop (mkF m 92 #[iv p1, iv p2, iv p3, iv p4, iv p5, iv 2, iv c0, iv c1, iv c2, iv c3, .unset, .unset] [.ref b334, .ref b326, .ref b326])) _
      refine XS.dup X334.here hx rfl (hb hby at_92) rfl rfl ?_
      show Steps _ _ _ (T334.setTop (mkF m 93 _ [.ref b334, .ref b334, .ref b326, .ref b326])) _
      refine XS.iconst X334.here hx rfl (hb hby at_93) ?_
      show Steps _ _ _ (T334.setTop (mkF m 94 _ [.int 0, .ref b334, .ref b334, .ref b326, .ref b326])) _
      refine XS.iload X334.here hx rfl (hb hby at_94) rfl ?_
      show Steps _ _ _ (T334.setTop (mkF m 96 _ [.int c0, .int 0, .ref b334, .ref b334, .ref b326, .ref b326])) _
      refine st341 _ ?_
      show Steps p.tables e below (T341.setTop (mkF m 97 #[iv p1, iv p2, iv p3, iv p4, iv p5, iv 2, iv c0, iv c1, iv c2, iv c3, .unset, .unset] [.ref b334, .ref b326, .ref b326])) _
      refine XS.dup X341.here hx rfl (hb hby at_97) rfl rfl ?_
      show Steps _ _ _ (T341.setTop (mkF m 98 _ [.ref b334, .ref b334, .ref b326, .ref b326])) _
      refine XS.iconst X341.here hx rfl (hb hby at_98) ?_
      show Steps _ _ _ (T341.setTop (mkF m 99 _ [.int 1, .ref b334, .ref b334, .ref b326, .ref b326])) _
      refine XS.iload X341.here hx rfl (hb hby at_99) rfl ?_
      show Steps _ _ _ (T341.setTop (mkF m 101 _ [.int c1, .int 1, .ref b334, .ref b334, .ref b326, .ref b326])) _
      refine st348 _ ?_
      exact kk
    have hbA : ∀ c ∈ ([c0, c1] : List Int32), ¬ c < 0 ∧ ¬ (65535 : Int32) < c := by
      intro c hc
      simp only [List.mem_cons, List.not_mem_nil, or_false] at hc
      rcases hc with rfl | rfl
      · exact hb0
      · exact hb1
    have f355 := (((A326.ext E334).wr W341).wr W348)
    have f356 := (((F332.ext E334).other W341 (Or.inl (Nat.ne_of_lt (Nat.lt_of_lt_of_le A326.lt (Nat.le_of_eq g334.symm))))).other W348 (Or.inl (Nat.ne_of_lt (Nat.lt_of_lt_of_le A326.lt (Nat.le_of_eq g334.symm)))))
    have f357 := (((F333.ext E334).other W341 (Or.inl (Nat.ne_of_lt (Nat.lt_of_lt_of_le A326.lt (Nat.le_of_eq g334.symm))))).other W348 (Or.inl (Nat.ne_of_lt (Nat.lt_of_lt_of_le A326.lt (Nat.le_of_eq g334.symm)))))
    obtain ⟨_, _, ⟨T358, L358, k358, n358⟩, -, X358, ⟨Lc358, hQ358, l358, y358, z358⟩, st358⟩ := X348.specialBack hx (y := (⟨"java/lang/String", "<init>", "([C)V"⟩ : MethodName)) rfl hown (mvT hZ (W 10 rfl)) (mvT hZ (W 11 rfl)) (mvT hZ (W 12 rfl)) (by decide) (backOf (W := 1) (rm_snew l Z a0 hw [] b326 b334 k334 G1 ([c0, c1] : List Int32) h348 n0 Z351 O352 V348 (Nat.le_of_ble_eq_true rfl) (Nat.le_of_ble_eq_true rfl) hbA f355 g327 f356 f357 (Ne.symm (Nat.ne_of_lt (Nat.lt_of_lt_of_le A326.lt (Nat.le_of_eq g334.symm)))) O2 P5 OA OH OL) hZ (W 12 rfl) (W 8 rfl) (by decide) (by decide)) (g := (mkF m 102 #[iv p1, iv p2, iv p3, iv p4, iv p5, iv 2, iv c0, iv c1, iv c2, iv c3, .unset, .unset] [.ref b334, .ref b326, .ref b326])) rfl (by rw [hml]; rfl) (Steps.refl _) (a := b326) (argsL := [.ref b334]) (rest := [.ref b326]) (lenOf own_pd_1 rfl) rfl (by show 2 * 0 + _ ≤ _; exact Nat.le_of_eq rfl) (hb hby at_102) (fun _ _ => ⟨rfl, e348, (by decide : 6 + 2 ≤ _), (by decide : 54 + 12 ≤ _)⟩)
    dsimp only [Pt.U, Pt.locs, Pt.cells, Pt.slots] at X358 l358 y358 z358 st358 hQ358
    subst l358 y358 z358
    obtain ⟨rfl, Nq358, K358, SX⟩ := hQ358
    have N358 := Fr.app N348 Nq358
    have f360 := (Nat.lt_of_lt_of_le A326.lt E334.1)
    have f361 := (Nat.lt_of_lt_of_le f360 (Keep.of_wr W341).1)
    have f362 := ((CHr.wr W348 f350 CR342.1).safe f361 ((CHr.wr W341 f343 CR336.1).safe f360 ((CHr.ext E334 CR328.1).safe A326.lt (Safe.ext E326 CR258.1 (Safe.new (Nat.le_of_eq g326.symm))))))
    have CR359 := CR349.trans (CHr.keep K358 (allS f362 all0) CR349.1)
    have Z363 : n0 ≤ T358.heap.size := Nat.le_trans Z351 K358.1
    have O364 : Old Z n0 T358.heap := O352.keep K358 (allS g327 all0)
    have hk365 := Nat.le_trans hk353 K358.1
    have G366 : ∀ tq, Steps p.tables e below (T358.setTop (mkF m 178 #[iv p1, iv p2, iv p3, iv p4, iv p5, iv 2, iv c0, iv c1, iv c2, iv c3, rv b326, .unset] [])) tq → Steps p.tables e below (T348.setTop (mkF m 102 #[iv p1, iv p2, iv p3, iv p4, iv p5, iv 2, iv c0, iv c1, iv c2, iv c3, .unset, .unset] [.ref b334, .ref b326, .ref b326])) tq := by
      intro tq kk
      show Steps p.tables e below (T348.setTop (mkF m 102 #[iv p1, iv p2, iv p3, iv p4, iv p5, iv 2, iv c0, iv c1, iv c2, iv c3, .unset, .unset] [.ref b334, .ref b326, .ref b326])) _
      refine st358.trans ?_
      show Steps p.tables e below (T358.setTop (mkF m 105 #[iv p1, iv p2, iv p3, iv p4, iv p5, iv 2, iv c0, iv c1, iv c2, iv c3, .unset, .unset] [.ref b326])) _
      refine XS.astore X358.here hx rfl (hb hby at_105) rfl rfl (l' := #[iv p1, iv p2, iv p3, iv p4, iv p5, iv 2, iv c0, iv c1, iv c2, iv c3, rv b326, .unset]) rfl ?_
      show Steps _ _ _ (T358.setTop (mkF m 107 _ [])) _
      refine XS.goto X358.here hx rfl (pc0 := 107) (pc' := 178) rfl (hb hby at_107) (by decide) (by decide) ?_
      exact kk
    obtain ⟨ex, TE, locsE, XE, eE, NE, hex, GE⟩ : ∃ (ex : Int32) (TE : State) (locsE : List Loc), Stand p l e room_1 (s.setVm s.vm) m #[(.int p1), (.int p2), (.int p3), (.int p4), (.int p5)] below meth c TE locsE 8 66 ∧ TE.heap = T358.heap ∧ Fr n0 locsE ∧ ((ex = 1 ∧ ¬ own_ws c0 ∧ ¬ own_ws c1) ∨ (ex = 0 ∧ ¬ (¬ own_ws c0 ∧ ¬ own_ws c1))) ∧ (∀ tgt, Steps p.tables e below (TE.setTop (mkF m 238 #[iv p1, iv p2, iv p3, iv p4, iv p5, iv 2, iv c0, iv c1, iv c2, iv c3, rv b326, .unset] [.int ex])) tgt → Steps p.tables e below (T358.setTop (mkF m 178 #[iv p1, iv p2, iv p3, iv p4, iv p5, iv 2, iv c0, iv c1, iv c2, iv c3, rv b326, .unset] [])) tgt) := by
      obtain ⟨_, _, ⟨T367, L367, k367, n367⟩, -, X367, ⟨Lc367, hQ367, l367, y367, z367⟩, st367⟩ := Jvm.LawKit.callS X358 hx (y := (⟨"com/example/seshat/seshat/trec/FieldsIsFieldPinLaw", "ws", "(C)Z"⟩ : MethodName)) hown (mvT hZ (W 58 rfl)) (mvT hZ (W 59 rfl)) (mvT hZ (W 2 rfl)) (mvT hZ (W 60 rfl)) (by decide) (backOf (W := 0) (rm_ws l Z a0 hw [] c0 T358.heap n0 Z363 ) hZ (W 60 rfl) (W 2 rfl) (by decide) (by decide)) (g := (mkF m 185 #[iv p1, iv p2, iv p3, iv p4, iv p5, iv 2, iv c0, iv c1, iv c2, iv c3, rv b326, .unset] [.int c0])) rfl (by rw [hml]; rfl) (argsL := [.int c0]) (rest := []) (lenOf own_pd_11 rfl) rfl (by show 2 * 0 + _ ≤ _; exact Nat.le_of_eq rfl) (hb hby at_185) (fun _ _ => ⟨rfl, rfl, (by decide : 8 + 0 ≤ _), (by decide : 66 + 0 ≤ _)⟩)
      dsimp only [Pt.U, Pt.locs, Pt.cells, Pt.slots] at X367 l367 y367 z367 st367 hQ367
      subst l367 y367 z367
      obtain ⟨Nq367, e367, hq367⟩ := hQ367
      have N367 := Fr.app N358 Nq367
      rcases hq367 with ⟨rfl, hk0⟩ | ⟨rfl, hk0⟩
      · have G368 : ∀ tq, Steps p.tables e below (T367.setTop (mkF m 238 #[iv p1, iv p2, iv p3, iv p4, iv p5, iv 2, iv c0, iv c1, iv c2, iv c3, rv b326, .unset] [.int 0])) tq → Steps p.tables e below (T358.setTop (mkF m 178 #[iv p1, iv p2, iv p3, iv p4, iv p5, iv 2, iv c0, iv c1, iv c2, iv c3, rv b326, .unset] [])) tq := by
          intro tq kk
          show Steps p.tables e below (T358.setTop (mkF m 178 #[iv p1, iv p2, iv p3, iv p4, iv p5, iv 2, iv c0, iv c1, iv c2, iv c3, rv b326, .unset] [])) _
          refine XS.iload X358.here hx rfl (hb hby at_178) rfl ?_
          show Steps _ _ _ (T358.setTop (mkF m 180 _ [.int 2])) _
          refine XS.ifNo X358.here hx rfl (hb hby at_180) rfl ((if0 _ _).trans (tlt ((by decide) : (0 : Int32) < (2 : Int32))).2.2.2) ?_
          show Steps _ _ _ (T358.setTop (mkF m 183 _ [])) _
          refine XS.iload X358.here hx rfl (hb hby at_183) rfl ?_
          show Steps _ _ _ (T358.setTop (mkF m 185 _ [.int c0])) _
          refine st367 _ ?_
          show Steps p.tables e below (T367.setTop (mkF m 188 #[iv p1, iv p2, iv p3, iv p4, iv p5, iv 2, iv c0, iv c1, iv c2, iv c3, rv b326, .unset] [.int 1])) _
          refine XS.ifYes X367.here hx rfl (pc0 := 188) (pc' := 237) rfl (hb hby at_188) rfl ((if0 _ _).trans (feq ((by decide) : ¬ ((1 : Int32) = (0 : Int32)))).2) (by decide) (by decide) ?_
          show Steps _ _ _ (T367.setTop (mkF m 237 _ [])) _
          refine XS.iconst X367.here hx rfl (hb hby at_237) ?_
          exact kk
        exact ⟨0, T367, _, X367, e367, N367, Or.inr ⟨rfl, fun q => q.1 hk0⟩, fun tgt kk => G368 _ kk⟩
      · have G369 : ∀ tq, Steps p.tables e below (T367.setTop (mkF m 191 #[iv p1, iv p2, iv p3, iv p4, iv p5, iv 2, iv c0, iv c1, iv c2, iv c3, rv b326, .unset] [])) tq → Steps p.tables e below (T358.setTop (mkF m 178 #[iv p1, iv p2, iv p3, iv p4, iv p5, iv 2, iv c0, iv c1, iv c2, iv c3, rv b326, .unset] [])) tq := by
          intro tq kk
          show Steps p.tables e below (T358.setTop (mkF m 178 #[iv p1, iv p2, iv p3, iv p4, iv p5, iv 2, iv c0, iv c1, iv c2, iv c3, rv b326, .unset] [])) _
          refine XS.iload X358.here hx rfl (hb hby at_178) rfl ?_
          show Steps _ _ _ (T358.setTop (mkF m 180 _ [.int 2])) _
          refine XS.ifNo X358.here hx rfl (hb hby at_180) rfl ((if0 _ _).trans (tlt ((by decide) : (0 : Int32) < (2 : Int32))).2.2.2) ?_
          show Steps _ _ _ (T358.setTop (mkF m 183 _ [])) _
          refine XS.iload X358.here hx rfl (hb hby at_183) rfl ?_
          show Steps _ _ _ (T358.setTop (mkF m 185 _ [.int c0])) _
          refine st367 _ ?_
          show Steps p.tables e below (T367.setTop (mkF m 188 #[iv p1, iv p2, iv p3, iv p4, iv p5, iv 2, iv c0, iv c1, iv c2, iv c3, rv b326, .unset] [.int 0])) _
          refine XS.ifNo X367.here hx rfl (hb hby at_188) rfl ((if0 _ _).trans (teq (rfl : (0 : Int32) = (0 : Int32))).2) ?_
          exact kk
        obtain ⟨_, _, ⟨T370, L370, k370, n370⟩, -, X370, ⟨Lc370, hQ370, l370, y370, z370⟩, st370⟩ := Jvm.LawKit.callS X367 hx (y := (⟨"com/example/seshat/seshat/trec/FieldsIsFieldPinLaw", "ws", "(C)Z"⟩ : MethodName)) hown (mvT hZ (W 58 rfl)) (mvT hZ (W 59 rfl)) (mvT hZ (W 2 rfl)) (mvT hZ (W 60 rfl)) (by decide) (backOf (W := 0) (rm_ws l Z a0 hw [] c1 T358.heap n0 Z363 ) hZ (W 60 rfl) (W 2 rfl) (by decide) (by decide)) (g := (mkF m 199 #[iv p1, iv p2, iv p3, iv p4, iv p5, iv 2, iv c0, iv c1, iv c2, iv c3, rv b326, .unset] [.int c1])) rfl (by rw [hml]; rfl) (argsL := [.int c1]) (rest := []) (lenOf own_pd_11 rfl) rfl (by show 2 * 0 + _ ≤ _; exact Nat.le_of_eq rfl) (hb hby at_199) (fun _ _ => ⟨rfl, e367, (by decide : 8 + 0 ≤ _), (by decide : 66 + 0 ≤ _)⟩)
        dsimp only [Pt.U, Pt.locs, Pt.cells, Pt.slots] at X370 l370 y370 z370 st370 hQ370
        subst l370 y370 z370
        obtain ⟨Nq370, e370, hq370⟩ := hQ370
        have N370 := Fr.app N367 Nq370
        rcases hq370 with ⟨rfl, hk1⟩ | ⟨rfl, hk1⟩
        · have G371 : ∀ tq, Steps p.tables e below (T370.setTop (mkF m 238 #[iv p1, iv p2, iv p3, iv p4, iv p5, iv 2, iv c0, iv c1, iv c2, iv c3, rv b326, .unset] [.int 0])) tq → Steps p.tables e below (T367.setTop (mkF m 191 #[iv p1, iv p2, iv p3, iv p4, iv p5, iv 2, iv c0, iv c1, iv c2, iv c3, rv b326, .unset] [])) tq := by
            intro tq kk
            show Steps p.tables e below (T367.setTop (mkF m 191 #[iv p1, iv p2, iv p3, iv p4, iv p5, iv 2, iv c0, iv c1, iv c2, iv c3, rv b326, .unset] [])) _
            refine XS.iload X367.here hx rfl (hb hby at_191) rfl ?_
            show Steps _ _ _ (T367.setTop (mkF m 193 _ [.int 2])) _
            refine XS.iconst X367.here hx rfl (hb hby at_193) ?_
            show Steps _ _ _ (T367.setTop (mkF m 194 _ [.int 2, .int 2])) _
            refine XS.icmpNo X367.here hx rfl (hb hby at_194) rfl (flt ((by decide) : ¬ ((2 : Int32) < (2 : Int32)))).1 ?_
            show Steps _ _ _ (T367.setTop (mkF m 197 _ [])) _
            refine XS.iload X367.here hx rfl (hb hby at_197) rfl ?_
            show Steps _ _ _ (T367.setTop (mkF m 199 _ [.int c1])) _
            refine st370 _ ?_
            show Steps p.tables e below (T370.setTop (mkF m 202 #[iv p1, iv p2, iv p3, iv p4, iv p5, iv 2, iv c0, iv c1, iv c2, iv c3, rv b326, .unset] [.int 1])) _
            refine XS.ifYes X370.here hx rfl (pc0 := 202) (pc' := 237) rfl (hb hby at_202) rfl ((if0 _ _).trans (feq ((by decide) : ¬ ((1 : Int32) = (0 : Int32)))).2) (by decide) (by decide) ?_
            show Steps _ _ _ (T370.setTop (mkF m 237 _ [])) _
            refine XS.iconst X370.here hx rfl (hb hby at_237) ?_
            exact kk
          exact ⟨0, T370, _, X370, e370, N370, Or.inr ⟨rfl, fun q => q.2 hk1⟩, fun tgt kk => G369 _ (G371 _ kk)⟩
        · have G372 : ∀ tq, Steps p.tables e below (T370.setTop (mkF m 238 #[iv p1, iv p2, iv p3, iv p4, iv p5, iv 2, iv c0, iv c1, iv c2, iv c3, rv b326, .unset] [.int 1])) tq → Steps p.tables e below (T367.setTop (mkF m 191 #[iv p1, iv p2, iv p3, iv p4, iv p5, iv 2, iv c0, iv c1, iv c2, iv c3, rv b326, .unset] [])) tq := by
            intro tq kk
            show Steps p.tables e below (T367.setTop (mkF m 191 #[iv p1, iv p2, iv p3, iv p4, iv p5, iv 2, iv c0, iv c1, iv c2, iv c3, rv b326, .unset] [])) _
            refine XS.iload X367.here hx rfl (hb hby at_191) rfl ?_
            show Steps _ _ _ (T367.setTop (mkF m 193 _ [.int 2])) _
            refine XS.iconst X367.here hx rfl (hb hby at_193) ?_
            show Steps _ _ _ (T367.setTop (mkF m 194 _ [.int 2, .int 2])) _
            refine XS.icmpNo X367.here hx rfl (hb hby at_194) rfl (flt ((by decide) : ¬ ((2 : Int32) < (2 : Int32)))).1 ?_
            show Steps _ _ _ (T367.setTop (mkF m 197 _ [])) _
            refine XS.iload X367.here hx rfl (hb hby at_197) rfl ?_
            show Steps _ _ _ (T367.setTop (mkF m 199 _ [.int c1])) _
            refine st370 _ ?_
            show Steps p.tables e below (T370.setTop (mkF m 202 #[iv p1, iv p2, iv p3, iv p4, iv p5, iv 2, iv c0, iv c1, iv c2, iv c3, rv b326, .unset] [.int 0])) _
            refine XS.ifNo X370.here hx rfl (hb hby at_202) rfl ((if0 _ _).trans (teq (rfl : (0 : Int32) = (0 : Int32))).2) ?_
            show Steps _ _ _ (T370.setTop (mkF m 205 _ [])) _
            refine XS.iload X370.here hx rfl (hb hby at_205) rfl ?_
            show Steps _ _ _ (T370.setTop (mkF m 207 _ [.int 2])) _
            refine XS.iconst X370.here hx rfl (hb hby at_207) ?_
            show Steps _ _ _ (T370.setTop (mkF m 208 _ [.int 3, .int 2])) _
            refine XS.icmpYes X370.here hx rfl (pc0 := 208) (pc' := 219) rfl (hb hby at_208) rfl (tlt ((by decide) : (2 : Int32) < (3 : Int32))).1 (by decide) (by decide) ?_
            show Steps _ _ _ (T370.setTop (mkF m 219 _ [])) _
            refine XS.iload X370.here hx rfl (hb hby at_219) rfl ?_
            show Steps _ _ _ (T370.setTop (mkF m 221 _ [.int 2])) _
            refine XS.iconst X370.here hx rfl (hb hby at_221) ?_
            show Steps _ _ _ (T370.setTop (mkF m 222 _ [.int 4, .int 2])) _
            refine XS.icmpYes X370.here hx rfl (pc0 := 222) (pc' := 233) rfl (hb hby at_222) rfl (tlt ((by decide) : (2 : Int32) < (4 : Int32))).1 (by decide) (by decide) ?_
            show Steps _ _ _ (T370.setTop (mkF m 233 _ [])) _
            refine XS.iconst X370.here hx rfl (hb hby at_233) ?_
            show Steps p.tables e below (T370.setTop (mkF m 234 #[iv p1, iv p2, iv p3, iv p4, iv p5, iv 2, iv c0, iv c1, iv c2, iv c3, rv b326, .unset] [.int 1])) _
            refine XS.goto X370.here hx rfl (pc0 := 234) (pc' := 238) rfl (hb hby at_234) (by decide) (by decide) ?_
            exact kk
          exact ⟨1, T370, _, X370, e370, N370, Or.inl ⟨rfl, hk0, hk1⟩, fun tgt kk => G369 _ (G372 _ kk)⟩
    obtain ⟨_, _, ⟨T373, L373, k373, n373⟩, -, X373, ⟨Lc373, hQ373, l373, y373, z373⟩, st373⟩ := Jvm.LawKit.callS XE hx (y := (⟨"com/example/seshat/seshat/trec/Fields", "isField", "(Ljava/lang/String;)Z"⟩ : MethodName)) hown (mvT hZ (W 28 rfl)) (mvT hZ (W 29 rfl)) (mvT hZ (W 30 rfl)) (mvT hZ (W 31 rfl)) (by decide) (backOf (W := 0) (rm_isf l Z a0 hw [] b326 _ ([c0, c1] : List Int32) G1 G3 T358.heap n0 Z363 O364 SX (Nat.le_of_ble_eq_true rfl) O2 P5 O4 rG3 OA OH OL) hZ (W 31 rfl) (W 30 rfl) (by decide) (by decide)) (g := (mkF m 242 #[iv p1, iv p2, iv p3, iv p4, iv p5, iv 2, iv c0, iv c1, iv c2, iv c3, rv b326, iv ex] [.ref b326])) rfl (by rw [hml]; rfl) (argsL := [.ref b326]) (rest := []) (lenOf own_pd_4 rfl) rfl (by show 2 * 0 + _ ≤ _; exact Nat.le_of_eq rfl) (hb hby at_242) (fun _ _ => ⟨rfl, eE, (by decide : 8 + 0 ≤ _), (by decide : 66 + 0 ≤ _)⟩)
    dsimp only [Pt.U, Pt.locs, Pt.cells, Pt.slots] at X373 l373 y373 z373 st373 hQ373
    subst l373 y373 z373
    obtain ⟨Nq373, e373, hq373⟩ := hQ373
    have N373 := Fr.app NE Nq373
    have hall : (0 < ([c0, c1] : List Int32).length ∧ ∀ j, j < ([c0, c1] : List Int32).length → ¬ own_sp (([c0, c1] : List Int32).getD j 0)) ↔ (¬ own_ws c0 ∧ ¬ own_ws c1) := by
      simp only [own_spws]
      constructor
      · intro q; exact ⟨q.2 0 (Nat.le_of_ble_eq_true rfl), q.2 1 (Nat.le_of_ble_eq_true rfl)⟩
      · intro q; refine ⟨(Nat.le_of_ble_eq_true rfl), fun j hj => ?_⟩
        have hj' : j < 2 := hj
        rcases (show j = 0 ∨ j = 1 by omega) with rfl | rfl
        · exact q.1
        · exact q.2
    rcases hq373 with ⟨rfl, hr⟩ | ⟨rfl, hr⟩
    · obtain rfl : ex = 1 := hex.elim (fun q => q.1) (fun q => absurd (hall.mp hr) q.2)
      have CRe := CR359.trans (CHv.at X373 hZ hEL CR359.1)
      obtain ⟨fs, hr, hrun, hended, hRW⟩ := X373.leaveW hS0 (by rw [e373]; exact hk365) (v := some (.int (1 : Int32))) (fun h => by rw [Bd.returns] at h; cases h)
      refine ⟨_, _, pre0 _ (Gn _ (G262 _ (G354 _ (G366 _ (GE _ (?_)))))), hrun, hended, _, _, rfl, ?_, (by rw [hh]; show CHr Z _ s.vm h0 T373.vm T373.heap; rw [e373]; exact CRe), hRW.1, hRW.2.1, hRW.2.2.1, hRW.2.2.2.mono (by decide) (by decide)⟩
      · show Steps p.tables e below (TE.setTop (mkF m 238 #[iv p1, iv p2, iv p3, iv p4, iv p5, iv 2, iv c0, iv c1, iv c2, iv c3, rv b326, .unset] [.int 1])) _
        refine XS.istore XE.here hx rfl (hb hby at_238) rfl (l' := #[iv p1, iv p2, iv p3, iv p4, iv p5, iv 2, iv c0, iv c1, iv c2, iv c3, rv b326, iv 1]) rfl ?_
        show Steps _ _ _ (TE.setTop (mkF m 240 _ [])) _
        refine XS.aload XE.here hx rfl (hb hby at_240) rfl rfl ?_
        show Steps _ _ _ (TE.setTop (mkF m 242 _ [.ref b326])) _
        refine st373 _ ?_
        show Steps p.tables e below (T373.setTop (mkF m 245 #[iv p1, iv p2, iv p3, iv p4, iv p5, iv 2, iv c0, iv c1, iv c2, iv c3, rv b326, iv 1] [.int 1])) _
        refine XS.iload X373.here hx rfl (hb hby at_245) rfl ?_
        show Steps _ _ _ (T373.setTop (mkF m 247 _ [.int 1, .int 1])) _
        refine XS.icmpNo X373.here hx rfl (hb hby at_247) rfl (teq (rfl : (1 : Int32) = (1 : Int32))).2 ?_
        show Steps _ _ _ (T373.setTop (mkF m 250 _ [])) _
        refine XS.iconst X373.here hx rfl (hb hby at_250) ?_
        show Steps _ _ _ (T373.setTop (mkF m 251 _ [.int 1])) _
        refine XS.goto X373.here hx rfl (pc0 := 251) (pc' := 255) rfl (hb hby at_251) (by decide) (by decide) ?_
        show Steps _ _ _ (T373.setTop (mkF m 255 _ [.int 1])) _
        exact retN X373 hx (t := .boolean) Bd.returns (by simp) (hb hby at_255) hr
      · show Q_law Z p1 p2 p3 p4 p5 G1 G3 h0 n0 _ T373.heap _
        rw [e373]
        exact ⟨rfl, N373⟩
    · obtain rfl : ex = 0 := hex.elim (fun q => absurd (hall.mpr q.2) hr) (fun q => q.1)
      have CRe := CR359.trans (CHv.at X373 hZ hEL CR359.1)
      obtain ⟨fs, hr, hrun, hended, hRW⟩ := X373.leaveW hS0 (by rw [e373]; exact hk365) (v := some (.int (1 : Int32))) (fun h => by rw [Bd.returns] at h; cases h)
      refine ⟨_, _, pre0 _ (Gn _ (G262 _ (G354 _ (G366 _ (GE _ (?_)))))), hrun, hended, _, _, rfl, ?_, (by rw [hh]; show CHr Z _ s.vm h0 T373.vm T373.heap; rw [e373]; exact CRe), hRW.1, hRW.2.1, hRW.2.2.1, hRW.2.2.2.mono (by decide) (by decide)⟩
      · show Steps p.tables e below (TE.setTop (mkF m 238 #[iv p1, iv p2, iv p3, iv p4, iv p5, iv 2, iv c0, iv c1, iv c2, iv c3, rv b326, .unset] [.int 0])) _
        refine XS.istore XE.here hx rfl (hb hby at_238) rfl (l' := #[iv p1, iv p2, iv p3, iv p4, iv p5, iv 2, iv c0, iv c1, iv c2, iv c3, rv b326, iv 0]) rfl ?_
        show Steps _ _ _ (TE.setTop (mkF m 240 _ [])) _
        refine XS.aload XE.here hx rfl (hb hby at_240) rfl rfl ?_
        show Steps _ _ _ (TE.setTop (mkF m 242 _ [.ref b326])) _
        refine st373 _ ?_
        show Steps p.tables e below (T373.setTop (mkF m 245 #[iv p1, iv p2, iv p3, iv p4, iv p5, iv 2, iv c0, iv c1, iv c2, iv c3, rv b326, iv 0] [.int 0])) _
        refine XS.iload X373.here hx rfl (hb hby at_245) rfl ?_
        show Steps _ _ _ (T373.setTop (mkF m 247 _ [.int 0, .int 0])) _
        refine XS.icmpNo X373.here hx rfl (hb hby at_247) rfl (teq (rfl : (0 : Int32) = (0 : Int32))).2 ?_
        show Steps _ _ _ (T373.setTop (mkF m 250 _ [])) _
        refine XS.iconst X373.here hx rfl (hb hby at_250) ?_
        show Steps _ _ _ (T373.setTop (mkF m 251 _ [.int 1])) _
        refine XS.goto X373.here hx rfl (pc0 := 251) (pc' := 255) rfl (hb hby at_251) (by decide) (by decide) ?_
        show Steps _ _ _ (T373.setTop (mkF m 255 _ [.int 1])) _
        exact retN X373 hx (t := .boolean) Bd.returns (by simp) (hb hby at_255) hr
      · show Q_law Z p1 p2 p3 p4 p5 G1 G3 h0 n0 _ T373.heap _
        rw [e373]
        exact ⟨rfl, N373⟩
  · obtain ⟨T374, h374, X374, e374, E374, A374, D374, -, st374⟩ := newO X257 hx hZ hown (W 6 rfl) (W 7 rfl) (W 8 rfl) rfl (g := (mkF m 116 #[iv p1, iv p2, iv p3, iv p4, iv p5, iv 3, iv c0, iv c1, iv c2, iv c3, .unset, .unset] [])) rfl (hb hby at_116) (by decide) (by decide)
    obtain ⟨b374, g374⟩ : ∃ z, z = T257.heap.size := ⟨_, rfl⟩
    rw [← g374] at A374 D374 st374
    have g375 : n0 ≤ b374 := Nat.le_trans Z259 (Nat.le_of_eq g374.symm)
    have CR376 := CR258.trans (CHr.ext E374 CR258.1)
    have Z377 : n0 ≤ h374.size := Nat.le_trans Z259 E374.1
    have O378 : Old Z n0 h374 := O260.ext E374
    have hk379 := Nat.le_trans hk261 E374.1
    have F380 : Fld Z h374 b374 "java/lang/String" "value" "[B" .null := D374 (Or.inr (W 22 rfl)) (ty := (.array .byte)) (by decide)
    have F381 : Fld Z h374 b374 "java/lang/String" "coder" "B" (.int (0 : Int32)) := D374 (Or.inr (W 23 rfl)) (ty := .byte) (by decide)
    obtain ⟨T382, h382, k382, X382, e382, E382, A382, st382⟩ := newP X374 hx hZ (W 9 rfl) e374 (g := (mkF m 121 #[iv p1, iv p2, iv p3, iv p4, iv p5, iv 3, iv c0, iv c1, iv c2, iv c3, .unset, .unset] [.int 3, .ref b374, .ref b374])) rfl (hb hby at_121) rfl (by decide : ¬ ((3 : Int32) < (0 : Int32))) (cap := 3) (by decide) (by decide) (by decide) (by decide)
    obtain ⟨b382, g382⟩ : ∃ z, z = h374.size := ⟨_, rfl⟩
    rw [← g382] at A382 st382
    have g383 : n0 ≤ b382 := Nat.le_trans Z377 (Nat.le_of_eq g382.symm)
    have CR384 := CR376.trans (CHr.ext E382 CR376.1)
    have Z385 : n0 ≤ h382.size := Nat.le_trans Z377 E382.1
    have O386 : Old Z n0 h382 := O378.ext E382
    have hk387 := Nat.le_trans hk379 E382.1
    have V382 : Arv Z h382 b382 k382 .char (3 : Int32) [(.int (0 : Int32)), (.int (0 : Int32)), (.int (0 : Int32))] (.int (0 : Int32)) := (Arv.new A382 (by decide : ¬ ((3 : Int32) < (0 : Int32)))).pad (pad_rep [] (.int (0 : Int32)) 3)
    obtain ⟨cl388, Ar388, aq388, aS388, aN388, aH388, aG388⟩ := id V382
    obtain ⟨T389, h389, X389, e389, W389, st389⟩ := stC X382 hx hZ e382 Ar388 (j := (0 : Int32)) (inb_of aS388 ⟨(by decide), (by decide)⟩) (g := (mkF m 127 #[iv p1, iv p2, iv p3, iv p4, iv p5, iv 3, iv c0, iv c1, iv c2, iv c3, .unset, .unset] [.int c0, .int 0, .ref b382, .ref b382, .ref b374, .ref b374])) rfl rfl (hb hby at_127)
    have N389 := Fr.snoc X389 N257 g383
    have Vx389 := Arv.set Ar388 aq388 aS388 aN388 aH388 aG388 (fits_nar_char _) W389 0 rfl (Nat.le_of_ble_eq_true rfl)
    have V389 : Arv Z h389 b382 k382 .char (3 : Int32) [(.int c0), (.int (0 : Int32)), (.int (0 : Int32))] (.int (0 : Int32)) := by
      have q := Vx389
      rw [show Value.int (nar .char c0) = (.int c0) from congrArg Value.int (own_narc c0 hb0.1 hb0.2)] at q
      exact q
    have f391 := (Safe.ext E382 CR376.1 (Safe.new (Nat.le_of_eq g382.symm)))
    have CR390 := CR384.trans (CHr.wr W389 f391 CR384.1)
    have Z392 : n0 ≤ h389.size := Nat.le_trans Z385 (Keep.of_wr W389).1
    have O393 : Old Z n0 h389 := O386.wr W389 g383
    have hk394 := Nat.le_trans hk387 (Keep.of_wr W389).1
    obtain ⟨cl395, Ar395, aq395, aS395, aN395, aH395, aG395⟩ := id V389
    obtain ⟨T396, h396, X396, e396, W396, st396⟩ := stC X389 hx hZ e389 Ar395 (j := (1 : Int32)) (inb_of aS395 ⟨(by decide), (by decide)⟩) (g := (mkF m 132 #[iv p1, iv p2, iv p3, iv p4, iv p5, iv 3, iv c0, iv c1, iv c2, iv c3, .unset, .unset] [.int c1, .int 1, .ref b382, .ref b382, .ref b374, .ref b374])) rfl rfl (hb hby at_132)
    have N396 := Fr.snoc X396 N389 g383
    have Vx396 := Arv.set Ar395 aq395 aS395 aN395 aH395 aG395 (fits_nar_char _) W396 1 rfl (Nat.le_of_ble_eq_true rfl)
    have V396 : Arv Z h396 b382 k382 .char (3 : Int32) [(.int c0), (.int c1), (.int (0 : Int32))] (.int (0 : Int32)) := by
      have q := Vx396
      rw [show Value.int (nar .char c1) = (.int c1) from congrArg Value.int (own_narc c1 hb1.1 hb1.2)] at q
      exact q
    have f398 := ((CHr.wr W389 f391 CR384.1).safe V382.lt f391)
    have CR397 := CR390.trans (CHr.wr W396 f398 CR390.1)
    have Z399 : n0 ≤ h396.size := Nat.le_trans Z392 (Keep.of_wr W396).1
    have O400 : Old Z n0 h396 := O393.wr W396 g383
    have hk401 := Nat.le_trans hk394 (Keep.of_wr W396).1
    obtain ⟨cl402, Ar402, aq402, aS402, aN402, aH402, aG402⟩ := id V396
    obtain ⟨T403, h403, X403, e403, W403, st403⟩ := stC X396 hx hZ e396 Ar402 (j := (2 : Int32)) (inb_of aS402 ⟨(by decide), (by decide)⟩) (g := (mkF m 137 #[iv p1, iv p2, iv p3, iv p4, iv p5, iv 3, iv c0, iv c1, iv c2, iv c3, .unset, .unset] [.int c2, .int 2, .ref b382, .ref b382, .ref b374, .ref b374])) rfl rfl (hb hby at_137)
    have N403 := Fr.snoc X403 N396 g383
    have Vx403 := Arv.set Ar402 aq402 aS402 aN402 aH402 aG402 (fits_nar_char _) W403 2 rfl (Nat.le_of_ble_eq_true rfl)
    have V403 : Arv Z h403 b382 k382 .char (3 : Int32) [(.int c0), (.int c1), (.int c2)] (.int (0 : Int32)) := by
      have q := Vx403
      rw [show Value.int (nar .char c2) = (.int c2) from congrArg Value.int (own_narc c2 hb2.1 hb2.2)] at q
      exact q
    have f405 := (Nat.lt_of_lt_of_le V382.lt (Keep.of_wr W389).1)
    have f406 := ((CHr.wr W396 f398 CR390.1).safe f405 f398)
    have CR404 := CR397.trans (CHr.wr W403 f406 CR397.1)
    have Z407 : n0 ≤ h403.size := Nat.le_trans Z399 (Keep.of_wr W403).1
    have O408 : Old Z n0 h403 := O400.wr W403 g383
    have hk409 := Nat.le_trans hk401 (Keep.of_wr W403).1
    have G410 : ∀ tq, Steps p.tables e below (T403.setTop (mkF m 138 #[iv p1, iv p2, iv p3, iv p4, iv p5, iv 3, iv c0, iv c1, iv c2, iv c3, .unset, .unset] [.ref b382, .ref b374, .ref b374])) tq → Steps p.tables e below (T257.setTop (mkF m 33 #[iv p1, iv p2, iv p3, iv p4, iv p5, iv 3, iv c0, iv c1, iv c2, iv c3, .unset, .unset] [])) tq := by
      intro tq kk
      show Steps p.tables e below (T257.setTop (mkF m 33 #[iv p1, iv p2, iv p3, iv p4, iv p5, iv 3, iv c0, iv c1, iv c2, iv c3, .unset, .unset] [])) _
      refine XS.iload X257.here hx rfl (hb hby at_33) rfl ?_
      show Steps _ _ _ (T257.setTop (mkF m 35 _ [.int 3])) _
      refine XS.ifYes X257.here hx rfl (pc0 := 35) (pc' := 53) rfl (hb hby at_35) rfl ((if0 _ _).trans (feq ((by decide) : ¬ ((3 : Int32) = (0 : Int32)))).2) (by decide) (by decide) ?_
      show Steps _ _ _ (T257.setTop (mkF m 53 _ [])) _
      refine XS.iload X257.here hx rfl (hb hby at_53) rfl ?_
      show Steps _ _ _ (T257.setTop (mkF m 55 _ [.int 3])) _
      refine XS.iconst X257.here hx rfl (hb hby at_55) ?_
      show Steps _ _ _ (T257.setTop (mkF m 56 _ [.int 1, .int 3])) _
      refine XS.icmpYes X257.here hx rfl (pc0 := 56) (pc' := 79) rfl (hb hby at_56) rfl (feq ((by decide) : ¬ ((3 : Int32) = (1 : Int32)))).2 (by decide) (by decide) ?_
      show Steps _ _ _ (T257.setTop (mkF m 79 _ [])) _
      refine XS.iload X257.here hx rfl (hb hby at_79) rfl ?_
      show Steps _ _ _ (T257.setTop (mkF m 81 _ [.int 3])) _
      refine XS.iconst X257.here hx rfl (hb hby at_81) ?_
      show Steps _ _ _ (T257.setTop (mkF m 82 _ [.int 2, .int 3])) _
      refine XS.icmpYes X257.here hx rfl (pc0 := 82) (pc' := 110) rfl (hb hby at_82) rfl (feq ((by decide) : ¬ ((3 : Int32) = (2 : Int32)))).2 (by decide) (by decide) ?_
      show Steps p.tables e below (T257.setTop (mkF m 110 #[iv p1, iv p2, iv p3, iv p4, iv p5, iv 3, iv c0, iv c1, iv c2, iv c3, .unset, .unset] [])) _
      refine XS.iload X257.here hx rfl (hb hby at_110) rfl ?_
      show Steps _ _ _ (T257.setTop (mkF m 112 _ [.int 3])) _
      refine XS.iconst X257.here hx rfl (hb hby at_112) ?_
      show Steps _ _ _ (T257.setTop (mkF m 113 _ [.int 3, .int 3])) _
      refine XS.icmpNo X257.here hx rfl (hb hby at_113) rfl (teq (rfl : (3 : Int32) = (3 : Int32))).2 ?_
      show Steps _ _ _ (T257.setTop (mkF m 116 _ [])) _
      refine st374 _ ?_
      show Steps p.tables e below (T374.setTop (mkF m 119 #[iv p1, iv p2, iv p3, iv p4, iv p5, iv 3, iv c0, iv c1, iv c2, iv c3, .unset, .unset] [.ref b374])) _
      refine XS.dup X374.here hx rfl (hb hby at_119) rfl rfl ?_
      show Steps _ _ _ (T374.setTop (mkF m 120 _ [.ref b374, .ref b374])) _
      refine XS.iconst X374.here hx rfl (hb hby at_120) ?_
      show Steps _ _ _ (T374.setTop (mkF m 121 _ [.int 3, .ref b374, .ref b374])) _
      refine st382 _ ?_
      show Steps p.tables e below (T382.setTop (mkF m 123 #[iv p1, iv p2, iv p3, iv p4, iv p5, iv 3, iv c0, iv c1, iv c2, iv c3, .unset, .unset] [.ref b382, .ref b374, .ref b374])) _
      refine XS.dup X382.here hx rfl (hb hby at_123) rfl rfl ?_
      show Steps _ _ _ (T382.setTop (mkF m 124 _ [.ref b382, .ref b382, .ref b374, .ref b374])) _
      refine XS.iconst X382.here hx rfl (hb hby at_124) ?_
      show Steps _ _ _ (T382.setTop (mkF m 125 _ [.int 0, .ref b382, .ref b382, .ref b374, .ref b374])) _
      refine XS.iload X382.here hx rfl (hb hby at_125) rfl ?_
      show Steps _ _ _ (T382.setTop (mkF m 127 _ [.int c0, .int 0, .ref b382, .ref b382, .ref b374, .ref b374])) _
      refine st389 _ ?_
      show Steps p.tables e below (T389.setTop (mkF m 128 #[iv p1, iv p2, iv p3, iv p4, iv p5, iv 3, iv c0, iv c1, iv c2, iv c3, .unset, .unset] [.ref b382, .ref b374, .ref b374])) _
      refine XS.dup X389.here hx rfl (hb hby at_128) rfl rfl ?_
      show Steps _ _ _ (T389.setTop (mkF m 129 _ [.ref b382, .ref b382, .ref b374, .ref b374])) _
      refine XS.iconst X389.here hx rfl (hb hby at_129) ?_
      show Steps _ _ _ (T389.setTop (mkF m 130 _ [.int 1, .ref b382, .ref b382, .ref b374, .ref b374])) _
      refine XS.iload X389.here hx rfl (hb hby at_130) rfl ?_
      show Steps _ _ _ (T389.setTop (mkF m 132 _ [.int c1, .int 1, .ref b382, .ref b382, .ref b374, .ref b374])) _
      refine st396 _ ?_
      show Steps p.tables e below (T396.setTop (mkF m 133 #[iv p1, iv p2, iv p3, iv p4, iv p5, iv 3, iv c0, iv c1, iv c2, iv c3, .unset, .unset] [.ref b382, .ref b374, .ref b374])) _
      refine XS.dup X396.here hx rfl (hb hby at_133) rfl rfl ?_
      show Steps _ _ _ (T396.setTop (mkF m 134 _ [.ref b382, .ref b382, .ref b374, .ref b374])) _
      refine XS.iconst X396.here hx rfl (hb hby at_134) ?_
      show Steps _ _ _ (T396.setTop (mkF m 135 _ [.int 2, .ref b382, .ref b382, .ref b374, .ref b374])) _
      refine XS.iload X396.here hx rfl (hb hby at_135) rfl ?_
      show Steps _ _ _ (T396.setTop (mkF m 137 _ [.int c2, .int 2, .ref b382, .ref b382, .ref b374, .ref b374])) _
      refine st403 _ ?_
      exact kk
    have hbA : ∀ c ∈ ([c0, c1, c2] : List Int32), ¬ c < 0 ∧ ¬ (65535 : Int32) < c := by
      intro c hc
      simp only [List.mem_cons, List.not_mem_nil, or_false] at hc
      rcases hc with rfl | rfl | rfl
      · exact hb0
      · exact hb1
      · exact hb2
    have f411 := ((((A374.ext E382).wr W389).wr W396).wr W403)
    have f412 := ((((F380.ext E382).other W389 (Or.inl (Nat.ne_of_lt (Nat.lt_of_lt_of_le A374.lt (Nat.le_of_eq g382.symm))))).other W396 (Or.inl (Nat.ne_of_lt (Nat.lt_of_lt_of_le A374.lt (Nat.le_of_eq g382.symm))))).other W403 (Or.inl (Nat.ne_of_lt (Nat.lt_of_lt_of_le A374.lt (Nat.le_of_eq g382.symm)))))
    have f413 := ((((F381.ext E382).other W389 (Or.inl (Nat.ne_of_lt (Nat.lt_of_lt_of_le A374.lt (Nat.le_of_eq g382.symm))))).other W396 (Or.inl (Nat.ne_of_lt (Nat.lt_of_lt_of_le A374.lt (Nat.le_of_eq g382.symm))))).other W403 (Or.inl (Nat.ne_of_lt (Nat.lt_of_lt_of_le A374.lt (Nat.le_of_eq g382.symm)))))
    obtain ⟨_, _, ⟨T414, L414, k414, n414⟩, -, X414, ⟨Lc414, hQ414, l414, y414, z414⟩, st414⟩ := X403.specialBack hx (y := (⟨"java/lang/String", "<init>", "([C)V"⟩ : MethodName)) rfl hown (mvT hZ (W 10 rfl)) (mvT hZ (W 11 rfl)) (mvT hZ (W 12 rfl)) (by decide) (backOf (W := 1) (rm_snew l Z a0 hw [] b374 b382 k382 G1 ([c0, c1, c2] : List Int32) h403 n0 Z407 O408 V403 (Nat.le_of_ble_eq_true rfl) (Nat.le_of_ble_eq_true rfl) hbA f411 g375 f412 f413 (Ne.symm (Nat.ne_of_lt (Nat.lt_of_lt_of_le A374.lt (Nat.le_of_eq g382.symm)))) O2 P5 OA OH OL) hZ (W 12 rfl) (W 8 rfl) (by decide) (by decide)) (g := (mkF m 138 #[iv p1, iv p2, iv p3, iv p4, iv p5, iv 3, iv c0, iv c1, iv c2, iv c3, .unset, .unset] [.ref b382, .ref b374, .ref b374])) rfl (by rw [hml]; rfl) (Steps.refl _) (a := b374) (argsL := [.ref b382]) (rest := [.ref b374]) (lenOf own_pd_1 rfl) rfl (by show 2 * 0 + _ ≤ _; exact Nat.le_of_eq rfl) (hb hby at_138) (fun _ _ => ⟨rfl, e403, (by decide : 6 + 2 ≤ _), (by decide : 55 + 12 ≤ _)⟩)
    dsimp only [Pt.U, Pt.locs, Pt.cells, Pt.slots] at X414 l414 y414 z414 st414 hQ414
    subst l414 y414 z414
    obtain ⟨rfl, Nq414, K414, SX⟩ := hQ414
    have N414 := Fr.app N403 Nq414
    have f416 := (Nat.lt_of_lt_of_le A374.lt E382.1)
    have f417 := (Nat.lt_of_lt_of_le f416 (Keep.of_wr W389).1)
    have f418 := (Nat.lt_of_lt_of_le f417 (Keep.of_wr W396).1)
    have f419 := ((CHr.wr W403 f406 CR397.1).safe f418 ((CHr.wr W396 f398 CR390.1).safe f417 ((CHr.wr W389 f391 CR384.1).safe f416 ((CHr.ext E382 CR376.1).safe A374.lt (Safe.ext E374 CR258.1 (Safe.new (Nat.le_of_eq g374.symm)))))))
    have CR415 := CR404.trans (CHr.keep K414 (allS f419 all0) CR404.1)
    have Z420 : n0 ≤ T414.heap.size := Nat.le_trans Z407 K414.1
    have O421 : Old Z n0 T414.heap := O408.keep K414 (allS g375 all0)
    have hk422 := Nat.le_trans hk409 K414.1
    have G423 : ∀ tq, Steps p.tables e below (T414.setTop (mkF m 178 #[iv p1, iv p2, iv p3, iv p4, iv p5, iv 3, iv c0, iv c1, iv c2, iv c3, rv b374, .unset] [])) tq → Steps p.tables e below (T403.setTop (mkF m 138 #[iv p1, iv p2, iv p3, iv p4, iv p5, iv 3, iv c0, iv c1, iv c2, iv c3, .unset, .unset] [.ref b382, .ref b374, .ref b374])) tq := by
      intro tq kk
      show Steps p.tables e below (T403.setTop (mkF m 138 #[iv p1, iv p2, iv p3, iv p4, iv p5, iv 3, iv c0, iv c1, iv c2, iv c3, .unset, .unset] [.ref b382, .ref b374, .ref b374])) _
      refine st414.trans ?_
      show Steps p.tables e below (T414.setTop (mkF m 141 #[iv p1, iv p2, iv p3, iv p4, iv p5, iv 3, iv c0, iv c1, iv c2, iv c3, .unset, .unset] [.ref b374])) _
      refine XS.astore X414.here hx rfl (hb hby at_141) rfl rfl (l' := #[iv p1, iv p2, iv p3, iv p4, iv p5, iv 3, iv c0, iv c1, iv c2, iv c3, rv b374, .unset]) rfl ?_
      show Steps _ _ _ (T414.setTop (mkF m 143 _ [])) _
      refine XS.goto X414.here hx rfl (pc0 := 143) (pc' := 178) rfl (hb hby at_143) (by decide) (by decide) ?_
      exact kk
    obtain ⟨ex, TE, locsE, XE, eE, NE, hex, GE⟩ : ∃ (ex : Int32) (TE : State) (locsE : List Loc), Stand p l e room_1 (s.setVm s.vm) m #[(.int p1), (.int p2), (.int p3), (.int p4), (.int p5)] below meth c TE locsE 8 67 ∧ TE.heap = T414.heap ∧ Fr n0 locsE ∧ ((ex = 1 ∧ ¬ own_ws c0 ∧ ¬ own_ws c1 ∧ ¬ own_ws c2) ∨ (ex = 0 ∧ ¬ (¬ own_ws c0 ∧ ¬ own_ws c1 ∧ ¬ own_ws c2))) ∧ (∀ tgt, Steps p.tables e below (TE.setTop (mkF m 238 #[iv p1, iv p2, iv p3, iv p4, iv p5, iv 3, iv c0, iv c1, iv c2, iv c3, rv b374, .unset] [.int ex])) tgt → Steps p.tables e below (T414.setTop (mkF m 178 #[iv p1, iv p2, iv p3, iv p4, iv p5, iv 3, iv c0, iv c1, iv c2, iv c3, rv b374, .unset] [])) tgt) := by
      obtain ⟨_, _, ⟨T424, L424, k424, n424⟩, -, X424, ⟨Lc424, hQ424, l424, y424, z424⟩, st424⟩ := Jvm.LawKit.callS X414 hx (y := (⟨"com/example/seshat/seshat/trec/FieldsIsFieldPinLaw", "ws", "(C)Z"⟩ : MethodName)) hown (mvT hZ (W 58 rfl)) (mvT hZ (W 59 rfl)) (mvT hZ (W 2 rfl)) (mvT hZ (W 60 rfl)) (by decide) (backOf (W := 0) (rm_ws l Z a0 hw [] c0 T414.heap n0 Z420 ) hZ (W 60 rfl) (W 2 rfl) (by decide) (by decide)) (g := (mkF m 185 #[iv p1, iv p2, iv p3, iv p4, iv p5, iv 3, iv c0, iv c1, iv c2, iv c3, rv b374, .unset] [.int c0])) rfl (by rw [hml]; rfl) (argsL := [.int c0]) (rest := []) (lenOf own_pd_11 rfl) rfl (by show 2 * 0 + _ ≤ _; exact Nat.le_of_eq rfl) (hb hby at_185) (fun _ _ => ⟨rfl, rfl, (by decide : 8 + 0 ≤ _), (by decide : 67 + 0 ≤ _)⟩)
      dsimp only [Pt.U, Pt.locs, Pt.cells, Pt.slots] at X424 l424 y424 z424 st424 hQ424
      subst l424 y424 z424
      obtain ⟨Nq424, e424, hq424⟩ := hQ424
      have N424 := Fr.app N414 Nq424
      rcases hq424 with ⟨rfl, hk0⟩ | ⟨rfl, hk0⟩
      · have G425 : ∀ tq, Steps p.tables e below (T424.setTop (mkF m 238 #[iv p1, iv p2, iv p3, iv p4, iv p5, iv 3, iv c0, iv c1, iv c2, iv c3, rv b374, .unset] [.int 0])) tq → Steps p.tables e below (T414.setTop (mkF m 178 #[iv p1, iv p2, iv p3, iv p4, iv p5, iv 3, iv c0, iv c1, iv c2, iv c3, rv b374, .unset] [])) tq := by
          intro tq kk
          show Steps p.tables e below (T414.setTop (mkF m 178 #[iv p1, iv p2, iv p3, iv p4, iv p5, iv 3, iv c0, iv c1, iv c2, iv c3, rv b374, .unset] [])) _
          refine XS.iload X414.here hx rfl (hb hby at_178) rfl ?_
          show Steps _ _ _ (T414.setTop (mkF m 180 _ [.int 3])) _
          refine XS.ifNo X414.here hx rfl (hb hby at_180) rfl ((if0 _ _).trans (tlt ((by decide) : (0 : Int32) < (3 : Int32))).2.2.2) ?_
          show Steps _ _ _ (T414.setTop (mkF m 183 _ [])) _
          refine XS.iload X414.here hx rfl (hb hby at_183) rfl ?_
          show Steps _ _ _ (T414.setTop (mkF m 185 _ [.int c0])) _
          refine st424 _ ?_
          show Steps p.tables e below (T424.setTop (mkF m 188 #[iv p1, iv p2, iv p3, iv p4, iv p5, iv 3, iv c0, iv c1, iv c2, iv c3, rv b374, .unset] [.int 1])) _
          refine XS.ifYes X424.here hx rfl (pc0 := 188) (pc' := 237) rfl (hb hby at_188) rfl ((if0 _ _).trans (feq ((by decide) : ¬ ((1 : Int32) = (0 : Int32)))).2) (by decide) (by decide) ?_
          show Steps _ _ _ (T424.setTop (mkF m 237 _ [])) _
          refine XS.iconst X424.here hx rfl (hb hby at_237) ?_
          exact kk
        exact ⟨0, T424, _, X424, e424, N424, Or.inr ⟨rfl, fun q => q.1 hk0⟩, fun tgt kk => G425 _ kk⟩
      · have G426 : ∀ tq, Steps p.tables e below (T424.setTop (mkF m 191 #[iv p1, iv p2, iv p3, iv p4, iv p5, iv 3, iv c0, iv c1, iv c2, iv c3, rv b374, .unset] [])) tq → Steps p.tables e below (T414.setTop (mkF m 178 #[iv p1, iv p2, iv p3, iv p4, iv p5, iv 3, iv c0, iv c1, iv c2, iv c3, rv b374, .unset] [])) tq := by
          intro tq kk
          show Steps p.tables e below (T414.setTop (mkF m 178 #[iv p1, iv p2, iv p3, iv p4, iv p5, iv 3, iv c0, iv c1, iv c2, iv c3, rv b374, .unset] [])) _
          refine XS.iload X414.here hx rfl (hb hby at_178) rfl ?_
          show Steps _ _ _ (T414.setTop (mkF m 180 _ [.int 3])) _
          refine XS.ifNo X414.here hx rfl (hb hby at_180) rfl ((if0 _ _).trans (tlt ((by decide) : (0 : Int32) < (3 : Int32))).2.2.2) ?_
          show Steps _ _ _ (T414.setTop (mkF m 183 _ [])) _
          refine XS.iload X414.here hx rfl (hb hby at_183) rfl ?_
          show Steps _ _ _ (T414.setTop (mkF m 185 _ [.int c0])) _
          refine st424 _ ?_
          show Steps p.tables e below (T424.setTop (mkF m 188 #[iv p1, iv p2, iv p3, iv p4, iv p5, iv 3, iv c0, iv c1, iv c2, iv c3, rv b374, .unset] [.int 0])) _
          refine XS.ifNo X424.here hx rfl (hb hby at_188) rfl ((if0 _ _).trans (teq (rfl : (0 : Int32) = (0 : Int32))).2) ?_
          exact kk
        obtain ⟨_, _, ⟨T427, L427, k427, n427⟩, -, X427, ⟨Lc427, hQ427, l427, y427, z427⟩, st427⟩ := Jvm.LawKit.callS X424 hx (y := (⟨"com/example/seshat/seshat/trec/FieldsIsFieldPinLaw", "ws", "(C)Z"⟩ : MethodName)) hown (mvT hZ (W 58 rfl)) (mvT hZ (W 59 rfl)) (mvT hZ (W 2 rfl)) (mvT hZ (W 60 rfl)) (by decide) (backOf (W := 0) (rm_ws l Z a0 hw [] c1 T414.heap n0 Z420 ) hZ (W 60 rfl) (W 2 rfl) (by decide) (by decide)) (g := (mkF m 199 #[iv p1, iv p2, iv p3, iv p4, iv p5, iv 3, iv c0, iv c1, iv c2, iv c3, rv b374, .unset] [.int c1])) rfl (by rw [hml]; rfl) (argsL := [.int c1]) (rest := []) (lenOf own_pd_11 rfl) rfl (by show 2 * 0 + _ ≤ _; exact Nat.le_of_eq rfl) (hb hby at_199) (fun _ _ => ⟨rfl, e424, (by decide : 8 + 0 ≤ _), (by decide : 67 + 0 ≤ _)⟩)
        dsimp only [Pt.U, Pt.locs, Pt.cells, Pt.slots] at X427 l427 y427 z427 st427 hQ427
        subst l427 y427 z427
        obtain ⟨Nq427, e427, hq427⟩ := hQ427
        have N427 := Fr.app N424 Nq427
        rcases hq427 with ⟨rfl, hk1⟩ | ⟨rfl, hk1⟩
        · have G428 : ∀ tq, Steps p.tables e below (T427.setTop (mkF m 238 #[iv p1, iv p2, iv p3, iv p4, iv p5, iv 3, iv c0, iv c1, iv c2, iv c3, rv b374, .unset] [.int 0])) tq → Steps p.tables e below (T424.setTop (mkF m 191 #[iv p1, iv p2, iv p3, iv p4, iv p5, iv 3, iv c0, iv c1, iv c2, iv c3, rv b374, .unset] [])) tq := by
            intro tq kk
            show Steps p.tables e below (T424.setTop (mkF m 191 #[iv p1, iv p2, iv p3, iv p4, iv p5, iv 3, iv c0, iv c1, iv c2, iv c3, rv b374, .unset] [])) _
            refine XS.iload X424.here hx rfl (hb hby at_191) rfl ?_
            show Steps _ _ _ (T424.setTop (mkF m 193 _ [.int 3])) _
            refine XS.iconst X424.here hx rfl (hb hby at_193) ?_
            show Steps _ _ _ (T424.setTop (mkF m 194 _ [.int 2, .int 3])) _
            refine XS.icmpNo X424.here hx rfl (hb hby at_194) rfl (flt ((by decide) : ¬ ((3 : Int32) < (2 : Int32)))).1 ?_
            show Steps _ _ _ (T424.setTop (mkF m 197 _ [])) _
            refine XS.iload X424.here hx rfl (hb hby at_197) rfl ?_
            show Steps _ _ _ (T424.setTop (mkF m 199 _ [.int c1])) _
            refine st427 _ ?_
            show Steps p.tables e below (T427.setTop (mkF m 202 #[iv p1, iv p2, iv p3, iv p4, iv p5, iv 3, iv c0, iv c1, iv c2, iv c3, rv b374, .unset] [.int 1])) _
            refine XS.ifYes X427.here hx rfl (pc0 := 202) (pc' := 237) rfl (hb hby at_202) rfl ((if0 _ _).trans (feq ((by decide) : ¬ ((1 : Int32) = (0 : Int32)))).2) (by decide) (by decide) ?_
            show Steps _ _ _ (T427.setTop (mkF m 237 _ [])) _
            refine XS.iconst X427.here hx rfl (hb hby at_237) ?_
            exact kk
          exact ⟨0, T427, _, X427, e427, N427, Or.inr ⟨rfl, fun q => q.2.1 hk1⟩, fun tgt kk => G426 _ (G428 _ kk)⟩
        · have G429 : ∀ tq, Steps p.tables e below (T427.setTop (mkF m 205 #[iv p1, iv p2, iv p3, iv p4, iv p5, iv 3, iv c0, iv c1, iv c2, iv c3, rv b374, .unset] [])) tq → Steps p.tables e below (T424.setTop (mkF m 191 #[iv p1, iv p2, iv p3, iv p4, iv p5, iv 3, iv c0, iv c1, iv c2, iv c3, rv b374, .unset] [])) tq := by
            intro tq kk
            show Steps p.tables e below (T424.setTop (mkF m 191 #[iv p1, iv p2, iv p3, iv p4, iv p5, iv 3, iv c0, iv c1, iv c2, iv c3, rv b374, .unset] [])) _
            refine XS.iload X424.here hx rfl (hb hby at_191) rfl ?_
            show Steps _ _ _ (T424.setTop (mkF m 193 _ [.int 3])) _
            refine XS.iconst X424.here hx rfl (hb hby at_193) ?_
            show Steps _ _ _ (T424.setTop (mkF m 194 _ [.int 2, .int 3])) _
            refine XS.icmpNo X424.here hx rfl (hb hby at_194) rfl (flt ((by decide) : ¬ ((3 : Int32) < (2 : Int32)))).1 ?_
            show Steps _ _ _ (T424.setTop (mkF m 197 _ [])) _
            refine XS.iload X424.here hx rfl (hb hby at_197) rfl ?_
            show Steps _ _ _ (T424.setTop (mkF m 199 _ [.int c1])) _
            refine st427 _ ?_
            show Steps p.tables e below (T427.setTop (mkF m 202 #[iv p1, iv p2, iv p3, iv p4, iv p5, iv 3, iv c0, iv c1, iv c2, iv c3, rv b374, .unset] [.int 0])) _
            refine XS.ifNo X427.here hx rfl (hb hby at_202) rfl ((if0 _ _).trans (teq (rfl : (0 : Int32) = (0 : Int32))).2) ?_
            exact kk
          obtain ⟨_, _, ⟨T430, L430, k430, n430⟩, -, X430, ⟨Lc430, hQ430, l430, y430, z430⟩, st430⟩ := Jvm.LawKit.callS X427 hx (y := (⟨"com/example/seshat/seshat/trec/FieldsIsFieldPinLaw", "ws", "(C)Z"⟩ : MethodName)) hown (mvT hZ (W 58 rfl)) (mvT hZ (W 59 rfl)) (mvT hZ (W 2 rfl)) (mvT hZ (W 60 rfl)) (by decide) (backOf (W := 0) (rm_ws l Z a0 hw [] c2 T414.heap n0 Z420 ) hZ (W 60 rfl) (W 2 rfl) (by decide) (by decide)) (g := (mkF m 213 #[iv p1, iv p2, iv p3, iv p4, iv p5, iv 3, iv c0, iv c1, iv c2, iv c3, rv b374, .unset] [.int c2])) rfl (by rw [hml]; rfl) (argsL := [.int c2]) (rest := []) (lenOf own_pd_11 rfl) rfl (by show 2 * 0 + _ ≤ _; exact Nat.le_of_eq rfl) (hb hby at_213) (fun _ _ => ⟨rfl, e427, (by decide : 8 + 0 ≤ _), (by decide : 67 + 0 ≤ _)⟩)
          dsimp only [Pt.U, Pt.locs, Pt.cells, Pt.slots] at X430 l430 y430 z430 st430 hQ430
          subst l430 y430 z430
          obtain ⟨Nq430, e430, hq430⟩ := hQ430
          have N430 := Fr.app N427 Nq430
          rcases hq430 with ⟨rfl, hk2⟩ | ⟨rfl, hk2⟩
          · have G431 : ∀ tq, Steps p.tables e below (T430.setTop (mkF m 238 #[iv p1, iv p2, iv p3, iv p4, iv p5, iv 3, iv c0, iv c1, iv c2, iv c3, rv b374, .unset] [.int 0])) tq → Steps p.tables e below (T427.setTop (mkF m 205 #[iv p1, iv p2, iv p3, iv p4, iv p5, iv 3, iv c0, iv c1, iv c2, iv c3, rv b374, .unset] [])) tq := by
              intro tq kk
              show Steps p.tables e below (T427.setTop (mkF m 205 #[iv p1, iv p2, iv p3, iv p4, iv p5, iv 3, iv c0, iv c1, iv c2, iv c3, rv b374, .unset] [])) _
              refine XS.iload X427.here hx rfl (hb hby at_205) rfl ?_
              show Steps _ _ _ (T427.setTop (mkF m 207 _ [.int 3])) _
              refine XS.iconst X427.here hx rfl (hb hby at_207) ?_
              show Steps _ _ _ (T427.setTop (mkF m 208 _ [.int 3, .int 3])) _
              refine XS.icmpNo X427.here hx rfl (hb hby at_208) rfl (flt ((by decide) : ¬ ((3 : Int32) < (3 : Int32)))).1 ?_
              show Steps _ _ _ (T427.setTop (mkF m 211 _ [])) _
              refine XS.iload X427.here hx rfl (hb hby at_211) rfl ?_
              show Steps _ _ _ (T427.setTop (mkF m 213 _ [.int c2])) _
              refine st430 _ ?_
              show Steps p.tables e below (T430.setTop (mkF m 216 #[iv p1, iv p2, iv p3, iv p4, iv p5, iv 3, iv c0, iv c1, iv c2, iv c3, rv b374, .unset] [.int 1])) _
              refine XS.ifYes X430.here hx rfl (pc0 := 216) (pc' := 237) rfl (hb hby at_216) rfl ((if0 _ _).trans (feq ((by decide) : ¬ ((1 : Int32) = (0 : Int32)))).2) (by decide) (by decide) ?_
              show Steps _ _ _ (T430.setTop (mkF m 237 _ [])) _
              refine XS.iconst X430.here hx rfl (hb hby at_237) ?_
              exact kk
            exact ⟨0, T430, _, X430, e430, N430, Or.inr ⟨rfl, fun q => q.2.2 hk2⟩, fun tgt kk => G426 _ (G429 _ (G431 _ kk))⟩
          · have G432 : ∀ tq, Steps p.tables e below (T430.setTop (mkF m 238 #[iv p1, iv p2, iv p3, iv p4, iv p5, iv 3, iv c0, iv c1, iv c2, iv c3, rv b374, .unset] [.int 1])) tq → Steps p.tables e below (T427.setTop (mkF m 205 #[iv p1, iv p2, iv p3, iv p4, iv p5, iv 3, iv c0, iv c1, iv c2, iv c3, rv b374, .unset] [])) tq := by
              intro tq kk
              show Steps p.tables e below (T427.setTop (mkF m 205 #[iv p1, iv p2, iv p3, iv p4, iv p5, iv 3, iv c0, iv c1, iv c2, iv c3, rv b374, .unset] [])) _
              refine XS.iload X427.here hx rfl (hb hby at_205) rfl ?_
              show Steps _ _ _ (T427.setTop (mkF m 207 _ [.int 3])) _
              refine XS.iconst X427.here hx rfl (hb hby at_207) ?_
              show Steps _ _ _ (T427.setTop (mkF m 208 _ [.int 3, .int 3])) _
              refine XS.icmpNo X427.here hx rfl (hb hby at_208) rfl (flt ((by decide) : ¬ ((3 : Int32) < (3 : Int32)))).1 ?_
              show Steps _ _ _ (T427.setTop (mkF m 211 _ [])) _
              refine XS.iload X427.here hx rfl (hb hby at_211) rfl ?_
              show Steps _ _ _ (T427.setTop (mkF m 213 _ [.int c2])) _
              refine st430 _ ?_
              show Steps p.tables e below (T430.setTop (mkF m 216 #[iv p1, iv p2, iv p3, iv p4, iv p5, iv 3, iv c0, iv c1, iv c2, iv c3, rv b374, .unset] [.int 0])) _
              refine XS.ifNo X430.here hx rfl (hb hby at_216) rfl ((if0 _ _).trans (teq (rfl : (0 : Int32) = (0 : Int32))).2) ?_
              show Steps _ _ _ (T430.setTop (mkF m 219 _ [])) _
              refine XS.iload X430.here hx rfl (hb hby at_219) rfl ?_
              show Steps _ _ _ (T430.setTop (mkF m 221 _ [.int 3])) _
              refine XS.iconst X430.here hx rfl (hb hby at_221) ?_
              show Steps _ _ _ (T430.setTop (mkF m 222 _ [.int 4, .int 3])) _
              refine XS.icmpYes X430.here hx rfl (pc0 := 222) (pc' := 233) rfl (hb hby at_222) rfl (tlt ((by decide) : (3 : Int32) < (4 : Int32))).1 (by decide) (by decide) ?_
              show Steps _ _ _ (T430.setTop (mkF m 233 _ [])) _
              refine XS.iconst X430.here hx rfl (hb hby at_233) ?_
              show Steps _ _ _ (T430.setTop (mkF m 234 _ [.int 1])) _
              refine XS.goto X430.here hx rfl (pc0 := 234) (pc' := 238) rfl (hb hby at_234) (by decide) (by decide) ?_
              exact kk
            exact ⟨1, T430, _, X430, e430, N430, Or.inl ⟨rfl, hk0, hk1, hk2⟩, fun tgt kk => G426 _ (G429 _ (G432 _ kk))⟩
    obtain ⟨_, _, ⟨T433, L433, k433, n433⟩, -, X433, ⟨Lc433, hQ433, l433, y433, z433⟩, st433⟩ := Jvm.LawKit.callS XE hx (y := (⟨"com/example/seshat/seshat/trec/Fields", "isField", "(Ljava/lang/String;)Z"⟩ : MethodName)) hown (mvT hZ (W 28 rfl)) (mvT hZ (W 29 rfl)) (mvT hZ (W 30 rfl)) (mvT hZ (W 31 rfl)) (by decide) (backOf (W := 0) (rm_isf l Z a0 hw [] b374 _ ([c0, c1, c2] : List Int32) G1 G3 T414.heap n0 Z420 O421 SX (Nat.le_of_ble_eq_true rfl) O2 P5 O4 rG3 OA OH OL) hZ (W 31 rfl) (W 30 rfl) (by decide) (by decide)) (g := (mkF m 242 #[iv p1, iv p2, iv p3, iv p4, iv p5, iv 3, iv c0, iv c1, iv c2, iv c3, rv b374, iv ex] [.ref b374])) rfl (by rw [hml]; rfl) (argsL := [.ref b374]) (rest := []) (lenOf own_pd_4 rfl) rfl (by show 2 * 0 + _ ≤ _; exact Nat.le_of_eq rfl) (hb hby at_242) (fun _ _ => ⟨rfl, eE, (by decide : 8 + 0 ≤ _), (by decide : 67 + 0 ≤ _)⟩)
    dsimp only [Pt.U, Pt.locs, Pt.cells, Pt.slots] at X433 l433 y433 z433 st433 hQ433
    subst l433 y433 z433
    obtain ⟨Nq433, e433, hq433⟩ := hQ433
    have N433 := Fr.app NE Nq433
    have hall : (0 < ([c0, c1, c2] : List Int32).length ∧ ∀ j, j < ([c0, c1, c2] : List Int32).length → ¬ own_sp (([c0, c1, c2] : List Int32).getD j 0)) ↔ (¬ own_ws c0 ∧ ¬ own_ws c1 ∧ ¬ own_ws c2) := by
      simp only [own_spws]
      constructor
      · intro q; exact ⟨q.2 0 (Nat.le_of_ble_eq_true rfl), q.2 1 (Nat.le_of_ble_eq_true rfl), q.2 2 (Nat.le_of_ble_eq_true rfl)⟩
      · intro q; refine ⟨(Nat.le_of_ble_eq_true rfl), fun j hj => ?_⟩
        have hj' : j < 3 := hj
        rcases (show j = 0 ∨ j = 1 ∨ j = 2 by omega) with rfl | rfl | rfl
        · exact q.1
        · exact q.2.1
        · exact q.2.2
    rcases hq433 with ⟨rfl, hr⟩ | ⟨rfl, hr⟩
    · obtain rfl : ex = 1 := hex.elim (fun q => q.1) (fun q => absurd (hall.mp hr) q.2)
      have CRe := CR415.trans (CHv.at X433 hZ hEL CR415.1)
      obtain ⟨fs, hr, hrun, hended, hRW⟩ := X433.leaveW hS0 (by rw [e433]; exact hk422) (v := some (.int (1 : Int32))) (fun h => by rw [Bd.returns] at h; cases h)
      refine ⟨_, _, pre0 _ (Gn _ (G262 _ (G410 _ (G423 _ (GE _ (?_)))))), hrun, hended, _, _, rfl, ?_, (by rw [hh]; show CHr Z _ s.vm h0 T433.vm T433.heap; rw [e433]; exact CRe), hRW.1, hRW.2.1, hRW.2.2.1, hRW.2.2.2.mono (by decide) (by decide)⟩
      · show Steps p.tables e below (TE.setTop (mkF m 238 #[iv p1, iv p2, iv p3, iv p4, iv p5, iv 3, iv c0, iv c1, iv c2, iv c3, rv b374, .unset] [.int 1])) _
        refine XS.istore XE.here hx rfl (hb hby at_238) rfl (l' := #[iv p1, iv p2, iv p3, iv p4, iv p5, iv 3, iv c0, iv c1, iv c2, iv c3, rv b374, iv 1]) rfl ?_
        show Steps _ _ _ (TE.setTop (mkF m 240 _ [])) _
        refine XS.aload XE.here hx rfl (hb hby at_240) rfl rfl ?_
        show Steps _ _ _ (TE.setTop (mkF m 242 _ [.ref b374])) _
        refine st433 _ ?_
        show Steps p.tables e below (T433.setTop (mkF m 245 #[iv p1, iv p2, iv p3, iv p4, iv p5, iv 3, iv c0, iv c1, iv c2, iv c3, rv b374, iv 1] [.int 1])) _
        refine XS.iload X433.here hx rfl (hb hby at_245) rfl ?_
        show Steps _ _ _ (T433.setTop (mkF m 247 _ [.int 1, .int 1])) _
        refine XS.icmpNo X433.here hx rfl (hb hby at_247) rfl (teq (rfl : (1 : Int32) = (1 : Int32))).2 ?_
        show Steps _ _ _ (T433.setTop (mkF m 250 _ [])) _
        refine XS.iconst X433.here hx rfl (hb hby at_250) ?_
        show Steps _ _ _ (T433.setTop (mkF m 251 _ [.int 1])) _
        refine XS.goto X433.here hx rfl (pc0 := 251) (pc' := 255) rfl (hb hby at_251) (by decide) (by decide) ?_
        show Steps _ _ _ (T433.setTop (mkF m 255 _ [.int 1])) _
        exact retN X433 hx (t := .boolean) Bd.returns (by simp) (hb hby at_255) hr
      · show Q_law Z p1 p2 p3 p4 p5 G1 G3 h0 n0 _ T433.heap _
        rw [e433]
        exact ⟨rfl, N433⟩
    · obtain rfl : ex = 0 := hex.elim (fun q => absurd (hall.mpr q.2) hr) (fun q => q.1)
      have CRe := CR415.trans (CHv.at X433 hZ hEL CR415.1)
      obtain ⟨fs, hr, hrun, hended, hRW⟩ := X433.leaveW hS0 (by rw [e433]; exact hk422) (v := some (.int (1 : Int32))) (fun h => by rw [Bd.returns] at h; cases h)
      refine ⟨_, _, pre0 _ (Gn _ (G262 _ (G410 _ (G423 _ (GE _ (?_)))))), hrun, hended, _, _, rfl, ?_, (by rw [hh]; show CHr Z _ s.vm h0 T433.vm T433.heap; rw [e433]; exact CRe), hRW.1, hRW.2.1, hRW.2.2.1, hRW.2.2.2.mono (by decide) (by decide)⟩
      · show Steps p.tables e below (TE.setTop (mkF m 238 #[iv p1, iv p2, iv p3, iv p4, iv p5, iv 3, iv c0, iv c1, iv c2, iv c3, rv b374, .unset] [.int 0])) _
        refine XS.istore XE.here hx rfl (hb hby at_238) rfl (l' := #[iv p1, iv p2, iv p3, iv p4, iv p5, iv 3, iv c0, iv c1, iv c2, iv c3, rv b374, iv 0]) rfl ?_
        show Steps _ _ _ (TE.setTop (mkF m 240 _ [])) _
        refine XS.aload XE.here hx rfl (hb hby at_240) rfl rfl ?_
        show Steps _ _ _ (TE.setTop (mkF m 242 _ [.ref b374])) _
        refine st433 _ ?_
        show Steps p.tables e below (T433.setTop (mkF m 245 #[iv p1, iv p2, iv p3, iv p4, iv p5, iv 3, iv c0, iv c1, iv c2, iv c3, rv b374, iv 0] [.int 0])) _
        refine XS.iload X433.here hx rfl (hb hby at_245) rfl ?_
        show Steps _ _ _ (T433.setTop (mkF m 247 _ [.int 0, .int 0])) _
        refine XS.icmpNo X433.here hx rfl (hb hby at_247) rfl (teq (rfl : (0 : Int32) = (0 : Int32))).2 ?_
        show Steps _ _ _ (T433.setTop (mkF m 250 _ [])) _
        refine XS.iconst X433.here hx rfl (hb hby at_250) ?_
        show Steps _ _ _ (T433.setTop (mkF m 251 _ [.int 1])) _
        refine XS.goto X433.here hx rfl (pc0 := 251) (pc' := 255) rfl (hb hby at_251) (by decide) (by decide) ?_
        show Steps _ _ _ (T433.setTop (mkF m 255 _ [.int 1])) _
        exact retN X433 hx (t := .boolean) Bd.returns (by simp) (hb hby at_255) hr
      · show Q_law Z p1 p2 p3 p4 p5 G1 G3 h0 n0 _ T433.heap _
        rw [e433]
        exact ⟨rfl, N433⟩
  · obtain ⟨T434, h434, X434, e434, E434, A434, D434, -, st434⟩ := newO X257 hx hZ hown (W 6 rfl) (W 7 rfl) (W 8 rfl) rfl (g := (mkF m 146 #[iv p1, iv p2, iv p3, iv p4, iv p5, iv 4, iv c0, iv c1, iv c2, iv c3, .unset, .unset] [])) rfl (hb hby at_146) (by decide) (by decide)
    obtain ⟨b434, g434⟩ : ∃ z, z = T257.heap.size := ⟨_, rfl⟩
    rw [← g434] at A434 D434 st434
    have g435 : n0 ≤ b434 := Nat.le_trans Z259 (Nat.le_of_eq g434.symm)
    have CR436 := CR258.trans (CHr.ext E434 CR258.1)
    have Z437 : n0 ≤ h434.size := Nat.le_trans Z259 E434.1
    have O438 : Old Z n0 h434 := O260.ext E434
    have hk439 := Nat.le_trans hk261 E434.1
    have F440 : Fld Z h434 b434 "java/lang/String" "value" "[B" .null := D434 (Or.inr (W 22 rfl)) (ty := (.array .byte)) (by decide)
    have F441 : Fld Z h434 b434 "java/lang/String" "coder" "B" (.int (0 : Int32)) := D434 (Or.inr (W 23 rfl)) (ty := .byte) (by decide)
    obtain ⟨T442, h442, k442, X442, e442, E442, A442, st442⟩ := newP X434 hx hZ (W 9 rfl) e434 (g := (mkF m 151 #[iv p1, iv p2, iv p3, iv p4, iv p5, iv 4, iv c0, iv c1, iv c2, iv c3, .unset, .unset] [.int 4, .ref b434, .ref b434])) rfl (hb hby at_151) rfl (by decide : ¬ ((4 : Int32) < (0 : Int32))) (cap := 4) (by decide) (by decide) (by decide) (by decide)
    obtain ⟨b442, g442⟩ : ∃ z, z = h434.size := ⟨_, rfl⟩
    rw [← g442] at A442 st442
    have g443 : n0 ≤ b442 := Nat.le_trans Z437 (Nat.le_of_eq g442.symm)
    have CR444 := CR436.trans (CHr.ext E442 CR436.1)
    have Z445 : n0 ≤ h442.size := Nat.le_trans Z437 E442.1
    have O446 : Old Z n0 h442 := O438.ext E442
    have hk447 := Nat.le_trans hk439 E442.1
    have V442 : Arv Z h442 b442 k442 .char (4 : Int32) [(.int (0 : Int32)), (.int (0 : Int32)), (.int (0 : Int32)), (.int (0 : Int32))] (.int (0 : Int32)) := (Arv.new A442 (by decide : ¬ ((4 : Int32) < (0 : Int32)))).pad (pad_rep [] (.int (0 : Int32)) 4)
    obtain ⟨cl448, Ar448, aq448, aS448, aN448, aH448, aG448⟩ := id V442
    obtain ⟨T449, h449, X449, e449, W449, st449⟩ := stC X442 hx hZ e442 Ar448 (j := (0 : Int32)) (inb_of aS448 ⟨(by decide), (by decide)⟩) (g := (mkF m 157 #[iv p1, iv p2, iv p3, iv p4, iv p5, iv 4, iv c0, iv c1, iv c2, iv c3, .unset, .unset] [.int c0, .int 0, .ref b442, .ref b442, .ref b434, .ref b434])) rfl rfl (hb hby at_157)
    have N449 := Fr.snoc X449 N257 g443
    have Vx449 := Arv.set Ar448 aq448 aS448 aN448 aH448 aG448 (fits_nar_char _) W449 0 rfl (Nat.le_of_ble_eq_true rfl)
    have V449 : Arv Z h449 b442 k442 .char (4 : Int32) [(.int c0), (.int (0 : Int32)), (.int (0 : Int32)), (.int (0 : Int32))] (.int (0 : Int32)) := by
      have q := Vx449
      rw [show Value.int (nar .char c0) = (.int c0) from congrArg Value.int (own_narc c0 hb0.1 hb0.2)] at q
      exact q
    have f451 := (Safe.ext E442 CR436.1 (Safe.new (Nat.le_of_eq g442.symm)))
    have CR450 := CR444.trans (CHr.wr W449 f451 CR444.1)
    have Z452 : n0 ≤ h449.size := Nat.le_trans Z445 (Keep.of_wr W449).1
    have O453 : Old Z n0 h449 := O446.wr W449 g443
    have hk454 := Nat.le_trans hk447 (Keep.of_wr W449).1
    obtain ⟨cl455, Ar455, aq455, aS455, aN455, aH455, aG455⟩ := id V449
    obtain ⟨T456, h456, X456, e456, W456, st456⟩ := stC X449 hx hZ e449 Ar455 (j := (1 : Int32)) (inb_of aS455 ⟨(by decide), (by decide)⟩) (g := (mkF m 162 #[iv p1, iv p2, iv p3, iv p4, iv p5, iv 4, iv c0, iv c1, iv c2, iv c3, .unset, .unset] [.int c1, .int 1, .ref b442, .ref b442, .ref b434, .ref b434])) rfl rfl (hb hby at_162)
    have N456 := Fr.snoc X456 N449 g443
    have Vx456 := Arv.set Ar455 aq455 aS455 aN455 aH455 aG455 (fits_nar_char _) W456 1 rfl (Nat.le_of_ble_eq_true rfl)
    have V456 : Arv Z h456 b442 k442 .char (4 : Int32) [(.int c0), (.int c1), (.int (0 : Int32)), (.int (0 : Int32))] (.int (0 : Int32)) := by
      have q := Vx456
      rw [show Value.int (nar .char c1) = (.int c1) from congrArg Value.int (own_narc c1 hb1.1 hb1.2)] at q
      exact q
    have f458 := ((CHr.wr W449 f451 CR444.1).safe V442.lt f451)
    have CR457 := CR450.trans (CHr.wr W456 f458 CR450.1)
    have Z459 : n0 ≤ h456.size := Nat.le_trans Z452 (Keep.of_wr W456).1
    have O460 : Old Z n0 h456 := O453.wr W456 g443
    have hk461 := Nat.le_trans hk454 (Keep.of_wr W456).1
    obtain ⟨cl462, Ar462, aq462, aS462, aN462, aH462, aG462⟩ := id V456
    obtain ⟨T463, h463, X463, e463, W463, st463⟩ := stC X456 hx hZ e456 Ar462 (j := (2 : Int32)) (inb_of aS462 ⟨(by decide), (by decide)⟩) (g := (mkF m 167 #[iv p1, iv p2, iv p3, iv p4, iv p5, iv 4, iv c0, iv c1, iv c2, iv c3, .unset, .unset] [.int c2, .int 2, .ref b442, .ref b442, .ref b434, .ref b434])) rfl rfl (hb hby at_167)
    have N463 := Fr.snoc X463 N456 g443
    have Vx463 := Arv.set Ar462 aq462 aS462 aN462 aH462 aG462 (fits_nar_char _) W463 2 rfl (Nat.le_of_ble_eq_true rfl)
    have V463 : Arv Z h463 b442 k442 .char (4 : Int32) [(.int c0), (.int c1), (.int c2), (.int (0 : Int32))] (.int (0 : Int32)) := by
      have q := Vx463
      rw [show Value.int (nar .char c2) = (.int c2) from congrArg Value.int (own_narc c2 hb2.1 hb2.2)] at q
      exact q
    have f465 := (Nat.lt_of_lt_of_le V442.lt (Keep.of_wr W449).1)
    have f466 := ((CHr.wr W456 f458 CR450.1).safe f465 f458)
    have CR464 := CR457.trans (CHr.wr W463 f466 CR457.1)
    have Z467 : n0 ≤ h463.size := Nat.le_trans Z459 (Keep.of_wr W463).1
    have O468 : Old Z n0 h463 := O460.wr W463 g443
    have hk469 := Nat.le_trans hk461 (Keep.of_wr W463).1
    obtain ⟨cl470, Ar470, aq470, aS470, aN470, aH470, aG470⟩ := id V463
    obtain ⟨T471, h471, X471, e471, W471, st471⟩ := stC X463 hx hZ e463 Ar470 (j := (3 : Int32)) (inb_of aS470 ⟨(by decide), (by decide)⟩) (g := (mkF m 172 #[iv p1, iv p2, iv p3, iv p4, iv p5, iv 4, iv c0, iv c1, iv c2, iv c3, .unset, .unset] [.int c3, .int 3, .ref b442, .ref b442, .ref b434, .ref b434])) rfl rfl (hb hby at_172)
    have N471 := Fr.snoc X471 N463 g443
    have Vx471 := Arv.set Ar470 aq470 aS470 aN470 aH470 aG470 (fits_nar_char _) W471 3 rfl (Nat.le_of_ble_eq_true rfl)
    have V471 : Arv Z h471 b442 k442 .char (4 : Int32) [(.int c0), (.int c1), (.int c2), (.int c3)] (.int (0 : Int32)) := by
      have q := Vx471
      rw [show Value.int (nar .char c3) = (.int c3) from congrArg Value.int (own_narc c3 hb3.1 hb3.2)] at q
      exact q
    have f473 := (Nat.lt_of_lt_of_le f465 (Keep.of_wr W456).1)
    have f474 := ((CHr.wr W463 f466 CR457.1).safe f473 f466)
    have CR472 := CR464.trans (CHr.wr W471 f474 CR464.1)
    have Z475 : n0 ≤ h471.size := Nat.le_trans Z467 (Keep.of_wr W471).1
    have O476 : Old Z n0 h471 := O468.wr W471 g443
    have hk477 := Nat.le_trans hk469 (Keep.of_wr W471).1
    have G478 : ∀ tq, Steps p.tables e below (T471.setTop (mkF m 173 #[iv p1, iv p2, iv p3, iv p4, iv p5, iv 4, iv c0, iv c1, iv c2, iv c3, .unset, .unset] [.ref b442, .ref b434, .ref b434])) tq → Steps p.tables e below (T257.setTop (mkF m 33 #[iv p1, iv p2, iv p3, iv p4, iv p5, iv 4, iv c0, iv c1, iv c2, iv c3, .unset, .unset] [])) tq := by
      intro tq kk
      show Steps p.tables e below (T257.setTop (mkF m 33 #[iv p1, iv p2, iv p3, iv p4, iv p5, iv 4, iv c0, iv c1, iv c2, iv c3, .unset, .unset] [])) _
      refine XS.iload X257.here hx rfl (hb hby at_33) rfl ?_
      show Steps _ _ _ (T257.setTop (mkF m 35 _ [.int 4])) _
      refine XS.ifYes X257.here hx rfl (pc0 := 35) (pc' := 53) rfl (hb hby at_35) rfl ((if0 _ _).trans (feq ((by decide) : ¬ ((4 : Int32) = (0 : Int32)))).2) (by decide) (by decide) ?_
      show Steps _ _ _ (T257.setTop (mkF m 53 _ [])) _
      refine XS.iload X257.here hx rfl (hb hby at_53) rfl ?_
      show Steps _ _ _ (T257.setTop (mkF m 55 _ [.int 4])) _
      refine XS.iconst X257.here hx rfl (hb hby at_55) ?_
      show Steps _ _ _ (T257.setTop (mkF m 56 _ [.int 1, .int 4])) _
      refine XS.icmpYes X257.here hx rfl (pc0 := 56) (pc' := 79) rfl (hb hby at_56) rfl (feq ((by decide) : ¬ ((4 : Int32) = (1 : Int32)))).2 (by decide) (by decide) ?_
      show Steps _ _ _ (T257.setTop (mkF m 79 _ [])) _
      refine XS.iload X257.here hx rfl (hb hby at_79) rfl ?_
      show Steps _ _ _ (T257.setTop (mkF m 81 _ [.int 4])) _
      refine XS.iconst X257.here hx rfl (hb hby at_81) ?_
      show Steps _ _ _ (T257.setTop (mkF m 82 _ [.int 2, .int 4])) _
      refine XS.icmpYes X257.here hx rfl (pc0 := 82) (pc' := 110) rfl (hb hby at_82) rfl (feq ((by decide) : ¬ ((4 : Int32) = (2 : Int32)))).2 (by decide) (by decide) ?_
      show Steps p.tables e below (T257.setTop (mkF m 110 #[iv p1, iv p2, iv p3, iv p4, iv p5, iv 4, iv c0, iv c1, iv c2, iv c3, .unset, .unset] [])) _
      refine XS.iload X257.here hx rfl (hb hby at_110) rfl ?_
      show Steps _ _ _ (T257.setTop (mkF m 112 _ [.int 4])) _
      refine XS.iconst X257.here hx rfl (hb hby at_112) ?_
      show Steps _ _ _ (T257.setTop (mkF m 113 _ [.int 3, .int 4])) _
      refine XS.icmpYes X257.here hx rfl (pc0 := 113) (pc' := 146) rfl (hb hby at_113) rfl (feq ((by decide) : ¬ ((4 : Int32) = (3 : Int32)))).2 (by decide) (by decide) ?_
      show Steps _ _ _ (T257.setTop (mkF m 146 _ [])) _
      refine st434 _ ?_
      show Steps p.tables e below (T434.setTop (mkF m 149 #[iv p1, iv p2, iv p3, iv p4, iv p5, iv 4, iv c0, iv c1, iv c2, iv c3, .unset, .unset] [.ref b434])) _
      refine XS.dup X434.here hx rfl (hb hby at_149) rfl rfl ?_
      show Steps _ _ _ (T434.setTop (mkF m 150 _ [.ref b434, .ref b434])) _
      refine XS.iconst X434.here hx rfl (hb hby at_150) ?_
      show Steps _ _ _ (T434.setTop (mkF m 151 _ [.int 4, .ref b434, .ref b434])) _
      refine st442 _ ?_
      show Steps p.tables e below (T442.setTop (mkF m 153 #[iv p1, iv p2, iv p3, iv p4, iv p5, iv 4, iv c0, iv c1, iv c2, iv c3, .unset, .unset] [.ref b442, .ref b434, .ref b434])) _
      refine XS.dup X442.here hx rfl (hb hby at_153) rfl rfl ?_
      show Steps _ _ _ (T442.setTop (mkF m 154 _ [.ref b442, .ref b442, .ref b434, .ref b434])) _
      refine XS.iconst X442.here hx rfl (hb hby at_154) ?_
      show Steps _ _ _ (T442.setTop (mkF m 155 _ [.int 0, .ref b442, .ref b442, .ref b434, .ref b434])) _
      refine XS.iload X442.here hx rfl (hb hby at_155) rfl ?_
      show Steps _ _ _ (T442.setTop (mkF m 157 _ [.int c0, .int 0, .ref b442, .ref b442, .ref b434, .ref b434])) _
      refine st449 _ ?_
      show Steps p.tables e below (T449.setTop (mkF m 158 #[iv p1, iv p2, iv p3, iv p4, iv p5, iv 4, iv c0, iv c1, iv c2, iv c3, .unset, .unset] [.ref b442, .ref b434, .ref b434])) _
      refine XS.dup X449.here hx rfl (hb hby at_158) rfl rfl ?_
      show Steps _ _ _ (T449.setTop (mkF m 159 _ [.ref b442, .ref b442, .ref b434, .ref b434])) _
      refine XS.iconst X449.here hx rfl (hb hby at_159) ?_
      show Steps _ _ _ (T449.setTop (mkF m 160 _ [.int 1, .ref b442, .ref b442, .ref b434, .ref b434])) _
      refine XS.iload X449.here hx rfl (hb hby at_160) rfl ?_
      show Steps _ _ _ (T449.setTop (mkF m 162 _ [.int c1, .int 1, .ref b442, .ref b442, .ref b434, .ref b434])) _
      refine st456 _ ?_
      show Steps p.tables e below (T456.setTop (mkF m 163 #[iv p1, iv p2, iv p3, iv p4, iv p5, iv 4, iv c0, iv c1, iv c2, iv c3, .unset, .unset] [.ref b442, .ref b434, .ref b434])) _
      refine XS.dup X456.here hx rfl (hb hby at_163) rfl rfl ?_
      show Steps _ _ _ (T456.setTop (mkF m 164 _ [.ref b442, .ref b442, .ref b434, .ref b434])) _
      refine XS.iconst X456.here hx rfl (hb hby at_164) ?_
      show Steps _ _ _ (T456.setTop (mkF m 165 _ [.int 2, .ref b442, .ref b442, .ref b434, .ref b434])) _
      refine XS.iload X456.here hx rfl (hb hby at_165) rfl ?_
      show Steps _ _ _ (T456.setTop (mkF m 167 _ [.int c2, .int 2, .ref b442, .ref b442, .ref b434, .ref b434])) _
      refine st463 _ ?_
      show Steps p.tables e below (T463.setTop (mkF m 168 #[iv p1, iv p2, iv p3, iv p4, iv p5, iv 4, iv c0, iv c1, iv c2, iv c3, .unset, .unset] [.ref b442, .ref b434, .ref b434])) _
      refine XS.dup X463.here hx rfl (hb hby at_168) rfl rfl ?_
      show Steps _ _ _ (T463.setTop (mkF m 169 _ [.ref b442, .ref b442, .ref b434, .ref b434])) _
      refine XS.iconst X463.here hx rfl (hb hby at_169) ?_
      show Steps _ _ _ (T463.setTop (mkF m 170 _ [.int 3, .ref b442, .ref b442, .ref b434, .ref b434])) _
      refine XS.iload X463.here hx rfl (hb hby at_170) rfl ?_
      show Steps _ _ _ (T463.setTop (mkF m 172 _ [.int c3, .int 3, .ref b442, .ref b442, .ref b434, .ref b434])) _
      refine st471 _ ?_
      exact kk
    have hbA : ∀ c ∈ ([c0, c1, c2, c3] : List Int32), ¬ c < 0 ∧ ¬ (65535 : Int32) < c := by
      intro c hc
      simp only [List.mem_cons, List.not_mem_nil, or_false] at hc
      rcases hc with rfl | rfl | rfl | rfl
      · exact hb0
      · exact hb1
      · exact hb2
      · exact hb3
    have f479 := (((((A434.ext E442).wr W449).wr W456).wr W463).wr W471)
    have f480 := (((((F440.ext E442).other W449 (Or.inl (Nat.ne_of_lt (Nat.lt_of_lt_of_le A434.lt (Nat.le_of_eq g442.symm))))).other W456 (Or.inl (Nat.ne_of_lt (Nat.lt_of_lt_of_le A434.lt (Nat.le_of_eq g442.symm))))).other W463 (Or.inl (Nat.ne_of_lt (Nat.lt_of_lt_of_le A434.lt (Nat.le_of_eq g442.symm))))).other W471 (Or.inl (Nat.ne_of_lt (Nat.lt_of_lt_of_le A434.lt (Nat.le_of_eq g442.symm)))))
    have f481 := (((((F441.ext E442).other W449 (Or.inl (Nat.ne_of_lt (Nat.lt_of_lt_of_le A434.lt (Nat.le_of_eq g442.symm))))).other W456 (Or.inl (Nat.ne_of_lt (Nat.lt_of_lt_of_le A434.lt (Nat.le_of_eq g442.symm))))).other W463 (Or.inl (Nat.ne_of_lt (Nat.lt_of_lt_of_le A434.lt (Nat.le_of_eq g442.symm))))).other W471 (Or.inl (Nat.ne_of_lt (Nat.lt_of_lt_of_le A434.lt (Nat.le_of_eq g442.symm)))))
    obtain ⟨_, _, ⟨T482, L482, k482, n482⟩, -, X482, ⟨Lc482, hQ482, l482, y482, z482⟩, st482⟩ := X471.specialBack hx (y := (⟨"java/lang/String", "<init>", "([C)V"⟩ : MethodName)) rfl hown (mvT hZ (W 10 rfl)) (mvT hZ (W 11 rfl)) (mvT hZ (W 12 rfl)) (by decide) (backOf (W := 1) (rm_snew l Z a0 hw [] b434 b442 k442 G1 ([c0, c1, c2, c3] : List Int32) h471 n0 Z475 O476 V471 (Nat.le_of_ble_eq_true rfl) (Nat.le_of_ble_eq_true rfl) hbA f479 g435 f480 f481 (Ne.symm (Nat.ne_of_lt (Nat.lt_of_lt_of_le A434.lt (Nat.le_of_eq g442.symm)))) O2 P5 OA OH OL) hZ (W 12 rfl) (W 8 rfl) (by decide) (by decide)) (g := (mkF m 173 #[iv p1, iv p2, iv p3, iv p4, iv p5, iv 4, iv c0, iv c1, iv c2, iv c3, .unset, .unset] [.ref b442, .ref b434, .ref b434])) rfl (by rw [hml]; rfl) (Steps.refl _) (a := b434) (argsL := [.ref b442]) (rest := [.ref b434]) (lenOf own_pd_1 rfl) rfl (by show 2 * 0 + _ ≤ _; exact Nat.le_of_eq rfl) (hb hby at_173) (fun _ _ => ⟨rfl, e471, (by decide : 6 + 2 ≤ _), (by decide : 56 + 12 ≤ _)⟩)
    dsimp only [Pt.U, Pt.locs, Pt.cells, Pt.slots] at X482 l482 y482 z482 st482 hQ482
    subst l482 y482 z482
    obtain ⟨rfl, Nq482, K482, SX⟩ := hQ482
    have N482 := Fr.app N471 Nq482
    have f484 := (Nat.lt_of_lt_of_le A434.lt E442.1)
    have f485 := (Nat.lt_of_lt_of_le f484 (Keep.of_wr W449).1)
    have f486 := (Nat.lt_of_lt_of_le f485 (Keep.of_wr W456).1)
    have f487 := (Nat.lt_of_lt_of_le f486 (Keep.of_wr W463).1)
    have f488 := ((CHr.wr W471 f474 CR464.1).safe f487 ((CHr.wr W463 f466 CR457.1).safe f486 ((CHr.wr W456 f458 CR450.1).safe f485 ((CHr.wr W449 f451 CR444.1).safe f484 ((CHr.ext E442 CR436.1).safe A434.lt (Safe.ext E434 CR258.1 (Safe.new (Nat.le_of_eq g434.symm))))))))
    have CR483 := CR472.trans (CHr.keep K482 (allS f488 all0) CR472.1)
    have Z489 : n0 ≤ T482.heap.size := Nat.le_trans Z475 K482.1
    have O490 : Old Z n0 T482.heap := O476.keep K482 (allS g435 all0)
    have hk491 := Nat.le_trans hk477 K482.1
    have G492 : ∀ tq, Steps p.tables e below (T482.setTop (mkF m 178 #[iv p1, iv p2, iv p3, iv p4, iv p5, iv 4, iv c0, iv c1, iv c2, iv c3, rv b434, .unset] [])) tq → Steps p.tables e below (T471.setTop (mkF m 173 #[iv p1, iv p2, iv p3, iv p4, iv p5, iv 4, iv c0, iv c1, iv c2, iv c3, .unset, .unset] [.ref b442, .ref b434, .ref b434])) tq := by
      intro tq kk
      show Steps p.tables e below (T471.setTop (mkF m 173 #[iv p1, iv p2, iv p3, iv p4, iv p5, iv 4, iv c0, iv c1, iv c2, iv c3, .unset, .unset] [.ref b442, .ref b434, .ref b434])) _
      refine st482.trans ?_
      show Steps p.tables e below (T482.setTop (mkF m 176 #[iv p1, iv p2, iv p3, iv p4, iv p5, iv 4, iv c0, iv c1, iv c2, iv c3, .unset, .unset] [.ref b434])) _
      refine XS.astore X482.here hx rfl (hb hby at_176) rfl rfl (l' := #[iv p1, iv p2, iv p3, iv p4, iv p5, iv 4, iv c0, iv c1, iv c2, iv c3, rv b434, .unset]) rfl ?_
      exact kk
    obtain ⟨ex, TE, locsE, XE, eE, NE, hex, GE⟩ : ∃ (ex : Int32) (TE : State) (locsE : List Loc), Stand p l e room_1 (s.setVm s.vm) m #[(.int p1), (.int p2), (.int p3), (.int p4), (.int p5)] below meth c TE locsE 8 68 ∧ TE.heap = T482.heap ∧ Fr n0 locsE ∧ ((ex = 1 ∧ ¬ own_ws c0 ∧ ¬ own_ws c1 ∧ ¬ own_ws c2 ∧ ¬ own_ws c3) ∨ (ex = 0 ∧ ¬ (¬ own_ws c0 ∧ ¬ own_ws c1 ∧ ¬ own_ws c2 ∧ ¬ own_ws c3))) ∧ (∀ tgt, Steps p.tables e below (TE.setTop (mkF m 238 #[iv p1, iv p2, iv p3, iv p4, iv p5, iv 4, iv c0, iv c1, iv c2, iv c3, rv b434, .unset] [.int ex])) tgt → Steps p.tables e below (T482.setTop (mkF m 178 #[iv p1, iv p2, iv p3, iv p4, iv p5, iv 4, iv c0, iv c1, iv c2, iv c3, rv b434, .unset] [])) tgt) := by
      obtain ⟨_, _, ⟨T493, L493, k493, n493⟩, -, X493, ⟨Lc493, hQ493, l493, y493, z493⟩, st493⟩ := Jvm.LawKit.callS X482 hx (y := (⟨"com/example/seshat/seshat/trec/FieldsIsFieldPinLaw", "ws", "(C)Z"⟩ : MethodName)) hown (mvT hZ (W 58 rfl)) (mvT hZ (W 59 rfl)) (mvT hZ (W 2 rfl)) (mvT hZ (W 60 rfl)) (by decide) (backOf (W := 0) (rm_ws l Z a0 hw [] c0 T482.heap n0 Z489 ) hZ (W 60 rfl) (W 2 rfl) (by decide) (by decide)) (g := (mkF m 185 #[iv p1, iv p2, iv p3, iv p4, iv p5, iv 4, iv c0, iv c1, iv c2, iv c3, rv b434, .unset] [.int c0])) rfl (by rw [hml]; rfl) (argsL := [.int c0]) (rest := []) (lenOf own_pd_11 rfl) rfl (by show 2 * 0 + _ ≤ _; exact Nat.le_of_eq rfl) (hb hby at_185) (fun _ _ => ⟨rfl, rfl, (by decide : 8 + 0 ≤ _), (by decide : 68 + 0 ≤ _)⟩)
      dsimp only [Pt.U, Pt.locs, Pt.cells, Pt.slots] at X493 l493 y493 z493 st493 hQ493
      subst l493 y493 z493
      obtain ⟨Nq493, e493, hq493⟩ := hQ493
      have N493 := Fr.app N482 Nq493
      rcases hq493 with ⟨rfl, hk0⟩ | ⟨rfl, hk0⟩
      · have G494 : ∀ tq, Steps p.tables e below (T493.setTop (mkF m 238 #[iv p1, iv p2, iv p3, iv p4, iv p5, iv 4, iv c0, iv c1, iv c2, iv c3, rv b434, .unset] [.int 0])) tq → Steps p.tables e below (T482.setTop (mkF m 178 #[iv p1, iv p2, iv p3, iv p4, iv p5, iv 4, iv c0, iv c1, iv c2, iv c3, rv b434, .unset] [])) tq := by
          intro tq kk
          show Steps p.tables e below (T482.setTop (mkF m 178 #[iv p1, iv p2, iv p3, iv p4, iv p5, iv 4, iv c0, iv c1, iv c2, iv c3, rv b434, .unset] [])) _
          refine XS.iload X482.here hx rfl (hb hby at_178) rfl ?_
          show Steps _ _ _ (T482.setTop (mkF m 180 _ [.int 4])) _
          refine XS.ifNo X482.here hx rfl (hb hby at_180) rfl ((if0 _ _).trans (tlt ((by decide) : (0 : Int32) < (4 : Int32))).2.2.2) ?_
          show Steps _ _ _ (T482.setTop (mkF m 183 _ [])) _
          refine XS.iload X482.here hx rfl (hb hby at_183) rfl ?_
          show Steps _ _ _ (T482.setTop (mkF m 185 _ [.int c0])) _
          refine st493 _ ?_
          show Steps p.tables e below (T493.setTop (mkF m 188 #[iv p1, iv p2, iv p3, iv p4, iv p5, iv 4, iv c0, iv c1, iv c2, iv c3, rv b434, .unset] [.int 1])) _
          refine XS.ifYes X493.here hx rfl (pc0 := 188) (pc' := 237) rfl (hb hby at_188) rfl ((if0 _ _).trans (feq ((by decide) : ¬ ((1 : Int32) = (0 : Int32)))).2) (by decide) (by decide) ?_
          show Steps _ _ _ (T493.setTop (mkF m 237 _ [])) _
          refine XS.iconst X493.here hx rfl (hb hby at_237) ?_
          exact kk
        exact ⟨0, T493, _, X493, e493, N493, Or.inr ⟨rfl, fun q => q.1 hk0⟩, fun tgt kk => G494 _ kk⟩
      · have G495 : ∀ tq, Steps p.tables e below (T493.setTop (mkF m 191 #[iv p1, iv p2, iv p3, iv p4, iv p5, iv 4, iv c0, iv c1, iv c2, iv c3, rv b434, .unset] [])) tq → Steps p.tables e below (T482.setTop (mkF m 178 #[iv p1, iv p2, iv p3, iv p4, iv p5, iv 4, iv c0, iv c1, iv c2, iv c3, rv b434, .unset] [])) tq := by
          intro tq kk
          show Steps p.tables e below (T482.setTop (mkF m 178 #[iv p1, iv p2, iv p3, iv p4, iv p5, iv 4, iv c0, iv c1, iv c2, iv c3, rv b434, .unset] [])) _
          refine XS.iload X482.here hx rfl (hb hby at_178) rfl ?_
          show Steps _ _ _ (T482.setTop (mkF m 180 _ [.int 4])) _
          refine XS.ifNo X482.here hx rfl (hb hby at_180) rfl ((if0 _ _).trans (tlt ((by decide) : (0 : Int32) < (4 : Int32))).2.2.2) ?_
          show Steps _ _ _ (T482.setTop (mkF m 183 _ [])) _
          refine XS.iload X482.here hx rfl (hb hby at_183) rfl ?_
          show Steps _ _ _ (T482.setTop (mkF m 185 _ [.int c0])) _
          refine st493 _ ?_
          show Steps p.tables e below (T493.setTop (mkF m 188 #[iv p1, iv p2, iv p3, iv p4, iv p5, iv 4, iv c0, iv c1, iv c2, iv c3, rv b434, .unset] [.int 0])) _
          refine XS.ifNo X493.here hx rfl (hb hby at_188) rfl ((if0 _ _).trans (teq (rfl : (0 : Int32) = (0 : Int32))).2) ?_
          exact kk
        obtain ⟨_, _, ⟨T496, L496, k496, n496⟩, -, X496, ⟨Lc496, hQ496, l496, y496, z496⟩, st496⟩ := Jvm.LawKit.callS X493 hx (y := (⟨"com/example/seshat/seshat/trec/FieldsIsFieldPinLaw", "ws", "(C)Z"⟩ : MethodName)) hown (mvT hZ (W 58 rfl)) (mvT hZ (W 59 rfl)) (mvT hZ (W 2 rfl)) (mvT hZ (W 60 rfl)) (by decide) (backOf (W := 0) (rm_ws l Z a0 hw [] c1 T482.heap n0 Z489 ) hZ (W 60 rfl) (W 2 rfl) (by decide) (by decide)) (g := (mkF m 199 #[iv p1, iv p2, iv p3, iv p4, iv p5, iv 4, iv c0, iv c1, iv c2, iv c3, rv b434, .unset] [.int c1])) rfl (by rw [hml]; rfl) (argsL := [.int c1]) (rest := []) (lenOf own_pd_11 rfl) rfl (by show 2 * 0 + _ ≤ _; exact Nat.le_of_eq rfl) (hb hby at_199) (fun _ _ => ⟨rfl, e493, (by decide : 8 + 0 ≤ _), (by decide : 68 + 0 ≤ _)⟩)
        dsimp only [Pt.U, Pt.locs, Pt.cells, Pt.slots] at X496 l496 y496 z496 st496 hQ496
        subst l496 y496 z496
        obtain ⟨Nq496, e496, hq496⟩ := hQ496
        have N496 := Fr.app N493 Nq496
        rcases hq496 with ⟨rfl, hk1⟩ | ⟨rfl, hk1⟩
        · have G497 : ∀ tq, Steps p.tables e below (T496.setTop (mkF m 238 #[iv p1, iv p2, iv p3, iv p4, iv p5, iv 4, iv c0, iv c1, iv c2, iv c3, rv b434, .unset] [.int 0])) tq → Steps p.tables e below (T493.setTop (mkF m 191 #[iv p1, iv p2, iv p3, iv p4, iv p5, iv 4, iv c0, iv c1, iv c2, iv c3, rv b434, .unset] [])) tq := by
            intro tq kk
            show Steps p.tables e below (T493.setTop (mkF m 191 #[iv p1, iv p2, iv p3, iv p4, iv p5, iv 4, iv c0, iv c1, iv c2, iv c3, rv b434, .unset] [])) _
            refine XS.iload X493.here hx rfl (hb hby at_191) rfl ?_
            show Steps _ _ _ (T493.setTop (mkF m 193 _ [.int 4])) _
            refine XS.iconst X493.here hx rfl (hb hby at_193) ?_
            show Steps _ _ _ (T493.setTop (mkF m 194 _ [.int 2, .int 4])) _
            refine XS.icmpNo X493.here hx rfl (hb hby at_194) rfl (flt ((by decide) : ¬ ((4 : Int32) < (2 : Int32)))).1 ?_
            show Steps _ _ _ (T493.setTop (mkF m 197 _ [])) _
            refine XS.iload X493.here hx rfl (hb hby at_197) rfl ?_
            show Steps _ _ _ (T493.setTop (mkF m 199 _ [.int c1])) _
            refine st496 _ ?_
            show Steps p.tables e below (T496.setTop (mkF m 202 #[iv p1, iv p2, iv p3, iv p4, iv p5, iv 4, iv c0, iv c1, iv c2, iv c3, rv b434, .unset] [.int 1])) _
            refine XS.ifYes X496.here hx rfl (pc0 := 202) (pc' := 237) rfl (hb hby at_202) rfl ((if0 _ _).trans (feq ((by decide) : ¬ ((1 : Int32) = (0 : Int32)))).2) (by decide) (by decide) ?_
            show Steps _ _ _ (T496.setTop (mkF m 237 _ [])) _
            refine XS.iconst X496.here hx rfl (hb hby at_237) ?_
            exact kk
          exact ⟨0, T496, _, X496, e496, N496, Or.inr ⟨rfl, fun q => q.2.1 hk1⟩, fun tgt kk => G495 _ (G497 _ kk)⟩
        · have G498 : ∀ tq, Steps p.tables e below (T496.setTop (mkF m 205 #[iv p1, iv p2, iv p3, iv p4, iv p5, iv 4, iv c0, iv c1, iv c2, iv c3, rv b434, .unset] [])) tq → Steps p.tables e below (T493.setTop (mkF m 191 #[iv p1, iv p2, iv p3, iv p4, iv p5, iv 4, iv c0, iv c1, iv c2, iv c3, rv b434, .unset] [])) tq := by
            intro tq kk
            show Steps p.tables e below (T493.setTop (mkF m 191 #[iv p1, iv p2, iv p3, iv p4, iv p5, iv 4, iv c0, iv c1, iv c2, iv c3, rv b434, .unset] [])) _
            refine XS.iload X493.here hx rfl (hb hby at_191) rfl ?_
            show Steps _ _ _ (T493.setTop (mkF m 193 _ [.int 4])) _
            refine XS.iconst X493.here hx rfl (hb hby at_193) ?_
            show Steps _ _ _ (T493.setTop (mkF m 194 _ [.int 2, .int 4])) _
            refine XS.icmpNo X493.here hx rfl (hb hby at_194) rfl (flt ((by decide) : ¬ ((4 : Int32) < (2 : Int32)))).1 ?_
            show Steps _ _ _ (T493.setTop (mkF m 197 _ [])) _
            refine XS.iload X493.here hx rfl (hb hby at_197) rfl ?_
            show Steps _ _ _ (T493.setTop (mkF m 199 _ [.int c1])) _
            refine st496 _ ?_
            show Steps p.tables e below (T496.setTop (mkF m 202 #[iv p1, iv p2, iv p3, iv p4, iv p5, iv 4, iv c0, iv c1, iv c2, iv c3, rv b434, .unset] [.int 0])) _
            refine XS.ifNo X496.here hx rfl (hb hby at_202) rfl ((if0 _ _).trans (teq (rfl : (0 : Int32) = (0 : Int32))).2) ?_
            exact kk
          obtain ⟨_, _, ⟨T499, L499, k499, n499⟩, -, X499, ⟨Lc499, hQ499, l499, y499, z499⟩, st499⟩ := Jvm.LawKit.callS X496 hx (y := (⟨"com/example/seshat/seshat/trec/FieldsIsFieldPinLaw", "ws", "(C)Z"⟩ : MethodName)) hown (mvT hZ (W 58 rfl)) (mvT hZ (W 59 rfl)) (mvT hZ (W 2 rfl)) (mvT hZ (W 60 rfl)) (by decide) (backOf (W := 0) (rm_ws l Z a0 hw [] c2 T482.heap n0 Z489 ) hZ (W 60 rfl) (W 2 rfl) (by decide) (by decide)) (g := (mkF m 213 #[iv p1, iv p2, iv p3, iv p4, iv p5, iv 4, iv c0, iv c1, iv c2, iv c3, rv b434, .unset] [.int c2])) rfl (by rw [hml]; rfl) (argsL := [.int c2]) (rest := []) (lenOf own_pd_11 rfl) rfl (by show 2 * 0 + _ ≤ _; exact Nat.le_of_eq rfl) (hb hby at_213) (fun _ _ => ⟨rfl, e496, (by decide : 8 + 0 ≤ _), (by decide : 68 + 0 ≤ _)⟩)
          dsimp only [Pt.U, Pt.locs, Pt.cells, Pt.slots] at X499 l499 y499 z499 st499 hQ499
          subst l499 y499 z499
          obtain ⟨Nq499, e499, hq499⟩ := hQ499
          have N499 := Fr.app N496 Nq499
          rcases hq499 with ⟨rfl, hk2⟩ | ⟨rfl, hk2⟩
          · have G500 : ∀ tq, Steps p.tables e below (T499.setTop (mkF m 238 #[iv p1, iv p2, iv p3, iv p4, iv p5, iv 4, iv c0, iv c1, iv c2, iv c3, rv b434, .unset] [.int 0])) tq → Steps p.tables e below (T496.setTop (mkF m 205 #[iv p1, iv p2, iv p3, iv p4, iv p5, iv 4, iv c0, iv c1, iv c2, iv c3, rv b434, .unset] [])) tq := by
              intro tq kk
              show Steps p.tables e below (T496.setTop (mkF m 205 #[iv p1, iv p2, iv p3, iv p4, iv p5, iv 4, iv c0, iv c1, iv c2, iv c3, rv b434, .unset] [])) _
              refine XS.iload X496.here hx rfl (hb hby at_205) rfl ?_
              show Steps _ _ _ (T496.setTop (mkF m 207 _ [.int 4])) _
              refine XS.iconst X496.here hx rfl (hb hby at_207) ?_
              show Steps _ _ _ (T496.setTop (mkF m 208 _ [.int 3, .int 4])) _
              refine XS.icmpNo X496.here hx rfl (hb hby at_208) rfl (flt ((by decide) : ¬ ((4 : Int32) < (3 : Int32)))).1 ?_
              show Steps _ _ _ (T496.setTop (mkF m 211 _ [])) _
              refine XS.iload X496.here hx rfl (hb hby at_211) rfl ?_
              show Steps _ _ _ (T496.setTop (mkF m 213 _ [.int c2])) _
              refine st499 _ ?_
              show Steps p.tables e below (T499.setTop (mkF m 216 #[iv p1, iv p2, iv p3, iv p4, iv p5, iv 4, iv c0, iv c1, iv c2, iv c3, rv b434, .unset] [.int 1])) _
              refine XS.ifYes X499.here hx rfl (pc0 := 216) (pc' := 237) rfl (hb hby at_216) rfl ((if0 _ _).trans (feq ((by decide) : ¬ ((1 : Int32) = (0 : Int32)))).2) (by decide) (by decide) ?_
              show Steps _ _ _ (T499.setTop (mkF m 237 _ [])) _
              refine XS.iconst X499.here hx rfl (hb hby at_237) ?_
              exact kk
            exact ⟨0, T499, _, X499, e499, N499, Or.inr ⟨rfl, fun q => q.2.2.1 hk2⟩, fun tgt kk => G495 _ (G498 _ (G500 _ kk))⟩
          · have G501 : ∀ tq, Steps p.tables e below (T499.setTop (mkF m 219 #[iv p1, iv p2, iv p3, iv p4, iv p5, iv 4, iv c0, iv c1, iv c2, iv c3, rv b434, .unset] [])) tq → Steps p.tables e below (T496.setTop (mkF m 205 #[iv p1, iv p2, iv p3, iv p4, iv p5, iv 4, iv c0, iv c1, iv c2, iv c3, rv b434, .unset] [])) tq := by
              intro tq kk
              show Steps p.tables e below (T496.setTop (mkF m 205 #[iv p1, iv p2, iv p3, iv p4, iv p5, iv 4, iv c0, iv c1, iv c2, iv c3, rv b434, .unset] [])) _
              refine XS.iload X496.here hx rfl (hb hby at_205) rfl ?_
              show Steps _ _ _ (T496.setTop (mkF m 207 _ [.int 4])) _
              refine XS.iconst X496.here hx rfl (hb hby at_207) ?_
              show Steps _ _ _ (T496.setTop (mkF m 208 _ [.int 3, .int 4])) _
              refine XS.icmpNo X496.here hx rfl (hb hby at_208) rfl (flt ((by decide) : ¬ ((4 : Int32) < (3 : Int32)))).1 ?_
              show Steps _ _ _ (T496.setTop (mkF m 211 _ [])) _
              refine XS.iload X496.here hx rfl (hb hby at_211) rfl ?_
              show Steps _ _ _ (T496.setTop (mkF m 213 _ [.int c2])) _
              refine st499 _ ?_
              show Steps p.tables e below (T499.setTop (mkF m 216 #[iv p1, iv p2, iv p3, iv p4, iv p5, iv 4, iv c0, iv c1, iv c2, iv c3, rv b434, .unset] [.int 0])) _
              refine XS.ifNo X499.here hx rfl (hb hby at_216) rfl ((if0 _ _).trans (teq (rfl : (0 : Int32) = (0 : Int32))).2) ?_
              exact kk
            obtain ⟨_, _, ⟨T502, L502, k502, n502⟩, -, X502, ⟨Lc502, hQ502, l502, y502, z502⟩, st502⟩ := Jvm.LawKit.callS X499 hx (y := (⟨"com/example/seshat/seshat/trec/FieldsIsFieldPinLaw", "ws", "(C)Z"⟩ : MethodName)) hown (mvT hZ (W 58 rfl)) (mvT hZ (W 59 rfl)) (mvT hZ (W 2 rfl)) (mvT hZ (W 60 rfl)) (by decide) (backOf (W := 0) (rm_ws l Z a0 hw [] c3 T482.heap n0 Z489 ) hZ (W 60 rfl) (W 2 rfl) (by decide) (by decide)) (g := (mkF m 227 #[iv p1, iv p2, iv p3, iv p4, iv p5, iv 4, iv c0, iv c1, iv c2, iv c3, rv b434, .unset] [.int c3])) rfl (by rw [hml]; rfl) (argsL := [.int c3]) (rest := []) (lenOf own_pd_11 rfl) rfl (by show 2 * 0 + _ ≤ _; exact Nat.le_of_eq rfl) (hb hby at_227) (fun _ _ => ⟨rfl, e499, (by decide : 8 + 0 ≤ _), (by decide : 68 + 0 ≤ _)⟩)
            dsimp only [Pt.U, Pt.locs, Pt.cells, Pt.slots] at X502 l502 y502 z502 st502 hQ502
            subst l502 y502 z502
            obtain ⟨Nq502, e502, hq502⟩ := hQ502
            have N502 := Fr.app N499 Nq502
            rcases hq502 with ⟨rfl, hk3⟩ | ⟨rfl, hk3⟩
            · have G503 : ∀ tq, Steps p.tables e below (T502.setTop (mkF m 238 #[iv p1, iv p2, iv p3, iv p4, iv p5, iv 4, iv c0, iv c1, iv c2, iv c3, rv b434, .unset] [.int 0])) tq → Steps p.tables e below (T499.setTop (mkF m 219 #[iv p1, iv p2, iv p3, iv p4, iv p5, iv 4, iv c0, iv c1, iv c2, iv c3, rv b434, .unset] [])) tq := by
                intro tq kk
                show Steps p.tables e below (T499.setTop (mkF m 219 #[iv p1, iv p2, iv p3, iv p4, iv p5, iv 4, iv c0, iv c1, iv c2, iv c3, rv b434, .unset] [])) _
                refine XS.iload X499.here hx rfl (hb hby at_219) rfl ?_
                show Steps _ _ _ (T499.setTop (mkF m 221 _ [.int 4])) _
                refine XS.iconst X499.here hx rfl (hb hby at_221) ?_
                show Steps _ _ _ (T499.setTop (mkF m 222 _ [.int 4, .int 4])) _
                refine XS.icmpNo X499.here hx rfl (hb hby at_222) rfl (flt ((by decide) : ¬ ((4 : Int32) < (4 : Int32)))).1 ?_
                show Steps _ _ _ (T499.setTop (mkF m 225 _ [])) _
                refine XS.iload X499.here hx rfl (hb hby at_225) rfl ?_
                show Steps _ _ _ (T499.setTop (mkF m 227 _ [.int c3])) _
                refine st502 _ ?_
                show Steps p.tables e below (T502.setTop (mkF m 230 #[iv p1, iv p2, iv p3, iv p4, iv p5, iv 4, iv c0, iv c1, iv c2, iv c3, rv b434, .unset] [.int 1])) _
                refine XS.ifYes X502.here hx rfl (pc0 := 230) (pc' := 237) rfl (hb hby at_230) rfl ((if0 _ _).trans (feq ((by decide) : ¬ ((1 : Int32) = (0 : Int32)))).2) (by decide) (by decide) ?_
                show Steps _ _ _ (T502.setTop (mkF m 237 _ [])) _
                refine XS.iconst X502.here hx rfl (hb hby at_237) ?_
                exact kk
              exact ⟨0, T502, _, X502, e502, N502, Or.inr ⟨rfl, fun q => q.2.2.2 hk3⟩, fun tgt kk => G495 _ (G498 _ (G501 _ (G503 _ kk)))⟩
            · have G504 : ∀ tq, Steps p.tables e below (T502.setTop (mkF m 238 #[iv p1, iv p2, iv p3, iv p4, iv p5, iv 4, iv c0, iv c1, iv c2, iv c3, rv b434, .unset] [.int 1])) tq → Steps p.tables e below (T499.setTop (mkF m 219 #[iv p1, iv p2, iv p3, iv p4, iv p5, iv 4, iv c0, iv c1, iv c2, iv c3, rv b434, .unset] [])) tq := by
                intro tq kk
                show Steps p.tables e below (T499.setTop (mkF m 219 #[iv p1, iv p2, iv p3, iv p4, iv p5, iv 4, iv c0, iv c1, iv c2, iv c3, rv b434, .unset] [])) _
                refine XS.iload X499.here hx rfl (hb hby at_219) rfl ?_
                show Steps _ _ _ (T499.setTop (mkF m 221 _ [.int 4])) _
                refine XS.iconst X499.here hx rfl (hb hby at_221) ?_
                show Steps _ _ _ (T499.setTop (mkF m 222 _ [.int 4, .int 4])) _
                refine XS.icmpNo X499.here hx rfl (hb hby at_222) rfl (flt ((by decide) : ¬ ((4 : Int32) < (4 : Int32)))).1 ?_
                show Steps _ _ _ (T499.setTop (mkF m 225 _ [])) _
                refine XS.iload X499.here hx rfl (hb hby at_225) rfl ?_
                show Steps _ _ _ (T499.setTop (mkF m 227 _ [.int c3])) _
                refine st502 _ ?_
                show Steps p.tables e below (T502.setTop (mkF m 230 #[iv p1, iv p2, iv p3, iv p4, iv p5, iv 4, iv c0, iv c1, iv c2, iv c3, rv b434, .unset] [.int 0])) _
                refine XS.ifNo X502.here hx rfl (hb hby at_230) rfl ((if0 _ _).trans (teq (rfl : (0 : Int32) = (0 : Int32))).2) ?_
                show Steps _ _ _ (T502.setTop (mkF m 233 _ [])) _
                refine XS.iconst X502.here hx rfl (hb hby at_233) ?_
                show Steps _ _ _ (T502.setTop (mkF m 234 _ [.int 1])) _
                refine XS.goto X502.here hx rfl (pc0 := 234) (pc' := 238) rfl (hb hby at_234) (by decide) (by decide) ?_
                exact kk
              exact ⟨1, T502, _, X502, e502, N502, Or.inl ⟨rfl, hk0, hk1, hk2, hk3⟩, fun tgt kk => G495 _ (G498 _ (G501 _ (G504 _ kk)))⟩
    obtain ⟨_, _, ⟨T505, L505, k505, n505⟩, -, X505, ⟨Lc505, hQ505, l505, y505, z505⟩, st505⟩ := Jvm.LawKit.callS XE hx (y := (⟨"com/example/seshat/seshat/trec/Fields", "isField", "(Ljava/lang/String;)Z"⟩ : MethodName)) hown (mvT hZ (W 28 rfl)) (mvT hZ (W 29 rfl)) (mvT hZ (W 30 rfl)) (mvT hZ (W 31 rfl)) (by decide) (backOf (W := 0) (rm_isf l Z a0 hw [] b434 _ ([c0, c1, c2, c3] : List Int32) G1 G3 T482.heap n0 Z489 O490 SX (Nat.le_of_ble_eq_true rfl) O2 P5 O4 rG3 OA OH OL) hZ (W 31 rfl) (W 30 rfl) (by decide) (by decide)) (g := (mkF m 242 #[iv p1, iv p2, iv p3, iv p4, iv p5, iv 4, iv c0, iv c1, iv c2, iv c3, rv b434, iv ex] [.ref b434])) rfl (by rw [hml]; rfl) (argsL := [.ref b434]) (rest := []) (lenOf own_pd_4 rfl) rfl (by show 2 * 0 + _ ≤ _; exact Nat.le_of_eq rfl) (hb hby at_242) (fun _ _ => ⟨rfl, eE, (by decide : 8 + 0 ≤ _), (by decide : 68 + 0 ≤ _)⟩)
    dsimp only [Pt.U, Pt.locs, Pt.cells, Pt.slots] at X505 l505 y505 z505 st505 hQ505
    subst l505 y505 z505
    obtain ⟨Nq505, e505, hq505⟩ := hQ505
    have N505 := Fr.app NE Nq505
    have hall : (0 < ([c0, c1, c2, c3] : List Int32).length ∧ ∀ j, j < ([c0, c1, c2, c3] : List Int32).length → ¬ own_sp (([c0, c1, c2, c3] : List Int32).getD j 0)) ↔ (¬ own_ws c0 ∧ ¬ own_ws c1 ∧ ¬ own_ws c2 ∧ ¬ own_ws c3) := by
      simp only [own_spws]
      constructor
      · intro q; exact ⟨q.2 0 (Nat.le_of_ble_eq_true rfl), q.2 1 (Nat.le_of_ble_eq_true rfl), q.2 2 (Nat.le_of_ble_eq_true rfl), q.2 3 (Nat.le_of_ble_eq_true rfl)⟩
      · intro q; refine ⟨(Nat.le_of_ble_eq_true rfl), fun j hj => ?_⟩
        have hj' : j < 4 := hj
        rcases (show j = 0 ∨ j = 1 ∨ j = 2 ∨ j = 3 by omega) with rfl | rfl | rfl | rfl
        · exact q.1
        · exact q.2.1
        · exact q.2.2.1
        · exact q.2.2.2
    rcases hq505 with ⟨rfl, hr⟩ | ⟨rfl, hr⟩
    · obtain rfl : ex = 1 := hex.elim (fun q => q.1) (fun q => absurd (hall.mp hr) q.2)
      have CRe := CR483.trans (CHv.at X505 hZ hEL CR483.1)
      obtain ⟨fs, hr, hrun, hended, hRW⟩ := X505.leaveW hS0 (by rw [e505]; exact hk491) (v := some (.int (1 : Int32))) (fun h => by rw [Bd.returns] at h; cases h)
      refine ⟨_, _, pre0 _ (Gn _ (G262 _ (G478 _ (G492 _ (GE _ (?_)))))), hrun, hended, _, _, rfl, ?_, (by rw [hh]; show CHr Z _ s.vm h0 T505.vm T505.heap; rw [e505]; exact CRe), hRW.1, hRW.2.1, hRW.2.2.1, hRW.2.2.2.mono (by decide) (by decide)⟩
      · show Steps p.tables e below (TE.setTop (mkF m 238 #[iv p1, iv p2, iv p3, iv p4, iv p5, iv 4, iv c0, iv c1, iv c2, iv c3, rv b434, .unset] [.int 1])) _
        refine XS.istore XE.here hx rfl (hb hby at_238) rfl (l' := #[iv p1, iv p2, iv p3, iv p4, iv p5, iv 4, iv c0, iv c1, iv c2, iv c3, rv b434, iv 1]) rfl ?_
        show Steps _ _ _ (TE.setTop (mkF m 240 _ [])) _
        refine XS.aload XE.here hx rfl (hb hby at_240) rfl rfl ?_
        show Steps _ _ _ (TE.setTop (mkF m 242 _ [.ref b434])) _
        refine st505 _ ?_
        show Steps p.tables e below (T505.setTop (mkF m 245 #[iv p1, iv p2, iv p3, iv p4, iv p5, iv 4, iv c0, iv c1, iv c2, iv c3, rv b434, iv 1] [.int 1])) _
        refine XS.iload X505.here hx rfl (hb hby at_245) rfl ?_
        show Steps _ _ _ (T505.setTop (mkF m 247 _ [.int 1, .int 1])) _
        refine XS.icmpNo X505.here hx rfl (hb hby at_247) rfl (teq (rfl : (1 : Int32) = (1 : Int32))).2 ?_
        show Steps _ _ _ (T505.setTop (mkF m 250 _ [])) _
        refine XS.iconst X505.here hx rfl (hb hby at_250) ?_
        show Steps _ _ _ (T505.setTop (mkF m 251 _ [.int 1])) _
        refine XS.goto X505.here hx rfl (pc0 := 251) (pc' := 255) rfl (hb hby at_251) (by decide) (by decide) ?_
        show Steps _ _ _ (T505.setTop (mkF m 255 _ [.int 1])) _
        exact retN X505 hx (t := .boolean) Bd.returns (by simp) (hb hby at_255) hr
      · show Q_law Z p1 p2 p3 p4 p5 G1 G3 h0 n0 _ T505.heap _
        rw [e505]
        exact ⟨rfl, N505⟩
    · obtain rfl : ex = 0 := hex.elim (fun q => absurd (hall.mpr q.2) hr) (fun q => q.1)
      have CRe := CR483.trans (CHv.at X505 hZ hEL CR483.1)
      obtain ⟨fs, hr, hrun, hended, hRW⟩ := X505.leaveW hS0 (by rw [e505]; exact hk491) (v := some (.int (1 : Int32))) (fun h => by rw [Bd.returns] at h; cases h)
      refine ⟨_, _, pre0 _ (Gn _ (G262 _ (G478 _ (G492 _ (GE _ (?_)))))), hrun, hended, _, _, rfl, ?_, (by rw [hh]; show CHr Z _ s.vm h0 T505.vm T505.heap; rw [e505]; exact CRe), hRW.1, hRW.2.1, hRW.2.2.1, hRW.2.2.2.mono (by decide) (by decide)⟩
      · show Steps p.tables e below (TE.setTop (mkF m 238 #[iv p1, iv p2, iv p3, iv p4, iv p5, iv 4, iv c0, iv c1, iv c2, iv c3, rv b434, .unset] [.int 0])) _
        refine XS.istore XE.here hx rfl (hb hby at_238) rfl (l' := #[iv p1, iv p2, iv p3, iv p4, iv p5, iv 4, iv c0, iv c1, iv c2, iv c3, rv b434, iv 0]) rfl ?_
        show Steps _ _ _ (TE.setTop (mkF m 240 _ [])) _
        refine XS.aload XE.here hx rfl (hb hby at_240) rfl rfl ?_
        show Steps _ _ _ (TE.setTop (mkF m 242 _ [.ref b434])) _
        refine st505 _ ?_
        show Steps p.tables e below (T505.setTop (mkF m 245 #[iv p1, iv p2, iv p3, iv p4, iv p5, iv 4, iv c0, iv c1, iv c2, iv c3, rv b434, iv 0] [.int 0])) _
        refine XS.iload X505.here hx rfl (hb hby at_245) rfl ?_
        show Steps _ _ _ (T505.setTop (mkF m 247 _ [.int 0, .int 0])) _
        refine XS.icmpNo X505.here hx rfl (hb hby at_247) rfl (teq (rfl : (0 : Int32) = (0 : Int32))).2 ?_
        show Steps _ _ _ (T505.setTop (mkF m 250 _ [])) _
        refine XS.iconst X505.here hx rfl (hb hby at_250) ?_
        show Steps _ _ _ (T505.setTop (mkF m 251 _ [.int 1])) _
        refine XS.goto X505.here hx rfl (pc0 := 251) (pc' := 255) rfl (hb hby at_251) (by decide) (by decide) ?_
        show Steps _ _ _ (T505.setTop (mkF m 255 _ [.int 1])) _
        exact retN X505 hx (t := .boolean) Bd.returns (by simp) (hb hby at_255) hr
      · show Q_law Z p1 p2 p3 p4 p5 G1 G3 h0 n0 _ T505.heap _
        rw [e505]
        exact ⟨rfl, N505⟩
set_option maxRecDepth 65536 in
set_option maxHeartbeats 40000000 in
theorem comes_1 {Post : Tables → Env → Array Value → State → Outcome → State → Prop} (hpost : ∀ tb e args s v u, (limb_1_1.after args s (.returned v) u = true ∧ limb_1_2.after args s (.returned v) u = true ∧ True) → ReturnedEndW s (.returned v) u (Jvm.fieldLocs frame_1_writes args s ++ Jvm.arrayLocs frame_1_arrays args s ++ Jvm.staticLocs frame_1_statics s) 24 1216 → Post tb e args s (.returned v) u) :
    ArmFor flags0 classFile x code maxLocals ret World_1 tables_1 room_1 Calls_1 rest_1 Pre_1 Post := by
  intro l hfl _ _ p e ha hc hk s m args below hf hA hF happ hP
  obtain ⟨hcalls, hrest, hpre⟩ := hP
  obtain ⟨-, -, -, hnamed, -, -, -, hat⟩ := (Spec.applies_iff hf).mp happ
  obtain ⟨hg, hn⟩ := and_e (Cond.before_iff.mp (show (Jvm.Cond.and given_1 narrow_1).before args s = true from hpre))
  obtain ⟨hcount, hg0⟩ := and_e hg
  obtain ⟨hi0, hg1⟩ := and_e hg0
  obtain ⟨hi1, hg2⟩ := and_e hg1
  obtain ⟨hi2, hg3⟩ := and_e hg2
  obtain ⟨hi3, hg4⟩ := and_e hg3
  have hi4 := hg4
  obtain ⟨w0, w1, w2, w3, w4, rfl⟩ : ∃ w0 w1 w2 w3 w4 : Value, args = #[w0, w1, w2, w3, w4] := by
    have hs : args.size = 5 := by simpa [Cond.value, given_1] using hcount
    obtain ⟨L⟩ := args
    match L, hs with
    | [w0, w1, w2, w3, w4], _ => exact ⟨w0, w1, w2, w3, w4, rfl⟩
  have hw := fun d (hd : d ∈ tables_1) => atoms_spec (ws := Jvm.Cond.code x code maxLocals ret :: tables_1) hat d (List.mem_cons_of_mem _ hd)
  obtain ⟨hsets, hown0⟩ := atoms_of _ (rest_1_c_eq ▸ (show rest_1_c.before _ s = true from hrest))
  obtain ⟨i0, ei0⟩ := is_v hi0
  obtain rfl : w0 = (.int i0) := Option.some.inj ei0
  obtain ⟨i1, ei1⟩ := is_v hi1
  obtain rfl : w1 = (.int i1) := Option.some.inj ei1
  obtain ⟨i2, ei2⟩ := is_v hi2
  obtain rfl : w2 = (.int i2) := Option.some.inj ei2
  obtain ⟨i3, ei3⟩ := is_v hi3
  obtain rfl : w3 = (.int i3) := Option.some.inj ei3
  obtain ⟨i4, ei4⟩ := is_v hi4
  obtain rfl : w4 = (.int i4) := Option.some.inj ei4
  have n3 := not_v (Cond.before_iff.mp (hsets _ (List.mem_of_getElem? (i := 2) rfl)))
  obtain ⟨iC, eC⟩ := is_v (Cond.before_iff.mp (hsets _ (List.mem_of_getElem? (i := 1) rfl)))
  have SC : Sta s s.heap "java/lang/String" "COMPACT_STRINGS" "Z" (.int iC) := Sta.start eC (Or.inl (hsets _ (List.mem_of_getElem? (i := 0) rfl)))
  have nC : ¬ (iC = (0 : Int32)) := gotF (Cond.eq_ints eC (Term.int_eval (0))) n3
  obtain ⟨vF, eF, rF⟩ := isR_v (Cond.before_iff.mp (hsets _ (List.mem_of_getElem? (i := 8) rfl)))
  have SF : Sta s s.heap "jdk/internal/util/Preconditions" "SIOOBE_FORMATTER" "Ljava/util/function/BiFunction;" vF := Sta.start eF (Or.inl (hsets _ (List.mem_of_getElem? (i := 7) rfl)))
  have OA : Sta s s.heap "java/lang/StringUTF16" "$assertionsDisabled" "Z" (.int (1 : Int32)) := own_staI (hsets _ (List.mem_of_getElem? (i := 12) rfl)) (hsets _ (List.mem_of_getElem? (i := 11) rfl))
  have OH : Sta s s.heap "java/lang/StringUTF16" "HI_BYTE_SHIFT" "I" (.int (0 : Int32)) := own_staI (hsets _ (List.mem_of_getElem? (i := 15) rfl)) (hsets _ (List.mem_of_getElem? (i := 14) rfl))
  have OL : Sta s s.heap "java/lang/StringUTF16" "LO_BYTE_SHIFT" "I" (.int (8 : Int32)) := own_staI (hsets _ (List.mem_of_getElem? (i := 18) rfl)) (hsets _ (List.mem_of_getElem? (i := 17) rfl))
  have hcw : Jvm.Lit.compactW.before _ s = true := hsets _ (List.mem_of_getElem? (i := 2) rfl)
  have hCH : CHv s own_EL s.vm s.heap := CHv.start (own_EW hw) (fun p hp => hcalls.1 p hp) hcw (own_W hw 21 rfl) (own_W hw 7 rfl)
  obtain ⟨n, o, h1, h2, h3, _, L, rfl, ⟨rfl, N⟩, -, hq⟩ := rm_law l s _ hw tables_1 i0 i1 i2 i3 i4 iC vF s.heap s.heap.size (Nat.le_refl _) (Old.start s) SC nC SF rF OA OH OL p e ha hc hk s m _ below hf ((Spec.applies_iff_loose hf).mp happ).1 ⟨rfl, State.Warmed39.refl s, rfl, hCH, fun x hx => by cases hx⟩ trivial
  refine ⟨n, _, h1, h2, h3, hpost _ _ _ _ _ _ ⟨Cond.after_iff.mpr rfl, Cond.after_iff.mpr (eq_i res_at (Term.int_eval (1)) rfl), trivial⟩ ⟨hq.1, hq.2.1, hq.2.2.1, (hq.2.2.2.sift fun y hy => Or.inr (N y hy)).mono (by decide) (by decide)⟩⟩
theorem main_1_1 : Claimed_1_1 := comes_1 fun _ _ _ _ _ _ h hF => ⟨h.1, hF⟩
theorem main_1_2 : Claimed_1_2 := comes_1 fun _ _ _ _ _ _ h hF => ⟨h.2.1, hF⟩
end Jvm.Pilot.@@N@@
namespace Jvm.Pilot.@@N@@
open Jvm Jvm.ClassFile Sem Op Lib Jvm.Free Jvm.Stand Jvm.Pilot.@@N@@.Jvm.D
/-! MADE BY PROGRAM (witnessworld.py) out of the Statement's table words and the real class files: 20 classes; the members and pool entries that the words name. The judged class is class 1, her method 1. -/
namespace start1
open Jvm.ClassFile
def u (s : String) : CpInfo := .utf8 (stringToUtf16 s)
/-- a pool by its gaps: so many unusable entries, then the entry; so many at the end -/
def gap : Nat → List CpInfo → List CpInfo
  | 0, r => r
  | n + 1, r => .unusable :: gap n r
def poolList (es : List (Nat × CpInfo)) (last : Nat) : List CpInfo := es.foldr (fun e r => gap e.1 (e.2 :: r)) (gap last [])
def pool (es : List (Nat × CpInfo)) (last : Nat) : Array CpInfo := ⟨poolList es last⟩
def fileOf (pool : Array CpInfo) (this : Nat) (attrs : Array Attribute := #[]) (ms : Array MethodInfo := #[]) (fl : Nat := 33) (sup : Nat := 0) (ifs : Array Nat := #[]) (fds : Array FieldInfo := #[]) : ClassFile where
  minorVersion := 0
  majorVersion := 65
  constantPool := pool
  accessFlags := fl
  thisClass := this
  superClass := sup
  interfaces := ifs
  fields := fds
  methods := ms
  attributes := attrs
def plain (name : String) (sup : Option ClassId) : Class where
  name := name
  kind := .ordinary
  loader := none
  accessFlags := 33
  super := sup
  interfaces := #[]
  cf := none
  fields := #[]
  methods := #[]
  instanceTypes := #[]
  staticTypes := #[]
  resolved := #[]
  callSites := []
  init := .initialized
  statics := none
  mirror := none

def pool0 : Array CpInfo := pool [(5, u "<init>"), (0, u "()V"), (1, .class_ 10), (1, u "java/lang/Object")] 113

def k0c0 : Code := { maxStack := 0, maxLocals := 1, code := object_method_1_code, exceptionTable := #[], attributes := #[] }
def k0m0 : Method := { name := "<init>", desc := "()V", sig := { parameters := [], returnType := none }, accessFlags := 1, code := some k0c0 }
/-- java/lang/Object -/
def k0 : Class := { plain "java/lang/Object" none with
  accessFlags := 33
  interfaces := #[]
  cf := some (fileOf pool0 8 #[] #[{ accessFlags := 1, nameIndex := 5, descriptorIndex := 6, attributes := #[] }] 33 0 #[] #[])
  fields := #[]
  methods := #[k0m0]
  instanceTypes := #[]
  staticTypes := #[]
  resolved := Array.replicate 124 none
  statics := none }

def pool1 : Array CpInfo := pool [(2, .class_ 4), (1, u "java/lang/Object"), (0, u "<init>"), (0, u "()V"), (0, .methodref 8 9), (0, .class_ 10), (0, .nameAndType 11 12), (0, u "com/example/seshat/seshat/trec/FieldsIsFieldPinLaw"), (0, u "pick"), (0, u "(I)C"), (0, .class_ 14), (0, u "java/lang/String"), (0, .methodref 13 16), (0, .nameAndType 5 17), (0, u "([C)V"), (0, .methodref 8 19), (0, .nameAndType 20 21), (0, u "ws"), (0, u "(C)Z"), (0, .methodref 23 24), (0, .class_ 25), (0, .nameAndType 26 27), (0, u "com/example/seshat/seshat/trec/Fields"), (0, u "isField"), (0, u "(Ljava/lang/String;)Z"), (0, .integer 65536), (0, .integer 65535), (2, u "law"), (0, u "(IIIII)Z")] 3

def k1m0 : Method := { name := "<init>", desc := "()V", sig := { parameters := [], returnType := none }, accessFlags := 2, code := none }
def k1c1 : Code := { maxStack := 6, maxLocals := 12, code := code, exceptionTable := #[], attributes := #[] }
def k1m1 : Method := { name := "law", desc := "(IIIII)Z", sig := { parameters := [.int, .int, .int, .int, .int], returnType := some .boolean }, accessFlags := 9, code := some k1c1 }
def k1c2 : Code := { maxStack := 4, maxLocals := 2, code := method_3_code, exceptionTable := #[], attributes := #[] }
def k1m2 : Method := { name := "pick", desc := "(I)C", sig := { parameters := [.int], returnType := some .char }, accessFlags := 10, code := some k1c2 }
def k1c3 : Code := { maxStack := 2, maxLocals := 1, code := method_4_code, exceptionTable := #[], attributes := #[] }
def k1m3 : Method := { name := "ws", desc := "(C)Z", sig := { parameters := [.char], returnType := some .boolean }, accessFlags := 10, code := some k1c3 }
/-- com/example/seshat/seshat/trec/FieldsIsFieldPinLaw -/
def k1 : Class := { plain "com/example/seshat/seshat/trec/FieldsIsFieldPinLaw" (some 0) with
  accessFlags := 49
  interfaces := #[]
  cf := some (fileOf pool1 8 #[] #[{ accessFlags := 2, nameIndex := 5, descriptorIndex := 6, attributes := #[] }, { accessFlags := 9, nameIndex := 32, descriptorIndex := 33, attributes := #[] }, { accessFlags := 10, nameIndex := 11, descriptorIndex := 12, attributes := #[] }, { accessFlags := 10, nameIndex := 20, descriptorIndex := 21, attributes := #[] }] 49 2 #[] #[])
  fields := #[]
  methods := #[k1m0, k1m1, k1m2, k1m3]
  instanceTypes := #[]
  staticTypes := #[]
  resolved := Array.replicate 37 none
  statics := none }

def pool2 : Array CpInfo := pool [(1, .class_ 2), (0, u "java/io/Serializable"), (0, .class_ 4), (0, u "java/lang/Object")] 2

/-- java/io/Serializable -/
def k2 : Class := { plain "java/io/Serializable" (some 0) with
  accessFlags := 1537
  interfaces := #[]
  cf := some (fileOf pool2 1 #[] #[] 1537 3 #[] #[])
  fields := #[]
  methods := #[]
  instanceTypes := #[]
  staticTypes := #[]
  resolved := Array.replicate 7 none
  statics := none }

def pool3 : Array CpInfo := pool [(1, .class_ 2), (0, u "java/lang/Comparable"), (0, .class_ 4), (0, u "java/lang/Object")] 7

/-- java/lang/Comparable -/
def k3 : Class := { plain "java/lang/Comparable" (some 0) with
  accessFlags := 1537
  interfaces := #[]
  cf := some (fileOf pool3 1 #[] #[] 1537 3 #[] #[])
  fields := #[]
  methods := #[]
  instanceTypes := #[]
  staticTypes := #[]
  resolved := Array.replicate 12 none
  statics := none }

def pool4 : Array CpInfo := pool [(2, .class_ 4), (1, u "java/lang/CharSequence"), (42, .class_ 48), (0, u "java/lang/CharSequence$1CodePointIterator"), (10, .class_ 60), (0, u "java/lang/CharSequence$1CharIterator"), (5, .class_ 67), (0, u "java/lang/Object")] 63

/-- java/lang/CharSequence -/
def k4 : Class := { plain "java/lang/CharSequence" (some 0) with
  accessFlags := 1537
  interfaces := #[]
  cf := some (fileOf pool4 2 #[.nestMembers #[47, 59]] #[] 1537 66 #[] #[])
  fields := #[]
  methods := #[]
  instanceTypes := #[]
  staticTypes := #[]
  resolved := Array.replicate 131 none
  statics := none }

def pool5 : Array CpInfo := pool [(1, .class_ 2), (0, u "java/lang/constant/Constable"), (0, .class_ 4), (0, u "java/lang/Object")] 6

/-- java/lang/constant/Constable -/
def k5 : Class := { plain "java/lang/constant/Constable" (some 0) with
  accessFlags := 1537
  interfaces := #[]
  cf := some (fileOf pool5 1 #[] #[] 1537 3 #[] #[])
  fields := #[]
  methods := #[]
  instanceTypes := #[]
  staticTypes := #[]
  resolved := Array.replicate 11 none
  statics := none }

def pool6 : Array CpInfo := pool [(1, .class_ 2), (0, u "java/lang/constant/ConstantDesc"), (0, .class_ 4), (0, u "java/lang/Object")] 32

/-- java/lang/constant/ConstantDesc -/
def k6 : Class := { plain "java/lang/constant/ConstantDesc" (some 0) with
  accessFlags := 1537
  interfaces := #[]
  cf := some (fileOf pool6 1 #[] #[] 1537 3 #[] #[])
  fields := #[]
  methods := #[]
  instanceTypes := #[]
  staticTypes := #[]
  resolved := Array.replicate 37 none
  statics := none }

def pool7 : Array CpInfo := pool [(1, .methodref 2 3), (0, .class_ 4), (0, .nameAndType 5 6), (0, u "java/lang/Object"), (0, u "<init>"), (0, u "()V"), (0, .string 8), (0, u ""), (0, .fieldref 10 11), (0, .class_ 12), (0, .nameAndType 13 14), (0, u "java/lang/String"), (0, u "value"), (0, u "[B"), (0, .fieldref 10 16), (0, .nameAndType 17 18), (0, u "coder"), (0, u "B"), (2, u "hash"), (0, u "I"), (2, u "hashIsZero"), (0, u "Z"), (0, .methodref 10 28), (0, .nameAndType 5 29), (0, u "([CIILjava/lang/Void;)V"), (8, .fieldref 10 39), (0, .nameAndType 40 26), (0, u "COMPACT_STRINGS"), (1, .class_ 44), (1, u "java/lang/StringUTF16"), (0, u "compress"), (1, .methodref 42 48), (0, .nameAndType 49 50), (0, u "coderFromArrayLen"), (0, u "([BI)B"), (56, .class_ 109), (1, u "java/lang/StringLatin1"), (32, u "()Z"), (34, .methodref 42 178), (0, .nameAndType 45 179), (0, u "([CII)[B"), (154, u "()I"), (0, .methodref 10 336), (0, .nameAndType 17 337), (0, u "()B"), (25, u "([BI)C"), (27, u "(II)V"), (35, u "(I)C"), (64, .methodref 10 493), (0, .nameAndType 494 142), (0, u "isLatin1"), (0, .methodref 107 496), (0, .nameAndType 497 363), (0, u "charAt"), (0, .methodref 42 496), (2, u "checkIndex"), (5, u "length"), (67, .class_ 576), (0, u "java/lang/CharSequence"), (22, u "CASE_INSENSITIVE_ORDER"), (0, u "Ljava/util/Comparator;"), (91, u "isEmpty"), (317, u "([C)V"), (42, .fieldref 1054 1055), (0, .class_ 1056), (0, .nameAndType 1057 1058), (0, u "jdk/internal/util/Preconditions"), (0, u "SIOOBE_FORMATTER"), (0, u "Ljava/util/function/BiFunction;"), (0, .methodref 1054 1060), (0, .nameAndType 501 1061), (0, u "(IILjava/util/function/BiFunction;)I"), (39, u "serialPersistentFields"), (0, u "[Ljava/io/ObjectStreamField;"), (0, .class_ 1104), (0, u "java/lang/String$CaseInsensitiveComparator"), (1, .class_ 1107), (0, u "java/io/Serializable"), (0, .class_ 1109), (0, u "java/lang/Comparable"), (0, .class_ 1111), (0, u "java/lang/constant/Constable"), (0, .class_ 1113), (0, u "java/lang/constant/ConstantDesc"), (2, u "serialVersionUID"), (0, u "J"), (3, u "REPL"), (0, u "C"), (2, u "LATIN1"), (1, u "UTF16")] 323

def k7m0 : Method := { name := "<init>", desc := "()V", sig := { parameters := [], returnType := none }, accessFlags := 1, code := none }
def k7c1 : Code := { maxStack := 5, maxLocals := 2, code := jdk_42_method_3_code, exceptionTable := #[], attributes := #[] }
def k7m1 : Method := { name := "<init>", desc := "([C)V", sig := { parameters := [(.array .char)], returnType := none }, accessFlags := 1, code := some k7c1 }
def k7c2 : Code := { maxStack := 2, maxLocals := 1, code := jdk_42_method_54_code, exceptionTable := #[], attributes := #[] }
def k7m2 : Method := { name := "length", desc := "()I", sig := { parameters := [], returnType := some .int }, accessFlags := 1, code := some k7c2 }
def k7c3 : Code := { maxStack := 1, maxLocals := 1, code := jdk_42_method_55_code, exceptionTable := #[], attributes := #[] }
def k7m3 : Method := { name := "isEmpty", desc := "()Z", sig := { parameters := [], returnType := some .boolean }, accessFlags := 1, code := some k7c3 }
def k7c4 : Code := { maxStack := 2, maxLocals := 2, code := jdk_42_method_56_code, exceptionTable := #[], attributes := #[] }
def k7m4 : Method := { name := "charAt", desc := "(I)C", sig := { parameters := [.int], returnType := some .char }, accessFlags := 1, code := some k7c4 }
def k7c5 : Code := { maxStack := 4, maxLocals := 6, code := jdk_42_method_149_code, exceptionTable := #[], attributes := #[] }
def k7m5 : Method := { name := "<init>", desc := "([CIILjava/lang/Void;)V", sig := { parameters := [(.array .char), .int, .int, (.object "java/lang/Void")], returnType := none }, accessFlags := 2, code := some k7c5 }
def k7c6 : Code := { maxStack := 1, maxLocals := 1, code := jdk_42_method_152_code, exceptionTable := #[], attributes := #[] }
def k7m6 : Method := { name := "coder", desc := "()B", sig := { parameters := [], returnType := some .byte }, accessFlags := 0, code := some k7c6 }
def k7c7 : Code := { maxStack := 1, maxLocals := 1, code := jdk_42_method_154_code, exceptionTable := #[], attributes := #[] }
def k7m7 : Method := { name := "isLatin1", desc := "()Z", sig := { parameters := [], returnType := some .boolean }, accessFlags := 0, code := some k7c7 }
def k7c8 : Code := { maxStack := 3, maxLocals := 2, code := jdk_42_method_155_code, exceptionTable := #[], attributes := #[] }
def k7m8 : Method := { name := "checkIndex", desc := "(II)V", sig := { parameters := [.int, .int], returnType := none }, accessFlags := 8, code := some k7c8 }
/-- java/lang/String -/
def k7 : Class := { plain "java/lang/String" (some 0) with
  accessFlags := 49
  interfaces := #[2, 3, 4, 5, 6]
  cf := some (fileOf pool7 10 #[.nestMembers #[1103]] #[{ accessFlags := 1, nameIndex := 5, descriptorIndex := 6, attributes := #[] }, { accessFlags := 1, nameIndex := 5, descriptorIndex := 1010, attributes := #[] }, { accessFlags := 1, nameIndex := 507, descriptorIndex := 334, attributes := #[] }, { accessFlags := 1, nameIndex := 692, descriptorIndex := 142, attributes := #[] }, { accessFlags := 1, nameIndex := 497, descriptorIndex := 427, attributes := #[] }, { accessFlags := 2, nameIndex := 5, descriptorIndex := 29, attributes := #[] }, { accessFlags := 0, nameIndex := 17, descriptorIndex := 337, attributes := #[] }, { accessFlags := 0, nameIndex := 494, descriptorIndex := 142, attributes := #[] }, { accessFlags := 8, nameIndex := 501, descriptorIndex := 391, attributes := #[] }] 49 2 #[1106, 1108, 575, 1110, 1112] #[{ accessFlags := 18, nameIndex := 13, descriptorIndex := 14, attributes := #[] }, { accessFlags := 18, nameIndex := 17, descriptorIndex := 18, attributes := #[] }, { accessFlags := 2, nameIndex := 21, descriptorIndex := 22, attributes := #[] }, { accessFlags := 2, nameIndex := 25, descriptorIndex := 26, attributes := #[] }, { accessFlags := 26, nameIndex := 1116, descriptorIndex := 1117, attributes := #[] }, { accessFlags := 24, nameIndex := 40, descriptorIndex := 26, attributes := #[] }, { accessFlags := 26, nameIndex := 1101, descriptorIndex := 1102, attributes := #[] }, { accessFlags := 26, nameIndex := 1121, descriptorIndex := 1122, attributes := #[] }, { accessFlags := 25, nameIndex := 599, descriptorIndex := 600, attributes := #[] }, { accessFlags := 24, nameIndex := 1125, descriptorIndex := 18, attributes := #[] }, { accessFlags := 24, nameIndex := 1127, descriptorIndex := 18, attributes := #[] }])
  fields := #[{ name := "value", type := (.array .byte), accessFlags := 18, slot := 0, constantValue := 0 }, { name := "coder", type := .byte, accessFlags := 18, slot := 1, constantValue := 0 }, { name := "hash", type := .int, accessFlags := 2, slot := 2, constantValue := 0 }, { name := "hashIsZero", type := .boolean, accessFlags := 2, slot := 3, constantValue := 0 }, { name := "serialVersionUID", type := .long, accessFlags := 26, slot := 0, constantValue := 0 }, { name := "COMPACT_STRINGS", type := .boolean, accessFlags := 24, slot := 1, constantValue := 0 }, { name := "serialPersistentFields", type := (.array (.object "java/io/ObjectStreamField")), accessFlags := 26, slot := 2, constantValue := 0 }, { name := "REPL", type := .char, accessFlags := 26, slot := 3, constantValue := 0 }, { name := "CASE_INSENSITIVE_ORDER", type := (.object "java/util/Comparator"), accessFlags := 25, slot := 4, constantValue := 0 }, { name := "LATIN1", type := .byte, accessFlags := 24, slot := 5, constantValue := 0 }, { name := "UTF16", type := .byte, accessFlags := 24, slot := 6, constantValue := 0 }]
  methods := #[k7m0, k7m1, k7m2, k7m3, k7m4, k7m5, k7m6, k7m7, k7m8]
  instanceTypes := #[(.array .byte), .byte, .int, .boolean]
  staticTypes := #[.long, .boolean, (.array (.object "java/io/ObjectStreamField")), .char, (.object "java/util/Comparator"), .byte, .byte]
  resolved := Array.replicate 1451 none
  statics := some 0 }

def pool8 : Array CpInfo := pool [(2, .class_ 4), (1, u "java/lang/Object"), (0, u "<init>"), (0, u "()V"), (3, .methodref 11 12), (0, .class_ 13), (0, .nameAndType 14 15), (0, u "java/lang/String"), (0, u "length"), (0, u "()I"), (0, .methodref 11 17), (0, .nameAndType 18 19), (0, u "charAt"), (0, u "(I)C"), (0, .methodref 21 22), (0, .class_ 23), (0, .nameAndType 24 25), (0, u "com/example/seshat/seshat/trec/Fields"), (0, u "isSpace"), (0, u "(C)Z"), (42, .methodref 11 69), (0, .nameAndType 70 71), (0, u "isEmpty"), (0, u "()Z"), (21, u "isField"), (0, u "(Ljava/lang/String;)Z")] 21

def k8m0 : Method := { name := "<init>", desc := "()V", sig := { parameters := [], returnType := none }, accessFlags := 2, code := none }
def k8c1 : Code := { maxStack := 2, maxLocals := 3, code := prog_57_method_3_code, exceptionTable := #[], attributes := #[] }
def k8m1 : Method := { name := "isField", desc := "(Ljava/lang/String;)Z", sig := { parameters := [(.object "java/lang/String")], returnType := some .boolean }, accessFlags := 8, code := some k8c1 }
def k8c2 : Code := { maxStack := 2, maxLocals := 1, code := prog_57_method_5_code, exceptionTable := #[], attributes := #[] }
def k8m2 : Method := { name := "isSpace", desc := "(C)Z", sig := { parameters := [.char], returnType := some .boolean }, accessFlags := 10, code := some k8c2 }
/-- com/example/seshat/seshat/trec/Fields -/
def k8 : Class := { plain "com/example/seshat/seshat/trec/Fields" (some 0) with
  accessFlags := 32
  interfaces := #[]
  cf := some (fileOf pool8 21 #[] #[{ accessFlags := 2, nameIndex := 5, descriptorIndex := 6, attributes := #[] }, { accessFlags := 8, nameIndex := 93, descriptorIndex := 94, attributes := #[] }, { accessFlags := 10, nameIndex := 24, descriptorIndex := 25, attributes := #[] }] 32 2 #[] #[])
  fields := #[]
  methods := #[k8m0, k8m1, k8m2]
  instanceTypes := #[]
  staticTypes := #[]
  resolved := Array.replicate 116 none
  statics := none }

def pool9 : Array CpInfo := pool [(3, .class_ 4), (0, u "java/lang/String"), (1, .class_ 8), (1, u "java/lang/Object"), (0, u "<init>"), (0, u "()V"), (0, .methodref 12 13), (0, .class_ 14), (0, .nameAndType 15 16), (0, u "java/lang/StringUTF16"), (0, u "newBytesLength"), (0, u "(I)I"), (3, .integer 1073741823), (23, .fieldref 12 45), (0, .nameAndType 46 47), (0, u "$assertionsDisabled"), (0, u "Z"), (0, .methodref 12 49), (0, .nameAndType 50 51), (0, u "length"), (0, u "([B)I"), (7, .fieldref 12 60), (0, .nameAndType 61 62), (0, u "HI_BYTE_SHIFT"), (0, u "I"), (0, .fieldref 12 64), (0, .nameAndType 65 62), (0, u "LO_BYTE_SHIFT"), (1, .methodref 12 68), (0, .nameAndType 69 70), (0, u "checkIndex"), (0, u "(I[B)V"), (0, .methodref 12 72), (0, .nameAndType 73 74), (0, u "getChar"), (0, u "([BI)C"), (32, .methodref 12 108), (0, .nameAndType 109 110), (0, u "newBytesFor"), (0, u "(I)[B"), (0, .methodref 12 112), (0, .nameAndType 113 114), (0, u "putChar"), (0, u "([BII)V"), (0, .methodref 12 116), (0, .nameAndType 117 118), (0, u "compress"), (0, u "([CI[BII)I"), (0, .methodref 12 120), (0, .nameAndType 121 122), (0, u "toBytes"), (0, u "([CII)[B"), (138, u "coderFromArrayLen"), (0, u "([BI)B"), (106, .class_ 371), (1, u "java/lang/StringUTF16$LinesSpliterator"), (20, u "charAt"), (21, .methodref 3 415), (0, .nameAndType 69 416), (0, u "(II)V"), (13, u "MAX_LENGTH"), (196, .class_ 628), (0, u "java/lang/StringUTF16$CodePointsSpliterator"), (0, .class_ 630), (0, u "java/lang/StringUTF16$CharsSpliterator")] 4

def k9m0 : Method := { name := "<init>", desc := "()V", sig := { parameters := [], returnType := none }, accessFlags := 0, code := none }
def k9c1 : Code := { maxStack := 1, maxLocals := 1, code := jdk_52_method_2_code, exceptionTable := #[], attributes := #[] }
def k9m1 : Method := { name := "newBytesFor", desc := "(I)[B", sig := { parameters := [.int], returnType := some (.array .byte) }, accessFlags := 9, code := some k9c1 }
def k9c2 : Code := { maxStack := 4, maxLocals := 1, code := jdk_52_method_3_code, exceptionTable := #[], attributes := #[] }
def k9m2 : Method := { name := "newBytesLength", desc := "(I)I", sig := { parameters := [.int], returnType := some .int }, accessFlags := 9, code := some k9c2 }
def k9c3 : Code := { maxStack := 4, maxLocals := 3, code := jdk_52_method_4_code, exceptionTable := #[], attributes := #[] }
def k9m3 : Method := { name := "putChar", desc := "([BII)V", sig := { parameters := [(.array .byte), .int, .int], returnType := none }, accessFlags := 8, code := some k9c3 }
def k9c4 : Code := { maxStack := 3, maxLocals := 2, code := jdk_52_method_5_code, exceptionTable := #[], attributes := #[] }
def k9m4 : Method := { name := "getChar", desc := "([BI)C", sig := { parameters := [(.array .byte), .int], returnType := some .char }, accessFlags := 8, code := some k9c4 }
def k9c5 : Code := { maxStack := 2, maxLocals := 1, code := jdk_52_method_6_code, exceptionTable := #[], attributes := #[] }
def k9m5 : Method := { name := "length", desc := "([B)I", sig := { parameters := [(.array .byte)], returnType := some .int }, accessFlags := 9, code := some k9c5 }
def k9c6 : Code := { maxStack := 4, maxLocals := 5, code := jdk_52_method_14_code, exceptionTable := #[], attributes := #[] }
def k9m6 : Method := { name := "toBytes", desc := "([CII)[B", sig := { parameters := [(.array .char), .int, .int], returnType := some (.array .byte) }, accessFlags := 9, code := some k9c6 }
def k9c7 : Code := { maxStack := 2, maxLocals := 2, code := jdk_52_method_15_code, exceptionTable := #[], attributes := #[] }
def k9m7 : Method := { name := "coderFromArrayLen", desc := "([BI)B", sig := { parameters := [(.array .byte), .int], returnType := some .byte }, accessFlags := 8, code := some k9c7 }
def k9c8 : Code := { maxStack := 5, maxLocals := 6, code := jdk_52_method_16_code, exceptionTable := #[], attributes := #[] }
def k9m8 : Method := { name := "compress", desc := "([CII)[B", sig := { parameters := [(.array .char), .int, .int], returnType := some (.array .byte) }, accessFlags := 9, code := some k9c8 }
def k9c9 : Code := { maxStack := 3, maxLocals := 7, code := jdk_52_method_21_code, exceptionTable := #[], attributes := #[] }
def k9m9 : Method := { name := "compress", desc := "([CI[BII)I", sig := { parameters := [(.array .char), .int, (.array .byte), .int, .int], returnType := some .int }, accessFlags := 9, code := some k9c9 }
def k9c10 : Code := { maxStack := 2, maxLocals := 2, code := jdk_52_method_83_code, exceptionTable := #[], attributes := #[] }
def k9m10 : Method := { name := "charAt", desc := "([BI)C", sig := { parameters := [(.array .byte), .int], returnType := some .char }, accessFlags := 9, code := some k9c10 }
def k9c11 : Code := { maxStack := 2, maxLocals := 2, code := jdk_52_method_91_code, exceptionTable := #[], attributes := #[] }
def k9m11 : Method := { name := "checkIndex", desc := "(I[B)V", sig := { parameters := [.int, (.array .byte)], returnType := none }, accessFlags := 9, code := some k9c11 }
/-- java/lang/StringUTF16 -/
def k9 : Class := { plain "java/lang/StringUTF16" (some 0) with
  accessFlags := 48
  interfaces := #[]
  cf := some (fileOf pool9 12 #[.nestMembers #[627, 629, 369]] #[{ accessFlags := 0, nameIndex := 9, descriptorIndex := 10, attributes := #[] }, { accessFlags := 9, nameIndex := 109, descriptorIndex := 110, attributes := #[] }, { accessFlags := 9, nameIndex := 15, descriptorIndex := 16, attributes := #[] }, { accessFlags := 8, nameIndex := 113, descriptorIndex := 114, attributes := #[] }, { accessFlags := 8, nameIndex := 73, descriptorIndex := 74, attributes := #[] }, { accessFlags := 9, nameIndex := 50, descriptorIndex := 51, attributes := #[] }, { accessFlags := 9, nameIndex := 121, descriptorIndex := 122, attributes := #[] }, { accessFlags := 8, nameIndex := 261, descriptorIndex := 262, attributes := #[] }, { accessFlags := 9, nameIndex := 117, descriptorIndex := 122, attributes := #[] }, { accessFlags := 9, nameIndex := 117, descriptorIndex := 118, attributes := #[] }, { accessFlags := 9, nameIndex := 392, descriptorIndex := 74, attributes := #[] }, { accessFlags := 9, nameIndex := 69, descriptorIndex := 70, attributes := #[] }] 48 6 #[] #[{ accessFlags := 26, nameIndex := 61, descriptorIndex := 62, attributes := #[] }, { accessFlags := 26, nameIndex := 65, descriptorIndex := 62, attributes := #[] }, { accessFlags := 24, nameIndex := 430, descriptorIndex := 62, attributes := #[] }, { accessFlags := 4120, nameIndex := 46, descriptorIndex := 47, attributes := #[] }])
  fields := #[{ name := "HI_BYTE_SHIFT", type := .int, accessFlags := 26, slot := 0, constantValue := 0 }, { name := "LO_BYTE_SHIFT", type := .int, accessFlags := 26, slot := 1, constantValue := 0 }, { name := "MAX_LENGTH", type := .int, accessFlags := 24, slot := 2, constantValue := 0 }, { name := "$assertionsDisabled", type := .boolean, accessFlags := 4120, slot := 3, constantValue := 0 }]
  methods := #[k9m0, k9m1, k9m2, k9m3, k9m4, k9m5, k9m6, k9m7, k9m8, k9m9, k9m10, k9m11]
  instanceTypes := #[]
  staticTypes := #[.int, .int, .int, .boolean]
  resolved := Array.replicate 635 none
  statics := some 1 }

def pool10 : Array CpInfo := pool [(1, .class_ 2), (0, u "java/lang/String"), (1, .class_ 6), (1, u "java/lang/Object"), (0, u "<init>"), (0, u "()V"), (0, .methodref 1 10), (0, .nameAndType 11 12), (0, u "checkIndex"), (0, u "(II)V"), (1, .class_ 16), (1, u "java/lang/StringLatin1"), (36, u "([BI)C"), (67, u "$assertionsDisabled"), (0, u "Z"), (98, .class_ 223), (1, u "java/lang/StringLatin1$LinesSpliterator"), (28, u "charAt"), (137, .class_ 391), (0, u "java/lang/StringLatin1$CharsSpliterator")] 3

def k10m0 : Method := { name := "<init>", desc := "()V", sig := { parameters := [], returnType := none }, accessFlags := 0, code := none }
def k10c1 : Code := { maxStack := 2, maxLocals := 2, code := jdk_43_method_2_code, exceptionTable := #[], attributes := #[] }
def k10m1 : Method := { name := "charAt", desc := "([BI)C", sig := { parameters := [(.array .byte), .int], returnType := some .char }, accessFlags := 9, code := some k10c1 }
/-- java/lang/StringLatin1 -/
def k10 : Class := { plain "java/lang/StringLatin1" (some 0) with
  accessFlags := 48
  interfaces := #[]
  cf := some (fileOf pool10 14 #[.nestMembers #[390, 221]] #[{ accessFlags := 0, nameIndex := 7, descriptorIndex := 8, attributes := #[] }, { accessFlags := 9, nameIndex := 252, descriptorIndex := 53, attributes := #[] }] 48 4 #[] #[{ accessFlags := 4120, nameIndex := 121, descriptorIndex := 122, attributes := #[] }])
  fields := #[{ name := "$assertionsDisabled", type := .boolean, accessFlags := 4120, slot := 0, constantValue := 0 }]
  methods := #[k10m0, k10m1]
  instanceTypes := #[]
  staticTypes := #[.boolean]
  resolved := Array.replicate 395 none
  statics := none }

def pool11 : Array CpInfo := pool [(2, .class_ 4), (1, u "java/lang/Object"), (0, u "<init>"), (0, u "()V"), (17, .class_ 26), (1, u "jdk/internal/util/Preconditions"), (6, u "checkIndex"), (21, .class_ 56), (0, u "jdk/internal/util/Preconditions$4"), (57, .class_ 115), (0, u "jdk/internal/util/Preconditions$1"), (7, u "SIOOBE_FORMATTER"), (0, u "Ljava/util/function/BiFunction;"), (0, .class_ 126), (0, u "jdk/internal/util/Preconditions$2"), (3, u "AIOOBE_FORMATTER"), (0, .class_ 132), (0, u "jdk/internal/util/Preconditions$3"), (3, u "IOOBE_FORMATTER"), (41, u "(IILjava/util/function/BiFunction;)I")] 15

def k11m0 : Method := { name := "<init>", desc := "()V", sig := { parameters := [], returnType := none }, accessFlags := 1, code := none }
def k11c1 : Code := { maxStack := 3, maxLocals := 3, code := jdk_41_method_11_code, exceptionTable := #[], attributes := #[] }
def k11m1 : Method := { name := "checkIndex", desc := "(IILjava/util/function/BiFunction;)I", sig := { parameters := [.int, .int, (.object "java/util/function/BiFunction")], returnType := some .int }, accessFlags := 9, code := some k11c1 }
/-- jdk/internal/util/Preconditions -/
def k11 : Class := { plain "jdk/internal/util/Preconditions" (some 0) with
  accessFlags := 33
  interfaces := #[]
  cf := some (fileOf pool11 24 #[.nestMembers #[55, 131, 125, 114]] #[{ accessFlags := 1, nameIndex := 5, descriptorIndex := 6, attributes := #[] }, { accessFlags := 9, nameIndex := 33, descriptorIndex := 178, attributes := #[] }] 33 2 #[] #[{ accessFlags := 25, nameIndex := 123, descriptorIndex := 124, attributes := #[] }, { accessFlags := 25, nameIndex := 130, descriptorIndex := 124, attributes := #[] }, { accessFlags := 25, nameIndex := 136, descriptorIndex := 124, attributes := #[] }])
  fields := #[{ name := "SIOOBE_FORMATTER", type := (.object "java/util/function/BiFunction"), accessFlags := 25, slot := 0, constantValue := 0 }, { name := "AIOOBE_FORMATTER", type := (.object "java/util/function/BiFunction"), accessFlags := 25, slot := 1, constantValue := 0 }, { name := "IOOBE_FORMATTER", type := (.object "java/util/function/BiFunction"), accessFlags := 25, slot := 2, constantValue := 0 }]
  methods := #[k11m0, k11m1]
  instanceTypes := #[]
  staticTypes := #[(.object "java/util/function/BiFunction"), (.object "java/util/function/BiFunction"), (.object "java/util/function/BiFunction")]
  resolved := Array.replicate 194 none
  statics := some 2 }

def pool12 : Array CpInfo := pool [(9, u "<init>"), (6, .class_ 18), (1, u "java/lang/Object"), (0, u "()V"), (1, .class_ 23), (1, u "jdk/internal/util/ArraysSupport"), (0, u "LOG2_ARRAY_LONG_INDEX_SCALE"), (0, u "I"), (2, u "U"), (0, u "Ljdk/internal/misc/Unsafe;"), (8, u "BIG_ENDIAN"), (0, u "Z"), (8, u "LOG2_BYTE_BIT_SIZE"), (4, u "LOG2_ARRAY_INT_INDEX_SCALE"), (54, u "JLA"), (0, u "Ljdk/internal/access/JavaLangAccess;"), (11, u "LOG2_ARRAY_BOOLEAN_INDEX_SCALE"), (9, u "LOG2_ARRAY_BYTE_INDEX_SCALE"), (5, u "LOG2_ARRAY_CHAR_INDEX_SCALE"), (5, u "LOG2_ARRAY_SHORT_INDEX_SCALE"), (18, u "LOG2_ARRAY_FLOAT_INDEX_SCALE"), (24, u "LOG2_ARRAY_DOUBLE_INDEX_SCALE"), (89, u "T_BOOLEAN"), (2, u "T_CHAR"), (1, u "T_FLOAT"), (1, u "T_DOUBLE"), (1, u "T_BYTE"), (1, u "T_SHORT"), (1, u "T_INT"), (1, u "T_LONG"), (1, u "SOFT_MAX_ARRAY_LENGTH")] 83

def k12m0 : Method := { name := "<init>", desc := "()V", sig := { parameters := [], returnType := none }, accessFlags := 2, code := none }
/-- jdk/internal/util/ArraysSupport -/
def k12 : Class := { plain "jdk/internal/util/ArraysSupport" (some 0) with
  accessFlags := 33
  interfaces := #[]
  cf := some (fileOf pool12 21 #[] #[{ accessFlags := 2, nameIndex := 9, descriptorIndex := 19, attributes := #[] }] 33 16 #[] #[{ accessFlags := 24, nameIndex := 28, descriptorIndex := 29, attributes := #[] }, { accessFlags := 26, nameIndex := 38, descriptorIndex := 39, attributes := #[] }, { accessFlags := 25, nameIndex := 121, descriptorIndex := 25, attributes := #[] }, { accessFlags := 25, nameIndex := 131, descriptorIndex := 25, attributes := #[] }, { accessFlags := 25, nameIndex := 137, descriptorIndex := 25, attributes := #[] }, { accessFlags := 25, nameIndex := 143, descriptorIndex := 25, attributes := #[] }, { accessFlags := 25, nameIndex := 53, descriptorIndex := 25, attributes := #[] }, { accessFlags := 25, nameIndex := 24, descriptorIndex := 25, attributes := #[] }, { accessFlags := 25, nameIndex := 162, descriptorIndex := 25, attributes := #[] }, { accessFlags := 25, nameIndex := 187, descriptorIndex := 25, attributes := #[] }, { accessFlags := 26, nameIndex := 48, descriptorIndex := 25, attributes := #[] }, { accessFlags := 25, nameIndex := 277, descriptorIndex := 25, attributes := #[] }, { accessFlags := 25, nameIndex := 280, descriptorIndex := 25, attributes := #[] }, { accessFlags := 25, nameIndex := 282, descriptorIndex := 25, attributes := #[] }, { accessFlags := 25, nameIndex := 284, descriptorIndex := 25, attributes := #[] }, { accessFlags := 25, nameIndex := 286, descriptorIndex := 25, attributes := #[] }, { accessFlags := 25, nameIndex := 288, descriptorIndex := 25, attributes := #[] }, { accessFlags := 25, nameIndex := 290, descriptorIndex := 25, attributes := #[] }, { accessFlags := 25, nameIndex := 292, descriptorIndex := 25, attributes := #[] }, { accessFlags := 26, nameIndex := 108, descriptorIndex := 109, attributes := #[] }, { accessFlags := 25, nameIndex := 294, descriptorIndex := 25, attributes := #[] }])
  fields := #[{ name := "U", type := (.object "jdk/internal/misc/Unsafe"), accessFlags := 24, slot := 0, constantValue := 0 }, { name := "BIG_ENDIAN", type := .boolean, accessFlags := 26, slot := 1, constantValue := 0 }, { name := "LOG2_ARRAY_BOOLEAN_INDEX_SCALE", type := .int, accessFlags := 25, slot := 2, constantValue := 0 }, { name := "LOG2_ARRAY_BYTE_INDEX_SCALE", type := .int, accessFlags := 25, slot := 3, constantValue := 0 }, { name := "LOG2_ARRAY_CHAR_INDEX_SCALE", type := .int, accessFlags := 25, slot := 4, constantValue := 0 }, { name := "LOG2_ARRAY_SHORT_INDEX_SCALE", type := .int, accessFlags := 25, slot := 5, constantValue := 0 }, { name := "LOG2_ARRAY_INT_INDEX_SCALE", type := .int, accessFlags := 25, slot := 6, constantValue := 0 }, { name := "LOG2_ARRAY_LONG_INDEX_SCALE", type := .int, accessFlags := 25, slot := 7, constantValue := 0 }, { name := "LOG2_ARRAY_FLOAT_INDEX_SCALE", type := .int, accessFlags := 25, slot := 8, constantValue := 0 }, { name := "LOG2_ARRAY_DOUBLE_INDEX_SCALE", type := .int, accessFlags := 25, slot := 9, constantValue := 0 }, { name := "LOG2_BYTE_BIT_SIZE", type := .int, accessFlags := 26, slot := 10, constantValue := 0 }, { name := "T_BOOLEAN", type := .int, accessFlags := 25, slot := 11, constantValue := 0 }, { name := "T_CHAR", type := .int, accessFlags := 25, slot := 12, constantValue := 0 }, { name := "T_FLOAT", type := .int, accessFlags := 25, slot := 13, constantValue := 0 }, { name := "T_DOUBLE", type := .int, accessFlags := 25, slot := 14, constantValue := 0 }, { name := "T_BYTE", type := .int, accessFlags := 25, slot := 15, constantValue := 0 }, { name := "T_SHORT", type := .int, accessFlags := 25, slot := 16, constantValue := 0 }, { name := "T_INT", type := .int, accessFlags := 25, slot := 17, constantValue := 0 }, { name := "T_LONG", type := .int, accessFlags := 25, slot := 18, constantValue := 0 }, { name := "JLA", type := (.object "jdk/internal/access/JavaLangAccess"), accessFlags := 26, slot := 19, constantValue := 0 }, { name := "SOFT_MAX_ARRAY_LENGTH", type := .int, accessFlags := 25, slot := 20, constantValue := 0 }]
  methods := #[k12m0]
  instanceTypes := #[]
  staticTypes := #[(.object "jdk/internal/misc/Unsafe"), .boolean, .int, .int, .int, .int, .int, .int, .int, .int, .int, .int, .int, .int, .int, .int, .int, .int, .int, (.object "jdk/internal/access/JavaLangAccess"), .int]
  resolved := Array.replicate 378 none
  statics := none }

def pool13 : Array CpInfo := pool [(1, u "java/lang/Cloneable"), (0, .class_ 1), (0, u "java/lang/Object"), (0, .class_ 3)] 3

/-- java/lang/Cloneable -/
def k13 : Class := { plain "java/lang/Cloneable" (some 0) with
  accessFlags := 1537
  interfaces := #[]
  cf := some (fileOf pool13 2 #[] #[] 1537 4 #[] #[])
  fields := #[]
  methods := #[]
  instanceTypes := #[]
  staticTypes := #[]
  resolved := Array.replicate 8 none
  statics := none }

/-- the primitive byte -/
def k14 : Class := { plain "byte" none with kind := .primitive 'B', accessFlags := 0x411 }
/-- [B -/
def k15 : Class := { plain "[B" (some 0) with kind := .array 14 .byte, interfaces := #[13, 2], accessFlags := 1041 }

/-- the primitive char -/
def k16 : Class := { plain "char" none with kind := .primitive 'C', accessFlags := 0x411 }
/-- [C -/
def k17 : Class := { plain "[C" (some 0) with kind := .array 16 .char, interfaces := #[13, 2], accessFlags := 1041 }

/-- the primitive int -/
def k18 : Class := { plain "int" none with kind := .primitive 'I', accessFlags := 0x411 }
/-- [I -/
def k19 : Class := { plain "[I" (some 0) with kind := .array 18 .int, interfaces := #[13, 2], accessFlags := 1041 }

def heap : Heap := #[{ cls := 7, slots := #[.long 0, .int 1, .null, .int 0, .null, .int 0, .int 0], vm := .statics 7 },
  { cls := 9, slots := #[.int 0, .int 8, .int 0, .int 1], vm := .statics 9 },
  { cls := 11, slots := #[.null, .null, .null], vm := .statics 11 }]
def classes : Array Class := #[k0, k1, k2, k3, k4, k5, k6, k7, k8, k9, k10, k11, k12, k13, k14, k15, k16, k17, k18, k19]
def interned : List (Array UInt16 × Addr) := []
def slotsUsed : Nat := 14
def theMethod : MethodId := ⟨1, 1⟩
def args0 : Array Value := #[.int 2, .int 7, .int 1, .int 9, .int 2]
def aboutOver (below : List Frame) : State where
  vm := { classes := classes, interned := interned.toArray }
  heap := heap
  slotsUsed := slotsUsed
  threads := #[{ frames := .invoking theMethod args0 :: below }]
def below0 : List Frame := [.native { method := ⟨0, 0⟩, args := #[] }]
def about1 : State := aboutOver below0
def p0 : Program := .bare "" "" ""
def e0 : Env := launch0.env 0 0 0
theorem w_frames : about1.frames = Frame.invoking theMethod args0 :: below0 := rfl
set_option maxRecDepth 65536 in
theorem w_args : argsFit about1.vm theMethod args0 = true := by decide +kernel
set_option maxRecDepth 65536 in
theorem w_heap : heapFits about1 = true := by decide +kernel
set_option maxRecDepth 65536 in
theorem w_runnable : about1.curStatus? = some .runnable := by decide +kernel
set_option maxRecDepth 65536 in
theorem w_alone : about1.alone = true := by decide +kernel
set_option maxRecDepth 65536 in
theorem w_named : about1.methodNamed? x = some theMethod := by decide +kernel
set_option maxRecDepth 65536 in
theorem w_hears : about1.hears theMethod below0 = true := by decide +kernel
set_option maxRecDepth 65536 in
theorem w_ripe : about1.ripe theMethod args0 below0 = true := by decide +kernel
theorem w_running : about1.status = .running := rfl
set_option maxRecDepth 65536 in
theorem w_room : about1.hasRoom e0.platform room_1 = true :=
  launch0.hasRoom_least _ room_1 (by decide +kernel) (by decide +kernel) (by decide +kernel) (by decide +kernel) (by decide +kernel) (by decide +kernel)
theorem allAtoms_all (ts : List Jvm.Cond) (a : Array Jvm.Value) (st : Jvm.State) : (allAtoms ts).before a st = ts.all (fun c => c.before a st) := by
  induction ts with
  | nil => rfl
  | cons c t ih =>
    show (Jvm.Cond.and c (allAtoms t)).before a st = _
    rw [Jvm.Cond.before_and, ih, List.all_cons]
def words1 : List Jvm.Cond := Jvm.Cond.code x code maxLocals ret :: tables_1
/-- a 'code' word, met by the world's own term for the bytes: nothing is compared byte by byte -/
theorem code_word {y : MethodName} {bytes : ByteArray} {mx : Nat} {rt : Option FieldType} {a : Array Value} {s : State} {m : MethodId} {meth : Method} {c : Code} (h1 : s.methodNamed? y = some m) (h2 : s.vm.method? m = some meth) (h3 : meth.code = some c) (h4 : c.code = bytes)
    (h5 : (c.maxLocals == mx && c.exceptionTable.isEmpty && decide (c.maxStack ≤ mostOperands) && decide (meth.sig.returnType = rt) && !meth.locks && decide (parseMethodDescriptor y.desc = some meth.sig)) = true) : (Jvm.Cond.code y bytes mx rt).before a s = true := by
  simp only [Bool.and_eq_true, beq_iff_eq, Bool.not_eq_true', decide_eq_true_eq] at h5
  obtain ⟨⟨⟨⟨⟨g1, g2⟩, g3⟩, g4⟩, g5⟩, g6⟩ := h5
  simp [Cond.before, Cond.holds, Cond.value, h1, h2, h3, h4, g1, g2, g3, g4, g5, g6]
def isCode : Jvm.Cond → Bool
  | .code _ _ _ _ => true
  | _ => false
theorem all_split {L : List Jvm.Cond} {P : Jvm.Cond → Bool} (h1 : L.all (fun c => isCode c || P c) = true) (h2 : ∀ c ∈ L.filter isCode, P c = true) : L.all P = true := by
  refine List.all_eq_true.mpr fun c hc => ?_
  have h := List.all_eq_true.mp h1 c hc
  rcases Bool.eq_false_or_eq_true (isCode c) with hi | hi
  · exact h2 c (List.mem_filter.mpr ⟨hc, hi⟩)
  · simpa [hi] using h
set_option maxRecDepth 65536 in
theorem w_c0 : (Jvm.Cond.code x code maxLocals ret).before args0 about1 = true := code_word (m := ⟨1, 1⟩) (meth := k1m1) (c := k1c1) (by decide +kernel) rfl rfl rfl (by decide +kernel)
set_option maxRecDepth 65536 in
theorem w_c1 : (Jvm.Cond.code ({ cls := "com/example/seshat/seshat/trec/FieldsIsFieldPinLaw", name := "pick", desc := "(I)C" } : Jvm.MethodName) method_3_code (2 : Nat) (Option.some Jvm.ClassFile.FieldType.char)).before args0 about1 = true := code_word (m := ⟨1, 2⟩) (meth := k1m2) (c := k1c2) (by decide +kernel) rfl rfl rfl (by decide +kernel)
set_option maxRecDepth 65536 in
theorem w_c2 : (Jvm.Cond.code ({ cls := "java/lang/String", name := "<init>", desc := "([C)V" } : Jvm.MethodName) jdk_42_method_3_code (2 : Nat) (Option.none : Option Jvm.ClassFile.FieldType)).before args0 about1 = true := code_word (m := ⟨7, 1⟩) (meth := k7m1) (c := k7c1) (by decide +kernel) rfl rfl rfl (by decide +kernel)
set_option maxRecDepth 65536 in
theorem w_c3 : (Jvm.Cond.code ({ cls := "java/lang/String", name := "<init>", desc := "([CIILjava/lang/Void;)V" } : Jvm.MethodName) jdk_42_method_149_code (6 : Nat) (Option.none : Option Jvm.ClassFile.FieldType)).before args0 about1 = true := code_word (m := ⟨7, 5⟩) (meth := k7m5) (c := k7c5) (by decide +kernel) rfl rfl rfl (by decide +kernel)
set_option maxRecDepth 65536 in
theorem w_c4 : (Jvm.Cond.code ({ cls := "java/lang/Object", name := "<init>", desc := "()V" } : Jvm.MethodName) object_method_1_code (1 : Nat) (Option.none : Option Jvm.ClassFile.FieldType)).before args0 about1 = true := code_word (m := ⟨0, 0⟩) (meth := k0m0) (c := k0c0) (by decide +kernel) rfl rfl rfl (by decide +kernel)
set_option maxRecDepth 65536 in
theorem w_c5 : (Jvm.Cond.code ({ cls := "com/example/seshat/seshat/trec/Fields", name := "isField", desc := "(Ljava/lang/String;)Z" } : Jvm.MethodName) prog_57_method_3_code (3 : Nat) (Option.some Jvm.ClassFile.FieldType.boolean)).before args0 about1 = true := code_word (m := ⟨8, 1⟩) (meth := k8m1) (c := k8c1) (by decide +kernel) rfl rfl rfl (by decide +kernel)
set_option maxRecDepth 65536 in
theorem w_c6 : (Jvm.Cond.code ({ cls := "java/lang/String", name := "isEmpty", desc := "()Z" } : Jvm.MethodName) jdk_42_method_55_code (1 : Nat) (Option.some Jvm.ClassFile.FieldType.boolean)).before args0 about1 = true := code_word (m := ⟨7, 3⟩) (meth := k7m3) (c := k7c3) (by decide +kernel) rfl rfl rfl (by decide +kernel)
set_option maxRecDepth 65536 in
theorem w_c7 : (Jvm.Cond.code ({ cls := "java/lang/String", name := "length", desc := "()I" } : Jvm.MethodName) jdk_42_method_54_code (1 : Nat) (Option.some Jvm.ClassFile.FieldType.int)).before args0 about1 = true := code_word (m := ⟨7, 2⟩) (meth := k7m2) (c := k7c2) (by decide +kernel) rfl rfl rfl (by decide +kernel)
set_option maxRecDepth 65536 in
theorem w_c8 : (Jvm.Cond.code ({ cls := "java/lang/String", name := "coder", desc := "()B" } : Jvm.MethodName) jdk_42_method_152_code (1 : Nat) (Option.some Jvm.ClassFile.FieldType.byte)).before args0 about1 = true := code_word (m := ⟨7, 6⟩) (meth := k7m6) (c := k7c6) (by decide +kernel) rfl rfl rfl (by decide +kernel)
set_option maxRecDepth 65536 in
theorem w_c9 : (Jvm.Cond.code ({ cls := "java/lang/StringUTF16", name := "compress", desc := "([CII)[B" } : Jvm.MethodName) jdk_52_method_16_code (6 : Nat) (Option.some (Jvm.ClassFile.FieldType.array Jvm.ClassFile.FieldType.byte))).before args0 about1 = true := code_word (m := ⟨9, 8⟩) (meth := k9m8) (c := k9c8) (by decide +kernel) rfl rfl rfl (by decide +kernel)
set_option maxRecDepth 65536 in
theorem w_c10 : (Jvm.Cond.code ({ cls := "java/lang/StringUTF16", name := "compress", desc := "([CI[BII)I" } : Jvm.MethodName) jdk_52_method_21_code (7 : Nat) (Option.some Jvm.ClassFile.FieldType.int)).before args0 about1 = true := code_word (m := ⟨9, 9⟩) (meth := k9m9) (c := k9c9) (by decide +kernel) rfl rfl rfl (by decide +kernel)
set_option maxRecDepth 65536 in
theorem w_c11 : (Jvm.Cond.code ({ cls := "java/lang/StringUTF16", name := "coderFromArrayLen", desc := "([BI)B" } : Jvm.MethodName) jdk_52_method_15_code (2 : Nat) (Option.some Jvm.ClassFile.FieldType.byte)).before args0 about1 = true := code_word (m := ⟨9, 7⟩) (meth := k9m7) (c := k9c7) (by decide +kernel) rfl rfl rfl (by decide +kernel)
set_option maxRecDepth 65536 in
theorem w_c12 : (Jvm.Cond.code ({ cls := "com/example/seshat/seshat/trec/FieldsIsFieldPinLaw", name := "ws", desc := "(C)Z" } : Jvm.MethodName) method_4_code (1 : Nat) (Option.some Jvm.ClassFile.FieldType.boolean)).before args0 about1 = true := code_word (m := ⟨1, 3⟩) (meth := k1m3) (c := k1c3) (by decide +kernel) rfl rfl rfl (by decide +kernel)
set_option maxRecDepth 65536 in
theorem w_c13 : (Jvm.Cond.code ({ cls := "java/lang/String", name := "charAt", desc := "(I)C" } : Jvm.MethodName) jdk_42_method_56_code (2 : Nat) (Option.some Jvm.ClassFile.FieldType.char)).before args0 about1 = true := code_word (m := ⟨7, 4⟩) (meth := k7m4) (c := k7c4) (by decide +kernel) rfl rfl rfl (by decide +kernel)
set_option maxRecDepth 65536 in
theorem w_c14 : (Jvm.Cond.code ({ cls := "java/lang/String", name := "isLatin1", desc := "()Z" } : Jvm.MethodName) jdk_42_method_154_code (1 : Nat) (Option.some Jvm.ClassFile.FieldType.boolean)).before args0 about1 = true := code_word (m := ⟨7, 7⟩) (meth := k7m7) (c := k7c7) (by decide +kernel) rfl rfl rfl (by decide +kernel)
set_option maxRecDepth 65536 in
theorem w_c15 : (Jvm.Cond.code ({ cls := "java/lang/StringLatin1", name := "charAt", desc := "([BI)C" } : Jvm.MethodName) jdk_43_method_2_code (2 : Nat) (Option.some Jvm.ClassFile.FieldType.char)).before args0 about1 = true := code_word (m := ⟨10, 1⟩) (meth := k10m1) (c := k10c1) (by decide +kernel) rfl rfl rfl (by decide +kernel)
set_option maxRecDepth 65536 in
theorem w_c16 : (Jvm.Cond.code ({ cls := "java/lang/String", name := "checkIndex", desc := "(II)V" } : Jvm.MethodName) jdk_42_method_155_code (2 : Nat) (Option.none : Option Jvm.ClassFile.FieldType)).before args0 about1 = true := code_word (m := ⟨7, 8⟩) (meth := k7m8) (c := k7c8) (by decide +kernel) rfl rfl rfl (by decide +kernel)
set_option maxRecDepth 65536 in
theorem w_c17 : (Jvm.Cond.code ({ cls := "jdk/internal/util/Preconditions", name := "checkIndex", desc := "(IILjava/util/function/BiFunction;)I" } : Jvm.MethodName) jdk_41_method_11_code (3 : Nat) (Option.some Jvm.ClassFile.FieldType.int)).before args0 about1 = true := code_word (m := ⟨11, 1⟩) (meth := k11m1) (c := k11c1) (by decide +kernel) rfl rfl rfl (by decide +kernel)
set_option maxRecDepth 65536 in
theorem w_c18 : (Jvm.Cond.code ({ cls := "com/example/seshat/seshat/trec/Fields", name := "isSpace", desc := "(C)Z" } : Jvm.MethodName) prog_57_method_5_code (1 : Nat) (Option.some Jvm.ClassFile.FieldType.boolean)).before args0 about1 = true := code_word (m := ⟨8, 2⟩) (meth := k8m2) (c := k8c2) (by decide +kernel) rfl rfl rfl (by decide +kernel)
set_option maxRecDepth 65536 in
theorem w_c19 : (Jvm.Cond.code ({ cls := "java/lang/StringUTF16", name := "toBytes", desc := "([CII)[B" } : Jvm.MethodName) jdk_52_method_14_code (5 : Nat) (Option.some (Jvm.ClassFile.FieldType.array Jvm.ClassFile.FieldType.byte))).before args0 about1 = true := code_word (m := ⟨9, 6⟩) (meth := k9m6) (c := k9c6) (by decide +kernel) rfl rfl rfl (by decide +kernel)
set_option maxRecDepth 65536 in
theorem w_c20 : (Jvm.Cond.code ({ cls := "java/lang/StringUTF16", name := "newBytesFor", desc := "(I)[B" } : Jvm.MethodName) jdk_52_method_2_code (1 : Nat) (Option.some (Jvm.ClassFile.FieldType.array Jvm.ClassFile.FieldType.byte))).before args0 about1 = true := code_word (m := ⟨9, 1⟩) (meth := k9m1) (c := k9c1) (by decide +kernel) rfl rfl rfl (by decide +kernel)
set_option maxRecDepth 65536 in
theorem w_c21 : (Jvm.Cond.code ({ cls := "java/lang/StringUTF16", name := "newBytesLength", desc := "(I)I" } : Jvm.MethodName) jdk_52_method_3_code (1 : Nat) (Option.some Jvm.ClassFile.FieldType.int)).before args0 about1 = true := code_word (m := ⟨9, 2⟩) (meth := k9m2) (c := k9c2) (by decide +kernel) rfl rfl rfl (by decide +kernel)
set_option maxRecDepth 65536 in
theorem w_c22 : (Jvm.Cond.code ({ cls := "java/lang/StringUTF16", name := "putChar", desc := "([BII)V" } : Jvm.MethodName) jdk_52_method_4_code (3 : Nat) (Option.none : Option Jvm.ClassFile.FieldType)).before args0 about1 = true := code_word (m := ⟨9, 3⟩) (meth := k9m3) (c := k9c3) (by decide +kernel) rfl rfl rfl (by decide +kernel)
set_option maxRecDepth 65536 in
theorem w_c23 : (Jvm.Cond.code ({ cls := "java/lang/StringUTF16", name := "getChar", desc := "([BI)C" } : Jvm.MethodName) jdk_52_method_5_code (2 : Nat) (Option.some Jvm.ClassFile.FieldType.char)).before args0 about1 = true := code_word (m := ⟨9, 4⟩) (meth := k9m4) (c := k9c4) (by decide +kernel) rfl rfl rfl (by decide +kernel)
set_option maxRecDepth 65536 in
theorem w_c24 : (Jvm.Cond.code ({ cls := "java/lang/StringUTF16", name := "charAt", desc := "([BI)C" } : Jvm.MethodName) jdk_52_method_83_code (2 : Nat) (Option.some Jvm.ClassFile.FieldType.char)).before args0 about1 = true := code_word (m := ⟨9, 10⟩) (meth := k9m10) (c := k9c10) (by decide +kernel) rfl rfl rfl (by decide +kernel)
set_option maxRecDepth 65536 in
theorem w_c25 : (Jvm.Cond.code ({ cls := "java/lang/StringUTF16", name := "checkIndex", desc := "(I[B)V" } : Jvm.MethodName) jdk_52_method_91_code (2 : Nat) (Option.none : Option Jvm.ClassFile.FieldType)).before args0 about1 = true := code_word (m := ⟨9, 11⟩) (meth := k9m11) (c := k9c11) (by decide +kernel) rfl rfl rfl (by decide +kernel)
set_option maxRecDepth 65536 in
theorem w_c26 : (Jvm.Cond.code ({ cls := "java/lang/StringUTF16", name := "length", desc := "([B)I" } : Jvm.MethodName) jdk_52_method_6_code (1 : Nat) (Option.some Jvm.ClassFile.FieldType.int)).before args0 about1 = true := code_word (m := ⟨9, 5⟩) (meth := k9m5) (c := k9c5) (by decide +kernel) rfl rfl rfl (by decide +kernel)
def codes1 : List Jvm.Cond := [Jvm.Cond.code x code maxLocals ret, Jvm.Cond.code ({ cls := "com/example/seshat/seshat/trec/FieldsIsFieldPinLaw", name := "pick", desc := "(I)C" } : Jvm.MethodName) method_3_code (2 : Nat) (Option.some Jvm.ClassFile.FieldType.char), Jvm.Cond.code ({ cls := "java/lang/String", name := "<init>", desc := "([C)V" } : Jvm.MethodName) jdk_42_method_3_code (2 : Nat) (Option.none : Option Jvm.ClassFile.FieldType), Jvm.Cond.code ({ cls := "java/lang/String", name := "<init>", desc := "([CIILjava/lang/Void;)V" } : Jvm.MethodName) jdk_42_method_149_code (6 : Nat) (Option.none : Option Jvm.ClassFile.FieldType), Jvm.Cond.code ({ cls := "java/lang/Object", name := "<init>", desc := "()V" } : Jvm.MethodName) object_method_1_code (1 : Nat) (Option.none : Option Jvm.ClassFile.FieldType), Jvm.Cond.code ({ cls := "com/example/seshat/seshat/trec/Fields", name := "isField", desc := "(Ljava/lang/String;)Z" } : Jvm.MethodName) prog_57_method_3_code (3 : Nat) (Option.some Jvm.ClassFile.FieldType.boolean), Jvm.Cond.code ({ cls := "java/lang/String", name := "isEmpty", desc := "()Z" } : Jvm.MethodName) jdk_42_method_55_code (1 : Nat) (Option.some Jvm.ClassFile.FieldType.boolean), Jvm.Cond.code ({ cls := "java/lang/String", name := "length", desc := "()I" } : Jvm.MethodName) jdk_42_method_54_code (1 : Nat) (Option.some Jvm.ClassFile.FieldType.int), Jvm.Cond.code ({ cls := "java/lang/String", name := "coder", desc := "()B" } : Jvm.MethodName) jdk_42_method_152_code (1 : Nat) (Option.some Jvm.ClassFile.FieldType.byte), Jvm.Cond.code ({ cls := "java/lang/StringUTF16", name := "compress", desc := "([CII)[B" } : Jvm.MethodName) jdk_52_method_16_code (6 : Nat) (Option.some (Jvm.ClassFile.FieldType.array Jvm.ClassFile.FieldType.byte)), Jvm.Cond.code ({ cls := "java/lang/StringUTF16", name := "compress", desc := "([CI[BII)I" } : Jvm.MethodName) jdk_52_method_21_code (7 : Nat) (Option.some Jvm.ClassFile.FieldType.int), Jvm.Cond.code ({ cls := "java/lang/StringUTF16", name := "coderFromArrayLen", desc := "([BI)B" } : Jvm.MethodName) jdk_52_method_15_code (2 : Nat) (Option.some Jvm.ClassFile.FieldType.byte), Jvm.Cond.code ({ cls := "com/example/seshat/seshat/trec/FieldsIsFieldPinLaw", name := "ws", desc := "(C)Z" } : Jvm.MethodName) method_4_code (1 : Nat) (Option.some Jvm.ClassFile.FieldType.boolean), Jvm.Cond.code ({ cls := "java/lang/String", name := "charAt", desc := "(I)C" } : Jvm.MethodName) jdk_42_method_56_code (2 : Nat) (Option.some Jvm.ClassFile.FieldType.char), Jvm.Cond.code ({ cls := "java/lang/String", name := "isLatin1", desc := "()Z" } : Jvm.MethodName) jdk_42_method_154_code (1 : Nat) (Option.some Jvm.ClassFile.FieldType.boolean), Jvm.Cond.code ({ cls := "java/lang/StringLatin1", name := "charAt", desc := "([BI)C" } : Jvm.MethodName) jdk_43_method_2_code (2 : Nat) (Option.some Jvm.ClassFile.FieldType.char), Jvm.Cond.code ({ cls := "java/lang/String", name := "checkIndex", desc := "(II)V" } : Jvm.MethodName) jdk_42_method_155_code (2 : Nat) (Option.none : Option Jvm.ClassFile.FieldType), Jvm.Cond.code ({ cls := "jdk/internal/util/Preconditions", name := "checkIndex", desc := "(IILjava/util/function/BiFunction;)I" } : Jvm.MethodName) jdk_41_method_11_code (3 : Nat) (Option.some Jvm.ClassFile.FieldType.int), Jvm.Cond.code ({ cls := "com/example/seshat/seshat/trec/Fields", name := "isSpace", desc := "(C)Z" } : Jvm.MethodName) prog_57_method_5_code (1 : Nat) (Option.some Jvm.ClassFile.FieldType.boolean), Jvm.Cond.code ({ cls := "java/lang/StringUTF16", name := "toBytes", desc := "([CII)[B" } : Jvm.MethodName) jdk_52_method_14_code (5 : Nat) (Option.some (Jvm.ClassFile.FieldType.array Jvm.ClassFile.FieldType.byte)), Jvm.Cond.code ({ cls := "java/lang/StringUTF16", name := "newBytesFor", desc := "(I)[B" } : Jvm.MethodName) jdk_52_method_2_code (1 : Nat) (Option.some (Jvm.ClassFile.FieldType.array Jvm.ClassFile.FieldType.byte)), Jvm.Cond.code ({ cls := "java/lang/StringUTF16", name := "newBytesLength", desc := "(I)I" } : Jvm.MethodName) jdk_52_method_3_code (1 : Nat) (Option.some Jvm.ClassFile.FieldType.int), Jvm.Cond.code ({ cls := "java/lang/StringUTF16", name := "putChar", desc := "([BII)V" } : Jvm.MethodName) jdk_52_method_4_code (3 : Nat) (Option.none : Option Jvm.ClassFile.FieldType), Jvm.Cond.code ({ cls := "java/lang/StringUTF16", name := "getChar", desc := "([BI)C" } : Jvm.MethodName) jdk_52_method_5_code (2 : Nat) (Option.some Jvm.ClassFile.FieldType.char), Jvm.Cond.code ({ cls := "java/lang/StringUTF16", name := "charAt", desc := "([BI)C" } : Jvm.MethodName) jdk_52_method_83_code (2 : Nat) (Option.some Jvm.ClassFile.FieldType.char), Jvm.Cond.code ({ cls := "java/lang/StringUTF16", name := "checkIndex", desc := "(I[B)V" } : Jvm.MethodName) jdk_52_method_91_code (2 : Nat) (Option.none : Option Jvm.ClassFile.FieldType), Jvm.Cond.code ({ cls := "java/lang/StringUTF16", name := "length", desc := "([B)I" } : Jvm.MethodName) jdk_52_method_6_code (1 : Nat) (Option.some Jvm.ClassFile.FieldType.int)]
set_option maxRecDepth 65536 in
theorem codes_eq : words1.filter isCode = codes1 := rfl
theorem w_codes : ∀ c ∈ words1.filter isCode, c.before args0 about1 = true := by
  rw [codes_eq]
  intro c hc
  simp only [codes1, List.mem_cons, List.not_mem_nil, or_false] at hc
  rcases hc with rfl | rfl | rfl | rfl | rfl | rfl | rfl | rfl | rfl | rfl | rfl | rfl | rfl | rfl | rfl | rfl | rfl | rfl | rfl | rfl | rfl | rfl | rfl | rfl | rfl | rfl | rfl
  · exact w_c0
  · exact w_c1
  · exact w_c2
  · exact w_c3
  · exact w_c4
  · exact w_c5
  · exact w_c6
  · exact w_c7
  · exact w_c8
  · exact w_c9
  · exact w_c10
  · exact w_c11
  · exact w_c12
  · exact w_c13
  · exact w_c14
  · exact w_c15
  · exact w_c16
  · exact w_c17
  · exact w_c18
  · exact w_c19
  · exact w_c20
  · exact w_c21
  · exact w_c22
  · exact w_c23
  · exact w_c24
  · exact w_c25
  · exact w_c26
set_option maxRecDepth 65536 in
theorem w_t1 : (words1.take 24).all (fun c => isCode c || c.before args0 about1) = true := by decide +kernel
set_option maxRecDepth 65536 in
theorem w_t2 : ((words1.drop 24).take 24).all (fun c => isCode c || c.before args0 about1) = true := by decide +kernel
set_option maxRecDepth 65536 in
theorem w_t3 : (((words1.drop 24).drop 24).take 24).all (fun c => isCode c || c.before args0 about1) = true := by decide +kernel
set_option maxRecDepth 65536 in
theorem w_t4 : ((((words1.drop 24).drop 24).drop 24).take 24).all (fun c => isCode c || c.before args0 about1) = true := by decide +kernel
set_option maxRecDepth 65536 in
theorem w_t5 : ((((words1.drop 24).drop 24).drop 24).drop 24).all (fun c => isCode c || c.before args0 about1) = true := by decide +kernel
theorem w_tables : (allAtoms (Jvm.Cond.code x code maxLocals ret :: tables_1)).before args0 about1 = true := by
  rw [allAtoms_all]
  show words1.all (fun c => c.before args0 about1) = true
  refine all_split ?_ w_codes
  rw [← List.take_append_drop 24 words1, List.all_append, w_t1, ← List.take_append_drop 24 (words1.drop 24), List.all_append, w_t2, ← List.take_append_drop 24 ((words1.drop 24).drop 24), List.all_append, w_t3, ← List.take_append_drop 24 (((words1.drop 24).drop 24).drop 24), List.all_append, w_t4, w_t5]
  rfl
set_option maxRecDepth 65536 in
theorem w_rest : rest_1_c.before args0 about1 = true := by decide +kernel
set_option maxRecDepth 65536 in
theorem w_case : (Jvm.Cond.and given_1 narrow_1).before args0 about1 = true := by decide +kernel
set_option maxRecDepth 65536 in
theorem w_consts : constsHeld consts_1 about1 := Jvm.Lit.constsHeldB_iff.mp (by decide +kernel)
theorem w_applies : (headSpec (Jvm.Cond.code x code maxLocals ret :: tables_1) room_1).applies x e0.platform about1 = true :=
  (Spec.applies_iff w_frames).mpr ⟨w_running, w_runnable, w_alone, w_named, w_hears, w_ripe, w_room, w_tables⟩
theorem atStart : AtStart classFile x code maxLocals ret World_1 tables_1 room_1 Calls_1 rest_1 Pre_1 launch0 p0 e0 about1 theMethod args0 below0 :=
  ⟨lists_1, trivial, launch0.admits_env _ _ _, launch0.least_env, fairChoices_fair.cas, fairChoices_fair.clock, w_frames, w_args, w_heap, w_applies, ⟨w_consts, trivial⟩, w_rest, w_case⟩
end start1
theorem witness_1 : WitnessClaimed_1 := ⟨start1.p0, start1.e0, start1.about1, start1.theMethod, start1.args0, start1.below0, start1.atStart⟩
end Jvm.Pilot.@@N@@
