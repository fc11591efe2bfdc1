import JvmDerived
import JvmDerived.Pilot.@@N@@Statement
import JvmDerived.Pilot.@@N@@Code
set_option linter.unusedVariables false
set_option linter.unusedSimpArgs false
namespace Jvm.RoadKit
open Sem ClassFile Op Lib Jvm.Stand Jvm.Free Jvm.LawKit
section New
variable {p : Program} {l : Launch} {e : Env} {R : Room} {s : State} {m : MethodId} {args : Array Value} {below : List Frame} {meth : Method} {c : Code} {T : State} {locs : List Loc} {cells slots : Nat}
theorem retI (X : Stand p l e R s m args below meth c T locs cells slots) (hx : p.tables.exec = Jvm.exec) {pc : Nat} {Ls : Array Slot} {z : Int32} {rest : List Value} (hret : meth.sig.returnType = some .int) (hd : decode c.code pc = .ok (.ireturn, 1)) {fs : List Frame}
    (hl : ∀ (f : JFrame) (acts : List Action), f.method = m → f.locked = none → f.entered = [] → (doReturn e (T.setTop f) acts (some (.int z))).1 = T.setFrames fs) : Steps p.tables e below (T.setTop (mkF m pc Ls (.int z :: rest))) (T.setFrames fs) :=
  retOut X hx hret rfl (Or.inl ⟨rfl, Or.inl rfl, z, rfl⟩) hd hl
end New
end Jvm.RoadKit
/- laws to paste: Road.backV, Road.eqW, Road.codOf (cut by pick.py; bodies as the Statement names them) -/
namespace Jvm.Pilot.@@N@@
namespace StrChars
open Jvm Sem ClassFile Op Lib Jvm.Stand Jvm.Free.XT Jvm.Free.ALB Jvm.Free.JM Jvm.Free
open Jvm.Lib.Cold (StaticIs)
/-- a char array whose places are chars -/
def Ch (a : Addr) (A : Cell) (U : State) : Prop := Arr .char a A U ∧ Typed .char A
theorem Ch.mv {a : Addr} {A : Cell} {U U' : State} (h : Ch a A U) (hal : U.vm.Alike U'.vm) (hh : U'.heap = U.heap) : Ch a A U' := ⟨h.1.mv hal hh, h.2⟩
theorem Ch.keep {a : Addr} {A : Cell} {U U' : State} (h : Ch a A U) (hal : U.vm.Alike U'.vm) (hk : U'.heap[a]? = some A) : Ch a A U' := ⟨h.1.keep hal hk, h.2⟩
/-- what place i of a char[]'s cell holds -/
def cv (A : Cell) (i : Nat) : Int32 := match A.slots[i]? with | some (.int x) => x | _ => 0
theorem Ch.get {a : Addr} {A : Cell} {U : State} (h : Ch a A U) {i : Nat} (hi : i < A.slots.size) : A.slots[i]? = some (.int (cv A i)) := by
  have e := Array.getElem?_eq_getElem hi
  have f := h.2 i _ e
  unfold cv; rw [e]
  generalize A.slots[i] = v at f
  cases v <;> simp [fits] at f ⊢
/-- the byte that i2b leaves of a char -/
def lo8 (x : Int32) : Int32 := x.toInt8.toInt32
theorem fits_lo8 (y : Int32) : fits .byte (.int (lo8 y)) = true := by
  have h1 := y.toInt8.le_toInt
  have h2 := y.toInt8.toInt_lt
  simp only [lo8, fits, Bool.and_eq_true, decide_eq_true_eq, Int32.le_iff_toInt_le, Int8.toInt_toInt32, show (-128 : Int32).toInt = -128 from by decide, show (127 : Int32).toInt = 127 from by decide]
  omega
/-- A' is A but that each place j of lo .. hi - 1 holds f j -/
def Laid (A A' : Cell) (lo hi : Nat) (f : Nat → Value) : Prop := A'.cls = A.cls ∧ A'.vm = A.vm ∧ A'.slots.size = A.slots.size ∧ ∀ i, A'.slots[i]? = if lo ≤ i ∧ i < hi then some (f i) else A.slots[i]?
theorem Laid.zero (A : Cell) (lo : Nat) (f : Nat → Value) : Laid A A lo (lo + 0) f := ⟨rfl, rfl, rfl, fun i => by rw [if_neg (by omega)]⟩
theorem Laid.step {A Ak : Cell} {lo k : Nat} {f : Nat → Value} {v : Value} (h : Laid A Ak lo k f) (hlo : lo ≤ k) (hk : k < Ak.slots.size) (hv : v = f k) : Laid A (Ak.setSlot k v) lo (k + 1) f := by
  refine ⟨h.1, h.2.1, by simpa [Cell.setSlot] using h.2.2.1, fun i => ?_⟩
  by_cases e : k = i
  · subst e; rw [Cell.slots_setSlot_self v hk, if_pos (by omega), hv]
  · rw [Cell.slots_setSlot_ne v e, h.2.2.2 i]
    by_cases q : lo ≤ i ∧ i < k
    · rw [if_pos q, if_pos (by omega)]
    · rw [if_neg q, if_neg (by omega)]
def U16 : String := "java/lang/StringUTF16"
namespace Cmp5
def yN : MethodName := ⟨"java/lang/StringUTF16", "compress", "([CI[BII)I"⟩
abbrev yB : ByteArray := jdk_52_method_21_code
theorem d0 : decode yB 0 = .ok (.iconst 0, 1) := by decide +kernel
theorem d1 : decode yB 1 = .ok (.istore 5, 2) := by decide +kernel
theorem d3 : decode yB 3 = .ok (.iload 5, 2) := by decide +kernel
theorem d5 : decode yB 5 = .ok (.iload 4, 2) := by decide +kernel
theorem d7 : decode yB 7 = .ok (.if_icmp (.ge) 37, 3) := by decide +kernel
theorem d10 : decode yB 10 = .ok (.aload_n 0, 1) := by decide +kernel
theorem d11 : decode yB 11 = .ok (.iload_n 1, 1) := by decide +kernel
theorem d12 : decode yB 12 = .ok (.caload, 1) := by decide +kernel
theorem d13 : decode yB 13 = .ok (.istore 6, 2) := by decide +kernel
theorem d15 : decode yB 15 = .ok (.iload 6, 2) := by decide +kernel
theorem d17 : decode yB 17 = .ok (.sipush 255, 3) := by decide +kernel
theorem d20 : decode yB 20 = .ok (.if_icmp (.le) 6, 3) := by decide +kernel
theorem d26 : decode yB 26 = .ok (.aload_n 2, 1) := by decide +kernel
theorem d27 : decode yB 27 = .ok (.iload_n 3, 1) := by decide +kernel
theorem d28 : decode yB 28 = .ok (.iload 6, 2) := by decide +kernel
theorem d30 : decode yB 30 = .ok (.i2b, 1) := by decide +kernel
theorem d31 : decode yB 31 = .ok (.bastore, 1) := by decide +kernel
theorem d32 : decode yB 32 = .ok (.iinc 1 1, 3) := by decide +kernel
theorem d35 : decode yB 35 = .ok (.iinc 3 1, 3) := by decide +kernel
theorem d38 : decode yB 38 = .ok (.iinc 5 1, 3) := by decide +kernel
theorem d41 : decode yB 41 = .ok (.goto (-38), 3) := by decide +kernel
theorem d44 : decode yB 44 = .ok (.iload 4, 2) := by decide +kernel
theorem d46 : decode yB 46 = .ok (.ireturn, 1) := by decide +kernel
def site : List Cond := []
def tab : Cond := tabOf yN yB 7 (some .int) site
def P (b : Addr) (A : Cell) (d : Addr) (B : Cell) (o q len : Nat) (args : Array Value) (s : State) : Prop := args = #[.ref b, .int (Int32.ofNat o), .ref d, .int (Int32.ofNat q), .int (Int32.ofNat len)] ∧ Ch b A s ∧ Arr .byte d B s ∧ b ≠ d ∧ o + len ≤ A.slots.size ∧ q + len ≤ B.slots.size ∧ ∀ i, i < len → ¬ 255 < cv A (o + i)
def E (b : Addr) (A : Cell) (d : Addr) (B : Cell) (o q len : Nat) (r : Option Value) (s u : State) : Prop := r = some (.int (Int32.ofNat len)) ∧ ∃ B', Put d B' s u ∧ Laid B B' q (q + len) (fun j => Value.int (lo8 (cv A (o + (j - q)))))
/-- no char of the range above 255: len; the places written hold each char's low byte -/
theorem law (l : Launch) (b : Addr) (A : Cell) (d : Addr) (B : Cell) (o q len : Nat) : Law l yN 5 5 0 0 yB 7 (some .int) site (P b A d B o q len) (E b A d B o q len) (copyLocs d q len) 0 0 := by
  refine Law.of_walk (plainFor_of_name (by decide +kernel)) (by decide +kernel) (by decide +kernel) (by decide) (fun _ _ h => by rw [h.1]; rfl) (fun _ U U' hal hh h => ⟨h.1, h.2.1.mv hal hh, h.2.2.1.mv hal hh, h.2.2.2⟩) (fun r U U' V V' h1 hal h2 h => ⟨h.1, h.2.elim fun B' q => ⟨B', q.1.mv h1 h2, q.2⟩⟩) ?_
  intro p e s m args below meth c s₁ X0 hexec hbytes hml hret hlk hnm hown hh0 W hP
  obtain ⟨rfl, hA, hB, hne, l1, l2, hp⟩ := hP
  have c1 : Steps p.tables e below (s₁.setTop (entryFrame m #[.ref b, .int (Int32.ofNat o), .ref d, .int (Int32.ofNat q), .int (Int32.ofNat len)] 7)) (s₁.setTop (mkF m 0 #[.val (.ref b), .val (.int (Int32.ofNat o)), .val (.ref d), .val (.int (Int32.ofNat q)), .val (.int (Int32.ofNat len)), .unset, .unset] [])) := entry rfl
  have hA0 := hA.1.mv X0.warmed.alike hh0
  have hB0 := hB.mv X0.warmed.alike hh0
  have a31 := hA.1.2.2.2
  have c2 : Steps p.tables e below (s₁.setTop (entryFrame m #[.ref b, .int (Int32.ofNat o), .ref d, .int (Int32.ofNat q), .int (Int32.ofNat len)] 7)) (s₁.setTop (mkF m 3 #[.val (.ref b), .val (.int (Int32.ofNat o)), .val (.ref d), .val (.int (Int32.ofNat q)), .val (.int (Int32.ofNat len)), .val (.int 0), .unset] [])) := c1.trans (by
    refine iconstV X0.here hexec rfl 0 (hb hbytes d0) (by decide) ?_
    refine XS.istore X0.here hexec rfl (hb hbytes d1) rfl rfl ?_
    exact Steps.refl _)
  have loop : ∀ (r i : Nat), i + r = len → ∀ (z : Slot), (z = .unset ∨ ∃ w, z = .val w ∧ w.category = 1) → ∀ (Tl : State) (Bk : Cell), Stand p l e { frames := 0, locals := 0, cells := 0, slots := 0 } s m #[.ref b, .int (Int32.ofNat o), .ref d, .int (Int32.ofNat q), .int (Int32.ofNat len)] below meth c Tl ([] ++ copyLocs d q i) 0 0 → Put d Bk s₁ Tl → Laid B Bk q (q + i) (fun j => Value.int (lo8 (cv A (o + (j - q))))) →
      Steps p.tables e below (s₁.setTop (entryFrame m #[.ref b, .int (Int32.ofNat o), .ref d, .int (Int32.ofNat q), .int (Int32.ofNat len)] 7)) (Tl.setTop (mkF m 3 #[.val (.ref b), .val (.int (Int32.ofNat (o + i))), .val (.ref d), .val (.int (Int32.ofNat (q + i))), .val (.int (Int32.ofNat len)), .val (.int (Int32.ofNat i)), z] [])) → ∃ (T' : State) (B' : Cell) (z' : Slot), Stand p l e { frames := 0, locals := 0, cells := 0, slots := 0 } s m #[.ref b, .int (Int32.ofNat o), .ref d, .int (Int32.ofNat q), .int (Int32.ofNat len)] below meth c T' ([] ++ copyLocs d q len) 0 0 ∧ Put d B' s₁ T' ∧ Laid B B' q (q + len) (fun j => Value.int (lo8 (cv A (o + (j - q))))) ∧
      Steps p.tables e below (s₁.setTop (entryFrame m #[.ref b, .int (Int32.ofNat o), .ref d, .int (Int32.ofNat q), .int (Int32.ofNat len)] 7)) (T'.setTop (mkF m 3 #[.val (.ref b), .val (.int (Int32.ofNat (o + len))), .val (.ref d), .val (.int (Int32.ofNat (q + len))), .val (.int (Int32.ofNat len)), .val (.int (Int32.ofNat len)), z'] [])) := by
    intro r
    induction r with
    | zero =>
      intro i hi z hz Tl Bk Xl pl fl cl
      have hil : i = len := by omega
      rw [hil] at Xl fl cl
      exact ⟨Tl, Bk, z, Xl, pl, fl, cl⟩
    | succ r ih =>
      intro i hi z hz Tl Bk Xl pl fl cl
      have all := X0.warmed.alike.symm.trans Xl.warmed.alike
      have hAl := hA0.keep all (pl.other hne hA0.1)
      have hBk := hB0.like all pl.1 fl.1 fl.2.1 fl.2.2.1
      have hlt : q + i < Bk.slots.size := by rw [fl.2.2.1]; omega
      have c3 : Steps p.tables e below (s₁.setTop (entryFrame m #[.ref b, .int (Int32.ofNat o), .ref d, .int (Int32.ofNat q), .int (Int32.ofNat len)] 7)) (Tl.setTop (mkF m 12 #[.val (.ref b), .val (.int (Int32.ofNat (o + i))), .val (.ref d), .val (.int (Int32.ofNat (q + i))), .val (.int (Int32.ofNat len)), .val (.int (Int32.ofNat i)), z] [.int (Int32.ofNat (o + i)), .ref b])) := cl.trans (by
        refine XS.iload Xl.here hexec rfl (hb hbytes d3) rfl ?_
        refine XS.iload Xl.here hexec rfl (hb hbytes d5) rfl ?_
        refine XS.icmpNo Xl.here hexec rfl (hb hbytes d7) rfl (ii_ge_f (lt32 (by omega) (by omega))) ?_
        refine XS.aloadN Xl.here hexec rfl (hb hbytes d10) rfl rfl ?_
        refine XS.iloadN Xl.here hexec rfl (hb hbytes d11) rfl ?_
        exact Steps.refl _)
      have c4 : Steps p.tables e below (s₁.setTop (entryFrame m #[.ref b, .int (Int32.ofNat o), .ref d, .int (Int32.ofNat q), .int (Int32.ofNat len)] 7)) (Tl.setTop (mkF m 13 #[.val (.ref b), .val (.int (Int32.ofNat (o + i))), .val (.ref d), .val (.int (Int32.ofNat (q + i))), .val (.int (Int32.ofNat len)), .val (.int (Int32.ofNat i)), z] [.int (cv A (o + i))])) := c3.trans (by
        refine Xl.aget hexec hAl rfl (hA.get (i := o + i) (by omega)) rfl rfl (hb hbytes d12) ?_
        exact Steps.refl _)
      have c5 : Steps p.tables e below (s₁.setTop (entryFrame m #[.ref b, .int (Int32.ofNat o), .ref d, .int (Int32.ofNat q), .int (Int32.ofNat len)] 7)) (Tl.setTop (mkF m 15 #[.val (.ref b), .val (.int (Int32.ofNat (o + i))), .val (.ref d), .val (.int (Int32.ofNat (q + i))), .val (.int (Int32.ofNat len)), .val (.int (Int32.ofNat i)), .val (.int (cv A (o + i)))] [])) := c4.trans (by
        refine XS.istoreS Xl.here hexec rfl (hb hbytes d13) rfl rfl hz ?_
        exact Steps.refl _)
      have c6 : Steps p.tables e below (s₁.setTop (entryFrame m #[.ref b, .int (Int32.ofNat o), .ref d, .int (Int32.ofNat q), .int (Int32.ofNat len)] 7)) (Tl.setTop (mkF m 31 #[.val (.ref b), .val (.int (Int32.ofNat (o + i))), .val (.ref d), .val (.int (Int32.ofNat (q + i))), .val (.int (Int32.ofNat len)), .val (.int (Int32.ofNat i)), .val (.int (cv A (o + i)))] [.int (lo8 (cv A (o + i))), .int (Int32.ofNat (q + i)), .ref d])) := c5.trans (by
        refine XS.iload Xl.here hexec rfl (hb hbytes d15) rfl ?_
        refine sipushV Xl.here hexec rfl 255 (hb hbytes d17) (by decide) ?_
        refine XS.icmpYes Xl.here hexec rfl (pc0 := 20) rfl (hb hbytes d20) rfl (ii_le_t (hp i (by omega))) (by decide) rfl ?_
        refine XS.aloadN Xl.here hexec rfl (hb hbytes d26) rfl rfl ?_
        refine XS.iloadN Xl.here hexec rfl (hb hbytes d27) rfl ?_
        refine XS.iload Xl.here hexec rfl (hb hbytes d28) rfl ?_
        refine i2b Xl.here hexec rfl (hb hbytes d30) rfl ?_
        exact Steps.refl _)
      obtain ⟨T7, X7, p7, st7⟩ := Xl.aput hexec hBk rfl hlt rfl (fits_lo8 (cv A (o + i))) (g := (mkF m 31 #[.val (.ref b), .val (.int (Int32.ofNat (o + i))), .val (.ref d), .val (.int (Int32.ofNat (q + i))), .val (.int (Int32.ofNat len)), .val (.int (Int32.ofNat i)), .val (.int (cv A (o + i)))] [.int (lo8 (cv A (o + i))), .int (Int32.ofNat (q + i)), .ref d])) rfl (rest := []) rfl (hb hbytes d31)
      have c8 : Steps p.tables e below (s₁.setTop (entryFrame m #[.ref b, .int (Int32.ofNat o), .ref d, .int (Int32.ofNat q), .int (Int32.ofNat len)] 7)) (T7.setTop (mkF m 32 #[.val (.ref b), .val (.int (Int32.ofNat (o + i))), .val (.ref d), .val (.int (Int32.ofNat (q + i))), .val (.int (Int32.ofNat len)), .val (.int (Int32.ofNat i)), .val (.int (cv A (o + i)))] [])) := c6.trans (st7 _ (Steps.refl _))
      have c9 : Steps p.tables e below (s₁.setTop (entryFrame m #[.ref b, .int (Int32.ofNat o), .ref d, .int (Int32.ofNat q), .int (Int32.ofNat len)] 7)) (T7.setTop (mkF m 3 #[.val (.ref b), .val (.int (Int32.ofNat (o + i) + 1)), .val (.ref d), .val (.int (Int32.ofNat (q + i) + 1)), .val (.int (Int32.ofNat len)), .val (.int (Int32.ofNat i + 1)), .val (.int (cv A (o + i)))] [])) := c8.trans (by
        refine iincV X7.here hexec rfl 1 (hb hbytes d32) (by decide) rfl rfl ?_
        refine iincV X7.here hexec rfl 1 (hb hbytes d35) (by decide) rfl rfl ?_
        refine iincV X7.here hexec rfl 1 (hb hbytes d38) (by decide) rfl rfl ?_
        refine XS.goto X7.here hexec rfl (pc0 := 41) rfl (hb hbytes d41) (by decide) rfl ?_
        exact Steps.refl _)
      have c10 : Steps p.tables e below (s₁.setTop (entryFrame m #[.ref b, .int (Int32.ofNat o), .ref d, .int (Int32.ofNat q), .int (Int32.ofNat len)] 7)) (T7.setTop (mkF m 3 #[.val (.ref b), .val (.int (Int32.ofNat (o + (i + 1)))), .val (.ref d), .val (.int (Int32.ofNat (q + (i + 1)))), .val (.int (Int32.ofNat len)), .val (.int (Int32.ofNat (i + 1))), .val (.int (cv A (o + i)))] [])) := by
        have := c9
        rw [succ32, succ32, succ32] at this
        exact this
      exact ih (i + 1) (by omega) _ (Or.inr ⟨_, rfl, rfl⟩) T7 _ (by rw [copyLocs_step, ← List.append_assoc]; exact X7) (pl.trans p7) (fl.step (by omega) hlt (by simp)) c10
  obtain ⟨T9, B9, z9, X9, p9, f9, g9⟩ := loop len 0 (by omega) .unset (Or.inl rfl) s₁ B (by simpa [copyLocs] using X0) ⟨hB0.1, fun _ _ => rfl, rfl⟩ (Laid.zero _ _ _) c2
  have c11 : Steps p.tables e below (s₁.setTop (entryFrame m #[.ref b, .int (Int32.ofNat o), .ref d, .int (Int32.ofNat q), .int (Int32.ofNat len)] 7)) (T9.setTop (mkF m 46 #[.val (.ref b), .val (.int (Int32.ofNat (o + len))), .val (.ref d), .val (.int (Int32.ofNat (q + len))), .val (.int (Int32.ofNat len)), .val (.int (Int32.ofNat len)), z9] [.int (Int32.ofNat len)])) := g9.trans (by
    refine XS.iload X9.here hexec rfl (hb hbytes d3) rfl ?_
    refine XS.iload X9.here hexec rfl (hb hbytes d5) rfl ?_
    refine XS.icmpYes X9.here hexec rfl (pc0 := 7) rfl (hb hbytes d7) rfl (ii_ge_t (nlt32 (by omega) (Nat.le_refl _))) (by decide) rfl ?_
    refine XS.iload X9.here hexec rfl (hb hbytes d44) rfl ?_
    exact Steps.refl _)
  exact ⟨T9, some (.int (Int32.ofNat len)), _, _, _, X9, by simp, rfl, rfl, (fun h => by cases h), ⟨rfl, B9, p9.from hh0, f9⟩, fun fs hl => c11.trans (X9.ireturnOut hexec hret rfl (Or.inl rfl) (hb hbytes d46) hl)⟩
end Cmp5
namespace Cmp3
def yN : MethodName := ⟨"java/lang/StringUTF16", "compress", "([CII)[B"⟩
abbrev yB : ByteArray := jdk_52_method_16_code
theorem d0 : decode yB 0 = .ok (.iload_n 2, 1) := by decide +kernel
theorem d1 : decode yB 1 = .ok (.newarray .byte, 2) := by decide +kernel
theorem d3 : decode yB 3 = .ok (.astore_n 3, 1) := by decide +kernel
theorem d4 : decode yB 4 = .ok (.aload_n 0, 1) := by decide +kernel
theorem d5 : decode yB 5 = .ok (.iload_n 1, 1) := by decide +kernel
theorem d6 : decode yB 6 = .ok (.aload_n 3, 1) := by decide +kernel
theorem d7 : decode yB 7 = .ok (.iconst 0, 1) := by decide +kernel
theorem d8 : decode yB 8 = .ok (.iload_n 2, 1) := by decide +kernel
theorem d9 : decode yB 9 = .ok (.invokestatic 115, 3) := by decide +kernel
theorem d12 : decode yB 12 = .ok (.istore 4, 2) := by decide +kernel
theorem d14 : decode yB 14 = .ok (.iload 4, 2) := by decide +kernel
theorem d16 : decode yB 16 = .ok (.iload_n 2, 1) := by decide +kernel
theorem d17 : decode yB 17 = .ok (.if_icmp (.eq) 40, 3) := by decide +kernel
theorem d57 : decode yB 57 = .ok (.aload_n 3, 1) := by decide +kernel
theorem d58 : decode yB 58 = .ok (.areturn, 1) := by decide +kernel
def site : List Cond := [.arrayClass .byte, Cmp5.tab] ++ staticW U16 115 Cmp5.yN
def tab : Cond := tabOf yN yB 6 (some (.array .byte)) site
def P (b : Addr) (A : Cell) (o len : Nat) (args : Array Value) (s : State) : Prop := args = #[.ref b, .int (Int32.ofNat o), .int (Int32.ofNat len)] ∧ Ch b A s ∧ o + len ≤ A.slots.size ∧ len ≤ 536870912 ∧ ∀ i, i < len → ¬ 255 < cv A (o + i)
def E (b : Addr) (A : Cell) (o len : Nat) (r : Option Value) (s u : State) : Prop := NewArr .byte "[B" len (fun j => .int (lo8 (cv A (o + j)))) r s u ∧ u.heap.size = s.heap.size + 1
/-- no char of the range above 255: a new byte[] of their low bytes -/
theorem law (l : Launch) (b : Addr) (A : Cell) (o len : Nat) : Law l yN 3 3 1 18 yB 6 (some (.array .byte)) site (P b A o len) (E b A o len) [] 1 len := by
  refine Law.of_walk (plainFor_of_name (by decide +kernel)) (by decide +kernel) (by decide +kernel) (by decide) (fun _ _ h => by rw [h.1]; rfl) (fun _ U U' hal hh h => ⟨h.1, h.2.1.mv hal hh, h.2.2⟩) (fun r U U' V V' h1 hal h2 h => ⟨NewArr.mv r U U' V V' h1 hal h2 h.1, by rw [h1, h2]; exact h.2⟩) ?_
  intro p e s m args below meth c s₁ X0 hexec hbytes hml hret hlk hnm hown hh0 W hP
  obtain ⟨rfl, hA, l1, l2, hp⟩ := hP
  have a31 := hA.1.2.2.2
  have c1 : Steps p.tables e below (s₁.setTop (entryFrame m #[.ref b, .int (Int32.ofNat o), .int (Int32.ofNat len)] 6)) (s₁.setTop (mkF m 0 #[.val (.ref b), .val (.int (Int32.ofNat o)), .val (.int (Int32.ofNat len)), .unset, .unset, .unset] [])) := entry rfl
  have c2 : Steps p.tables e below (s₁.setTop (entryFrame m #[.ref b, .int (Int32.ofNat o), .int (Int32.ofNat len)] 6)) (s₁.setTop (mkF m 1 #[.val (.ref b), .val (.int (Int32.ofNat o)), .val (.int (Int32.ofNat len)), .unset, .unset, .unset] [.int (Int32.ofNat len)])) := c1.trans (by
    refine XS.iloadN X0.here hexec rfl (hb hbytes d0) rfl ?_
    exact Steps.refl _)
  obtain ⟨T3, B3, X3, ba3, bs3, bv3, bh3, bf3, st3⟩ := X0.anew hexec (atype := .byte) (wk W (.arrayClass .byte)) rfl (by show len * 1 ≤ _; omega) (by omega) (g := (mkF m 1 #[.val (.ref b), .val (.int (Int32.ofNat o)), .val (.int (Int32.ofNat len)), .unset, .unset, .unset] [.int (Int32.ofNat len)])) rfl (hb hbytes d1) (rest := []) rfl (Nat.le_refl _) (by show 0 + len ≤ len; omega)
  rw [hh0] at ba3 st3
  have kp3 : XT.Kept s T3 := (XT.Kept.of_eq hh0).push bh3
  have hA3 := hA.keep X3.warmed.alike (kp3 _ _ hA.1.1)
  have hne : b ≠ s.heap.size := hA.1.ne
  have c4 : Steps p.tables e below (s₁.setTop (entryFrame m #[.ref b, .int (Int32.ofNat o), .int (Int32.ofNat len)] 6)) (T3.setTop (mkF m 3 #[.val (.ref b), .val (.int (Int32.ofNat o)), .val (.int (Int32.ofNat len)), .unset, .unset, .unset] [.ref s.heap.size])) := c2.trans (st3 _ (Steps.refl _))
  have c5 : Steps p.tables e below (s₁.setTop (entryFrame m #[.ref b, .int (Int32.ofNat o), .int (Int32.ofNat len)] 6)) (T3.setTop (mkF m 9 #[.val (.ref b), .val (.int (Int32.ofNat o)), .val (.int (Int32.ofNat len)), .val (.ref s.heap.size), .unset, .unset] [.int (Int32.ofNat len), .int 0, .ref s.heap.size, .int (Int32.ofNat o), .ref b])) := c4.trans (by
    refine XS.astoreN X3.here hexec rfl (hb hbytes d3) rfl rfl rfl ?_
    refine XS.aloadN X3.here hexec rfl (hb hbytes d4) rfl rfl ?_
    refine XS.iloadN X3.here hexec rfl (hb hbytes d5) rfl ?_
    refine XS.aloadN X3.here hexec rfl (hb hbytes d6) rfl rfl ?_
    refine iconstV X3.here hexec rfl 0 (hb hbytes d7) (by decide) ?_
    refine XS.iloadN X3.here hexec rfl (hb hbytes d8) rfl ?_
    exact Steps.refl _)
  obtain ⟨v6, T6, X6, E6, g6⟩ := X3.callS hexec (Cmp5.law l b A s.heap.size B3 o 0 len) hown (wks W (staticW U16 115 Cmp5.yN)) (wk W Cmp5.tab) (W := 0) (Nat.le_of_ble_eq_true rfl) (Nat.le_of_ble_eq_true rfl) (Nat.le_refl _) (by show 0 + len + 0 ≤ len; omega) (g := (mkF m 9 #[.val (.ref b), .val (.int (Int32.ofNat o)), .val (.int (Int32.ofNat len)), .val (.ref s.heap.size), .unset, .unset] [.int (Int32.ofNat len), .int (Int32.ofNat 0), .ref s.heap.size, .int (Int32.ofNat o), .ref b])) rfl (by rw [hml]; rfl) c5 (argsL := [.ref b, .int (Int32.ofNat o), .ref s.heap.size, .int (Int32.ofNat 0), .int (Int32.ofNat len)]) (rest := []) rfl rfl (by show 2 * 0 + 0 ≤ _; decide) (hb hbytes d9) (⟨rfl, hA3, ba3, hne, l1, by rw [bs3]; simp, hp⟩)
  obtain ⟨rfl, B6, p6, f6⟩ := E6
  have c7 : Steps p.tables e below (s₁.setTop (entryFrame m #[.ref b, .int (Int32.ofNat o), .int (Int32.ofNat len)] 6)) (T6.setTop (mkF m 12 #[.val (.ref b), .val (.int (Int32.ofNat o)), .val (.int (Int32.ofNat len)), .val (.ref s.heap.size), .unset, .unset] [.int (Int32.ofNat len)])) := g6
  have c8 : Steps p.tables e below (s₁.setTop (entryFrame m #[.ref b, .int (Int32.ofNat o), .int (Int32.ofNat len)] 6)) (T6.setTop (mkF m 58 #[.val (.ref b), .val (.int (Int32.ofNat o)), .val (.int (Int32.ofNat len)), .val (.ref s.heap.size), .val (.int (Int32.ofNat len)), .unset] [.ref s.heap.size])) := c7.trans (by
    refine XS.istore X6.here hexec rfl (hb hbytes d12) rfl rfl ?_
    refine XS.iload X6.here hexec rfl (hb hbytes d14) rfl ?_
    refine XS.iloadN X6.here hexec rfl (hb hbytes d16) rfl ?_
    refine XS.icmpYes X6.here hexec rfl (pc0 := 17) rfl (hb hbytes d17) rfl (ii_eq_t rfl) (by decide) rfl ?_
    refine XS.aloadN X6.here hexec rfl (hb hbytes d57) rfl rfl ?_
    exact Steps.refl _)
  have X8 := X6.wide (L' := []) (cells' := 1) (slots' := len) (fun x hx hlt => by
    simp only [List.nil_append, copyLocs, List.mem_map, List.mem_range] at hx
    obtain ⟨i, -, rfl⟩ := hx
    exact absurd hlt (Nat.lt_irrefl _)) (Nat.le_refl _) (by omega)
  exact ⟨T6, some (.ref s.heap.size), _, _, _, X8, rfl, rfl, rfl, (fun h => by cases h), ⟨⟨rfl, B6, ba3.like (X3.warmed.alike.symm.trans X6.warmed.alike) p6.1 f6.1 f6.2.1 f6.2.2.1, f6.2.1.trans bv3, by rw [X6.warmed.alike.findClass, f6.1]; exact bf3, by rw [f6.2.2.1, bs3]; simp, fun j hj => by rw [f6.2.2.2 j, if_pos (by omega)]; rfl, kp3.put p6 (Nat.le_refl _)⟩, by rw [p6.2.2, bh3, hh0]; simp⟩, fun fs hl => c8.trans (X8.areturnOut hexec rfl hret rfl (hb hbytes d58) hl)⟩
end Cmp3
namespace CodL
def yN : MethodName := ⟨"java/lang/StringUTF16", "coderFromArrayLen", "([BI)B"⟩
abbrev yB : ByteArray := jdk_52_method_15_code
theorem d0 : decode yB 0 = .ok (.iload_n 1, 1) := by decide +kernel
theorem d1 : decode yB 1 = .ok (.aload_n 0, 1) := by decide +kernel
theorem d2 : decode yB 2 = .ok (.arraylength, 1) := by decide +kernel
theorem d3 : decode yB 3 = .ok (.isub, 1) := by decide +kernel
theorem d4 : decode yB 4 = .ok (.bipush 31, 2) := by decide +kernel
theorem d6 : decode yB 6 = .ok (.iushr, 1) := by decide +kernel
theorem d7 : decode yB 7 = .ok (.i2b, 1) := by decide +kernel
theorem d8 : decode yB 8 = .ok (.ireturn, 1) := by decide +kernel
def site : List Cond := []
def tab : Cond := tabOf yN yB 2 (some .byte) site
def P (d : Addr) (B : Cell) (args : Array Value) (s : State) : Prop := args = #[.ref d, .int (Int32.ofNat B.slots.size)] ∧ Arr .byte d B s
def E (r : Option Value) (s u : State) : Prop := XT.PureE (some (.int 0)) r s u
/-- an array as long as the number of chars: LATIN1 -/
theorem law (l : Launch) (d : Addr) (B : Cell) : Law l yN 2 2 0 0 yB 2 (some .byte) site (P d B) E [] 0 0 := by
  refine Law.of_walk (plainFor_of_name (by decide +kernel)) (by decide +kernel) (by decide +kernel) (by decide) (fun _ _ h => by rw [h.1]; rfl) (fun _ U U' hal hh h => ⟨h.1, h.2.mv hal hh⟩) (fun r U U' V V' h1 hal h2 h => XT.PureE.mv r U U' V V' h1 hal h2 h) ?_
  intro p e s m args below meth c s₁ X0 hexec hbytes hml hret hlk hnm hown hh0 W hP
  obtain ⟨rfl, hB⟩ := hP
  have hB0 := hB.mv X0.warmed.alike hh0
  have c1 : Steps p.tables e below (s₁.setTop (entryFrame m #[.ref d, .int (Int32.ofNat B.slots.size)] 2)) (s₁.setTop (mkF m 0 #[.val (.ref d), .val (.int (Int32.ofNat B.slots.size))] [])) := entry rfl
  have c2 : Steps p.tables e below (s₁.setTop (entryFrame m #[.ref d, .int (Int32.ofNat B.slots.size)] 2)) (s₁.setTop (mkF m 2 #[.val (.ref d), .val (.int (Int32.ofNat B.slots.size))] [.ref d, .int (Int32.ofNat B.slots.size)])) := c1.trans (by
    refine XS.iloadN X0.here hexec rfl (hb hbytes d0) rfl ?_
    refine XS.aloadN X0.here hexec rfl (hb hbytes d1) rfl rfl ?_
    exact Steps.refl _)
  have c3 : Steps p.tables e below (s₁.setTop (entryFrame m #[.ref d, .int (Int32.ofNat B.slots.size)] 2)) (s₁.setTop (mkF m 8 #[.val (.ref d), .val (.int (Int32.ofNat B.slots.size))] [.int (lo8 (ushr (Int32.ofNat B.slots.size - Int32.ofNat B.slots.size) 31))])) := c2.trans (by
    refine X0.alen hexec hB0 rfl rfl (hb hbytes d2) ?_
    refine XS.isub X0.here hexec rfl (hb hbytes d3) rfl ?_
    refine bipushV X0.here hexec rfl 31 (hb hbytes d4) (by decide) ?_
    refine iushr X0.here hexec rfl (hb hbytes d6) rfl ?_
    refine i2b X0.here hexec rfl (hb hbytes d7) rfl ?_
    exact Steps.refl _)
  have e0 : lo8 (ushr (Int32.ofNat B.slots.size - Int32.ofNat B.slots.size) 31) = 0 := by rw [Int32.sub_self]; decide
  rw [e0] at c3
  exact ⟨s₁, some (.int 0), _, _, _, X0, rfl, rfl, rfl, (fun h => by cases h), ⟨rfl, hh0⟩, fun fs hl => c3.trans (X0.ireturnOut hexec hret rfl (Or.inr (Or.inr (Or.inl rfl))) (hb hbytes d8) hl)⟩
end CodL
/-- the String at a is Latin-1 over a new byte[] (the heap's one new cell): the low bytes of the len chars of A from o on; every cell but a is kept -/
def Got (a : Addr) (D : Cell) (fV fC : Field) (A : Cell) (o len : Nat) (r : Option Value) (s u : State) : Prop := r = none ∧ ∃ D' V : Cell, Blank "java/lang/String" a D' u ∧ Same D D' [fV.slot, fC.slot] ∧ D'.slots[fV.slot]? = some (.ref s.heap.size) ∧ D'.slots[fC.slot]? = some (.int 0) ∧ Arr .byte s.heap.size V u ∧ V.vm = .none ∧ u.vm.findClass "[B" = some V.cls ∧ V.slots.size = len ∧ (∀ j, j < len → V.slots[j]? = some (.int (lo8 (cv A (o + j))))) ∧ (∀ (y : Addr) (c : Cell), y ≠ a → s.heap[y]? = some c → u.heap[y]? = some c) ∧ u.heap.size = s.heap.size + 1
theorem Got.mv {a : Addr} {D A : Cell} {fV fC : Field} {o len : Nat} : ∀ r (U U' V V' : State), U'.heap = U.heap → V.vm.Alike V'.vm → V'.heap = V.heap → Got a D fV fC A o len r U V → Got a D fV fC A o len r U' V' :=
  fun r U U' V V' h1 hal h2 ⟨e0, D', X, a1, a2, a3, a4, a5, a6, a7, a8, a9, a10, a11⟩ => ⟨e0, D', X, a1.mv hal h2, a2, by rw [h1]; exact a3, a4, by rw [h1]; exact a5.mv hal h2, a6, by rw [hal.findClass]; exact a7, a8, a9, by rw [h1, h2]; exact a10, by rw [h1, h2]; exact a11⟩
namespace New4
def yN : MethodName := ⟨"java/lang/String", "<init>", "([CIILjava/lang/Void;)V"⟩
abbrev yB : ByteArray := jdk_42_method_149_code
theorem d0 : decode yB 0 = .ok (.aload_n 0, 1) := by decide +kernel
theorem d1 : decode yB 1 = .ok (.invokespecial 1, 3) := by decide +kernel
theorem d4 : decode yB 4 = .ok (.iload_n 3, 1) := by decide +kernel
theorem d5 : decode yB 5 = .ok (.ifCond (.ne) 22, 3) := by decide +kernel
theorem d27 : decode yB 27 = .ok (.getstatic 38, 3) := by decide +kernel
theorem d30 : decode yB 30 = .ok (.ifCond (.eq) 28, 3) := by decide +kernel
theorem d33 : decode yB 33 = .ok (.aload_n 1, 1) := by decide +kernel
theorem d34 : decode yB 34 = .ok (.iload_n 2, 1) := by decide +kernel
theorem d35 : decode yB 35 = .ok (.iload_n 3, 1) := by decide +kernel
theorem d36 : decode yB 36 = .ok (.invokestatic 177, 3) := by decide +kernel
theorem d39 : decode yB 39 = .ok (.astore 5, 2) := by decide +kernel
theorem d41 : decode yB 41 = .ok (.aload_n 0, 1) := by decide +kernel
theorem d42 : decode yB 42 = .ok (.aload 5, 2) := by decide +kernel
theorem d44 : decode yB 44 = .ok (.iload_n 3, 1) := by decide +kernel
theorem d45 : decode yB 45 = .ok (.invokestatic 47, 3) := by decide +kernel
theorem d48 : decode yB 48 = .ok (.putfield 15, 3) := by decide +kernel
theorem d51 : decode yB 51 = .ok (.aload_n 0, 1) := by decide +kernel
theorem d52 : decode yB 52 = .ok (.aload 5, 2) := by decide +kernel
theorem d54 : decode yB 54 = .ok (.putfield 9, 3) := by decide +kernel
theorem d57 : decode yB 57 = .ok (.return_, 1) := by decide +kernel
def site : List Cond := [.fieldLink "java/lang/String" 38 "java/lang/String" "COMPACT_STRINGS" "Z", Cmp3.tab, CodL.tab, .laysFinal "java/lang/String" "java/lang/String" "value" "[B", .fieldLink "java/lang/String" 9 "java/lang/String" "value" "[B", .laysFinal "java/lang/String" "java/lang/String" "coder" "B", .fieldLink "java/lang/String" 15 "java/lang/String" "coder" "B"] ++ objW "java/lang/String" 1 ++ staticW "java/lang/String" 177 Cmp3.yN ++ staticW "java/lang/String" 47 CodL.yN
def tab : Cond := tabOf yN yB 6 none site
def P (a : Addr) (D : Cell) (fV fC : Field) (b : Addr) (A : Cell) (z : Int32) (o len : Nat) (args : Array Value) (s : State) : Prop := args = #[.ref a, .ref b, .int (Int32.ofNat o), .int (Int32.ofNat len), .null] ∧ Blank "java/lang/String" a D s ∧ Found "java/lang/String" "value" "[B" fV s ∧ Found "java/lang/String" "coder" "B" fC s ∧ Ch b A s ∧ StaticIs s "java/lang/String" "COMPACT_STRINGS" "Z" (.int z) ∧ ¬ z = 0 ∧ 0 < len ∧ o + len ≤ A.slots.size ∧ len ≤ 536870912 ∧ ∀ i, i < len → ¬ 255 < cv A (o + i)
def E (a : Addr) (D : Cell) (fV fC : Field) (A : Cell) (o len : Nat) (r : Option Value) (s u : State) : Prop := Got a D fV fC A o len r s u
/-- len > 0, no char of the range above 255: a Latin-1 String of their low bytes -/
theorem law (l : Launch) (a : Addr) (D : Cell) (fV fC : Field) (b : Addr) (A : Cell) (z : Int32) (o len : Nat) : Law l yN 5 4 2 35 yB 6 none site (P a D fV fC b A z o len) (E a D fV fC A o len) [⟨a, fC.slot⟩, ⟨a, fV.slot⟩] 1 len := by
  refine Law.of_walk (plainFor_of_name (by decide +kernel)) (by decide +kernel) (by decide +kernel) (by decide) (fun _ _ h => by rw [h.1]; rfl) (fun _ U U' hal hh h => ⟨h.1, h.2.1.mv hal hh, h.2.2.1.al hal, h.2.2.2.1.al hal, h.2.2.2.2.1.mv hal hh, h.2.2.2.2.2.1.there hal hh, h.2.2.2.2.2.2⟩) (fun r U U' V V' h1 hal h2 h => Got.mv r U U' V V' h1 hal h2 h) ?_
  intro p e s m args below meth c s₁ X0 hexec hbytes hml hret hlk hnm hown hh0 W hP
  obtain ⟨rfl, hB, f1, f2, hA, s1, hz, l0, l1, l2, hp⟩ := hP
  have a31 := hA.1.2.2.2
  have c1 : Steps p.tables e below (s₁.setTop (entryFrame m #[.ref a, .ref b, .int (Int32.ofNat o), .int (Int32.ofNat len), .null] 6)) (s₁.setTop (mkF m 0 #[.val (.ref a), .val (.ref b), .val (.int (Int32.ofNat o)), .val (.int (Int32.ofNat len)), .val .null, .unset] [])) := entry rfl
  have c2 : Steps p.tables e below (s₁.setTop (entryFrame m #[.ref a, .ref b, .int (Int32.ofNat o), .int (Int32.ofNat len), .null] 6)) (s₁.setTop (mkF m 1 #[.val (.ref a), .val (.ref b), .val (.int (Int32.ofNat o)), .val (.int (Int32.ofNat len)), .val .null, .unset] [.ref a])) := c1.trans (by
    refine XS.aloadN X0.here hexec rfl (hb hbytes d0) rfl rfl ?_
    exact Steps.refl _)
  obtain ⟨T3, X3, q3, st3⟩ := X0.oinit hexec hown (wks W (objW "java/lang/String" 1)) (g := (mkF m 1 #[.val (.ref a), .val (.ref b), .val (.int (Int32.ofNat o)), .val (.int (Int32.ofNat len)), .val .null, .unset] [.ref a])) rfl (by rw [hml]; rfl) (rest := []) rfl (hb hbytes d1) (W := 0) (by show 2 * 0 + 0 ≤ _; decide) (Nat.le_of_ble_eq_true rfl) (Nat.le_of_ble_eq_true rfl)
  have hh3 := q3.trans hh0
  have c4 : Steps p.tables e below (s₁.setTop (entryFrame m #[.ref a, .ref b, .int (Int32.ofNat o), .int (Int32.ofNat len), .null] 6)) (T3.setTop (mkF m 27 #[.val (.ref a), .val (.ref b), .val (.int (Int32.ofNat o)), .val (.int (Int32.ofNat len)), .val .null, .unset] [])) := (c2.trans (st3 _ (Steps.refl _))).trans (by
    refine XS.iloadN X3.here hexec rfl (hb hbytes d4) rfl ?_
    refine XS.ifYes X3.here hexec rfl (pc0 := 5) rfl (hb hbytes d5) rfl (i0_ne_t (nz32 (by omega) l0)) (by decide) rfl ?_
    exact Steps.refl _)
  obtain ⟨T5, X5, q5, st5⟩ := X3.sget hexec hown (wk W (.fieldLink "java/lang/String" 38 "java/lang/String" "COMPACT_STRINGS" "Z")) s1 (fun _ _ h => by rw [hh3]; exact h) (g := (mkF m 27 #[.val (.ref a), .val (.ref b), .val (.int (Int32.ofNat o)), .val (.int (Int32.ofNat len)), .val .null, .unset] [])) rfl (hb hbytes d27)
  have hh5 := q5.trans hh3
  have c6 : Steps p.tables e below (s₁.setTop (entryFrame m #[.ref a, .ref b, .int (Int32.ofNat o), .int (Int32.ofNat len), .null] 6)) (T5.setTop (mkF m 30 #[.val (.ref a), .val (.ref b), .val (.int (Int32.ofNat o)), .val (.int (Int32.ofNat len)), .val .null, .unset] [.int z])) := c4.trans (st5 _ (Steps.refl _))
  have c7 : Steps p.tables e below (s₁.setTop (entryFrame m #[.ref a, .ref b, .int (Int32.ofNat o), .int (Int32.ofNat len), .null] 6)) (T5.setTop (mkF m 36 #[.val (.ref a), .val (.ref b), .val (.int (Int32.ofNat o)), .val (.int (Int32.ofNat len)), .val .null, .unset] [.int (Int32.ofNat len), .int (Int32.ofNat o), .ref b])) := c6.trans (by
    refine XS.ifNo X5.here hexec rfl (hb hbytes d30) rfl (i0_eq_f hz) ?_
    refine XS.aloadN X5.here hexec rfl (hb hbytes d33) rfl rfl ?_
    refine XS.iloadN X5.here hexec rfl (hb hbytes d34) rfl ?_
    refine XS.iloadN X5.here hexec rfl (hb hbytes d35) rfl ?_
    exact Steps.refl _)
  obtain ⟨v8, T8, X8, E8, g8⟩ := X5.callS hexec (Cmp3.law l b A o len) hown (wks W (staticW "java/lang/String" 177 Cmp3.yN)) (wk W Cmp3.tab) (W := 0) (Nat.le_of_ble_eq_true rfl) (Nat.le_of_ble_eq_true rfl) (Nat.le_refl _) (by show 0 + len ≤ len; omega) (g := (mkF m 36 #[.val (.ref a), .val (.ref b), .val (.int (Int32.ofNat o)), .val (.int (Int32.ofNat len)), .val .null, .unset] [.int (Int32.ofNat len), .int (Int32.ofNat o), .ref b])) rfl (by rw [hml]; rfl) c7 (argsL := [.ref b, .int (Int32.ofNat o), .int (Int32.ofNat len)]) (rest := []) rfl rfl (by show 2 * 0 + 0 ≤ _; decide) (hb hbytes d36) (⟨rfl, hA.mv X5.warmed.alike hh5, l1, l2, hp⟩)
  obtain ⟨e8, z8⟩ := E8
  obtain ⟨rfl, N, n1, n2, n3, n4, n5, n6⟩ := NewArr.mv _ T5 s _ _ hh5.symm (Vm.Alike.refl _) rfl e8
  rw [hh5] at z8
  have hB1 := hB.keep X8.warmed.alike (n6 _ _ hB.1)
  have hne : s.heap.size ≠ a := (Nat.ne_of_lt (Array.getElem?_eq_some_iff.mp hB.1).1).symm
  have c9 : Steps p.tables e below (s₁.setTop (entryFrame m #[.ref a, .ref b, .int (Int32.ofNat o), .int (Int32.ofNat len), .null] 6)) (T8.setTop (mkF m 39 #[.val (.ref a), .val (.ref b), .val (.int (Int32.ofNat o)), .val (.int (Int32.ofNat len)), .val .null, .unset] [.ref s.heap.size])) := g8
  have c10 : Steps p.tables e below (s₁.setTop (entryFrame m #[.ref a, .ref b, .int (Int32.ofNat o), .int (Int32.ofNat len), .null] 6)) (T8.setTop (mkF m 45 #[.val (.ref a), .val (.ref b), .val (.int (Int32.ofNat o)), .val (.int (Int32.ofNat len)), .val .null, .val (.ref s.heap.size)] [.int (Int32.ofNat N.slots.size), .ref s.heap.size, .ref a])) := by
    have hc : Steps p.tables e below (s₁.setTop (entryFrame m #[.ref a, .ref b, .int (Int32.ofNat o), .int (Int32.ofNat len), .null] 6)) (T8.setTop (mkF m 45 #[.val (.ref a), .val (.ref b), .val (.int (Int32.ofNat o)), .val (.int (Int32.ofNat len)), .val .null, .val (.ref s.heap.size)] [.int (Int32.ofNat len), .ref s.heap.size, .ref a])) := c9.trans (by
      refine XS.astore X8.here hexec rfl (hb hbytes d39) rfl rfl rfl ?_
      refine XS.aloadN X8.here hexec rfl (hb hbytes d41) rfl rfl ?_
      refine XS.aload X8.here hexec rfl (hb hbytes d42) rfl rfl ?_
      refine XS.iloadN X8.here hexec rfl (hb hbytes d44) rfl ?_
      exact Steps.refl _)
    rw [n4]; exact hc
  obtain ⟨v11, T11, X11, E11, g11⟩ := X8.callS hexec (CodL.law l s.heap.size N) hown (wks W (staticW "java/lang/String" 47 CodL.yN)) (wk W CodL.tab) (W := 1) (Nat.le_of_ble_eq_true rfl) (Nat.le_of_ble_eq_true rfl) (Nat.le_refl _) (by show 0 + len + 0 ≤ len; omega) (g := (mkF m 45 #[.val (.ref a), .val (.ref b), .val (.int (Int32.ofNat o)), .val (.int (Int32.ofNat len)), .val .null, .val (.ref s.heap.size)] [.int (Int32.ofNat N.slots.size), .ref s.heap.size, .ref a])) rfl (by rw [hml]; rfl) c10 (argsL := [.ref s.heap.size, .int (Int32.ofNat N.slots.size)]) (rest := [.ref a]) rfl rfl (by show 2 * 0 + (1 + 0) ≤ _; decide) (hb hbytes d45) (⟨rfl, n1⟩)
  obtain ⟨rfl, q11⟩ := E11
  have hB11 := hB1.mv (X8.warmed.alike.symm.trans X11.warmed.alike) q11
  have c12 : Steps p.tables e below (s₁.setTop (entryFrame m #[.ref a, .ref b, .int (Int32.ofNat o), .int (Int32.ofNat len), .null] 6)) (T11.setTop (mkF m 48 #[.val (.ref a), .val (.ref b), .val (.int (Int32.ofNat o)), .val (.int (Int32.ofNat len)), .val .null, .val (.ref s.heap.size)] [.int 0, .ref a])) := g11
  obtain ⟨T13, X13, p13, bl13, sl13, st13⟩ := X11.finit hexec hown (wk W (.fieldLink "java/lang/String" 15 "java/lang/String" "coder" "B")) (Or.inr ⟨_, (wk W (.laysFinal "java/lang/String" "java/lang/String" "coder" "B"))⟩) (Or.inl ⟨rfl, hnm⟩) f2 (Or.inl rfl) hB11 (t := .byte) (by decide +kernel) rfl (g := (mkF m 48 #[.val (.ref a), .val (.ref b), .val (.int (Int32.ofNat o)), .val (.int (Int32.ofNat len)), .val .null, .val (.ref s.heap.size)] [.int 0, .ref a])) rfl (rest := []) rfl (hb hbytes d48)
  have c14 : Steps p.tables e below (s₁.setTop (entryFrame m #[.ref a, .ref b, .int (Int32.ofNat o), .int (Int32.ofNat len), .null] 6)) (T13.setTop (mkF m 54 #[.val (.ref a), .val (.ref b), .val (.int (Int32.ofNat o)), .val (.int (Int32.ofNat len)), .val .null, .val (.ref s.heap.size)] [.ref s.heap.size, .ref a])) := (c12.trans (st13 _ (Steps.refl _))).trans (by
    refine XS.aloadN X13.here hexec rfl (hb hbytes d51) rfl rfl ?_
    refine XS.aload X13.here hexec rfl (hb hbytes d52) rfl rfl ?_
    exact Steps.refl _)
  obtain ⟨T15, X15, p15, bl15, sl15, st15⟩ := X13.finit hexec hown (wk W (.fieldLink "java/lang/String" 9 "java/lang/String" "value" "[B")) (Or.inr ⟨_, (wk W (.laysFinal "java/lang/String" "java/lang/String" "value" "[B"))⟩) (Or.inl ⟨rfl, hnm⟩) f1 (Or.inl rfl) bl13 (t := (.array .byte)) (by decide +kernel) rfl (g := (mkF m 54 #[.val (.ref a), .val (.ref b), .val (.int (Int32.ofNat o)), .val (.int (Int32.ofNat len)), .val .null, .val (.ref s.heap.size)] [.ref s.heap.size, .ref a])) rfl (rest := []) rfl (hb hbytes d54)
  have c16 : Steps p.tables e below (s₁.setTop (entryFrame m #[.ref a, .ref b, .int (Int32.ofNat o), .int (Int32.ofNat len), .null] 6)) (T15.setTop (mkF m 57 #[.val (.ref a), .val (.ref b), .val (.int (Int32.ofNat o)), .val (.int (Int32.ofNat len)), .val .null, .val (.ref s.heap.size)] [])) := c14.trans (st15 _ (Steps.refl _))
  have ap := apart (Or.inr ⟨_, (wk W (.laysFinal "java/lang/String" "java/lang/String" "value" "[B"))⟩) (Or.inr ⟨_, (wk W (.laysFinal "java/lang/String" "java/lang/String" "coder" "B"))⟩) f1 f2 (t₁ := .array .byte) (t₂ := .byte) (by decide +kernel) (by decide +kernel) (by decide)
  have al := X8.warmed.alike.symm.trans X15.warmed.alike
  have n7 : T11.heap[s.heap.size]? = some N := by rw [q11]; exact n1.1
  exact ⟨T15, none, _, _, _, X15, by simp, rfl, by omega, (fun _ => rfl), ⟨rfl, _, N, bl15, ((Same.refl D _).set _ (by simp)).set _ (by simp), sl15, (Cell.slots_setSlot_ne _ ap).trans sl13, n1.keep al (p15.other hne (p13.other hne n7)), n2, by rw [al.findClass]; exact n3, n4, n5, fun y c h1 h2 => p15.other h1 (p13.other h1 (by rw [q11]; exact n6 y c h2)), by rw [p15.2.2, p13.2.2, q11]; exact z8⟩, fun fs hl => c16.trans (X15.returnOut hexec hret (hb hbytes d57) hl)⟩
end New4
namespace New1
def yN : MethodName := ⟨"java/lang/String", "<init>", "([C)V"⟩
abbrev yB : ByteArray := jdk_42_method_3_code
theorem d0 : decode yB 0 = .ok (.aload_n 0, 1) := by decide +kernel
theorem d1 : decode yB 1 = .ok (.aload_n 1, 1) := by decide +kernel
theorem d2 : decode yB 2 = .ok (.iconst 0, 1) := by decide +kernel
theorem d3 : decode yB 3 = .ok (.aload_n 1, 1) := by decide +kernel
theorem d4 : decode yB 4 = .ok (.arraylength, 1) := by decide +kernel
theorem d5 : decode yB 5 = .ok (.aconst_null, 1) := by decide +kernel
theorem d6 : decode yB 6 = .ok (.invokespecial 27, 3) := by decide +kernel
theorem d9 : decode yB 9 = .ok (.return_, 1) := by decide +kernel
def site : List Cond := [New4.tab] ++ initW "java/lang/String" 27 New4.yN
def tab : Cond := tabOf yN yB 2 none site
def P (a : Addr) (D : Cell) (fV fC : Field) (b : Addr) (A : Cell) (z : Int32) (args : Array Value) (s : State) : Prop := args = #[.ref a, .ref b] ∧ Blank "java/lang/String" a D s ∧ Found "java/lang/String" "value" "[B" fV s ∧ Found "java/lang/String" "coder" "B" fC s ∧ Ch b A s ∧ StaticIs s "java/lang/String" "COMPACT_STRINGS" "Z" (.int z) ∧ ¬ z = 0 ∧ 0 < A.slots.size ∧ A.slots.size ≤ 536870912 ∧ ∀ i, i < A.slots.size → ¬ 255 < cv A i
def E (a : Addr) (D : Cell) (fV fC : Field) (A : Cell) (r : Option Value) (s u : State) : Prop := Got a D fV fC A 0 A.slots.size r s u
/-- new String(chars), not empty, no char above 255: a Latin-1 String of their low bytes -/
theorem law (l : Launch) (a : Addr) (D : Cell) (fV fC : Field) (b : Addr) (A : Cell) (z : Int32) : Law l yN 2 1 3 52 yB 2 none site (P a D fV fC b A z) (E a D fV fC A) [⟨a, fC.slot⟩, ⟨a, fV.slot⟩] 1 A.slots.size := by
  refine Law.of_walk (plainFor_of_name (by decide +kernel)) (by decide +kernel) (by decide +kernel) (by decide) (fun _ _ h => by rw [h.1]; rfl) (fun _ U U' hal hh h => ⟨h.1, h.2.1.mv hal hh, h.2.2.1.al hal, h.2.2.2.1.al hal, h.2.2.2.2.1.mv hal hh, h.2.2.2.2.2.1.there hal hh, h.2.2.2.2.2.2⟩) (fun r U U' V V' h1 hal h2 h => Got.mv r U U' V V' h1 hal h2 h) ?_
  intro p e s m args below meth c s₁ X0 hexec hbytes hml hret hlk hnm hown hh0 W hP
  obtain ⟨rfl, hB, f1, f2, hA, s1, hz, l0, l2, hp⟩ := hP
  have c1 : Steps p.tables e below (s₁.setTop (entryFrame m #[.ref a, .ref b] 2)) (s₁.setTop (mkF m 0 #[.val (.ref a), .val (.ref b)] [])) := entry rfl
  have c2 : Steps p.tables e below (s₁.setTop (entryFrame m #[.ref a, .ref b] 2)) (s₁.setTop (mkF m 6 #[.val (.ref a), .val (.ref b)] [.null, .int (Int32.ofNat A.slots.size), .int 0, .ref b, .ref a])) := c1.trans (by
    refine XS.aloadN X0.here hexec rfl (hb hbytes d0) rfl rfl ?_
    refine XS.aloadN X0.here hexec rfl (hb hbytes d1) rfl rfl ?_
    refine iconstV X0.here hexec rfl 0 (hb hbytes d2) (by decide) ?_
    refine XS.aloadN X0.here hexec rfl (hb hbytes d3) rfl rfl ?_
    refine X0.alen hexec (hA.1.mv X0.warmed.alike hh0) rfl rfl (hb hbytes d4) ?_
    refine XS.aconstNull X0.here hexec rfl (hb hbytes d5) ?_
    exact Steps.refl _)
  obtain ⟨v3, T3, X3, E3, g3⟩ := X0.callN hexec (New4.law l a D fV fC b A z 0 A.slots.size) rfl hown (wks W (initW "java/lang/String" 27 New4.yN)) (W New4.tab (by simp only [site, List.mem_cons, List.mem_append, true_or, or_true])) (W := 0) (Nat.le_of_ble_eq_true rfl) (Nat.le_of_ble_eq_true rfl) (Nat.le_refl _) (by show 0 + A.slots.size ≤ A.slots.size; omega) (g := (mkF m 6 #[.val (.ref a), .val (.ref b)] [.null, .int (Int32.ofNat A.slots.size), .int (Int32.ofNat 0), .ref b, .ref a])) rfl (by rw [hml]; rfl) c2 (argsL := [.ref b, .int (Int32.ofNat 0), .int (Int32.ofNat A.slots.size), .null]) (rest := []) rfl rfl (by show 2 * 0 + 0 ≤ _; decide) (hb hbytes d6) (⟨rfl, hB.mv X0.warmed.alike hh0, f1.al X0.warmed.alike, f2.al X0.warmed.alike, hA.mv X0.warmed.alike hh0, s1.there X0.warmed.alike hh0, hz, l0, by omega, l2, fun i hi => by rw [Nat.zero_add]; exact hp i hi⟩)
  have e0 := Got.mv _ s₁ s _ _ hh0.symm (Vm.Alike.refl _) rfl E3
  obtain rfl := e0.1
  have c4 : Steps p.tables e below (s₁.setTop (entryFrame m #[.ref a, .ref b] 2)) (T3.setTop (mkF m 9 #[.val (.ref a), .val (.ref b)] [])) := g3
  exact ⟨T3, none, _, _, _, X3, by simp, rfl, by omega, (fun _ => rfl), e0, fun fs hl => c4.trans (X3.returnOut hexec hret (hb hbytes d9) hl)⟩
theorem pays {l : Launch} {R : Room} {p : Program} {e : Env} {below : List Frame} {s : State} {sargs : Array Value} {len W : Nat} (a : Addr) (D : Cell) (fV fC : Field) (b : Addr) (A : Cell) (z : Int32) (htab : tab.before sargs s = true) (hfr : 4 ≤ R.frames) (hlo : W + 65 ≤ R.locals) :
    Back l R p e below s sargs yN len W (fun A₁ a₁ => A₁.cells + 1 ≤ R.cells ∧ A₁.slots + A.slots.size ≤ R.slots ∧ P a D fV fC b A z a₁ A₁.U) (fun A₁ _ v₁ B₁ => E a D fV fC A v₁ A₁.U B₁.U ∧ B₁.locs = A₁.locs ++ [⟨a, fC.slot⟩, ⟨a, fV.slot⟩] ∧ B₁.cells = A₁.cells + 1 ∧ B₁.slots = A₁.slots + A.slots.size) :=
  (law l a D fV fC b A z).pays htab hfr (by omega)
end New1
/-- the byte, read back as charAt reads it, is the char -/
theorem lo8_mask {x : Int32} (h0 : ¬ x < 0) (h1 : ¬ 255 < x) : lo8 x &&& 255 = x := by
  have t : ∀ k : Fin 256, lo8 (Int32.ofNat k.val) &&& 255 = Int32.ofNat k.val := by decide +kernel
  rw [Int32.lt_iff_toInt_lt] at h0 h1
  have e0 : (0 : Int32).toInt = 0 := rfl
  have e1 : (255 : Int32).toInt = 255 := rfl
  obtain ⟨k, hk⟩ : ∃ k : Nat, x.toInt = k := ⟨x.toInt.toNat, by omega⟩
  have hx : x = Int32.ofNat k := Int32.toInt_inj.mp (by rw [hk, Int32.toInt_ofNat_small (by omega)])
  rw [hx]
  exact t ⟨k, by omega⟩
end StrChars
namespace StrChars.Road
open Jvm Sem ClassFile Op Lib Jvm.Stand Jvm.Free Jvm.Free.XT
open Jvm.Lib.Cold (StaticIs)
abbrev ST : String := "java/lang/String"
/-- every table word that New1's law asks, flat -/
abbrev words : List Jvm.Cond := [.code New1.yN New1.yB 2 none, .initialized ST, .methodLink ST 27 New4.yN, .instanceMethod New4.yN,
  .code New4.yN New4.yB 6 none, .fieldLink ST 38 ST "COMPACT_STRINGS" "Z", .laysFinal ST ST "value" "[B", .fieldLink ST 9 ST "value" "[B", .laysFinal ST ST "coder" "B", .fieldLink ST 15 ST "coder" "B",
  .methodLink ST 1 Lib.objectInit, .instanceMethod Lib.objectInit, .code Lib.objectInit ⟨#[0xb1]⟩ 1 none, .methodLink ST 177 Cmp3.yN, .static Cmp3.yN, .methodLink ST 47 CodL.yN, .static CodL.yN,
  .code Cmp3.yN Cmp3.yB 6 (some (.array .byte)), .initialized U16, .arrayClass .byte, .methodLink U16 115 Cmp5.yN, .static Cmp5.yN, .code Cmp5.yN Cmp5.yB 7 (some .int), .code CodL.yN CodL.yB 2 (some .byte)]
theorem tab_of {a : Array Value} {s : State} (h : ∀ w ∈ words, w.before a s = true) : New1.tab.before a s = true := by
  have h5 : Cmp5.tab.before a s = true := unparts (wk h (.code Cmp5.yN Cmp5.yB 7 (some .int))) (wks h (.initialized Cmp5.yN.cls :: Cmp5.site))
  have hc : CodL.tab.before a s = true := unparts (wk h (.code CodL.yN CodL.yB 2 (some .byte))) (wks h (.initialized CodL.yN.cls :: CodL.site))
  have q5 : ∀ w ∈ Cmp5.tab :: words, w.before a s = true := fun w hw => (List.mem_cons.mp hw).elim (fun e => e ▸ h5) (h w)
  have h3 : Cmp3.tab.before a s = true := unparts (wk q5 (.code Cmp3.yN Cmp3.yB 6 (some (.array .byte)))) (wks q5 (.initialized Cmp3.yN.cls :: Cmp3.site))
  have q3 : ∀ w ∈ Cmp3.tab :: CodL.tab :: words, w.before a s = true := fun w hw => (List.mem_cons.mp hw).elim (fun e => e ▸ h3) fun hw => (List.mem_cons.mp hw).elim (fun e => e ▸ hc) (h w)
  have h4 : New4.tab.before a s = true := unparts (wk q3 (.code New4.yN New4.yB 6 none)) (wks q3 (.initialized New4.yN.cls :: New4.site))
  have q4 : ∀ w ∈ New4.tab :: words, w.before a s = true := fun w hw => (List.mem_cons.mp hw).elim (fun e => e ▸ h4) (h w)
  exact unparts (wk q4 (.code New1.yN New1.yB 2 none)) (wks q4 (.initialized New1.yN.cls :: New1.site))
/-- the words ride from the start Z to the walk's own state -/
theorem moved {Z s : State} {a0 args : Array Value} (hZ : Z.Warmed39 s.vm) (hw : ∀ d ∈ words, d.before a0 Z = true) : ∀ d ∈ words, d.before args s = true := fun d hd => by
  have q := hw d hd
  have t : ∀ d ∈ words, d = .arrayClass .byte ∨ (d.onTables && d.keepsFace) = true := by decide +kernel
  rcases t d hd with rfl | t
  · exact RoadKit.mvA hZ q
  · exact RoadKit.mv hZ q t
/-- WHAT COMES BACK, over the tables of the start Z: h the heap at the call, h' behind it -/
def Q (Z : State) (x : Addr) (A : Cell) (h : Heap) (v : Option Value) (h' : Heap) (L : List Loc) : Prop := v = none ∧ (∀ y ∈ L, y.base = x) ∧ RoadKit.Keep h h' [x] ∧ h'.size = h.size + 1 ∧ RoadKit.Exa Z h' x ST ∧ RoadKit.Fld Z h' x ST "value" "[B" (.ref h.size) ∧ RoadKit.Fld Z h' x ST "coder" "B" (.int 0) ∧
  (∃ V : Cell, RoadKit.Arr Z h' h.size V .byte ∧ V.vm = .none ∧ Z.vm.findClass "[B" = some V.cls ∧ V.slots.size = A.slots.size ∧ ∀ j, j < A.slots.size → V.slots[j]? = some (.int (lo8 (cv A j)))) ∧
  ∀ (O n d : String) (w : Value), RoadKit.Fld Z h x O n d w → RoadKit.slotOf Z O n d ≠ RoadKit.slotOf Z ST "value" "[B" → RoadKit.slotOf Z O n d ≠ RoadKit.slotOf Z ST "coder" "B" → RoadKit.Fld Z h' x O n d w
/-- **new String(chars) AT A CALL, IN THE ROAD'S FORM**: for specialBack behind newO: x the fresh String, b the char[] with the cell A -/
theorem back {p : Program} {l : Launch} {e : Env} {R : Room} {s : State} {args : Array Value} {below : List Frame} {len W : Nat} {Z : State} {a0 : Array Value} {h : Heap} (hZ : Z.Warmed39 s.vm) (hw : ∀ d ∈ words, d.before a0 Z = true) {kI : Nat} (wi : (Jvm.Cond.instantiable ST kI).before a0 Z = true)
    {x b : Addr} {A : Cell} {z : Int32} {v0 c0 : Value} (E : RoadKit.Exa Z h x ST) (V : RoadKit.Fld Z h x ST "value" "[B" v0) (C : RoadKit.Fld Z h x ST "coder" "B" c0) (K : RoadKit.Arr Z h b A .char) (hty : Typed .char A) (S : RoadKit.Sta Z h ST "COMPACT_STRINGS" "Z" (.int z)) (hz : ¬ z = 0)
    (l0 : 0 < A.slots.size) (l2 : A.slots.size ≤ 536870912) (hp : ∀ i, i < A.slots.size → ¬ 255 < cv A i) (hfr : 4 ≤ R.frames) (hlo : W + 65 ≤ R.locals) :
    Back l R p e below s args New1.yN len W (fun P a => a = #[.ref x, .ref b] ∧ P.U.heap = h ∧ P.cells + 1 ≤ R.cells ∧ P.slots + A.slots.size ≤ R.slots)
      (fun P _ v B => ∃ L, Q Z x A h v B.U.heap L ∧ B.locs = P.locs ++ L ∧ B.cells = P.cells + 1 ∧ B.slots = P.slots + A.slots.size) := by
  intro m meth c P g ig mk a X hg hsize hdg hW hn hp'
  obtain ⟨rfl, rfl, r1, r2⟩ := hp'
  have al : Z.vm.Alike P.U.vm := hZ.alike.trans X.warmed.alike
  obtain ⟨D, cfV, kV, iV, fV, hD, gV, stV, knV, obV, asV, slV⟩ := id V
  obtain ⟨D', cfC, kC, iC, fC, hD', gC, stC, -, -, asC, slC⟩ := id C
  cases hD.symm.trans hD'
  obtain ⟨D2, kD, e1, e2, e3, e4, e5⟩ := id E
  cases hD.symm.trans e1
  obtain ⟨c2, k2, i1, i2, i3, -⟩ := Cond.instantiable_spec wi
  cases e2.symm.trans i1
  cases e3.symm.trans i2
  obtain ⟨kU, u1, u2⟩ := al.2.2 _ _ e3
  have hB : Blank ST x D P.U := ⟨hD, ⟨knV, fun q hq => by rw [hq] at obV; cases obV⟩, by rw [al.findClass]; exact e2, kU, u1, by rw [u2]; exact i3, by rw [u2]; exact e5 i3⟩
  have F1 : Found ST "value" "[B" fV P.U := ⟨SBG.found_only al ⟨cfV, kV, iV, gV⟩, stV⟩
  have F2 : Found ST "coder" "B" fC P.U := ⟨SBG.found_only al ⟨cfC, kC, iC, gC⟩, stC⟩
  have hA : Ch b A P.U := ⟨⟨K.1, State.isArrayOf_alike al K.2.1, K.2.2, by omega⟩, hty⟩
  have hS : StaticIs P.U ST "COMPACT_STRINGS" "Z" (.int z) := by
    obtain ⟨cfS, iS, kS, fS, st, cS, t1, t2, t3, t4, t5, t6, t7⟩ := S
    exact StaticIs.there (s := { Z with heap := P.U.heap }) ⟨cfS, iS, kS, fS, st, cS, t1, t2, t3, t4, t5, (fun q => by rw [q] at t6; cases t6), t7⟩ al rfl
  obtain ⟨v, B, X', ⟨⟨hv, E', V', q1, q2, q3, q4, q5, q6, q7, q8, q9, q10, q11⟩, hl, hc, hs⟩, st⟩ := New1.pays x D fV fC b A z (tab_of (moved hZ hw)) hfr hlo m meth c P g ig mk _ X hg hsize hdg hW hn ⟨r1, r2, rfl, hB, F1, F2, hA, hS, hz, l0, l2, hp⟩
  have al' : Z.vm.Alike B.U.vm := hZ.alike.trans X'.warmed.alike
  have hsz : E'.slots.size = D.slots.size := by
    obtain ⟨-, -, -, kB, w1, w2, w3⟩ := q1
    obtain ⟨kB', y1, y2⟩ := al'.2.2 _ _ e3
    rw [q2.2.1] at w1
    cases w1.symm.trans y1
    rw [w3, e5 i3, y2]
  refine ⟨v, B, X', ⟨_, ⟨hv, ?_, ⟨by omega, fun y cy hy hn' => q10 y cy (by simpa using hn') hy, fun y cy hy => ?_⟩, q11, ⟨E', _, q1.1, by rw [q2.2.1]; exact e2, by rw [q2.2.1]; exact e3, by rw [q2.1]; exact obV, fun _ => by rw [hsz]; exact e5 i3⟩,
    ⟨E', cfV, kV, iV, fV, q1.1, gV, stV, by rw [q2.1]; exact knV, by rw [q2.1]; exact obV, by rw [q2.2.1]; exact asV, q3⟩, ⟨E', cfC, kC, iC, fC, q1.1, gC, stC, by rw [q2.1]; exact knV, by rw [q2.1]; exact obV, by rw [q2.2.1]; exact asC, q4⟩,
    ⟨V', ⟨q5.1, State.isArrayOf_alike al'.symm q5.2.1, q5.2.2.1⟩, q6, by rw [← al'.findClass]; exact q7, q8, fun j hj => by have := q9 j hj; rwa [Nat.zero_add] at this⟩, fun O n d w F n1 n2 => ?_⟩, hl, hc, hs⟩, st⟩
  · intro y hy
    simp only [List.mem_cons, List.not_mem_nil, or_false] at hy
    rcases hy with rfl | rfl <;> rfl
  · by_cases q : y = x
    · subst q
      cases hD.symm.trans hy
      exact ⟨E', q1.1, q2.2.1, q2.1, hsz⟩
    · exact ⟨cy, q10 y cy q hy, rfl, rfl, rfl⟩
  · obtain ⟨D3, cf, k, i, f, g1, g2, g3, g4, g5, g6, g7⟩ := F
    cases hD.symm.trans g1
    simp only [RoadKit.slotOf, g2, gV, gC, Option.map_some, Option.getD_some] at n1 n2
    exact ⟨E', cf, k, i, f, q1.1, g2, g3, by rw [q2.1]; exact g4, by rw [q2.1]; exact g5, by rw [q2.2.1]; exact g6, by rw [q2.2.2 f.slot (by simp [n1, n2])]; exact g7⟩
end StrChars.Road
namespace StrChars.Road
open Jvm Sem ClassFile Op Lib Jvm.Stand Jvm.Free Jvm.Free.XT
/-- WHAT COMES BACK, the byte[] as a list of values -/
def QA (Z : State) (x : Addr) (zn : Int32) (cs : List Int32) (h : Heap) (v : Option Value) (h' : Heap) (L : List Loc) : Prop := v = none ∧ (∀ y ∈ L, y.base = x) ∧ RoadKit.Keep h h' [x] ∧ h'.size = h.size + 1 ∧ RoadKit.Exa Z h' x ST ∧ RoadKit.Fld Z h' x ST "value" "[B" (.ref h.size) ∧ RoadKit.Fld Z h' x ST "coder" "B" (.int 0) ∧
  (∃ kb, Z.vm.findClass "[B" = some kb ∧ RoadKit.Arv Z h' h.size kb .byte zn (cs.map fun c => .int (lo8 c)) (.int 0)) ∧
  ∀ (O n d : String) (w : Value), RoadKit.Fld Z h x O n d w → RoadKit.slotOf Z O n d ≠ RoadKit.slotOf Z ST "value" "[B" → RoadKit.slotOf Z O n d ≠ RoadKit.slotOf Z ST "coder" "B" → RoadKit.Fld Z h' x O n d w
/-- **new String(chars) AT A CALL, THE ARRAYS AS LISTS**: the char[] at b holds cs, not empty, no char above 255 -/
theorem backArv {p : Program} {l : Launch} {e : Env} {R : Room} {s : State} {args : Array Value} {below : List Frame} {len W : Nat} {Z : State} {a0 : Array Value} {h : Heap} (hZ : Z.Warmed39 s.vm) (hw : ∀ d ∈ words, d.before a0 Z = true) {kI : Nat} (wi : (Jvm.Cond.instantiable ST kI).before a0 Z = true)
    {x b : Addr} {k : ClassId} {zn z : Int32} {cs : List Int32} {dv v0 c0 : Value} (E : RoadKit.Exa Z h x ST) (V : RoadKit.Fld Z h x ST "value" "[B" v0) (C : RoadKit.Fld Z h x ST "coder" "B" c0) (K : RoadKit.Arv Z h b k .char zn (cs.map Value.int) dv) (S : RoadKit.Sta Z h ST "COMPACT_STRINGS" "Z" (.int z)) (hz : ¬ z = 0)
    (hlen : zn.toNatClampNeg = cs.length) (h0 : 0 < cs.length) (hbig : cs.length ≤ 536870912) (hall : ∀ c ∈ cs, ¬ 255 < c) (hfr : 4 ≤ R.frames) (hlo : W + 65 ≤ R.locals) :
    Back l R p e below s args New1.yN len W (fun P a => a = #[.ref x, .ref b] ∧ P.U.heap = h ∧ P.cells + 1 ≤ R.cells ∧ P.slots + cs.length ≤ R.slots)
      (fun P _ v B => ∃ L, QA Z x zn cs h v B.U.heap L ∧ B.locs = P.locs ++ L ∧ B.cells = P.cells + 1 ∧ B.slots = P.slots + cs.length) := by
  obtain ⟨A, K1, K2, K3, K4, K5, K6⟩ := K
  have e : A.slots.size = cs.length := K3.trans hlen
  have hat : ∀ (i : Nat) (hi : i < cs.length), A.slots[i]? = some (.int cs[i]) := fun i hi => by rw [K5 i (by omega)]; simp [List.getD_eq_getElem?_getD, hi]
  have hcv : ∀ (i : Nat) (hi : i < cs.length), cv A i = cs[i] := fun i hi => by unfold cv; rw [hat i hi]
  have hty : Typed .char A := fun i v hv => by
    have hi : i < A.slots.size := (Array.getElem?_eq_some_iff.mp hv).1
    have q := K5 i hi
    rw [hv] at q
    rw [Option.some.inj q]
    exact K6 i hi
  refine Back.mono (back hZ hw wi E V C K1 hty S hz (by omega) (by omega) (fun i hi => by rw [hcv i (by omega)]; exact hall _ (List.getElem_mem _)) hfr hlo) (fun P a hp => ⟨hp.1, hp.2.1, hp.2.2.1, by rw [e]; exact hp.2.2.2⟩) (fun P a v B hp hq => ?_)
  obtain ⟨L, ⟨q1, q2, q3, q4, q5, q6, q7, ⟨V', v1, v2, v3, v4, v5⟩, q9⟩, hl, hc, hs⟩ := hq
  refine ⟨L, ⟨q1, q2, q3, q4, q5, q6, q7, ⟨V'.cls, v3, V', v1, rfl, by rw [v4, e, hlen], K4, fun i hi => ?_, fun i hi => ?_⟩, q9⟩, hl, hc, by rw [hs, e]⟩
  · have hi' : i < cs.length := by omega
    rw [v5 i (by omega), hcv i hi']; simp [List.getD_eq_getElem?_getD, hi']
  · have hi' : i < cs.length := by omega
    simp only [List.getD_eq_getElem?_getD, List.getElem?_map, List.getElem?_eq_getElem hi', Option.map_some, Option.getD_some]
    exact fits_lo8 _
end StrChars.Road
namespace StrChars.Road
open Jvm Sem ClassFile Op Lib Jvm.Stand Jvm.Free Jvm.Free.XT
/-- WHAT COMES BACK, in the writer's own shape -/
def QV (Z : State) (x : Addr) (N : Int32) (bs : List Int32) (h : Heap) (n0 : Nat) (v : Option Value) (h' : Heap) (L : List Loc) : Prop := v = none ∧ RoadKit.Fr n0 L ∧ RoadKit.Keep h h' [x] ∧ RoadKit.Exa Z h' x ST ∧ RoadKit.Fld Z h' x ST "coder" "B" (.int 0) ∧
  ∃ (t : Addr) (kb : ClassId), n0 ≤ t ∧ h.size ≤ t ∧ ¬ t = x ∧ RoadKit.Fld Z h' x ST "value" "[B" (.ref t) ∧ RoadKit.Arv Z h' t kb .byte N (bs.map Value.int) (.int 0)
/-- **new String(chars) AT A CALL, FOR THE WRITER**: a char[] of n known ints, each 0 to 255 -/
theorem backV {p : Program} {l : Launch} {e : Env} {R : Room} {s : State} {args : Array Value} {below : List Frame} {len W : Nat} {Z : State} {a0 : Array Value} {h : Heap} (hZ : Z.Warmed39 s.vm) (hw : ∀ d ∈ words, d.before a0 Z = true) {kI : Nat} (wi : (Jvm.Cond.instantiable ST kI).before a0 Z = true)
    {x b : Addr} {kC : ClassId} {cs bs : List Int32} {d v0 c0 : Value} {z N : Int32} {n n0 : Nat} (hx0 : n0 ≤ x) (hh0 : n0 ≤ h.size) (E : RoadKit.Exa Z h x ST) (V : RoadKit.Fld Z h x ST "value" "[B" v0) (C : RoadKit.Fld Z h x ST "coder" "B" c0) (K : RoadKit.Arv Z h b kC .char N (cs.map Value.int) d) (S : RoadKit.Sta Z h ST "COMPACT_STRINGS" "Z" (.int z)) (hz : ¬ z = 0)
    (hn : cs.length = n) (hN : N = Int32.ofNat n) (l0 : 0 < n) (l2 : n ≤ 4000) (hp : ∀ c ∈ cs, ¬ c < 0 ∧ ¬ (255 : Int32) < c) (hb : bs = cs.map (fun c => c.toInt8.toInt32)) (hfr : 4 ≤ R.frames) (hlo : W + 65 ≤ R.locals) :
    Back l R p e below s args (⟨"java/lang/String", "<init>", "([C)V"⟩ : MethodName) len W (fun P a => a = #[.ref x, .ref b] ∧ P.U.heap = h ∧ P.cells + 1 ≤ R.cells ∧ P.slots + n ≤ R.slots)
      (fun P _ v B => ∃ L, QV Z x N bs h n0 v B.U.heap L ∧ B.locs = P.locs ++ L ∧ B.cells = P.cells + 1 ∧ B.slots = P.slots + n) := by
  subst hn hN hb
  refine Back.mono (backArv hZ hw wi E V C K S hz (n32 (by omega)) l0 (by omega) (fun c hc => (hp c hc).2) hfr hlo) (fun P a hp => hp) (fun P a v B hp hq => ?_)
  obtain ⟨L, ⟨q1, q2, q3, q4, q5, q6, q7, ⟨kb, v1, v2⟩, q9⟩, hl, hc, hs⟩ := hq
  exact ⟨L, ⟨q1, fun y hy => by rw [q2 y hy]; exact hx0, q3, q5, q7, h.size, kb, hh0, Nat.le_refl _, Nat.ne_of_gt E.lt, q6, by rw [List.map_map]; exact v2⟩, hl, hc, hs⟩
end StrChars.Road
namespace StrChars
open Jvm Sem ClassFile Op Lib Jvm.Stand Jvm.Free.XT Jvm.Free.ALB Jvm.Free.JM Jvm.Free
open Jvm.Lib.Cold (StaticIs)
def hi8 (x : Int32) : Int32 := lo8 (x >>> ((8 : Int32) &&& 31))
/-- what StringUTF16.getChar makes of two bytes -/
def pairCh (u v : Int32) : Int32 := (((u &&& 255) <<< ((0 : Int32) &&& 31)) ||| ((v &&& 255) <<< ((8 : Int32) &&& 31))).toUInt32.toUInt16.toUInt32.toInt32
theorem lo8_and (x : Int32) : (lo8 x &&& 255).toBitVec.toNat = x.toBitVec.toNat % 256 := by
  have h : (lo8 x).toBitVec = (x.toBitVec.signExtend 8).signExtend 32 := by rw [lo8, Int8.toBitVec_toInt32, Int32.toBitVec_toInt8]
  rw [Int32.toBitVec_and, BitVec.toNat_and, h]
  have e : ((x.toBitVec.signExtend 8).signExtend 32).toNat % 256 = x.toBitVec.toNat % 256 := by
    rw [BitVec.toNat_signExtend]
    have hlt := x.toBitVec.isLt
    simp only [BitVec.toNat_setWidth, BitVec.toNat_signExtend]
    split <;> split <;> omega
  rw [← e]
  exact Nat.and_two_pow_sub_one_eq_mod _ 8
theorem pair_says {c : Int32} (h0 : ¬ c < 0) (h1 : ¬ 65535 < c) : pairCh (lo8 c) (hi8 c) = c := by
  rw [Int32.lt_iff_toInt_lt] at h0 h1
  have e0 : (0 : Int32).toInt = 0 := rfl
  have e1 : (65535 : Int32).toInt = 65535 := rfl
  have hc : c.toInt = c.toBitVec.toNat := by
    have := c.toBitVec.isLt
    have e : c.toInt = c.toBitVec.toInt := rfl
    rw [e] at h0 h1
    rw [e]
    rw [BitVec.toInt_eq_toNat_cond] at h0 h1 ⊢
    split at h0 <;> split <;> omega
  have hn : c.toBitVec.toNat < 65536 := by omega
  have a1 := lo8_and c
  have a2 : (hi8 c &&& 255).toBitVec.toNat = c.toBitVec.toNat / 256 := by
    rw [hi8, lo8_and]
    have e : ((8 : Int32) &&& 31) = 8 := by decide
    rw [e, Int32.toBitVec_shiftRight]
    have e2 : ((8 : Int32).toBitVec.smod 32) = 8#32 := by decide
    rw [e2, BitVec.sshiftRight_eq', BitVec.toNat_sshiftRight_of_msb_false (by rw [BitVec.msb_eq_false_iff_two_mul_lt]; omega)]
    show c.toBitVec.toNat >>> 8 % 256 = _
    rw [Nat.shiftRight_eq_div_pow]
    omega
  unfold pairCh
  apply Int32.toBitVec_inj.mp
  apply BitVec.eq_of_toNat_eq
  have f0 : ((0 : Int32) &&& 31) = 0 := by decide
  have f8 : ((8 : Int32) &&& 31) = 8 := by decide
  rw [f0, f8]
  have g : (((lo8 c &&& 255) <<< (0 : Int32)) ||| ((hi8 c &&& 255) <<< (8 : Int32))).toBitVec.toNat = c.toBitVec.toNat := by
    rw [Int32.toBitVec_or, Int32.toBitVec_shiftLeft, Int32.toBitVec_shiftLeft]
    have s0 : ((0 : Int32).toBitVec.smod 32) = 0#32 := by decide
    have s8 : ((8 : Int32).toBitVec.smod 32) = 8#32 := by decide
    rw [s0, s8, BitVec.toNat_or]
    simp only [BitVec.shiftLeft_eq', BitVec.toNat_shiftLeft, a1, a2]
    show (c.toBitVec.toNat % 256) <<< 0 % 2 ^ 32 ||| (c.toBitVec.toNat / 256) <<< 8 % 2 ^ 32 = _
    rw [Nat.shiftLeft_zero, Nat.mod_eq_of_lt (show c.toBitVec.toNat % 256 < 2 ^ 32 by omega), Nat.mod_eq_of_lt (show (c.toBitVec.toNat / 256) <<< 8 < 2 ^ 32 by rw [Nat.shiftLeft_eq]; omega), Nat.or_comm, ← Nat.shiftLeft_add_eq_or_of_lt (by omega), Nat.shiftLeft_eq]
    omega
  show BitVec.toNat (((((lo8 c &&& 255) <<< (0 : Int32)) ||| ((hi8 c &&& 255) <<< (8 : Int32))).toBitVec.setWidth 16).setWidth 32) = _
  rw [BitVec.toNat_setWidth, BitVec.toNat_setWidth, g]
  omega
end StrChars
namespace StrChars
open Jvm Sem ClassFile Op Lib Jvm.Stand Jvm.Free.XT Jvm.Free.ALB Jvm.Free.JM Jvm.Free
open Jvm.Lib.Cold (StaticIs)
/-- the array's cell V codes the n chars f 0 .. f (n - 1) by the coder cd, as the JDK does: coder 1 just where some char is above 255 -/
def Cod (cd : Int32) (n : Nat) (f : Nat → Int32) (V : Cell) : Prop := (cd = 0 ∧ V.slots.size = n ∧ ∀ j, j < n → V.slots[j]? = some (.int (lo8 (f j))) ∧ ¬ 255 < f j) ∨ (cd = 1 ∧ V.slots.size = 2 * n ∧ (∀ j, j < n → V.slots[2 * j]? = some (.int (lo8 (f j))) ∧ V.slots[2 * j + 1]? = some (.int (hi8 (f j)))) ∧ ∃ j, j < n ∧ 255 < f j)
/-- **x is a String of the n chars f 0 .. f (n - 1)**, Latin-1 or UTF-16; its array at t has the cell V -/
def Txt (x t : Addr) (V : Cell) (cd : Int32) (n : Nat) (f : Nat → Int32) (U : State) : Prop := Exact "java/lang/String" x U ∧ Has x "java/lang/String" "value" "[B" (.ref t) U ∧ Has x "java/lang/String" "coder" "B" (.int cd) U ∧ XT.Arr .byte t V U ∧ Cod cd n f V ∧ ∀ j, j < n → ¬ f j < 0 ∧ ¬ 65535 < f j
theorem Txt.mv {x t : Addr} {V : Cell} {cd : Int32} {n : Nat} {f : Nat → Int32} {U U' : State} (h : Txt x t V cd n f U) (hal : U.vm.Alike U'.vm) (hh : U'.heap = U.heap) : Txt x t V cd n f U' := ⟨h.1.mv hal hh, h.2.1.mv hal hh, h.2.2.1.mv hal hh, h.2.2.2.1.mv hal hh, h.2.2.2.2⟩
end StrChars
namespace StrChars.Road
open Jvm Sem ClassFile Op Lib Jvm.Stand Jvm.Free Jvm.Free.XT
open Jvm.Lib.Cold (StaticIs)
theorem consq {a : Array Value} {s : State} {c : Jvm.Cond} {L : List Jvm.Cond} (h0 : c.before a s = true) (h : ∀ w ∈ L, w.before a s = true) : ∀ w ∈ c :: L, w.before a s = true := fun w hw => (List.mem_cons.mp hw).elim (fun e => e ▸ h0) (h w)
/-- the bytes of the chars cs, low before high -/
def wideBytes : List Int32 → List Value
  | [] => []
  | c :: cs => .int (lo8 c) :: .int (hi8 c) :: wideBytes cs
theorem wide_lo (d : Value) : ∀ (cs : List Int32) (j : Nat), j < cs.length → (wideBytes cs).getD (2 * j) d = .int (lo8 (cs.getD j 0))
  | [], j, h => absurd h (Nat.not_lt_zero j)
  | c :: cs, 0, _ => rfl
  | c :: cs, j + 1, h => by
    have q := wide_lo d cs j (by simpa using h)
    rw [show 2 * (j + 1) = 2 * j + 1 + 1 from by omega]
    simpa [wideBytes] using q
theorem wide_hi (d : Value) : ∀ (cs : List Int32) (j : Nat), j < cs.length → (wideBytes cs).getD (2 * j + 1) d = .int (hi8 (cs.getD j 0))
  | [], j, h => absurd h (Nat.not_lt_zero j)
  | c :: cs, 0, _ => rfl
  | c :: cs, j + 1, h => by
    have q := wide_hi d cs j (by simpa using h)
    rw [show 2 * (j + 1) + 1 = 2 * j + 1 + 1 + 1 from by omega]
    simpa [wideBytes] using q
theorem low_at (d : Value) (cs : List Int32) (j : Nat) (h : j < cs.length) : (cs.map fun c => Value.int (lo8 c)).getD j d = .int (lo8 (cs.getD j 0)) := by
  simp [List.getD_eq_getElem?_getD, h]
/-- an array of N2 bytes vs codes the chars cs by the coder cd -/
def CodA (cs : List Int32) (cd N2 : Int32) (vs : List Value) : Prop := (cd = 0 ∧ N2 = Int32.ofNat cs.length ∧ vs = (cs.map fun c => Value.int (lo8 c)) ∧ ∀ c ∈ cs, ¬ 255 < c) ∨ (cd = 1 ∧ N2 = Int32.ofNat (2 * cs.length) ∧ vs = wideBytes cs ∧ ∃ c ∈ cs, 255 < c)
theorem CodA.cod {cs : List Int32} {cd N2 : Int32} {vs : List Value} {V : Cell} (h : CodA cs cd N2 vs) (hn : 2 * cs.length < 2 ^ 31) (hs : V.slots.size = N2.toNatClampNeg) (hv : RoadKit.Has V vs (.int 0)) : Cod cd cs.length (fun j => cs.getD j 0) V := by
  rcases h with ⟨rfl, rfl, rfl, h⟩ | ⟨rfl, rfl, rfl, c, hc, hw⟩
  · rw [n32 (by omega)] at hs
    exact Or.inl ⟨rfl, hs, fun j hj => ⟨by rw [hv j (by omega), low_at _ _ _ hj], by
      have e : cs.getD j 0 = cs[j] := by simp [List.getD_eq_getElem?_getD, hj]
      show ¬ 255 < cs.getD j 0
      rw [e]; exact h _ (List.getElem_mem _)⟩⟩
  · rw [n32 (by omega)] at hs
    obtain ⟨j, hj, rfl⟩ := List.getElem_of_mem hc
    exact Or.inr ⟨rfl, hs, fun j hj => ⟨by rw [hv _ (by omega), wide_lo _ _ _ hj], by rw [hv _ (by omega), wide_hi _ _ _ hj]⟩, j, hj, by
      have e : cs.getD j 0 = cs[j] := by simp [List.getD_eq_getElem?_getD, hj]
      show 255 < cs.getD j 0
      rw [e]; exact hw⟩
/-- an object of exactly java/lang/String, its two fields found: as the laws ask it -/
theorem strObj {Z U : State} {a0 : Array Value} {kI : Nat} (wi : (Jvm.Cond.instantiable ST kI).before a0 Z = true) (al : Z.vm.Alike U.vm) {x : Addr} {v0 c0 : Value} (E : RoadKit.Exa Z U.heap x ST) (V : RoadKit.Fld Z U.heap x ST "value" "[B" v0) (C : RoadKit.Fld Z U.heap x ST "coder" "B" c0) :
    ∃ (D : Cell) (fV fC : Field), Blank ST x D U ∧ Found ST "value" "[B" fV U ∧ Found ST "coder" "B" fC U ∧ D.slots[fV.slot]? = some v0 ∧ D.slots[fC.slot]? = some c0 ∧ RoadKit.slotOf Z ST "value" "[B" = fV.slot ∧ RoadKit.slotOf Z ST "coder" "B" = fC.slot := by
  obtain ⟨D, cfV, kV, iV, fV, hD, gV, stV, knV, obV, asV, slV⟩ := V
  obtain ⟨D', cfC, kC, iC, fC, hD', gC, stC, -, -, asC, slC⟩ := C
  cases hD.symm.trans hD'
  obtain ⟨D2, kD, e1, e2, e3, e4, e5⟩ := E
  cases hD.symm.trans e1
  obtain ⟨c2, k2, i1, i2, i3, -⟩ := Cond.instantiable_spec wi
  cases e2.symm.trans i1
  cases e3.symm.trans i2
  obtain ⟨kU, u1, u2⟩ := al.2.2 _ _ e3
  exact ⟨D, fV, fC, ⟨hD, ⟨knV, fun q hq => by rw [hq] at obV; cases obV⟩, by rw [al.findClass]; exact e2, kU, u1, by rw [u2]; exact i3, by rw [u2]; exact e5 i3⟩, ⟨SBG.found_only al ⟨cfV, kV, iV, gV⟩, stV⟩, ⟨SBG.found_only al ⟨cfC, kC, iC, gC⟩, stC⟩, slV, slC, by simp [RoadKit.slotOf, gV], by simp [RoadKit.slotOf, gC]⟩
theorem sta_is {Z U : State} (al : Z.vm.Alike U.vm) {C n d : String} {v : Value} (S : RoadKit.Sta Z U.heap C n d v) : StaticIs U C n d v := by
  obtain ⟨cfS, iS, kS, fS, st, cS, t1, t2, t3, t4, t5, t6, t7⟩ := S
  exact StaticIs.there (s := { Z with heap := U.heap }) ⟨cfS, iS, kS, fS, st, cS, t1, t2, t3, t4, t5, (fun q => by rw [q] at t6; cases t6), t7⟩ al rfl
end StrChars.Road
namespace StrChars
open Jvm Sem ClassFile Op Lib Jvm.Stand Jvm.Free.XT Jvm.Free.ALB Jvm.Free.JM Jvm.Free
open Jvm.Lib.Cold (StaticIs)
/-- what place i of a byte[]'s cell holds -/
def yv (A : Cell) (i : Nat) : Int32 := match A.slots[i]? with | some (.int x) => x | _ => 0
theorem yv_get {a : Addr} {A : Cell} {U : State} (h : XT.Arr .byte a A U) (ht : Typed .byte A) {i : Nat} (hi : i < A.slots.size) : A.slots[i]? = some (.int (yv A i)) := by
  have e := Array.getElem?_eq_getElem hi
  have f := ht i _ e
  unfold yv; rw [e]
  generalize A.slots[i] = v at f
  cases v <;> simp [fits] at f ⊢
/-- the two arrays are equal, place for place -/
def EqC (A B : Cell) : Prop := A.slots.size = B.slots.size ∧ ∀ i, i < A.slots.size → yv A i = yv B i
/-- a boolean that says whether p -/
def Says01 (q : Prop) (r : Option Value) (s u : State) : Prop := ∃ v : Int32, r = some (.int v) ∧ u.heap = s.heap ∧ ((v = 1 ∧ q) ∨ (v = 0 ∧ ¬ q))
theorem Says01.mv {q : Prop} : ∀ r (U U' V V' : State), U'.heap = U.heap → V.vm.Alike V'.vm → V'.heap = V.heap → Says01 q r U V → Says01 q r U' V' :=
  fun r U U' V V' h1 _ h2 ⟨v, a, b, c⟩ => ⟨v, a, by rw [h1, h2]; exact b, c⟩
namespace LEq
def yN : MethodName := ⟨"java/lang/StringLatin1", "equals", "([B[B)Z"⟩
abbrev yB : ByteArray := jdk_43_method_13_code
theorem d0 : decode yB 0 = .ok (.aload_n 0, 1) := by decide +kernel
theorem d1 : decode yB 1 = .ok (.arraylength, 1) := by decide +kernel
theorem d2 : decode yB 2 = .ok (.aload_n 1, 1) := by decide +kernel
theorem d3 : decode yB 3 = .ok (.arraylength, 1) := by decide +kernel
theorem d4 : decode yB 4 = .ok (.if_icmp (.ne) 30, 3) := by decide +kernel
theorem d7 : decode yB 7 = .ok (.iconst 0, 1) := by decide +kernel
theorem d8 : decode yB 8 = .ok (.istore_n 2, 1) := by decide +kernel
theorem d9 : decode yB 9 = .ok (.iload_n 2, 1) := by decide +kernel
theorem d10 : decode yB 10 = .ok (.aload_n 0, 1) := by decide +kernel
theorem d11 : decode yB 11 = .ok (.arraylength, 1) := by decide +kernel
theorem d12 : decode yB 12 = .ok (.if_icmp (.ge) 20, 3) := by decide +kernel
theorem d15 : decode yB 15 = .ok (.aload_n 0, 1) := by decide +kernel
theorem d16 : decode yB 16 = .ok (.iload_n 2, 1) := by decide +kernel
theorem d17 : decode yB 17 = .ok (.baload, 1) := by decide +kernel
theorem d18 : decode yB 18 = .ok (.aload_n 1, 1) := by decide +kernel
theorem d19 : decode yB 19 = .ok (.iload_n 2, 1) := by decide +kernel
theorem d20 : decode yB 20 = .ok (.baload, 1) := by decide +kernel
theorem d21 : decode yB 21 = .ok (.if_icmp (.eq) 5, 3) := by decide +kernel
theorem d24 : decode yB 24 = .ok (.iconst 0, 1) := by decide +kernel
theorem d25 : decode yB 25 = .ok (.ireturn, 1) := by decide +kernel
theorem d26 : decode yB 26 = .ok (.iinc 2 1, 3) := by decide +kernel
theorem d29 : decode yB 29 = .ok (.goto (-20), 3) := by decide +kernel
theorem d32 : decode yB 32 = .ok (.iconst 1, 1) := by decide +kernel
theorem d33 : decode yB 33 = .ok (.ireturn, 1) := by decide +kernel
theorem d34 : decode yB 34 = .ok (.iconst 0, 1) := by decide +kernel
theorem d35 : decode yB 35 = .ok (.ireturn, 1) := by decide +kernel
def site : List Cond := []
def tab : Cond := tabOf yN yB 3 (some .boolean) site
def P (a : Addr) (A : Cell) (b : Addr) (B : Cell) (args : Array Value) (s : State) : Prop := args = #[.ref a, .ref b] ∧ XT.Arr .byte a A s ∧ Typed .byte A ∧ XT.Arr .byte b B s ∧ Typed .byte B
/-- whether two byte[] are equal, place for place -/
theorem law (l : Launch) (a : Addr) (A : Cell) (b : Addr) (B : Cell) : Law l yN 2 2 0 0 yB 3 (some .boolean) site (P a A b B) (Says01 (EqC A B)) [] 0 0 := by
  refine Law.of_walk (plainFor_of_name (by decide +kernel)) (by decide +kernel) (by decide +kernel) (by decide) (fun _ _ h => by rw [h.1]; rfl) (fun _ U U' hal hh h => ⟨h.1, h.2.1.mv hal hh, h.2.2.1, h.2.2.2.1.mv hal hh, h.2.2.2.2⟩) (fun r U U' V V' h1 hal h2 h => Says01.mv r U U' V V' h1 hal h2 h) ?_
  intro p e s m args below meth c s₁ X0 hexec hbytes hml hret hlk hnm hown hh0 W hP
  obtain ⟨rfl, hA, tA, hB, tB⟩ := hP
  have a31 := hA.2.2.2
  have b31 := hB.2.2.2
  have hA0 := hA.mv X0.warmed.alike hh0
  have hB0 := hB.mv X0.warmed.alike hh0
  have c1 : Steps p.tables e below (s₁.setTop (entryFrame m #[.ref a, .ref b] 3)) (s₁.setTop (mkF m 0 #[.val (.ref a), .val (.ref b), .unset] [])) := entry rfl
  have c2 : Steps p.tables e below (s₁.setTop (entryFrame m #[.ref a, .ref b] 3)) (s₁.setTop (mkF m 4 #[.val (.ref a), .val (.ref b), .unset] [.int (Int32.ofNat B.slots.size), .int (Int32.ofNat A.slots.size)])) := c1.trans (by
    refine XS.aloadN X0.here hexec rfl (hb hbytes d0) rfl rfl ?_
    refine X0.alen hexec hA0 rfl rfl (hb hbytes d1) ?_
    refine XS.aloadN X0.here hexec rfl (hb hbytes d2) rfl rfl ?_
    refine X0.alen hexec hB0 rfl rfl (hb hbytes d3) ?_
    exact Steps.refl _)
  by_cases hs : A.slots.size = B.slots.size
  · have c3 : Steps p.tables e below (s₁.setTop (entryFrame m #[.ref a, .ref b] 3)) (s₁.setTop (mkF m 9 #[.val (.ref a), .val (.ref b), .val (.int 0)] [])) := c2.trans (by
      refine XS.icmpNo X0.here hexec rfl (hb hbytes d4) rfl (ii_ne_f (by rw [hs])) ?_
      refine iconstV X0.here hexec rfl 0 (hb hbytes d7) (by decide) ?_
      refine XS.istoreN X0.here hexec rfl (hb hbytes d8) rfl rfl ?_
      exact Steps.refl _)
    have loop : ∀ (r i : Nat), i + r = A.slots.size → (∀ j, j < i → yv A j = yv B j) → Steps p.tables e below (s₁.setTop (entryFrame m #[.ref a, .ref b] 3)) (s₁.setTop (mkF m 9 #[.val (.ref a), .val (.ref b), .val (.int (Int32.ofNat i))] [])) → ∃ (pc : Nat) (Ls : Array Slot) (v : Int32), (pc = 25 ∨ pc = 33) ∧ ((v = 1 ∧ EqC A B) ∨ (v = 0 ∧ ¬ EqC A B)) ∧ Steps p.tables e below (s₁.setTop (entryFrame m #[.ref a, .ref b] 3)) (s₁.setTop (mkF m pc Ls [.int v])) := by
      intro r
      induction r with
      | zero =>
        intro i hi he cl
        exact ⟨33, _, 1, Or.inr rfl, Or.inl ⟨rfl, hs, fun j hj => he j (by omega)⟩, cl.trans (by
          refine XS.iloadN X0.here hexec rfl (hb hbytes d9) rfl ?_
          refine XS.aloadN X0.here hexec rfl (hb hbytes d10) rfl rfl ?_
          refine X0.alen hexec hA0 rfl rfl (hb hbytes d11) ?_
          refine XS.icmpYes X0.here hexec rfl (pc0 := 12) rfl (hb hbytes d12) rfl (ii_ge_t (nlt32 (by omega) (by omega))) (by decide) rfl ?_
          refine iconstV X0.here hexec rfl 1 (hb hbytes d32) (by decide) ?_
          exact Steps.refl _)⟩
      | succ r ih =>
        intro i hi he cl
        have c4 : Steps p.tables e below (s₁.setTop (entryFrame m #[.ref a, .ref b] 3)) (s₁.setTop (mkF m 21 #[.val (.ref a), .val (.ref b), .val (.int (Int32.ofNat i))] [.int (yv B i), .int (yv A i)])) := cl.trans (by
          refine XS.iloadN X0.here hexec rfl (hb hbytes d9) rfl ?_
          refine XS.aloadN X0.here hexec rfl (hb hbytes d10) rfl rfl ?_
          refine X0.alen hexec hA0 rfl rfl (hb hbytes d11) ?_
          refine XS.icmpNo X0.here hexec rfl (hb hbytes d12) rfl (ii_ge_f (lt32 (by omega) (by omega))) ?_
          refine XS.aloadN X0.here hexec rfl (hb hbytes d15) rfl rfl ?_
          refine XS.iloadN X0.here hexec rfl (hb hbytes d16) rfl ?_
          refine X0.aget hexec hA0 rfl (yv_get hA tA (i := i) (by omega)) rfl rfl (hb hbytes d17) ?_
          refine XS.aloadN X0.here hexec rfl (hb hbytes d18) rfl rfl ?_
          refine XS.iloadN X0.here hexec rfl (hb hbytes d19) rfl ?_
          refine X0.aget hexec hB0 rfl (yv_get hB tB (i := i) (by omega)) rfl rfl (hb hbytes d20) ?_
          exact Steps.refl _)
        by_cases hv : yv A i = yv B i
        · have c5 : Steps p.tables e below (s₁.setTop (entryFrame m #[.ref a, .ref b] 3)) (s₁.setTop (mkF m 9 #[.val (.ref a), .val (.ref b), .val (.int (Int32.ofNat i + 1))] [])) := c4.trans (by
            refine XS.icmpYes X0.here hexec rfl (pc0 := 21) rfl (hb hbytes d21) rfl (ii_eq_t hv) (by decide) rfl ?_
            refine iincV X0.here hexec rfl 1 (hb hbytes d26) (by decide) rfl rfl ?_
            refine XS.goto X0.here hexec rfl (pc0 := 29) rfl (hb hbytes d29) (by decide) rfl ?_
            exact Steps.refl _)
          rw [succ32] at c5
          exact ih (i + 1) (by omega) (fun j hj => by
            by_cases e : j = i
            · rw [e]; exact hv
            · exact he j (by omega)) c5
        · exact ⟨25, _, 0, Or.inl rfl, Or.inr ⟨rfl, fun q => hv (q.2 i (by omega))⟩, c4.trans (by
            refine XS.icmpNo X0.here hexec rfl (hb hbytes d21) rfl (ii_eq_f hv) ?_
            refine iconstV X0.here hexec rfl 0 (hb hbytes d24) (by decide) ?_
            exact Steps.refl _)⟩
    obtain ⟨pc, Ls, v, hpc, hv, cz⟩ := loop A.slots.size 0 (by omega) (fun j hj => absurd hj (Nat.not_lt_zero j)) c3
    have nv : narrow .boolean (.int v) = .int v := by rcases hv with ⟨rfl, -⟩ | ⟨rfl, -⟩ <;> rfl
    rcases hpc with rfl | rfl
    · exact ⟨s₁, some (.int v), _, _, _, X0, rfl, rfl, rfl, (fun h => by cases h), ⟨v, rfl, hh0, hv⟩, fun fs hl => cz.trans (X0.ireturnOut hexec hret nv (Or.inr (Or.inl rfl)) (hb hbytes d25) hl)⟩
    · exact ⟨s₁, some (.int v), _, _, _, X0, rfl, rfl, rfl, (fun h => by cases h), ⟨v, rfl, hh0, hv⟩, fun fs hl => cz.trans (X0.ireturnOut hexec hret nv (Or.inr (Or.inl rfl)) (hb hbytes d33) hl)⟩
  · have c3 : Steps p.tables e below (s₁.setTop (entryFrame m #[.ref a, .ref b] 3)) (s₁.setTop (mkF m 35 #[.val (.ref a), .val (.ref b), .unset] [.int 0])) := c2.trans (by
      refine XS.icmpYes X0.here hexec rfl (pc0 := 4) rfl (hb hbytes d4) rfl (ii_ne_t (ne32 a31 b31 hs)) (by decide) rfl ?_
      refine iconstV X0.here hexec rfl 0 (hb hbytes d34) (by decide) ?_
      exact Steps.refl _)
    exact ⟨s₁, some (.int 0), _, _, _, X0, rfl, rfl, rfl, (fun h => by cases h), ⟨0, rfl, hh0, Or.inr ⟨rfl, fun q => hs q.1⟩⟩, fun fs hl => c3.trans (X0.ireturnOut hexec hret rfl (Or.inr (Or.inl rfl)) (hb hbytes d35) hl)⟩
end LEq
theorem Cod.ty {cd : Int32} {n : Nat} {f : Nat → Int32} {V : Cell} (h : Cod cd n f V) : Typed .byte V := fun i v hv => by
  have hi : i < V.slots.size := (Array.getElem?_eq_some_iff.mp hv).1
  rcases h with ⟨-, k1, k2⟩ | ⟨-, k1, k2, -⟩
  · rw [(k2 i (by omega)).1] at hv; cases hv; exact fits_lo8 _
  · rcases Nat.mod_two_eq_zero_or_one i with e | e
    · obtain ⟨j, rfl⟩ : ∃ j, i = 2 * j := ⟨i / 2, by omega⟩
      rw [(k2 j (by omega)).1] at hv; cases hv; exact fits_lo8 _
    · obtain ⟨j, rfl⟩ : ∃ j, i = 2 * j + 1 := ⟨i / 2, by omega⟩
      rw [(k2 j (by omega)).2] at hv; cases hv; exact fits_lo8 _
/-- the same text -/
def SameT (n : Nat) (f : Nat → Int32) (k : Nat) (g : Nat → Int32) : Prop := n = k ∧ ∀ j, j < n → f j = g j
theorem lo8_inj {x y : Int32} (h0 : ¬ x < 0) (h1 : ¬ 255 < x) (k0 : ¬ y < 0) (k1 : ¬ 255 < y) (h : lo8 x = lo8 y) : x = y := by
  rw [← lo8_mask h0 h1, ← lo8_mask k0 k1, h]
/-- arrays coded by one coder are equal just where the texts are -/
theorem Cod.eqv {cd : Int32} {n k : Nat} {f g : Nat → Int32} {V V' : Cell} (h : Cod cd n f V) (h' : Cod cd k g V') (hf : ∀ j, j < n → ¬ f j < 0 ∧ ¬ 65535 < f j) (hg : ∀ j, j < k → ¬ g j < 0 ∧ ¬ 65535 < g j) : EqC V V' ↔ SameT n f k g := by
  have yvv : ∀ {W : Cell} {i : Nat} {x : Int32}, W.slots[i]? = some (.int x) → yv W i = x := fun q => by unfold yv; rw [q]
  rcases h with ⟨rfl, k1, k2⟩ | ⟨rfl, k1, k2, -⟩
  · rcases h' with ⟨-, m1, m2⟩ | ⟨e, -⟩
    · constructor
      · rintro ⟨e1, e2⟩
        refine ⟨by omega, fun j hj => ?_⟩
        have q := e2 j (by omega)
        rw [yvv (k2 j hj).1, yvv (m2 j (by omega)).1] at q
        exact lo8_inj (hf j hj).1 (k2 j hj).2 (hg j (by omega)).1 (m2 j (by omega)).2 q
      · rintro ⟨rfl, e2⟩
        refine ⟨by omega, fun j hj => ?_⟩
        rw [yvv (k2 j (by omega)).1, yvv (m2 j (by omega)).1, e2 j (by omega)]
    · exact absurd e (by decide)
  · rcases h' with ⟨e, -⟩ | ⟨-, m1, m2, -⟩
    · exact absurd e (by decide)
    · constructor
      · rintro ⟨e1, e2⟩
        refine ⟨by omega, fun j hj => ?_⟩
        have q1 := e2 (2 * j) (by omega)
        have q2 := e2 (2 * j + 1) (by omega)
        rw [yvv (k2 j hj).1, yvv (m2 j (by omega)).1] at q1
        rw [yvv (k2 j hj).2, yvv (m2 j (by omega)).2] at q2
        rw [← pair_says (hf j hj).1 (hf j hj).2, ← pair_says (hg j (by omega)).1 (hg j (by omega)).2, q1, q2]
      · rintro ⟨rfl, e2⟩
        refine ⟨by omega, fun i hi => ?_⟩
        rcases Nat.mod_two_eq_zero_or_one i with e | e
        · obtain ⟨j, rfl⟩ : ∃ j, i = 2 * j := ⟨i / 2, by omega⟩
          rw [yvv (k2 j (by omega)).1, yvv (m2 j (by omega)).1, e2 j (by omega)]
        · obtain ⟨j, rfl⟩ : ∃ j, i = 2 * j + 1 := ⟨i / 2, by omega⟩
          rw [yvv (k2 j (by omega)).2, yvv (m2 j (by omega)).2, e2 j (by omega)]
/-- two codings differ: so do the texts -/
theorem Cod.dif {cd cd' : Int32} {n k : Nat} {f g : Nat → Int32} {V V' : Cell} (h : Cod cd n f V) (h' : Cod cd' k g V') (hne : ¬ cd = cd') : ¬ SameT n f k g := by
  rintro ⟨rfl, e⟩
  rcases h with ⟨rfl, -, k2⟩ | ⟨rfl, -, -, j, hj, hw⟩
  · rcases h' with ⟨rfl, -⟩ | ⟨-, -, -, j, hj, hw⟩
    · exact hne rfl
    · exact (k2 j hj).2 (by rw [e j hj]; exact hw)
  · rcases h' with ⟨-, -, m2⟩ | ⟨rfl, -⟩
    · exact (m2 j hj).2 (by rw [← e j hj]; exact hw)
    · exact hne rfl
/-- an object of exactly C is an instance of C -/
theorem cinst {p : Program} {l : Launch} {e : Env} {R : Room} {s : State} {m : MethodId} {args : Array Value} {below : List Frame} {meth : Method} {c : Code} {T : State} {locs : List Loc} {cells slots : Nat} (X : Stand p l e R s m args below meth c T locs cells slots) (hexec : p.tables.exec = Jvm.exec) {own C : String} {index : Nat} (hown : s.vm.findClass own = some m.cls) (hlink : (Cond.classLink own index C).before args s = true) {a : Addr} (hE : Exact C a T)
    {g : JFrame} (hg : g.method = m) {rest : List Value} (hstack : g.stack = .ref a :: rest) (hdg : decode c.code g.pc = .ok (.instanceof index, 3)) :
    ∃ T', Stand p l e R s m args below meth c T' locs cells slots ∧ T'.heap = T.heap ∧ ∀ target, Steps p.tables e below (T'.setTop { g with pc := g.pc + 3, stack := .int 1 :: rest }) target → Steps p.tables e below (T.setTop g) target := by
  obtain ⟨cB, h1, D, h2, h3, h4⟩ := hE
  have h1' : s.vm.findClass C = some cB := by rw [← X.warmed.alike.findClass]; exact h1
  obtain ⟨vm', X', st⟩ := X.instanceofYes hexec hown hlink h2 h4 h1' (by rw [h3]; exact Jvm.Free.SB.assignable_self _ _) hg hstack hdg
  exact ⟨_, X', rfl, st⟩
theorem cself {p : Program} {l : Launch} {e : Env} {R : Room} {s : State} {m : MethodId} {args : Array Value} {below : List Frame} {meth : Method} {c : Code} {T : State} {locs : List Loc} {cells slots : Nat} (X : Stand p l e R s m args below meth c T locs cells slots) (hexec : p.tables.exec = Jvm.exec) {own C : String} {index : Nat} (hown : s.vm.findClass own = some m.cls) (hlink : (Cond.classLink own index C).before args s = true) {a : Addr} (hE : Exact C a T)
    {g : JFrame} (hg : g.method = m) {rest : List Value} (hstack : g.stack = .ref a :: rest) (hdg : decode c.code g.pc = .ok (.checkcast index, 3)) :
    ∃ T', Stand p l e R s m args below meth c T' locs cells slots ∧ T'.heap = T.heap ∧ ∀ target, Steps p.tables e below (T'.setTop { g with pc := g.pc + 3, stack := .ref a :: rest }) target → Steps p.tables e below (T.setTop g) target := by
  obtain ⟨cB, h1, D, h2, h3, h4⟩ := hE
  have h1' : s.vm.findClass C = some cB := by rw [← X.warmed.alike.findClass]; exact h1
  obtain ⟨vm', X', st⟩ := X.checkcastYes hexec hown hlink h2 h4 h1' (by rw [h3]; exact Jvm.Free.SB.assignable_self _ _) hg hstack hdg
  exact ⟨_, X', rfl, fun t h => st t (by rw [← hstack] at h; exact h)⟩
namespace SEq
def yN : MethodName := ⟨"java/lang/String", "equals", "(Ljava/lang/Object;)Z"⟩
abbrev yB : ByteArray := jdk_42_method_66_code
theorem d0 : decode yB 0 = .ok (.aload_n 0, 1) := by decide +kernel
theorem d1 : decode yB 1 = .ok (.aload_n 1, 1) := by decide +kernel
theorem d2 : decode yB 2 = .ok (.if_acmp (.ne) 5, 3) := by decide +kernel
theorem d5 : decode yB 5 = .ok (.iconst 1, 1) := by decide +kernel
theorem d6 : decode yB 6 = .ok (.ireturn, 1) := by decide +kernel
theorem d7 : decode yB 7 = .ok (.aload_n 1, 1) := by decide +kernel
theorem d8 : decode yB 8 = .ok (.instanceof 10, 3) := by decide +kernel
theorem d11 : decode yB 11 = .ok (.ifCond (.eq) 43, 3) := by decide +kernel
theorem d14 : decode yB 14 = .ok (.aload_n 1, 1) := by decide +kernel
theorem d15 : decode yB 15 = .ok (.checkcast 10, 3) := by decide +kernel
theorem d18 : decode yB 18 = .ok (.astore_n 2, 1) := by decide +kernel
theorem d19 : decode yB 19 = .ok (.getstatic 38, 3) := by decide +kernel
theorem d22 : decode yB 22 = .ok (.ifCond (.eq) 14, 3) := by decide +kernel
theorem d25 : decode yB 25 = .ok (.aload_n 0, 1) := by decide +kernel
theorem d26 : decode yB 26 = .ok (.getfield 15, 3) := by decide +kernel
theorem d29 : decode yB 29 = .ok (.aload_n 2, 1) := by decide +kernel
theorem d30 : decode yB 30 = .ok (.getfield 15, 3) := by decide +kernel
theorem d33 : decode yB 33 = .ok (.if_icmp (.ne) 21, 3) := by decide +kernel
theorem d36 : decode yB 36 = .ok (.aload_n 0, 1) := by decide +kernel
theorem d37 : decode yB 37 = .ok (.getfield 9, 3) := by decide +kernel
theorem d40 : decode yB 40 = .ok (.aload_n 2, 1) := by decide +kernel
theorem d41 : decode yB 41 = .ok (.getfield 9, 3) := by decide +kernel
theorem d44 : decode yB 44 = .ok (.invokestatic 541, 3) := by decide +kernel
theorem d47 : decode yB 47 = .ok (.ifCond (.eq) 7, 3) := by decide +kernel
theorem d50 : decode yB 50 = .ok (.iconst 1, 1) := by decide +kernel
theorem d51 : decode yB 51 = .ok (.goto 4, 3) := by decide +kernel
theorem d54 : decode yB 54 = .ok (.iconst 0, 1) := by decide +kernel
theorem d55 : decode yB 55 = .ok (.ireturn, 1) := by decide +kernel
def site : List Cond := [.classLink "java/lang/String" 10 "java/lang/String", .fieldLink "java/lang/String" 38 "java/lang/String" "COMPACT_STRINGS" "Z", .fieldLink "java/lang/String" 15 "java/lang/String" "coder" "B", .fieldLink "java/lang/String" 9 "java/lang/String" "value" "[B", LEq.tab] ++ staticW "java/lang/String" 541 LEq.yN
def tab : Cond := tabOf yN yB 3 (some .boolean) site
def P (x t : Addr) (V : Cell) (cd : Int32) (n : Nat) (f : Nat → Int32) (y t' : Addr) (V' : Cell) (cd' : Int32) (k : Nat) (g : Nat → Int32) (z : Int32) (args : Array Value) (s : State) : Prop := args = #[.ref x, .ref y] ∧ Txt x t V cd n f s ∧ Txt y t' V' cd' k g s ∧ StaticIs s "java/lang/String" "COMPACT_STRINGS" "Z" (.int z) ∧ ¬ z = 0
/-- equals(Object) of two Strings: whether the texts are the same -/
theorem law (l : Launch) (x t : Addr) (V : Cell) (cd : Int32) (n : Nat) (f : Nat → Int32) (y t' : Addr) (V' : Cell) (cd' : Int32) (k : Nat) (g : Nat → Int32) (z : Int32) : Law l yN 2 1 1 14 yB 3 (some .boolean) site (P x t V cd n f y t' V' cd' k g z) (Says01 (SameT n f k g)) [] 0 0 := by
  refine Law.of_walk (plainFor_of_name (by decide +kernel)) (by decide +kernel) (by decide +kernel) (by decide) (fun _ _ h => by rw [h.1]; rfl) (fun _ U U' hal hh h => ⟨h.1, h.2.1.mv hal hh, h.2.2.1.mv hal hh, h.2.2.2.1.there hal hh, h.2.2.2.2⟩) (fun r U U' V V' h1 hal h2 h => Says01.mv r U U' V V' h1 hal h2 h) ?_
  intro p e s m args below meth c s₁ X0 hexec hbytes hml hret hlk hnm hown hh0 W hP
  obtain ⟨rfl, hx, hy, s1, hz⟩ := hP
  have c1 : Steps p.tables e below (s₁.setTop (entryFrame m #[.ref x, .ref y] 3)) (s₁.setTop (mkF m 2 #[.val (.ref x), .val (.ref y), .unset] [.ref y, .ref x])) := Steps.trans (entry rfl) (by
    show Steps p.tables e below (s₁.setTop (mkF m 0 #[.val (.ref x), .val (.ref y), .unset] [])) _
    refine XS.aloadN X0.here hexec rfl (hb hbytes d0) rfl rfl ?_
    refine XS.aloadN X0.here hexec rfl (hb hbytes d1) rfl rfl ?_
    exact Steps.refl _)
  by_cases hxy : x = y
  · have c2 : Steps p.tables e below (s₁.setTop (entryFrame m #[.ref x, .ref y] 3)) (s₁.setTop (mkF m 6 #[.val (.ref x), .val (.ref y), .unset] [.int 1])) := c1.trans (by
      refine acmpNo X0.here hexec rfl (hb hbytes d2) rfl rfl rfl (by simp [acmp, hxy]) ?_
      refine iconstV X0.here hexec rfl 1 (hb hbytes d5) (by decide) ?_
      exact Steps.refl _)
    subst hxy
    have ec : cd = cd' := by
      obtain ⟨D, fd, a1, a2, a3⟩ := hx.2.2.1
      obtain ⟨D', fd', b1, b2, b3⟩ := hy.2.2.1
      cases a1.symm.trans b1
      obtain ⟨q1, q2, q3, q4⟩ := a2.1
      obtain ⟨r1, r2, r3, r4⟩ := b2.1
      cases q4.symm.trans r4
      cases a3.symm.trans b3; rfl
    have et : t = t' := by
      obtain ⟨D, fd, a1, a2, a3⟩ := hx.2.1
      obtain ⟨D', fd', b1, b2, b3⟩ := hy.2.1
      cases a1.symm.trans b1
      obtain ⟨q1, q2, q3, q4⟩ := a2.1
      obtain ⟨r1, r2, r3, r4⟩ := b2.1
      cases q4.symm.trans r4
      cases a3.symm.trans b3; rfl
    subst ec et
    have ev : V = V' := by cases hx.2.2.2.1.1.symm.trans hy.2.2.2.1.1; rfl
    subst ev
    have hs : SameT n f k g := (Cod.eqv hx.2.2.2.2.1 hy.2.2.2.2.1 hx.2.2.2.2.2 hy.2.2.2.2.2).mp ⟨rfl, fun _ _ => rfl⟩
    exact ⟨s₁, some (.int 1), _, _, _, X0, rfl, rfl, rfl, (fun h => by cases h), ⟨1, rfl, hh0, Or.inl ⟨rfl, hs⟩⟩, fun fs hl => c2.trans (X0.ireturnOut hexec hret rfl (Or.inr (Or.inl rfl)) (hb hbytes d6) hl)⟩
  · have c2 : Steps p.tables e below (s₁.setTop (entryFrame m #[.ref x, .ref y] 3)) (s₁.setTop (mkF m 8 #[.val (.ref x), .val (.ref y), .unset] [.ref y])) := c1.trans (by
      refine acmpYes X0.here hexec rfl (pc0 := 2) rfl (hb hbytes d2) rfl rfl rfl (by simp [acmp, hxy]) (by decide) rfl ?_
      refine XS.aloadN X0.here hexec rfl (hb hbytes d7) rfl rfl ?_
      exact Steps.refl _)
    obtain ⟨T3, X3, q3, st3⟩ := cinst X0 hexec hown (wk W (.classLink "java/lang/String" 10 "java/lang/String")) (hy.mv X0.warmed.alike hh0).1 (g := (mkF m 8 #[.val (.ref x), .val (.ref y), .unset] [.ref y])) rfl (rest := []) rfl (hb hbytes d8)
    have hh3 := q3.trans hh0
    have c4 : Steps p.tables e below (s₁.setTop (entryFrame m #[.ref x, .ref y] 3)) (T3.setTop (mkF m 15 #[.val (.ref x), .val (.ref y), .unset] [.ref y])) := (c2.trans (st3 _ (Steps.refl _))).trans (by
      refine XS.ifNo X3.here hexec rfl (hb hbytes d11) rfl (i0_eq_f (by decide)) ?_
      refine XS.aloadN X3.here hexec rfl (hb hbytes d14) rfl rfl ?_
      exact Steps.refl _)
    obtain ⟨T5, X5, q5, st5⟩ := cself X3 hexec hown (wk W (.classLink "java/lang/String" 10 "java/lang/String")) (hy.mv X3.warmed.alike hh3).1 (g := (mkF m 15 #[.val (.ref x), .val (.ref y), .unset] [.ref y])) rfl (rest := []) rfl (hb hbytes d15)
    have hh5 := q5.trans hh3
    have c6 : Steps p.tables e below (s₁.setTop (entryFrame m #[.ref x, .ref y] 3)) (T5.setTop (mkF m 19 #[.val (.ref x), .val (.ref y), .val (.ref y)] [])) := (c4.trans (st5 _ (Steps.refl _))).trans (by
      refine XS.astoreN X5.here hexec rfl (hb hbytes d18) rfl rfl rfl ?_
      exact Steps.refl _)
    obtain ⟨T7, X7, q7, st7⟩ := X5.sget hexec hown (wk W (.fieldLink "java/lang/String" 38 "java/lang/String" "COMPACT_STRINGS" "Z")) s1 (fun _ _ h => by rw [hh5]; exact h) (g := (mkF m 19 #[.val (.ref x), .val (.ref y), .val (.ref y)] [])) rfl (hb hbytes d19)
    have hh7 := q7.trans hh5
    have c8 : Steps p.tables e below (s₁.setTop (entryFrame m #[.ref x, .ref y] 3)) (T7.setTop (mkF m 26 #[.val (.ref x), .val (.ref y), .val (.ref y)] [.ref x])) := (c6.trans (st7 _ (Steps.refl _))).trans (by
      refine XS.ifNo X7.here hexec rfl (hb hbytes d22) rfl (i0_eq_f hz) ?_
      refine XS.aloadN X7.here hexec rfl (hb hbytes d25) rfl rfl ?_
      exact Steps.refl _)
    obtain ⟨T9, X9, q9, st9⟩ := X7.hget hexec hown (wk W (.fieldLink "java/lang/String" 15 "java/lang/String" "coder" "B")) (hx.mv X7.warmed.alike hh7).2.2.1 (g := (mkF m 26 #[.val (.ref x), .val (.ref y), .val (.ref y)] [.ref x])) rfl (rest := []) rfl (hb hbytes d26)
    have hh9 := q9.trans hh7
    have c10 : Steps p.tables e below (s₁.setTop (entryFrame m #[.ref x, .ref y] 3)) (T9.setTop (mkF m 30 #[.val (.ref x), .val (.ref y), .val (.ref y)] [.ref y, .int cd])) := (c8.trans (st9 _ (Steps.refl _))).trans (by
      refine XS.aloadN X9.here hexec rfl (hb hbytes d29) rfl rfl ?_
      exact Steps.refl _)
    obtain ⟨T11, X11, q11, st11⟩ := X9.hget hexec hown (wk W (.fieldLink "java/lang/String" 15 "java/lang/String" "coder" "B")) (hy.mv X9.warmed.alike hh9).2.2.1 (g := (mkF m 30 #[.val (.ref x), .val (.ref y), .val (.ref y)] [.ref y, .int cd])) rfl (rest := [.int cd]) rfl (hb hbytes d30)
    have hh11 := q11.trans hh9
    have c12 : Steps p.tables e below (s₁.setTop (entryFrame m #[.ref x, .ref y] 3)) (T11.setTop (mkF m 33 #[.val (.ref x), .val (.ref y), .val (.ref y)] [.int cd', .int cd])) := c10.trans (st11 _ (Steps.refl _))
    by_cases hcd : cd = cd'
    · subst hcd
      have c13 : Steps p.tables e below (s₁.setTop (entryFrame m #[.ref x, .ref y] 3)) (T11.setTop (mkF m 37 #[.val (.ref x), .val (.ref y), .val (.ref y)] [.ref x])) := c12.trans (by
        refine XS.icmpNo X11.here hexec rfl (hb hbytes d33) rfl (ii_ne_f rfl) ?_
        refine XS.aloadN X11.here hexec rfl (hb hbytes d36) rfl rfl ?_
        exact Steps.refl _)
      obtain ⟨T14, X14, q14, st14⟩ := X11.hget hexec hown (wk W (.fieldLink "java/lang/String" 9 "java/lang/String" "value" "[B")) (hx.mv X11.warmed.alike hh11).2.1 (g := (mkF m 37 #[.val (.ref x), .val (.ref y), .val (.ref y)] [.ref x])) rfl (rest := []) rfl (hb hbytes d37)
      have hh14 := q14.trans hh11
      have c15 : Steps p.tables e below (s₁.setTop (entryFrame m #[.ref x, .ref y] 3)) (T14.setTop (mkF m 41 #[.val (.ref x), .val (.ref y), .val (.ref y)] [.ref y, .ref t])) := (c13.trans (st14 _ (Steps.refl _))).trans (by
        refine XS.aloadN X14.here hexec rfl (hb hbytes d40) rfl rfl ?_
        exact Steps.refl _)
      obtain ⟨T16, X16, q16, st16⟩ := X14.hget hexec hown (wk W (.fieldLink "java/lang/String" 9 "java/lang/String" "value" "[B")) (hy.mv X14.warmed.alike hh14).2.1 (g := (mkF m 41 #[.val (.ref x), .val (.ref y), .val (.ref y)] [.ref y, .ref t])) rfl (rest := [.ref t]) rfl (hb hbytes d41)
      have hh16 := q16.trans hh14
      have c17 : Steps p.tables e below (s₁.setTop (entryFrame m #[.ref x, .ref y] 3)) (T16.setTop (mkF m 44 #[.val (.ref x), .val (.ref y), .val (.ref y)] [.ref t', .ref t])) := c15.trans (st16 _ (Steps.refl _))
      obtain ⟨v18, T18, X18, E18, g18⟩ := X16.callS hexec (LEq.law l t V t' V') hown (wks W (staticW "java/lang/String" 541 LEq.yN)) (wk W LEq.tab) (W := 0) (Nat.le_of_ble_eq_true rfl) (Nat.le_of_ble_eq_true rfl) (Nat.le_refl _) (Nat.le_refl _) (g := (mkF m 44 #[.val (.ref x), .val (.ref y), .val (.ref y)] [.ref t', .ref t])) rfl (by rw [hml]; rfl) c17 (argsL := [.ref t, .ref t']) (rest := []) rfl rfl (by show 2 * 0 + 0 ≤ _; decide) (hb hbytes d44) (⟨rfl, hx.2.2.2.1.mv X16.warmed.alike hh16, hx.2.2.2.2.1.ty, hy.2.2.2.1.mv X16.warmed.alike hh16, hy.2.2.2.2.1.ty⟩)
      obtain ⟨v, rfl, q18, hv⟩ := E18
      have iff := Cod.eqv hx.2.2.2.2.1 hy.2.2.2.2.1 hx.2.2.2.2.2 hy.2.2.2.2.2
      rcases hv with ⟨rfl, he⟩ | ⟨rfl, he⟩
      · have c19 : Steps p.tables e below (s₁.setTop (entryFrame m #[.ref x, .ref y] 3)) (T18.setTop (mkF m 55 #[.val (.ref x), .val (.ref y), .val (.ref y)] [.int 1])) := Steps.trans g18 (by
          refine XS.ifNo X18.here hexec rfl (hb hbytes d47) rfl (i0_eq_f (by decide)) ?_
          refine iconstV X18.here hexec rfl 1 (hb hbytes d50) (by decide) ?_
          refine XS.goto X18.here hexec rfl (pc0 := 51) rfl (hb hbytes d51) (by decide) rfl ?_
          exact Steps.refl _)
        exact ⟨T18, some (.int 1), _, _, _, X18, rfl, rfl, rfl, (fun h => by cases h), ⟨1, rfl, q18.trans hh16, Or.inl ⟨rfl, iff.mp he⟩⟩, fun fs hl => c19.trans (X18.ireturnOut hexec hret rfl (Or.inr (Or.inl rfl)) (hb hbytes d55) hl)⟩
      · have c19 : Steps p.tables e below (s₁.setTop (entryFrame m #[.ref x, .ref y] 3)) (T18.setTop (mkF m 55 #[.val (.ref x), .val (.ref y), .val (.ref y)] [.int 0])) := Steps.trans g18 (by
          refine XS.ifYes X18.here hexec rfl (pc0 := 47) rfl (hb hbytes d47) rfl (i0_eq_t rfl) (by decide) rfl ?_
          refine iconstV X18.here hexec rfl 0 (hb hbytes d54) (by decide) ?_
          exact Steps.refl _)
        exact ⟨T18, some (.int 0), _, _, _, X18, rfl, rfl, rfl, (fun h => by cases h), ⟨0, rfl, q18.trans hh16, Or.inr ⟨rfl, fun q => he (iff.mpr q)⟩⟩, fun fs hl => c19.trans (X18.ireturnOut hexec hret rfl (Or.inr (Or.inl rfl)) (hb hbytes d55) hl)⟩
    · have c13 : Steps p.tables e below (s₁.setTop (entryFrame m #[.ref x, .ref y] 3)) (T11.setTop (mkF m 55 #[.val (.ref x), .val (.ref y), .val (.ref y)] [.int 0])) := c12.trans (by
        refine XS.icmpYes X11.here hexec rfl (pc0 := 33) rfl (hb hbytes d33) rfl (ii_ne_t hcd) (by decide) rfl ?_
        refine iconstV X11.here hexec rfl 0 (hb hbytes d54) (by decide) ?_
        exact Steps.refl _)
      exact ⟨T11, some (.int 0), _, _, _, X11, rfl, rfl, rfl, (fun h => by cases h), ⟨0, rfl, hh11, Or.inr ⟨rfl, Cod.dif hx.2.2.2.2.1 hy.2.2.2.2.1 hcd⟩⟩, fun fs hl => c13.trans (X11.ireturnOut hexec hret rfl (Or.inr (Or.inl rfl)) (hb hbytes d55) hl)⟩
theorem pays {l : Launch} {R : Room} {p : Program} {e : Env} {below : List Frame} {s : State} {sargs : Array Value} {len W : Nat} (x t : Addr) (V : Cell) (cd : Int32) (n : Nat) (f : Nat → Int32) (y t' : Addr) (V' : Cell) (cd' : Int32) (k : Nat) (g : Nat → Int32) (z : Int32) (htab : tab.before sargs s = true) (hfr : 2 ≤ R.frames) (hlo : W + 28 ≤ R.locals) :
    Back l R p e below s sargs yN len W (fun A₁ a₁ => A₁.cells + 0 ≤ R.cells ∧ A₁.slots + 0 ≤ R.slots ∧ P x t V cd n f y t' V' cd' k g z a₁ A₁.U) (fun A₁ _ v₁ B₁ => Says01 (SameT n f k g) v₁ A₁.U B₁.U ∧ B₁.locs = A₁.locs ++ [] ∧ B₁.cells = A₁.cells + 0 ∧ B₁.slots = A₁.slots + 0) :=
  (law l x t V cd n f y t' V' cd' k g z).pays htab hfr (by omega)
end SEq
end StrChars
namespace StrChars.Road
open Jvm Sem ClassFile Op Lib Jvm.Stand Jvm.Free Jvm.Free.XT
open Jvm.Lib.Cold (StaticIs)
/-- the words of String.equals(Object) -/
abbrev wordsEq : List Jvm.Cond := [.code SEq.yN SEq.yB 3 (some .boolean), .initialized ST, .classLink ST 10 ST, .fieldLink ST 38 ST "COMPACT_STRINGS" "Z", .fieldLink ST 15 ST "coder" "B", .fieldLink ST 9 ST "value" "[B", .methodLink ST 541 LEq.yN, .static LEq.yN, .code LEq.yN LEq.yB 3 (some .boolean), .initialized "java/lang/StringLatin1"]
theorem tabEq_of {a : Array Value} {s : State} (h : ∀ w ∈ wordsEq, w.before a s = true) : SEq.tab.before a s = true := by
  have hl : LEq.tab.before a s = true := unparts (wk h (.code LEq.yN LEq.yB 3 (some .boolean))) (wks h (.initialized LEq.yN.cls :: LEq.site))
  have q := consq hl h
  exact unparts (wk q (.code SEq.yN SEq.yB 3 (some .boolean))) (wks q (.initialized SEq.yN.cls :: SEq.site))
theorem movedEq {Z s : State} {a0 args : Array Value} (hZ : Z.Warmed39 s.vm) (hw : ∀ d ∈ wordsEq, d.before a0 Z = true) : ∀ d ∈ wordsEq, d.before args s = true := fun d hd => by
  have t : ∀ d ∈ wordsEq, (d.onTables && d.keepsFace) = true := by decide +kernel
  exact RoadKit.mv hZ (hw d hd) (t d hd)
/-- the road's facts of a String, as the laws ask it -/
theorem txt_of {Z U : State} {a0 : Array Value} {kI : Nat} (wi : (Jvm.Cond.instantiable ST kI).before a0 Z = true) (al : Z.vm.Alike U.vm) {x t : Addr} {kb : ClassId} {cs : List Int32} {cd N2 : Int32} {vs : List Value} (E : RoadKit.Exa Z U.heap x ST) (V : RoadKit.Fld Z U.heap x ST "value" "[B" (.ref t)) (C : RoadKit.Fld Z U.heap x ST "coder" "B" (.int cd)) (K : RoadKit.Arv Z U.heap t kb .byte N2 vs (.int 0)) (hc : CodA cs cd N2 vs) (hb : ∀ c ∈ cs, ¬ c < 0 ∧ ¬ (65535 : Int32) < c) (l2 : cs.length ≤ 4000) :
    ∃ A, Txt x t A cd cs.length (fun j => cs.getD j 0) U := by
  obtain ⟨A, K1, K2, K3, K4, K5, K6⟩ := K
  have hcod := hc.cod (by omega) K3 K5
  obtain ⟨D, fV, fC, hB, F1, F2, g1, g2, -, -⟩ := strObj wi al E V C
  exact ⟨A, ⟨_, hB.2.2.1, D, hB.1, rfl, by cases q : D.vm <;> first | rfl | exact absurd q (hB.2.1.2 _)⟩, Has.of hB F1 g1, Has.of hB F2 g2, ⟨K1.1, State.isArrayOf_alike al K1.2.1, K1.2.2, by rcases hcod with ⟨-, q, -⟩ | ⟨-, q, -⟩ <;> omega⟩, hcod, fun j hj => by
    have e : cs.getD j 0 = cs[j] := by simp [List.getD_eq_getElem?_getD, hj]
    show ¬ cs.getD j 0 < 0 ∧ ¬ 65535 < cs.getD j 0
    rw [e]; exact hb _ (List.getElem_mem _)⟩
theorem same_list (cs ds : List Int32) : SameT cs.length (fun j => cs.getD j 0) ds.length (fun j => ds.getD j 0) ↔ cs = ds := by
  constructor
  · rintro ⟨e, q⟩
    refine List.ext_getElem e fun j h1 h2 => ?_
    have := q j h1
    simpa [List.getD_eq_getElem?_getD, h1, h2] using this
  · rintro rfl
    exact ⟨rfl, fun _ _ => rfl⟩
/-- **equals(Object) OF TWO SUCH STRINGS**: 1 just where the chars are the same -/
theorem eqW {p : Program} {l : Launch} {e : Env} {R : Room} {s : State} {args : Array Value} {below : List Frame} {len W : Nat} {Z : State} {a0 : Array Value} {h : Heap} (hZ : Z.Warmed39 s.vm) (hw : ∀ d ∈ wordsEq, d.before a0 Z = true) {kI : Nat} (wi : (Jvm.Cond.instantiable ST kI).before a0 Z = true)
    {x t : Addr} {kb : ClassId} {cs : List Int32} {cd N2 : Int32} {vs : List Value} (E : RoadKit.Exa Z h x ST) (V : RoadKit.Fld Z h x ST "value" "[B" (.ref t)) (C : RoadKit.Fld Z h x ST "coder" "B" (.int cd)) (K : RoadKit.Arv Z h t kb .byte N2 vs (.int 0)) (hc : CodA cs cd N2 vs) (hb : ∀ c ∈ cs, ¬ c < 0 ∧ ¬ (65535 : Int32) < c) (l2 : cs.length ≤ 4000)
    {y t' : Addr} {kb' : ClassId} {ds : List Int32} {cd' N2' : Int32} {vs' : List Value} (E' : RoadKit.Exa Z h y ST) (V' : RoadKit.Fld Z h y ST "value" "[B" (.ref t')) (C' : RoadKit.Fld Z h y ST "coder" "B" (.int cd')) (K' : RoadKit.Arv Z h t' kb' .byte N2' vs' (.int 0)) (hc' : CodA ds cd' N2' vs') (hb' : ∀ c ∈ ds, ¬ c < 0 ∧ ¬ (65535 : Int32) < c) (l2' : ds.length ≤ 4000)
    {z : Int32} (S : RoadKit.Sta Z h ST "COMPACT_STRINGS" "Z" (.int z)) (hz : ¬ z = 0) (hfr : 2 ≤ R.frames) (hlo : W + 28 ≤ R.locals) :
    Back l R p e below s args (⟨"java/lang/String", "equals", "(Ljava/lang/Object;)Z"⟩ : MethodName) len W (fun P a => a = #[.ref x, .ref y] ∧ P.U.heap = h ∧ P.cells + 0 ≤ R.cells ∧ P.slots + 0 ≤ R.slots)
      (fun P _ v B => ∃ L, (((v = some (.int 1) ∧ cs = ds) ∨ (v = some (.int 0) ∧ ¬ cs = ds)) ∧ L = [] ∧ B.U.heap = h) ∧ B.locs = P.locs ++ L ∧ B.cells = P.cells + 0 ∧ B.slots = P.slots + 0) := by
  intro m meth c P g ig mk a X hg hsize hdg hW hn hp'
  obtain ⟨rfl, rfl, r1, r2⟩ := hp'
  have al : Z.vm.Alike P.U.vm := hZ.alike.trans X.warmed.alike
  obtain ⟨A, hx⟩ := txt_of wi al E V C K hc hb l2
  obtain ⟨A', hy⟩ := txt_of wi al E' V' C' K' hc' hb' l2'
  obtain ⟨v, B, X', ⟨⟨w, hv, hh, hq⟩, hl, hk, hs⟩, st⟩ := SEq.pays x t A cd cs.length (fun j => cs.getD j 0) y t' A' cd' ds.length (fun j => ds.getD j 0) z (tabEq_of (movedEq hZ hw)) hfr hlo m meth c P g ig mk _ X hg hsize hdg hW hn ⟨r1, r2, rfl, hx, hy, sta_is al S, hz⟩
  refine ⟨v, B, X', ⟨[], ⟨?_, rfl, hh⟩, hl, hk, hs⟩, st⟩
  rcases hq with ⟨rfl, q⟩ | ⟨rfl, q⟩
  · exact Or.inl ⟨hv, (same_list cs ds).mp q⟩
  · exact Or.inr ⟨hv, fun e => q ((same_list cs ds).mpr e)⟩
end StrChars.Road
namespace StrChars.Road
open Jvm Sem ClassFile Op Lib Jvm.Stand Jvm.Free Jvm.Free.XT
open Jvm.Lib.Cold (StaticIs)
/-- what backV says of its String, as the contracts of this text ask it: cs's low bytes, coder 0 -/
theorem codOf {cs : List Int32} {n : Nat} (hn : cs.length = n) (hb : ∀ c ∈ cs, ¬ 255 < c) : CodA cs 0 (Int32.ofNat n) ((cs.map lo8).map Value.int) := Or.inl ⟨rfl, by rw [hn], by simp [List.map_map, Function.comp_def], hb⟩
end StrChars.Road
end Jvm.Pilot.@@N@@
namespace Jvm.Pilot.@@N@@
def own_ushr (x y : Int32) : Int32 := (x.toUInt32 >>> (y &&& 31).toUInt32).toInt32
def own_ushrL (x : Int64) (y : Int32) : Int64 := (x.toUInt64 >>> (y &&& 0x3f).toInt64.toUInt64).toInt64
def own_cmpL (x y : Int64) : Int32 := if x > y then 1 else if x = y then 0 else -1
open Jvm Jvm.ClassFile Sem Op Lib Jvm.Free Jvm.Stand Jvm.LawKit Jvm.RoadKit Bundle Jvm.Pilot.@@N@@.Jvm.D
theorem own_rem_eq (x y : Int32) : x - x / y * y = x % y := by
  apply Int32.toInt_inj.mp
  have h := Int.tmod_add_mul_tdiv x.toInt y.toInt
  have e : (x % y).toInt = (x % y).toInt.bmod (2 ^ 32) := (Int.bmod_eq_of_le (Int32.le_toInt _) (Int32.toInt_lt _)).symm
  rw [e, Int32.toInt_sub, Int32.toInt_mul, Int32.toInt_div, Int32.toInt_mod, Int.sub_bmod_bmod, Int.sub_bmod, Int.bmod_mul_bmod, ← Int.sub_bmod]
  congr 1
  rw [Int.mul_comm (x.toInt.tdiv y.toInt)]
  omega
theorem own_W {a0 : Array Value} {Z : State} (hw : ∀ d ∈ tables_1, d.before a0 Z = true) (i : Nat) {d : Jvm.Cond} (h : tables_1[i]? = some d) : d.before a0 Z = true := hw d (List.mem_of_getElem? h)
theorem own_and255 (x : Int32) : ¬ nar .char ((x &&& (255 : Int32)).toUInt32.toUInt16.toUInt32.toInt32) < 0 ∧ ¬ (255 : Int32) < nar .char ((x &&& (255 : Int32)).toUInt32.toUInt16.toUInt32.toInt32) := by
  have t : ∀ k : Fin 256, ¬ nar .char ((Int32.ofNat k.val).toUInt32.toUInt16.toUInt32.toInt32) < 0 ∧ ¬ (255 : Int32) < nar .char ((Int32.ofNat k.val).toUInt32.toUInt16.toUInt32.toInt32) := by decide +kernel
  have h : (x &&& 255).toBitVec.toNat < 256 := by
    simp only [Int32.toBitVec_and, BitVec.toNat_and]
    exact Nat.lt_succ_of_le Nat.and_le_right
  have e : (x &&& 255) = Int32.ofNat (x &&& 255).toBitVec.toNat := by
    apply Int32.toBitVec_inj.mp
    show _ = BitVec.ofNat 32 _
    rw [BitVec.ofNat_toNat]; simp
  rw [e]
  exact t ⟨_, h⟩
theorem own_up (cs : List Int32) (h : ∀ c ∈ cs, ¬ c < 0 ∧ ¬ (255 : Int32) < c) : ∀ c ∈ cs, ¬ c < 0 ∧ ¬ (65535 : Int32) < c := fun c hc => ⟨(h c hc).1, fun q => (h c hc).2 (by rw [Int32.lt_iff_toInt_lt] at q ⊢; have e1 : (65535 : Int32).toInt = 65535 := rfl; have e2 : (255 : Int32).toInt = 255 := rfl; omega)⟩
theorem own_small (x : Int32) (h : x.toBitVec.toNat < 256) : nar .char (x.toUInt32.toUInt16.toUInt32.toInt32) = x ∧ ¬ x < 0 ∧ ¬ (255 : Int32) < x := by
  have t : ∀ k : Fin 256, nar .char ((Int32.ofNat k.val).toUInt32.toUInt16.toUInt32.toInt32) = Int32.ofNat k.val ∧ ¬ Int32.ofNat k.val < 0 ∧ ¬ (255 : Int32) < Int32.ofNat k.val := by decide +kernel
  have e : x = Int32.ofNat x.toBitVec.toNat := by
    apply Int32.toBitVec_inj.mp
    show _ = BitVec.ofNat 32 _
    rw [BitVec.ofNat_toNat]; simp
  rw [e]
  exact t ⟨_, h⟩
theorem own_andlt (x y : Int32) {k : Nat} (h : y.toBitVec.toNat < k) : (x &&& y).toBitVec.toNat < k := by
  rw [Int32.toBitVec_and, BitVec.toNat_and]
  exact Nat.lt_of_le_of_lt Nat.and_le_right h
theorem own_xorlt (x y : Int32) (hx : x.toBitVec.toNat < 2 ^ 8) (hy : y.toBitVec.toNat < 2 ^ 8) : (x ^^^ y).toBitVec.toNat < 256 := by
  rw [Int32.toBitVec_xor, BitVec.toNat_xor]
  exact Nat.xor_lt_two_pow hx hy
/-- x is a String of the chars cs at h, its two cells below k -/
def StrB (Z : State) (h : Heap) (k : Nat) (a : Addr) (cs : List Int32) : Prop := a < k ∧ Exa Z h a "java/lang/String" ∧ ∃ (t : Addr) (kb : ClassId) (cd N2 : Int32) (vs : List Value), t < k ∧ Fld Z h a "java/lang/String" "value" "[B" (.ref t) ∧ Fld Z h a "java/lang/String" "coder" "B" (.int cd) ∧ Arv Z h t kb .byte N2 vs (.int 0) ∧ StrChars.Road.CodA cs cd N2 vs ∧ (∀ c ∈ cs, ¬ c < 0 ∧ ¬ (65535 : Int32) < c) ∧ cs.length ≤ 4000
theorem StrB.ext {Z : State} {h h' : Heap} {k : Nat} {a : Addr} {cs : List Int32} (F : StrB Z h k a cs) (E : Ext h h') : StrB Z h' k a cs := by
  obtain ⟨a1, a2, t, kb, cd, N2, vs, b1, b2, b3, b4, r⟩ := F
  exact ⟨a1, a2.ext E, t, kb, cd, N2, vs, b1, b2.ext E, b3.ext E, b4.ext E, r⟩
theorem own_notin {x : Addr} {k : Nat} {ws : List Addr} (h : x < k) (q : ∀ y ∈ ws, k ≤ y) : x ∉ ws := fun z => absurd h (Nat.not_lt.mpr (q x z))
theorem StrB.keep {Z : State} {h h' : Heap} {k : Nat} {a : Addr} {cs : List Int32} {ws : List Addr} (F : StrB Z h k a cs) (K : Keep h h' ws) (q : ∀ x ∈ ws, k ≤ x) : StrB Z h' k a cs := by
  obtain ⟨a1, a2, t, kb, cd, N2, vs, b1, b2, b3, b4, r⟩ := F
  exact ⟨a1, a2.keep K, t, kb, cd, N2, vs, b1, b2.keep K (own_notin a1 q), b3.keep K (own_notin a1 q), b4.keep K (own_notin b1 q), r⟩
theorem StrB.wr {Z : State} {h h' : Heap} {k : Nat} {a x : Addr} {cs : List Int32} {sl : Nat} {v : Value} (F : StrB Z h k a cs) (W : Wr h h' x sl v) (q : k ≤ x) : StrB Z h' k a cs := F.keep (Keep.of_wr W) (allS q all0)
theorem StrB.now {Z : State} {h : Heap} {k : Nat} {a : Addr} {cs : List Int32} (F : StrB Z h k a cs) : StrB Z h h.size a cs := by
  obtain ⟨a1, a2, t, kb, cd, N2, vs, b1, b2, b3, b4, r⟩ := F
  exact ⟨a2.lt, a2, t, kb, cd, N2, vs, b4.lt, b2, b3, b4, r⟩
theorem StrB.exa {Z : State} {h : Heap} {k : Nat} {a : Addr} {cs : List Int32} (F : StrB Z h k a cs) : Exa Z h a "java/lang/String" := F.2.1
theorem own_eqS {p : Program} {l : Launch} {e : Env} {R : Room} {s : State} {args : Array Value} {below : List Frame} {len W : Nat} {Z : State} {a0 : Array Value} {h : Heap} (hZ : Z.Warmed39 s.vm) (hw : ∀ d ∈ StrChars.Road.wordsEq, d.before a0 Z = true) {kI : Nat} (wi : (Jvm.Cond.instantiable "java/lang/String" kI).before a0 Z = true)
    {x y : Addr} {k k' : Nat} {cs ds : List Int32} (F : StrB Z h k x cs) (G : StrB Z h k' y ds) {z : Int32} (S : Sta Z h "java/lang/String" "COMPACT_STRINGS" "Z" (.int z)) (hz : ¬ z = 0) (hfr : 2 ≤ R.frames) (hlo : W + 28 ≤ R.locals) :
    Back l R p e below s args (⟨"java/lang/String", "equals", "(Ljava/lang/Object;)Z"⟩ : MethodName) len W (fun P a => a = #[.ref x, .ref y] ∧ P.U.heap = h ∧ P.cells + 0 ≤ R.cells ∧ P.slots + 0 ≤ R.slots)
      (fun P _ v B => ∃ L, (((v = some (.int 1) ∧ cs = ds) ∨ (v = some (.int 0) ∧ ¬ cs = ds)) ∧ L = [] ∧ B.U.heap = h) ∧ B.locs = P.locs ++ L ∧ B.cells = P.cells + 0 ∧ B.slots = P.slots + 0) := by
  obtain ⟨_, E1, t, kb, cd, N2, vs, _, V1, C1, K1, hc, hb, hl⟩ := F
  obtain ⟨_, E2, t', kb', cd', N2', vs', _, V2, C2, K2, hc', hb', hl'⟩ := G
  exact StrChars.Road.eqW hZ hw wi E1 V1 C1 K1 hc hb hl E2 V2 C2 K2 hc' hb' hl' S hz hfr hlo
def own_c0 (c p : Int32) : Int32 := nar .char (((c &&& (1 : Int32)) ^^^ (p &&& (255 : Int32))).toUInt32.toUInt16.toUInt32.toInt32)
def own_c1 (c q : Int32) : Int32 := nar .char ((((c >>> ((1 : Int32) &&& 31)) &&& (1 : Int32)) ^^^ (q &&& (255 : Int32))).toUInt32.toUInt16.toUInt32.toInt32)
def own_id (c p q : Int32) : List Int32 := [own_c0 c p, own_c1 c q]
theorem own_c0_eq (c p : Int32) : own_c0 c p = (c &&& 1) ^^^ (p &&& 255) ∧ ¬ own_c0 c p < 0 ∧ ¬ (255 : Int32) < own_c0 c p := by
  have h := own_small ((c &&& 1) ^^^ (p &&& 255)) (own_xorlt _ _ (own_andlt _ _ (by decide)) (own_andlt _ _ (by decide)))
  have e : own_c0 c p = (c &&& 1) ^^^ (p &&& 255) := h.1
  rw [e]; exact ⟨rfl, h.2⟩
theorem own_c1_eq (c q : Int32) : own_c1 c q = ((c >>> ((1 : Int32) &&& 31)) &&& 1) ^^^ (q &&& 255) ∧ ¬ own_c1 c q < 0 ∧ ¬ (255 : Int32) < own_c1 c q := by
  have h := own_small (((c >>> ((1 : Int32) &&& 31)) &&& 1) ^^^ (q &&& 255)) (own_xorlt _ _ (own_andlt _ _ (by decide)) (own_andlt _ _ (by decide)))
  have e : own_c1 c q = ((c >>> ((1 : Int32) &&& 31)) &&& 1) ^^^ (q &&& 255) := h.1
  rw [e]; exact ⟨rfl, h.2⟩
theorem own_id_ok (c p q : Int32) : ∀ x ∈ own_id c p q, ¬ x < 0 ∧ ¬ (255 : Int32) < x := by
  intro x hx
  simp only [own_id, List.mem_cons, List.not_mem_nil, or_false] at hx
  rcases hx with rfl | rfl
  · exact (own_c0_eq c p).2
  · exact (own_c1_eq c q).2
theorem own_xor_inj {x y z : Int32} (h : x ^^^ z = y ^^^ z) : x = y := by
  have := congrArg (· ^^^ z) h
  simpa [Int32.xor_assoc] using this
def own_four (c : Int32) : Prop := c = 0 ∨ c = 1 ∨ c = 2 ∨ c = 3
theorem own_and3 (x : Int32) : own_four (x &&& 3) := by
  have t : ∀ k : Fin 4, own_four (Int32.ofNat k.val) := by unfold own_four; decide +kernel
  have h : (x &&& 3).toBitVec.toNat < 4 := own_andlt _ _ (by decide)
  have e : (x &&& 3) = Int32.ofNat (x &&& 3).toBitVec.toNat := by
    apply Int32.toBitVec_inj.mp
    show _ = BitVec.ofNat 32 _
    rw [BitVec.ofNat_toNat]; simp
  rw [e]; exact t ⟨_, h⟩
theorem own_id_inj {c d p q : Int32} (hc : own_four c) (hd : own_four d) (h : own_id c p q = own_id d p q) : c = d := by
  unfold own_id at h
  rw [(own_c0_eq c p).1, (own_c0_eq d p).1, (own_c1_eq c q).1, (own_c1_eq d q).1] at h
  injection h with h0 h1
  injection h1 with h1 _
  have e0 := own_xor_inj h0
  have e1 := own_xor_inj h1
  rcases hc with rfl | rfl | rfl | rfl <;> rcases hd with rfl | rfl | rfl | rfl <;> first | rfl | (exact absurd e0 (by decide)) | (exact absurd e1 (by decide))
theorem own_cmp0 (x y : Int64) (h : x = y) : own_cmpL x y = 0 := by
  subst h; unfold own_cmpL; rw [if_neg (Int64.lt_irrefl), if_pos rfl]
theorem own_cmpn (x y : Int64) (h : ¬ x = y) : ¬ own_cmpL x y = 0 := by
  unfold own_cmpL; rw [if_neg h]; split <;> decide
theorem own_pn_3 : plainName "java/lang/String" = true := by first | (simp [plainName, overriddenIn]; done) | decide +kernel
theorem own_d3_0 : decode jdk_42_method_66_code 0 = .ok (.aload_n 0, 1) := by decide +kernel
theorem own_d3_1 : decode jdk_42_method_66_code 1 = .ok (.aload_n 1, 1) := by decide +kernel
theorem own_d3_2 : decode jdk_42_method_66_code 2 = .ok (.if_acmp .ne 5, 3) := by decide +kernel
theorem own_d3_7 : decode jdk_42_method_66_code 7 = .ok (.aload_n 1, 1) := by decide +kernel
theorem own_d3_8 : decode jdk_42_method_66_code 8 = .ok (.instanceof 10, 3) := by decide +kernel
theorem own_d3_11 : decode jdk_42_method_66_code 11 = .ok (.ifCond .eq 43, 3) := by decide +kernel
theorem own_d3_54 : decode jdk_42_method_66_code 54 = .ok (.iconst 0, 1) := by decide +kernel
theorem own_d3_55 : decode jdk_42_method_66_code 55 = .ok (.ireturn, 1) := by decide +kernel
theorem own_ef_eqn (m : MethodId) (x0 : Addr) : entryFrame m #[(.ref x0), .null] 3 = mkF m 0 #[rv x0, .val .null, .unset] [] := by first | (simp [entryFrame, mkF, argsToLocals, Value.category]; done) | rfl
def Q_eqn (Z : State) (a1 : Addr) (h0 : Heap) (n0 : Nat) (v : Option Value) (h : Heap) (L : List Loc) : Prop := v = some (.int 0) ∧ Fr n0 L ∧ h = h0
set_option maxRecDepth 65536 in
set_option maxHeartbeats 40000000 in
theorem rm_eqn (l : Launch) (Z : State) (a0 : Array Value) (hw : ∀ d ∈ tables_1, d.before a0 Z = true) (ws : List Jvm.Cond) (a1 : Addr) (h0 : Heap) (n0 : Nat) (Z0 : n0 ≤ h0.size)  :
    MetFree l (⟨"java/lang/String", "equals", "(Ljava/lang/Object;)Z"⟩ : MethodName) (head1 (Jvm.Cond.code (⟨"java/lang/String", "equals", "(Ljava/lang/Object;)Z"⟩ : MethodName) jdk_42_method_66_code 3 (some .boolean) :: ws) ({ frames := 0, cells := 0, slots := 0, locals := 0 } : Room)) (fun a U => a = #[(.ref a1), .null] ∧ Z.Warmed39 U.vm ∧ U.heap = h0) (fun _ _ _ _ _ => True) (fun _ U o U' => ∃ v L, o = .returned v ∧ Q_eqn Z a1 h0 n0 v U'.heap L ∧ FrameEnd U o U' L ({ frames := 0, cells := 0, slots := 0, locals := 0 } : Room).cells ({ frames := 0, cells := 0, slots := 0, locals := 0 } : Room).slots) := by
  refine MetFree.of_bodySF (plainFor_of_name own_pn_3) hisR ?_
  intro p e s m args below meth c s₁ Bd hml0 hP hK
  obtain ⟨rfl, hZ, hh⟩ := hP
  have hx := Bd.exec
  have hby := Bd.bytes
  have hml : c.maxLocals = 3 := hml0
  have hown : s.vm.findClass "java/lang/String" = some m.cls := findClass_of_methodNamed Bd.named
  have hnm := (name_of_methodNamed Bd.named Bd.method).1
  have W := own_W hw
  have X0 : Stand p l e ({ frames := 0, cells := 0, slots := 0, locals := 0 } : Room) s m #[(.ref a1), .null] below meth c s₁ [] 0 0 := Stand.of_body Bd
  have e0 : s₁.heap = h0 := by rw [← hh, Bd.state]; rfl
  have N0 := Fr.nil n0
  have pre0 : ∀ t, Steps p.tables e below (s₁.setTop (mkF m 0 #[rv a1, .val .null, .unset] [])) t → Steps p.tables e below (s₁.setTop (entryFrame m #[(.ref a1), .null] 3)) t := fun t k => castTop (own_ef_eqn m a1) k
  obtain ⟨fs, hr, hrun, hended, hW, hsame⟩ := X0.leave (v := some (.int (0 : Int32))) (fun h => by rw [Bd.returns] at h; cases h)
  refine ⟨_, _, pre0 _ (?_), hrun, hended, _, _, rfl, ?_, ⟨_, rfl⟩, hW, hsame.mono (by decide) (by decide)⟩
  · show Steps p.tables e below (s₁.setTop (mkF m 0 #[rv a1, .val .null, .unset] [])) _
    refine XS.aloadN X0.here hx rfl (hb hby own_d3_0) rfl rfl ?_
    show Steps _ _ _ (s₁.setTop (mkF m 1 _ [.ref a1])) _
    refine XS.aloadN X0.here hx rfl (hb hby own_d3_1) rfl rfl ?_
    show Steps _ _ _ (s₁.setTop (mkF m 2 _ [.null, .ref a1])) _
    refine Jvm.RoadKit.acmp (g := (mkF m 2 #[rv a1, .val .null, .unset] [.null, .ref a1])) X0 hx rfl rfl rfl (pc0 := 2) (pc' := 7) (same := false) rfl (hb hby own_d3_2) rfl (decide_eq_false nofun) (by decide) (by decide) ?_
    show Steps p.tables e below (s₁.setTop (mkF m 7 #[rv a1, .val .null, .unset] [])) _
    refine XS.aloadN X0.here hx rfl (hb hby own_d3_7) rfl rfl ?_
    show Steps _ _ _ (s₁.setTop (mkF m 8 _ [.null])) _
    refine X0.instanceofNull hx (g := (mkF m 8 #[rv a1, .val .null, .unset] [.null])) rfl rfl (hb hby own_d3_8) _ ?_
    show Steps p.tables e below (s₁.setTop (mkF m 11 #[rv a1, .val .null, .unset] [.int 0])) _
    refine XS.ifYes X0.here hx rfl (pc0 := 11) (pc' := 54) rfl (hb hby own_d3_11) rfl ((if0 _ _).trans (teq (rfl : (0 : Int32) = (0 : Int32))).1) (by decide) (by decide) ?_
    show Steps _ _ _ (s₁.setTop (mkF m 54 _ [])) _
    refine XS.iconst X0.here hx rfl (hb hby own_d3_54) ?_
    show Steps _ _ _ (s₁.setTop (mkF m 55 _ [.int 0])) _
    exact retN X0 hx (t := .boolean) Bd.returns (by simp) (hb hby own_d3_55) hr
  · show Q_eqn Z a1 h0 n0 _ s₁.heap _
    rw [e0]
    exact ⟨rfl, N0, rfl⟩
theorem own_pn_1 : plainName "com/example/bulkhead/bulkhead/registry/LoopCheckCameBackPinLaw" = true := by first | (simp [plainName, overriddenIn]; done) | decide +kernel
theorem own_d8_0 : decode method_2_code 0 = .ok (.iconst 2, 1) := by decide +kernel
theorem own_d8_1 : decode method_2_code 1 = .ok (.newarray .char, 2) := by decide +kernel
theorem own_d8_3 : decode method_2_code 3 = .ok (.astore_n 3, 1) := by decide +kernel
theorem own_d8_4 : decode method_2_code 4 = .ok (.aload_n 3, 1) := by decide +kernel
theorem own_d8_5 : decode method_2_code 5 = .ok (.iconst 0, 1) := by decide +kernel
theorem own_d8_6 : decode method_2_code 6 = .ok (.iload_n 0, 1) := by decide +kernel
theorem own_d8_7 : decode method_2_code 7 = .ok (.iconst 1, 1) := by decide +kernel
theorem own_d8_8 : decode method_2_code 8 = .ok (.iand, 1) := by decide +kernel
theorem own_d8_9 : decode method_2_code 9 = .ok (.iload_n 1, 1) := by decide +kernel
theorem own_d8_10 : decode method_2_code 10 = .ok (.sipush 255, 3) := by decide +kernel
theorem own_d8_13 : decode method_2_code 13 = .ok (.iand, 1) := by decide +kernel
theorem own_d8_14 : decode method_2_code 14 = .ok (.ixor, 1) := by decide +kernel
theorem own_d8_15 : decode method_2_code 15 = .ok (.i2c, 1) := by decide +kernel
theorem own_d8_16 : decode method_2_code 16 = .ok (.castore, 1) := by decide +kernel
theorem own_d8_17 : decode method_2_code 17 = .ok (.aload_n 3, 1) := by decide +kernel
theorem own_d8_18 : decode method_2_code 18 = .ok (.iconst 1, 1) := by decide +kernel
theorem own_d8_19 : decode method_2_code 19 = .ok (.iload_n 0, 1) := by decide +kernel
theorem own_d8_20 : decode method_2_code 20 = .ok (.iconst 1, 1) := by decide +kernel
theorem own_d8_21 : decode method_2_code 21 = .ok (.ishr, 1) := by decide +kernel
theorem own_d8_22 : decode method_2_code 22 = .ok (.iconst 1, 1) := by decide +kernel
theorem own_d8_23 : decode method_2_code 23 = .ok (.iand, 1) := by decide +kernel
theorem own_d8_24 : decode method_2_code 24 = .ok (.iload_n 2, 1) := by decide +kernel
theorem own_d8_25 : decode method_2_code 25 = .ok (.sipush 255, 3) := by decide +kernel
theorem own_d8_28 : decode method_2_code 28 = .ok (.iand, 1) := by decide +kernel
theorem own_d8_29 : decode method_2_code 29 = .ok (.ixor, 1) := by decide +kernel
theorem own_d8_30 : decode method_2_code 30 = .ok (.i2c, 1) := by decide +kernel
theorem own_d8_31 : decode method_2_code 31 = .ok (.castore, 1) := by decide +kernel
theorem own_d8_32 : decode method_2_code 32 = .ok (.new 7, 3) := by decide +kernel
theorem own_d8_35 : decode method_2_code 35 = .ok (.dup, 1) := by decide +kernel
theorem own_d8_36 : decode method_2_code 36 = .ok (.aload_n 3, 1) := by decide +kernel
theorem own_d8_37 : decode method_2_code 37 = .ok (.invokespecial 9, 3) := by decide +kernel
theorem own_pd_1 : parseMethodDescriptor "([C)V" = some ⟨[(.array .char)], none⟩ := by decide +kernel
theorem own_d8_40 : decode method_2_code 40 = .ok (.areturn, 1) := by decide +kernel
theorem own_ef_id (m : MethodId) (x0 : Int32) (x1 : Int32) (x2 : Int32) : entryFrame m #[(.int x0), (.int x1), (.int x2)] 4 = mkF m 0 #[iv x0, iv x1, iv x2, .unset] [] := by first | (simp [entryFrame, mkF, argsToLocals, Value.category]; done) | rfl
def Q_id (Z : State) (c1 p1 q1 G1 : Int32) (h0 : Heap) (n0 : Nat) (v : Option Value) (h : Heap) (L : List Loc) : Prop := ∃ a, v = some (.ref a) ∧ Fr n0 L ∧ Keep h0 h [] ∧ StrB Z h h.size a (own_id c1 p1 q1)
set_option maxRecDepth 65536 in
set_option maxHeartbeats 40000000 in
theorem rm_id (l : Launch) (Z : State) (a0 : Array Value) (hw : ∀ d ∈ tables_1, d.before a0 Z = true) (ws : List Jvm.Cond) (c1 p1 q1 G1 : Int32) (h0 : Heap) (n0 : Nat) (Z0 : n0 ≤ h0.size) (X00 : Old Z n0 h0) (O2 : Sta Z Z.heap "java/lang/String" "COMPACT_STRINGS" "Z" (.int G1)) (P5 : ¬ (G1 = (0 : Int32))) :
    MetFree l (⟨"com/example/bulkhead/bulkhead/registry/LoopCheckCameBackPinLaw", "id", "(III)Ljava/lang/String;"⟩ : MethodName) (head1 (Jvm.Cond.code (⟨"com/example/bulkhead/bulkhead/registry/LoopCheckCameBackPinLaw", "id", "(III)Ljava/lang/String;"⟩ : MethodName) method_2_code 4 (some (.object "java/lang/String")) :: ws) ({ frames := 5, cells := 3, slots := 8, locals := 80 } : Room)) (fun a U => a = #[(.int c1), (.int p1), (.int q1)] ∧ Z.Warmed39 U.vm ∧ U.heap = h0) (fun _ _ _ _ _ => True) (fun _ U o U' => ∃ v L, o = .returned v ∧ Q_id Z c1 p1 q1 G1 h0 n0 v U'.heap L ∧ FrameEnd U o U' L ({ frames := 5, cells := 3, slots := 8, locals := 80 } : Room).cells ({ frames := 5, cells := 3, slots := 8, locals := 80 } : Room).slots) := by
  refine MetFree.of_bodySF (plainFor_of_name own_pn_1) hisR ?_
  intro p e s m args below meth c s₁ Bd hml0 hP hK
  obtain ⟨rfl, hZ, hh⟩ := hP
  have hx := Bd.exec
  have hby := Bd.bytes
  have hml : c.maxLocals = 4 := hml0
  have hown : s.vm.findClass "com/example/bulkhead/bulkhead/registry/LoopCheckCameBackPinLaw" = some m.cls := findClass_of_methodNamed Bd.named
  have hnm := (name_of_methodNamed Bd.named Bd.method).1
  have W := own_W hw
  have X0 : Stand p l e ({ frames := 5, cells := 3, slots := 8, locals := 80 } : Room) s m #[(.int c1), (.int p1), (.int q1)] below meth c s₁ [] 0 0 := Stand.of_body Bd
  have e0 : s₁.heap = h0 := by rw [← hh, Bd.state]; rfl
  have N0 := Fr.nil n0
  have pre0 : ∀ t, Steps p.tables e below (s₁.setTop (mkF m 0 #[iv c1, iv p1, iv q1, .unset] [])) t → Steps p.tables e below (s₁.setTop (entryFrame m #[(.int c1), (.int p1), (.int q1)] 4)) t := fun t k => castTop (own_ef_id m c1 p1 q1) k
  have K2 : Keep h0 h0 [] := Keep.refl h0 []
  have hws : ∀ d ∈ StrChars.Road.words, d.before a0 Z = true := fun d hd => hw d ((by decide +kernel : ∀ d ∈ StrChars.Road.words, d ∈ tables_1) d hd)
  obtain ⟨T3, h3, k3, X3, e3, E3, A3, st3⟩ := newP X0 hx hZ (W 4 rfl) e0 (g := (mkF m 1 #[iv c1, iv p1, iv q1, .unset] [.int 2])) rfl (hb hby own_d8_1) rfl (by decide : ¬ ((2 : Int32) < (0 : Int32))) (cap := 2) (by decide) (by decide) (by decide) (by decide)
  obtain ⟨b3, g3⟩ : ∃ z, z = h0.size := ⟨_, rfl⟩
  rw [← g3] at A3 st3
  have g4 : n0 ≤ b3 := Nat.le_trans Z0 (Nat.le_of_eq g3.symm)
  have g5 : h0.size ≤ b3 := Nat.le_trans K2.1 (Nat.le_of_eq g3.symm)
  have Z6 : n0 ≤ h3.size := Nat.le_trans Z0 E3.1
  have O7 : Old Z n0 h3 := X00.ext E3
  have K8 : Keep h0 h3 [] := K2.ext E3
  have V3 : Arv Z h3 b3 k3 .char (2 : Int32) [(.int (0 : Int32)), (.int (0 : Int32))] (.int (0 : Int32)) := (Arv.new A3 (by decide : ¬ ((2 : Int32) < (0 : Int32)))).pad (pad_rep [] (.int (0 : Int32)) 2)
  obtain ⟨cl9, Ar9, aq9, aS9, aN9, aH9, aG9⟩ := id V3
  obtain ⟨T10, h10, X10, e10, W10, st10⟩ := stC X3 hx hZ e3 Ar9 (j := (0 : Int32)) (inb_of aS9 ⟨(by decide), (by decide)⟩) (g := (mkF m 16 #[iv c1, iv p1, iv q1, rv b3] [.int (((c1 &&& (1 : Int32)) ^^^ (p1 &&& (255 : Int32))).toUInt32.toUInt16.toUInt32.toInt32), .int 0, .ref b3])) rfl rfl (hb hby own_d8_16)
  have N10 := Fr.snoc X10 N0 g4
  have V10 : Arv Z h10 b3 k3 .char (2 : Int32) [(.int (nar .char (((c1 &&& (1 : Int32)) ^^^ (p1 &&& (255 : Int32))).toUInt32.toUInt16.toUInt32.toInt32))), (.int (0 : Int32))] (.int (0 : Int32)) := Arv.set Ar9 aq9 aS9 aN9 aH9 aG9 (fits_nar_char _) W10 0 rfl (Nat.le_of_ble_eq_true rfl)
  have Z11 : n0 ≤ h10.size := Nat.le_trans Z6 (Keep.of_wr W10).1
  have O12 : Old Z n0 h10 := O7.wr W10 g4
  have K13 : Keep h0 h10 [] := K8.wr W10 (Or.inr g5)
  obtain ⟨cl14, Ar14, aq14, aS14, aN14, aH14, aG14⟩ := id V10
  obtain ⟨T15, h15, X15, e15, W15, st15⟩ := stC X10 hx hZ e10 Ar14 (j := (1 : Int32)) (inb_of aS14 ⟨(by decide), (by decide)⟩) (g := (mkF m 31 #[iv c1, iv p1, iv q1, rv b3] [.int ((((c1 >>> ((1 : Int32) &&& 31)) &&& (1 : Int32)) ^^^ (q1 &&& (255 : Int32))).toUInt32.toUInt16.toUInt32.toInt32), .int 1, .ref b3])) rfl rfl (hb hby own_d8_31)
  have N15 := Fr.snoc X15 N10 g4
  have V15 : Arv Z h15 b3 k3 .char (2 : Int32) [(.int (nar .char (((c1 &&& (1 : Int32)) ^^^ (p1 &&& (255 : Int32))).toUInt32.toUInt16.toUInt32.toInt32))), (.int (nar .char ((((c1 >>> ((1 : Int32) &&& 31)) &&& (1 : Int32)) ^^^ (q1 &&& (255 : Int32))).toUInt32.toUInt16.toUInt32.toInt32)))] (.int (0 : Int32)) := Arv.set Ar14 aq14 aS14 aN14 aH14 aG14 (fits_nar_char _) W15 1 rfl (Nat.le_of_ble_eq_true rfl)
  have Z16 : n0 ≤ h15.size := Nat.le_trans Z11 (Keep.of_wr W15).1
  have O17 : Old Z n0 h15 := O12.wr W15 g4
  have K18 : Keep h0 h15 [] := K13.wr W15 (Or.inr g5)
  obtain ⟨T19, h19, X19, e19, E19, A19, D19, -, st19⟩ := newO X15 hx hZ hown (W 5 rfl) (W 6 rfl) (W 7 rfl) e15 (g := (mkF m 32 #[iv c1, iv p1, iv q1, rv b3] [])) rfl (hb hby own_d8_32) (by decide) (by decide)
  obtain ⟨b19, g19⟩ : ∃ z, z = h15.size := ⟨_, rfl⟩
  rw [← g19] at A19 D19 st19
  have g20 : n0 ≤ b19 := Nat.le_trans Z16 (Nat.le_of_eq g19.symm)
  have g21 : h0.size ≤ b19 := Nat.le_trans K18.1 (Nat.le_of_eq g19.symm)
  have Z22 : n0 ≤ h19.size := Nat.le_trans Z16 E19.1
  have O23 : Old Z n0 h19 := O17.ext E19
  have K24 : Keep h0 h19 [] := K18.ext E19
  have F25 : Fld Z h19 b19 "java/lang/String" "coder" "B" (.int (0 : Int32)) := D19 (Or.inr (W 31 rfl)) (ty := .byte) (by decide)
  have F26 : Fld Z h19 b19 "java/lang/String" "value" "[B" .null := D19 (Or.inr (W 33 rfl)) (ty := (.array .byte)) (by decide)
  have f27 := (V15.ext E19)
  obtain ⟨_, _, ⟨T28, L28, k28, n28⟩, -, X28, ⟨Lc28, hQ28, l28, y28, z28⟩, st28⟩ := X19.specialBack hx (y := (⟨"java/lang/String", "<init>", "([C)V"⟩ : MethodName)) rfl hown (mvT hZ (W 8 rfl)) (mvT hZ (W 9 rfl)) (mvT hZ (W 10 rfl)) (by decide) (StrChars.Road.backV (W := 1) hZ hws (kI := 4) (W 6 rfl) (cs := own_id c1 p1 q1) (bs := (own_id c1 p1 q1).map (fun c => c.toInt8.toInt32)) (n := 2) g20 Z22 A19 F26 F25 f27 (O2.ext O23.2) P5 rfl rfl (by decide) (by decide) (own_id_ok c1 p1 q1) rfl (by decide) (by decide)) (g := (mkF m 37 #[iv c1, iv p1, iv q1, rv b3] [.ref b3, .ref b19, .ref b19])) rfl (by rw [hml]; rfl) (Steps.refl _) (a := b19) (argsL := [.ref b3]) (rest := [.ref b19]) (lenOf own_pd_1 rfl) rfl (by show 2 * 0 + _ ≤ _; exact Nat.le_of_eq rfl) (hb hby own_d8_37) (fun _ _ => ⟨rfl, e19, (by decide : 2 + 1 ≤ _), (by decide : 6 + 2 ≤ _)⟩)
  dsimp only [Pt.U, Pt.locs, Pt.cells, Pt.slots] at X28 l28 y28 z28 st28 hQ28
  subst l28 y28 z28
  obtain ⟨rfl, Nq28, K28, gE28, gC28, t28, kb28, tu28, tv28, tw28, gV28, gA28⟩ := hQ28
  have N28 := Fr.app N15 Nq28
  have Z29 : n0 ≤ T28.heap.size := Nat.le_trans Z22 K28.1
  have O30 : Old Z n0 T28.heap := O23.keep K28 (allS g20 all0)
  have K31 : Keep h0 T28.heap [] := K24.trans K28 (allS (Or.inr g21) all0)
  have hS : StrB Z T28.heap T28.heap.size b19 (own_id c1 p1 q1) := ⟨gE28.lt, gE28, t28, kb28, 0, 2, _, gA28.lt, gV28, gC28, gA28, StrChars.Road.codOf (n := 2) rfl (fun c hc => (own_id_ok c1 p1 q1 c hc).2), own_up _ (own_id_ok c1 p1 q1), (by show 2 ≤ 4000; decide)⟩
  obtain ⟨fs, hr, hrun, hended, hW, hsame⟩ := X28.leave (v := some (.ref b19)) (fun h => by rw [Bd.returns] at h; cases h)
  refine ⟨_, _, pre0 _ (?_), hrun, hended, _, _, rfl, ?_, ⟨_, rfl⟩, hW, hsame.mono (by decide) (by decide)⟩
  · show Steps p.tables e below (s₁.setTop (mkF m 0 #[iv c1, iv p1, iv q1, .unset] [])) _
    refine XS.iconst X0.here hx rfl (hb hby own_d8_0) ?_
    show Steps _ _ _ (s₁.setTop (mkF m 1 _ [.int 2])) _
    refine st3 _ ?_
    show Steps p.tables e below (T3.setTop (mkF m 3 #[iv c1, iv p1, iv q1, .unset] [.ref b3])) _
    refine XS.astoreN X3.here hx rfl (hb hby own_d8_3) rfl rfl (l' := #[iv c1, iv p1, iv q1, rv b3]) rfl ?_
    show Steps _ _ _ (T3.setTop (mkF m 4 _ [])) _
    refine XS.aloadN X3.here hx rfl (hb hby own_d8_4) rfl rfl ?_
    show Steps _ _ _ (T3.setTop (mkF m 5 _ [.ref b3])) _
    refine XS.iconst X3.here hx rfl (hb hby own_d8_5) ?_
    show Steps _ _ _ (T3.setTop (mkF m 6 _ [.int 0, .ref b3])) _
    refine XS.iloadN X3.here hx rfl (hb hby own_d8_6) rfl ?_
    show Steps _ _ _ (T3.setTop (mkF m 7 _ [.int c1, .int 0, .ref b3])) _
    refine XS.iconst X3.here hx rfl (hb hby own_d8_7) ?_
    show Steps _ _ _ (T3.setTop (mkF m 8 _ [.int 1, .int c1, .int 0, .ref b3])) _
    refine XS.iand X3.here hx rfl (hb hby own_d8_8) rfl ?_
    show Steps _ _ _ (T3.setTop (mkF m 9 _ [.int (c1 &&& (1 : Int32)), .int 0, .ref b3])) _
    refine XS.iloadN X3.here hx rfl (hb hby own_d8_9) rfl ?_
    show Steps _ _ _ (T3.setTop (mkF m 10 _ [.int p1, .int (c1 &&& (1 : Int32)), .int 0, .ref b3])) _
    refine XS.sipush X3.here hx rfl (hb hby own_d8_10) ?_
    show Steps p.tables e below (T3.setTop (mkF m 13 #[iv c1, iv p1, iv q1, rv b3] [.int 255, .int p1, .int (c1 &&& (1 : Int32)), .int 0, .ref b3])) _
    refine XS.iand X3.here hx rfl (hb hby own_d8_13) rfl ?_
    show Steps _ _ _ (T3.setTop (mkF m 14 _ [.int (p1 &&& (255 : Int32)), .int (c1 &&& (1 : Int32)), .int 0, .ref b3])) _
    refine XS.ixor X3.here hx rfl (hb hby own_d8_14) rfl ?_
    show Steps _ _ _ (T3.setTop (mkF m 15 _ [.int ((c1 &&& (1 : Int32)) ^^^ (p1 &&& (255 : Int32))), .int 0, .ref b3])) _
    refine XS.i2c X3.here hx rfl (hb hby own_d8_15) rfl ?_
    show Steps _ _ _ (T3.setTop (mkF m 16 _ [.int (((c1 &&& (1 : Int32)) ^^^ (p1 &&& (255 : Int32))).toUInt32.toUInt16.toUInt32.toInt32), .int 0, .ref b3])) _
    refine st10 _ ?_
    show Steps p.tables e below (T10.setTop (mkF m 17 #[iv c1, iv p1, iv q1, rv b3] [])) _
    refine XS.aloadN X10.here hx rfl (hb hby own_d8_17) rfl rfl ?_
    show Steps _ _ _ (T10.setTop (mkF m 18 _ [.ref b3])) _
    refine XS.iconst X10.here hx rfl (hb hby own_d8_18) ?_
    show Steps _ _ _ (T10.setTop (mkF m 19 _ [.int 1, .ref b3])) _
    refine XS.iloadN X10.here hx rfl (hb hby own_d8_19) rfl ?_
    show Steps _ _ _ (T10.setTop (mkF m 20 _ [.int c1, .int 1, .ref b3])) _
    refine XS.iconst X10.here hx rfl (hb hby own_d8_20) ?_
    show Steps _ _ _ (T10.setTop (mkF m 21 _ [.int 1, .int c1, .int 1, .ref b3])) _
    refine XS.ishr X10.here hx rfl (hb hby own_d8_21) rfl ?_
    show Steps _ _ _ (T10.setTop (mkF m 22 _ [.int (c1 >>> ((1 : Int32) &&& 31)), .int 1, .ref b3])) _
    refine XS.iconst X10.here hx rfl (hb hby own_d8_22) ?_
    show Steps _ _ _ (T10.setTop (mkF m 23 _ [.int 1, .int (c1 >>> ((1 : Int32) &&& 31)), .int 1, .ref b3])) _
    refine XS.iand X10.here hx rfl (hb hby own_d8_23) rfl ?_
    show Steps _ _ _ (T10.setTop (mkF m 24 _ [.int ((c1 >>> ((1 : Int32) &&& 31)) &&& (1 : Int32)), .int 1, .ref b3])) _
    refine XS.iloadN X10.here hx rfl (hb hby own_d8_24) rfl ?_
    show Steps p.tables e below (T10.setTop (mkF m 25 #[iv c1, iv p1, iv q1, rv b3] [.int q1, .int ((c1 >>> ((1 : Int32) &&& 31)) &&& (1 : Int32)), .int 1, .ref b3])) _
    refine XS.sipush X10.here hx rfl (hb hby own_d8_25) ?_
    show Steps _ _ _ (T10.setTop (mkF m 28 _ [.int 255, .int q1, .int ((c1 >>> ((1 : Int32) &&& 31)) &&& (1 : Int32)), .int 1, .ref b3])) _
    refine XS.iand X10.here hx rfl (hb hby own_d8_28) rfl ?_
    show Steps _ _ _ (T10.setTop (mkF m 29 _ [.int (q1 &&& (255 : Int32)), .int ((c1 >>> ((1 : Int32) &&& 31)) &&& (1 : Int32)), .int 1, .ref b3])) _
    refine XS.ixor X10.here hx rfl (hb hby own_d8_29) rfl ?_
    show Steps _ _ _ (T10.setTop (mkF m 30 _ [.int (((c1 >>> ((1 : Int32) &&& 31)) &&& (1 : Int32)) ^^^ (q1 &&& (255 : Int32))), .int 1, .ref b3])) _
    refine XS.i2c X10.here hx rfl (hb hby own_d8_30) rfl ?_
    show Steps _ _ _ (T10.setTop (mkF m 31 _ [.int ((((c1 >>> ((1 : Int32) &&& 31)) &&& (1 : Int32)) ^^^ (q1 &&& (255 : Int32))).toUInt32.toUInt16.toUInt32.toInt32), .int 1, .ref b3])) _
    refine st15 _ ?_
    show Steps p.tables e below (T15.setTop (mkF m 32 #[iv c1, iv p1, iv q1, rv b3] [])) _
    refine st19 _ ?_
    show Steps p.tables e below (T19.setTop (mkF m 35 #[iv c1, iv p1, iv q1, rv b3] [.ref b19])) _
    refine XS.dup X19.here hx rfl (hb hby own_d8_35) rfl rfl ?_
    show Steps _ _ _ (T19.setTop (mkF m 36 _ [.ref b19, .ref b19])) _
    refine XS.aloadN X19.here hx rfl (hb hby own_d8_36) rfl rfl ?_
    show Steps _ _ _ (T19.setTop (mkF m 37 _ [.ref b3, .ref b19, .ref b19])) _
    refine st28.trans ?_
    show Steps p.tables e below (T28.setTop (mkF m 40 #[iv c1, iv p1, iv q1, rv b3] [.ref b19])) _
    exact retOut X28 hx Bd.returns rfl (Or.inr (Or.inr (Or.inr (Or.inr ⟨rfl, rfl, rfl⟩)))) (hb hby own_d8_40) hr
  · show Q_id Z c1 p1 q1 G1 h0 n0 _ T28.heap _
    exact ⟨b19, rfl, N28, K31, hS⟩
theorem own_pn_0 : plainName "com/example/bulkhead/bulkhead/registry/LoopCheck" = true := by first | (simp [plainName, overriddenIn]; done) | decide +kernel
theorem own_d10_0 : decode prog_74_method_1_code 0 = .ok (.aload_n 0, 1) := by decide +kernel
theorem own_d10_1 : decode prog_74_method_1_code 1 = .ok (.invokespecial 1, 3) := by decide +kernel
theorem own_d10_4 : decode prog_74_method_1_code 4 = .ok (.aload_n 0, 1) := by decide +kernel
theorem own_d10_5 : decode prog_74_method_1_code 5 = .ok (.lconst 1, 1) := by decide +kernel
theorem own_d10_6 : decode prog_74_method_1_code 6 = .ok (.putfield 7, 3) := by decide +kernel
theorem own_d10_9 : decode prog_74_method_1_code 9 = .ok (.return_, 1) := by decide +kernel
theorem own_ef_init (m : MethodId) (x0 : Addr) : entryFrame m #[(.ref x0)] 1 = mkF m 0 #[rv x0] [] := by first | (simp [entryFrame, mkF, argsToLocals, Value.category]; done) | rfl
def Q_init (Z : State) (a1 : Addr) (h0 : Heap) (n0 : Nat) (v : Option Value) (h : Heap) (L : List Loc) : Prop := v = none ∧ Fr n0 L ∧ Keep h0 h [a1] ∧ Exa Z h a1 "com/example/bulkhead/bulkhead/registry/LoopCheck" ∧ Fld Z h a1 "com/example/bulkhead/bulkhead/registry/LoopCheck" "kept" "Ljava/lang/String;" .null ∧ Fld Z h a1 "com/example/bulkhead/bulkhead/registry/LoopCheck" "stepsSinceKept" "J" (.long (0 : Int64)) ∧ Fld Z h a1 "com/example/bulkhead/bulkhead/registry/LoopCheck" "stepsToNextKeep" "J" (.long (1 : Int64))
set_option maxRecDepth 65536 in
set_option maxHeartbeats 40000000 in
theorem rm_init (l : Launch) (Z : State) (a0 : Array Value) (hw : ∀ d ∈ tables_1, d.before a0 Z = true) (ws : List Jvm.Cond) (a1 : Addr) (h0 : Heap) (n0 : Nat) (Z0 : n0 ≤ h0.size) (E1 : Exa Z h0 a1 "com/example/bulkhead/bulkhead/registry/LoopCheck") (g1 : n0 ≤ a1) (F1 : Fld Z h0 a1 "com/example/bulkhead/bulkhead/registry/LoopCheck" "kept" "Ljava/lang/String;" .null) (F2 : Fld Z h0 a1 "com/example/bulkhead/bulkhead/registry/LoopCheck" "stepsSinceKept" "J" (.long (0 : Int64))) (F3 : Fld Z h0 a1 "com/example/bulkhead/bulkhead/registry/LoopCheck" "stepsToNextKeep" "J" (.long (0 : Int64))) :
    MetFree l (⟨"com/example/bulkhead/bulkhead/registry/LoopCheck", "<init>", "()V"⟩ : MethodName) (head1 (Jvm.Cond.code (⟨"com/example/bulkhead/bulkhead/registry/LoopCheck", "<init>", "()V"⟩ : MethodName) prog_74_method_1_code 1 none :: ws) ({ frames := 1, cells := 0, slots := 0, locals := 12 } : Room)) (fun a U => a = #[(.ref a1)] ∧ Z.Warmed39 U.vm ∧ U.heap = h0) (fun _ _ _ _ _ => True) (fun _ U o U' => ∃ v L, o = .returned v ∧ Q_init Z a1 h0 n0 v U'.heap L ∧ FrameEnd U o U' L ({ frames := 1, cells := 0, slots := 0, locals := 12 } : Room).cells ({ frames := 1, cells := 0, slots := 0, locals := 12 } : Room).slots) := by
  refine MetFree.of_bodySF (plainFor_of_name own_pn_0) hisR ?_
  intro p e s m args below meth c s₁ Bd hml0 hP hK
  obtain ⟨rfl, hZ, hh⟩ := hP
  have hx := Bd.exec
  have hby := Bd.bytes
  have hml : c.maxLocals = 1 := hml0
  have hown : s.vm.findClass "com/example/bulkhead/bulkhead/registry/LoopCheck" = some m.cls := findClass_of_methodNamed Bd.named
  have hnm := (name_of_methodNamed Bd.named Bd.method).1
  have W := own_W hw
  have X0 : Stand p l e ({ frames := 1, cells := 0, slots := 0, locals := 12 } : Room) s m #[(.ref a1)] below meth c s₁ [] 0 0 := Stand.of_body Bd
  have e0 : s₁.heap = h0 := by rw [← hh, Bd.state]; rfl
  have N0 := Fr.nil n0
  have pre0 : ∀ t, Steps p.tables e below (s₁.setTop (mkF m 0 #[rv a1] [])) t → Steps p.tables e below (s₁.setTop (entryFrame m #[(.ref a1)] 1)) t := fun t k => castTop (own_ef_init m a1) k
  have K32 : Keep h0 h0 [a1] := Keep.refl h0 [a1]
  obtain ⟨T33, X33, e33, st33⟩ := initO X0 hx hZ hown (W 40 rfl) (W 16 rfl) (W 17 rfl) e0 (g := (mkF m 1 #[rv a1] [.ref a1])) rfl (by rw [hml]; rfl) rfl (hb hby own_d10_1) (by decide) (W := 0) (by show 2 * 0 + _ ≤ _; exact Nat.le_of_eq rfl) (by decide)
  obtain ⟨T34, h34, X34, e34, W34, st34⟩ := putF X33 hx hZ hown (host := "") (Or.inl (W 41 rfl)) Via.refl e33 F3 E1 (Or.inl (W 42 rfl)) (W 35 rfl) (ty := .long) (by decide) rfl rfl (g := (mkF m 6 #[rv a1] [.long 1, .ref a1])) rfl rfl (hb hby own_d10_6)
  have N34 := Fr.snoc X34 N0 g1
  have Fw34 := F3.same W34
  have Z35 : n0 ≤ h34.size := Nat.le_trans Z0 (Keep.of_wr W34).1
  have K36 : Keep h0 h34 [a1] := K32.wr W34 (Or.inl (List.mem_of_getElem? (i := 0) rfl))
  have f37 := (E1.wr W34)
  have f38 := (F1.other W34 (Or.inr (slot_ne (Or.inl (W 49 rfl)) (Or.inl (W 42 rfl)) (by decide) (t := (.object "java/lang/String")) (t' := .long) (by decide) (by decide))))
  have f39 := (F2.other W34 (Or.inr (slot_ne (Or.inl (W 56 rfl)) (Or.inl (W 42 rfl)) (by decide) (t := .long) (t' := .long) (by decide) (by decide))))
  obtain ⟨fs, hr, hrun, hended, hW, hsame⟩ := X34.leave (v := none) (fun _ => rfl)
  refine ⟨_, _, pre0 _ (?_), hrun, hended, _, _, rfl, ?_, ⟨_, rfl⟩, hW, hsame.mono (by decide) (by decide)⟩
  · show Steps p.tables e below (s₁.setTop (mkF m 0 #[rv a1] [])) _
    refine XS.aloadN X0.here hx rfl (hb hby own_d10_0) rfl rfl ?_
    show Steps _ _ _ (s₁.setTop (mkF m 1 _ [.ref a1])) _
    refine st33 _ ?_
    show Steps p.tables e below (T33.setTop (mkF m 4 #[rv a1] [])) _
    refine XS.aloadN X33.here hx rfl (hb hby own_d10_4) rfl rfl ?_
    show Steps _ _ _ (T33.setTop (mkF m 5 _ [.ref a1])) _
    refine XS.lconst X33.here hx rfl (hb hby own_d10_5) ?_
    show Steps _ _ _ (T33.setTop (mkF m 6 _ [.long 1, .ref a1])) _
    refine st34 _ ?_
    show Steps p.tables e below (T34.setTop (mkF m 9 #[rv a1] [])) _
    exact X34.returnOut hx Bd.returns (hb hby own_d10_9) hr
  · show Q_init Z a1 h0 n0 _ T34.heap _
    rw [e34]
    exact ⟨rfl, N34, K36, f37, f38, f39, Fw34⟩
theorem own_d11_0 : decode prog_74_method_2_code 0 = .ok (.aload_n 1, 1) := by decide +kernel
theorem own_d11_1 : decode prog_74_method_2_code 1 = .ok (.aload_n 0, 1) := by decide +kernel
theorem own_d11_2 : decode prog_74_method_2_code 2 = .ok (.getfield 13, 3) := by decide +kernel
theorem own_d11_5 : decode prog_74_method_2_code 5 = .ok (.invokevirtual 17, 3) := by decide +kernel
theorem own_pd_8 : parseMethodDescriptor "(Ljava/lang/Object;)Z" = some ⟨[(.object "java/lang/Object")], some .boolean⟩ := by decide +kernel
theorem own_d11_8 : decode prog_74_method_2_code 8 = .ok (.ifCond .eq 5, 3) := by decide +kernel
theorem own_d11_13 : decode prog_74_method_2_code 13 = .ok (.aload_n 0, 1) := by decide +kernel
theorem own_d11_14 : decode prog_74_method_2_code 14 = .ok (.dup, 1) := by decide +kernel
theorem own_d11_15 : decode prog_74_method_2_code 15 = .ok (.getfield 23, 3) := by decide +kernel
theorem own_d11_18 : decode prog_74_method_2_code 18 = .ok (.lconst 1, 1) := by decide +kernel
theorem own_d11_19 : decode prog_74_method_2_code 19 = .ok (.ladd, 1) := by decide +kernel
theorem own_d11_20 : decode prog_74_method_2_code 20 = .ok (.putfield 23, 3) := by decide +kernel
theorem own_d11_23 : decode prog_74_method_2_code 23 = .ok (.aload_n 0, 1) := by decide +kernel
theorem own_d11_24 : decode prog_74_method_2_code 24 = .ok (.getfield 23, 3) := by decide +kernel
theorem own_d11_27 : decode prog_74_method_2_code 27 = .ok (.aload_n 0, 1) := by decide +kernel
theorem own_d11_28 : decode prog_74_method_2_code 28 = .ok (.getfield 7, 3) := by decide +kernel
theorem own_d11_31 : decode prog_74_method_2_code 31 = .ok (.lcmp, 1) := by decide +kernel
theorem own_d11_32 : decode prog_74_method_2_code 32 = .ok (.ifCond .ne 25, 3) := by decide +kernel
theorem own_d11_35 : decode prog_74_method_2_code 35 = .ok (.aload_n 0, 1) := by decide +kernel
theorem own_d11_36 : decode prog_74_method_2_code 36 = .ok (.aload_n 1, 1) := by decide +kernel
theorem own_d11_37 : decode prog_74_method_2_code 37 = .ok (.putfield 13, 3) := by decide +kernel
theorem own_d11_40 : decode prog_74_method_2_code 40 = .ok (.aload_n 0, 1) := by decide +kernel
theorem own_d11_41 : decode prog_74_method_2_code 41 = .ok (.lconst 0, 1) := by decide +kernel
theorem own_d11_42 : decode prog_74_method_2_code 42 = .ok (.putfield 23, 3) := by decide +kernel
theorem own_d11_45 : decode prog_74_method_2_code 45 = .ok (.aload_n 0, 1) := by decide +kernel
theorem own_d11_46 : decode prog_74_method_2_code 46 = .ok (.dup, 1) := by decide +kernel
theorem own_d11_47 : decode prog_74_method_2_code 47 = .ok (.getfield 7, 3) := by decide +kernel
theorem own_d11_50 : decode prog_74_method_2_code 50 = .ok (.ldc2_w 26, 3) := by decide +kernel
theorem own_d11_53 : decode prog_74_method_2_code 53 = .ok (.lmul, 1) := by decide +kernel
theorem own_d11_54 : decode prog_74_method_2_code 54 = .ok (.putfield 7, 3) := by decide +kernel
theorem own_d11_57 : decode prog_74_method_2_code 57 = .ok (.iconst 0, 1) := by decide +kernel
theorem own_d11_58 : decode prog_74_method_2_code 58 = .ok (.ireturn, 1) := by decide +kernel
theorem own_ef_cb0 (m : MethodId) (x0 : Addr) (x1 : Addr) : entryFrame m #[(.ref x0), (.ref x1)] 2 = mkF m 0 #[rv x0, rv x1] [] := by first | (simp [entryFrame, mkF, argsToLocals, Value.category]; done) | rfl
def Q_cb0 (Z : State) (a1 x1 : Addr) (h0 : Heap) (n0 : Nat) (v : Option Value) (h : Heap) (L : List Loc) : Prop := v = some (.int 0) ∧ Fr n0 L ∧ Keep h0 h [a1] ∧ Exa Z h a1 "com/example/bulkhead/bulkhead/registry/LoopCheck" ∧ Fld Z h a1 "com/example/bulkhead/bulkhead/registry/LoopCheck" "kept" "Ljava/lang/String;" (.ref x1) ∧ Fld Z h a1 "com/example/bulkhead/bulkhead/registry/LoopCheck" "stepsSinceKept" "J" (.long (0 : Int64)) ∧ Fld Z h a1 "com/example/bulkhead/bulkhead/registry/LoopCheck" "stepsToNextKeep" "J" (.long (2 : Int64))
set_option maxRecDepth 65536 in
set_option maxHeartbeats 40000000 in
theorem rm_cb0 (l : Launch) (Z : State) (a0 : Array Value) (hw : ∀ d ∈ tables_1, d.before a0 Z = true) (ws : List Jvm.Cond) (a1 x1 : Addr) (h0 : Heap) (n0 : Nat) (Z0 : n0 ≤ h0.size) (E1 : Exa Z h0 a1 "com/example/bulkhead/bulkhead/registry/LoopCheck") (g1 : n0 ≤ a1) (F1 : Fld Z h0 a1 "com/example/bulkhead/bulkhead/registry/LoopCheck" "kept" "Ljava/lang/String;" .null) (F2 : Fld Z h0 a1 "com/example/bulkhead/bulkhead/registry/LoopCheck" "stepsSinceKept" "J" (.long (0 : Int64))) (F3 : Fld Z h0 a1 "com/example/bulkhead/bulkhead/registry/LoopCheck" "stepsToNextKeep" "J" (.long (1 : Int64))) (EX : Exa Z h0 x1 "java/lang/String") :
    MetFree l (⟨"com/example/bulkhead/bulkhead/registry/LoopCheck", "cameBack", "(Ljava/lang/String;)Z"⟩ : MethodName) (head1 (Jvm.Cond.code (⟨"com/example/bulkhead/bulkhead/registry/LoopCheck", "cameBack", "(Ljava/lang/String;)Z"⟩ : MethodName) prog_74_method_2_code 2 (some .boolean) :: ws) ({ frames := 1, cells := 0, slots := 0, locals := 20 } : Room)) (fun a U => a = #[(.ref a1), (.ref x1)] ∧ Z.Warmed39 U.vm ∧ U.heap = h0) (fun _ _ _ _ _ => True) (fun _ U o U' => ∃ v L, o = .returned v ∧ Q_cb0 Z a1 x1 h0 n0 v U'.heap L ∧ FrameEnd U o U' L ({ frames := 1, cells := 0, slots := 0, locals := 20 } : Room).cells ({ frames := 1, cells := 0, slots := 0, locals := 20 } : Room).slots) := by
  refine MetFree.of_bodySF (plainFor_of_name own_pn_0) hisR ?_
  intro p e s m args below meth c s₁ Bd hml0 hP hK
  obtain ⟨rfl, hZ, hh⟩ := hP
  have hx := Bd.exec
  have hby := Bd.bytes
  have hml : c.maxLocals = 2 := hml0
  have hown : s.vm.findClass "com/example/bulkhead/bulkhead/registry/LoopCheck" = some m.cls := findClass_of_methodNamed Bd.named
  have hnm := (name_of_methodNamed Bd.named Bd.method).1
  have W := own_W hw
  have X0 : Stand p l e ({ frames := 1, cells := 0, slots := 0, locals := 20 } : Room) s m #[(.ref a1), (.ref x1)] below meth c s₁ [] 0 0 := Stand.of_body Bd
  have e0 : s₁.heap = h0 := by rw [← hh, Bd.state]; rfl
  have N0 := Fr.nil n0
  have pre0 : ∀ t, Steps p.tables e below (s₁.setTop (mkF m 0 #[rv a1, rv x1] [])) t → Steps p.tables e below (s₁.setTop (entryFrame m #[(.ref a1), (.ref x1)] 2)) t := fun t k => castTop (own_ef_cb0 m a1 x1) k
  have K40 : Keep h0 h0 [a1] := Keep.refl h0 [a1]
  obtain ⟨T41, X41, e41, st41⟩ := getF X0 hx hZ hown (host := "") (Or.inl (W 48 rfl)) Via.refl e0 F1 (g := (mkF m 2 #[rv a1, rv x1] [.ref a1, .ref x1])) rfl rfl (hb hby own_d11_2)
  obtain ⟨cq42, kq42, q42a, q42b, q42c⟩ := isOf hZ e41 EX
  obtain ⟨_, _, ⟨T42, L42, k42, n42⟩, -, X42, ⟨Lc42, hQ42, l42, y42, z42⟩, st42⟩ := X41.virtualBack hx (y := (⟨"java/lang/String", "equals", "(Ljava/lang/Object;)Z"⟩ : MethodName)) (z := (⟨"java/lang/String", "equals", "(Ljava/lang/Object;)Z"⟩ : MethodName)) hown (mvT hZ (W 50 rfl)) (mvT hZ (W 51 rfl)) (notFace_of_selects (args := #[]) (mvT hZ (W 53 rfl))) (mvT hZ (W 53 rfl)) (mvT hZ (W 52 rfl)) (by decide) (backOf (W := 0) (rm_eqn l Z a0 hw [] x1 h0 n0 Z0 ) hZ (W 54 rfl) (W 7 rfl) (by decide) (by decide)) q42a q42c (g := (mkF m 5 #[rv a1, rv x1] [.null, .ref x1])) rfl (by rw [hml]; rfl) (Steps.refl _) (argsL := [.null]) (rest := []) (lenOf own_pd_8 rfl) rfl (by show 2 * 0 + _ ≤ _; exact Nat.le_of_eq rfl) (hb hby own_d11_5) (fun _ _ => ⟨rfl, e41, (by decide : 0 + 0 ≤ _), (by decide : 0 + 0 ≤ _)⟩)
  dsimp only [Pt.U, Pt.locs, Pt.cells, Pt.slots] at X42 l42 y42 z42 st42 hQ42
  subst l42 y42 z42
  obtain ⟨rfl, Nq42, e42⟩ := hQ42
  have N42 := Fr.app N0 Nq42
  obtain ⟨T43, X43, e43, st43⟩ := getF X42 hx hZ hown (host := "") (Or.inl (W 55 rfl)) Via.refl e42 F2 (g := (mkF m 15 #[rv a1, rv x1] [.ref a1, .ref a1])) rfl rfl (hb hby own_d11_15)
  obtain ⟨T44, h44, X44, e44, W44, st44⟩ := putF X43 hx hZ hown (host := "") (Or.inl (W 55 rfl)) Via.refl e43 F2 E1 (Or.inl (W 56 rfl)) (W 35 rfl) (ty := .long) (by decide) rfl rfl (g := (mkF m 20 #[rv a1, rv x1] [.long 1, .ref a1])) rfl rfl (hb hby own_d11_20)
  have N44 := Fr.snoc X44 N42 g1
  have Fw44 := F2.same W44
  have Z45 : n0 ≤ h44.size := Nat.le_trans Z0 (Keep.of_wr W44).1
  have K46 : Keep h0 h44 [a1] := K40.wr W44 (Or.inl (List.mem_of_getElem? (i := 0) rfl))
  obtain ⟨T47, X47, e47, st47⟩ := getF X44 hx hZ hown (host := "") (Or.inl (W 55 rfl)) Via.refl e44 Fw44 (g := (mkF m 24 #[rv a1, rv x1] [.ref a1])) rfl rfl (hb hby own_d11_24)
  have f48 := (F3.other W44 (Or.inr (slot_ne (Or.inl (W 42 rfl)) (Or.inl (W 56 rfl)) (by decide) (t := .long) (t' := .long) (by decide) (by decide))))
  obtain ⟨T49, X49, e49, st49⟩ := getF X47 hx hZ hown (host := "") (Or.inl (W 41 rfl)) Via.refl e47 f48 (g := (mkF m 28 #[rv a1, rv x1] [.ref a1, .long 1])) rfl rfl (hb hby own_d11_28)
  have f51 := (F1.other W44 (Or.inr (slot_ne (Or.inl (W 49 rfl)) (Or.inl (W 56 rfl)) (by decide) (t := (.object "java/lang/String")) (t' := .long) (by decide) (by decide))))
  have f52 := (E1.wr W44)
  obtain ⟨T50, h50, X50, e50, W50, st50⟩ := putF X49 hx hZ hown (host := "") (Or.inl (W 48 rfl)) Via.refl e49 f51 f52 (Or.inl (W 49 rfl)) (W 35 rfl) (ty := (.object "java/lang/String")) (by decide) rfl rfl (g := (mkF m 37 #[rv a1, rv x1] [.ref x1, .ref a1])) rfl rfl (hb hby own_d11_37)
  have N50 := Fr.snoc X50 N44 g1
  have Fw50 := f51.same W50
  have Z53 : n0 ≤ h50.size := Nat.le_trans Z45 (Keep.of_wr W50).1
  have K54 : Keep h0 h50 [a1] := K46.wr W50 (Or.inl (List.mem_of_getElem? (i := 0) rfl))
  have f56 := (Fw44.other W50 (Or.inr (slot_ne (Or.inl (W 56 rfl)) (Or.inl (W 49 rfl)) (by decide) (t := .long) (t' := (.object "java/lang/String")) (by decide) (by decide))))
  have f57 := (f52.wr W50)
  obtain ⟨T55, h55, X55, e55, W55, st55⟩ := putF X50 hx hZ hown (host := "") (Or.inl (W 55 rfl)) Via.refl e50 f56 f57 (Or.inl (W 56 rfl)) (W 35 rfl) (ty := .long) (by decide) rfl rfl (g := (mkF m 42 #[rv a1, rv x1] [.long 0, .ref a1])) rfl rfl (hb hby own_d11_42)
  have N55 := Fr.snoc X55 N50 g1
  have Fw55 := f56.same W55
  have Z58 : n0 ≤ h55.size := Nat.le_trans Z53 (Keep.of_wr W55).1
  have K59 : Keep h0 h55 [a1] := K54.wr W55 (Or.inl (List.mem_of_getElem? (i := 0) rfl))
  have f60 := ((f48.other W50 (Or.inr (slot_ne (Or.inl (W 42 rfl)) (Or.inl (W 49 rfl)) (by decide) (t := .long) (t' := (.object "java/lang/String")) (by decide) (by decide)))).other W55 (Or.inr (slot_ne (Or.inl (W 42 rfl)) (Or.inl (W 56 rfl)) (by decide) (t := .long) (t' := .long) (by decide) (by decide))))
  obtain ⟨T61, X61, e61, st61⟩ := getF X55 hx hZ hown (host := "") (Or.inl (W 41 rfl)) Via.refl e55 f60 (g := (mkF m 47 #[rv a1, rv x1] [.ref a1, .ref a1])) rfl rfl (hb hby own_d11_47)
  have f63 := (f57.wr W55)
  obtain ⟨T62, h62, X62, e62, W62, st62⟩ := putF X61 hx hZ hown (host := "") (Or.inl (W 41 rfl)) Via.refl e61 f60 f63 (Or.inl (W 42 rfl)) (W 35 rfl) (ty := .long) (by decide) rfl rfl (g := (mkF m 54 #[rv a1, rv x1] [.long 2, .ref a1])) rfl rfl (hb hby own_d11_54)
  have N62 := Fr.snoc X62 N55 g1
  have Fw62 := f60.same W62
  have Z64 : n0 ≤ h62.size := Nat.le_trans Z58 (Keep.of_wr W62).1
  have K65 : Keep h0 h62 [a1] := K59.wr W62 (Or.inl (List.mem_of_getElem? (i := 0) rfl))
  have f66 := (f63.wr W62)
  have f67 := ((Fw50.other W55 (Or.inr (slot_ne (Or.inl (W 49 rfl)) (Or.inl (W 56 rfl)) (by decide) (t := (.object "java/lang/String")) (t' := .long) (by decide) (by decide)))).other W62 (Or.inr (slot_ne (Or.inl (W 49 rfl)) (Or.inl (W 42 rfl)) (by decide) (t := (.object "java/lang/String")) (t' := .long) (by decide) (by decide))))
  have f68 := (Fw55.other W62 (Or.inr (slot_ne (Or.inl (W 56 rfl)) (Or.inl (W 42 rfl)) (by decide) (t := .long) (t' := .long) (by decide) (by decide))))
  obtain ⟨fs, hr, hrun, hended, hW, hsame⟩ := X62.leave (v := some (.int (0 : Int32))) (fun h => by rw [Bd.returns] at h; cases h)
  refine ⟨_, _, pre0 _ (?_), hrun, hended, _, _, rfl, ?_, ⟨_, rfl⟩, hW, hsame.mono (by decide) (by decide)⟩
  · show Steps p.tables e below (s₁.setTop (mkF m 0 #[rv a1, rv x1] [])) _
    refine XS.aloadN X0.here hx rfl (hb hby own_d11_0) rfl rfl ?_
    show Steps _ _ _ (s₁.setTop (mkF m 1 _ [.ref x1])) _
    refine XS.aloadN X0.here hx rfl (hb hby own_d11_1) rfl rfl ?_
    show Steps _ _ _ (s₁.setTop (mkF m 2 _ [.ref a1, .ref x1])) _
    refine st41 _ ?_
    show Steps p.tables e below (T41.setTop (mkF m 5 #[rv a1, rv x1] [.null, .ref x1])) _
    refine st42.trans ?_
    show Steps p.tables e below (T42.setTop (mkF m 8 #[rv a1, rv x1] [.int 0])) _
    refine XS.ifYes X42.here hx rfl (pc0 := 8) (pc' := 13) rfl (hb hby own_d11_8) rfl ((if0 _ _).trans (teq (rfl : (0 : Int32) = (0 : Int32))).1) (by decide) (by decide) ?_
    show Steps _ _ _ (T42.setTop (mkF m 13 _ [])) _
    refine XS.aloadN X42.here hx rfl (hb hby own_d11_13) rfl rfl ?_
    show Steps _ _ _ (T42.setTop (mkF m 14 _ [.ref a1])) _
    refine XS.dup X42.here hx rfl (hb hby own_d11_14) rfl rfl ?_
    show Steps _ _ _ (T42.setTop (mkF m 15 _ [.ref a1, .ref a1])) _
    refine st43 _ ?_
    show Steps p.tables e below (T43.setTop (mkF m 18 #[rv a1, rv x1] [.long 0, .ref a1])) _
    refine XS.lconst X43.here hx rfl (hb hby own_d11_18) ?_
    show Steps _ _ _ (T43.setTop (mkF m 19 _ [.long 1, .long 0, .ref a1])) _
    refine XS.ladd X43.here hx rfl (hb hby own_d11_19) rfl ?_
    rw [show (0 : Int64) + 1 = 1 from rfl]
    show Steps p.tables e below (T43.setTop (mkF m 20 #[rv a1, rv x1] [.long 1, .ref a1])) _
    refine st44 _ ?_
    show Steps p.tables e below (T44.setTop (mkF m 23 #[rv a1, rv x1] [])) _
    refine XS.aloadN X44.here hx rfl (hb hby own_d11_23) rfl rfl ?_
    show Steps _ _ _ (T44.setTop (mkF m 24 _ [.ref a1])) _
    refine st47 _ ?_
    show Steps p.tables e below (T47.setTop (mkF m 27 #[rv a1, rv x1] [.long 1])) _
    refine XS.aloadN X47.here hx rfl (hb hby own_d11_27) rfl rfl ?_
    show Steps _ _ _ (T47.setTop (mkF m 28 _ [.ref a1, .long 1])) _
    refine st49 _ ?_
    show Steps p.tables e below (T49.setTop (mkF m 31 #[rv a1, rv x1] [.long 1, .long 1])) _
    refine XS.lcmp X49.here hx rfl (hb hby own_d11_31) rfl ?_
    show Steps _ _ _ (T49.setTop (mkF m 32 _ [.int (own_cmpL (1 : Int64) (1 : Int64))])) _
    refine XS.ifNo X49.here hx rfl (hb hby own_d11_32) rfl ((if0 _ _).trans (teq ((by decide) : (own_cmpL (1 : Int64) (1 : Int64)) = (0 : Int32))).2) ?_
    show Steps _ _ _ (T49.setTop (mkF m 35 _ [])) _
    refine XS.aloadN X49.here hx rfl (hb hby own_d11_35) rfl rfl ?_
    show Steps _ _ _ (T49.setTop (mkF m 36 _ [.ref a1])) _
    refine XS.aloadN X49.here hx rfl (hb hby own_d11_36) rfl rfl ?_
    show Steps _ _ _ (T49.setTop (mkF m 37 _ [.ref x1, .ref a1])) _
    refine st50 _ ?_
    show Steps p.tables e below (T50.setTop (mkF m 40 #[rv a1, rv x1] [])) _
    refine XS.aloadN X50.here hx rfl (hb hby own_d11_40) rfl rfl ?_
    show Steps _ _ _ (T50.setTop (mkF m 41 _ [.ref a1])) _
    refine XS.lconst X50.here hx rfl (hb hby own_d11_41) ?_
    show Steps _ _ _ (T50.setTop (mkF m 42 _ [.long 0, .ref a1])) _
    refine st55 _ ?_
    show Steps p.tables e below (T55.setTop (mkF m 45 #[rv a1, rv x1] [])) _
    refine XS.aloadN X55.here hx rfl (hb hby own_d11_45) rfl rfl ?_
    show Steps _ _ _ (T55.setTop (mkF m 46 _ [.ref a1])) _
    refine XS.dup X55.here hx rfl (hb hby own_d11_46) rfl rfl ?_
    show Steps _ _ _ (T55.setTop (mkF m 47 _ [.ref a1, .ref a1])) _
    refine st61 _ ?_
    show Steps p.tables e below (T61.setTop (mkF m 50 #[rv a1, rv x1] [.long 1, .ref a1])) _
    refine Jvm.Stand.ldc2J X61 hx hown (mvT hZ (W 57 rfl)) rfl (hb hby own_d11_50) ?_
    show Steps _ _ _ (T61.setTop (mkF m 53 _ [.long 2, .long 1, .ref a1])) _
    refine XS.lmul X61.here hx rfl (hb hby own_d11_53) rfl ?_
    rw [show (1 : Int64) * 2 = 2 from rfl]
    show Steps p.tables e below (T61.setTop (mkF m 54 #[rv a1, rv x1] [.long 2, .ref a1])) _
    refine st62 _ ?_
    show Steps p.tables e below (T62.setTop (mkF m 57 #[rv a1, rv x1] [])) _
    refine XS.iconst X62.here hx rfl (hb hby own_d11_57) ?_
    show Steps _ _ _ (T62.setTop (mkF m 58 _ [.int 0])) _
    exact retN X62 hx (t := .boolean) Bd.returns (by simp) (hb hby own_d11_58) hr
  · show Q_cb0 Z a1 x1 h0 n0 _ T62.heap _
    rw [e62]
    exact ⟨rfl, N62, K65, f66, f67, f68, Fw62⟩
theorem own_d11_11 : decode prog_74_method_2_code 11 = .ok (.iconst 1, 1) := by decide +kernel
theorem own_d11_12 : decode prog_74_method_2_code 12 = .ok (.ireturn, 1) := by decide +kernel
theorem own_ef_cbK (m : MethodId) (x0 : Addr) (x1 : Addr) : entryFrame m #[(.ref x0), (.ref x1)] 2 = mkF m 0 #[rv x0, rv x1] [] := by first | (simp [entryFrame, mkF, argsToLocals, Value.category]; done) | rfl
def Q_cbK (Z : State) (a1 x1 k1 : Addr) (s1 n1 m1 : Int64) (cs ds : List Int32) (bx bk : Nat) (G1 : Int32) (h0 : Heap) (n0 : Nat) (v : Option Value) (h : Heap) (L : List Loc) : Prop := (v = some (.int 1) ∧ cs = ds ∧ Fr n0 L) ∨ (v = some (.int 0) ∧ ¬ cs = ds ∧ Fr n0 L ∧ Keep h0 h [a1] ∧ Exa Z h a1 "com/example/bulkhead/bulkhead/registry/LoopCheck" ∧ Fld Z h a1 "com/example/bulkhead/bulkhead/registry/LoopCheck" "kept" "Ljava/lang/String;" (.ref x1) ∧ Fld Z h a1 "com/example/bulkhead/bulkhead/registry/LoopCheck" "stepsSinceKept" "J" (.long (0 : Int64)) ∧ Fld Z h a1 "com/example/bulkhead/bulkhead/registry/LoopCheck" "stepsToNextKeep" "J" (.long m1))
set_option maxRecDepth 65536 in
set_option maxHeartbeats 40000000 in
theorem rm_cbK (l : Launch) (Z : State) (a0 : Array Value) (hw : ∀ d ∈ tables_1, d.before a0 Z = true) (ws : List Jvm.Cond) (a1 x1 k1 : Addr) (s1 n1 m1 : Int64) (cs ds : List Int32) (bx bk : Nat) (G1 : Int32) (h0 : Heap) (n0 : Nat) (Z0 : n0 ≤ h0.size) (X00 : Old Z n0 h0) (E1 : Exa Z h0 a1 "com/example/bulkhead/bulkhead/registry/LoopCheck") (g1 : n0 ≤ a1) (F1 : Fld Z h0 a1 "com/example/bulkhead/bulkhead/registry/LoopCheck" "kept" "Ljava/lang/String;" (.ref k1)) (F2 : Fld Z h0 a1 "com/example/bulkhead/bulkhead/registry/LoopCheck" "stepsSinceKept" "J" (.long s1)) (F3 : Fld Z h0 a1 "com/example/bulkhead/bulkhead/registry/LoopCheck" "stepsToNextKeep" "J" (.long n1)) (SX : StrB Z h0 bx x1 cs) (SK : StrB Z h0 bk k1 ds) (h1 : s1 + 1 = n1) (h2 : n1 * 2 = m1) (O2 : Sta Z Z.heap "java/lang/String" "COMPACT_STRINGS" "Z" (.int G1)) (P5 : ¬ (G1 = (0 : Int32))) :
    MetFree l (⟨"com/example/bulkhead/bulkhead/registry/LoopCheck", "cameBack", "(Ljava/lang/String;)Z"⟩ : MethodName) (head1 (Jvm.Cond.code (⟨"com/example/bulkhead/bulkhead/registry/LoopCheck", "cameBack", "(Ljava/lang/String;)Z"⟩ : MethodName) prog_74_method_2_code 2 (some .boolean) :: ws) ({ frames := 3, cells := 0, slots := 0, locals := 40 } : Room)) (fun a U => a = #[(.ref a1), (.ref x1)] ∧ Z.Warmed39 U.vm ∧ U.heap = h0) (fun _ _ _ _ _ => True) (fun _ U o U' => ∃ v L, o = .returned v ∧ Q_cbK Z a1 x1 k1 s1 n1 m1 cs ds bx bk G1 h0 n0 v U'.heap L ∧ FrameEnd U o U' L ({ frames := 3, cells := 0, slots := 0, locals := 40 } : Room).cells ({ frames := 3, cells := 0, slots := 0, locals := 40 } : Room).slots) := by
  refine MetFree.of_bodySF (plainFor_of_name own_pn_0) hisR ?_
  intro p e s m args below meth c s₁ Bd hml0 hP hK
  obtain ⟨rfl, hZ, hh⟩ := hP
  have hx := Bd.exec
  have hby := Bd.bytes
  have hml : c.maxLocals = 2 := hml0
  have hown : s.vm.findClass "com/example/bulkhead/bulkhead/registry/LoopCheck" = some m.cls := findClass_of_methodNamed Bd.named
  have hnm := (name_of_methodNamed Bd.named Bd.method).1
  have W := own_W hw
  have X0 : Stand p l e ({ frames := 3, cells := 0, slots := 0, locals := 40 } : Room) s m #[(.ref a1), (.ref x1)] below meth c s₁ [] 0 0 := Stand.of_body Bd
  have e0 : s₁.heap = h0 := by rw [← hh, Bd.state]; rfl
  have N0 := Fr.nil n0
  have pre0 : ∀ t, Steps p.tables e below (s₁.setTop (mkF m 0 #[rv a1, rv x1] [])) t → Steps p.tables e below (s₁.setTop (entryFrame m #[(.ref a1), (.ref x1)] 2)) t := fun t k => castTop (own_ef_cbK m a1 x1) k
  have K69 : Keep h0 h0 [a1] := Keep.refl h0 [a1]
  have EX := SX.exa
  have heq : ∀ d ∈ StrChars.Road.wordsEq, d.before a0 Z = true := fun d hd => hw d ((by decide +kernel : ∀ d ∈ StrChars.Road.wordsEq, d ∈ tables_1) d hd)
  obtain ⟨T70, X70, e70, st70⟩ := getF X0 hx hZ hown (host := "") (Or.inl (W 48 rfl)) Via.refl e0 F1 (g := (mkF m 2 #[rv a1, rv x1] [.ref a1, .ref x1])) rfl rfl (hb hby own_d11_2)
  obtain ⟨cq71, kq71, q71a, q71b, q71c⟩ := isOf hZ e70 EX
  obtain ⟨_, _, ⟨T71, L71, k71, n71⟩, -, X71, ⟨Lc71, hQ71, l71, y71, z71⟩, st71⟩ := X70.virtualBack hx (y := (⟨"java/lang/String", "equals", "(Ljava/lang/Object;)Z"⟩ : MethodName)) (z := (⟨"java/lang/String", "equals", "(Ljava/lang/Object;)Z"⟩ : MethodName)) hown (mvT hZ (W 50 rfl)) (mvT hZ (W 51 rfl)) (notFace_of_selects (args := #[]) (mvT hZ (W 53 rfl))) (mvT hZ (W 53 rfl)) (mvT hZ (W 52 rfl)) (by decide) (own_eqS (W := 0) hZ heq (kI := 4) (W 6 rfl) SX SK (O2.ext X00.2) P5 (by decide) (by decide)) q71a q71c (g := (mkF m 5 #[rv a1, rv x1] [.ref k1, .ref x1])) rfl (by rw [hml]; rfl) (Steps.refl _) (argsL := [.ref k1]) (rest := []) (lenOf own_pd_8 rfl) rfl (by show 2 * 0 + _ ≤ _; exact Nat.le_of_eq rfl) (hb hby own_d11_5) (fun _ _ => ⟨rfl, e70, (by decide : 0 + 0 ≤ _), (by decide : 0 + 0 ≤ _)⟩)
  dsimp only [Pt.U, Pt.locs, Pt.cells, Pt.slots] at X71 l71 y71 z71 st71 hQ71
  subst l71 y71 z71
  obtain ⟨hcase, rfl, e71⟩ := hQ71
  have N71 := Fr.app N0 (Fr.nil n0)
  rcases hcase with ⟨rfl, hq⟩ | ⟨rfl, hq⟩
  · obtain ⟨fs, hr, hrun, hended, hW, hsame⟩ := X71.leave (v := some (.int (1 : Int32))) (fun h => by rw [Bd.returns] at h; cases h)
    refine ⟨_, _, pre0 _ (?_), hrun, hended, _, _, rfl, ?_, ⟨_, rfl⟩, hW, hsame.mono (by decide) (by decide)⟩
    · show Steps p.tables e below (s₁.setTop (mkF m 0 #[rv a1, rv x1] [])) _
      refine XS.aloadN X0.here hx rfl (hb hby own_d11_0) rfl rfl ?_
      show Steps _ _ _ (s₁.setTop (mkF m 1 _ [.ref x1])) _
      refine XS.aloadN X0.here hx rfl (hb hby own_d11_1) rfl rfl ?_
      show Steps _ _ _ (s₁.setTop (mkF m 2 _ [.ref a1, .ref x1])) _
      refine st70 _ ?_
      show Steps p.tables e below (T70.setTop (mkF m 5 #[rv a1, rv x1] [.ref k1, .ref x1])) _
      refine st71.trans ?_
      show Steps p.tables e below (T71.setTop (mkF m 8 #[rv a1, rv x1] [.int 1])) _
      refine XS.ifNo X71.here hx rfl (hb hby own_d11_8) rfl ((if0 _ _).trans (feq ((by decide) : ¬ ((1 : Int32) = (0 : Int32)))).1) ?_
      show Steps _ _ _ (T71.setTop (mkF m 11 _ [])) _
      refine XS.iconst X71.here hx rfl (hb hby own_d11_11) ?_
      show Steps _ _ _ (T71.setTop (mkF m 12 _ [.int 1])) _
      exact retN X71 hx (t := .boolean) Bd.returns (by simp) (hb hby own_d11_12) hr
    · show Q_cbK Z a1 x1 k1 s1 n1 m1 cs ds bx bk G1 h0 n0 _ T71.heap _
      rw [e71]
      exact Or.inl ⟨rfl, hq, N71⟩
  · obtain ⟨T72, X72, e72, st72⟩ := getF X71 hx hZ hown (host := "") (Or.inl (W 55 rfl)) Via.refl e71 F2 (g := (mkF m 15 #[rv a1, rv x1] [.ref a1, .ref a1])) rfl rfl (hb hby own_d11_15)
    obtain ⟨T73, h73, X73, e73, W73, st73⟩ := putF X72 hx hZ hown (host := "") (Or.inl (W 55 rfl)) Via.refl e72 F2 E1 (Or.inl (W 56 rfl)) (W 35 rfl) (ty := .long) (by decide) rfl rfl (g := (mkF m 20 #[rv a1, rv x1] [.long n1, .ref a1])) rfl rfl (hb hby own_d11_20)
    have N73 := Fr.snoc X73 N71 g1
    have Fw73 := F2.same W73
    have Z74 : n0 ≤ h73.size := Nat.le_trans Z0 (Keep.of_wr W73).1
    have O75 : Old Z n0 h73 := X00.wr W73 g1
    have K76 : Keep h0 h73 [a1] := K69.wr W73 (Or.inl (List.mem_of_getElem? (i := 0) rfl))
    obtain ⟨T77, X77, e77, st77⟩ := getF X73 hx hZ hown (host := "") (Or.inl (W 55 rfl)) Via.refl e73 Fw73 (g := (mkF m 24 #[rv a1, rv x1] [.ref a1])) rfl rfl (hb hby own_d11_24)
    have f78 := (F3.other W73 (Or.inr (slot_ne (Or.inl (W 42 rfl)) (Or.inl (W 56 rfl)) (by decide) (t := .long) (t' := .long) (by decide) (by decide))))
    obtain ⟨T79, X79, e79, st79⟩ := getF X77 hx hZ hown (host := "") (Or.inl (W 41 rfl)) Via.refl e77 f78 (g := (mkF m 28 #[rv a1, rv x1] [.ref a1, .long n1])) rfl rfl (hb hby own_d11_28)
    have f81 := (F1.other W73 (Or.inr (slot_ne (Or.inl (W 49 rfl)) (Or.inl (W 56 rfl)) (by decide) (t := (.object "java/lang/String")) (t' := .long) (by decide) (by decide))))
    have f82 := (E1.wr W73)
    obtain ⟨T80, h80, X80, e80, W80, st80⟩ := putF X79 hx hZ hown (host := "") (Or.inl (W 48 rfl)) Via.refl e79 f81 f82 (Or.inl (W 49 rfl)) (W 35 rfl) (ty := (.object "java/lang/String")) (by decide) rfl rfl (g := (mkF m 37 #[rv a1, rv x1] [.ref x1, .ref a1])) rfl rfl (hb hby own_d11_37)
    have N80 := Fr.snoc X80 N73 g1
    have Fw80 := f81.same W80
    have Z83 : n0 ≤ h80.size := Nat.le_trans Z74 (Keep.of_wr W80).1
    have O84 : Old Z n0 h80 := O75.wr W80 g1
    have K85 : Keep h0 h80 [a1] := K76.wr W80 (Or.inl (List.mem_of_getElem? (i := 0) rfl))
    have f87 := (Fw73.other W80 (Or.inr (slot_ne (Or.inl (W 56 rfl)) (Or.inl (W 49 rfl)) (by decide) (t := .long) (t' := (.object "java/lang/String")) (by decide) (by decide))))
    have f88 := (f82.wr W80)
    obtain ⟨T86, h86, X86, e86, W86, st86⟩ := putF X80 hx hZ hown (host := "") (Or.inl (W 55 rfl)) Via.refl e80 f87 f88 (Or.inl (W 56 rfl)) (W 35 rfl) (ty := .long) (by decide) rfl rfl (g := (mkF m 42 #[rv a1, rv x1] [.long 0, .ref a1])) rfl rfl (hb hby own_d11_42)
    have N86 := Fr.snoc X86 N80 g1
    have Fw86 := f87.same W86
    have Z89 : n0 ≤ h86.size := Nat.le_trans Z83 (Keep.of_wr W86).1
    have O90 : Old Z n0 h86 := O84.wr W86 g1
    have K91 : Keep h0 h86 [a1] := K85.wr W86 (Or.inl (List.mem_of_getElem? (i := 0) rfl))
    have f92 := ((f78.other W80 (Or.inr (slot_ne (Or.inl (W 42 rfl)) (Or.inl (W 49 rfl)) (by decide) (t := .long) (t' := (.object "java/lang/String")) (by decide) (by decide)))).other W86 (Or.inr (slot_ne (Or.inl (W 42 rfl)) (Or.inl (W 56 rfl)) (by decide) (t := .long) (t' := .long) (by decide) (by decide))))
    obtain ⟨T93, X93, e93, st93⟩ := getF X86 hx hZ hown (host := "") (Or.inl (W 41 rfl)) Via.refl e86 f92 (g := (mkF m 47 #[rv a1, rv x1] [.ref a1, .ref a1])) rfl rfl (hb hby own_d11_47)
    have f95 := (f88.wr W86)
    obtain ⟨T94, h94, X94, e94, W94, st94⟩ := putF X93 hx hZ hown (host := "") (Or.inl (W 41 rfl)) Via.refl e93 f92 f95 (Or.inl (W 42 rfl)) (W 35 rfl) (ty := .long) (by decide) rfl rfl (g := (mkF m 54 #[rv a1, rv x1] [.long m1, .ref a1])) rfl rfl (hb hby own_d11_54)
    have N94 := Fr.snoc X94 N86 g1
    have Fw94 := f92.same W94
    have Z96 : n0 ≤ h94.size := Nat.le_trans Z89 (Keep.of_wr W94).1
    have O97 : Old Z n0 h94 := O90.wr W94 g1
    have K98 : Keep h0 h94 [a1] := K91.wr W94 (Or.inl (List.mem_of_getElem? (i := 0) rfl))
    have f99 := (f95.wr W94)
    have f100 := ((Fw80.other W86 (Or.inr (slot_ne (Or.inl (W 49 rfl)) (Or.inl (W 56 rfl)) (by decide) (t := (.object "java/lang/String")) (t' := .long) (by decide) (by decide)))).other W94 (Or.inr (slot_ne (Or.inl (W 49 rfl)) (Or.inl (W 42 rfl)) (by decide) (t := (.object "java/lang/String")) (t' := .long) (by decide) (by decide))))
    have f101 := (Fw86.other W94 (Or.inr (slot_ne (Or.inl (W 56 rfl)) (Or.inl (W 42 rfl)) (by decide) (t := .long) (t' := .long) (by decide) (by decide))))
    obtain ⟨fs, hr, hrun, hended, hW, hsame⟩ := X94.leave (v := some (.int (0 : Int32))) (fun h => by rw [Bd.returns] at h; cases h)
    refine ⟨_, _, pre0 _ (?_), hrun, hended, _, _, rfl, ?_, ⟨_, rfl⟩, hW, hsame.mono (by decide) (by decide)⟩
    · show Steps p.tables e below (s₁.setTop (mkF m 0 #[rv a1, rv x1] [])) _
      refine XS.aloadN X0.here hx rfl (hb hby own_d11_0) rfl rfl ?_
      show Steps _ _ _ (s₁.setTop (mkF m 1 _ [.ref x1])) _
      refine XS.aloadN X0.here hx rfl (hb hby own_d11_1) rfl rfl ?_
      show Steps _ _ _ (s₁.setTop (mkF m 2 _ [.ref a1, .ref x1])) _
      refine st70 _ ?_
      show Steps p.tables e below (T70.setTop (mkF m 5 #[rv a1, rv x1] [.ref k1, .ref x1])) _
      refine st71.trans ?_
      show Steps p.tables e below (T71.setTop (mkF m 8 #[rv a1, rv x1] [.int 0])) _
      refine XS.ifYes X71.here hx rfl (pc0 := 8) (pc' := 13) rfl (hb hby own_d11_8) rfl ((if0 _ _).trans (teq (rfl : (0 : Int32) = (0 : Int32))).1) (by decide) (by decide) ?_
      show Steps _ _ _ (T71.setTop (mkF m 13 _ [])) _
      refine XS.aloadN X71.here hx rfl (hb hby own_d11_13) rfl rfl ?_
      show Steps _ _ _ (T71.setTop (mkF m 14 _ [.ref a1])) _
      refine XS.dup X71.here hx rfl (hb hby own_d11_14) rfl rfl ?_
      show Steps _ _ _ (T71.setTop (mkF m 15 _ [.ref a1, .ref a1])) _
      refine st72 _ ?_
      show Steps p.tables e below (T72.setTop (mkF m 18 #[rv a1, rv x1] [.long s1, .ref a1])) _
      refine XS.lconst X72.here hx rfl (hb hby own_d11_18) ?_
      show Steps _ _ _ (T72.setTop (mkF m 19 _ [.long 1, .long s1, .ref a1])) _
      refine XS.ladd X72.here hx rfl (hb hby own_d11_19) rfl ?_
      rw [h1]
      show Steps p.tables e below (T72.setTop (mkF m 20 #[rv a1, rv x1] [.long n1, .ref a1])) _
      refine st73 _ ?_
      show Steps p.tables e below (T73.setTop (mkF m 23 #[rv a1, rv x1] [])) _
      refine XS.aloadN X73.here hx rfl (hb hby own_d11_23) rfl rfl ?_
      show Steps _ _ _ (T73.setTop (mkF m 24 _ [.ref a1])) _
      refine st77 _ ?_
      show Steps p.tables e below (T77.setTop (mkF m 27 #[rv a1, rv x1] [.long n1])) _
      refine XS.aloadN X77.here hx rfl (hb hby own_d11_27) rfl rfl ?_
      show Steps _ _ _ (T77.setTop (mkF m 28 _ [.ref a1, .long n1])) _
      refine st79 _ ?_
      show Steps p.tables e below (T79.setTop (mkF m 31 #[rv a1, rv x1] [.long n1, .long n1])) _
      refine XS.lcmp X79.here hx rfl (hb hby own_d11_31) rfl ?_
      show Steps _ _ _ (T79.setTop (mkF m 32 _ [.int (own_cmpL n1 n1)])) _
      refine XS.ifNo X79.here hx rfl (hb hby own_d11_32) rfl ((if0 _ _).trans (teq (own_cmp0 _ _ rfl : (own_cmpL n1 n1) = (0 : Int32))).2) ?_
      show Steps _ _ _ (T79.setTop (mkF m 35 _ [])) _
      refine XS.aloadN X79.here hx rfl (hb hby own_d11_35) rfl rfl ?_
      show Steps _ _ _ (T79.setTop (mkF m 36 _ [.ref a1])) _
      refine XS.aloadN X79.here hx rfl (hb hby own_d11_36) rfl rfl ?_
      show Steps _ _ _ (T79.setTop (mkF m 37 _ [.ref x1, .ref a1])) _
      refine st80 _ ?_
      show Steps p.tables e below (T80.setTop (mkF m 40 #[rv a1, rv x1] [])) _
      refine XS.aloadN X80.here hx rfl (hb hby own_d11_40) rfl rfl ?_
      show Steps _ _ _ (T80.setTop (mkF m 41 _ [.ref a1])) _
      refine XS.lconst X80.here hx rfl (hb hby own_d11_41) ?_
      show Steps _ _ _ (T80.setTop (mkF m 42 _ [.long 0, .ref a1])) _
      refine st86 _ ?_
      show Steps p.tables e below (T86.setTop (mkF m 45 #[rv a1, rv x1] [])) _
      refine XS.aloadN X86.here hx rfl (hb hby own_d11_45) rfl rfl ?_
      show Steps _ _ _ (T86.setTop (mkF m 46 _ [.ref a1])) _
      refine XS.dup X86.here hx rfl (hb hby own_d11_46) rfl rfl ?_
      show Steps _ _ _ (T86.setTop (mkF m 47 _ [.ref a1, .ref a1])) _
      refine st93 _ ?_
      show Steps p.tables e below (T93.setTop (mkF m 50 #[rv a1, rv x1] [.long n1, .ref a1])) _
      refine Jvm.Stand.ldc2J X93 hx hown (mvT hZ (W 57 rfl)) rfl (hb hby own_d11_50) ?_
      show Steps _ _ _ (T93.setTop (mkF m 53 _ [.long 2, .long n1, .ref a1])) _
      refine XS.lmul X93.here hx rfl (hb hby own_d11_53) rfl ?_
      rw [h2]
      show Steps p.tables e below (T93.setTop (mkF m 54 #[rv a1, rv x1] [.long m1, .ref a1])) _
      refine st94 _ ?_
      show Steps p.tables e below (T94.setTop (mkF m 57 #[rv a1, rv x1] [])) _
      refine XS.iconst X94.here hx rfl (hb hby own_d11_57) ?_
      show Steps _ _ _ (T94.setTop (mkF m 58 _ [.int 0])) _
      exact retN X94 hx (t := .boolean) Bd.returns (by simp) (hb hby own_d11_58) hr
    · show Q_cbK Z a1 x1 k1 s1 n1 m1 cs ds bx bk G1 h0 n0 _ T94.heap _
      rw [e94]
      exact Or.inr ⟨rfl, hq, N94, K98, f99, f100, f101, Fw94⟩
theorem own_ef_cbN (m : MethodId) (x0 : Addr) (x1 : Addr) : entryFrame m #[(.ref x0), (.ref x1)] 2 = mkF m 0 #[rv x0, rv x1] [] := by first | (simp [entryFrame, mkF, argsToLocals, Value.category]; done) | rfl
def Q_cbN (Z : State) (a1 x1 k1 : Addr) (s1 n1 m1 : Int64) (cs ds : List Int32) (bx bk : Nat) (G1 : Int32) (h0 : Heap) (n0 : Nat) (v : Option Value) (h : Heap) (L : List Loc) : Prop := (v = some (.int 1) ∧ cs = ds ∧ Fr n0 L) ∨ (v = some (.int 0) ∧ ¬ cs = ds ∧ Fr n0 L ∧ Keep h0 h [a1] ∧ Exa Z h a1 "com/example/bulkhead/bulkhead/registry/LoopCheck" ∧ Fld Z h a1 "com/example/bulkhead/bulkhead/registry/LoopCheck" "kept" "Ljava/lang/String;" (.ref k1) ∧ Fld Z h a1 "com/example/bulkhead/bulkhead/registry/LoopCheck" "stepsSinceKept" "J" (.long m1) ∧ Fld Z h a1 "com/example/bulkhead/bulkhead/registry/LoopCheck" "stepsToNextKeep" "J" (.long n1))
set_option maxRecDepth 65536 in
set_option maxHeartbeats 40000000 in
theorem rm_cbN (l : Launch) (Z : State) (a0 : Array Value) (hw : ∀ d ∈ tables_1, d.before a0 Z = true) (ws : List Jvm.Cond) (a1 x1 k1 : Addr) (s1 n1 m1 : Int64) (cs ds : List Int32) (bx bk : Nat) (G1 : Int32) (h0 : Heap) (n0 : Nat) (Z0 : n0 ≤ h0.size) (X00 : Old Z n0 h0) (E1 : Exa Z h0 a1 "com/example/bulkhead/bulkhead/registry/LoopCheck") (g1 : n0 ≤ a1) (F1 : Fld Z h0 a1 "com/example/bulkhead/bulkhead/registry/LoopCheck" "kept" "Ljava/lang/String;" (.ref k1)) (F2 : Fld Z h0 a1 "com/example/bulkhead/bulkhead/registry/LoopCheck" "stepsSinceKept" "J" (.long s1)) (F3 : Fld Z h0 a1 "com/example/bulkhead/bulkhead/registry/LoopCheck" "stepsToNextKeep" "J" (.long n1)) (SX : StrB Z h0 bx x1 cs) (SK : StrB Z h0 bk k1 ds) (h1 : s1 + 1 = m1) (h2 : ¬ m1 = n1) (O2 : Sta Z Z.heap "java/lang/String" "COMPACT_STRINGS" "Z" (.int G1)) (P5 : ¬ (G1 = (0 : Int32))) :
    MetFree l (⟨"com/example/bulkhead/bulkhead/registry/LoopCheck", "cameBack", "(Ljava/lang/String;)Z"⟩ : MethodName) (head1 (Jvm.Cond.code (⟨"com/example/bulkhead/bulkhead/registry/LoopCheck", "cameBack", "(Ljava/lang/String;)Z"⟩ : MethodName) prog_74_method_2_code 2 (some .boolean) :: ws) ({ frames := 3, cells := 0, slots := 0, locals := 40 } : Room)) (fun a U => a = #[(.ref a1), (.ref x1)] ∧ Z.Warmed39 U.vm ∧ U.heap = h0) (fun _ _ _ _ _ => True) (fun _ U o U' => ∃ v L, o = .returned v ∧ Q_cbN Z a1 x1 k1 s1 n1 m1 cs ds bx bk G1 h0 n0 v U'.heap L ∧ FrameEnd U o U' L ({ frames := 3, cells := 0, slots := 0, locals := 40 } : Room).cells ({ frames := 3, cells := 0, slots := 0, locals := 40 } : Room).slots) := by
  refine MetFree.of_bodySF (plainFor_of_name own_pn_0) hisR ?_
  intro p e s m args below meth c s₁ Bd hml0 hP hK
  obtain ⟨rfl, hZ, hh⟩ := hP
  have hx := Bd.exec
  have hby := Bd.bytes
  have hml : c.maxLocals = 2 := hml0
  have hown : s.vm.findClass "com/example/bulkhead/bulkhead/registry/LoopCheck" = some m.cls := findClass_of_methodNamed Bd.named
  have hnm := (name_of_methodNamed Bd.named Bd.method).1
  have W := own_W hw
  have X0 : Stand p l e ({ frames := 3, cells := 0, slots := 0, locals := 40 } : Room) s m #[(.ref a1), (.ref x1)] below meth c s₁ [] 0 0 := Stand.of_body Bd
  have e0 : s₁.heap = h0 := by rw [← hh, Bd.state]; rfl
  have N0 := Fr.nil n0
  have pre0 : ∀ t, Steps p.tables e below (s₁.setTop (mkF m 0 #[rv a1, rv x1] [])) t → Steps p.tables e below (s₁.setTop (entryFrame m #[(.ref a1), (.ref x1)] 2)) t := fun t k => castTop (own_ef_cbN m a1 x1) k
  have K102 : Keep h0 h0 [a1] := Keep.refl h0 [a1]
  have EX := SX.exa
  have heq : ∀ d ∈ StrChars.Road.wordsEq, d.before a0 Z = true := fun d hd => hw d ((by decide +kernel : ∀ d ∈ StrChars.Road.wordsEq, d ∈ tables_1) d hd)
  obtain ⟨T103, X103, e103, st103⟩ := getF X0 hx hZ hown (host := "") (Or.inl (W 48 rfl)) Via.refl e0 F1 (g := (mkF m 2 #[rv a1, rv x1] [.ref a1, .ref x1])) rfl rfl (hb hby own_d11_2)
  obtain ⟨cq104, kq104, q104a, q104b, q104c⟩ := isOf hZ e103 EX
  obtain ⟨_, _, ⟨T104, L104, k104, n104⟩, -, X104, ⟨Lc104, hQ104, l104, y104, z104⟩, st104⟩ := X103.virtualBack hx (y := (⟨"java/lang/String", "equals", "(Ljava/lang/Object;)Z"⟩ : MethodName)) (z := (⟨"java/lang/String", "equals", "(Ljava/lang/Object;)Z"⟩ : MethodName)) hown (mvT hZ (W 50 rfl)) (mvT hZ (W 51 rfl)) (notFace_of_selects (args := #[]) (mvT hZ (W 53 rfl))) (mvT hZ (W 53 rfl)) (mvT hZ (W 52 rfl)) (by decide) (own_eqS (W := 0) hZ heq (kI := 4) (W 6 rfl) SX SK (O2.ext X00.2) P5 (by decide) (by decide)) q104a q104c (g := (mkF m 5 #[rv a1, rv x1] [.ref k1, .ref x1])) rfl (by rw [hml]; rfl) (Steps.refl _) (argsL := [.ref k1]) (rest := []) (lenOf own_pd_8 rfl) rfl (by show 2 * 0 + _ ≤ _; exact Nat.le_of_eq rfl) (hb hby own_d11_5) (fun _ _ => ⟨rfl, e103, (by decide : 0 + 0 ≤ _), (by decide : 0 + 0 ≤ _)⟩)
  dsimp only [Pt.U, Pt.locs, Pt.cells, Pt.slots] at X104 l104 y104 z104 st104 hQ104
  subst l104 y104 z104
  obtain ⟨hcase, rfl, e104⟩ := hQ104
  have N104 := Fr.app N0 (Fr.nil n0)
  rcases hcase with ⟨rfl, hq⟩ | ⟨rfl, hq⟩
  · obtain ⟨fs, hr, hrun, hended, hW, hsame⟩ := X104.leave (v := some (.int (1 : Int32))) (fun h => by rw [Bd.returns] at h; cases h)
    refine ⟨_, _, pre0 _ (?_), hrun, hended, _, _, rfl, ?_, ⟨_, rfl⟩, hW, hsame.mono (by decide) (by decide)⟩
    · show Steps p.tables e below (s₁.setTop (mkF m 0 #[rv a1, rv x1] [])) _
      refine XS.aloadN X0.here hx rfl (hb hby own_d11_0) rfl rfl ?_
      show Steps _ _ _ (s₁.setTop (mkF m 1 _ [.ref x1])) _
      refine XS.aloadN X0.here hx rfl (hb hby own_d11_1) rfl rfl ?_
      show Steps _ _ _ (s₁.setTop (mkF m 2 _ [.ref a1, .ref x1])) _
      refine st103 _ ?_
      show Steps p.tables e below (T103.setTop (mkF m 5 #[rv a1, rv x1] [.ref k1, .ref x1])) _
      refine st104.trans ?_
      show Steps p.tables e below (T104.setTop (mkF m 8 #[rv a1, rv x1] [.int 1])) _
      refine XS.ifNo X104.here hx rfl (hb hby own_d11_8) rfl ((if0 _ _).trans (feq ((by decide) : ¬ ((1 : Int32) = (0 : Int32)))).1) ?_
      show Steps _ _ _ (T104.setTop (mkF m 11 _ [])) _
      refine XS.iconst X104.here hx rfl (hb hby own_d11_11) ?_
      show Steps _ _ _ (T104.setTop (mkF m 12 _ [.int 1])) _
      exact retN X104 hx (t := .boolean) Bd.returns (by simp) (hb hby own_d11_12) hr
    · show Q_cbN Z a1 x1 k1 s1 n1 m1 cs ds bx bk G1 h0 n0 _ T104.heap _
      rw [e104]
      exact Or.inl ⟨rfl, hq, N104⟩
  · obtain ⟨T105, X105, e105, st105⟩ := getF X104 hx hZ hown (host := "") (Or.inl (W 55 rfl)) Via.refl e104 F2 (g := (mkF m 15 #[rv a1, rv x1] [.ref a1, .ref a1])) rfl rfl (hb hby own_d11_15)
    obtain ⟨T106, h106, X106, e106, W106, st106⟩ := putF X105 hx hZ hown (host := "") (Or.inl (W 55 rfl)) Via.refl e105 F2 E1 (Or.inl (W 56 rfl)) (W 35 rfl) (ty := .long) (by decide) rfl rfl (g := (mkF m 20 #[rv a1, rv x1] [.long m1, .ref a1])) rfl rfl (hb hby own_d11_20)
    have N106 := Fr.snoc X106 N104 g1
    have Fw106 := F2.same W106
    have Z107 : n0 ≤ h106.size := Nat.le_trans Z0 (Keep.of_wr W106).1
    have O108 : Old Z n0 h106 := X00.wr W106 g1
    have K109 : Keep h0 h106 [a1] := K102.wr W106 (Or.inl (List.mem_of_getElem? (i := 0) rfl))
    obtain ⟨T110, X110, e110, st110⟩ := getF X106 hx hZ hown (host := "") (Or.inl (W 55 rfl)) Via.refl e106 Fw106 (g := (mkF m 24 #[rv a1, rv x1] [.ref a1])) rfl rfl (hb hby own_d11_24)
    have f111 := (F3.other W106 (Or.inr (slot_ne (Or.inl (W 42 rfl)) (Or.inl (W 56 rfl)) (by decide) (t := .long) (t' := .long) (by decide) (by decide))))
    obtain ⟨T112, X112, e112, st112⟩ := getF X110 hx hZ hown (host := "") (Or.inl (W 41 rfl)) Via.refl e110 f111 (g := (mkF m 28 #[rv a1, rv x1] [.ref a1, .long m1])) rfl rfl (hb hby own_d11_28)
    have f113 := (E1.wr W106)
    have f114 := (F1.other W106 (Or.inr (slot_ne (Or.inl (W 49 rfl)) (Or.inl (W 56 rfl)) (by decide) (t := (.object "java/lang/String")) (t' := .long) (by decide) (by decide))))
    obtain ⟨fs, hr, hrun, hended, hW, hsame⟩ := X112.leave (v := some (.int (0 : Int32))) (fun h => by rw [Bd.returns] at h; cases h)
    refine ⟨_, _, pre0 _ (?_), hrun, hended, _, _, rfl, ?_, ⟨_, rfl⟩, hW, hsame.mono (by decide) (by decide)⟩
    · show Steps p.tables e below (s₁.setTop (mkF m 0 #[rv a1, rv x1] [])) _
      refine XS.aloadN X0.here hx rfl (hb hby own_d11_0) rfl rfl ?_
      show Steps _ _ _ (s₁.setTop (mkF m 1 _ [.ref x1])) _
      refine XS.aloadN X0.here hx rfl (hb hby own_d11_1) rfl rfl ?_
      show Steps _ _ _ (s₁.setTop (mkF m 2 _ [.ref a1, .ref x1])) _
      refine st103 _ ?_
      show Steps p.tables e below (T103.setTop (mkF m 5 #[rv a1, rv x1] [.ref k1, .ref x1])) _
      refine st104.trans ?_
      show Steps p.tables e below (T104.setTop (mkF m 8 #[rv a1, rv x1] [.int 0])) _
      refine XS.ifYes X104.here hx rfl (pc0 := 8) (pc' := 13) rfl (hb hby own_d11_8) rfl ((if0 _ _).trans (teq (rfl : (0 : Int32) = (0 : Int32))).1) (by decide) (by decide) ?_
      show Steps _ _ _ (T104.setTop (mkF m 13 _ [])) _
      refine XS.aloadN X104.here hx rfl (hb hby own_d11_13) rfl rfl ?_
      show Steps _ _ _ (T104.setTop (mkF m 14 _ [.ref a1])) _
      refine XS.dup X104.here hx rfl (hb hby own_d11_14) rfl rfl ?_
      show Steps _ _ _ (T104.setTop (mkF m 15 _ [.ref a1, .ref a1])) _
      refine st105 _ ?_
      show Steps p.tables e below (T105.setTop (mkF m 18 #[rv a1, rv x1] [.long s1, .ref a1])) _
      refine XS.lconst X105.here hx rfl (hb hby own_d11_18) ?_
      show Steps _ _ _ (T105.setTop (mkF m 19 _ [.long 1, .long s1, .ref a1])) _
      refine XS.ladd X105.here hx rfl (hb hby own_d11_19) rfl ?_
      rw [h1]
      show Steps p.tables e below (T105.setTop (mkF m 20 #[rv a1, rv x1] [.long m1, .ref a1])) _
      refine st106 _ ?_
      show Steps p.tables e below (T106.setTop (mkF m 23 #[rv a1, rv x1] [])) _
      refine XS.aloadN X106.here hx rfl (hb hby own_d11_23) rfl rfl ?_
      show Steps _ _ _ (T106.setTop (mkF m 24 _ [.ref a1])) _
      refine st110 _ ?_
      show Steps p.tables e below (T110.setTop (mkF m 27 #[rv a1, rv x1] [.long m1])) _
      refine XS.aloadN X110.here hx rfl (hb hby own_d11_27) rfl rfl ?_
      show Steps _ _ _ (T110.setTop (mkF m 28 _ [.ref a1, .long m1])) _
      refine st112 _ ?_
      show Steps p.tables e below (T112.setTop (mkF m 31 #[rv a1, rv x1] [.long n1, .long m1])) _
      refine XS.lcmp X112.here hx rfl (hb hby own_d11_31) rfl ?_
      show Steps _ _ _ (T112.setTop (mkF m 32 _ [.int (own_cmpL m1 n1)])) _
      refine XS.ifYes X112.here hx rfl (pc0 := 32) (pc' := 57) rfl (hb hby own_d11_32) rfl ((if0 _ _).trans (feq (own_cmpn _ _ h2 : ¬ ((own_cmpL m1 n1) = (0 : Int32)))).2) (by decide) (by decide) ?_
      show Steps _ _ _ (T112.setTop (mkF m 57 _ [])) _
      refine XS.iconst X112.here hx rfl (hb hby own_d11_57) ?_
      show Steps _ _ _ (T112.setTop (mkF m 58 _ [.int 0])) _
      exact retN X112 hx (t := .boolean) Bd.returns (by simp) (hb hby own_d11_58) hr
    · show Q_cbN Z a1 x1 k1 s1 n1 m1 cs ds bx bk G1 h0 n0 _ T112.heap _
      rw [e112]
      exact Or.inr ⟨rfl, hq, N106, K109, f113, f114, Fw106, f111⟩
theorem own_pd_0 : parseMethodDescriptor "(III)Ljava/lang/String;" = some ⟨[.int, .int, .int], some (.object "java/lang/String")⟩ := by decide +kernel
theorem own_pd_3 : parseMethodDescriptor "()V" = some ⟨[], none⟩ := by decide +kernel
theorem own_pd_7 : parseMethodDescriptor "(Ljava/lang/String;)Z" = some ⟨[(.object "java/lang/String")], some .boolean⟩ := by decide +kernel
theorem own_ef_law (m : MethodId) (x0 : Int32) (x1 : Int32) (x2 : Int32) : entryFrame m #[(.int x0), (.int x1), (.int x2)] maxLocals = mkF m 0 #[iv x0, iv x1, iv x2, .unset, .unset, .unset, .unset, .unset, .unset, .unset, .unset, .unset, .unset, .unset, .unset, .unset, .unset, .unset, .unset, .unset, .unset] [] := by first | (simp [entryFrame, mkF, argsToLocals, Value.category, maxLocals]; done) | rfl
def Q_law (Z : State) (p1 p2 p3 G1 : Int32) (h0 : Heap) (n0 : Nat) (v : Option Value) (h : Heap) (L : List Loc) : Prop := v = some (.int 1) ∧ Fr n0 L
set_option maxRecDepth 65536 in
set_option maxHeartbeats 40000000 in
theorem rm_law (l : Launch) (Z : State) (a0 : Array Value) (hw : ∀ d ∈ tables_1, d.before a0 Z = true) (ws : List Jvm.Cond) (p1 p2 p3 G1 : Int32) (h0 : Heap) (n0 : Nat) (Z0 : n0 ≤ h0.size) (X00 : Old Z n0 h0) (O2 : Sta Z Z.heap "java/lang/String" "COMPACT_STRINGS" "Z" (.int G1)) (P5 : ¬ (G1 = (0 : Int32))) :
    MetFree l x (head1 (Jvm.Cond.code x code maxLocals ret :: ws) room_1) (fun a U => a = #[(.int p1), (.int p2), (.int p3)] ∧ Z.Warmed39 U.vm ∧ U.heap = h0) (fun _ _ _ _ _ => True) (fun _ U o U' => ∃ v L, o = .returned v ∧ Q_law Z p1 p2 p3 G1 h0 n0 v U'.heap L ∧ FrameEnd U o U' L 64 256) := by
  refine MetFree.of_bodySF (plainFor_of_name own_pn_1) hisR ?_
  intro p e s m args below meth c s₁ Bd hml0 hP hK
  obtain ⟨rfl, hZ, hh⟩ := hP
  have hx := Bd.exec
  have hby := Bd.bytes
  have hml : c.maxLocals = 21 := hml0
  have hown : s.vm.findClass "com/example/bulkhead/bulkhead/registry/LoopCheckCameBackPinLaw" = some m.cls := findClass_of_methodNamed Bd.named
  have hnm := (name_of_methodNamed Bd.named Bd.method).1
  have W := own_W hw
  have X0 : Stand p l e room_1 s m #[(.int p1), (.int p2), (.int p3)] below meth c s₁ [] 0 0 := Stand.of_body Bd
  have e0 : s₁.heap = h0 := by rw [← hh, Bd.state]; rfl
  have N0 := Fr.nil n0
  have pre0 : ∀ t, Steps p.tables e below (s₁.setTop (mkF m 0 #[iv p1, iv p2, iv p3, .unset, .unset, .unset, .unset, .unset, .unset, .unset, .unset, .unset, .unset, .unset, .unset, .unset, .unset, .unset, .unset, .unset, .unset] [])) t → Steps p.tables e below (s₁.setTop (entryFrame m #[(.int p1), (.int p2), (.int p3)] maxLocals)) t := fun t k => castTop (own_ef_law m p1 p2 p3) k
  have G0 : ∀ t, Steps p.tables e below (s₁.setTop (mkF m 58 #[iv p1, iv p2, iv p3, iv (p1 &&& (3 : Int32)), iv ((own_ushr p1 (2 : Int32)) &&& (3 : Int32)), iv ((own_ushr p1 (4 : Int32)) &&& (3 : Int32)), iv ((own_ushr p1 (6 : Int32)) &&& (3 : Int32)), iv ((own_ushr p1 (8 : Int32)) &&& (3 : Int32)), iv ((own_ushr p1 (10 : Int32)) &&& (3 : Int32)), iv ((own_ushr p1 (12 : Int32)) &&& (3 : Int32)), iv ((own_ushr p1 (14 : Int32)) &&& (3 : Int32)), .unset, .unset, .unset, .unset, .unset, .unset, .unset, .unset, .unset, .unset] [])) t → Steps p.tables e below (s₁.setTop (mkF m 0 #[iv p1, iv p2, iv p3, .unset, .unset, .unset, .unset, .unset, .unset, .unset, .unset, .unset, .unset, .unset, .unset, .unset, .unset, .unset, .unset, .unset, .unset] [])) t := by
    intro t kk
    show Steps p.tables e below (s₁.setTop (mkF m 0 #[iv p1, iv p2, iv p3, .unset, .unset, .unset, .unset, .unset, .unset, .unset, .unset, .unset, .unset, .unset, .unset, .unset, .unset, .unset, .unset, .unset, .unset] [])) _
    refine XS.iloadN X0.here hx rfl (hb hby at_0) rfl ?_
    show Steps _ _ _ (s₁.setTop (mkF m 1 _ [.int p1])) _
    refine XS.iconst X0.here hx rfl (hb hby at_1) ?_
    show Steps _ _ _ (s₁.setTop (mkF m 2 _ [.int 3, .int p1])) _
    refine XS.iand X0.here hx rfl (hb hby at_2) rfl ?_
    show Steps _ _ _ (s₁.setTop (mkF m 3 _ [.int (p1 &&& (3 : Int32))])) _
    refine XS.istoreN X0.here hx rfl (hb hby at_3) rfl (l' := #[iv p1, iv p2, iv p3, iv (p1 &&& (3 : Int32)), .unset, .unset, .unset, .unset, .unset, .unset, .unset, .unset, .unset, .unset, .unset, .unset, .unset, .unset, .unset, .unset, .unset]) rfl ?_
    show Steps _ _ _ (s₁.setTop (mkF m 4 _ [])) _
    refine XS.iloadN X0.here hx rfl (hb hby at_4) rfl ?_
    show Steps _ _ _ (s₁.setTop (mkF m 5 _ [.int p1])) _
    refine XS.iconst X0.here hx rfl (hb hby at_5) ?_
    show Steps _ _ _ (s₁.setTop (mkF m 6 _ [.int 2, .int p1])) _
    refine XS.iushr X0.here hx rfl (hb hby at_6) rfl ?_
    show Steps _ _ _ (s₁.setTop (mkF m 7 _ [.int (own_ushr p1 (2 : Int32))])) _
    refine XS.iconst X0.here hx rfl (hb hby at_7) ?_
    show Steps p.tables e below (s₁.setTop (mkF m 8 #[iv p1, iv p2, iv p3, iv (p1 &&& (3 : Int32)), .unset, .unset, .unset, .unset, .unset, .unset, .unset, .unset, .unset, .unset, .unset, .unset, .unset, .unset, .unset, .unset, .unset] [.int 3, .int (own_ushr p1 (2 : Int32))])) _
    refine XS.iand X0.here hx rfl (hb hby at_8) rfl ?_
    show Steps _ _ _ (s₁.setTop (mkF m 9 _ [.int ((own_ushr p1 (2 : Int32)) &&& (3 : Int32))])) _
    refine XS.istore X0.here hx rfl (hb hby at_9) rfl (l' := #[iv p1, iv p2, iv p3, iv (p1 &&& (3 : Int32)), iv ((own_ushr p1 (2 : Int32)) &&& (3 : Int32)), .unset, .unset, .unset, .unset, .unset, .unset, .unset, .unset, .unset, .unset, .unset, .unset, .unset, .unset, .unset, .unset]) rfl ?_
    show Steps _ _ _ (s₁.setTop (mkF m 11 _ [])) _
    refine XS.iloadN X0.here hx rfl (hb hby at_11) rfl ?_
    show Steps _ _ _ (s₁.setTop (mkF m 12 _ [.int p1])) _
    refine XS.iconst X0.here hx rfl (hb hby at_12) ?_
    show Steps _ _ _ (s₁.setTop (mkF m 13 _ [.int 4, .int p1])) _
    refine XS.iushr X0.here hx rfl (hb hby at_13) rfl ?_
    show Steps _ _ _ (s₁.setTop (mkF m 14 _ [.int (own_ushr p1 (4 : Int32))])) _
    refine XS.iconst X0.here hx rfl (hb hby at_14) ?_
    show Steps _ _ _ (s₁.setTop (mkF m 15 _ [.int 3, .int (own_ushr p1 (4 : Int32))])) _
    refine XS.iand X0.here hx rfl (hb hby at_15) rfl ?_
    show Steps _ _ _ (s₁.setTop (mkF m 16 _ [.int ((own_ushr p1 (4 : Int32)) &&& (3 : Int32))])) _
    refine XS.istore X0.here hx rfl (hb hby at_16) rfl (l' := #[iv p1, iv p2, iv p3, iv (p1 &&& (3 : Int32)), iv ((own_ushr p1 (2 : Int32)) &&& (3 : Int32)), iv ((own_ushr p1 (4 : Int32)) &&& (3 : Int32)), .unset, .unset, .unset, .unset, .unset, .unset, .unset, .unset, .unset, .unset, .unset, .unset, .unset, .unset, .unset]) rfl ?_
    show Steps p.tables e below (s₁.setTop (mkF m 18 #[iv p1, iv p2, iv p3, iv (p1 &&& (3 : Int32)), iv ((own_ushr p1 (2 : Int32)) &&& (3 : Int32)), iv ((own_ushr p1 (4 : Int32)) &&& (3 : Int32)), .unset, .unset, .unset, .unset, .unset, .unset, .unset, .unset, .unset, .unset, .unset, .unset, .unset, .unset, .unset] [])) _
    refine XS.iloadN X0.here hx rfl (hb hby at_18) rfl ?_
    show Steps _ _ _ (s₁.setTop (mkF m 19 _ [.int p1])) _
    refine XS.bipush X0.here hx rfl (hb hby at_19) ?_
    show Steps _ _ _ (s₁.setTop (mkF m 21 _ [.int 6, .int p1])) _
    refine XS.iushr X0.here hx rfl (hb hby at_21) rfl ?_
    show Steps _ _ _ (s₁.setTop (mkF m 22 _ [.int (own_ushr p1 (6 : Int32))])) _
    refine XS.iconst X0.here hx rfl (hb hby at_22) ?_
    show Steps _ _ _ (s₁.setTop (mkF m 23 _ [.int 3, .int (own_ushr p1 (6 : Int32))])) _
    refine XS.iand X0.here hx rfl (hb hby at_23) rfl ?_
    show Steps _ _ _ (s₁.setTop (mkF m 24 _ [.int ((own_ushr p1 (6 : Int32)) &&& (3 : Int32))])) _
    refine XS.istore X0.here hx rfl (hb hby at_24) rfl (l' := #[iv p1, iv p2, iv p3, iv (p1 &&& (3 : Int32)), iv ((own_ushr p1 (2 : Int32)) &&& (3 : Int32)), iv ((own_ushr p1 (4 : Int32)) &&& (3 : Int32)), iv ((own_ushr p1 (6 : Int32)) &&& (3 : Int32)), .unset, .unset, .unset, .unset, .unset, .unset, .unset, .unset, .unset, .unset, .unset, .unset, .unset, .unset]) rfl ?_
    show Steps _ _ _ (s₁.setTop (mkF m 26 _ [])) _
    refine XS.iloadN X0.here hx rfl (hb hby at_26) rfl ?_
    show Steps _ _ _ (s₁.setTop (mkF m 27 _ [.int p1])) _
    refine XS.bipush X0.here hx rfl (hb hby at_27) ?_
    show Steps p.tables e below (s₁.setTop (mkF m 29 #[iv p1, iv p2, iv p3, iv (p1 &&& (3 : Int32)), iv ((own_ushr p1 (2 : Int32)) &&& (3 : Int32)), iv ((own_ushr p1 (4 : Int32)) &&& (3 : Int32)), iv ((own_ushr p1 (6 : Int32)) &&& (3 : Int32)), .unset, .unset, .unset, .unset, .unset, .unset, .unset, .unset, .unset, .unset, .unset, .unset, .unset, .unset] [.int 8, .int p1])) _
    refine XS.iushr X0.here hx rfl (hb hby at_29) rfl ?_
    show Steps _ _ _ (s₁.setTop (mkF m 30 _ [.int (own_ushr p1 (8 : Int32))])) _
    refine XS.iconst X0.here hx rfl (hb hby at_30) ?_
    show Steps _ _ _ (s₁.setTop (mkF m 31 _ [.int 3, .int (own_ushr p1 (8 : Int32))])) _
    refine XS.iand X0.here hx rfl (hb hby at_31) rfl ?_
    show Steps _ _ _ (s₁.setTop (mkF m 32 _ [.int ((own_ushr p1 (8 : Int32)) &&& (3 : Int32))])) _
    refine XS.istore X0.here hx rfl (hb hby at_32) rfl (l' := #[iv p1, iv p2, iv p3, iv (p1 &&& (3 : Int32)), iv ((own_ushr p1 (2 : Int32)) &&& (3 : Int32)), iv ((own_ushr p1 (4 : Int32)) &&& (3 : Int32)), iv ((own_ushr p1 (6 : Int32)) &&& (3 : Int32)), iv ((own_ushr p1 (8 : Int32)) &&& (3 : Int32)), .unset, .unset, .unset, .unset, .unset, .unset, .unset, .unset, .unset, .unset, .unset, .unset, .unset]) rfl ?_
    show Steps _ _ _ (s₁.setTop (mkF m 34 _ [])) _
    refine XS.iloadN X0.here hx rfl (hb hby at_34) rfl ?_
    show Steps _ _ _ (s₁.setTop (mkF m 35 _ [.int p1])) _
    refine XS.bipush X0.here hx rfl (hb hby at_35) ?_
    show Steps _ _ _ (s₁.setTop (mkF m 37 _ [.int 10, .int p1])) _
    refine XS.iushr X0.here hx rfl (hb hby at_37) rfl ?_
    show Steps _ _ _ (s₁.setTop (mkF m 38 _ [.int (own_ushr p1 (10 : Int32))])) _
    refine XS.iconst X0.here hx rfl (hb hby at_38) ?_
    show Steps p.tables e below (s₁.setTop (mkF m 39 #[iv p1, iv p2, iv p3, iv (p1 &&& (3 : Int32)), iv ((own_ushr p1 (2 : Int32)) &&& (3 : Int32)), iv ((own_ushr p1 (4 : Int32)) &&& (3 : Int32)), iv ((own_ushr p1 (6 : Int32)) &&& (3 : Int32)), iv ((own_ushr p1 (8 : Int32)) &&& (3 : Int32)), .unset, .unset, .unset, .unset, .unset, .unset, .unset, .unset, .unset, .unset, .unset, .unset, .unset] [.int 3, .int (own_ushr p1 (10 : Int32))])) _
    refine XS.iand X0.here hx rfl (hb hby at_39) rfl ?_
    show Steps _ _ _ (s₁.setTop (mkF m 40 _ [.int ((own_ushr p1 (10 : Int32)) &&& (3 : Int32))])) _
    refine XS.istore X0.here hx rfl (hb hby at_40) rfl (l' := #[iv p1, iv p2, iv p3, iv (p1 &&& (3 : Int32)), iv ((own_ushr p1 (2 : Int32)) &&& (3 : Int32)), iv ((own_ushr p1 (4 : Int32)) &&& (3 : Int32)), iv ((own_ushr p1 (6 : Int32)) &&& (3 : Int32)), iv ((own_ushr p1 (8 : Int32)) &&& (3 : Int32)), iv ((own_ushr p1 (10 : Int32)) &&& (3 : Int32)), .unset, .unset, .unset, .unset, .unset, .unset, .unset, .unset, .unset, .unset, .unset, .unset]) rfl ?_
    show Steps _ _ _ (s₁.setTop (mkF m 42 _ [])) _
    refine XS.iloadN X0.here hx rfl (hb hby at_42) rfl ?_
    show Steps _ _ _ (s₁.setTop (mkF m 43 _ [.int p1])) _
    refine XS.bipush X0.here hx rfl (hb hby at_43) ?_
    show Steps _ _ _ (s₁.setTop (mkF m 45 _ [.int 12, .int p1])) _
    refine XS.iushr X0.here hx rfl (hb hby at_45) rfl ?_
    show Steps _ _ _ (s₁.setTop (mkF m 46 _ [.int (own_ushr p1 (12 : Int32))])) _
    refine XS.iconst X0.here hx rfl (hb hby at_46) ?_
    show Steps _ _ _ (s₁.setTop (mkF m 47 _ [.int 3, .int (own_ushr p1 (12 : Int32))])) _
    refine XS.iand X0.here hx rfl (hb hby at_47) rfl ?_
    show Steps _ _ _ (s₁.setTop (mkF m 48 _ [.int ((own_ushr p1 (12 : Int32)) &&& (3 : Int32))])) _
    refine XS.istore X0.here hx rfl (hb hby at_48) rfl (l' := #[iv p1, iv p2, iv p3, iv (p1 &&& (3 : Int32)), iv ((own_ushr p1 (2 : Int32)) &&& (3 : Int32)), iv ((own_ushr p1 (4 : Int32)) &&& (3 : Int32)), iv ((own_ushr p1 (6 : Int32)) &&& (3 : Int32)), iv ((own_ushr p1 (8 : Int32)) &&& (3 : Int32)), iv ((own_ushr p1 (10 : Int32)) &&& (3 : Int32)), iv ((own_ushr p1 (12 : Int32)) &&& (3 : Int32)), .unset, .unset, .unset, .unset, .unset, .unset, .unset, .unset, .unset, .unset, .unset]) rfl ?_
    show Steps p.tables e below (s₁.setTop (mkF m 50 #[iv p1, iv p2, iv p3, iv (p1 &&& (3 : Int32)), iv ((own_ushr p1 (2 : Int32)) &&& (3 : Int32)), iv ((own_ushr p1 (4 : Int32)) &&& (3 : Int32)), iv ((own_ushr p1 (6 : Int32)) &&& (3 : Int32)), iv ((own_ushr p1 (8 : Int32)) &&& (3 : Int32)), iv ((own_ushr p1 (10 : Int32)) &&& (3 : Int32)), iv ((own_ushr p1 (12 : Int32)) &&& (3 : Int32)), .unset, .unset, .unset, .unset, .unset, .unset, .unset, .unset, .unset, .unset, .unset] [])) _
    refine XS.iloadN X0.here hx rfl (hb hby at_50) rfl ?_
    show Steps _ _ _ (s₁.setTop (mkF m 51 _ [.int p1])) _
    refine XS.bipush X0.here hx rfl (hb hby at_51) ?_
    show Steps _ _ _ (s₁.setTop (mkF m 53 _ [.int 14, .int p1])) _
    refine XS.iushr X0.here hx rfl (hb hby at_53) rfl ?_
    show Steps _ _ _ (s₁.setTop (mkF m 54 _ [.int (own_ushr p1 (14 : Int32))])) _
    refine XS.iconst X0.here hx rfl (hb hby at_54) ?_
    show Steps _ _ _ (s₁.setTop (mkF m 55 _ [.int 3, .int (own_ushr p1 (14 : Int32))])) _
    refine XS.iand X0.here hx rfl (hb hby at_55) rfl ?_
    show Steps _ _ _ (s₁.setTop (mkF m 56 _ [.int ((own_ushr p1 (14 : Int32)) &&& (3 : Int32))])) _
    refine XS.istore X0.here hx rfl (hb hby at_56) rfl (l' := #[iv p1, iv p2, iv p3, iv (p1 &&& (3 : Int32)), iv ((own_ushr p1 (2 : Int32)) &&& (3 : Int32)), iv ((own_ushr p1 (4 : Int32)) &&& (3 : Int32)), iv ((own_ushr p1 (6 : Int32)) &&& (3 : Int32)), iv ((own_ushr p1 (8 : Int32)) &&& (3 : Int32)), iv ((own_ushr p1 (10 : Int32)) &&& (3 : Int32)), iv ((own_ushr p1 (12 : Int32)) &&& (3 : Int32)), iv ((own_ushr p1 (14 : Int32)) &&& (3 : Int32)), .unset, .unset, .unset, .unset, .unset, .unset, .unset, .unset, .unset, .unset]) rfl ?_
    exact kk
  have d1 := own_and3 p1
  have d2 := own_and3 (own_ushr p1 (2 : Int32))
  have d3 := own_and3 (own_ushr p1 (4 : Int32))
  have d4 := own_and3 (own_ushr p1 (6 : Int32))
  have d5 := own_and3 (own_ushr p1 (8 : Int32))
  have d6 := own_and3 (own_ushr p1 (10 : Int32))
  have d7 := own_and3 (own_ushr p1 (12 : Int32))
  have d8 := own_and3 (own_ushr p1 (14 : Int32))
  generalize (p1 &&& (3 : Int32)) = c1 at G0 d1
  generalize ((own_ushr p1 (2 : Int32)) &&& (3 : Int32)) = c2 at G0 d2
  generalize ((own_ushr p1 (4 : Int32)) &&& (3 : Int32)) = c3 at G0 d3
  generalize ((own_ushr p1 (6 : Int32)) &&& (3 : Int32)) = c4 at G0 d4
  generalize ((own_ushr p1 (8 : Int32)) &&& (3 : Int32)) = c5 at G0 d5
  generalize ((own_ushr p1 (10 : Int32)) &&& (3 : Int32)) = c6 at G0 d6
  generalize ((own_ushr p1 (12 : Int32)) &&& (3 : Int32)) = c7 at G0 d7
  generalize ((own_ushr p1 (14 : Int32)) &&& (3 : Int32)) = c8 at G0 d8
  obtain ⟨_, _, ⟨T115, L115, k115, n115⟩, -, X115, ⟨Lc115, hQ115, l115, y115, z115⟩, st115⟩ := Jvm.LawKit.callS X0 hx (y := (⟨"com/example/bulkhead/bulkhead/registry/LoopCheckCameBackPinLaw", "id", "(III)Ljava/lang/String;"⟩ : MethodName)) hown (mvT hZ (W 0 rfl)) (mvT hZ (W 1 rfl)) (mvT hZ (W 2 rfl)) (mvT hZ (W 3 rfl)) (by decide) (backOf (W := 0) (rm_id l Z a0 hw [] c1 p2 p3 G1 h0 n0 Z0 X00 O2 P5) hZ (W 3 rfl) (W 2 rfl) (by decide) (by decide)) (g := (mkF m 61 #[iv p1, iv p2, iv p3, iv c1, iv c2, iv c3, iv c4, iv c5, iv c6, iv c7, iv c8, .unset, .unset, .unset, .unset, .unset, .unset, .unset, .unset, .unset, .unset] [.int p3, .int p2, .int c1])) rfl (by rw [hml]; rfl) (argsL := [.int c1, .int p2, .int p3]) (rest := []) (lenOf own_pd_0 rfl) rfl (by show 2 * 0 + _ ≤ _; exact Nat.le_of_eq rfl) (hb hby at_61) (fun _ _ => ⟨rfl, e0, (by decide : 0 + 3 ≤ _), (by decide : 0 + 8 ≤ _)⟩)
  dsimp only [Pt.U, Pt.locs, Pt.cells, Pt.slots] at X115 l115 y115 z115 st115 hQ115
  subst l115 y115 z115
  obtain ⟨a1', hv115, Nq115, K115, S115⟩ := hQ115
  subst hv115
  have N115 := Fr.app N0 Nq115
  have Z116 : n0 ≤ T115.heap.size := Nat.le_trans Z0 K115.1
  have O117 : Old Z n0 T115.heap := X00.keep K115 all0
  have G118 : ∀ t, Steps p.tables e below (T115.setTop (mkF m 66 #[iv p1, iv p2, iv p3, iv c1, iv c2, iv c3, iv c4, iv c5, iv c6, iv c7, iv c8, rv a1', .unset, .unset, .unset, .unset, .unset, .unset, .unset, .unset, .unset] [])) t → Steps p.tables e below (s₁.setTop (mkF m 58 #[iv p1, iv p2, iv p3, iv c1, iv c2, iv c3, iv c4, iv c5, iv c6, iv c7, iv c8, .unset, .unset, .unset, .unset, .unset, .unset, .unset, .unset, .unset, .unset] [])) t := by
    intro t kk
    show Steps p.tables e below (s₁.setTop (mkF m 58 #[iv p1, iv p2, iv p3, iv c1, iv c2, iv c3, iv c4, iv c5, iv c6, iv c7, iv c8, .unset, .unset, .unset, .unset, .unset, .unset, .unset, .unset, .unset, .unset] [])) _
    refine XS.iloadN X0.here hx rfl (hb hby at_58) rfl ?_
    show Steps _ _ _ (s₁.setTop (mkF m 59 _ [.int c1])) _
    refine XS.iloadN X0.here hx rfl (hb hby at_59) rfl ?_
    show Steps _ _ _ (s₁.setTop (mkF m 60 _ [.int p2, .int c1])) _
    refine XS.iloadN X0.here hx rfl (hb hby at_60) rfl ?_
    show Steps _ _ _ (s₁.setTop (mkF m 61 _ [.int p3, .int p2, .int c1])) _
    refine st115 _ ?_
    show Steps p.tables e below (T115.setTop (mkF m 64 #[iv p1, iv p2, iv p3, iv c1, iv c2, iv c3, iv c4, iv c5, iv c6, iv c7, iv c8, .unset, .unset, .unset, .unset, .unset, .unset, .unset, .unset, .unset, .unset] [.ref a1'])) _
    refine XS.astore X115.here hx rfl (hb hby at_64) rfl rfl (l' := #[iv p1, iv p2, iv p3, iv c1, iv c2, iv c3, iv c4, iv c5, iv c6, iv c7, iv c8, rv a1', .unset, .unset, .unset, .unset, .unset, .unset, .unset, .unset, .unset]) rfl ?_
    exact kk
  obtain ⟨_, _, ⟨T119, L119, k119, n119⟩, -, X119, ⟨Lc119, hQ119, l119, y119, z119⟩, st119⟩ := Jvm.LawKit.callS X115 hx (y := (⟨"com/example/bulkhead/bulkhead/registry/LoopCheckCameBackPinLaw", "id", "(III)Ljava/lang/String;"⟩ : MethodName)) hown (mvT hZ (W 0 rfl)) (mvT hZ (W 1 rfl)) (mvT hZ (W 2 rfl)) (mvT hZ (W 3 rfl)) (by decide) (backOf (W := 0) (rm_id l Z a0 hw [] c2 p2 p3 G1 T115.heap n0 Z116 O117 O2 P5) hZ (W 3 rfl) (W 2 rfl) (by decide) (by decide)) (g := (mkF m 70 #[iv p1, iv p2, iv p3, iv c1, iv c2, iv c3, iv c4, iv c5, iv c6, iv c7, iv c8, rv a1', .unset, .unset, .unset, .unset, .unset, .unset, .unset, .unset, .unset] [.int p3, .int p2, .int c2])) rfl (by rw [hml]; rfl) (argsL := [.int c2, .int p2, .int p3]) (rest := []) (lenOf own_pd_0 rfl) rfl (by show 2 * 0 + _ ≤ _; exact Nat.le_of_eq rfl) (hb hby at_70) (fun _ _ => ⟨rfl, rfl, (by decide : 3 + 3 ≤ _), (by decide : 8 + 8 ≤ _)⟩)
  dsimp only [Pt.U, Pt.locs, Pt.cells, Pt.slots] at X119 l119 y119 z119 st119 hQ119
  subst l119 y119 z119
  obtain ⟨a2', hv119, Nq119, K119, S119⟩ := hQ119
  subst hv119
  have N119 := Fr.app N115 Nq119
  have Z120 : n0 ≤ T119.heap.size := Nat.le_trans Z116 K119.1
  have O121 : Old Z n0 T119.heap := O117.keep K119 all0
  have G122 : ∀ t, Steps p.tables e below (T119.setTop (mkF m 75 #[iv p1, iv p2, iv p3, iv c1, iv c2, iv c3, iv c4, iv c5, iv c6, iv c7, iv c8, rv a1', rv a2', .unset, .unset, .unset, .unset, .unset, .unset, .unset, .unset] [])) t → Steps p.tables e below (T115.setTop (mkF m 66 #[iv p1, iv p2, iv p3, iv c1, iv c2, iv c3, iv c4, iv c5, iv c6, iv c7, iv c8, rv a1', .unset, .unset, .unset, .unset, .unset, .unset, .unset, .unset, .unset] [])) t := by
    intro t kk
    show Steps p.tables e below (T115.setTop (mkF m 66 #[iv p1, iv p2, iv p3, iv c1, iv c2, iv c3, iv c4, iv c5, iv c6, iv c7, iv c8, rv a1', .unset, .unset, .unset, .unset, .unset, .unset, .unset, .unset, .unset] [])) _
    refine XS.iload X115.here hx rfl (hb hby at_66) rfl ?_
    show Steps _ _ _ (T115.setTop (mkF m 68 _ [.int c2])) _
    refine XS.iloadN X115.here hx rfl (hb hby at_68) rfl ?_
    show Steps _ _ _ (T115.setTop (mkF m 69 _ [.int p2, .int c2])) _
    refine XS.iloadN X115.here hx rfl (hb hby at_69) rfl ?_
    show Steps _ _ _ (T115.setTop (mkF m 70 _ [.int p3, .int p2, .int c2])) _
    refine st119 _ ?_
    show Steps p.tables e below (T119.setTop (mkF m 73 #[iv p1, iv p2, iv p3, iv c1, iv c2, iv c3, iv c4, iv c5, iv c6, iv c7, iv c8, rv a1', .unset, .unset, .unset, .unset, .unset, .unset, .unset, .unset, .unset] [.ref a2'])) _
    refine XS.astore X119.here hx rfl (hb hby at_73) rfl rfl (l' := #[iv p1, iv p2, iv p3, iv c1, iv c2, iv c3, iv c4, iv c5, iv c6, iv c7, iv c8, rv a1', rv a2', .unset, .unset, .unset, .unset, .unset, .unset, .unset, .unset]) rfl ?_
    exact kk
  obtain ⟨_, _, ⟨T123, L123, k123, n123⟩, -, X123, ⟨Lc123, hQ123, l123, y123, z123⟩, st123⟩ := Jvm.LawKit.callS X119 hx (y := (⟨"com/example/bulkhead/bulkhead/registry/LoopCheckCameBackPinLaw", "id", "(III)Ljava/lang/String;"⟩ : MethodName)) hown (mvT hZ (W 0 rfl)) (mvT hZ (W 1 rfl)) (mvT hZ (W 2 rfl)) (mvT hZ (W 3 rfl)) (by decide) (backOf (W := 0) (rm_id l Z a0 hw [] c3 p2 p3 G1 T119.heap n0 Z120 O121 O2 P5) hZ (W 3 rfl) (W 2 rfl) (by decide) (by decide)) (g := (mkF m 79 #[iv p1, iv p2, iv p3, iv c1, iv c2, iv c3, iv c4, iv c5, iv c6, iv c7, iv c8, rv a1', rv a2', .unset, .unset, .unset, .unset, .unset, .unset, .unset, .unset] [.int p3, .int p2, .int c3])) rfl (by rw [hml]; rfl) (argsL := [.int c3, .int p2, .int p3]) (rest := []) (lenOf own_pd_0 rfl) rfl (by show 2 * 0 + _ ≤ _; exact Nat.le_of_eq rfl) (hb hby at_79) (fun _ _ => ⟨rfl, rfl, (by decide : 6 + 3 ≤ _), (by decide : 16 + 8 ≤ _)⟩)
  dsimp only [Pt.U, Pt.locs, Pt.cells, Pt.slots] at X123 l123 y123 z123 st123 hQ123
  subst l123 y123 z123
  obtain ⟨a3', hv123, Nq123, K123, S123⟩ := hQ123
  subst hv123
  have N123 := Fr.app N119 Nq123
  have Z124 : n0 ≤ T123.heap.size := Nat.le_trans Z120 K123.1
  have O125 : Old Z n0 T123.heap := O121.keep K123 all0
  have G126 : ∀ t, Steps p.tables e below (T123.setTop (mkF m 84 #[iv p1, iv p2, iv p3, iv c1, iv c2, iv c3, iv c4, iv c5, iv c6, iv c7, iv c8, rv a1', rv a2', rv a3', .unset, .unset, .unset, .unset, .unset, .unset, .unset] [])) t → Steps p.tables e below (T119.setTop (mkF m 75 #[iv p1, iv p2, iv p3, iv c1, iv c2, iv c3, iv c4, iv c5, iv c6, iv c7, iv c8, rv a1', rv a2', .unset, .unset, .unset, .unset, .unset, .unset, .unset, .unset] [])) t := by
    intro t kk
    show Steps p.tables e below (T119.setTop (mkF m 75 #[iv p1, iv p2, iv p3, iv c1, iv c2, iv c3, iv c4, iv c5, iv c6, iv c7, iv c8, rv a1', rv a2', .unset, .unset, .unset, .unset, .unset, .unset, .unset, .unset] [])) _
    refine XS.iload X119.here hx rfl (hb hby at_75) rfl ?_
    show Steps _ _ _ (T119.setTop (mkF m 77 _ [.int c3])) _
    refine XS.iloadN X119.here hx rfl (hb hby at_77) rfl ?_
    show Steps _ _ _ (T119.setTop (mkF m 78 _ [.int p2, .int c3])) _
    refine XS.iloadN X119.here hx rfl (hb hby at_78) rfl ?_
    show Steps _ _ _ (T119.setTop (mkF m 79 _ [.int p3, .int p2, .int c3])) _
    refine st123 _ ?_
    show Steps p.tables e below (T123.setTop (mkF m 82 #[iv p1, iv p2, iv p3, iv c1, iv c2, iv c3, iv c4, iv c5, iv c6, iv c7, iv c8, rv a1', rv a2', .unset, .unset, .unset, .unset, .unset, .unset, .unset, .unset] [.ref a3'])) _
    refine XS.astore X123.here hx rfl (hb hby at_82) rfl rfl (l' := #[iv p1, iv p2, iv p3, iv c1, iv c2, iv c3, iv c4, iv c5, iv c6, iv c7, iv c8, rv a1', rv a2', rv a3', .unset, .unset, .unset, .unset, .unset, .unset, .unset]) rfl ?_
    exact kk
  obtain ⟨_, _, ⟨T127, L127, k127, n127⟩, -, X127, ⟨Lc127, hQ127, l127, y127, z127⟩, st127⟩ := Jvm.LawKit.callS X123 hx (y := (⟨"com/example/bulkhead/bulkhead/registry/LoopCheckCameBackPinLaw", "id", "(III)Ljava/lang/String;"⟩ : MethodName)) hown (mvT hZ (W 0 rfl)) (mvT hZ (W 1 rfl)) (mvT hZ (W 2 rfl)) (mvT hZ (W 3 rfl)) (by decide) (backOf (W := 0) (rm_id l Z a0 hw [] c4 p2 p3 G1 T123.heap n0 Z124 O125 O2 P5) hZ (W 3 rfl) (W 2 rfl) (by decide) (by decide)) (g := (mkF m 88 #[iv p1, iv p2, iv p3, iv c1, iv c2, iv c3, iv c4, iv c5, iv c6, iv c7, iv c8, rv a1', rv a2', rv a3', .unset, .unset, .unset, .unset, .unset, .unset, .unset] [.int p3, .int p2, .int c4])) rfl (by rw [hml]; rfl) (argsL := [.int c4, .int p2, .int p3]) (rest := []) (lenOf own_pd_0 rfl) rfl (by show 2 * 0 + _ ≤ _; exact Nat.le_of_eq rfl) (hb hby at_88) (fun _ _ => ⟨rfl, rfl, (by decide : 9 + 3 ≤ _), (by decide : 24 + 8 ≤ _)⟩)
  dsimp only [Pt.U, Pt.locs, Pt.cells, Pt.slots] at X127 l127 y127 z127 st127 hQ127
  subst l127 y127 z127
  obtain ⟨a4', hv127, Nq127, K127, S127⟩ := hQ127
  subst hv127
  have N127 := Fr.app N123 Nq127
  have Z128 : n0 ≤ T127.heap.size := Nat.le_trans Z124 K127.1
  have O129 : Old Z n0 T127.heap := O125.keep K127 all0
  have G130 : ∀ t, Steps p.tables e below (T127.setTop (mkF m 93 #[iv p1, iv p2, iv p3, iv c1, iv c2, iv c3, iv c4, iv c5, iv c6, iv c7, iv c8, rv a1', rv a2', rv a3', rv a4', .unset, .unset, .unset, .unset, .unset, .unset] [])) t → Steps p.tables e below (T123.setTop (mkF m 84 #[iv p1, iv p2, iv p3, iv c1, iv c2, iv c3, iv c4, iv c5, iv c6, iv c7, iv c8, rv a1', rv a2', rv a3', .unset, .unset, .unset, .unset, .unset, .unset, .unset] [])) t := by
    intro t kk
    show Steps p.tables e below (T123.setTop (mkF m 84 #[iv p1, iv p2, iv p3, iv c1, iv c2, iv c3, iv c4, iv c5, iv c6, iv c7, iv c8, rv a1', rv a2', rv a3', .unset, .unset, .unset, .unset, .unset, .unset, .unset] [])) _
    refine XS.iload X123.here hx rfl (hb hby at_84) rfl ?_
    show Steps _ _ _ (T123.setTop (mkF m 86 _ [.int c4])) _
    refine XS.iloadN X123.here hx rfl (hb hby at_86) rfl ?_
    show Steps _ _ _ (T123.setTop (mkF m 87 _ [.int p2, .int c4])) _
    refine XS.iloadN X123.here hx rfl (hb hby at_87) rfl ?_
    show Steps _ _ _ (T123.setTop (mkF m 88 _ [.int p3, .int p2, .int c4])) _
    refine st127 _ ?_
    show Steps p.tables e below (T127.setTop (mkF m 91 #[iv p1, iv p2, iv p3, iv c1, iv c2, iv c3, iv c4, iv c5, iv c6, iv c7, iv c8, rv a1', rv a2', rv a3', .unset, .unset, .unset, .unset, .unset, .unset, .unset] [.ref a4'])) _
    refine XS.astore X127.here hx rfl (hb hby at_91) rfl rfl (l' := #[iv p1, iv p2, iv p3, iv c1, iv c2, iv c3, iv c4, iv c5, iv c6, iv c7, iv c8, rv a1', rv a2', rv a3', rv a4', .unset, .unset, .unset, .unset, .unset, .unset]) rfl ?_
    exact kk
  obtain ⟨_, _, ⟨T131, L131, k131, n131⟩, -, X131, ⟨Lc131, hQ131, l131, y131, z131⟩, st131⟩ := Jvm.LawKit.callS X127 hx (y := (⟨"com/example/bulkhead/bulkhead/registry/LoopCheckCameBackPinLaw", "id", "(III)Ljava/lang/String;"⟩ : MethodName)) hown (mvT hZ (W 0 rfl)) (mvT hZ (W 1 rfl)) (mvT hZ (W 2 rfl)) (mvT hZ (W 3 rfl)) (by decide) (backOf (W := 0) (rm_id l Z a0 hw [] c5 p2 p3 G1 T127.heap n0 Z128 O129 O2 P5) hZ (W 3 rfl) (W 2 rfl) (by decide) (by decide)) (g := (mkF m 97 #[iv p1, iv p2, iv p3, iv c1, iv c2, iv c3, iv c4, iv c5, iv c6, iv c7, iv c8, rv a1', rv a2', rv a3', rv a4', .unset, .unset, .unset, .unset, .unset, .unset] [.int p3, .int p2, .int c5])) rfl (by rw [hml]; rfl) (argsL := [.int c5, .int p2, .int p3]) (rest := []) (lenOf own_pd_0 rfl) rfl (by show 2 * 0 + _ ≤ _; exact Nat.le_of_eq rfl) (hb hby at_97) (fun _ _ => ⟨rfl, rfl, (by decide : 12 + 3 ≤ _), (by decide : 32 + 8 ≤ _)⟩)
  dsimp only [Pt.U, Pt.locs, Pt.cells, Pt.slots] at X131 l131 y131 z131 st131 hQ131
  subst l131 y131 z131
  obtain ⟨a5', hv131, Nq131, K131, S131⟩ := hQ131
  subst hv131
  have N131 := Fr.app N127 Nq131
  have Z132 : n0 ≤ T131.heap.size := Nat.le_trans Z128 K131.1
  have O133 : Old Z n0 T131.heap := O129.keep K131 all0
  have G134 : ∀ t, Steps p.tables e below (T131.setTop (mkF m 102 #[iv p1, iv p2, iv p3, iv c1, iv c2, iv c3, iv c4, iv c5, iv c6, iv c7, iv c8, rv a1', rv a2', rv a3', rv a4', rv a5', .unset, .unset, .unset, .unset, .unset] [])) t → Steps p.tables e below (T127.setTop (mkF m 93 #[iv p1, iv p2, iv p3, iv c1, iv c2, iv c3, iv c4, iv c5, iv c6, iv c7, iv c8, rv a1', rv a2', rv a3', rv a4', .unset, .unset, .unset, .unset, .unset, .unset] [])) t := by
    intro t kk
    show Steps p.tables e below (T127.setTop (mkF m 93 #[iv p1, iv p2, iv p3, iv c1, iv c2, iv c3, iv c4, iv c5, iv c6, iv c7, iv c8, rv a1', rv a2', rv a3', rv a4', .unset, .unset, .unset, .unset, .unset, .unset] [])) _
    refine XS.iload X127.here hx rfl (hb hby at_93) rfl ?_
    show Steps _ _ _ (T127.setTop (mkF m 95 _ [.int c5])) _
    refine XS.iloadN X127.here hx rfl (hb hby at_95) rfl ?_
    show Steps _ _ _ (T127.setTop (mkF m 96 _ [.int p2, .int c5])) _
    refine XS.iloadN X127.here hx rfl (hb hby at_96) rfl ?_
    show Steps _ _ _ (T127.setTop (mkF m 97 _ [.int p3, .int p2, .int c5])) _
    refine st131 _ ?_
    show Steps p.tables e below (T131.setTop (mkF m 100 #[iv p1, iv p2, iv p3, iv c1, iv c2, iv c3, iv c4, iv c5, iv c6, iv c7, iv c8, rv a1', rv a2', rv a3', rv a4', .unset, .unset, .unset, .unset, .unset, .unset] [.ref a5'])) _
    refine XS.astore X131.here hx rfl (hb hby at_100) rfl rfl (l' := #[iv p1, iv p2, iv p3, iv c1, iv c2, iv c3, iv c4, iv c5, iv c6, iv c7, iv c8, rv a1', rv a2', rv a3', rv a4', rv a5', .unset, .unset, .unset, .unset, .unset]) rfl ?_
    exact kk
  obtain ⟨_, _, ⟨T135, L135, k135, n135⟩, -, X135, ⟨Lc135, hQ135, l135, y135, z135⟩, st135⟩ := Jvm.LawKit.callS X131 hx (y := (⟨"com/example/bulkhead/bulkhead/registry/LoopCheckCameBackPinLaw", "id", "(III)Ljava/lang/String;"⟩ : MethodName)) hown (mvT hZ (W 0 rfl)) (mvT hZ (W 1 rfl)) (mvT hZ (W 2 rfl)) (mvT hZ (W 3 rfl)) (by decide) (backOf (W := 0) (rm_id l Z a0 hw [] c6 p2 p3 G1 T131.heap n0 Z132 O133 O2 P5) hZ (W 3 rfl) (W 2 rfl) (by decide) (by decide)) (g := (mkF m 106 #[iv p1, iv p2, iv p3, iv c1, iv c2, iv c3, iv c4, iv c5, iv c6, iv c7, iv c8, rv a1', rv a2', rv a3', rv a4', rv a5', .unset, .unset, .unset, .unset, .unset] [.int p3, .int p2, .int c6])) rfl (by rw [hml]; rfl) (argsL := [.int c6, .int p2, .int p3]) (rest := []) (lenOf own_pd_0 rfl) rfl (by show 2 * 0 + _ ≤ _; exact Nat.le_of_eq rfl) (hb hby at_106) (fun _ _ => ⟨rfl, rfl, (by decide : 15 + 3 ≤ _), (by decide : 40 + 8 ≤ _)⟩)
  dsimp only [Pt.U, Pt.locs, Pt.cells, Pt.slots] at X135 l135 y135 z135 st135 hQ135
  subst l135 y135 z135
  obtain ⟨a6', hv135, Nq135, K135, S135⟩ := hQ135
  subst hv135
  have N135 := Fr.app N131 Nq135
  have Z136 : n0 ≤ T135.heap.size := Nat.le_trans Z132 K135.1
  have O137 : Old Z n0 T135.heap := O133.keep K135 all0
  have G138 : ∀ t, Steps p.tables e below (T135.setTop (mkF m 111 #[iv p1, iv p2, iv p3, iv c1, iv c2, iv c3, iv c4, iv c5, iv c6, iv c7, iv c8, rv a1', rv a2', rv a3', rv a4', rv a5', rv a6', .unset, .unset, .unset, .unset] [])) t → Steps p.tables e below (T131.setTop (mkF m 102 #[iv p1, iv p2, iv p3, iv c1, iv c2, iv c3, iv c4, iv c5, iv c6, iv c7, iv c8, rv a1', rv a2', rv a3', rv a4', rv a5', .unset, .unset, .unset, .unset, .unset] [])) t := by
    intro t kk
    show Steps p.tables e below (T131.setTop (mkF m 102 #[iv p1, iv p2, iv p3, iv c1, iv c2, iv c3, iv c4, iv c5, iv c6, iv c7, iv c8, rv a1', rv a2', rv a3', rv a4', rv a5', .unset, .unset, .unset, .unset, .unset] [])) _
    refine XS.iload X131.here hx rfl (hb hby at_102) rfl ?_
    show Steps _ _ _ (T131.setTop (mkF m 104 _ [.int c6])) _
    refine XS.iloadN X131.here hx rfl (hb hby at_104) rfl ?_
    show Steps _ _ _ (T131.setTop (mkF m 105 _ [.int p2, .int c6])) _
    refine XS.iloadN X131.here hx rfl (hb hby at_105) rfl ?_
    show Steps _ _ _ (T131.setTop (mkF m 106 _ [.int p3, .int p2, .int c6])) _
    refine st135 _ ?_
    show Steps p.tables e below (T135.setTop (mkF m 109 #[iv p1, iv p2, iv p3, iv c1, iv c2, iv c3, iv c4, iv c5, iv c6, iv c7, iv c8, rv a1', rv a2', rv a3', rv a4', rv a5', .unset, .unset, .unset, .unset, .unset] [.ref a6'])) _
    refine XS.astore X135.here hx rfl (hb hby at_109) rfl rfl (l' := #[iv p1, iv p2, iv p3, iv c1, iv c2, iv c3, iv c4, iv c5, iv c6, iv c7, iv c8, rv a1', rv a2', rv a3', rv a4', rv a5', rv a6', .unset, .unset, .unset, .unset]) rfl ?_
    exact kk
  obtain ⟨_, _, ⟨T139, L139, k139, n139⟩, -, X139, ⟨Lc139, hQ139, l139, y139, z139⟩, st139⟩ := Jvm.LawKit.callS X135 hx (y := (⟨"com/example/bulkhead/bulkhead/registry/LoopCheckCameBackPinLaw", "id", "(III)Ljava/lang/String;"⟩ : MethodName)) hown (mvT hZ (W 0 rfl)) (mvT hZ (W 1 rfl)) (mvT hZ (W 2 rfl)) (mvT hZ (W 3 rfl)) (by decide) (backOf (W := 0) (rm_id l Z a0 hw [] c7 p2 p3 G1 T135.heap n0 Z136 O137 O2 P5) hZ (W 3 rfl) (W 2 rfl) (by decide) (by decide)) (g := (mkF m 115 #[iv p1, iv p2, iv p3, iv c1, iv c2, iv c3, iv c4, iv c5, iv c6, iv c7, iv c8, rv a1', rv a2', rv a3', rv a4', rv a5', rv a6', .unset, .unset, .unset, .unset] [.int p3, .int p2, .int c7])) rfl (by rw [hml]; rfl) (argsL := [.int c7, .int p2, .int p3]) (rest := []) (lenOf own_pd_0 rfl) rfl (by show 2 * 0 + _ ≤ _; exact Nat.le_of_eq rfl) (hb hby at_115) (fun _ _ => ⟨rfl, rfl, (by decide : 18 + 3 ≤ _), (by decide : 48 + 8 ≤ _)⟩)
  dsimp only [Pt.U, Pt.locs, Pt.cells, Pt.slots] at X139 l139 y139 z139 st139 hQ139
  subst l139 y139 z139
  obtain ⟨a7', hv139, Nq139, K139, S139⟩ := hQ139
  subst hv139
  have N139 := Fr.app N135 Nq139
  have Z140 : n0 ≤ T139.heap.size := Nat.le_trans Z136 K139.1
  have O141 : Old Z n0 T139.heap := O137.keep K139 all0
  have G142 : ∀ t, Steps p.tables e below (T139.setTop (mkF m 120 #[iv p1, iv p2, iv p3, iv c1, iv c2, iv c3, iv c4, iv c5, iv c6, iv c7, iv c8, rv a1', rv a2', rv a3', rv a4', rv a5', rv a6', rv a7', .unset, .unset, .unset] [])) t → Steps p.tables e below (T135.setTop (mkF m 111 #[iv p1, iv p2, iv p3, iv c1, iv c2, iv c3, iv c4, iv c5, iv c6, iv c7, iv c8, rv a1', rv a2', rv a3', rv a4', rv a5', rv a6', .unset, .unset, .unset, .unset] [])) t := by
    intro t kk
    show Steps p.tables e below (T135.setTop (mkF m 111 #[iv p1, iv p2, iv p3, iv c1, iv c2, iv c3, iv c4, iv c5, iv c6, iv c7, iv c8, rv a1', rv a2', rv a3', rv a4', rv a5', rv a6', .unset, .unset, .unset, .unset] [])) _
    refine XS.iload X135.here hx rfl (hb hby at_111) rfl ?_
    show Steps _ _ _ (T135.setTop (mkF m 113 _ [.int c7])) _
    refine XS.iloadN X135.here hx rfl (hb hby at_113) rfl ?_
    show Steps _ _ _ (T135.setTop (mkF m 114 _ [.int p2, .int c7])) _
    refine XS.iloadN X135.here hx rfl (hb hby at_114) rfl ?_
    show Steps _ _ _ (T135.setTop (mkF m 115 _ [.int p3, .int p2, .int c7])) _
    refine st139 _ ?_
    show Steps p.tables e below (T139.setTop (mkF m 118 #[iv p1, iv p2, iv p3, iv c1, iv c2, iv c3, iv c4, iv c5, iv c6, iv c7, iv c8, rv a1', rv a2', rv a3', rv a4', rv a5', rv a6', .unset, .unset, .unset, .unset] [.ref a7'])) _
    refine XS.astore X139.here hx rfl (hb hby at_118) rfl rfl (l' := #[iv p1, iv p2, iv p3, iv c1, iv c2, iv c3, iv c4, iv c5, iv c6, iv c7, iv c8, rv a1', rv a2', rv a3', rv a4', rv a5', rv a6', rv a7', .unset, .unset, .unset]) rfl ?_
    exact kk
  obtain ⟨_, _, ⟨T143, L143, k143, n143⟩, -, X143, ⟨Lc143, hQ143, l143, y143, z143⟩, st143⟩ := Jvm.LawKit.callS X139 hx (y := (⟨"com/example/bulkhead/bulkhead/registry/LoopCheckCameBackPinLaw", "id", "(III)Ljava/lang/String;"⟩ : MethodName)) hown (mvT hZ (W 0 rfl)) (mvT hZ (W 1 rfl)) (mvT hZ (W 2 rfl)) (mvT hZ (W 3 rfl)) (by decide) (backOf (W := 0) (rm_id l Z a0 hw [] c8 p2 p3 G1 T139.heap n0 Z140 O141 O2 P5) hZ (W 3 rfl) (W 2 rfl) (by decide) (by decide)) (g := (mkF m 124 #[iv p1, iv p2, iv p3, iv c1, iv c2, iv c3, iv c4, iv c5, iv c6, iv c7, iv c8, rv a1', rv a2', rv a3', rv a4', rv a5', rv a6', rv a7', .unset, .unset, .unset] [.int p3, .int p2, .int c8])) rfl (by rw [hml]; rfl) (argsL := [.int c8, .int p2, .int p3]) (rest := []) (lenOf own_pd_0 rfl) rfl (by show 2 * 0 + _ ≤ _; exact Nat.le_of_eq rfl) (hb hby at_124) (fun _ _ => ⟨rfl, rfl, (by decide : 21 + 3 ≤ _), (by decide : 56 + 8 ≤ _)⟩)
  dsimp only [Pt.U, Pt.locs, Pt.cells, Pt.slots] at X143 l143 y143 z143 st143 hQ143
  subst l143 y143 z143
  obtain ⟨a8', hv143, Nq143, K143, S143⟩ := hQ143
  subst hv143
  have N143 := Fr.app N139 Nq143
  have Z144 : n0 ≤ T143.heap.size := Nat.le_trans Z140 K143.1
  have O145 : Old Z n0 T143.heap := O141.keep K143 all0
  have G146 : ∀ t, Steps p.tables e below (T143.setTop (mkF m 129 #[iv p1, iv p2, iv p3, iv c1, iv c2, iv c3, iv c4, iv c5, iv c6, iv c7, iv c8, rv a1', rv a2', rv a3', rv a4', rv a5', rv a6', rv a7', rv a8', .unset, .unset] [])) t → Steps p.tables e below (T139.setTop (mkF m 120 #[iv p1, iv p2, iv p3, iv c1, iv c2, iv c3, iv c4, iv c5, iv c6, iv c7, iv c8, rv a1', rv a2', rv a3', rv a4', rv a5', rv a6', rv a7', .unset, .unset, .unset] [])) t := by
    intro t kk
    show Steps p.tables e below (T139.setTop (mkF m 120 #[iv p1, iv p2, iv p3, iv c1, iv c2, iv c3, iv c4, iv c5, iv c6, iv c7, iv c8, rv a1', rv a2', rv a3', rv a4', rv a5', rv a6', rv a7', .unset, .unset, .unset] [])) _
    refine XS.iload X139.here hx rfl (hb hby at_120) rfl ?_
    show Steps _ _ _ (T139.setTop (mkF m 122 _ [.int c8])) _
    refine XS.iloadN X139.here hx rfl (hb hby at_122) rfl ?_
    show Steps _ _ _ (T139.setTop (mkF m 123 _ [.int p2, .int c8])) _
    refine XS.iloadN X139.here hx rfl (hb hby at_123) rfl ?_
    show Steps _ _ _ (T139.setTop (mkF m 124 _ [.int p3, .int p2, .int c8])) _
    refine st143 _ ?_
    show Steps p.tables e below (T143.setTop (mkF m 127 #[iv p1, iv p2, iv p3, iv c1, iv c2, iv c3, iv c4, iv c5, iv c6, iv c7, iv c8, rv a1', rv a2', rv a3', rv a4', rv a5', rv a6', rv a7', .unset, .unset, .unset] [.ref a8'])) _
    refine XS.astore X143.here hx rfl (hb hby at_127) rfl rfl (l' := #[iv p1, iv p2, iv p3, iv c1, iv c2, iv c3, iv c4, iv c5, iv c6, iv c7, iv c8, rv a1', rv a2', rv a3', rv a4', rv a5', rv a6', rv a7', rv a8', .unset, .unset]) rfl ?_
    exact kk
  have f147 := (((((((S115.keep K119 all0).keep K123 all0).keep K127 all0).keep K131 all0).keep K135 all0).keep K139 all0).keep K143 all0)
  have SB1 := f147.now
  have f148 := ((((((S119.keep K123 all0).keep K127 all0).keep K131 all0).keep K135 all0).keep K139 all0).keep K143 all0)
  have SB2 := f148.now
  have f149 := (((((S123.keep K127 all0).keep K131 all0).keep K135 all0).keep K139 all0).keep K143 all0)
  have SB3 := f149.now
  have f150 := ((((S127.keep K131 all0).keep K135 all0).keep K139 all0).keep K143 all0)
  have SB4 := f150.now
  have f151 := (((S131.keep K135 all0).keep K139 all0).keep K143 all0)
  have SB5 := f151.now
  have f152 := ((S135.keep K139 all0).keep K143 all0)
  have SB6 := f152.now
  have f153 := (S139.keep K143 all0)
  have SB7 := f153.now
  have SB8 := S143.now
  obtain ⟨T154, h154, X154, e154, E154, A154, D154, -, st154⟩ := newO X143 hx hZ hown (W 34 rfl) (W 35 rfl) (W 36 rfl) rfl (g := (mkF m 129 #[iv p1, iv p2, iv p3, iv c1, iv c2, iv c3, iv c4, iv c5, iv c6, iv c7, iv c8, rv a1', rv a2', rv a3', rv a4', rv a5', rv a6', rv a7', rv a8', .unset, .unset] [])) rfl (hb hby at_129) (by decide) (by decide)
  obtain ⟨b154, g154⟩ : ∃ z, z = T143.heap.size := ⟨_, rfl⟩
  rw [← g154] at A154 D154 st154
  have g155 : n0 ≤ b154 := Nat.le_trans Z144 (Nat.le_of_eq g154.symm)
  have Z156 : n0 ≤ h154.size := Nat.le_trans Z144 E154.1
  have O157 : Old Z n0 h154 := O145.ext E154
  have F158 : Fld Z h154 b154 "com/example/bulkhead/bulkhead/registry/LoopCheck" "stepsToNextKeep" "J" (.long (0 : Int64)) := D154 (Or.inl (W 42 rfl)) (ty := .long) (by decide)
  have F159 : Fld Z h154 b154 "com/example/bulkhead/bulkhead/registry/LoopCheck" "kept" "Ljava/lang/String;" .null := D154 (Or.inl (W 49 rfl)) (ty := (.object "java/lang/String")) (by decide)
  have F160 : Fld Z h154 b154 "com/example/bulkhead/bulkhead/registry/LoopCheck" "stepsSinceKept" "J" (.long (0 : Int64)) := D154 (Or.inl (W 56 rfl)) (ty := .long) (by decide)
  obtain ⟨_, _, ⟨T161, L161, k161, n161⟩, -, X161, ⟨Lc161, hQ161, l161, y161, z161⟩, st161⟩ := X154.specialBack hx (y := (⟨"com/example/bulkhead/bulkhead/registry/LoopCheck", "<init>", "()V"⟩ : MethodName)) rfl hown (mvT hZ (W 37 rfl)) (mvT hZ (W 38 rfl)) (mvT hZ (W 39 rfl)) (by decide) (backOf (W := 1) (rm_init l Z a0 hw [] b154 h154 n0 Z156 A154 g155 F159 F160 F158) hZ (W 39 rfl) (W 36 rfl) (by decide) (by decide)) (g := (mkF m 133 #[iv p1, iv p2, iv p3, iv c1, iv c2, iv c3, iv c4, iv c5, iv c6, iv c7, iv c8, rv a1', rv a2', rv a3', rv a4', rv a5', rv a6', rv a7', rv a8', .unset, .unset] [.ref b154, .ref b154])) rfl (by rw [hml]; rfl) (Steps.refl _) (a := b154) (argsL := []) (rest := [.ref b154]) (lenOf own_pd_3 rfl) rfl (by show 2 * 0 + _ ≤ _; exact Nat.le_of_eq rfl) (hb hby at_133) (fun _ _ => ⟨rfl, e154, (by decide : 25 + 0 ≤ _), (by decide : 67 + 0 ≤ _)⟩)
  dsimp only [Pt.U, Pt.locs, Pt.cells, Pt.slots] at X161 l161 y161 z161 st161 hQ161
  subst l161 y161 z161
  obtain ⟨rfl, Nq161, K161, gE161, gK161, gS161, gX161⟩ := hQ161
  have N161 := Fr.app N143 Nq161
  have Z162 : n0 ≤ T161.heap.size := Nat.le_trans Z156 K161.1
  have O163 : Old Z n0 T161.heap := O157.keep K161 (allS g155 all0)
  have f164 := ((SB1.ext E154).keep K161 (allS (Nat.le_of_eq g154.symm) all0))
  obtain ⟨cq165, kq165, q165a, q165b, q165c⟩ := isOf hZ rfl gE161
  obtain ⟨_, _, ⟨T165, L165, k165, n165⟩, -, X165, ⟨Lc165, hQ165, l165, y165, z165⟩, st165⟩ := X161.virtualBack hx (y := (⟨"com/example/bulkhead/bulkhead/registry/LoopCheck", "cameBack", "(Ljava/lang/String;)Z"⟩ : MethodName)) (z := (⟨"com/example/bulkhead/bulkhead/registry/LoopCheck", "cameBack", "(Ljava/lang/String;)Z"⟩ : MethodName)) hown (mvT hZ (W 43 rfl)) (mvT hZ (W 44 rfl)) (notFace_of_selects (args := #[]) (mvT hZ (W 46 rfl))) (mvT hZ (W 46 rfl)) (mvT hZ (W 45 rfl)) (by decide) (backOf (W := 0) (rm_cb0 l Z a0 hw [] b154 a1' T161.heap n0 Z162 gE161 g155 gK161 gS161 gX161 f164.exa) hZ (W 47 rfl) (W 36 rfl) (by decide) (by decide)) q165a q165c (g := (mkF m 142 #[iv p1, iv p2, iv p3, iv c1, iv c2, iv c3, iv c4, iv c5, iv c6, iv c7, iv c8, rv a1', rv a2', rv a3', rv a4', rv a5', rv a6', rv a7', rv a8', rv b154, .unset] [.ref a1', .ref b154])) rfl (by rw [hml]; rfl) (Steps.refl _) (argsL := [.ref a1']) (rest := []) (lenOf own_pd_7 rfl) rfl (by show 2 * 0 + _ ≤ _; exact Nat.le_of_eq rfl) (hb hby at_142) (fun _ _ => ⟨rfl, rfl, (by decide : 25 + 0 ≤ _), (by decide : 67 + 0 ≤ _)⟩)
  dsimp only [Pt.U, Pt.locs, Pt.cells, Pt.slots] at X165 l165 y165 z165 st165 hQ165
  subst l165 y165 z165
  obtain ⟨rfl, Nq165, K165, gE165, gK165, gS165, gX165⟩ := hQ165
  have N165 := Fr.app N161 Nq165
  have Z166 : n0 ≤ T165.heap.size := Nat.le_trans Z162 K165.1
  have O167 : Old Z n0 T165.heap := O163.keep K165 (allS g155 all0)
  have G168 : ∀ t, Steps p.tables e below (T165.setTop (mkF m 150 #[iv p1, iv p2, iv p3, iv c1, iv c2, iv c3, iv c4, iv c5, iv c6, iv c7, iv c8, rv a1', rv a2', rv a3', rv a4', rv a5', rv a6', rv a7', rv a8', rv b154, .unset] [])) t → Steps p.tables e below (T143.setTop (mkF m 129 #[iv p1, iv p2, iv p3, iv c1, iv c2, iv c3, iv c4, iv c5, iv c6, iv c7, iv c8, rv a1', rv a2', rv a3', rv a4', rv a5', rv a6', rv a7', rv a8', .unset, .unset] [])) t := by
    intro t kk
    show Steps p.tables e below (T143.setTop (mkF m 129 #[iv p1, iv p2, iv p3, iv c1, iv c2, iv c3, iv c4, iv c5, iv c6, iv c7, iv c8, rv a1', rv a2', rv a3', rv a4', rv a5', rv a6', rv a7', rv a8', .unset, .unset] [])) _
    refine st154 _ ?_
    show Steps p.tables e below (T154.setTop (mkF m 132 #[iv p1, iv p2, iv p3, iv c1, iv c2, iv c3, iv c4, iv c5, iv c6, iv c7, iv c8, rv a1', rv a2', rv a3', rv a4', rv a5', rv a6', rv a7', rv a8', .unset, .unset] [.ref b154])) _
    refine XS.dup X154.here hx rfl (hb hby at_132) rfl rfl ?_
    show Steps _ _ _ (T154.setTop (mkF m 133 _ [.ref b154, .ref b154])) _
    refine st161.trans ?_
    show Steps p.tables e below (T161.setTop (mkF m 136 #[iv p1, iv p2, iv p3, iv c1, iv c2, iv c3, iv c4, iv c5, iv c6, iv c7, iv c8, rv a1', rv a2', rv a3', rv a4', rv a5', rv a6', rv a7', rv a8', .unset, .unset] [.ref b154])) _
    refine XS.astore X161.here hx rfl (hb hby at_136) rfl rfl (l' := #[iv p1, iv p2, iv p3, iv c1, iv c2, iv c3, iv c4, iv c5, iv c6, iv c7, iv c8, rv a1', rv a2', rv a3', rv a4', rv a5', rv a6', rv a7', rv a8', rv b154, .unset]) rfl ?_
    show Steps _ _ _ (T161.setTop (mkF m 138 _ [])) _
    refine XS.aload X161.here hx rfl (hb hby at_138) rfl rfl ?_
    show Steps _ _ _ (T161.setTop (mkF m 140 _ [.ref b154])) _
    refine XS.aload X161.here hx rfl (hb hby at_140) rfl rfl ?_
    show Steps _ _ _ (T161.setTop (mkF m 142 _ [.ref a1', .ref b154])) _
    refine st165.trans ?_
    show Steps p.tables e below (T165.setTop (mkF m 145 #[iv p1, iv p2, iv p3, iv c1, iv c2, iv c3, iv c4, iv c5, iv c6, iv c7, iv c8, rv a1', rv a2', rv a3', rv a4', rv a5', rv a6', rv a7', rv a8', rv b154, .unset] [.int 0])) _
    refine XS.ifYes X165.here hx rfl (pc0 := 145) (pc' := 150) rfl (hb hby at_145) rfl ((if0 _ _).trans (teq (rfl : (0 : Int32) = (0 : Int32))).1) (by decide) (by decide) ?_
    exact kk
  have f169 := (((SB2.ext E154).keep K161 (allS (Nat.le_of_eq g154.symm) all0)).keep K165 (allS (Nat.le_of_eq g154.symm) all0))
  have f170 := (f164.keep K165 (allS (Nat.le_of_eq g154.symm) all0))
  obtain ⟨cq171, kq171, q171a, q171b, q171c⟩ := isOf hZ rfl gE165
  obtain ⟨_, _, ⟨T171, L171, k171, n171⟩, -, X171, ⟨Lc171, hQ171, l171, y171, z171⟩, st171⟩ := X165.virtualBack hx (y := (⟨"com/example/bulkhead/bulkhead/registry/LoopCheck", "cameBack", "(Ljava/lang/String;)Z"⟩ : MethodName)) (z := (⟨"com/example/bulkhead/bulkhead/registry/LoopCheck", "cameBack", "(Ljava/lang/String;)Z"⟩ : MethodName)) hown (mvT hZ (W 43 rfl)) (mvT hZ (W 44 rfl)) (notFace_of_selects (args := #[]) (mvT hZ (W 46 rfl))) (mvT hZ (W 46 rfl)) (mvT hZ (W 45 rfl)) (by decide) (backOf (W := 0) (rm_cbN l Z a0 hw [] b154 a2' a1' (0 : Int64) (2 : Int64) (1 : Int64) (own_id c2 p2 p3) (own_id c1 p2 p3) _ _ G1 T165.heap n0 Z166 O167 gE165 g155 gK165 gS165 gX165 f169 f170 (by decide) (by decide) O2 P5) hZ (W 47 rfl) (W 36 rfl) (by decide) (by decide)) q171a q171c (g := (mkF m 154 #[iv p1, iv p2, iv p3, iv c1, iv c2, iv c3, iv c4, iv c5, iv c6, iv c7, iv c8, rv a1', rv a2', rv a3', rv a4', rv a5', rv a6', rv a7', rv a8', rv b154, .unset] [.ref a2', .ref b154])) rfl (by rw [hml]; rfl) (Steps.refl _) (argsL := [.ref a2']) (rest := []) (lenOf own_pd_7 rfl) rfl (by show 2 * 0 + _ ≤ _; exact Nat.le_of_eq rfl) (hb hby at_154) (fun _ _ => ⟨rfl, rfl, (by decide : 25 + 0 ≤ _), (by decide : 67 + 0 ≤ _)⟩)
  dsimp only [Pt.U, Pt.locs, Pt.cells, Pt.slots] at X171 l171 y171 z171 st171 hQ171
  subst l171 y171 z171
  have hcase2 := hQ171
  rcases hcase2 with ⟨rfl, hq2, Nq171⟩ | ⟨rfl, hq2, Nq171, K171, gE171, gK171, gS171, gX171⟩
  · have N171 := Fr.app N165 Nq171
    have hcc := own_id_inj d2 d1 hq2
    obtain ⟨fs, hr, hrun, hended, hW, hsame⟩ := X171.leave (v := some (.int (1 : Int32))) (fun h => by rw [Bd.returns] at h; cases h)
    refine ⟨_, _, pre0 _ (G0 _ (G118 _ (G122 _ (G126 _ (G130 _ (G134 _ (G138 _ (G142 _ (G146 _ (G168 _ (?_))))))))))), hrun, hended, _, _, rfl, ?_, ⟨_, rfl⟩, hW, hsame.mono (by decide) (by decide)⟩
    · show Steps p.tables e below (T165.setTop (mkF m 150 #[iv p1, iv p2, iv p3, iv c1, iv c2, iv c3, iv c4, iv c5, iv c6, iv c7, iv c8, rv a1', rv a2', rv a3', rv a4', rv a5', rv a6', rv a7', rv a8', rv b154, .unset] [])) _
      refine XS.aload X165.here hx rfl (hb hby at_150) rfl rfl ?_
      show Steps _ _ _ (T165.setTop (mkF m 152 _ [.ref b154])) _
      refine XS.aload X165.here hx rfl (hb hby at_152) rfl rfl ?_
      show Steps _ _ _ (T165.setTop (mkF m 154 _ [.ref a2', .ref b154])) _
      refine st171.trans ?_
      show Steps p.tables e below (T171.setTop (mkF m 157 #[iv p1, iv p2, iv p3, iv c1, iv c2, iv c3, iv c4, iv c5, iv c6, iv c7, iv c8, rv a1', rv a2', rv a3', rv a4', rv a5', rv a6', rv a7', rv a8', rv b154, .unset] [.int 1])) _
      refine XS.istore X171.here hx rfl (hb hby at_157) rfl (l' := #[iv p1, iv p2, iv p3, iv c1, iv c2, iv c3, iv c4, iv c5, iv c6, iv c7, iv c8, rv a1', rv a2', rv a3', rv a4', rv a5', rv a6', rv a7', rv a8', rv b154, iv 1]) rfl ?_
      show Steps _ _ _ (T171.setTop (mkF m 159 _ [])) _
      refine XS.iload X171.here hx rfl (hb hby at_159) rfl ?_
      show Steps _ _ _ (T171.setTop (mkF m 161 _ [.int 1])) _
      refine XS.iload X171.here hx rfl (hb hby at_161) rfl ?_
      show Steps _ _ _ (T171.setTop (mkF m 163 _ [.int c2, .int 1])) _
      refine XS.iloadN X171.here hx rfl (hb hby at_163) rfl ?_
      show Steps _ _ _ (T171.setTop (mkF m 164 _ [.int c1, .int c2, .int 1])) _
      refine XS.icmpNo X171.here hx rfl (hb hby at_164) rfl (teq (hcc : c2 = c1)).2 ?_
      show Steps _ _ _ (T171.setTop (mkF m 167 _ [.int 1])) _
      refine XS.iconst X171.here hx rfl (hb hby at_167) ?_
      show Steps _ _ _ (T171.setTop (mkF m 168 _ [.int 1, .int 1])) _
      refine XS.goto X171.here hx rfl (pc0 := 168) (pc' := 172) rfl (hb hby at_168) (by decide) (by decide) ?_
      show Steps _ _ _ (T171.setTop (mkF m 172 _ [.int 1, .int 1])) _
      refine XS.icmpYes X171.here hx rfl (pc0 := 172) (pc' := 177) rfl (hb hby at_172) rfl (teq (rfl : (1 : Int32) = (1 : Int32))).1 (by decide) (by decide) ?_
      show Steps p.tables e below (T171.setTop (mkF m 177 #[iv p1, iv p2, iv p3, iv c1, iv c2, iv c3, iv c4, iv c5, iv c6, iv c7, iv c8, rv a1', rv a2', rv a3', rv a4', rv a5', rv a6', rv a7', rv a8', rv b154, iv 1] [])) _
      refine XS.iload X171.here hx rfl (hb hby at_177) rfl ?_
      show Steps _ _ _ (T171.setTop (mkF m 179 _ [.int 1])) _
      refine XS.ifNo X171.here hx rfl (hb hby at_179) rfl ((if0 _ _).trans (feq ((by decide) : ¬ ((1 : Int32) = (0 : Int32)))).1) ?_
      show Steps _ _ _ (T171.setTop (mkF m 182 _ [])) _
      refine XS.iconst X171.here hx rfl (hb hby at_182) ?_
      show Steps _ _ _ (T171.setTop (mkF m 183 _ [.int 1])) _
      exact retN X171 hx (t := .boolean) Bd.returns (by simp) (hb hby at_183) hr
    · show Q_law Z p1 p2 p3 G1 h0 n0 _ T171.heap _
      exact ⟨rfl, N171⟩
  · have N171 := Fr.app N165 Nq171
    have hcc : ¬ (c2 = c1) := fun q => hq2 (by rw [q])
    have Z172 : n0 ≤ T171.heap.size := Nat.le_trans Z166 K171.1
    have O173 : Old Z n0 T171.heap := O167.keep K171 (allS g155 all0)
    have G174 : ∀ t, Steps p.tables e below (T171.setTop (mkF m 184 #[iv p1, iv p2, iv p3, iv c1, iv c2, iv c3, iv c4, iv c5, iv c6, iv c7, iv c8, rv a1', rv a2', rv a3', rv a4', rv a5', rv a6', rv a7', rv a8', rv b154, iv 0] [])) t → Steps p.tables e below (T165.setTop (mkF m 150 #[iv p1, iv p2, iv p3, iv c1, iv c2, iv c3, iv c4, iv c5, iv c6, iv c7, iv c8, rv a1', rv a2', rv a3', rv a4', rv a5', rv a6', rv a7', rv a8', rv b154, .unset] [])) t := by
      intro t kk
      show Steps p.tables e below (T165.setTop (mkF m 150 #[iv p1, iv p2, iv p3, iv c1, iv c2, iv c3, iv c4, iv c5, iv c6, iv c7, iv c8, rv a1', rv a2', rv a3', rv a4', rv a5', rv a6', rv a7', rv a8', rv b154, .unset] [])) _
      refine XS.aload X165.here hx rfl (hb hby at_150) rfl rfl ?_
      show Steps _ _ _ (T165.setTop (mkF m 152 _ [.ref b154])) _
      refine XS.aload X165.here hx rfl (hb hby at_152) rfl rfl ?_
      show Steps _ _ _ (T165.setTop (mkF m 154 _ [.ref a2', .ref b154])) _
      refine st171.trans ?_
      show Steps p.tables e below (T171.setTop (mkF m 157 #[iv p1, iv p2, iv p3, iv c1, iv c2, iv c3, iv c4, iv c5, iv c6, iv c7, iv c8, rv a1', rv a2', rv a3', rv a4', rv a5', rv a6', rv a7', rv a8', rv b154, .unset] [.int 0])) _
      refine XS.istore X171.here hx rfl (hb hby at_157) rfl (l' := #[iv p1, iv p2, iv p3, iv c1, iv c2, iv c3, iv c4, iv c5, iv c6, iv c7, iv c8, rv a1', rv a2', rv a3', rv a4', rv a5', rv a6', rv a7', rv a8', rv b154, iv 0]) rfl ?_
      show Steps _ _ _ (T171.setTop (mkF m 159 _ [])) _
      refine XS.iload X171.here hx rfl (hb hby at_159) rfl ?_
      show Steps _ _ _ (T171.setTop (mkF m 161 _ [.int 0])) _
      refine XS.iload X171.here hx rfl (hb hby at_161) rfl ?_
      show Steps _ _ _ (T171.setTop (mkF m 163 _ [.int c2, .int 0])) _
      refine XS.iloadN X171.here hx rfl (hb hby at_163) rfl ?_
      show Steps _ _ _ (T171.setTop (mkF m 164 _ [.int c1, .int c2, .int 0])) _
      refine XS.icmpYes X171.here hx rfl (pc0 := 164) (pc' := 171) rfl (hb hby at_164) rfl (feq (hcc : ¬ (c2 = c1))).2 (by decide) (by decide) ?_
      show Steps _ _ _ (T171.setTop (mkF m 171 _ [.int 0])) _
      refine XS.iconst X171.here hx rfl (hb hby at_171) ?_
      show Steps _ _ _ (T171.setTop (mkF m 172 _ [.int 0, .int 0])) _
      refine XS.icmpYes X171.here hx rfl (pc0 := 172) (pc' := 177) rfl (hb hby at_172) rfl (teq (rfl : (0 : Int32) = (0 : Int32))).1 (by decide) (by decide) ?_
      show Steps _ _ _ (T171.setTop (mkF m 177 _ [])) _
      refine XS.iload X171.here hx rfl (hb hby at_177) rfl ?_
      show Steps p.tables e below (T171.setTop (mkF m 179 #[iv p1, iv p2, iv p3, iv c1, iv c2, iv c3, iv c4, iv c5, iv c6, iv c7, iv c8, rv a1', rv a2', rv a3', rv a4', rv a5', rv a6', rv a7', rv a8', rv b154, iv 0] [.int 0])) _
      refine XS.ifYes X171.here hx rfl (pc0 := 179) (pc' := 184) rfl (hb hby at_179) rfl ((if0 _ _).trans (teq (rfl : (0 : Int32) = (0 : Int32))).1) (by decide) (by decide) ?_
      exact kk
    have f175 := ((((SB3.ext E154).keep K161 (allS (Nat.le_of_eq g154.symm) all0)).keep K165 (allS (Nat.le_of_eq g154.symm) all0)).keep K171 (allS (Nat.le_of_eq g154.symm) all0))
    have f176 := (f170.keep K171 (allS (Nat.le_of_eq g154.symm) all0))
    obtain ⟨cq177, kq177, q177a, q177b, q177c⟩ := isOf hZ rfl gE171
    obtain ⟨_, _, ⟨T177, L177, k177, n177⟩, -, X177, ⟨Lc177, hQ177, l177, y177, z177⟩, st177⟩ := X171.virtualBack hx (y := (⟨"com/example/bulkhead/bulkhead/registry/LoopCheck", "cameBack", "(Ljava/lang/String;)Z"⟩ : MethodName)) (z := (⟨"com/example/bulkhead/bulkhead/registry/LoopCheck", "cameBack", "(Ljava/lang/String;)Z"⟩ : MethodName)) hown (mvT hZ (W 43 rfl)) (mvT hZ (W 44 rfl)) (notFace_of_selects (args := #[]) (mvT hZ (W 46 rfl))) (mvT hZ (W 46 rfl)) (mvT hZ (W 45 rfl)) (by decide) (backOf (W := 0) (rm_cbK l Z a0 hw [] b154 a3' a1' (1 : Int64) (2 : Int64) (4 : Int64) (own_id c3 p2 p3) (own_id c1 p2 p3) _ _ G1 T171.heap n0 Z172 O173 gE171 g155 gK171 gS171 gX171 f175 f176 (by decide) (by decide) O2 P5) hZ (W 47 rfl) (W 36 rfl) (by decide) (by decide)) q177a q177c (g := (mkF m 188 #[iv p1, iv p2, iv p3, iv c1, iv c2, iv c3, iv c4, iv c5, iv c6, iv c7, iv c8, rv a1', rv a2', rv a3', rv a4', rv a5', rv a6', rv a7', rv a8', rv b154, iv 0] [.ref a3', .ref b154])) rfl (by rw [hml]; rfl) (Steps.refl _) (argsL := [.ref a3']) (rest := []) (lenOf own_pd_7 rfl) rfl (by show 2 * 0 + _ ≤ _; exact Nat.le_of_eq rfl) (hb hby at_188) (fun _ _ => ⟨rfl, rfl, (by decide : 25 + 0 ≤ _), (by decide : 67 + 0 ≤ _)⟩)
    dsimp only [Pt.U, Pt.locs, Pt.cells, Pt.slots] at X177 l177 y177 z177 st177 hQ177
    subst l177 y177 z177
    have hcase3 := hQ177
    rcases hcase3 with ⟨rfl, hq3, Nq177⟩ | ⟨rfl, hq3, Nq177, K177, gE177, gK177, gS177, gX177⟩
    · have N177 := Fr.app N171 Nq177
      have hcc := own_id_inj d3 d1 hq3
      obtain ⟨fs, hr, hrun, hended, hW, hsame⟩ := X177.leave (v := some (.int (1 : Int32))) (fun h => by rw [Bd.returns] at h; cases h)
      refine ⟨_, _, pre0 _ (G0 _ (G118 _ (G122 _ (G126 _ (G130 _ (G134 _ (G138 _ (G142 _ (G146 _ (G168 _ (G174 _ (?_)))))))))))), hrun, hended, _, _, rfl, ?_, ⟨_, rfl⟩, hW, hsame.mono (by decide) (by decide)⟩
      · show Steps p.tables e below (T171.setTop (mkF m 184 #[iv p1, iv p2, iv p3, iv c1, iv c2, iv c3, iv c4, iv c5, iv c6, iv c7, iv c8, rv a1', rv a2', rv a3', rv a4', rv a5', rv a6', rv a7', rv a8', rv b154, iv 0] [])) _
        refine XS.aload X171.here hx rfl (hb hby at_184) rfl rfl ?_
        show Steps _ _ _ (T171.setTop (mkF m 186 _ [.ref b154])) _
        refine XS.aload X171.here hx rfl (hb hby at_186) rfl rfl ?_
        show Steps _ _ _ (T171.setTop (mkF m 188 _ [.ref a3', .ref b154])) _
        refine st177.trans ?_
        show Steps p.tables e below (T177.setTop (mkF m 191 #[iv p1, iv p2, iv p3, iv c1, iv c2, iv c3, iv c4, iv c5, iv c6, iv c7, iv c8, rv a1', rv a2', rv a3', rv a4', rv a5', rv a6', rv a7', rv a8', rv b154, iv 0] [.int 1])) _
        refine XS.istore X177.here hx rfl (hb hby at_191) rfl (l' := #[iv p1, iv p2, iv p3, iv c1, iv c2, iv c3, iv c4, iv c5, iv c6, iv c7, iv c8, rv a1', rv a2', rv a3', rv a4', rv a5', rv a6', rv a7', rv a8', rv b154, iv 1]) rfl ?_
        show Steps _ _ _ (T177.setTop (mkF m 193 _ [])) _
        refine XS.iload X177.here hx rfl (hb hby at_193) rfl ?_
        show Steps _ _ _ (T177.setTop (mkF m 195 _ [.int 1])) _
        refine XS.iload X177.here hx rfl (hb hby at_195) rfl ?_
        show Steps _ _ _ (T177.setTop (mkF m 197 _ [.int c3, .int 1])) _
        refine XS.iloadN X177.here hx rfl (hb hby at_197) rfl ?_
        show Steps _ _ _ (T177.setTop (mkF m 198 _ [.int c1, .int c3, .int 1])) _
        refine XS.icmpNo X177.here hx rfl (hb hby at_198) rfl (teq (hcc : c3 = c1)).2 ?_
        show Steps _ _ _ (T177.setTop (mkF m 201 _ [.int 1])) _
        refine XS.iconst X177.here hx rfl (hb hby at_201) ?_
        show Steps _ _ _ (T177.setTop (mkF m 202 _ [.int 1, .int 1])) _
        refine XS.goto X177.here hx rfl (pc0 := 202) (pc' := 206) rfl (hb hby at_202) (by decide) (by decide) ?_
        show Steps _ _ _ (T177.setTop (mkF m 206 _ [.int 1, .int 1])) _
        refine XS.icmpYes X177.here hx rfl (pc0 := 206) (pc' := 211) rfl (hb hby at_206) rfl (teq (rfl : (1 : Int32) = (1 : Int32))).1 (by decide) (by decide) ?_
        show Steps p.tables e below (T177.setTop (mkF m 211 #[iv p1, iv p2, iv p3, iv c1, iv c2, iv c3, iv c4, iv c5, iv c6, iv c7, iv c8, rv a1', rv a2', rv a3', rv a4', rv a5', rv a6', rv a7', rv a8', rv b154, iv 1] [])) _
        refine XS.iload X177.here hx rfl (hb hby at_211) rfl ?_
        show Steps _ _ _ (T177.setTop (mkF m 213 _ [.int 1])) _
        refine XS.ifNo X177.here hx rfl (hb hby at_213) rfl ((if0 _ _).trans (feq ((by decide) : ¬ ((1 : Int32) = (0 : Int32)))).1) ?_
        show Steps _ _ _ (T177.setTop (mkF m 216 _ [])) _
        refine XS.iconst X177.here hx rfl (hb hby at_216) ?_
        show Steps _ _ _ (T177.setTop (mkF m 217 _ [.int 1])) _
        exact retN X177 hx (t := .boolean) Bd.returns (by simp) (hb hby at_217) hr
      · show Q_law Z p1 p2 p3 G1 h0 n0 _ T177.heap _
        exact ⟨rfl, N177⟩
    · have N177 := Fr.app N171 Nq177
      have hcc : ¬ (c3 = c1) := fun q => hq3 (by rw [q])
      have Z178 : n0 ≤ T177.heap.size := Nat.le_trans Z172 K177.1
      have O179 : Old Z n0 T177.heap := O173.keep K177 (allS g155 all0)
      have G180 : ∀ t, Steps p.tables e below (T177.setTop (mkF m 218 #[iv p1, iv p2, iv p3, iv c1, iv c2, iv c3, iv c4, iv c5, iv c6, iv c7, iv c8, rv a1', rv a2', rv a3', rv a4', rv a5', rv a6', rv a7', rv a8', rv b154, iv 0] [])) t → Steps p.tables e below (T171.setTop (mkF m 184 #[iv p1, iv p2, iv p3, iv c1, iv c2, iv c3, iv c4, iv c5, iv c6, iv c7, iv c8, rv a1', rv a2', rv a3', rv a4', rv a5', rv a6', rv a7', rv a8', rv b154, iv 0] [])) t := by
        intro t kk
        show Steps p.tables e below (T171.setTop (mkF m 184 #[iv p1, iv p2, iv p3, iv c1, iv c2, iv c3, iv c4, iv c5, iv c6, iv c7, iv c8, rv a1', rv a2', rv a3', rv a4', rv a5', rv a6', rv a7', rv a8', rv b154, iv 0] [])) _
        refine XS.aload X171.here hx rfl (hb hby at_184) rfl rfl ?_
        show Steps _ _ _ (T171.setTop (mkF m 186 _ [.ref b154])) _
        refine XS.aload X171.here hx rfl (hb hby at_186) rfl rfl ?_
        show Steps _ _ _ (T171.setTop (mkF m 188 _ [.ref a3', .ref b154])) _
        refine st177.trans ?_
        show Steps p.tables e below (T177.setTop (mkF m 191 #[iv p1, iv p2, iv p3, iv c1, iv c2, iv c3, iv c4, iv c5, iv c6, iv c7, iv c8, rv a1', rv a2', rv a3', rv a4', rv a5', rv a6', rv a7', rv a8', rv b154, iv 0] [.int 0])) _
        refine XS.istore X177.here hx rfl (hb hby at_191) rfl (l' := #[iv p1, iv p2, iv p3, iv c1, iv c2, iv c3, iv c4, iv c5, iv c6, iv c7, iv c8, rv a1', rv a2', rv a3', rv a4', rv a5', rv a6', rv a7', rv a8', rv b154, iv 0]) rfl ?_
        show Steps _ _ _ (T177.setTop (mkF m 193 _ [])) _
        refine XS.iload X177.here hx rfl (hb hby at_193) rfl ?_
        show Steps _ _ _ (T177.setTop (mkF m 195 _ [.int 0])) _
        refine XS.iload X177.here hx rfl (hb hby at_195) rfl ?_
        show Steps _ _ _ (T177.setTop (mkF m 197 _ [.int c3, .int 0])) _
        refine XS.iloadN X177.here hx rfl (hb hby at_197) rfl ?_
        show Steps _ _ _ (T177.setTop (mkF m 198 _ [.int c1, .int c3, .int 0])) _
        refine XS.icmpYes X177.here hx rfl (pc0 := 198) (pc' := 205) rfl (hb hby at_198) rfl (feq (hcc : ¬ (c3 = c1))).2 (by decide) (by decide) ?_
        show Steps _ _ _ (T177.setTop (mkF m 205 _ [.int 0])) _
        refine XS.iconst X177.here hx rfl (hb hby at_205) ?_
        show Steps _ _ _ (T177.setTop (mkF m 206 _ [.int 0, .int 0])) _
        refine XS.icmpYes X177.here hx rfl (pc0 := 206) (pc' := 211) rfl (hb hby at_206) rfl (teq (rfl : (0 : Int32) = (0 : Int32))).1 (by decide) (by decide) ?_
        show Steps _ _ _ (T177.setTop (mkF m 211 _ [])) _
        refine XS.iload X177.here hx rfl (hb hby at_211) rfl ?_
        show Steps p.tables e below (T177.setTop (mkF m 213 #[iv p1, iv p2, iv p3, iv c1, iv c2, iv c3, iv c4, iv c5, iv c6, iv c7, iv c8, rv a1', rv a2', rv a3', rv a4', rv a5', rv a6', rv a7', rv a8', rv b154, iv 0] [.int 0])) _
        refine XS.ifYes X177.here hx rfl (pc0 := 213) (pc' := 218) rfl (hb hby at_213) rfl ((if0 _ _).trans (teq (rfl : (0 : Int32) = (0 : Int32))).1) (by decide) (by decide) ?_
        exact kk
      have f181 := (((((SB4.ext E154).keep K161 (allS (Nat.le_of_eq g154.symm) all0)).keep K165 (allS (Nat.le_of_eq g154.symm) all0)).keep K171 (allS (Nat.le_of_eq g154.symm) all0)).keep K177 (allS (Nat.le_of_eq g154.symm) all0))
      have f182 := (f175.keep K177 (allS (Nat.le_of_eq g154.symm) all0))
      obtain ⟨cq183, kq183, q183a, q183b, q183c⟩ := isOf hZ rfl gE177
      obtain ⟨_, _, ⟨T183, L183, k183, n183⟩, -, X183, ⟨Lc183, hQ183, l183, y183, z183⟩, st183⟩ := X177.virtualBack hx (y := (⟨"com/example/bulkhead/bulkhead/registry/LoopCheck", "cameBack", "(Ljava/lang/String;)Z"⟩ : MethodName)) (z := (⟨"com/example/bulkhead/bulkhead/registry/LoopCheck", "cameBack", "(Ljava/lang/String;)Z"⟩ : MethodName)) hown (mvT hZ (W 43 rfl)) (mvT hZ (W 44 rfl)) (notFace_of_selects (args := #[]) (mvT hZ (W 46 rfl))) (mvT hZ (W 46 rfl)) (mvT hZ (W 45 rfl)) (by decide) (backOf (W := 0) (rm_cbN l Z a0 hw [] b154 a4' a3' (0 : Int64) (4 : Int64) (1 : Int64) (own_id c4 p2 p3) (own_id c3 p2 p3) _ _ G1 T177.heap n0 Z178 O179 gE177 g155 gK177 gS177 gX177 f181 f182 (by decide) (by decide) O2 P5) hZ (W 47 rfl) (W 36 rfl) (by decide) (by decide)) q183a q183c (g := (mkF m 222 #[iv p1, iv p2, iv p3, iv c1, iv c2, iv c3, iv c4, iv c5, iv c6, iv c7, iv c8, rv a1', rv a2', rv a3', rv a4', rv a5', rv a6', rv a7', rv a8', rv b154, iv 0] [.ref a4', .ref b154])) rfl (by rw [hml]; rfl) (Steps.refl _) (argsL := [.ref a4']) (rest := []) (lenOf own_pd_7 rfl) rfl (by show 2 * 0 + _ ≤ _; exact Nat.le_of_eq rfl) (hb hby at_222) (fun _ _ => ⟨rfl, rfl, (by decide : 25 + 0 ≤ _), (by decide : 67 + 0 ≤ _)⟩)
      dsimp only [Pt.U, Pt.locs, Pt.cells, Pt.slots] at X183 l183 y183 z183 st183 hQ183
      subst l183 y183 z183
      have hcase4 := hQ183
      rcases hcase4 with ⟨rfl, hq4, Nq183⟩ | ⟨rfl, hq4, Nq183, K183, gE183, gK183, gS183, gX183⟩
      · have N183 := Fr.app N177 Nq183
        have hcc := own_id_inj d4 d3 hq4
        obtain ⟨fs, hr, hrun, hended, hW, hsame⟩ := X183.leave (v := some (.int (1 : Int32))) (fun h => by rw [Bd.returns] at h; cases h)
        refine ⟨_, _, pre0 _ (G0 _ (G118 _ (G122 _ (G126 _ (G130 _ (G134 _ (G138 _ (G142 _ (G146 _ (G168 _ (G174 _ (G180 _ (?_))))))))))))), hrun, hended, _, _, rfl, ?_, ⟨_, rfl⟩, hW, hsame.mono (by decide) (by decide)⟩
        · show Steps p.tables e below (T177.setTop (mkF m 218 #[iv p1, iv p2, iv p3, iv c1, iv c2, iv c3, iv c4, iv c5, iv c6, iv c7, iv c8, rv a1', rv a2', rv a3', rv a4', rv a5', rv a6', rv a7', rv a8', rv b154, iv 0] [])) _
          refine XS.aload X177.here hx rfl (hb hby at_218) rfl rfl ?_
          show Steps _ _ _ (T177.setTop (mkF m 220 _ [.ref b154])) _
          refine XS.aload X177.here hx rfl (hb hby at_220) rfl rfl ?_
          show Steps _ _ _ (T177.setTop (mkF m 222 _ [.ref a4', .ref b154])) _
          refine st183.trans ?_
          show Steps p.tables e below (T183.setTop (mkF m 225 #[iv p1, iv p2, iv p3, iv c1, iv c2, iv c3, iv c4, iv c5, iv c6, iv c7, iv c8, rv a1', rv a2', rv a3', rv a4', rv a5', rv a6', rv a7', rv a8', rv b154, iv 0] [.int 1])) _
          refine XS.istore X183.here hx rfl (hb hby at_225) rfl (l' := #[iv p1, iv p2, iv p3, iv c1, iv c2, iv c3, iv c4, iv c5, iv c6, iv c7, iv c8, rv a1', rv a2', rv a3', rv a4', rv a5', rv a6', rv a7', rv a8', rv b154, iv 1]) rfl ?_
          show Steps _ _ _ (T183.setTop (mkF m 227 _ [])) _
          refine XS.iload X183.here hx rfl (hb hby at_227) rfl ?_
          show Steps _ _ _ (T183.setTop (mkF m 229 _ [.int 1])) _
          refine XS.iload X183.here hx rfl (hb hby at_229) rfl ?_
          show Steps _ _ _ (T183.setTop (mkF m 231 _ [.int c4, .int 1])) _
          refine XS.iload X183.here hx rfl (hb hby at_231) rfl ?_
          show Steps _ _ _ (T183.setTop (mkF m 233 _ [.int c3, .int c4, .int 1])) _
          refine XS.icmpNo X183.here hx rfl (hb hby at_233) rfl (teq (hcc : c4 = c3)).2 ?_
          show Steps _ _ _ (T183.setTop (mkF m 236 _ [.int 1])) _
          refine XS.iconst X183.here hx rfl (hb hby at_236) ?_
          show Steps _ _ _ (T183.setTop (mkF m 237 _ [.int 1, .int 1])) _
          refine XS.goto X183.here hx rfl (pc0 := 237) (pc' := 241) rfl (hb hby at_237) (by decide) (by decide) ?_
          show Steps _ _ _ (T183.setTop (mkF m 241 _ [.int 1, .int 1])) _
          refine XS.icmpYes X183.here hx rfl (pc0 := 241) (pc' := 246) rfl (hb hby at_241) rfl (teq (rfl : (1 : Int32) = (1 : Int32))).1 (by decide) (by decide) ?_
          show Steps p.tables e below (T183.setTop (mkF m 246 #[iv p1, iv p2, iv p3, iv c1, iv c2, iv c3, iv c4, iv c5, iv c6, iv c7, iv c8, rv a1', rv a2', rv a3', rv a4', rv a5', rv a6', rv a7', rv a8', rv b154, iv 1] [])) _
          refine XS.iload X183.here hx rfl (hb hby at_246) rfl ?_
          show Steps _ _ _ (T183.setTop (mkF m 248 _ [.int 1])) _
          refine XS.ifNo X183.here hx rfl (hb hby at_248) rfl ((if0 _ _).trans (feq ((by decide) : ¬ ((1 : Int32) = (0 : Int32)))).1) ?_
          show Steps _ _ _ (T183.setTop (mkF m 251 _ [])) _
          refine XS.iconst X183.here hx rfl (hb hby at_251) ?_
          show Steps _ _ _ (T183.setTop (mkF m 252 _ [.int 1])) _
          exact retN X183 hx (t := .boolean) Bd.returns (by simp) (hb hby at_252) hr
        · show Q_law Z p1 p2 p3 G1 h0 n0 _ T183.heap _
          exact ⟨rfl, N183⟩
      · have N183 := Fr.app N177 Nq183
        have hcc : ¬ (c4 = c3) := fun q => hq4 (by rw [q])
        have Z184 : n0 ≤ T183.heap.size := Nat.le_trans Z178 K183.1
        have O185 : Old Z n0 T183.heap := O179.keep K183 (allS g155 all0)
        have G186 : ∀ t, Steps p.tables e below (T183.setTop (mkF m 253 #[iv p1, iv p2, iv p3, iv c1, iv c2, iv c3, iv c4, iv c5, iv c6, iv c7, iv c8, rv a1', rv a2', rv a3', rv a4', rv a5', rv a6', rv a7', rv a8', rv b154, iv 0] [])) t → Steps p.tables e below (T177.setTop (mkF m 218 #[iv p1, iv p2, iv p3, iv c1, iv c2, iv c3, iv c4, iv c5, iv c6, iv c7, iv c8, rv a1', rv a2', rv a3', rv a4', rv a5', rv a6', rv a7', rv a8', rv b154, iv 0] [])) t := by
          intro t kk
          show Steps p.tables e below (T177.setTop (mkF m 218 #[iv p1, iv p2, iv p3, iv c1, iv c2, iv c3, iv c4, iv c5, iv c6, iv c7, iv c8, rv a1', rv a2', rv a3', rv a4', rv a5', rv a6', rv a7', rv a8', rv b154, iv 0] [])) _
          refine XS.aload X177.here hx rfl (hb hby at_218) rfl rfl ?_
          show Steps _ _ _ (T177.setTop (mkF m 220 _ [.ref b154])) _
          refine XS.aload X177.here hx rfl (hb hby at_220) rfl rfl ?_
          show Steps _ _ _ (T177.setTop (mkF m 222 _ [.ref a4', .ref b154])) _
          refine st183.trans ?_
          show Steps p.tables e below (T183.setTop (mkF m 225 #[iv p1, iv p2, iv p3, iv c1, iv c2, iv c3, iv c4, iv c5, iv c6, iv c7, iv c8, rv a1', rv a2', rv a3', rv a4', rv a5', rv a6', rv a7', rv a8', rv b154, iv 0] [.int 0])) _
          refine XS.istore X183.here hx rfl (hb hby at_225) rfl (l' := #[iv p1, iv p2, iv p3, iv c1, iv c2, iv c3, iv c4, iv c5, iv c6, iv c7, iv c8, rv a1', rv a2', rv a3', rv a4', rv a5', rv a6', rv a7', rv a8', rv b154, iv 0]) rfl ?_
          show Steps _ _ _ (T183.setTop (mkF m 227 _ [])) _
          refine XS.iload X183.here hx rfl (hb hby at_227) rfl ?_
          show Steps _ _ _ (T183.setTop (mkF m 229 _ [.int 0])) _
          refine XS.iload X183.here hx rfl (hb hby at_229) rfl ?_
          show Steps _ _ _ (T183.setTop (mkF m 231 _ [.int c4, .int 0])) _
          refine XS.iload X183.here hx rfl (hb hby at_231) rfl ?_
          show Steps _ _ _ (T183.setTop (mkF m 233 _ [.int c3, .int c4, .int 0])) _
          refine XS.icmpYes X183.here hx rfl (pc0 := 233) (pc' := 240) rfl (hb hby at_233) rfl (feq (hcc : ¬ (c4 = c3))).2 (by decide) (by decide) ?_
          show Steps _ _ _ (T183.setTop (mkF m 240 _ [.int 0])) _
          refine XS.iconst X183.here hx rfl (hb hby at_240) ?_
          show Steps _ _ _ (T183.setTop (mkF m 241 _ [.int 0, .int 0])) _
          refine XS.icmpYes X183.here hx rfl (pc0 := 241) (pc' := 246) rfl (hb hby at_241) rfl (teq (rfl : (0 : Int32) = (0 : Int32))).1 (by decide) (by decide) ?_
          show Steps _ _ _ (T183.setTop (mkF m 246 _ [])) _
          refine XS.iload X183.here hx rfl (hb hby at_246) rfl ?_
          show Steps p.tables e below (T183.setTop (mkF m 248 #[iv p1, iv p2, iv p3, iv c1, iv c2, iv c3, iv c4, iv c5, iv c6, iv c7, iv c8, rv a1', rv a2', rv a3', rv a4', rv a5', rv a6', rv a7', rv a8', rv b154, iv 0] [.int 0])) _
          refine XS.ifYes X183.here hx rfl (pc0 := 248) (pc' := 253) rfl (hb hby at_248) rfl ((if0 _ _).trans (teq (rfl : (0 : Int32) = (0 : Int32))).1) (by decide) (by decide) ?_
          exact kk
        have f187 := ((((((SB5.ext E154).keep K161 (allS (Nat.le_of_eq g154.symm) all0)).keep K165 (allS (Nat.le_of_eq g154.symm) all0)).keep K171 (allS (Nat.le_of_eq g154.symm) all0)).keep K177 (allS (Nat.le_of_eq g154.symm) all0)).keep K183 (allS (Nat.le_of_eq g154.symm) all0))
        have f188 := (f182.keep K183 (allS (Nat.le_of_eq g154.symm) all0))
        obtain ⟨cq189, kq189, q189a, q189b, q189c⟩ := isOf hZ rfl gE183
        obtain ⟨_, _, ⟨T189, L189, k189, n189⟩, -, X189, ⟨Lc189, hQ189, l189, y189, z189⟩, st189⟩ := X183.virtualBack hx (y := (⟨"com/example/bulkhead/bulkhead/registry/LoopCheck", "cameBack", "(Ljava/lang/String;)Z"⟩ : MethodName)) (z := (⟨"com/example/bulkhead/bulkhead/registry/LoopCheck", "cameBack", "(Ljava/lang/String;)Z"⟩ : MethodName)) hown (mvT hZ (W 43 rfl)) (mvT hZ (W 44 rfl)) (notFace_of_selects (args := #[]) (mvT hZ (W 46 rfl))) (mvT hZ (W 46 rfl)) (mvT hZ (W 45 rfl)) (by decide) (backOf (W := 0) (rm_cbN l Z a0 hw [] b154 a5' a3' (1 : Int64) (4 : Int64) (2 : Int64) (own_id c5 p2 p3) (own_id c3 p2 p3) _ _ G1 T183.heap n0 Z184 O185 gE183 g155 gK183 gS183 gX183 f187 f188 (by decide) (by decide) O2 P5) hZ (W 47 rfl) (W 36 rfl) (by decide) (by decide)) q189a q189c (g := (mkF m 257 #[iv p1, iv p2, iv p3, iv c1, iv c2, iv c3, iv c4, iv c5, iv c6, iv c7, iv c8, rv a1', rv a2', rv a3', rv a4', rv a5', rv a6', rv a7', rv a8', rv b154, iv 0] [.ref a5', .ref b154])) rfl (by rw [hml]; rfl) (Steps.refl _) (argsL := [.ref a5']) (rest := []) (lenOf own_pd_7 rfl) rfl (by show 2 * 0 + _ ≤ _; exact Nat.le_of_eq rfl) (hb hby at_257) (fun _ _ => ⟨rfl, rfl, (by decide : 25 + 0 ≤ _), (by decide : 67 + 0 ≤ _)⟩)
        dsimp only [Pt.U, Pt.locs, Pt.cells, Pt.slots] at X189 l189 y189 z189 st189 hQ189
        subst l189 y189 z189
        have hcase5 := hQ189
        rcases hcase5 with ⟨rfl, hq5, Nq189⟩ | ⟨rfl, hq5, Nq189, K189, gE189, gK189, gS189, gX189⟩
        · have N189 := Fr.app N183 Nq189
          have hcc := own_id_inj d5 d3 hq5
          obtain ⟨fs, hr, hrun, hended, hW, hsame⟩ := X189.leave (v := some (.int (1 : Int32))) (fun h => by rw [Bd.returns] at h; cases h)
          refine ⟨_, _, pre0 _ (G0 _ (G118 _ (G122 _ (G126 _ (G130 _ (G134 _ (G138 _ (G142 _ (G146 _ (G168 _ (G174 _ (G180 _ (G186 _ (?_)))))))))))))), hrun, hended, _, _, rfl, ?_, ⟨_, rfl⟩, hW, hsame.mono (by decide) (by decide)⟩
          · show Steps p.tables e below (T183.setTop (mkF m 253 #[iv p1, iv p2, iv p3, iv c1, iv c2, iv c3, iv c4, iv c5, iv c6, iv c7, iv c8, rv a1', rv a2', rv a3', rv a4', rv a5', rv a6', rv a7', rv a8', rv b154, iv 0] [])) _
            refine XS.aload X183.here hx rfl (hb hby at_253) rfl rfl ?_
            show Steps _ _ _ (T183.setTop (mkF m 255 _ [.ref b154])) _
            refine XS.aload X183.here hx rfl (hb hby at_255) rfl rfl ?_
            show Steps _ _ _ (T183.setTop (mkF m 257 _ [.ref a5', .ref b154])) _
            refine st189.trans ?_
            show Steps p.tables e below (T189.setTop (mkF m 260 #[iv p1, iv p2, iv p3, iv c1, iv c2, iv c3, iv c4, iv c5, iv c6, iv c7, iv c8, rv a1', rv a2', rv a3', rv a4', rv a5', rv a6', rv a7', rv a8', rv b154, iv 0] [.int 1])) _
            refine XS.istore X189.here hx rfl (hb hby at_260) rfl (l' := #[iv p1, iv p2, iv p3, iv c1, iv c2, iv c3, iv c4, iv c5, iv c6, iv c7, iv c8, rv a1', rv a2', rv a3', rv a4', rv a5', rv a6', rv a7', rv a8', rv b154, iv 1]) rfl ?_
            show Steps _ _ _ (T189.setTop (mkF m 262 _ [])) _
            refine XS.iload X189.here hx rfl (hb hby at_262) rfl ?_
            show Steps _ _ _ (T189.setTop (mkF m 264 _ [.int 1])) _
            refine XS.iload X189.here hx rfl (hb hby at_264) rfl ?_
            show Steps _ _ _ (T189.setTop (mkF m 266 _ [.int c5, .int 1])) _
            refine XS.iload X189.here hx rfl (hb hby at_266) rfl ?_
            show Steps _ _ _ (T189.setTop (mkF m 268 _ [.int c3, .int c5, .int 1])) _
            refine XS.icmpNo X189.here hx rfl (hb hby at_268) rfl (teq (hcc : c5 = c3)).2 ?_
            show Steps _ _ _ (T189.setTop (mkF m 271 _ [.int 1])) _
            refine XS.iconst X189.here hx rfl (hb hby at_271) ?_
            show Steps _ _ _ (T189.setTop (mkF m 272 _ [.int 1, .int 1])) _
            refine XS.goto X189.here hx rfl (pc0 := 272) (pc' := 276) rfl (hb hby at_272) (by decide) (by decide) ?_
            show Steps _ _ _ (T189.setTop (mkF m 276 _ [.int 1, .int 1])) _
            refine XS.icmpYes X189.here hx rfl (pc0 := 276) (pc' := 281) rfl (hb hby at_276) rfl (teq (rfl : (1 : Int32) = (1 : Int32))).1 (by decide) (by decide) ?_
            show Steps p.tables e below (T189.setTop (mkF m 281 #[iv p1, iv p2, iv p3, iv c1, iv c2, iv c3, iv c4, iv c5, iv c6, iv c7, iv c8, rv a1', rv a2', rv a3', rv a4', rv a5', rv a6', rv a7', rv a8', rv b154, iv 1] [])) _
            refine XS.iload X189.here hx rfl (hb hby at_281) rfl ?_
            show Steps _ _ _ (T189.setTop (mkF m 283 _ [.int 1])) _
            refine XS.ifNo X189.here hx rfl (hb hby at_283) rfl ((if0 _ _).trans (feq ((by decide) : ¬ ((1 : Int32) = (0 : Int32)))).1) ?_
            show Steps _ _ _ (T189.setTop (mkF m 286 _ [])) _
            refine XS.iconst X189.here hx rfl (hb hby at_286) ?_
            show Steps _ _ _ (T189.setTop (mkF m 287 _ [.int 1])) _
            exact retN X189 hx (t := .boolean) Bd.returns (by simp) (hb hby at_287) hr
          · show Q_law Z p1 p2 p3 G1 h0 n0 _ T189.heap _
            exact ⟨rfl, N189⟩
        · have N189 := Fr.app N183 Nq189
          have hcc : ¬ (c5 = c3) := fun q => hq5 (by rw [q])
          have Z190 : n0 ≤ T189.heap.size := Nat.le_trans Z184 K189.1
          have O191 : Old Z n0 T189.heap := O185.keep K189 (allS g155 all0)
          have G192 : ∀ t, Steps p.tables e below (T189.setTop (mkF m 288 #[iv p1, iv p2, iv p3, iv c1, iv c2, iv c3, iv c4, iv c5, iv c6, iv c7, iv c8, rv a1', rv a2', rv a3', rv a4', rv a5', rv a6', rv a7', rv a8', rv b154, iv 0] [])) t → Steps p.tables e below (T183.setTop (mkF m 253 #[iv p1, iv p2, iv p3, iv c1, iv c2, iv c3, iv c4, iv c5, iv c6, iv c7, iv c8, rv a1', rv a2', rv a3', rv a4', rv a5', rv a6', rv a7', rv a8', rv b154, iv 0] [])) t := by
            intro t kk
            show Steps p.tables e below (T183.setTop (mkF m 253 #[iv p1, iv p2, iv p3, iv c1, iv c2, iv c3, iv c4, iv c5, iv c6, iv c7, iv c8, rv a1', rv a2', rv a3', rv a4', rv a5', rv a6', rv a7', rv a8', rv b154, iv 0] [])) _
            refine XS.aload X183.here hx rfl (hb hby at_253) rfl rfl ?_
            show Steps _ _ _ (T183.setTop (mkF m 255 _ [.ref b154])) _
            refine XS.aload X183.here hx rfl (hb hby at_255) rfl rfl ?_
            show Steps _ _ _ (T183.setTop (mkF m 257 _ [.ref a5', .ref b154])) _
            refine st189.trans ?_
            show Steps p.tables e below (T189.setTop (mkF m 260 #[iv p1, iv p2, iv p3, iv c1, iv c2, iv c3, iv c4, iv c5, iv c6, iv c7, iv c8, rv a1', rv a2', rv a3', rv a4', rv a5', rv a6', rv a7', rv a8', rv b154, iv 0] [.int 0])) _
            refine XS.istore X189.here hx rfl (hb hby at_260) rfl (l' := #[iv p1, iv p2, iv p3, iv c1, iv c2, iv c3, iv c4, iv c5, iv c6, iv c7, iv c8, rv a1', rv a2', rv a3', rv a4', rv a5', rv a6', rv a7', rv a8', rv b154, iv 0]) rfl ?_
            show Steps _ _ _ (T189.setTop (mkF m 262 _ [])) _
            refine XS.iload X189.here hx rfl (hb hby at_262) rfl ?_
            show Steps _ _ _ (T189.setTop (mkF m 264 _ [.int 0])) _
            refine XS.iload X189.here hx rfl (hb hby at_264) rfl ?_
            show Steps _ _ _ (T189.setTop (mkF m 266 _ [.int c5, .int 0])) _
            refine XS.iload X189.here hx rfl (hb hby at_266) rfl ?_
            show Steps _ _ _ (T189.setTop (mkF m 268 _ [.int c3, .int c5, .int 0])) _
            refine XS.icmpYes X189.here hx rfl (pc0 := 268) (pc' := 275) rfl (hb hby at_268) rfl (feq (hcc : ¬ (c5 = c3))).2 (by decide) (by decide) ?_
            show Steps _ _ _ (T189.setTop (mkF m 275 _ [.int 0])) _
            refine XS.iconst X189.here hx rfl (hb hby at_275) ?_
            show Steps _ _ _ (T189.setTop (mkF m 276 _ [.int 0, .int 0])) _
            refine XS.icmpYes X189.here hx rfl (pc0 := 276) (pc' := 281) rfl (hb hby at_276) rfl (teq (rfl : (0 : Int32) = (0 : Int32))).1 (by decide) (by decide) ?_
            show Steps _ _ _ (T189.setTop (mkF m 281 _ [])) _
            refine XS.iload X189.here hx rfl (hb hby at_281) rfl ?_
            show Steps p.tables e below (T189.setTop (mkF m 283 #[iv p1, iv p2, iv p3, iv c1, iv c2, iv c3, iv c4, iv c5, iv c6, iv c7, iv c8, rv a1', rv a2', rv a3', rv a4', rv a5', rv a6', rv a7', rv a8', rv b154, iv 0] [.int 0])) _
            refine XS.ifYes X189.here hx rfl (pc0 := 283) (pc' := 288) rfl (hb hby at_283) rfl ((if0 _ _).trans (teq (rfl : (0 : Int32) = (0 : Int32))).1) (by decide) (by decide) ?_
            exact kk
          have f193 := (((((((SB6.ext E154).keep K161 (allS (Nat.le_of_eq g154.symm) all0)).keep K165 (allS (Nat.le_of_eq g154.symm) all0)).keep K171 (allS (Nat.le_of_eq g154.symm) all0)).keep K177 (allS (Nat.le_of_eq g154.symm) all0)).keep K183 (allS (Nat.le_of_eq g154.symm) all0)).keep K189 (allS (Nat.le_of_eq g154.symm) all0))
          have f194 := (f188.keep K189 (allS (Nat.le_of_eq g154.symm) all0))
          obtain ⟨cq195, kq195, q195a, q195b, q195c⟩ := isOf hZ rfl gE189
          obtain ⟨_, _, ⟨T195, L195, k195, n195⟩, -, X195, ⟨Lc195, hQ195, l195, y195, z195⟩, st195⟩ := X189.virtualBack hx (y := (⟨"com/example/bulkhead/bulkhead/registry/LoopCheck", "cameBack", "(Ljava/lang/String;)Z"⟩ : MethodName)) (z := (⟨"com/example/bulkhead/bulkhead/registry/LoopCheck", "cameBack", "(Ljava/lang/String;)Z"⟩ : MethodName)) hown (mvT hZ (W 43 rfl)) (mvT hZ (W 44 rfl)) (notFace_of_selects (args := #[]) (mvT hZ (W 46 rfl))) (mvT hZ (W 46 rfl)) (mvT hZ (W 45 rfl)) (by decide) (backOf (W := 0) (rm_cbN l Z a0 hw [] b154 a6' a3' (2 : Int64) (4 : Int64) (3 : Int64) (own_id c6 p2 p3) (own_id c3 p2 p3) _ _ G1 T189.heap n0 Z190 O191 gE189 g155 gK189 gS189 gX189 f193 f194 (by decide) (by decide) O2 P5) hZ (W 47 rfl) (W 36 rfl) (by decide) (by decide)) q195a q195c (g := (mkF m 292 #[iv p1, iv p2, iv p3, iv c1, iv c2, iv c3, iv c4, iv c5, iv c6, iv c7, iv c8, rv a1', rv a2', rv a3', rv a4', rv a5', rv a6', rv a7', rv a8', rv b154, iv 0] [.ref a6', .ref b154])) rfl (by rw [hml]; rfl) (Steps.refl _) (argsL := [.ref a6']) (rest := []) (lenOf own_pd_7 rfl) rfl (by show 2 * 0 + _ ≤ _; exact Nat.le_of_eq rfl) (hb hby at_292) (fun _ _ => ⟨rfl, rfl, (by decide : 25 + 0 ≤ _), (by decide : 67 + 0 ≤ _)⟩)
          dsimp only [Pt.U, Pt.locs, Pt.cells, Pt.slots] at X195 l195 y195 z195 st195 hQ195
          subst l195 y195 z195
          have hcase6 := hQ195
          rcases hcase6 with ⟨rfl, hq6, Nq195⟩ | ⟨rfl, hq6, Nq195, K195, gE195, gK195, gS195, gX195⟩
          · have N195 := Fr.app N189 Nq195
            have hcc := own_id_inj d6 d3 hq6
            obtain ⟨fs, hr, hrun, hended, hW, hsame⟩ := X195.leave (v := some (.int (1 : Int32))) (fun h => by rw [Bd.returns] at h; cases h)
            refine ⟨_, _, pre0 _ (G0 _ (G118 _ (G122 _ (G126 _ (G130 _ (G134 _ (G138 _ (G142 _ (G146 _ (G168 _ (G174 _ (G180 _ (G186 _ (G192 _ (?_))))))))))))))), hrun, hended, _, _, rfl, ?_, ⟨_, rfl⟩, hW, hsame.mono (by decide) (by decide)⟩
            · show Steps p.tables e below (T189.setTop (mkF m 288 #[iv p1, iv p2, iv p3, iv c1, iv c2, iv c3, iv c4, iv c5, iv c6, iv c7, iv c8, rv a1', rv a2', rv a3', rv a4', rv a5', rv a6', rv a7', rv a8', rv b154, iv 0] [])) _
              refine XS.aload X189.here hx rfl (hb hby at_288) rfl rfl ?_
              show Steps _ _ _ (T189.setTop (mkF m 290 _ [.ref b154])) _
              refine XS.aload X189.here hx rfl (hb hby at_290) rfl rfl ?_
              show Steps _ _ _ (T189.setTop (mkF m 292 _ [.ref a6', .ref b154])) _
              refine st195.trans ?_
              show Steps p.tables e below (T195.setTop (mkF m 295 #[iv p1, iv p2, iv p3, iv c1, iv c2, iv c3, iv c4, iv c5, iv c6, iv c7, iv c8, rv a1', rv a2', rv a3', rv a4', rv a5', rv a6', rv a7', rv a8', rv b154, iv 0] [.int 1])) _
              refine XS.istore X195.here hx rfl (hb hby at_295) rfl (l' := #[iv p1, iv p2, iv p3, iv c1, iv c2, iv c3, iv c4, iv c5, iv c6, iv c7, iv c8, rv a1', rv a2', rv a3', rv a4', rv a5', rv a6', rv a7', rv a8', rv b154, iv 1]) rfl ?_
              show Steps _ _ _ (T195.setTop (mkF m 297 _ [])) _
              refine XS.iload X195.here hx rfl (hb hby at_297) rfl ?_
              show Steps _ _ _ (T195.setTop (mkF m 299 _ [.int 1])) _
              refine XS.iload X195.here hx rfl (hb hby at_299) rfl ?_
              show Steps _ _ _ (T195.setTop (mkF m 301 _ [.int c6, .int 1])) _
              refine XS.iload X195.here hx rfl (hb hby at_301) rfl ?_
              show Steps _ _ _ (T195.setTop (mkF m 303 _ [.int c3, .int c6, .int 1])) _
              refine XS.icmpNo X195.here hx rfl (hb hby at_303) rfl (teq (hcc : c6 = c3)).2 ?_
              show Steps _ _ _ (T195.setTop (mkF m 306 _ [.int 1])) _
              refine XS.iconst X195.here hx rfl (hb hby at_306) ?_
              show Steps _ _ _ (T195.setTop (mkF m 307 _ [.int 1, .int 1])) _
              refine XS.goto X195.here hx rfl (pc0 := 307) (pc' := 311) rfl (hb hby at_307) (by decide) (by decide) ?_
              show Steps _ _ _ (T195.setTop (mkF m 311 _ [.int 1, .int 1])) _
              refine XS.icmpYes X195.here hx rfl (pc0 := 311) (pc' := 316) rfl (hb hby at_311) rfl (teq (rfl : (1 : Int32) = (1 : Int32))).1 (by decide) (by decide) ?_
              show Steps p.tables e below (T195.setTop (mkF m 316 #[iv p1, iv p2, iv p3, iv c1, iv c2, iv c3, iv c4, iv c5, iv c6, iv c7, iv c8, rv a1', rv a2', rv a3', rv a4', rv a5', rv a6', rv a7', rv a8', rv b154, iv 1] [])) _
              refine XS.iload X195.here hx rfl (hb hby at_316) rfl ?_
              show Steps _ _ _ (T195.setTop (mkF m 318 _ [.int 1])) _
              refine XS.ifNo X195.here hx rfl (hb hby at_318) rfl ((if0 _ _).trans (feq ((by decide) : ¬ ((1 : Int32) = (0 : Int32)))).1) ?_
              show Steps _ _ _ (T195.setTop (mkF m 321 _ [])) _
              refine XS.iconst X195.here hx rfl (hb hby at_321) ?_
              show Steps _ _ _ (T195.setTop (mkF m 322 _ [.int 1])) _
              exact retN X195 hx (t := .boolean) Bd.returns (by simp) (hb hby at_322) hr
            · show Q_law Z p1 p2 p3 G1 h0 n0 _ T195.heap _
              exact ⟨rfl, N195⟩
          · have N195 := Fr.app N189 Nq195
            have hcc : ¬ (c6 = c3) := fun q => hq6 (by rw [q])
            have Z196 : n0 ≤ T195.heap.size := Nat.le_trans Z190 K195.1
            have O197 : Old Z n0 T195.heap := O191.keep K195 (allS g155 all0)
            have G198 : ∀ t, Steps p.tables e below (T195.setTop (mkF m 323 #[iv p1, iv p2, iv p3, iv c1, iv c2, iv c3, iv c4, iv c5, iv c6, iv c7, iv c8, rv a1', rv a2', rv a3', rv a4', rv a5', rv a6', rv a7', rv a8', rv b154, iv 0] [])) t → Steps p.tables e below (T189.setTop (mkF m 288 #[iv p1, iv p2, iv p3, iv c1, iv c2, iv c3, iv c4, iv c5, iv c6, iv c7, iv c8, rv a1', rv a2', rv a3', rv a4', rv a5', rv a6', rv a7', rv a8', rv b154, iv 0] [])) t := by
              intro t kk
              show Steps p.tables e below (T189.setTop (mkF m 288 #[iv p1, iv p2, iv p3, iv c1, iv c2, iv c3, iv c4, iv c5, iv c6, iv c7, iv c8, rv a1', rv a2', rv a3', rv a4', rv a5', rv a6', rv a7', rv a8', rv b154, iv 0] [])) _
              refine XS.aload X189.here hx rfl (hb hby at_288) rfl rfl ?_
              show Steps _ _ _ (T189.setTop (mkF m 290 _ [.ref b154])) _
              refine XS.aload X189.here hx rfl (hb hby at_290) rfl rfl ?_
              show Steps _ _ _ (T189.setTop (mkF m 292 _ [.ref a6', .ref b154])) _
              refine st195.trans ?_
              show Steps p.tables e below (T195.setTop (mkF m 295 #[iv p1, iv p2, iv p3, iv c1, iv c2, iv c3, iv c4, iv c5, iv c6, iv c7, iv c8, rv a1', rv a2', rv a3', rv a4', rv a5', rv a6', rv a7', rv a8', rv b154, iv 0] [.int 0])) _
              refine XS.istore X195.here hx rfl (hb hby at_295) rfl (l' := #[iv p1, iv p2, iv p3, iv c1, iv c2, iv c3, iv c4, iv c5, iv c6, iv c7, iv c8, rv a1', rv a2', rv a3', rv a4', rv a5', rv a6', rv a7', rv a8', rv b154, iv 0]) rfl ?_
              show Steps _ _ _ (T195.setTop (mkF m 297 _ [])) _
              refine XS.iload X195.here hx rfl (hb hby at_297) rfl ?_
              show Steps _ _ _ (T195.setTop (mkF m 299 _ [.int 0])) _
              refine XS.iload X195.here hx rfl (hb hby at_299) rfl ?_
              show Steps _ _ _ (T195.setTop (mkF m 301 _ [.int c6, .int 0])) _
              refine XS.iload X195.here hx rfl (hb hby at_301) rfl ?_
              show Steps _ _ _ (T195.setTop (mkF m 303 _ [.int c3, .int c6, .int 0])) _
              refine XS.icmpYes X195.here hx rfl (pc0 := 303) (pc' := 310) rfl (hb hby at_303) rfl (feq (hcc : ¬ (c6 = c3))).2 (by decide) (by decide) ?_
              show Steps _ _ _ (T195.setTop (mkF m 310 _ [.int 0])) _
              refine XS.iconst X195.here hx rfl (hb hby at_310) ?_
              show Steps _ _ _ (T195.setTop (mkF m 311 _ [.int 0, .int 0])) _
              refine XS.icmpYes X195.here hx rfl (pc0 := 311) (pc' := 316) rfl (hb hby at_311) rfl (teq (rfl : (0 : Int32) = (0 : Int32))).1 (by decide) (by decide) ?_
              show Steps _ _ _ (T195.setTop (mkF m 316 _ [])) _
              refine XS.iload X195.here hx rfl (hb hby at_316) rfl ?_
              show Steps p.tables e below (T195.setTop (mkF m 318 #[iv p1, iv p2, iv p3, iv c1, iv c2, iv c3, iv c4, iv c5, iv c6, iv c7, iv c8, rv a1', rv a2', rv a3', rv a4', rv a5', rv a6', rv a7', rv a8', rv b154, iv 0] [.int 0])) _
              refine XS.ifYes X195.here hx rfl (pc0 := 318) (pc' := 323) rfl (hb hby at_318) rfl ((if0 _ _).trans (teq (rfl : (0 : Int32) = (0 : Int32))).1) (by decide) (by decide) ?_
              exact kk
            have f199 := ((((((((SB7.ext E154).keep K161 (allS (Nat.le_of_eq g154.symm) all0)).keep K165 (allS (Nat.le_of_eq g154.symm) all0)).keep K171 (allS (Nat.le_of_eq g154.symm) all0)).keep K177 (allS (Nat.le_of_eq g154.symm) all0)).keep K183 (allS (Nat.le_of_eq g154.symm) all0)).keep K189 (allS (Nat.le_of_eq g154.symm) all0)).keep K195 (allS (Nat.le_of_eq g154.symm) all0))
            have f200 := (f194.keep K195 (allS (Nat.le_of_eq g154.symm) all0))
            obtain ⟨cq201, kq201, q201a, q201b, q201c⟩ := isOf hZ rfl gE195
            obtain ⟨_, _, ⟨T201, L201, k201, n201⟩, -, X201, ⟨Lc201, hQ201, l201, y201, z201⟩, st201⟩ := X195.virtualBack hx (y := (⟨"com/example/bulkhead/bulkhead/registry/LoopCheck", "cameBack", "(Ljava/lang/String;)Z"⟩ : MethodName)) (z := (⟨"com/example/bulkhead/bulkhead/registry/LoopCheck", "cameBack", "(Ljava/lang/String;)Z"⟩ : MethodName)) hown (mvT hZ (W 43 rfl)) (mvT hZ (W 44 rfl)) (notFace_of_selects (args := #[]) (mvT hZ (W 46 rfl))) (mvT hZ (W 46 rfl)) (mvT hZ (W 45 rfl)) (by decide) (backOf (W := 0) (rm_cbK l Z a0 hw [] b154 a7' a3' (3 : Int64) (4 : Int64) (8 : Int64) (own_id c7 p2 p3) (own_id c3 p2 p3) _ _ G1 T195.heap n0 Z196 O197 gE195 g155 gK195 gS195 gX195 f199 f200 (by decide) (by decide) O2 P5) hZ (W 47 rfl) (W 36 rfl) (by decide) (by decide)) q201a q201c (g := (mkF m 327 #[iv p1, iv p2, iv p3, iv c1, iv c2, iv c3, iv c4, iv c5, iv c6, iv c7, iv c8, rv a1', rv a2', rv a3', rv a4', rv a5', rv a6', rv a7', rv a8', rv b154, iv 0] [.ref a7', .ref b154])) rfl (by rw [hml]; rfl) (Steps.refl _) (argsL := [.ref a7']) (rest := []) (lenOf own_pd_7 rfl) rfl (by show 2 * 0 + _ ≤ _; exact Nat.le_of_eq rfl) (hb hby at_327) (fun _ _ => ⟨rfl, rfl, (by decide : 25 + 0 ≤ _), (by decide : 67 + 0 ≤ _)⟩)
            dsimp only [Pt.U, Pt.locs, Pt.cells, Pt.slots] at X201 l201 y201 z201 st201 hQ201
            subst l201 y201 z201
            have hcase7 := hQ201
            rcases hcase7 with ⟨rfl, hq7, Nq201⟩ | ⟨rfl, hq7, Nq201, K201, gE201, gK201, gS201, gX201⟩
            · have N201 := Fr.app N195 Nq201
              have hcc := own_id_inj d7 d3 hq7
              obtain ⟨fs, hr, hrun, hended, hW, hsame⟩ := X201.leave (v := some (.int (1 : Int32))) (fun h => by rw [Bd.returns] at h; cases h)
              refine ⟨_, _, pre0 _ (G0 _ (G118 _ (G122 _ (G126 _ (G130 _ (G134 _ (G138 _ (G142 _ (G146 _ (G168 _ (G174 _ (G180 _ (G186 _ (G192 _ (G198 _ (?_)))))))))))))))), hrun, hended, _, _, rfl, ?_, ⟨_, rfl⟩, hW, hsame.mono (by decide) (by decide)⟩
              · show Steps p.tables e below (T195.setTop (mkF m 323 #[iv p1, iv p2, iv p3, iv c1, iv c2, iv c3, iv c4, iv c5, iv c6, iv c7, iv c8, rv a1', rv a2', rv a3', rv a4', rv a5', rv a6', rv a7', rv a8', rv b154, iv 0] [])) _
                refine XS.aload X195.here hx rfl (hb hby at_323) rfl rfl ?_
                show Steps _ _ _ (T195.setTop (mkF m 325 _ [.ref b154])) _
                refine XS.aload X195.here hx rfl (hb hby at_325) rfl rfl ?_
                show Steps _ _ _ (T195.setTop (mkF m 327 _ [.ref a7', .ref b154])) _
                refine st201.trans ?_
                show Steps p.tables e below (T201.setTop (mkF m 330 #[iv p1, iv p2, iv p3, iv c1, iv c2, iv c3, iv c4, iv c5, iv c6, iv c7, iv c8, rv a1', rv a2', rv a3', rv a4', rv a5', rv a6', rv a7', rv a8', rv b154, iv 0] [.int 1])) _
                refine XS.istore X201.here hx rfl (hb hby at_330) rfl (l' := #[iv p1, iv p2, iv p3, iv c1, iv c2, iv c3, iv c4, iv c5, iv c6, iv c7, iv c8, rv a1', rv a2', rv a3', rv a4', rv a5', rv a6', rv a7', rv a8', rv b154, iv 1]) rfl ?_
                show Steps _ _ _ (T201.setTop (mkF m 332 _ [])) _
                refine XS.iload X201.here hx rfl (hb hby at_332) rfl ?_
                show Steps _ _ _ (T201.setTop (mkF m 334 _ [.int 1])) _
                refine XS.iload X201.here hx rfl (hb hby at_334) rfl ?_
                show Steps _ _ _ (T201.setTop (mkF m 336 _ [.int c7, .int 1])) _
                refine XS.iload X201.here hx rfl (hb hby at_336) rfl ?_
                show Steps _ _ _ (T201.setTop (mkF m 338 _ [.int c3, .int c7, .int 1])) _
                refine XS.icmpNo X201.here hx rfl (hb hby at_338) rfl (teq (hcc : c7 = c3)).2 ?_
                show Steps _ _ _ (T201.setTop (mkF m 341 _ [.int 1])) _
                refine XS.iconst X201.here hx rfl (hb hby at_341) ?_
                show Steps _ _ _ (T201.setTop (mkF m 342 _ [.int 1, .int 1])) _
                refine XS.goto X201.here hx rfl (pc0 := 342) (pc' := 346) rfl (hb hby at_342) (by decide) (by decide) ?_
                show Steps _ _ _ (T201.setTop (mkF m 346 _ [.int 1, .int 1])) _
                refine XS.icmpYes X201.here hx rfl (pc0 := 346) (pc' := 351) rfl (hb hby at_346) rfl (teq (rfl : (1 : Int32) = (1 : Int32))).1 (by decide) (by decide) ?_
                show Steps p.tables e below (T201.setTop (mkF m 351 #[iv p1, iv p2, iv p3, iv c1, iv c2, iv c3, iv c4, iv c5, iv c6, iv c7, iv c8, rv a1', rv a2', rv a3', rv a4', rv a5', rv a6', rv a7', rv a8', rv b154, iv 1] [])) _
                refine XS.iload X201.here hx rfl (hb hby at_351) rfl ?_
                show Steps _ _ _ (T201.setTop (mkF m 353 _ [.int 1])) _
                refine XS.ifNo X201.here hx rfl (hb hby at_353) rfl ((if0 _ _).trans (feq ((by decide) : ¬ ((1 : Int32) = (0 : Int32)))).1) ?_
                show Steps _ _ _ (T201.setTop (mkF m 356 _ [])) _
                refine XS.iconst X201.here hx rfl (hb hby at_356) ?_
                show Steps _ _ _ (T201.setTop (mkF m 357 _ [.int 1])) _
                exact retN X201 hx (t := .boolean) Bd.returns (by simp) (hb hby at_357) hr
              · show Q_law Z p1 p2 p3 G1 h0 n0 _ T201.heap _
                exact ⟨rfl, N201⟩
            · have N201 := Fr.app N195 Nq201
              have hcc : ¬ (c7 = c3) := fun q => hq7 (by rw [q])
              have Z202 : n0 ≤ T201.heap.size := Nat.le_trans Z196 K201.1
              have O203 : Old Z n0 T201.heap := O197.keep K201 (allS g155 all0)
              have G204 : ∀ t, Steps p.tables e below (T201.setTop (mkF m 358 #[iv p1, iv p2, iv p3, iv c1, iv c2, iv c3, iv c4, iv c5, iv c6, iv c7, iv c8, rv a1', rv a2', rv a3', rv a4', rv a5', rv a6', rv a7', rv a8', rv b154, iv 0] [])) t → Steps p.tables e below (T195.setTop (mkF m 323 #[iv p1, iv p2, iv p3, iv c1, iv c2, iv c3, iv c4, iv c5, iv c6, iv c7, iv c8, rv a1', rv a2', rv a3', rv a4', rv a5', rv a6', rv a7', rv a8', rv b154, iv 0] [])) t := by
                intro t kk
                show Steps p.tables e below (T195.setTop (mkF m 323 #[iv p1, iv p2, iv p3, iv c1, iv c2, iv c3, iv c4, iv c5, iv c6, iv c7, iv c8, rv a1', rv a2', rv a3', rv a4', rv a5', rv a6', rv a7', rv a8', rv b154, iv 0] [])) _
                refine XS.aload X195.here hx rfl (hb hby at_323) rfl rfl ?_
                show Steps _ _ _ (T195.setTop (mkF m 325 _ [.ref b154])) _
                refine XS.aload X195.here hx rfl (hb hby at_325) rfl rfl ?_
                show Steps _ _ _ (T195.setTop (mkF m 327 _ [.ref a7', .ref b154])) _
                refine st201.trans ?_
                show Steps p.tables e below (T201.setTop (mkF m 330 #[iv p1, iv p2, iv p3, iv c1, iv c2, iv c3, iv c4, iv c5, iv c6, iv c7, iv c8, rv a1', rv a2', rv a3', rv a4', rv a5', rv a6', rv a7', rv a8', rv b154, iv 0] [.int 0])) _
                refine XS.istore X201.here hx rfl (hb hby at_330) rfl (l' := #[iv p1, iv p2, iv p3, iv c1, iv c2, iv c3, iv c4, iv c5, iv c6, iv c7, iv c8, rv a1', rv a2', rv a3', rv a4', rv a5', rv a6', rv a7', rv a8', rv b154, iv 0]) rfl ?_
                show Steps _ _ _ (T201.setTop (mkF m 332 _ [])) _
                refine XS.iload X201.here hx rfl (hb hby at_332) rfl ?_
                show Steps _ _ _ (T201.setTop (mkF m 334 _ [.int 0])) _
                refine XS.iload X201.here hx rfl (hb hby at_334) rfl ?_
                show Steps _ _ _ (T201.setTop (mkF m 336 _ [.int c7, .int 0])) _
                refine XS.iload X201.here hx rfl (hb hby at_336) rfl ?_
                show Steps _ _ _ (T201.setTop (mkF m 338 _ [.int c3, .int c7, .int 0])) _
                refine XS.icmpYes X201.here hx rfl (pc0 := 338) (pc' := 345) rfl (hb hby at_338) rfl (feq (hcc : ¬ (c7 = c3))).2 (by decide) (by decide) ?_
                show Steps _ _ _ (T201.setTop (mkF m 345 _ [.int 0])) _
                refine XS.iconst X201.here hx rfl (hb hby at_345) ?_
                show Steps _ _ _ (T201.setTop (mkF m 346 _ [.int 0, .int 0])) _
                refine XS.icmpYes X201.here hx rfl (pc0 := 346) (pc' := 351) rfl (hb hby at_346) rfl (teq (rfl : (0 : Int32) = (0 : Int32))).1 (by decide) (by decide) ?_
                show Steps _ _ _ (T201.setTop (mkF m 351 _ [])) _
                refine XS.iload X201.here hx rfl (hb hby at_351) rfl ?_
                show Steps p.tables e below (T201.setTop (mkF m 353 #[iv p1, iv p2, iv p3, iv c1, iv c2, iv c3, iv c4, iv c5, iv c6, iv c7, iv c8, rv a1', rv a2', rv a3', rv a4', rv a5', rv a6', rv a7', rv a8', rv b154, iv 0] [.int 0])) _
                refine XS.ifYes X201.here hx rfl (pc0 := 353) (pc' := 358) rfl (hb hby at_353) rfl ((if0 _ _).trans (teq (rfl : (0 : Int32) = (0 : Int32))).1) (by decide) (by decide) ?_
                exact kk
              have f205 := (((((((((SB8.ext E154).keep K161 (allS (Nat.le_of_eq g154.symm) all0)).keep K165 (allS (Nat.le_of_eq g154.symm) all0)).keep K171 (allS (Nat.le_of_eq g154.symm) all0)).keep K177 (allS (Nat.le_of_eq g154.symm) all0)).keep K183 (allS (Nat.le_of_eq g154.symm) all0)).keep K189 (allS (Nat.le_of_eq g154.symm) all0)).keep K195 (allS (Nat.le_of_eq g154.symm) all0)).keep K201 (allS (Nat.le_of_eq g154.symm) all0))
              have f206 := (f199.keep K201 (allS (Nat.le_of_eq g154.symm) all0))
              obtain ⟨cq207, kq207, q207a, q207b, q207c⟩ := isOf hZ rfl gE201
              obtain ⟨_, _, ⟨T207, L207, k207, n207⟩, -, X207, ⟨Lc207, hQ207, l207, y207, z207⟩, st207⟩ := X201.virtualBack hx (y := (⟨"com/example/bulkhead/bulkhead/registry/LoopCheck", "cameBack", "(Ljava/lang/String;)Z"⟩ : MethodName)) (z := (⟨"com/example/bulkhead/bulkhead/registry/LoopCheck", "cameBack", "(Ljava/lang/String;)Z"⟩ : MethodName)) hown (mvT hZ (W 43 rfl)) (mvT hZ (W 44 rfl)) (notFace_of_selects (args := #[]) (mvT hZ (W 46 rfl))) (mvT hZ (W 46 rfl)) (mvT hZ (W 45 rfl)) (by decide) (backOf (W := 0) (rm_cbN l Z a0 hw [] b154 a8' a7' (0 : Int64) (8 : Int64) (1 : Int64) (own_id c8 p2 p3) (own_id c7 p2 p3) _ _ G1 T201.heap n0 Z202 O203 gE201 g155 gK201 gS201 gX201 f205 f206 (by decide) (by decide) O2 P5) hZ (W 47 rfl) (W 36 rfl) (by decide) (by decide)) q207a q207c (g := (mkF m 362 #[iv p1, iv p2, iv p3, iv c1, iv c2, iv c3, iv c4, iv c5, iv c6, iv c7, iv c8, rv a1', rv a2', rv a3', rv a4', rv a5', rv a6', rv a7', rv a8', rv b154, iv 0] [.ref a8', .ref b154])) rfl (by rw [hml]; rfl) (Steps.refl _) (argsL := [.ref a8']) (rest := []) (lenOf own_pd_7 rfl) rfl (by show 2 * 0 + _ ≤ _; exact Nat.le_of_eq rfl) (hb hby at_362) (fun _ _ => ⟨rfl, rfl, (by decide : 25 + 0 ≤ _), (by decide : 67 + 0 ≤ _)⟩)
              dsimp only [Pt.U, Pt.locs, Pt.cells, Pt.slots] at X207 l207 y207 z207 st207 hQ207
              subst l207 y207 z207
              have hcase8 := hQ207
              rcases hcase8 with ⟨rfl, hq8, Nq207⟩ | ⟨rfl, hq8, Nq207, K207, gE207, gK207, gS207, gX207⟩
              · have N207 := Fr.app N201 Nq207
                have hcc := own_id_inj d8 d7 hq8
                obtain ⟨fs, hr, hrun, hended, hW, hsame⟩ := X207.leave (v := some (.int (1 : Int32))) (fun h => by rw [Bd.returns] at h; cases h)
                refine ⟨_, _, pre0 _ (G0 _ (G118 _ (G122 _ (G126 _ (G130 _ (G134 _ (G138 _ (G142 _ (G146 _ (G168 _ (G174 _ (G180 _ (G186 _ (G192 _ (G198 _ (G204 _ (?_))))))))))))))))), hrun, hended, _, _, rfl, ?_, ⟨_, rfl⟩, hW, hsame.mono (by decide) (by decide)⟩
                · show Steps p.tables e below (T201.setTop (mkF m 358 #[iv p1, iv p2, iv p3, iv c1, iv c2, iv c3, iv c4, iv c5, iv c6, iv c7, iv c8, rv a1', rv a2', rv a3', rv a4', rv a5', rv a6', rv a7', rv a8', rv b154, iv 0] [])) _
                  refine XS.aload X201.here hx rfl (hb hby at_358) rfl rfl ?_
                  show Steps _ _ _ (T201.setTop (mkF m 360 _ [.ref b154])) _
                  refine XS.aload X201.here hx rfl (hb hby at_360) rfl rfl ?_
                  show Steps _ _ _ (T201.setTop (mkF m 362 _ [.ref a8', .ref b154])) _
                  refine st207.trans ?_
                  show Steps p.tables e below (T207.setTop (mkF m 365 #[iv p1, iv p2, iv p3, iv c1, iv c2, iv c3, iv c4, iv c5, iv c6, iv c7, iv c8, rv a1', rv a2', rv a3', rv a4', rv a5', rv a6', rv a7', rv a8', rv b154, iv 0] [.int 1])) _
                  refine XS.istore X207.here hx rfl (hb hby at_365) rfl (l' := #[iv p1, iv p2, iv p3, iv c1, iv c2, iv c3, iv c4, iv c5, iv c6, iv c7, iv c8, rv a1', rv a2', rv a3', rv a4', rv a5', rv a6', rv a7', rv a8', rv b154, iv 1]) rfl ?_
                  show Steps _ _ _ (T207.setTop (mkF m 367 _ [])) _
                  refine XS.iload X207.here hx rfl (hb hby at_367) rfl ?_
                  show Steps _ _ _ (T207.setTop (mkF m 369 _ [.int 1])) _
                  refine XS.iload X207.here hx rfl (hb hby at_369) rfl ?_
                  show Steps _ _ _ (T207.setTop (mkF m 371 _ [.int c8, .int 1])) _
                  refine XS.iload X207.here hx rfl (hb hby at_371) rfl ?_
                  show Steps _ _ _ (T207.setTop (mkF m 373 _ [.int c7, .int c8, .int 1])) _
                  refine XS.icmpNo X207.here hx rfl (hb hby at_373) rfl (teq (hcc : c8 = c7)).2 ?_
                  show Steps _ _ _ (T207.setTop (mkF m 376 _ [.int 1])) _
                  refine XS.iconst X207.here hx rfl (hb hby at_376) ?_
                  show Steps _ _ _ (T207.setTop (mkF m 377 _ [.int 1, .int 1])) _
                  refine XS.goto X207.here hx rfl (pc0 := 377) (pc' := 381) rfl (hb hby at_377) (by decide) (by decide) ?_
                  show Steps _ _ _ (T207.setTop (mkF m 381 _ [.int 1, .int 1])) _
                  refine XS.icmpNo X207.here hx rfl (hb hby at_381) rfl (teq (rfl : (1 : Int32) = (1 : Int32))).2 ?_
                  show Steps p.tables e below (T207.setTop (mkF m 384 #[iv p1, iv p2, iv p3, iv c1, iv c2, iv c3, iv c4, iv c5, iv c6, iv c7, iv c8, rv a1', rv a2', rv a3', rv a4', rv a5', rv a6', rv a7', rv a8', rv b154, iv 1] [])) _
                  refine XS.iconst X207.here hx rfl (hb hby at_384) ?_
                  show Steps _ _ _ (T207.setTop (mkF m 385 _ [.int 1])) _
                  refine XS.goto X207.here hx rfl (pc0 := 385) (pc' := 389) rfl (hb hby at_385) (by decide) (by decide) ?_
                  show Steps _ _ _ (T207.setTop (mkF m 389 _ [.int 1])) _
                  exact retN X207 hx (t := .boolean) Bd.returns (by simp) (hb hby at_389) hr
                · show Q_law Z p1 p2 p3 G1 h0 n0 _ T207.heap _
                  exact ⟨rfl, N207⟩
              · have N207 := Fr.app N201 Nq207
                have hcc : ¬ (c8 = c7) := fun q => hq8 (by rw [q])
                have Z208 : n0 ≤ T207.heap.size := Nat.le_trans Z202 K207.1
                have O209 : Old Z n0 T207.heap := O203.keep K207 (allS g155 all0)
                obtain ⟨fs, hr, hrun, hended, hW, hsame⟩ := X207.leave (v := some (.int (1 : Int32))) (fun h => by rw [Bd.returns] at h; cases h)
                refine ⟨_, _, pre0 _ (G0 _ (G118 _ (G122 _ (G126 _ (G130 _ (G134 _ (G138 _ (G142 _ (G146 _ (G168 _ (G174 _ (G180 _ (G186 _ (G192 _ (G198 _ (G204 _ (?_))))))))))))))))), hrun, hended, _, _, rfl, ?_, ⟨_, rfl⟩, hW, hsame.mono (by decide) (by decide)⟩
                · show Steps p.tables e below (T201.setTop (mkF m 358 #[iv p1, iv p2, iv p3, iv c1, iv c2, iv c3, iv c4, iv c5, iv c6, iv c7, iv c8, rv a1', rv a2', rv a3', rv a4', rv a5', rv a6', rv a7', rv a8', rv b154, iv 0] [])) _
                  refine XS.aload X201.here hx rfl (hb hby at_358) rfl rfl ?_
                  show Steps _ _ _ (T201.setTop (mkF m 360 _ [.ref b154])) _
                  refine XS.aload X201.here hx rfl (hb hby at_360) rfl rfl ?_
                  show Steps _ _ _ (T201.setTop (mkF m 362 _ [.ref a8', .ref b154])) _
                  refine st207.trans ?_
                  show Steps p.tables e below (T207.setTop (mkF m 365 #[iv p1, iv p2, iv p3, iv c1, iv c2, iv c3, iv c4, iv c5, iv c6, iv c7, iv c8, rv a1', rv a2', rv a3', rv a4', rv a5', rv a6', rv a7', rv a8', rv b154, iv 0] [.int 0])) _
                  refine XS.istore X207.here hx rfl (hb hby at_365) rfl (l' := #[iv p1, iv p2, iv p3, iv c1, iv c2, iv c3, iv c4, iv c5, iv c6, iv c7, iv c8, rv a1', rv a2', rv a3', rv a4', rv a5', rv a6', rv a7', rv a8', rv b154, iv 0]) rfl ?_
                  show Steps _ _ _ (T207.setTop (mkF m 367 _ [])) _
                  refine XS.iload X207.here hx rfl (hb hby at_367) rfl ?_
                  show Steps _ _ _ (T207.setTop (mkF m 369 _ [.int 0])) _
                  refine XS.iload X207.here hx rfl (hb hby at_369) rfl ?_
                  show Steps _ _ _ (T207.setTop (mkF m 371 _ [.int c8, .int 0])) _
                  refine XS.iload X207.here hx rfl (hb hby at_371) rfl ?_
                  show Steps _ _ _ (T207.setTop (mkF m 373 _ [.int c7, .int c8, .int 0])) _
                  refine XS.icmpYes X207.here hx rfl (pc0 := 373) (pc' := 380) rfl (hb hby at_373) rfl (feq (hcc : ¬ (c8 = c7))).2 (by decide) (by decide) ?_
                  show Steps _ _ _ (T207.setTop (mkF m 380 _ [.int 0])) _
                  refine XS.iconst X207.here hx rfl (hb hby at_380) ?_
                  show Steps _ _ _ (T207.setTop (mkF m 381 _ [.int 0, .int 0])) _
                  refine XS.icmpNo X207.here hx rfl (hb hby at_381) rfl (teq (rfl : (0 : Int32) = (0 : Int32))).2 ?_
                  show Steps _ _ _ (T207.setTop (mkF m 384 _ [])) _
                  refine XS.iconst X207.here hx rfl (hb hby at_384) ?_
                  show Steps p.tables e below (T207.setTop (mkF m 385 #[iv p1, iv p2, iv p3, iv c1, iv c2, iv c3, iv c4, iv c5, iv c6, iv c7, iv c8, rv a1', rv a2', rv a3', rv a4', rv a5', rv a6', rv a7', rv a8', rv b154, iv 0] [.int 1])) _
                  refine XS.goto X207.here hx rfl (pc0 := 385) (pc' := 389) rfl (hb hby at_385) (by decide) (by decide) ?_
                  show Steps _ _ _ (T207.setTop (mkF m 389 _ [.int 1])) _
                  exact retN X207 hx (t := .boolean) Bd.returns (by simp) (hb hby at_389) hr
                · show Q_law Z p1 p2 p3 G1 h0 n0 _ T207.heap _
                  exact ⟨rfl, N207⟩
set_option maxRecDepth 65536 in
set_option maxHeartbeats 40000000 in
theorem comes_1 {Post : Tables → Env → Array Value → State → Outcome → State → Prop} (hpost : ∀ tb e args s v u, (limb_1_1.after args s (.returned v) u = true ∧ limb_1_2.after args s (.returned v) u = true ∧ True) → FrameEnd s (.returned v) u (Jvm.fieldLocs frame_1_writes args s ++ Jvm.arrayLocs frame_1_arrays args s ++ Jvm.staticLocs frame_1_statics s) 64 256 → Post tb e args s (.returned v) u) :
    ArmFor flags0 classFile x code maxLocals ret World_1 tables_1 room_1 Calls_1 rest_1 Pre_1 Post := by
  intro l hfl _ _ p e ha hc hk s m args below hf hA hF happ hP
  obtain ⟨hcalls, hrest, hpre⟩ := hP
  obtain ⟨-, -, -, hnamed, -, -, -, hat⟩ := (Spec.applies_iff hf).mp happ
  obtain ⟨hg, hn⟩ := and_e (Cond.before_iff.mp (show (Jvm.Cond.and given_1 narrow_1).before args s = true from hpre))
  obtain ⟨hcount, hg0⟩ := and_e hg
  obtain ⟨hi0, hg1⟩ := and_e hg0
  obtain ⟨hi1, hg2⟩ := and_e hg1
  have hi2 := hg2
  obtain ⟨w0, w1, w2, rfl⟩ : ∃ w0 w1 w2 : Value, args = #[w0, w1, w2] := by
    have hs : args.size = 3 := by simpa [Cond.value, given_1] using hcount
    obtain ⟨L⟩ := args
    match L, hs with
    | [w0, w1, w2], _ => exact ⟨w0, w1, w2, rfl⟩
  have hw := fun d (hd : d ∈ tables_1) => atoms_spec (ws := Jvm.Cond.code x code maxLocals ret :: tables_1) hat d (List.mem_cons_of_mem _ hd)
  obtain ⟨hsets, hown0⟩ := atoms_of _ (rest_1_c_eq ▸ (show rest_1_c.before _ s = true from hrest))
  obtain ⟨i0, ei0⟩ := is_v hi0
  obtain rfl : w0 = (.int i0) := Option.some.inj ei0
  obtain ⟨i1, ei1⟩ := is_v hi1
  obtain rfl : w1 = (.int i1) := Option.some.inj ei1
  obtain ⟨i2, ei2⟩ := is_v hi2
  obtain rfl : w2 = (.int i2) := Option.some.inj ei2
  have n3 := not_v (Cond.before_iff.mp (hsets _ (List.mem_of_getElem? (i := 2) rfl)))
  obtain ⟨iC, eC⟩ := is_v (Cond.before_iff.mp (hsets _ (List.mem_of_getElem? (i := 1) rfl)))
  have SC : Sta s s.heap "java/lang/String" "COMPACT_STRINGS" "Z" (.int iC) := Sta.start eC (Or.inl (hsets _ (List.mem_of_getElem? (i := 0) rfl)))
  have nC : ¬ (iC = (0 : Int32)) := gotF (Cond.eq_ints eC (Term.int_eval (0))) n3
  obtain ⟨n, o, h1, h2, h3, _, L, rfl, ⟨rfl, N⟩, hq⟩ := rm_law l s _ hw tables_1 i0 i1 i2 iC s.heap s.heap.size (Nat.le_refl _) (Old.start s) SC nC p e ha hc hk s m _ below hf ((Spec.applies_iff_loose hf).mp happ).1 ⟨rfl, State.Warmed39.refl s, rfl⟩ trivial
  refine ⟨n, _, h1, h2, h3, hpost _ _ _ _ _ _ ⟨Cond.after_iff.mpr rfl, Cond.after_iff.mpr (eq_i res_at (Term.int_eval (1)) rfl), trivial⟩ ⟨hq.1, hq.2.1, (hq.2.2.sift fun y hy => Or.inr (N y hy)).mono (by decide) (by decide)⟩⟩
theorem main_1_1 : Claimed_1_1 := comes_1 fun _ _ _ _ _ _ h hF => ⟨h.1, hF⟩
theorem main_1_2 : Claimed_1_2 := comes_1 fun _ _ _ _ _ _ h hF => ⟨h.2.1, hF⟩
end Jvm.Pilot.@@N@@
namespace Jvm.Pilot.@@N@@
open Jvm Jvm.ClassFile Sem Op Lib Jvm.Free Jvm.Stand Jvm.Pilot.@@N@@.Jvm.D
/-! MADE BY PROGRAM (witnessworld.py) out of the Statement's table words and the real class files: 20 classes; the members and pool entries that the words name. The judged class is class 1, her method 2. -/
namespace start1
open Jvm.ClassFile
def u (s : String) : CpInfo := .utf8 (stringToUtf16 s)
/-- a pool by its gaps: so many unusable entries, then the entry; so many at the end -/
def gap : Nat → List CpInfo → List CpInfo
  | 0, r => r
  | n + 1, r => .unusable :: gap n r
def poolList (es : List (Nat × CpInfo)) (last : Nat) : List CpInfo := es.foldr (fun e r => gap e.1 (e.2 :: r)) (gap last [])
def pool (es : List (Nat × CpInfo)) (last : Nat) : Array CpInfo := ⟨poolList es last⟩
def fileOf (pool : Array CpInfo) (this : Nat) (attrs : Array Attribute := #[]) (ms : Array MethodInfo := #[]) (fl : Nat := 33) (sup : Nat := 0) (ifs : Array Nat := #[]) (fds : Array FieldInfo := #[]) : ClassFile where
  minorVersion := 0
  majorVersion := 65
  constantPool := pool
  accessFlags := fl
  thisClass := this
  superClass := sup
  interfaces := ifs
  fields := fds
  methods := ms
  attributes := attrs
def plain (name : String) (sup : Option ClassId) : Class where
  name := name
  kind := .ordinary
  loader := none
  accessFlags := 33
  super := sup
  interfaces := #[]
  cf := none
  fields := #[]
  methods := #[]
  instanceTypes := #[]
  staticTypes := #[]
  resolved := #[]
  callSites := []
  init := .initialized
  statics := none
  mirror := none

def pool0 : Array CpInfo := pool [(5, u "<init>"), (0, u "()V"), (1, .class_ 10), (1, u "java/lang/Object")] 113

def k0c0 : Code := { maxStack := 0, maxLocals := 1, code := object_method_1_code, exceptionTable := #[], attributes := #[] }
def k0m0 : Method := { name := "<init>", desc := "()V", sig := { parameters := [], returnType := none }, accessFlags := 1, code := some k0c0 }
/-- java/lang/Object -/
def k0 : Class := { plain "java/lang/Object" none with
  accessFlags := 33
  interfaces := #[]
  cf := some (fileOf pool0 8 #[] #[{ accessFlags := 1, nameIndex := 5, descriptorIndex := 6, attributes := #[] }] 33 0 #[] #[])
  fields := #[]
  methods := #[k0m0]
  instanceTypes := #[]
  staticTypes := #[]
  resolved := Array.replicate 124 none
  statics := none }

def pool1 : Array CpInfo := pool [(2, .class_ 4), (0, .nameAndType 5 6), (0, u "java/lang/Object"), (0, u "<init>"), (0, u "()V"), (0, .class_ 8), (0, u "java/lang/String"), (0, .methodref 7 10), (0, .nameAndType 5 11), (0, u "([C)V"), (0, .methodref 13 14), (0, .class_ 15), (0, .nameAndType 16 17), (0, u "com/example/bulkhead/bulkhead/registry/LoopCheckCameBackPinLaw"), (0, u "id"), (0, u "(III)Ljava/lang/String;"), (0, .class_ 19), (0, u "com/example/bulkhead/bulkhead/registry/LoopCheck"), (0, .methodref 18 3), (0, .methodref 18 22), (0, .nameAndType 23 24), (0, u "cameBack"), (0, u "(Ljava/lang/String;)Z"), (2, u "law"), (0, u "(III)Z")] 3

def k1m0 : Method := { name := "<init>", desc := "()V", sig := { parameters := [], returnType := none }, accessFlags := 1, code := none }
def k1c1 : Code := { maxStack := 5, maxLocals := 4, code := method_2_code, exceptionTable := #[], attributes := #[] }
def k1m1 : Method := { name := "id", desc := "(III)Ljava/lang/String;", sig := { parameters := [.int, .int, .int], returnType := some (.object "java/lang/String") }, accessFlags := 10, code := some k1c1 }
def k1c2 : Code := { maxStack := 3, maxLocals := 21, code := code, exceptionTable := #[], attributes := #[] }
def k1m2 : Method := { name := "law", desc := "(III)Z", sig := { parameters := [.int, .int, .int], returnType := some .boolean }, accessFlags := 9, code := some k1c2 }
/-- com/example/bulkhead/bulkhead/registry/LoopCheckCameBackPinLaw -/
def k1 : Class := { plain "com/example/bulkhead/bulkhead/registry/LoopCheckCameBackPinLaw" (some 0) with
  accessFlags := 49
  interfaces := #[]
  cf := some (fileOf pool1 13 #[] #[{ accessFlags := 1, nameIndex := 5, descriptorIndex := 6, attributes := #[] }, { accessFlags := 10, nameIndex := 16, descriptorIndex := 17, attributes := #[] }, { accessFlags := 9, nameIndex := 27, descriptorIndex := 28, attributes := #[] }] 49 2 #[] #[])
  fields := #[]
  methods := #[k1m0, k1m1, k1m2]
  instanceTypes := #[]
  staticTypes := #[]
  resolved := Array.replicate 32 none
  statics := none }

def pool2 : Array CpInfo := pool [(1, .class_ 2), (0, u "java/io/Serializable"), (0, .class_ 4), (0, u "java/lang/Object")] 2

/-- java/io/Serializable -/
def k2 : Class := { plain "java/io/Serializable" (some 0) with
  accessFlags := 1537
  interfaces := #[]
  cf := some (fileOf pool2 1 #[] #[] 1537 3 #[] #[])
  fields := #[]
  methods := #[]
  instanceTypes := #[]
  staticTypes := #[]
  resolved := Array.replicate 7 none
  statics := none }

def pool3 : Array CpInfo := pool [(1, .class_ 2), (0, u "java/lang/Comparable"), (0, .class_ 4), (0, u "java/lang/Object")] 7

/-- java/lang/Comparable -/
def k3 : Class := { plain "java/lang/Comparable" (some 0) with
  accessFlags := 1537
  interfaces := #[]
  cf := some (fileOf pool3 1 #[] #[] 1537 3 #[] #[])
  fields := #[]
  methods := #[]
  instanceTypes := #[]
  staticTypes := #[]
  resolved := Array.replicate 12 none
  statics := none }

def pool4 : Array CpInfo := pool [(2, .class_ 4), (1, u "java/lang/CharSequence"), (42, .class_ 48), (0, u "java/lang/CharSequence$1CodePointIterator"), (10, .class_ 60), (0, u "java/lang/CharSequence$1CharIterator"), (5, .class_ 67), (0, u "java/lang/Object")] 63

/-- java/lang/CharSequence -/
def k4 : Class := { plain "java/lang/CharSequence" (some 0) with
  accessFlags := 1537
  interfaces := #[]
  cf := some (fileOf pool4 2 #[.nestMembers #[47, 59]] #[] 1537 66 #[] #[])
  fields := #[]
  methods := #[]
  instanceTypes := #[]
  staticTypes := #[]
  resolved := Array.replicate 131 none
  statics := none }

def pool5 : Array CpInfo := pool [(1, .class_ 2), (0, u "java/lang/constant/Constable"), (0, .class_ 4), (0, u "java/lang/Object")] 6

/-- java/lang/constant/Constable -/
def k5 : Class := { plain "java/lang/constant/Constable" (some 0) with
  accessFlags := 1537
  interfaces := #[]
  cf := some (fileOf pool5 1 #[] #[] 1537 3 #[] #[])
  fields := #[]
  methods := #[]
  instanceTypes := #[]
  staticTypes := #[]
  resolved := Array.replicate 11 none
  statics := none }

def pool6 : Array CpInfo := pool [(1, .class_ 2), (0, u "java/lang/constant/ConstantDesc"), (0, .class_ 4), (0, u "java/lang/Object")] 32

/-- java/lang/constant/ConstantDesc -/
def k6 : Class := { plain "java/lang/constant/ConstantDesc" (some 0) with
  accessFlags := 1537
  interfaces := #[]
  cf := some (fileOf pool6 1 #[] #[] 1537 3 #[] #[])
  fields := #[]
  methods := #[]
  instanceTypes := #[]
  staticTypes := #[]
  resolved := Array.replicate 37 none
  statics := none }

def pool7 : Array CpInfo := pool [(1, .methodref 2 3), (0, .class_ 4), (0, .nameAndType 5 6), (0, u "java/lang/Object"), (0, u "<init>"), (0, u "()V"), (2, .fieldref 10 11), (0, .class_ 12), (0, .nameAndType 13 14), (0, u "java/lang/String"), (0, u "value"), (0, u "[B"), (0, .fieldref 10 16), (0, .nameAndType 17 18), (0, u "coder"), (0, u "B"), (2, u "hash"), (0, u "I"), (2, u "hashIsZero"), (0, u "Z"), (0, .methodref 10 28), (0, .nameAndType 5 29), (0, u "([CIILjava/lang/Void;)V"), (8, .fieldref 10 39), (0, .nameAndType 40 26), (0, u "COMPACT_STRINGS"), (1, .class_ 44), (1, u "java/lang/StringUTF16"), (0, u "compress"), (1, .methodref 42 48), (0, .nameAndType 49 50), (0, u "coderFromArrayLen"), (0, u "([BI)B"), (56, .class_ 109), (1, u "java/lang/StringLatin1"), (67, .methodref 42 178), (0, .nameAndType 45 179), (0, u "([CII)[B"), (361, .methodref 107 542), (0, .nameAndType 543 544), (0, u "equals"), (0, u "([B[B)Z"), (28, u "(Ljava/lang/Object;)Z"), (1, .class_ 576), (0, u "java/lang/CharSequence"), (22, u "CASE_INSENSITIVE_ORDER"), (0, u "Ljava/util/Comparator;"), (409, u "([C)V"), (90, u "serialPersistentFields"), (0, u "[Ljava/io/ObjectStreamField;"), (0, .class_ 1104), (0, u "java/lang/String$CaseInsensitiveComparator"), (1, .class_ 1107), (0, u "java/io/Serializable"), (0, .class_ 1109), (0, u "java/lang/Comparable"), (0, .class_ 1111), (0, u "java/lang/constant/Constable"), (0, .class_ 1113), (0, u "java/lang/constant/ConstantDesc"), (2, u "serialVersionUID"), (0, u "J"), (3, u "REPL"), (0, u "C"), (2, u "LATIN1"), (1, u "UTF16")] 323

def k7m0 : Method := { name := "<init>", desc := "()V", sig := { parameters := [], returnType := none }, accessFlags := 1, code := none }
def k7c1 : Code := { maxStack := 5, maxLocals := 2, code := jdk_42_method_3_code, exceptionTable := #[], attributes := #[] }
def k7m1 : Method := { name := "<init>", desc := "([C)V", sig := { parameters := [(.array .char)], returnType := none }, accessFlags := 1, code := some k7c1 }
def k7c2 : Code := { maxStack := 2, maxLocals := 3, code := jdk_42_method_66_code, exceptionTable := #[], attributes := #[] }
def k7m2 : Method := { name := "equals", desc := "(Ljava/lang/Object;)Z", sig := { parameters := [(.object "java/lang/Object")], returnType := some .boolean }, accessFlags := 1, code := some k7c2 }
def k7c3 : Code := { maxStack := 4, maxLocals := 6, code := jdk_42_method_149_code, exceptionTable := #[], attributes := #[] }
def k7m3 : Method := { name := "<init>", desc := "([CIILjava/lang/Void;)V", sig := { parameters := [(.array .char), .int, .int, (.object "java/lang/Void")], returnType := none }, accessFlags := 2, code := some k7c3 }
/-- java/lang/String -/
def k7 : Class := { plain "java/lang/String" (some 0) with
  accessFlags := 49
  interfaces := #[2, 3, 4, 5, 6]
  cf := some (fileOf pool7 10 #[.nestMembers #[1103]] #[{ accessFlags := 1, nameIndex := 5, descriptorIndex := 6, attributes := #[] }, { accessFlags := 1, nameIndex := 5, descriptorIndex := 1010, attributes := #[] }, { accessFlags := 1, nameIndex := 543, descriptorIndex := 573, attributes := #[] }, { accessFlags := 2, nameIndex := 5, descriptorIndex := 29, attributes := #[] }] 49 2 #[1106, 1108, 575, 1110, 1112] #[{ accessFlags := 18, nameIndex := 13, descriptorIndex := 14, attributes := #[] }, { accessFlags := 18, nameIndex := 17, descriptorIndex := 18, attributes := #[] }, { accessFlags := 2, nameIndex := 21, descriptorIndex := 22, attributes := #[] }, { accessFlags := 2, nameIndex := 25, descriptorIndex := 26, attributes := #[] }, { accessFlags := 26, nameIndex := 1116, descriptorIndex := 1117, attributes := #[] }, { accessFlags := 24, nameIndex := 40, descriptorIndex := 26, attributes := #[] }, { accessFlags := 26, nameIndex := 1101, descriptorIndex := 1102, attributes := #[] }, { accessFlags := 26, nameIndex := 1121, descriptorIndex := 1122, attributes := #[] }, { accessFlags := 25, nameIndex := 599, descriptorIndex := 600, attributes := #[] }, { accessFlags := 24, nameIndex := 1125, descriptorIndex := 18, attributes := #[] }, { accessFlags := 24, nameIndex := 1127, descriptorIndex := 18, attributes := #[] }])
  fields := #[{ name := "value", type := (.array .byte), accessFlags := 18, slot := 0, constantValue := 0 }, { name := "coder", type := .byte, accessFlags := 18, slot := 1, constantValue := 0 }, { name := "hash", type := .int, accessFlags := 2, slot := 2, constantValue := 0 }, { name := "hashIsZero", type := .boolean, accessFlags := 2, slot := 3, constantValue := 0 }, { name := "serialVersionUID", type := .long, accessFlags := 26, slot := 0, constantValue := 0 }, { name := "COMPACT_STRINGS", type := .boolean, accessFlags := 24, slot := 1, constantValue := 0 }, { name := "serialPersistentFields", type := (.array (.object "java/io/ObjectStreamField")), accessFlags := 26, slot := 2, constantValue := 0 }, { name := "REPL", type := .char, accessFlags := 26, slot := 3, constantValue := 0 }, { name := "CASE_INSENSITIVE_ORDER", type := (.object "java/util/Comparator"), accessFlags := 25, slot := 4, constantValue := 0 }, { name := "LATIN1", type := .byte, accessFlags := 24, slot := 5, constantValue := 0 }, { name := "UTF16", type := .byte, accessFlags := 24, slot := 6, constantValue := 0 }]
  methods := #[k7m0, k7m1, k7m2, k7m3]
  instanceTypes := #[(.array .byte), .byte, .int, .boolean]
  staticTypes := #[.long, .boolean, (.array (.object "java/io/ObjectStreamField")), .char, (.object "java/util/Comparator"), .byte, .byte]
  resolved := Array.replicate 1451 none
  statics := some 0 }

def pool8 : Array CpInfo := pool [(6, .class_ 8), (1, u "java/lang/Object"), (0, u "<init>"), (0, u "()V"), (1, .class_ 14), (1, u "java/lang/StringUTF16"), (31, u "$assertionsDisabled"), (0, u "Z"), (13, u "HI_BYTE_SHIFT"), (0, u "I"), (2, u "LO_BYTE_SHIFT"), (49, .methodref 12 116), (0, .nameAndType 117 118), (0, u "compress"), (0, u "([CI[BII)I"), (3, u "([CII)[B"), (138, u "coderFromArrayLen"), (0, u "([BI)B"), (106, .class_ 371), (1, u "java/lang/StringUTF16$LinesSpliterator"), (58, u "MAX_LENGTH"), (196, .class_ 628), (0, u "java/lang/StringUTF16$CodePointsSpliterator"), (0, .class_ 630), (0, u "java/lang/StringUTF16$CharsSpliterator")] 4

def k8m0 : Method := { name := "<init>", desc := "()V", sig := { parameters := [], returnType := none }, accessFlags := 0, code := none }
def k8c1 : Code := { maxStack := 2, maxLocals := 2, code := jdk_52_method_15_code, exceptionTable := #[], attributes := #[] }
def k8m1 : Method := { name := "coderFromArrayLen", desc := "([BI)B", sig := { parameters := [(.array .byte), .int], returnType := some .byte }, accessFlags := 8, code := some k8c1 }
def k8c2 : Code := { maxStack := 5, maxLocals := 6, code := jdk_52_method_16_code, exceptionTable := #[], attributes := #[] }
def k8m2 : Method := { name := "compress", desc := "([CII)[B", sig := { parameters := [(.array .char), .int, .int], returnType := some (.array .byte) }, accessFlags := 9, code := some k8c2 }
def k8c3 : Code := { maxStack := 3, maxLocals := 7, code := jdk_52_method_21_code, exceptionTable := #[], attributes := #[] }
def k8m3 : Method := { name := "compress", desc := "([CI[BII)I", sig := { parameters := [(.array .char), .int, (.array .byte), .int, .int], returnType := some .int }, accessFlags := 9, code := some k8c3 }
/-- java/lang/StringUTF16 -/
def k8 : Class := { plain "java/lang/StringUTF16" (some 0) with
  accessFlags := 48
  interfaces := #[]
  cf := some (fileOf pool8 12 #[.nestMembers #[627, 629, 369]] #[{ accessFlags := 0, nameIndex := 9, descriptorIndex := 10, attributes := #[] }, { accessFlags := 8, nameIndex := 261, descriptorIndex := 262, attributes := #[] }, { accessFlags := 9, nameIndex := 117, descriptorIndex := 122, attributes := #[] }, { accessFlags := 9, nameIndex := 117, descriptorIndex := 118, attributes := #[] }] 48 6 #[] #[{ accessFlags := 26, nameIndex := 61, descriptorIndex := 62, attributes := #[] }, { accessFlags := 26, nameIndex := 65, descriptorIndex := 62, attributes := #[] }, { accessFlags := 24, nameIndex := 430, descriptorIndex := 62, attributes := #[] }, { accessFlags := 4120, nameIndex := 46, descriptorIndex := 47, attributes := #[] }])
  fields := #[{ name := "HI_BYTE_SHIFT", type := .int, accessFlags := 26, slot := 0, constantValue := 0 }, { name := "LO_BYTE_SHIFT", type := .int, accessFlags := 26, slot := 1, constantValue := 0 }, { name := "MAX_LENGTH", type := .int, accessFlags := 24, slot := 2, constantValue := 0 }, { name := "$assertionsDisabled", type := .boolean, accessFlags := 4120, slot := 3, constantValue := 0 }]
  methods := #[k8m0, k8m1, k8m2, k8m3]
  instanceTypes := #[]
  staticTypes := #[.int, .int, .int, .boolean]
  resolved := Array.replicate 635 none
  statics := none }

def pool9 : Array CpInfo := pool [(1, .methodref 2 3), (0, .class_ 4), (0, .nameAndType 5 6), (0, u "java/lang/Object"), (0, u "<init>"), (0, u "()V"), (0, .fieldref 8 9), (0, .class_ 10), (0, .nameAndType 11 12), (0, u "com/example/bulkhead/bulkhead/registry/LoopCheck"), (0, u "stepsToNextKeep"), (0, u "J"), (0, .fieldref 8 14), (0, .nameAndType 15 16), (0, u "kept"), (0, u "Ljava/lang/String;"), (0, .methodref 18 19), (0, .class_ 20), (0, .nameAndType 21 22), (0, u "java/lang/String"), (0, u "equals"), (0, u "(Ljava/lang/Object;)Z"), (0, .fieldref 8 24), (0, .nameAndType 25 12), (0, u "stepsSinceKept"), (0, .long 2), (3, u "cameBack"), (0, u "(Ljava/lang/String;)Z")] 3

def k9c0 : Code := { maxStack := 3, maxLocals := 1, code := prog_74_method_1_code, exceptionTable := #[], attributes := #[] }
def k9m0 : Method := { name := "<init>", desc := "()V", sig := { parameters := [], returnType := none }, accessFlags := 1, code := some k9c0 }
def k9c1 : Code := { maxStack := 5, maxLocals := 2, code := prog_74_method_2_code, exceptionTable := #[], attributes := #[] }
def k9m1 : Method := { name := "cameBack", desc := "(Ljava/lang/String;)Z", sig := { parameters := [(.object "java/lang/String")], returnType := some .boolean }, accessFlags := 1, code := some k9c1 }
/-- com/example/bulkhead/bulkhead/registry/LoopCheck -/
def k9 : Class := { plain "com/example/bulkhead/bulkhead/registry/LoopCheck" (some 0) with
  accessFlags := 49
  interfaces := #[]
  cf := some (fileOf pool9 8 #[] #[{ accessFlags := 1, nameIndex := 5, descriptorIndex := 6, attributes := #[] }, { accessFlags := 1, nameIndex := 30, descriptorIndex := 31, attributes := #[] }] 49 2 #[] #[{ accessFlags := 2, nameIndex := 15, descriptorIndex := 16, attributes := #[] }, { accessFlags := 2, nameIndex := 25, descriptorIndex := 12, attributes := #[] }, { accessFlags := 2, nameIndex := 11, descriptorIndex := 12, attributes := #[] }])
  fields := #[{ name := "kept", type := (.object "java/lang/String"), accessFlags := 2, slot := 0, constantValue := 0 }, { name := "stepsSinceKept", type := .long, accessFlags := 2, slot := 1, constantValue := 0 }, { name := "stepsToNextKeep", type := .long, accessFlags := 2, slot := 2, constantValue := 0 }]
  methods := #[k9m0, k9m1]
  instanceTypes := #[(.object "java/lang/String"), .long, .long]
  staticTypes := #[]
  resolved := Array.replicate 35 none
  statics := none }

def pool10 : Array CpInfo := pool [(4, .class_ 6), (1, u "java/lang/Object"), (0, u "<init>"), (0, u "()V"), (5, .class_ 16), (1, u "java/lang/StringLatin1"), (104, u "$assertionsDisabled"), (0, u "Z"), (98, .class_ 223), (1, u "java/lang/StringLatin1$LinesSpliterator"), (57, u "equals"), (0, u "([B[B)Z"), (107, .class_ 391), (0, u "java/lang/StringLatin1$CharsSpliterator")] 3

def k10m0 : Method := { name := "<init>", desc := "()V", sig := { parameters := [], returnType := none }, accessFlags := 0, code := none }
def k10c1 : Code := { maxStack := 3, maxLocals := 3, code := jdk_43_method_13_code, exceptionTable := #[], attributes := #[] }
def k10m1 : Method := { name := "equals", desc := "([B[B)Z", sig := { parameters := [(.array .byte), (.array .byte)], returnType := some .boolean }, accessFlags := 9, code := some k10c1 }
/-- java/lang/StringLatin1 -/
def k10 : Class := { plain "java/lang/StringLatin1" (some 0) with
  accessFlags := 48
  interfaces := #[]
  cf := some (fileOf pool10 14 #[.nestMembers #[390, 221]] #[{ accessFlags := 0, nameIndex := 7, descriptorIndex := 8, attributes := #[] }, { accessFlags := 9, nameIndex := 281, descriptorIndex := 282, attributes := #[] }] 48 4 #[] #[{ accessFlags := 4120, nameIndex := 121, descriptorIndex := 122, attributes := #[] }])
  fields := #[{ name := "$assertionsDisabled", type := .boolean, accessFlags := 4120, slot := 0, constantValue := 0 }]
  methods := #[k10m0, k10m1]
  instanceTypes := #[]
  staticTypes := #[.boolean]
  resolved := Array.replicate 395 none
  statics := none }

def pool11 : Array CpInfo := pool [(2, .class_ 4), (1, u "java/lang/Object"), (0, u "<init>"), (0, u "()V"), (17, .class_ 26), (1, u "jdk/internal/util/Preconditions"), (28, .class_ 56), (0, u "jdk/internal/util/Preconditions$4"), (57, .class_ 115), (0, u "jdk/internal/util/Preconditions$1"), (7, u "SIOOBE_FORMATTER"), (0, u "Ljava/util/function/BiFunction;"), (0, .class_ 126), (0, u "jdk/internal/util/Preconditions$2"), (3, u "AIOOBE_FORMATTER"), (0, .class_ 132), (0, u "jdk/internal/util/Preconditions$3"), (3, u "IOOBE_FORMATTER")] 57

def k11m0 : Method := { name := "<init>", desc := "()V", sig := { parameters := [], returnType := none }, accessFlags := 1, code := none }
/-- jdk/internal/util/Preconditions -/
def k11 : Class := { plain "jdk/internal/util/Preconditions" (some 0) with
  accessFlags := 33
  interfaces := #[]
  cf := some (fileOf pool11 24 #[.nestMembers #[55, 131, 125, 114]] #[{ accessFlags := 1, nameIndex := 5, descriptorIndex := 6, attributes := #[] }] 33 2 #[] #[{ accessFlags := 25, nameIndex := 123, descriptorIndex := 124, attributes := #[] }, { accessFlags := 25, nameIndex := 130, descriptorIndex := 124, attributes := #[] }, { accessFlags := 25, nameIndex := 136, descriptorIndex := 124, attributes := #[] }])
  fields := #[{ name := "SIOOBE_FORMATTER", type := (.object "java/util/function/BiFunction"), accessFlags := 25, slot := 0, constantValue := 0 }, { name := "AIOOBE_FORMATTER", type := (.object "java/util/function/BiFunction"), accessFlags := 25, slot := 1, constantValue := 0 }, { name := "IOOBE_FORMATTER", type := (.object "java/util/function/BiFunction"), accessFlags := 25, slot := 2, constantValue := 0 }]
  methods := #[k11m0]
  instanceTypes := #[]
  staticTypes := #[(.object "java/util/function/BiFunction"), (.object "java/util/function/BiFunction"), (.object "java/util/function/BiFunction")]
  resolved := Array.replicate 194 none
  statics := some 1 }

def pool12 : Array CpInfo := pool [(9, u "<init>"), (6, .class_ 18), (1, u "java/lang/Object"), (0, u "()V"), (1, .class_ 23), (1, u "jdk/internal/util/ArraysSupport"), (0, u "LOG2_ARRAY_LONG_INDEX_SCALE"), (0, u "I"), (2, u "U"), (0, u "Ljdk/internal/misc/Unsafe;"), (8, u "BIG_ENDIAN"), (0, u "Z"), (8, u "LOG2_BYTE_BIT_SIZE"), (4, u "LOG2_ARRAY_INT_INDEX_SCALE"), (54, u "JLA"), (0, u "Ljdk/internal/access/JavaLangAccess;"), (11, u "LOG2_ARRAY_BOOLEAN_INDEX_SCALE"), (9, u "LOG2_ARRAY_BYTE_INDEX_SCALE"), (5, u "LOG2_ARRAY_CHAR_INDEX_SCALE"), (5, u "LOG2_ARRAY_SHORT_INDEX_SCALE"), (18, u "LOG2_ARRAY_FLOAT_INDEX_SCALE"), (24, u "LOG2_ARRAY_DOUBLE_INDEX_SCALE"), (89, u "T_BOOLEAN"), (2, u "T_CHAR"), (1, u "T_FLOAT"), (1, u "T_DOUBLE"), (1, u "T_BYTE"), (1, u "T_SHORT"), (1, u "T_INT"), (1, u "T_LONG"), (1, u "SOFT_MAX_ARRAY_LENGTH")] 83

def k12m0 : Method := { name := "<init>", desc := "()V", sig := { parameters := [], returnType := none }, accessFlags := 2, code := none }
/-- jdk/internal/util/ArraysSupport -/
def k12 : Class := { plain "jdk/internal/util/ArraysSupport" (some 0) with
  accessFlags := 33
  interfaces := #[]
  cf := some (fileOf pool12 21 #[] #[{ accessFlags := 2, nameIndex := 9, descriptorIndex := 19, attributes := #[] }] 33 16 #[] #[{ accessFlags := 24, nameIndex := 28, descriptorIndex := 29, attributes := #[] }, { accessFlags := 26, nameIndex := 38, descriptorIndex := 39, attributes := #[] }, { accessFlags := 25, nameIndex := 121, descriptorIndex := 25, attributes := #[] }, { accessFlags := 25, nameIndex := 131, descriptorIndex := 25, attributes := #[] }, { accessFlags := 25, nameIndex := 137, descriptorIndex := 25, attributes := #[] }, { accessFlags := 25, nameIndex := 143, descriptorIndex := 25, attributes := #[] }, { accessFlags := 25, nameIndex := 53, descriptorIndex := 25, attributes := #[] }, { accessFlags := 25, nameIndex := 24, descriptorIndex := 25, attributes := #[] }, { accessFlags := 25, nameIndex := 162, descriptorIndex := 25, attributes := #[] }, { accessFlags := 25, nameIndex := 187, descriptorIndex := 25, attributes := #[] }, { accessFlags := 26, nameIndex := 48, descriptorIndex := 25, attributes := #[] }, { accessFlags := 25, nameIndex := 277, descriptorIndex := 25, attributes := #[] }, { accessFlags := 25, nameIndex := 280, descriptorIndex := 25, attributes := #[] }, { accessFlags := 25, nameIndex := 282, descriptorIndex := 25, attributes := #[] }, { accessFlags := 25, nameIndex := 284, descriptorIndex := 25, attributes := #[] }, { accessFlags := 25, nameIndex := 286, descriptorIndex := 25, attributes := #[] }, { accessFlags := 25, nameIndex := 288, descriptorIndex := 25, attributes := #[] }, { accessFlags := 25, nameIndex := 290, descriptorIndex := 25, attributes := #[] }, { accessFlags := 25, nameIndex := 292, descriptorIndex := 25, attributes := #[] }, { accessFlags := 26, nameIndex := 108, descriptorIndex := 109, attributes := #[] }, { accessFlags := 25, nameIndex := 294, descriptorIndex := 25, attributes := #[] }])
  fields := #[{ name := "U", type := (.object "jdk/internal/misc/Unsafe"), accessFlags := 24, slot := 0, constantValue := 0 }, { name := "BIG_ENDIAN", type := .boolean, accessFlags := 26, slot := 1, constantValue := 0 }, { name := "LOG2_ARRAY_BOOLEAN_INDEX_SCALE", type := .int, accessFlags := 25, slot := 2, constantValue := 0 }, { name := "LOG2_ARRAY_BYTE_INDEX_SCALE", type := .int, accessFlags := 25, slot := 3, constantValue := 0 }, { name := "LOG2_ARRAY_CHAR_INDEX_SCALE", type := .int, accessFlags := 25, slot := 4, constantValue := 0 }, { name := "LOG2_ARRAY_SHORT_INDEX_SCALE", type := .int, accessFlags := 25, slot := 5, constantValue := 0 }, { name := "LOG2_ARRAY_INT_INDEX_SCALE", type := .int, accessFlags := 25, slot := 6, constantValue := 0 }, { name := "LOG2_ARRAY_LONG_INDEX_SCALE", type := .int, accessFlags := 25, slot := 7, constantValue := 0 }, { name := "LOG2_ARRAY_FLOAT_INDEX_SCALE", type := .int, accessFlags := 25, slot := 8, constantValue := 0 }, { name := "LOG2_ARRAY_DOUBLE_INDEX_SCALE", type := .int, accessFlags := 25, slot := 9, constantValue := 0 }, { name := "LOG2_BYTE_BIT_SIZE", type := .int, accessFlags := 26, slot := 10, constantValue := 0 }, { name := "T_BOOLEAN", type := .int, accessFlags := 25, slot := 11, constantValue := 0 }, { name := "T_CHAR", type := .int, accessFlags := 25, slot := 12, constantValue := 0 }, { name := "T_FLOAT", type := .int, accessFlags := 25, slot := 13, constantValue := 0 }, { name := "T_DOUBLE", type := .int, accessFlags := 25, slot := 14, constantValue := 0 }, { name := "T_BYTE", type := .int, accessFlags := 25, slot := 15, constantValue := 0 }, { name := "T_SHORT", type := .int, accessFlags := 25, slot := 16, constantValue := 0 }, { name := "T_INT", type := .int, accessFlags := 25, slot := 17, constantValue := 0 }, { name := "T_LONG", type := .int, accessFlags := 25, slot := 18, constantValue := 0 }, { name := "JLA", type := (.object "jdk/internal/access/JavaLangAccess"), accessFlags := 26, slot := 19, constantValue := 0 }, { name := "SOFT_MAX_ARRAY_LENGTH", type := .int, accessFlags := 25, slot := 20, constantValue := 0 }]
  methods := #[k12m0]
  instanceTypes := #[]
  staticTypes := #[(.object "jdk/internal/misc/Unsafe"), .boolean, .int, .int, .int, .int, .int, .int, .int, .int, .int, .int, .int, .int, .int, .int, .int, .int, .int, (.object "jdk/internal/access/JavaLangAccess"), .int]
  resolved := Array.replicate 378 none
  statics := none }

def pool13 : Array CpInfo := pool [(1, u "java/lang/Cloneable"), (0, .class_ 1), (0, u "java/lang/Object"), (0, .class_ 3)] 3

/-- java/lang/Cloneable -/
def k13 : Class := { plain "java/lang/Cloneable" (some 0) with
  accessFlags := 1537
  interfaces := #[]
  cf := some (fileOf pool13 2 #[] #[] 1537 4 #[] #[])
  fields := #[]
  methods := #[]
  instanceTypes := #[]
  staticTypes := #[]
  resolved := Array.replicate 8 none
  statics := none }

/-- the primitive byte -/
def k14 : Class := { plain "byte" none with kind := .primitive 'B', accessFlags := 0x411 }
/-- [B -/
def k15 : Class := { plain "[B" (some 0) with kind := .array 14 .byte, interfaces := #[13, 2], accessFlags := 1041 }

/-- the primitive char -/
def k16 : Class := { plain "char" none with kind := .primitive 'C', accessFlags := 0x411 }
/-- [C -/
def k17 : Class := { plain "[C" (some 0) with kind := .array 16 .char, interfaces := #[13, 2], accessFlags := 1041 }

/-- the primitive int -/
def k18 : Class := { plain "int" none with kind := .primitive 'I', accessFlags := 0x411 }
/-- [I -/
def k19 : Class := { plain "[I" (some 0) with kind := .array 18 .int, interfaces := #[13, 2], accessFlags := 1041 }

def heap : Heap := #[{ cls := 7, slots := #[.long 0, .int 1, .null, .int 0, .null, .int 0, .int 0], vm := .statics 7 },
  { cls := 11, slots := #[.null, .null, .null], vm := .statics 11 }]
def classes : Array Class := #[k0, k1, k2, k3, k4, k5, k6, k7, k8, k9, k10, k11, k12, k13, k14, k15, k16, k17, k18, k19]
def interned : List (Array UInt16 × Addr) := []
def slotsUsed : Nat := 10
def theMethod : MethodId := ⟨1, 2⟩
def args0 : Array Value := #[.int 5, .int 7, .int 1]
def aboutOver (below : List Frame) : State where
  vm := { classes := classes, interned := interned.toArray }
  heap := heap
  slotsUsed := slotsUsed
  threads := #[{ frames := .invoking theMethod args0 :: below }]
def below0 : List Frame := [.native { method := ⟨0, 0⟩, args := #[] }]
def about1 : State := aboutOver below0
def p0 : Program := .bare "" "" ""
def e0 : Env := launch0.env 0 0 0
theorem w_frames : about1.frames = Frame.invoking theMethod args0 :: below0 := rfl
set_option maxRecDepth 65536 in
theorem w_args : argsFit about1.vm theMethod args0 = true := by decide +kernel
set_option maxRecDepth 65536 in
theorem w_heap : heapFits about1 = true := by decide +kernel
set_option maxRecDepth 65536 in
theorem w_runnable : about1.curStatus? = some .runnable := by decide +kernel
set_option maxRecDepth 65536 in
theorem w_alone : about1.alone = true := by decide +kernel
set_option maxRecDepth 65536 in
theorem w_named : about1.methodNamed? x = some theMethod := by decide +kernel
set_option maxRecDepth 65536 in
theorem w_hears : about1.hears theMethod below0 = true := by decide +kernel
set_option maxRecDepth 65536 in
theorem w_ripe : about1.ripe theMethod args0 below0 = true := by decide +kernel
theorem w_running : about1.status = .running := rfl
set_option maxRecDepth 65536 in
theorem w_room : about1.hasRoom e0.platform room_1 = true :=
  launch0.hasRoom_least _ room_1 (by decide +kernel) (by decide +kernel) (by decide +kernel) (by decide +kernel) (by decide +kernel) (by decide +kernel)
theorem allAtoms_all (ts : List Jvm.Cond) (a : Array Jvm.Value) (st : Jvm.State) : (allAtoms ts).before a st = ts.all (fun c => c.before a st) := by
  induction ts with
  | nil => rfl
  | cons c t ih =>
    show (Jvm.Cond.and c (allAtoms t)).before a st = _
    rw [Jvm.Cond.before_and, ih, List.all_cons]
def words1 : List Jvm.Cond := Jvm.Cond.code x code maxLocals ret :: tables_1
/-- a 'code' word, met by the world's own term for the bytes: nothing is compared byte by byte -/
theorem code_word {y : MethodName} {bytes : ByteArray} {mx : Nat} {rt : Option FieldType} {a : Array Value} {s : State} {m : MethodId} {meth : Method} {c : Code} (h1 : s.methodNamed? y = some m) (h2 : s.vm.method? m = some meth) (h3 : meth.code = some c) (h4 : c.code = bytes)
    (h5 : (c.maxLocals == mx && c.exceptionTable.isEmpty && decide (c.maxStack ≤ mostOperands) && decide (meth.sig.returnType = rt) && !meth.locks && decide (parseMethodDescriptor y.desc = some meth.sig)) = true) : (Jvm.Cond.code y bytes mx rt).before a s = true := by
  simp only [Bool.and_eq_true, beq_iff_eq, Bool.not_eq_true', decide_eq_true_eq] at h5
  obtain ⟨⟨⟨⟨⟨g1, g2⟩, g3⟩, g4⟩, g5⟩, g6⟩ := h5
  simp [Cond.before, Cond.holds, Cond.value, h1, h2, h3, h4, g1, g2, g3, g4, g5, g6]
def isCode : Jvm.Cond → Bool
  | .code _ _ _ _ => true
  | _ => false
theorem all_split {L : List Jvm.Cond} {P : Jvm.Cond → Bool} (h1 : L.all (fun c => isCode c || P c) = true) (h2 : ∀ c ∈ L.filter isCode, P c = true) : L.all P = true := by
  refine List.all_eq_true.mpr fun c hc => ?_
  have h := List.all_eq_true.mp h1 c hc
  rcases Bool.eq_false_or_eq_true (isCode c) with hi | hi
  · exact h2 c (List.mem_filter.mpr ⟨hc, hi⟩)
  · simpa [hi] using h
set_option maxRecDepth 65536 in
theorem w_c0 : (Jvm.Cond.code x code maxLocals ret).before args0 about1 = true := code_word (m := ⟨1, 2⟩) (meth := k1m2) (c := k1c2) (by decide +kernel) rfl rfl rfl (by decide +kernel)
set_option maxRecDepth 65536 in
theorem w_c1 : (Jvm.Cond.code ({ cls := "com/example/bulkhead/bulkhead/registry/LoopCheckCameBackPinLaw", name := "id", desc := "(III)Ljava/lang/String;" } : Jvm.MethodName) method_2_code (4 : Nat) (Option.some (Jvm.ClassFile.FieldType.object "java/lang/String"))).before args0 about1 = true := code_word (m := ⟨1, 1⟩) (meth := k1m1) (c := k1c1) (by decide +kernel) rfl rfl rfl (by decide +kernel)
set_option maxRecDepth 65536 in
theorem w_c2 : (Jvm.Cond.code ({ cls := "java/lang/String", name := "<init>", desc := "([C)V" } : Jvm.MethodName) jdk_42_method_3_code (2 : Nat) (Option.none : Option Jvm.ClassFile.FieldType)).before args0 about1 = true := code_word (m := ⟨7, 1⟩) (meth := k7m1) (c := k7c1) (by decide +kernel) rfl rfl rfl (by decide +kernel)
set_option maxRecDepth 65536 in
theorem w_c3 : (Jvm.Cond.code ({ cls := "java/lang/String", name := "<init>", desc := "([CIILjava/lang/Void;)V" } : Jvm.MethodName) jdk_42_method_149_code (6 : Nat) (Option.none : Option Jvm.ClassFile.FieldType)).before args0 about1 = true := code_word (m := ⟨7, 3⟩) (meth := k7m3) (c := k7c3) (by decide +kernel) rfl rfl rfl (by decide +kernel)
set_option maxRecDepth 65536 in
theorem w_c4 : (Jvm.Cond.code ({ cls := "java/lang/Object", name := "<init>", desc := "()V" } : Jvm.MethodName) object_method_1_code (1 : Nat) (Option.none : Option Jvm.ClassFile.FieldType)).before args0 about1 = true := code_word (m := ⟨0, 0⟩) (meth := k0m0) (c := k0c0) (by decide +kernel) rfl rfl rfl (by decide +kernel)
set_option maxRecDepth 65536 in
theorem w_c5 : (Jvm.Cond.code ({ cls := "java/lang/StringUTF16", name := "compress", desc := "([CII)[B" } : Jvm.MethodName) jdk_52_method_16_code (6 : Nat) (Option.some (Jvm.ClassFile.FieldType.array Jvm.ClassFile.FieldType.byte))).before args0 about1 = true := code_word (m := ⟨8, 2⟩) (meth := k8m2) (c := k8c2) (by decide +kernel) rfl rfl rfl (by decide +kernel)
set_option maxRecDepth 65536 in
theorem w_c6 : (Jvm.Cond.code ({ cls := "java/lang/StringUTF16", name := "compress", desc := "([CI[BII)I" } : Jvm.MethodName) jdk_52_method_21_code (7 : Nat) (Option.some Jvm.ClassFile.FieldType.int)).before args0 about1 = true := code_word (m := ⟨8, 3⟩) (meth := k8m3) (c := k8c3) (by decide +kernel) rfl rfl rfl (by decide +kernel)
set_option maxRecDepth 65536 in
theorem w_c7 : (Jvm.Cond.code ({ cls := "java/lang/StringUTF16", name := "coderFromArrayLen", desc := "([BI)B" } : Jvm.MethodName) jdk_52_method_15_code (2 : Nat) (Option.some Jvm.ClassFile.FieldType.byte)).before args0 about1 = true := code_word (m := ⟨8, 1⟩) (meth := k8m1) (c := k8c1) (by decide +kernel) rfl rfl rfl (by decide +kernel)
set_option maxRecDepth 65536 in
theorem w_c8 : (Jvm.Cond.code ({ cls := "com/example/bulkhead/bulkhead/registry/LoopCheck", name := "<init>", desc := "()V" } : Jvm.MethodName) prog_74_method_1_code (1 : Nat) (Option.none : Option Jvm.ClassFile.FieldType)).before args0 about1 = true := code_word (m := ⟨9, 0⟩) (meth := k9m0) (c := k9c0) (by decide +kernel) rfl rfl rfl (by decide +kernel)
set_option maxRecDepth 65536 in
theorem w_c9 : (Jvm.Cond.code ({ cls := "com/example/bulkhead/bulkhead/registry/LoopCheck", name := "cameBack", desc := "(Ljava/lang/String;)Z" } : Jvm.MethodName) prog_74_method_2_code (2 : Nat) (Option.some Jvm.ClassFile.FieldType.boolean)).before args0 about1 = true := code_word (m := ⟨9, 1⟩) (meth := k9m1) (c := k9c1) (by decide +kernel) rfl rfl rfl (by decide +kernel)
set_option maxRecDepth 65536 in
theorem w_c10 : (Jvm.Cond.code ({ cls := "java/lang/String", name := "equals", desc := "(Ljava/lang/Object;)Z" } : Jvm.MethodName) jdk_42_method_66_code (3 : Nat) (Option.some Jvm.ClassFile.FieldType.boolean)).before args0 about1 = true := code_word (m := ⟨7, 2⟩) (meth := k7m2) (c := k7c2) (by decide +kernel) rfl rfl rfl (by decide +kernel)
set_option maxRecDepth 65536 in
theorem w_c11 : (Jvm.Cond.code ({ cls := "java/lang/StringLatin1", name := "equals", desc := "([B[B)Z" } : Jvm.MethodName) jdk_43_method_13_code (3 : Nat) (Option.some Jvm.ClassFile.FieldType.boolean)).before args0 about1 = true := code_word (m := ⟨10, 1⟩) (meth := k10m1) (c := k10c1) (by decide +kernel) rfl rfl rfl (by decide +kernel)
def codes1 : List Jvm.Cond := [Jvm.Cond.code x code maxLocals ret, Jvm.Cond.code ({ cls := "com/example/bulkhead/bulkhead/registry/LoopCheckCameBackPinLaw", name := "id", desc := "(III)Ljava/lang/String;" } : Jvm.MethodName) method_2_code (4 : Nat) (Option.some (Jvm.ClassFile.FieldType.object "java/lang/String")), Jvm.Cond.code ({ cls := "java/lang/String", name := "<init>", desc := "([C)V" } : Jvm.MethodName) jdk_42_method_3_code (2 : Nat) (Option.none : Option Jvm.ClassFile.FieldType), Jvm.Cond.code ({ cls := "java/lang/String", name := "<init>", desc := "([CIILjava/lang/Void;)V" } : Jvm.MethodName) jdk_42_method_149_code (6 : Nat) (Option.none : Option Jvm.ClassFile.FieldType), Jvm.Cond.code ({ cls := "java/lang/Object", name := "<init>", desc := "()V" } : Jvm.MethodName) object_method_1_code (1 : Nat) (Option.none : Option Jvm.ClassFile.FieldType), Jvm.Cond.code ({ cls := "java/lang/StringUTF16", name := "compress", desc := "([CII)[B" } : Jvm.MethodName) jdk_52_method_16_code (6 : Nat) (Option.some (Jvm.ClassFile.FieldType.array Jvm.ClassFile.FieldType.byte)), Jvm.Cond.code ({ cls := "java/lang/StringUTF16", name := "compress", desc := "([CI[BII)I" } : Jvm.MethodName) jdk_52_method_21_code (7 : Nat) (Option.some Jvm.ClassFile.FieldType.int), Jvm.Cond.code ({ cls := "java/lang/StringUTF16", name := "coderFromArrayLen", desc := "([BI)B" } : Jvm.MethodName) jdk_52_method_15_code (2 : Nat) (Option.some Jvm.ClassFile.FieldType.byte), Jvm.Cond.code ({ cls := "com/example/bulkhead/bulkhead/registry/LoopCheck", name := "<init>", desc := "()V" } : Jvm.MethodName) prog_74_method_1_code (1 : Nat) (Option.none : Option Jvm.ClassFile.FieldType), Jvm.Cond.code ({ cls := "com/example/bulkhead/bulkhead/registry/LoopCheck", name := "cameBack", desc := "(Ljava/lang/String;)Z" } : Jvm.MethodName) prog_74_method_2_code (2 : Nat) (Option.some Jvm.ClassFile.FieldType.boolean), Jvm.Cond.code ({ cls := "java/lang/String", name := "equals", desc := "(Ljava/lang/Object;)Z" } : Jvm.MethodName) jdk_42_method_66_code (3 : Nat) (Option.some Jvm.ClassFile.FieldType.boolean), Jvm.Cond.code ({ cls := "java/lang/StringLatin1", name := "equals", desc := "([B[B)Z" } : Jvm.MethodName) jdk_43_method_13_code (3 : Nat) (Option.some Jvm.ClassFile.FieldType.boolean)]
set_option maxRecDepth 65536 in
theorem codes_eq : words1.filter isCode = codes1 := rfl
theorem w_codes : ∀ c ∈ words1.filter isCode, c.before args0 about1 = true := by
  rw [codes_eq]
  intro c hc
  simp only [codes1, List.mem_cons, List.not_mem_nil, or_false] at hc
  rcases hc with rfl | rfl | rfl | rfl | rfl | rfl | rfl | rfl | rfl | rfl | rfl | rfl
  · exact w_c0
  · exact w_c1
  · exact w_c2
  · exact w_c3
  · exact w_c4
  · exact w_c5
  · exact w_c6
  · exact w_c7
  · exact w_c8
  · exact w_c9
  · exact w_c10
  · exact w_c11
set_option maxRecDepth 65536 in
theorem w_t1 : (words1.take 24).all (fun c => isCode c || c.before args0 about1) = true := by decide +kernel
set_option maxRecDepth 65536 in
theorem w_t2 : ((words1.drop 24).take 24).all (fun c => isCode c || c.before args0 about1) = true := by decide +kernel
set_option maxRecDepth 65536 in
theorem w_t3 : ((words1.drop 24).drop 24).all (fun c => isCode c || c.before args0 about1) = true := by decide +kernel
theorem w_tables : (allAtoms (Jvm.Cond.code x code maxLocals ret :: tables_1)).before args0 about1 = true := by
  rw [allAtoms_all]
  show words1.all (fun c => c.before args0 about1) = true
  refine all_split ?_ w_codes
  rw [← List.take_append_drop 24 words1, List.all_append, w_t1, ← List.take_append_drop 24 (words1.drop 24), List.all_append, w_t2, w_t3]
  rfl
set_option maxRecDepth 65536 in
theorem w_rest : rest_1_c.before args0 about1 = true := by decide +kernel
set_option maxRecDepth 65536 in
theorem w_case : (Jvm.Cond.and given_1 narrow_1).before args0 about1 = true := by decide +kernel
theorem w_applies : (headSpec (Jvm.Cond.code x code maxLocals ret :: tables_1) room_1).applies x e0.platform about1 = true :=
  (Spec.applies_iff w_frames).mpr ⟨w_running, w_runnable, w_alone, w_named, w_hears, w_ripe, w_room, w_tables⟩
theorem atStart : AtStart classFile x code maxLocals ret World_1 tables_1 room_1 Calls_1 rest_1 Pre_1 launch0 p0 e0 about1 theMethod args0 below0 :=
  ⟨lists_1, trivial, launch0.admits_env _ _ _, launch0.least_env, fairChoices_fair.cas, fairChoices_fair.clock, w_frames, w_args, w_heap, w_applies, trivial, w_rest, w_case⟩
end start1
theorem witness_1 : WitnessClaimed_1 := ⟨start1.p0, start1.e0, start1.about1, start1.theMethod, start1.args0, start1.below0, start1.atStart⟩
end Jvm.Pilot.@@N@@
