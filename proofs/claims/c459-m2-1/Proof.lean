import JvmDerived
import JvmDerived.Pilot.@@N@@Statement
import JvmDerived.Pilot.@@N@@Code
set_option linter.unusedVariables false
set_option linter.unusedSimpArgs false
namespace Jvm.RoadKit
open Sem ClassFile Op Lib Jvm.Stand Jvm.Free Jvm.LawKit
section New
variable {p : Program} {l : Launch} {e : Env} {R : Room} {s : State} {m : MethodId} {args : Array Value} {below : List Frame} {meth : Method} {c : Code} {T : State} {locs : List Loc} {cells slots : Nat}
theorem retI (X : Stand p l e R s m args below meth c T locs cells slots) (hx : p.tables.exec = Jvm.exec) {pc : Nat} {Ls : Array Slot} {z : Int32} {rest : List Value} (hret : meth.sig.returnType = some .int) (hd : decode c.code pc = .ok (.ireturn, 1)) {fs : List Frame}
    (hl : ∀ (f : JFrame) (acts : List Action), f.method = m → f.locked = none → f.entered = [] → (doReturn e (T.setTop f) acts (some (.int z))).1 = T.setFrames fs) : Steps p.tables e below (T.setTop (mkF m pc Ls (.int z :: rest))) (T.setFrames fs) :=
  retOut X hx hret rfl (Or.inl ⟨rfl, Or.inl rfl, z, rfl⟩) hd hl
end New
end Jvm.RoadKit
/- laws to paste: Road.backV, Road.eqW, Road.codOf (cut by pick.py; bodies as the Statement names them) -/
namespace Jvm.Pilot.@@N@@
namespace StrChars
open Jvm Sem ClassFile Op Lib Jvm.Stand Jvm.Free.XT Jvm.Free.ALB Jvm.Free.JM Jvm.Free
open Jvm.Lib.Cold (StaticIs)
/-- a char array whose places are chars -/
def Ch (a : Addr) (A : Cell) (U : State) : Prop := Arr .char a A U ∧ Typed .char A
theorem Ch.mv {a : Addr} {A : Cell} {U U' : State} (h : Ch a A U) (hal : U.vm.Alike U'.vm) (hh : U'.heap = U.heap) : Ch a A U' := ⟨h.1.mv hal hh, h.2⟩
theorem Ch.keep {a : Addr} {A : Cell} {U U' : State} (h : Ch a A U) (hal : U.vm.Alike U'.vm) (hk : U'.heap[a]? = some A) : Ch a A U' := ⟨h.1.keep hal hk, h.2⟩
/-- what place i of a char[]'s cell holds -/
def cv (A : Cell) (i : Nat) : Int32 := match A.slots[i]? with | some (.int x) => x | _ => 0
theorem Ch.get {a : Addr} {A : Cell} {U : State} (h : Ch a A U) {i : Nat} (hi : i < A.slots.size) : A.slots[i]? = some (.int (cv A i)) := by
  have e := Array.getElem?_eq_getElem hi
  have f := h.2 i _ e
  unfold cv; rw [e]
  generalize A.slots[i] = v at f
  cases v <;> simp [fits] at f ⊢
/-- the byte that i2b leaves of a char -/
def lo8 (x : Int32) : Int32 := x.toInt8.toInt32
theorem fits_lo8 (y : Int32) : fits .byte (.int (lo8 y)) = true := by
  have h1 := y.toInt8.le_toInt
  have h2 := y.toInt8.toInt_lt
  simp only [lo8, fits, Bool.and_eq_true, decide_eq_true_eq, Int32.le_iff_toInt_le, Int8.toInt_toInt32, show (-128 : Int32).toInt = -128 from by decide, show (127 : Int32).toInt = 127 from by decide]
  omega
/-- A' is A but that each place j of lo .. hi - 1 holds f j -/
def Laid (A A' : Cell) (lo hi : Nat) (f : Nat → Value) : Prop := A'.cls = A.cls ∧ A'.vm = A.vm ∧ A'.slots.size = A.slots.size ∧ ∀ i, A'.slots[i]? = if lo ≤ i ∧ i < hi then some (f i) else A.slots[i]?
theorem Laid.zero (A : Cell) (lo : Nat) (f : Nat → Value) : Laid A A lo (lo + 0) f := ⟨rfl, rfl, rfl, fun i => by rw [if_neg (by omega)]⟩
theorem Laid.step {A Ak : Cell} {lo k : Nat} {f : Nat → Value} {v : Value} (h : Laid A Ak lo k f) (hlo : lo ≤ k) (hk : k < Ak.slots.size) (hv : v = f k) : Laid A (Ak.setSlot k v) lo (k + 1) f := by
  refine ⟨h.1, h.2.1, by simpa [Cell.setSlot] using h.2.2.1, fun i => ?_⟩
  by_cases e : k = i
  · subst e; rw [Cell.slots_setSlot_self v hk, if_pos (by omega), hv]
  · rw [Cell.slots_setSlot_ne v e, h.2.2.2 i]
    by_cases q : lo ≤ i ∧ i < k
    · rw [if_pos q, if_pos (by omega)]
    · rw [if_neg q, if_neg (by omega)]
def U16 : String := "java/lang/StringUTF16"
namespace Cmp5
def yN : MethodName := ⟨"java/lang/StringUTF16", "compress", "([CI[BII)I"⟩
abbrev yB : ByteArray := jdk_52_method_21_code
theorem d0 : decode yB 0 = .ok (.iconst 0, 1) := by decide +kernel
theorem d1 : decode yB 1 = .ok (.istore 5, 2) := by decide +kernel
theorem d3 : decode yB 3 = .ok (.iload 5, 2) := by decide +kernel
theorem d5 : decode yB 5 = .ok (.iload 4, 2) := by decide +kernel
theorem d7 : decode yB 7 = .ok (.if_icmp (.ge) 37, 3) := by decide +kernel
theorem d10 : decode yB 10 = .ok (.aload_n 0, 1) := by decide +kernel
theorem d11 : decode yB 11 = .ok (.iload_n 1, 1) := by decide +kernel
theorem d12 : decode yB 12 = .ok (.caload, 1) := by decide +kernel
theorem d13 : decode yB 13 = .ok (.istore 6, 2) := by decide +kernel
theorem d15 : decode yB 15 = .ok (.iload 6, 2) := by decide +kernel
theorem d17 : decode yB 17 = .ok (.sipush 255, 3) := by decide +kernel
theorem d20 : decode yB 20 = .ok (.if_icmp (.le) 6, 3) := by decide +kernel
theorem d26 : decode yB 26 = .ok (.aload_n 2, 1) := by decide +kernel
theorem d27 : decode yB 27 = .ok (.iload_n 3, 1) := by decide +kernel
theorem d28 : decode yB 28 = .ok (.iload 6, 2) := by decide +kernel
theorem d30 : decode yB 30 = .ok (.i2b, 1) := by decide +kernel
theorem d31 : decode yB 31 = .ok (.bastore, 1) := by decide +kernel
theorem d32 : decode yB 32 = .ok (.iinc 1 1, 3) := by decide +kernel
theorem d35 : decode yB 35 = .ok (.iinc 3 1, 3) := by decide +kernel
theorem d38 : decode yB 38 = .ok (.iinc 5 1, 3) := by decide +kernel
theorem d41 : decode yB 41 = .ok (.goto (-38), 3) := by decide +kernel
theorem d44 : decode yB 44 = .ok (.iload 4, 2) := by decide +kernel
theorem d46 : decode yB 46 = .ok (.ireturn, 1) := by decide +kernel
def site : List Cond := []
def tab : Cond := tabOf yN yB 7 (some .int) site
def P (b : Addr) (A : Cell) (d : Addr) (B : Cell) (o q len : Nat) (args : Array Value) (s : State) : Prop := args = #[.ref b, .int (Int32.ofNat o), .ref d, .int (Int32.ofNat q), .int (Int32.ofNat len)] ∧ Ch b A s ∧ Arr .byte d B s ∧ b ≠ d ∧ o + len ≤ A.slots.size ∧ q + len ≤ B.slots.size ∧ ∀ i, i < len → ¬ 255 < cv A (o + i)
def E (b : Addr) (A : Cell) (d : Addr) (B : Cell) (o q len : Nat) (r : Option Value) (s u : State) : Prop := r = some (.int (Int32.ofNat len)) ∧ ∃ B', Put d B' s u ∧ Laid B B' q (q + len) (fun j => Value.int (lo8 (cv A (o + (j - q)))))
/-- no char of the range above 255: len; the places written hold each char's low byte -/
theorem law (l : Launch) (b : Addr) (A : Cell) (d : Addr) (B : Cell) (o q len : Nat) : Law l yN 5 5 0 0 yB 7 (some .int) site (P b A d B o q len) (E b A d B o q len) (copyLocs d q len) 0 0 := by
  refine Law.of_walk (plainFor_of_name (by decide +kernel)) (by decide +kernel) (by decide +kernel) (by decide) (fun _ _ h => by rw [h.1]; rfl) (fun _ U U' hal hh h => ⟨h.1, h.2.1.mv hal hh, h.2.2.1.mv hal hh, h.2.2.2⟩) (fun r U U' V V' h1 hal h2 h => ⟨h.1, h.2.elim fun B' q => ⟨B', q.1.mv h1 h2, q.2⟩⟩) ?_
  intro p e s m args below meth c s₁ X0 hexec hbytes hml hret hlk hnm hown hh0 W hP
  obtain ⟨rfl, hA, hB, hne, l1, l2, hp⟩ := hP
  have c1 : Steps p.tables e below (s₁.setTop (entryFrame m #[.ref b, .int (Int32.ofNat o), .ref d, .int (Int32.ofNat q), .int (Int32.ofNat len)] 7)) (s₁.setTop (mkF m 0 #[.val (.ref b), .val (.int (Int32.ofNat o)), .val (.ref d), .val (.int (Int32.ofNat q)), .val (.int (Int32.ofNat len)), .unset, .unset] [])) := entry rfl
  have hA0 := hA.1.mv X0.warmed.alike hh0
  have hB0 := hB.mv X0.warmed.alike hh0
  have a31 := hA.1.2.2.2
  have c2 : Steps p.tables e below (s₁.setTop (entryFrame m #[.ref b, .int (Int32.ofNat o), .ref d, .int (Int32.ofNat q), .int (Int32.ofNat len)] 7)) (s₁.setTop (mkF m 3 #[.val (.ref b), .val (.int (Int32.ofNat o)), .val (.ref d), .val (.int (Int32.ofNat q)), .val (.int (Int32.ofNat len)), .val (.int 0), .unset] [])) := c1.trans (by
    refine iconstV X0.here hexec rfl 0 (hb hbytes d0) (by decide) ?_
    refine XS.istore X0.here hexec rfl (hb hbytes d1) rfl rfl ?_
    exact Steps.refl _)
  have loop : ∀ (r i : Nat), i + r = len → ∀ (z : Slot), (z = .unset ∨ ∃ w, z = .val w ∧ w.category = 1) → ∀ (Tl : State) (Bk : Cell), Stand p l e { frames := 0, locals := 0, cells := 0, slots := 0 } s m #[.ref b, .int (Int32.ofNat o), .ref d, .int (Int32.ofNat q), .int (Int32.ofNat len)] below meth c Tl ([] ++ copyLocs d q i) 0 0 → Put d Bk s₁ Tl → Laid B Bk q (q + i) (fun j => Value.int (lo8 (cv A (o + (j - q))))) →
      Steps p.tables e below (s₁.setTop (entryFrame m #[.ref b, .int (Int32.ofNat o), .ref d, .int (Int32.ofNat q), .int (Int32.ofNat len)] 7)) (Tl.setTop (mkF m 3 #[.val (.ref b), .val (.int (Int32.ofNat (o + i))), .val (.ref d), .val (.int (Int32.ofNat (q + i))), .val (.int (Int32.ofNat len)), .val (.int (Int32.ofNat i)), z] [])) → ∃ (T' : State) (B' : Cell) (z' : Slot), Stand p l e { frames := 0, locals := 0, cells := 0, slots := 0 } s m #[.ref b, .int (Int32.ofNat o), .ref d, .int (Int32.ofNat q), .int (Int32.ofNat len)] below meth c T' ([] ++ copyLocs d q len) 0 0 ∧ Put d B' s₁ T' ∧ Laid B B' q (q + len) (fun j => Value.int (lo8 (cv A (o + (j - q))))) ∧
      Steps p.tables e below (s₁.setTop (entryFrame m #[.ref b, .int (Int32.ofNat o), .ref d, .int (Int32.ofNat q), .int (Int32.ofNat len)] 7)) (T'.setTop (mkF m 3 #[.val (.ref b), .val (.int (Int32.ofNat (o + len))), .val (.ref d), .val (.int (Int32.ofNat (q + len))), .val (.int (Int32.ofNat len)), .val (.int (Int32.ofNat len)), z'] [])) := by
    intro r
    induction r with
    | zero =>
      intro i hi z hz Tl Bk Xl pl fl cl
      have hil : i = len := by omega
      rw [hil] at Xl fl cl
      exact ⟨Tl, Bk, z, Xl, pl, fl, cl⟩
    | succ r ih =>
      intro i hi z hz Tl Bk Xl pl fl cl
      have all := X0.warmed.alike.symm.trans Xl.warmed.alike
      have hAl := hA0.keep all (pl.other hne hA0.1)
      have hBk := hB0.like all pl.1 fl.1 fl.2.1 fl.2.2.1
      have hlt : q + i < Bk.slots.size := by rw [fl.2.2.1]; omega
      have c3 : Steps p.tables e below (s₁.setTop (entryFrame m #[.ref b, .int (Int32.ofNat o), .ref d, .int (Int32.ofNat q), .int (Int32.ofNat len)] 7)) (Tl.setTop (mkF m 12 #[.val (.ref b), .val (.int (Int32.ofNat (o + i))), .val (.ref d), .val (.int (Int32.ofNat (q + i))), .val (.int (Int32.ofNat len)), .val (.int (Int32.ofNat i)), z] [.int (Int32.ofNat (o + i)), .ref b])) := cl.trans (by
        refine XS.iload Xl.here hexec rfl (hb hbytes d3) rfl ?_
        refine XS.iload Xl.here hexec rfl (hb hbytes d5) rfl ?_
        refine XS.icmpNo Xl.here hexec rfl (hb hbytes d7) rfl (ii_ge_f (lt32 (by omega) (by omega))) ?_
        refine XS.aloadN Xl.here hexec rfl (hb hbytes d10) rfl rfl ?_
        refine XS.iloadN Xl.here hexec rfl (hb hbytes d11) rfl ?_
        exact Steps.refl _)
      have c4 : Steps p.tables e below (s₁.setTop (entryFrame m #[.ref b, .int (Int32.ofNat o), .ref d, .int (Int32.ofNat q), .int (Int32.ofNat len)] 7)) (Tl.setTop (mkF m 13 #[.val (.ref b), .val (.int (Int32.ofNat (o + i))), .val (.ref d), .val (.int (Int32.ofNat (q + i))), .val (.int (Int32.ofNat len)), .val (.int (Int32.ofNat i)), z] [.int (cv A (o + i))])) := c3.trans (by
        refine Xl.aget hexec hAl rfl (hA.get (i := o + i) (by omega)) rfl rfl (hb hbytes d12) ?_
        exact Steps.refl _)
      have c5 : Steps p.tables e below (s₁.setTop (entryFrame m #[.ref b, .int (Int32.ofNat o), .ref d, .int (Int32.ofNat q), .int (Int32.ofNat len)] 7)) (Tl.setTop (mkF m 15 #[.val (.ref b), .val (.int (Int32.ofNat (o + i))), .val (.ref d), .val (.int (Int32.ofNat (q + i))), .val (.int (Int32.ofNat len)), .val (.int (Int32.ofNat i)), .val (.int (cv A (o + i)))] [])) := c4.trans (by
        refine XS.istoreS Xl.here hexec rfl (hb hbytes d13) rfl rfl hz ?_
        exact Steps.refl _)
      have c6 : Steps p.tables e below (s₁.setTop (entryFrame m #[.ref b, .int (Int32.ofNat o), .ref d, .int (Int32.ofNat q), .int (Int32.ofNat len)] 7)) (Tl.setTop (mkF m 31 #[.val (.ref b), .val (.int (Int32.ofNat (o + i))), .val (.ref d), .val (.int (Int32.ofNat (q + i))), .val (.int (Int32.ofNat len)), .val (.int (Int32.ofNat i)), .val (.int (cv A (o + i)))] [.int (lo8 (cv A (o + i))), .int (Int32.ofNat (q + i)), .ref d])) := c5.trans (by
        refine XS.iload Xl.here hexec rfl (hb hbytes d15) rfl ?_
        refine sipushV Xl.here hexec rfl 255 (hb hbytes d17) (by decide) ?_
        refine XS.icmpYes Xl.here hexec rfl (pc0 := 20) rfl (hb hbytes d20) rfl (ii_le_t (hp i (by omega))) (by decide) rfl ?_
        refine XS.aloadN Xl.here hexec rfl (hb hbytes d26) rfl rfl ?_
        refine XS.iloadN Xl.here hexec rfl (hb hbytes d27) rfl ?_
        refine XS.iload Xl.here hexec rfl (hb hbytes d28) rfl ?_
        refine i2b Xl.here hexec rfl (hb hbytes d30) rfl ?_
        exact Steps.refl _)
      obtain ⟨T7, X7, p7, st7⟩ := Xl.aput hexec hBk rfl hlt rfl (fits_lo8 (cv A (o + i))) (g := (mkF m 31 #[.val (.ref b), .val (.int (Int32.ofNat (o + i))), .val (.ref d), .val (.int (Int32.ofNat (q + i))), .val (.int (Int32.ofNat len)), .val (.int (Int32.ofNat i)), .val (.int (cv A (o + i)))] [.int (lo8 (cv A (o + i))), .int (Int32.ofNat (q + i)), .ref d])) rfl (rest := []) rfl (hb hbytes d31)
      have c8 : Steps p.tables e below (s₁.setTop (entryFrame m #[.ref b, .int (Int32.ofNat o), .ref d, .int (Int32.ofNat q), .int (Int32.ofNat len)] 7)) (T7.setTop (mkF m 32 #[.val (.ref b), .val (.int (Int32.ofNat (o + i))), .val (.ref d), .val (.int (Int32.ofNat (q + i))), .val (.int (Int32.ofNat len)), .val (.int (Int32.ofNat i)), .val (.int (cv A (o + i)))] [])) := c6.trans (st7 _ (Steps.refl _))
      have c9 : Steps p.tables e below (s₁.setTop (entryFrame m #[.ref b, .int (Int32.ofNat o), .ref d, .int (Int32.ofNat q), .int (Int32.ofNat len)] 7)) (T7.setTop (mkF m 3 #[.val (.ref b), .val (.int (Int32.ofNat (o + i) + 1)), .val (.ref d), .val (.int (Int32.ofNat (q + i) + 1)), .val (.int (Int32.ofNat len)), .val (.int (Int32.ofNat i + 1)), .val (.int (cv A (o + i)))] [])) := c8.trans (by
        refine iincV X7.here hexec rfl 1 (hb hbytes d32) (by decide) rfl rfl ?_
        refine iincV X7.here hexec rfl 1 (hb hbytes d35) (by decide) rfl rfl ?_
        refine iincV X7.here hexec rfl 1 (hb hbytes d38) (by decide) rfl rfl ?_
        refine XS.goto X7.here hexec rfl (pc0 := 41) rfl (hb hbytes d41) (by decide) rfl ?_
        exact Steps.refl _)
      have c10 : Steps p.tables e below (s₁.setTop (entryFrame m #[.ref b, .int (Int32.ofNat o), .ref d, .int (Int32.ofNat q), .int (Int32.ofNat len)] 7)) (T7.setTop (mkF m 3 #[.val (.ref b), .val (.int (Int32.ofNat (o + (i + 1)))), .val (.ref d), .val (.int (Int32.ofNat (q + (i + 1)))), .val (.int (Int32.ofNat len)), .val (.int (Int32.ofNat (i + 1))), .val (.int (cv A (o + i)))] [])) := by
        have := c9
        rw [succ32, succ32, succ32] at this
        exact this
      exact ih (i + 1) (by omega) _ (Or.inr ⟨_, rfl, rfl⟩) T7 _ (by rw [copyLocs_step, ← List.append_assoc]; exact X7) (pl.trans p7) (fl.step (by omega) hlt (by simp)) c10
  obtain ⟨T9, B9, z9, X9, p9, f9, g9⟩ := loop len 0 (by omega) .unset (Or.inl rfl) s₁ B (by simpa [copyLocs] using X0) ⟨hB0.1, fun _ _ => rfl, rfl⟩ (Laid.zero _ _ _) c2
  have c11 : Steps p.tables e below (s₁.setTop (entryFrame m #[.ref b, .int (Int32.ofNat o), .ref d, .int (Int32.ofNat q), .int (Int32.ofNat len)] 7)) (T9.setTop (mkF m 46 #[.val (.ref b), .val (.int (Int32.ofNat (o + len))), .val (.ref d), .val (.int (Int32.ofNat (q + len))), .val (.int (Int32.ofNat len)), .val (.int (Int32.ofNat len)), z9] [.int (Int32.ofNat len)])) := g9.trans (by
    refine XS.iload X9.here hexec rfl (hb hbytes d3) rfl ?_
    refine XS.iload X9.here hexec rfl (hb hbytes d5) rfl ?_
    refine XS.icmpYes X9.here hexec rfl (pc0 := 7) rfl (hb hbytes d7) rfl (ii_ge_t (nlt32 (by omega) (Nat.le_refl _))) (by decide) rfl ?_
    refine XS.iload X9.here hexec rfl (hb hbytes d44) rfl ?_
    exact Steps.refl _)
  exact ⟨T9, some (.int (Int32.ofNat len)), _, _, _, X9, by simp, rfl, rfl, (fun h => by cases h), ⟨rfl, B9, p9.from hh0, f9⟩, fun fs hl => c11.trans (X9.ireturnOut hexec hret rfl (Or.inl rfl) (hb hbytes d46) hl)⟩
end Cmp5
namespace Cmp3
def yN : MethodName := ⟨"java/lang/StringUTF16", "compress", "([CII)[B"⟩
abbrev yB : ByteArray := jdk_52_method_16_code
theorem d0 : decode yB 0 = .ok (.iload_n 2, 1) := by decide +kernel
theorem d1 : decode yB 1 = .ok (.newarray .byte, 2) := by decide +kernel
theorem d3 : decode yB 3 = .ok (.astore_n 3, 1) := by decide +kernel
theorem d4 : decode yB 4 = .ok (.aload_n 0, 1) := by decide +kernel
theorem d5 : decode yB 5 = .ok (.iload_n 1, 1) := by decide +kernel
theorem d6 : decode yB 6 = .ok (.aload_n 3, 1) := by decide +kernel
theorem d7 : decode yB 7 = .ok (.iconst 0, 1) := by decide +kernel
theorem d8 : decode yB 8 = .ok (.iload_n 2, 1) := by decide +kernel
theorem d9 : decode yB 9 = .ok (.invokestatic 115, 3) := by decide +kernel
theorem d12 : decode yB 12 = .ok (.istore 4, 2) := by decide +kernel
theorem d14 : decode yB 14 = .ok (.iload 4, 2) := by decide +kernel
theorem d16 : decode yB 16 = .ok (.iload_n 2, 1) := by decide +kernel
theorem d17 : decode yB 17 = .ok (.if_icmp (.eq) 40, 3) := by decide +kernel
theorem d57 : decode yB 57 = .ok (.aload_n 3, 1) := by decide +kernel
theorem d58 : decode yB 58 = .ok (.areturn, 1) := by decide +kernel
def site : List Cond := [.arrayClass .byte, Cmp5.tab] ++ staticW U16 115 Cmp5.yN
def tab : Cond := tabOf yN yB 6 (some (.array .byte)) site
def P (b : Addr) (A : Cell) (o len : Nat) (args : Array Value) (s : State) : Prop := args = #[.ref b, .int (Int32.ofNat o), .int (Int32.ofNat len)] ∧ Ch b A s ∧ o + len ≤ A.slots.size ∧ len ≤ 536870912 ∧ ∀ i, i < len → ¬ 255 < cv A (o + i)
def E (b : Addr) (A : Cell) (o len : Nat) (r : Option Value) (s u : State) : Prop := NewArr .byte "[B" len (fun j => .int (lo8 (cv A (o + j)))) r s u ∧ u.heap.size = s.heap.size + 1
/-- no char of the range above 255: a new byte[] of their low bytes -/
theorem law (l : Launch) (b : Addr) (A : Cell) (o len : Nat) : Law l yN 3 3 1 18 yB 6 (some (.array .byte)) site (P b A o len) (E b A o len) [] 1 len := by
  refine Law.of_walk (plainFor_of_name (by decide +kernel)) (by decide +kernel) (by decide +kernel) (by decide) (fun _ _ h => by rw [h.1]; rfl) (fun _ U U' hal hh h => ⟨h.1, h.2.1.mv hal hh, h.2.2⟩) (fun r U U' V V' h1 hal h2 h => ⟨NewArr.mv r U U' V V' h1 hal h2 h.1, by rw [h1, h2]; exact h.2⟩) ?_
  intro p e s m args below meth c s₁ X0 hexec hbytes hml hret hlk hnm hown hh0 W hP
  obtain ⟨rfl, hA, l1, l2, hp⟩ := hP
  have a31 := hA.1.2.2.2
  have c1 : Steps p.tables e below (s₁.setTop (entryFrame m #[.ref b, .int (Int32.ofNat o), .int (Int32.ofNat len)] 6)) (s₁.setTop (mkF m 0 #[.val (.ref b), .val (.int (Int32.ofNat o)), .val (.int (Int32.ofNat len)), .unset, .unset, .unset] [])) := entry rfl
  have c2 : Steps p.tables e below (s₁.setTop (entryFrame m #[.ref b, .int (Int32.ofNat o), .int (Int32.ofNat len)] 6)) (s₁.setTop (mkF m 1 #[.val (.ref b), .val (.int (Int32.ofNat o)), .val (.int (Int32.ofNat len)), .unset, .unset, .unset] [.int (Int32.ofNat len)])) := c1.trans (by
    refine XS.iloadN X0.here hexec rfl (hb hbytes d0) rfl ?_
    exact Steps.refl _)
  obtain ⟨T3, B3, X3, ba3, bs3, bv3, bh3, bf3, st3⟩ := X0.anew hexec (atype := .byte) (wk W (.arrayClass .byte)) rfl (by show len * 1 ≤ _; omega) (by omega) (g := (mkF m 1 #[.val (.ref b), .val (.int (Int32.ofNat o)), .val (.int (Int32.ofNat len)), .unset, .unset, .unset] [.int (Int32.ofNat len)])) rfl (hb hbytes d1) (rest := []) rfl (Nat.le_refl _) (by show 0 + len ≤ len; omega)
  rw [hh0] at ba3 st3
  have kp3 : XT.Kept s T3 := (XT.Kept.of_eq hh0).push bh3
  have hA3 := hA.keep X3.warmed.alike (kp3 _ _ hA.1.1)
  have hne : b ≠ s.heap.size := hA.1.ne
  have c4 : Steps p.tables e below (s₁.setTop (entryFrame m #[.ref b, .int (Int32.ofNat o), .int (Int32.ofNat len)] 6)) (T3.setTop (mkF m 3 #[.val (.ref b), .val (.int (Int32.ofNat o)), .val (.int (Int32.ofNat len)), .unset, .unset, .unset] [.ref s.heap.size])) := c2.trans (st3 _ (Steps.refl _))
  have c5 : Steps p.tables e below (s₁.setTop (entryFrame m #[.ref b, .int (Int32.ofNat o), .int (Int32.ofNat len)] 6)) (T3.setTop (mkF m 9 #[.val (.ref b), .val (.int (Int32.ofNat o)), .val (.int (Int32.ofNat len)), .val (.ref s.heap.size), .unset, .unset] [.int (Int32.ofNat len), .int 0, .ref s.heap.size, .int (Int32.ofNat o), .ref b])) := c4.trans (by
    refine XS.astoreN X3.here hexec rfl (hb hbytes d3) rfl rfl rfl ?_
    refine XS.aloadN X3.here hexec rfl (hb hbytes d4) rfl rfl ?_
    refine XS.iloadN X3.here hexec rfl (hb hbytes d5) rfl ?_
    refine XS.aloadN X3.here hexec rfl (hb hbytes d6) rfl rfl ?_
    refine iconstV X3.here hexec rfl 0 (hb hbytes d7) (by decide) ?_
    refine XS.iloadN X3.here hexec rfl (hb hbytes d8) rfl ?_
    exact Steps.refl _)
  obtain ⟨v6, T6, X6, E6, g6⟩ := X3.callS hexec (Cmp5.law l b A s.heap.size B3 o 0 len) hown (wks W (staticW U16 115 Cmp5.yN)) (wk W Cmp5.tab) (W := 0) (Nat.le_of_ble_eq_true rfl) (Nat.le_of_ble_eq_true rfl) (Nat.le_refl _) (by show 0 + len + 0 ≤ len; omega) (g := (mkF m 9 #[.val (.ref b), .val (.int (Int32.ofNat o)), .val (.int (Int32.ofNat len)), .val (.ref s.heap.size), .unset, .unset] [.int (Int32.ofNat len), .int (Int32.ofNat 0), .ref s.heap.size, .int (Int32.ofNat o), .ref b])) rfl (by rw [hml]; rfl) c5 (argsL := [.ref b, .int (Int32.ofNat o), .ref s.heap.size, .int (Int32.ofNat 0), .int (Int32.ofNat len)]) (rest := []) rfl rfl (by show 2 * 0 + 0 ≤ _; decide) (hb hbytes d9) (⟨rfl, hA3, ba3, hne, l1, by rw [bs3]; simp, hp⟩)
  obtain ⟨rfl, B6, p6, f6⟩ := E6
  have c7 : Steps p.tables e below (s₁.setTop (entryFrame m #[.ref b, .int (Int32.ofNat o), .int (Int32.ofNat len)] 6)) (T6.setTop (mkF m 12 #[.val (.ref b), .val (.int (Int32.ofNat o)), .val (.int (Int32.ofNat len)), .val (.ref s.heap.size), .unset, .unset] [.int (Int32.ofNat len)])) := g6
  have c8 : Steps p.tables e below (s₁.setTop (entryFrame m #[.ref b, .int (Int32.ofNat o), .int (Int32.ofNat len)] 6)) (T6.setTop (mkF m 58 #[.val (.ref b), .val (.int (Int32.ofNat o)), .val (.int (Int32.ofNat len)), .val (.ref s.heap.size), .val (.int (Int32.ofNat len)), .unset] [.ref s.heap.size])) := c7.trans (by
    refine XS.istore X6.here hexec rfl (hb hbytes d12) rfl rfl ?_
    refine XS.iload X6.here hexec rfl (hb hbytes d14) rfl ?_
    refine XS.iloadN X6.here hexec rfl (hb hbytes d16) rfl ?_
    refine XS.icmpYes X6.here hexec rfl (pc0 := 17) rfl (hb hbytes d17) rfl (ii_eq_t rfl) (by decide) rfl ?_
    refine XS.aloadN X6.here hexec rfl (hb hbytes d57) rfl rfl ?_
    exact Steps.refl _)
  have X8 := X6.wide (L' := []) (cells' := 1) (slots' := len) (fun x hx hlt => by
    simp only [List.nil_append, copyLocs, List.mem_map, List.mem_range] at hx
    obtain ⟨i, -, rfl⟩ := hx
    exact absurd hlt (Nat.lt_irrefl _)) (Nat.le_refl _) (by omega)
  exact ⟨T6, some (.ref s.heap.size), _, _, _, X8, rfl, rfl, rfl, (fun h => by cases h), ⟨⟨rfl, B6, ba3.like (X3.warmed.alike.symm.trans X6.warmed.alike) p6.1 f6.1 f6.2.1 f6.2.2.1, f6.2.1.trans bv3, by rw [X6.warmed.alike.findClass, f6.1]; exact bf3, by rw [f6.2.2.1, bs3]; simp, fun j hj => by rw [f6.2.2.2 j, if_pos (by omega)]; rfl, kp3.put p6 (Nat.le_refl _)⟩, by rw [p6.2.2, bh3, hh0]; simp⟩, fun fs hl => c8.trans (X8.areturnOut hexec rfl hret rfl (hb hbytes d58) hl)⟩
end Cmp3
namespace CodL
def yN : MethodName := ⟨"java/lang/StringUTF16", "coderFromArrayLen", "([BI)B"⟩
abbrev yB : ByteArray := jdk_52_method_15_code
theorem d0 : decode yB 0 = .ok (.iload_n 1, 1) := by decide +kernel
theorem d1 : decode yB 1 = .ok (.aload_n 0, 1) := by decide +kernel
theorem d2 : decode yB 2 = .ok (.arraylength, 1) := by decide +kernel
theorem d3 : decode yB 3 = .ok (.isub, 1) := by decide +kernel
theorem d4 : decode yB 4 = .ok (.bipush 31, 2) := by decide +kernel
theorem d6 : decode yB 6 = .ok (.iushr, 1) := by decide +kernel
theorem d7 : decode yB 7 = .ok (.i2b, 1) := by decide +kernel
theorem d8 : decode yB 8 = .ok (.ireturn, 1) := by decide +kernel
def site : List Cond := []
def tab : Cond := tabOf yN yB 2 (some .byte) site
def P (d : Addr) (B : Cell) (args : Array Value) (s : State) : Prop := args = #[.ref d, .int (Int32.ofNat B.slots.size)] ∧ Arr .byte d B s
def E (r : Option Value) (s u : State) : Prop := XT.PureE (some (.int 0)) r s u
/-- an array as long as the number of chars: LATIN1 -/
theorem law (l : Launch) (d : Addr) (B : Cell) : Law l yN 2 2 0 0 yB 2 (some .byte) site (P d B) E [] 0 0 := by
  refine Law.of_walk (plainFor_of_name (by decide +kernel)) (by decide +kernel) (by decide +kernel) (by decide) (fun _ _ h => by rw [h.1]; rfl) (fun _ U U' hal hh h => ⟨h.1, h.2.mv hal hh⟩) (fun r U U' V V' h1 hal h2 h => XT.PureE.mv r U U' V V' h1 hal h2 h) ?_
  intro p e s m args below meth c s₁ X0 hexec hbytes hml hret hlk hnm hown hh0 W hP
  obtain ⟨rfl, hB⟩ := hP
  have hB0 := hB.mv X0.warmed.alike hh0
  have c1 : Steps p.tables e below (s₁.setTop (entryFrame m #[.ref d, .int (Int32.ofNat B.slots.size)] 2)) (s₁.setTop (mkF m 0 #[.val (.ref d), .val (.int (Int32.ofNat B.slots.size))] [])) := entry rfl
  have c2 : Steps p.tables e below (s₁.setTop (entryFrame m #[.ref d, .int (Int32.ofNat B.slots.size)] 2)) (s₁.setTop (mkF m 2 #[.val (.ref d), .val (.int (Int32.ofNat B.slots.size))] [.ref d, .int (Int32.ofNat B.slots.size)])) := c1.trans (by
    refine XS.iloadN X0.here hexec rfl (hb hbytes d0) rfl ?_
    refine XS.aloadN X0.here hexec rfl (hb hbytes d1) rfl rfl ?_
    exact Steps.refl _)
  have c3 : Steps p.tables e below (s₁.setTop (entryFrame m #[.ref d, .int (Int32.ofNat B.slots.size)] 2)) (s₁.setTop (mkF m 8 #[.val (.ref d), .val (.int (Int32.ofNat B.slots.size))] [.int (lo8 (ushr (Int32.ofNat B.slots.size - Int32.ofNat B.slots.size) 31))])) := c2.trans (by
    refine X0.alen hexec hB0 rfl rfl (hb hbytes d2) ?_
    refine XS.isub X0.here hexec rfl (hb hbytes d3) rfl ?_
    refine bipushV X0.here hexec rfl 31 (hb hbytes d4) (by decide) ?_
    refine iushr X0.here hexec rfl (hb hbytes d6) rfl ?_
    refine i2b X0.here hexec rfl (hb hbytes d7) rfl ?_
    exact Steps.refl _)
  have e0 : lo8 (ushr (Int32.ofNat B.slots.size - Int32.ofNat B.slots.size) 31) = 0 := by rw [Int32.sub_self]; decide
  rw [e0] at c3
  exact ⟨s₁, some (.int 0), _, _, _, X0, rfl, rfl, rfl, (fun h => by cases h), ⟨rfl, hh0⟩, fun fs hl => c3.trans (X0.ireturnOut hexec hret rfl (Or.inr (Or.inr (Or.inl rfl))) (hb hbytes d8) hl)⟩
end CodL
/-- the String at a is Latin-1 over a new byte[] (the heap's one new cell): the low bytes of the len chars of A from o on; every cell but a is kept -/
def Got (a : Addr) (D : Cell) (fV fC : Field) (A : Cell) (o len : Nat) (r : Option Value) (s u : State) : Prop := r = none ∧ ∃ D' V : Cell, Blank "java/lang/String" a D' u ∧ Same D D' [fV.slot, fC.slot] ∧ D'.slots[fV.slot]? = some (.ref s.heap.size) ∧ D'.slots[fC.slot]? = some (.int 0) ∧ Arr .byte s.heap.size V u ∧ V.vm = .none ∧ u.vm.findClass "[B" = some V.cls ∧ V.slots.size = len ∧ (∀ j, j < len → V.slots[j]? = some (.int (lo8 (cv A (o + j))))) ∧ (∀ (y : Addr) (c : Cell), y ≠ a → s.heap[y]? = some c → u.heap[y]? = some c) ∧ u.heap.size = s.heap.size + 1
theorem Got.mv {a : Addr} {D A : Cell} {fV fC : Field} {o len : Nat} : ∀ r (U U' V V' : State), U'.heap = U.heap → V.vm.Alike V'.vm → V'.heap = V.heap → Got a D fV fC A o len r U V → Got a D fV fC A o len r U' V' :=
  fun r U U' V V' h1 hal h2 ⟨e0, D', X, a1, a2, a3, a4, a5, a6, a7, a8, a9, a10, a11⟩ => ⟨e0, D', X, a1.mv hal h2, a2, by rw [h1]; exact a3, a4, by rw [h1]; exact a5.mv hal h2, a6, by rw [hal.findClass]; exact a7, a8, a9, by rw [h1, h2]; exact a10, by rw [h1, h2]; exact a11⟩
namespace New4
def yN : MethodName := ⟨"java/lang/String", "<init>", "([CIILjava/lang/Void;)V"⟩
abbrev yB : ByteArray := jdk_42_method_149_code
theorem d0 : decode yB 0 = .ok (.aload_n 0, 1) := by decide +kernel
theorem d1 : decode yB 1 = .ok (.invokespecial 1, 3) := by decide +kernel
theorem d4 : decode yB 4 = .ok (.iload_n 3, 1) := by decide +kernel
theorem d5 : decode yB 5 = .ok (.ifCond (.ne) 22, 3) := by decide +kernel
theorem d27 : decode yB 27 = .ok (.getstatic 38, 3) := by decide +kernel
theorem d30 : decode yB 30 = .ok (.ifCond (.eq) 28, 3) := by decide +kernel
theorem d33 : decode yB 33 = .ok (.aload_n 1, 1) := by decide +kernel
theorem d34 : decode yB 34 = .ok (.iload_n 2, 1) := by decide +kernel
theorem d35 : decode yB 35 = .ok (.iload_n 3, 1) := by decide +kernel
theorem d36 : decode yB 36 = .ok (.invokestatic 177, 3) := by decide +kernel
theorem d39 : decode yB 39 = .ok (.astore 5, 2) := by decide +kernel
theorem d41 : decode yB 41 = .ok (.aload_n 0, 1) := by decide +kernel
theorem d42 : decode yB 42 = .ok (.aload 5, 2) := by decide +kernel
theorem d44 : decode yB 44 = .ok (.iload_n 3, 1) := by decide +kernel
theorem d45 : decode yB 45 = .ok (.invokestatic 47, 3) := by decide +kernel
theorem d48 : decode yB 48 = .ok (.putfield 15, 3) := by decide +kernel
theorem d51 : decode yB 51 = .ok (.aload_n 0, 1) := by decide +kernel
theorem d52 : decode yB 52 = .ok (.aload 5, 2) := by decide +kernel
theorem d54 : decode yB 54 = .ok (.putfield 9, 3) := by decide +kernel
theorem d57 : decode yB 57 = .ok (.return_, 1) := by decide +kernel
def site : List Cond := [.fieldLink "java/lang/String" 38 "java/lang/String" "COMPACT_STRINGS" "Z", Cmp3.tab, CodL.tab, .laysFinal "java/lang/String" "java/lang/String" "value" "[B", .fieldLink "java/lang/String" 9 "java/lang/String" "value" "[B", .laysFinal "java/lang/String" "java/lang/String" "coder" "B", .fieldLink "java/lang/String" 15 "java/lang/String" "coder" "B"] ++ objW "java/lang/String" 1 ++ staticW "java/lang/String" 177 Cmp3.yN ++ staticW "java/lang/String" 47 CodL.yN
def tab : Cond := tabOf yN yB 6 none site
def P (a : Addr) (D : Cell) (fV fC : Field) (b : Addr) (A : Cell) (z : Int32) (o len : Nat) (args : Array Value) (s : State) : Prop := args = #[.ref a, .ref b, .int (Int32.ofNat o), .int (Int32.ofNat len), .null] ∧ Blank "java/lang/String" a D s ∧ Found "java/lang/String" "value" "[B" fV s ∧ Found "java/lang/String" "coder" "B" fC s ∧ Ch b A s ∧ StaticIs s "java/lang/String" "COMPACT_STRINGS" "Z" (.int z) ∧ ¬ z = 0 ∧ 0 < len ∧ o + len ≤ A.slots.size ∧ len ≤ 536870912 ∧ ∀ i, i < len → ¬ 255 < cv A (o + i)
def E (a : Addr) (D : Cell) (fV fC : Field) (A : Cell) (o len : Nat) (r : Option Value) (s u : State) : Prop := Got a D fV fC A o len r s u
/-- len > 0, no char of the range above 255: a Latin-1 String of their low bytes -/
theorem law (l : Launch) (a : Addr) (D : Cell) (fV fC : Field) (b : Addr) (A : Cell) (z : Int32) (o len : Nat) : Law l yN 5 4 2 35 yB 6 none site (P a D fV fC b A z o len) (E a D fV fC A o len) [⟨a, fC.slot⟩, ⟨a, fV.slot⟩] 1 len := by
  refine Law.of_walk (plainFor_of_name (by decide +kernel)) (by decide +kernel) (by decide +kernel) (by decide) (fun _ _ h => by rw [h.1]; rfl) (fun _ U U' hal hh h => ⟨h.1, h.2.1.mv hal hh, h.2.2.1.al hal, h.2.2.2.1.al hal, h.2.2.2.2.1.mv hal hh, h.2.2.2.2.2.1.there hal hh, h.2.2.2.2.2.2⟩) (fun r U U' V V' h1 hal h2 h => Got.mv r U U' V V' h1 hal h2 h) ?_
  intro p e s m args below meth c s₁ X0 hexec hbytes hml hret hlk hnm hown hh0 W hP
  obtain ⟨rfl, hB, f1, f2, hA, s1, hz, l0, l1, l2, hp⟩ := hP
  have a31 := hA.1.2.2.2
  have c1 : Steps p.tables e below (s₁.setTop (entryFrame m #[.ref a, .ref b, .int (Int32.ofNat o), .int (Int32.ofNat len), .null] 6)) (s₁.setTop (mkF m 0 #[.val (.ref a), .val (.ref b), .val (.int (Int32.ofNat o)), .val (.int (Int32.ofNat len)), .val .null, .unset] [])) := entry rfl
  have c2 : Steps p.tables e below (s₁.setTop (entryFrame m #[.ref a, .ref b, .int (Int32.ofNat o), .int (Int32.ofNat len), .null] 6)) (s₁.setTop (mkF m 1 #[.val (.ref a), .val (.ref b), .val (.int (Int32.ofNat o)), .val (.int (Int32.ofNat len)), .val .null, .unset] [.ref a])) := c1.trans (by
    refine XS.aloadN X0.here hexec rfl (hb hbytes d0) rfl rfl ?_
    exact Steps.refl _)
  obtain ⟨T3, X3, q3, st3⟩ := X0.oinit hexec hown (wks W (objW "java/lang/String" 1)) (g := (mkF m 1 #[.val (.ref a), .val (.ref b), .val (.int (Int32.ofNat o)), .val (.int (Int32.ofNat len)), .val .null, .unset] [.ref a])) rfl (by rw [hml]; rfl) (rest := []) rfl (hb hbytes d1) (W := 0) (by show 2 * 0 + 0 ≤ _; decide) (Nat.le_of_ble_eq_true rfl) (Nat.le_of_ble_eq_true rfl)
  have hh3 := q3.trans hh0
  have c4 : Steps p.tables e below (s₁.setTop (entryFrame m #[.ref a, .ref b, .int (Int32.ofNat o), .int (Int32.ofNat len), .null] 6)) (T3.setTop (mkF m 27 #[.val (.ref a), .val (.ref b), .val (.int (Int32.ofNat o)), .val (.int (Int32.ofNat len)), .val .null, .unset] [])) := (c2.trans (st3 _ (Steps.refl _))).trans (by
    refine XS.iloadN X3.here hexec rfl (hb hbytes d4) rfl ?_
    refine XS.ifYes X3.here hexec rfl (pc0 := 5) rfl (hb hbytes d5) rfl (i0_ne_t (nz32 (by omega) l0)) (by decide) rfl ?_
    exact Steps.refl _)
  obtain ⟨T5, X5, q5, st5⟩ := X3.sget hexec hown (wk W (.fieldLink "java/lang/String" 38 "java/lang/String" "COMPACT_STRINGS" "Z")) s1 (fun _ _ h => by rw [hh3]; exact h) (g := (mkF m 27 #[.val (.ref a), .val (.ref b), .val (.int (Int32.ofNat o)), .val (.int (Int32.ofNat len)), .val .null, .unset] [])) rfl (hb hbytes d27)
  have hh5 := q5.trans hh3
  have c6 : Steps p.tables e below (s₁.setTop (entryFrame m #[.ref a, .ref b, .int (Int32.ofNat o), .int (Int32.ofNat len), .null] 6)) (T5.setTop (mkF m 30 #[.val (.ref a), .val (.ref b), .val (.int (Int32.ofNat o)), .val (.int (Int32.ofNat len)), .val .null, .unset] [.int z])) := c4.trans (st5 _ (Steps.refl _))
  have c7 : Steps p.tables e below (s₁.setTop (entryFrame m #[.ref a, .ref b, .int (Int32.ofNat o), .int (Int32.ofNat len), .null] 6)) (T5.setTop (mkF m 36 #[.val (.ref a), .val (.ref b), .val (.int (Int32.ofNat o)), .val (.int (Int32.ofNat len)), .val .null, .unset] [.int (Int32.ofNat len), .int (Int32.ofNat o), .ref b])) := c6.trans (by
    refine XS.ifNo X5.here hexec rfl (hb hbytes d30) rfl (i0_eq_f hz) ?_
    refine XS.aloadN X5.here hexec rfl (hb hbytes d33) rfl rfl ?_
    refine XS.iloadN X5.here hexec rfl (hb hbytes d34) rfl ?_
    refine XS.iloadN X5.here hexec rfl (hb hbytes d35) rfl ?_
    exact Steps.refl _)
  obtain ⟨v8, T8, X8, E8, g8⟩ := X5.callS hexec (Cmp3.law l b A o len) hown (wks W (staticW "java/lang/String" 177 Cmp3.yN)) (wk W Cmp3.tab) (W := 0) (Nat.le_of_ble_eq_true rfl) (Nat.le_of_ble_eq_true rfl) (Nat.le_refl _) (by show 0 + len ≤ len; omega) (g := (mkF m 36 #[.val (.ref a), .val (.ref b), .val (.int (Int32.ofNat o)), .val (.int (Int32.ofNat len)), .val .null, .unset] [.int (Int32.ofNat len), .int (Int32.ofNat o), .ref b])) rfl (by rw [hml]; rfl) c7 (argsL := [.ref b, .int (Int32.ofNat o), .int (Int32.ofNat len)]) (rest := []) rfl rfl (by show 2 * 0 + 0 ≤ _; decide) (hb hbytes d36) (⟨rfl, hA.mv X5.warmed.alike hh5, l1, l2, hp⟩)
  obtain ⟨e8, z8⟩ := E8
  obtain ⟨rfl, N, n1, n2, n3, n4, n5, n6⟩ := NewArr.mv _ T5 s _ _ hh5.symm (Vm.Alike.refl _) rfl e8
  rw [hh5] at z8
  have hB1 := hB.keep X8.warmed.alike (n6 _ _ hB.1)
  have hne : s.heap.size ≠ a := (Nat.ne_of_lt (Array.getElem?_eq_some_iff.mp hB.1).1).symm
  have c9 : Steps p.tables e below (s₁.setTop (entryFrame m #[.ref a, .ref b, .int (Int32.ofNat o), .int (Int32.ofNat len), .null] 6)) (T8.setTop (mkF m 39 #[.val (.ref a), .val (.ref b), .val (.int (Int32.ofNat o)), .val (.int (Int32.ofNat len)), .val .null, .unset] [.ref s.heap.size])) := g8
  have c10 : Steps p.tables e below (s₁.setTop (entryFrame m #[.ref a, .ref b, .int (Int32.ofNat o), .int (Int32.ofNat len), .null] 6)) (T8.setTop (mkF m 45 #[.val (.ref a), .val (.ref b), .val (.int (Int32.ofNat o)), .val (.int (Int32.ofNat len)), .val .null, .val (.ref s.heap.size)] [.int (Int32.ofNat N.slots.size), .ref s.heap.size, .ref a])) := by
    have hc : Steps p.tables e below (s₁.setTop (entryFrame m #[.ref a, .ref b, .int (Int32.ofNat o), .int (Int32.ofNat len), .null] 6)) (T8.setTop (mkF m 45 #[.val (.ref a), .val (.ref b), .val (.int (Int32.ofNat o)), .val (.int (Int32.ofNat len)), .val .null, .val (.ref s.heap.size)] [.int (Int32.ofNat len), .ref s.heap.size, .ref a])) := c9.trans (by
      refine XS.astore X8.here hexec rfl (hb hbytes d39) rfl rfl rfl ?_
      refine XS.aloadN X8.here hexec rfl (hb hbytes d41) rfl rfl ?_
      refine XS.aload X8.here hexec rfl (hb hbytes d42) rfl rfl ?_
      refine XS.iloadN X8.here hexec rfl (hb hbytes d44) rfl ?_
      exact Steps.refl _)
    rw [n4]; exact hc
  obtain ⟨v11, T11, X11, E11, g11⟩ := X8.callS hexec (CodL.law l s.heap.size N) hown (wks W (staticW "java/lang/String" 47 CodL.yN)) (wk W CodL.tab) (W := 1) (Nat.le_of_ble_eq_true rfl) (Nat.le_of_ble_eq_true rfl) (Nat.le_refl _) (by show 0 + len + 0 ≤ len; omega) (g := (mkF m 45 #[.val (.ref a), .val (.ref b), .val (.int (Int32.ofNat o)), .val (.int (Int32.ofNat len)), .val .null, .val (.ref s.heap.size)] [.int (Int32.ofNat N.slots.size), .ref s.heap.size, .ref a])) rfl (by rw [hml]; rfl) c10 (argsL := [.ref s.heap.size, .int (Int32.ofNat N.slots.size)]) (rest := [.ref a]) rfl rfl (by show 2 * 0 + (1 + 0) ≤ _; decide) (hb hbytes d45) (⟨rfl, n1⟩)
  obtain ⟨rfl, q11⟩ := E11
  have hB11 := hB1.mv (X8.warmed.alike.symm.trans X11.warmed.alike) q11
  have c12 : Steps p.tables e below (s₁.setTop (entryFrame m #[.ref a, .ref b, .int (Int32.ofNat o), .int (Int32.ofNat len), .null] 6)) (T11.setTop (mkF m 48 #[.val (.ref a), .val (.ref b), .val (.int (Int32.ofNat o)), .val (.int (Int32.ofNat len)), .val .null, .val (.ref s.heap.size)] [.int 0, .ref a])) := g11
  obtain ⟨T13, X13, p13, bl13, sl13, st13⟩ := X11.finit hexec hown (wk W (.fieldLink "java/lang/String" 15 "java/lang/String" "coder" "B")) (Or.inr ⟨_, (wk W (.laysFinal "java/lang/String" "java/lang/String" "coder" "B"))⟩) (Or.inl ⟨rfl, hnm⟩) f2 (Or.inl rfl) hB11 (t := .byte) (by decide +kernel) rfl (g := (mkF m 48 #[.val (.ref a), .val (.ref b), .val (.int (Int32.ofNat o)), .val (.int (Int32.ofNat len)), .val .null, .val (.ref s.heap.size)] [.int 0, .ref a])) rfl (rest := []) rfl (hb hbytes d48)
  have c14 : Steps p.tables e below (s₁.setTop (entryFrame m #[.ref a, .ref b, .int (Int32.ofNat o), .int (Int32.ofNat len), .null] 6)) (T13.setTop (mkF m 54 #[.val (.ref a), .val (.ref b), .val (.int (Int32.ofNat o)), .val (.int (Int32.ofNat len)), .val .null, .val (.ref s.heap.size)] [.ref s.heap.size, .ref a])) := (c12.trans (st13 _ (Steps.refl _))).trans (by
    refine XS.aloadN X13.here hexec rfl (hb hbytes d51) rfl rfl ?_
    refine XS.aload X13.here hexec rfl (hb hbytes d52) rfl rfl ?_
    exact Steps.refl _)
  obtain ⟨T15, X15, p15, bl15, sl15, st15⟩ := X13.finit hexec hown (wk W (.fieldLink "java/lang/String" 9 "java/lang/String" "value" "[B")) (Or.inr ⟨_, (wk W (.laysFinal "java/lang/String" "java/lang/String" "value" "[B"))⟩) (Or.inl ⟨rfl, hnm⟩) f1 (Or.inl rfl) bl13 (t := (.array .byte)) (by decide +kernel) rfl (g := (mkF m 54 #[.val (.ref a), .val (.ref b), .val (.int (Int32.ofNat o)), .val (.int (Int32.ofNat len)), .val .null, .val (.ref s.heap.size)] [.ref s.heap.size, .ref a])) rfl (rest := []) rfl (hb hbytes d54)
  have c16 : Steps p.tables e below (s₁.setTop (entryFrame m #[.ref a, .ref b, .int (Int32.ofNat o), .int (Int32.ofNat len), .null] 6)) (T15.setTop (mkF m 57 #[.val (.ref a), .val (.ref b), .val (.int (Int32.ofNat o)), .val (.int (Int32.ofNat len)), .val .null, .val (.ref s.heap.size)] [])) := c14.trans (st15 _ (Steps.refl _))
  have ap := apart (Or.inr ⟨_, (wk W (.laysFinal "java/lang/String" "java/lang/String" "value" "[B"))⟩) (Or.inr ⟨_, (wk W (.laysFinal "java/lang/String" "java/lang/String" "coder" "B"))⟩) f1 f2 (t₁ := .array .byte) (t₂ := .byte) (by decide +kernel) (by decide +kernel) (by decide)
  have al := X8.warmed.alike.symm.trans X15.warmed.alike
  have n7 : T11.heap[s.heap.size]? = some N := by rw [q11]; exact n1.1
  exact ⟨T15, none, _, _, _, X15, by simp, rfl, by omega, (fun _ => rfl), ⟨rfl, _, N, bl15, ((Same.refl D _).set _ (by simp)).set _ (by simp), sl15, (Cell.slots_setSlot_ne _ ap).trans sl13, n1.keep al (p15.other hne (p13.other hne n7)), n2, by rw [al.findClass]; exact n3, n4, n5, fun y c h1 h2 => p15.other h1 (p13.other h1 (by rw [q11]; exact n6 y c h2)), by rw [p15.2.2, p13.2.2, q11]; exact z8⟩, fun fs hl => c16.trans (X15.returnOut hexec hret (hb hbytes d57) hl)⟩
end New4
namespace New1
def yN : MethodName := ⟨"java/lang/String", "<init>", "([C)V"⟩
abbrev yB : ByteArray := jdk_42_method_3_code
theorem d0 : decode yB 0 = .ok (.aload_n 0, 1) := by decide +kernel
theorem d1 : decode yB 1 = .ok (.aload_n 1, 1) := by decide +kernel
theorem d2 : decode yB 2 = .ok (.iconst 0, 1) := by decide +kernel
theorem d3 : decode yB 3 = .ok (.aload_n 1, 1) := by decide +kernel
theorem d4 : decode yB 4 = .ok (.arraylength, 1) := by decide +kernel
theorem d5 : decode yB 5 = .ok (.aconst_null, 1) := by decide +kernel
theorem d6 : decode yB 6 = .ok (.invokespecial 27, 3) := by decide +kernel
theorem d9 : decode yB 9 = .ok (.return_, 1) := by decide +kernel
def site : List Cond := [New4.tab] ++ initW "java/lang/String" 27 New4.yN
def tab : Cond := tabOf yN yB 2 none site
def P (a : Addr) (D : Cell) (fV fC : Field) (b : Addr) (A : Cell) (z : Int32) (args : Array Value) (s : State) : Prop := args = #[.ref a, .ref b] ∧ Blank "java/lang/String" a D s ∧ Found "java/lang/String" "value" "[B" fV s ∧ Found "java/lang/String" "coder" "B" fC s ∧ Ch b A s ∧ StaticIs s "java/lang/String" "COMPACT_STRINGS" "Z" (.int z) ∧ ¬ z = 0 ∧ 0 < A.slots.size ∧ A.slots.size ≤ 536870912 ∧ ∀ i, i < A.slots.size → ¬ 255 < cv A i
def E (a : Addr) (D : Cell) (fV fC : Field) (A : Cell) (r : Option Value) (s u : State) : Prop := Got a D fV fC A 0 A.slots.size r s u
/-- new String(chars), not empty, no char above 255: a Latin-1 String of their low bytes -/
theorem law (l : Launch) (a : Addr) (D : Cell) (fV fC : Field) (b : Addr) (A : Cell) (z : Int32) : Law l yN 2 1 3 52 yB 2 none site (P a D fV fC b A z) (E a D fV fC A) [⟨a, fC.slot⟩, ⟨a, fV.slot⟩] 1 A.slots.size := by
  refine Law.of_walk (plainFor_of_name (by decide +kernel)) (by decide +kernel) (by decide +kernel) (by decide) (fun _ _ h => by rw [h.1]; rfl) (fun _ U U' hal hh h => ⟨h.1, h.2.1.mv hal hh, h.2.2.1.al hal, h.2.2.2.1.al hal, h.2.2.2.2.1.mv hal hh, h.2.2.2.2.2.1.there hal hh, h.2.2.2.2.2.2⟩) (fun r U U' V V' h1 hal h2 h => Got.mv r U U' V V' h1 hal h2 h) ?_
  intro p e s m args below meth c s₁ X0 hexec hbytes hml hret hlk hnm hown hh0 W hP
  obtain ⟨rfl, hB, f1, f2, hA, s1, hz, l0, l2, hp⟩ := hP
  have c1 : Steps p.tables e below (s₁.setTop (entryFrame m #[.ref a, .ref b] 2)) (s₁.setTop (mkF m 0 #[.val (.ref a), .val (.ref b)] [])) := entry rfl
  have c2 : Steps p.tables e below (s₁.setTop (entryFrame m #[.ref a, .ref b] 2)) (s₁.setTop (mkF m 6 #[.val (.ref a), .val (.ref b)] [.null, .int (Int32.ofNat A.slots.size), .int 0, .ref b, .ref a])) := c1.trans (by
    refine XS.aloadN X0.here hexec rfl (hb hbytes d0) rfl rfl ?_
    refine XS.aloadN X0.here hexec rfl (hb hbytes d1) rfl rfl ?_
    refine iconstV X0.here hexec rfl 0 (hb hbytes d2) (by decide) ?_
    refine XS.aloadN X0.here hexec rfl (hb hbytes d3) rfl rfl ?_
    refine X0.alen hexec (hA.1.mv X0.warmed.alike hh0) rfl rfl (hb hbytes d4) ?_
    refine XS.aconstNull X0.here hexec rfl (hb hbytes d5) ?_
    exact Steps.refl _)
  obtain ⟨v3, T3, X3, E3, g3⟩ := X0.callN hexec (New4.law l a D fV fC b A z 0 A.slots.size) rfl hown (wks W (initW "java/lang/String" 27 New4.yN)) (W New4.tab (by simp only [site, List.mem_cons, List.mem_append, true_or, or_true])) (W := 0) (Nat.le_of_ble_eq_true rfl) (Nat.le_of_ble_eq_true rfl) (Nat.le_refl _) (by show 0 + A.slots.size ≤ A.slots.size; omega) (g := (mkF m 6 #[.val (.ref a), .val (.ref b)] [.null, .int (Int32.ofNat A.slots.size), .int (Int32.ofNat 0), .ref b, .ref a])) rfl (by rw [hml]; rfl) c2 (argsL := [.ref b, .int (Int32.ofNat 0), .int (Int32.ofNat A.slots.size), .null]) (rest := []) rfl rfl (by show 2 * 0 + 0 ≤ _; decide) (hb hbytes d6) (⟨rfl, hB.mv X0.warmed.alike hh0, f1.al X0.warmed.alike, f2.al X0.warmed.alike, hA.mv X0.warmed.alike hh0, s1.there X0.warmed.alike hh0, hz, l0, by omega, l2, fun i hi => by rw [Nat.zero_add]; exact hp i hi⟩)
  have e0 := Got.mv _ s₁ s _ _ hh0.symm (Vm.Alike.refl _) rfl E3
  obtain rfl := e0.1
  have c4 : Steps p.tables e below (s₁.setTop (entryFrame m #[.ref a, .ref b] 2)) (T3.setTop (mkF m 9 #[.val (.ref a), .val (.ref b)] [])) := g3
  exact ⟨T3, none, _, _, _, X3, by simp, rfl, by omega, (fun _ => rfl), e0, fun fs hl => c4.trans (X3.returnOut hexec hret (hb hbytes d9) hl)⟩
theorem pays {l : Launch} {R : Room} {p : Program} {e : Env} {below : List Frame} {s : State} {sargs : Array Value} {len W : Nat} (a : Addr) (D : Cell) (fV fC : Field) (b : Addr) (A : Cell) (z : Int32) (htab : tab.before sargs s = true) (hfr : 4 ≤ R.frames) (hlo : W + 65 ≤ R.locals) :
    Back l R p e below s sargs yN len W (fun A₁ a₁ => A₁.cells + 1 ≤ R.cells ∧ A₁.slots + A.slots.size ≤ R.slots ∧ P a D fV fC b A z a₁ A₁.U) (fun A₁ _ v₁ B₁ => E a D fV fC A v₁ A₁.U B₁.U ∧ B₁.locs = A₁.locs ++ [⟨a, fC.slot⟩, ⟨a, fV.slot⟩] ∧ B₁.cells = A₁.cells + 1 ∧ B₁.slots = A₁.slots + A.slots.size) :=
  (law l a D fV fC b A z).pays htab hfr (by omega)
end New1
/-- the byte, read back as charAt reads it, is the char -/
theorem lo8_mask {x : Int32} (h0 : ¬ x < 0) (h1 : ¬ 255 < x) : lo8 x &&& 255 = x := by
  have t : ∀ k : Fin 256, lo8 (Int32.ofNat k.val) &&& 255 = Int32.ofNat k.val := by decide +kernel
  rw [Int32.lt_iff_toInt_lt] at h0 h1
  have e0 : (0 : Int32).toInt = 0 := rfl
  have e1 : (255 : Int32).toInt = 255 := rfl
  obtain ⟨k, hk⟩ : ∃ k : Nat, x.toInt = k := ⟨x.toInt.toNat, by omega⟩
  have hx : x = Int32.ofNat k := Int32.toInt_inj.mp (by rw [hk, Int32.toInt_ofNat_small (by omega)])
  rw [hx]
  exact t ⟨k, by omega⟩
end StrChars
namespace StrChars.Road
open Jvm Sem ClassFile Op Lib Jvm.Stand Jvm.Free Jvm.Free.XT
open Jvm.Lib.Cold (StaticIs)
abbrev ST : String := "java/lang/String"
/-- every table word that New1's law asks, flat -/
abbrev words : List Jvm.Cond := [.code New1.yN New1.yB 2 none, .initialized ST, .methodLink ST 27 New4.yN, .instanceMethod New4.yN,
  .code New4.yN New4.yB 6 none, .fieldLink ST 38 ST "COMPACT_STRINGS" "Z", .laysFinal ST ST "value" "[B", .fieldLink ST 9 ST "value" "[B", .laysFinal ST ST "coder" "B", .fieldLink ST 15 ST "coder" "B",
  .methodLink ST 1 Lib.objectInit, .instanceMethod Lib.objectInit, .code Lib.objectInit ⟨#[0xb1]⟩ 1 none, .methodLink ST 177 Cmp3.yN, .static Cmp3.yN, .methodLink ST 47 CodL.yN, .static CodL.yN,
  .code Cmp3.yN Cmp3.yB 6 (some (.array .byte)), .initialized U16, .arrayClass .byte, .methodLink U16 115 Cmp5.yN, .static Cmp5.yN, .code Cmp5.yN Cmp5.yB 7 (some .int), .code CodL.yN CodL.yB 2 (some .byte)]
theorem tab_of {a : Array Value} {s : State} (h : ∀ w ∈ words, w.before a s = true) : New1.tab.before a s = true := by
  have h5 : Cmp5.tab.before a s = true := unparts (wk h (.code Cmp5.yN Cmp5.yB 7 (some .int))) (wks h (.initialized Cmp5.yN.cls :: Cmp5.site))
  have hc : CodL.tab.before a s = true := unparts (wk h (.code CodL.yN CodL.yB 2 (some .byte))) (wks h (.initialized CodL.yN.cls :: CodL.site))
  have q5 : ∀ w ∈ Cmp5.tab :: words, w.before a s = true := fun w hw => (List.mem_cons.mp hw).elim (fun e => e ▸ h5) (h w)
  have h3 : Cmp3.tab.before a s = true := unparts (wk q5 (.code Cmp3.yN Cmp3.yB 6 (some (.array .byte)))) (wks q5 (.initialized Cmp3.yN.cls :: Cmp3.site))
  have q3 : ∀ w ∈ Cmp3.tab :: CodL.tab :: words, w.before a s = true := fun w hw => (List.mem_cons.mp hw).elim (fun e => e ▸ h3) fun hw => (List.mem_cons.mp hw).elim (fun e => e ▸ hc) (h w)
  have h4 : New4.tab.before a s = true := unparts (wk q3 (.code New4.yN New4.yB 6 none)) (wks q3 (.initialized New4.yN.cls :: New4.site))
  have q4 : ∀ w ∈ New4.tab :: words, w.before a s = true := fun w hw => (List.mem_cons.mp hw).elim (fun e => e ▸ h4) (h w)
  exact unparts (wk q4 (.code New1.yN New1.yB 2 none)) (wks q4 (.initialized New1.yN.cls :: New1.site))
/-- the words ride from the start Z to the walk's own state -/
theorem moved {Z s : State} {a0 args : Array Value} (hZ : Z.Warmed39 s.vm) (hw : ∀ d ∈ words, d.before a0 Z = true) : ∀ d ∈ words, d.before args s = true := fun d hd => by
  have q := hw d hd
  have t : ∀ d ∈ words, d = .arrayClass .byte ∨ (d.onTables && d.keepsFace) = true := by decide +kernel
  rcases t d hd with rfl | t
  · exact RoadKit.mvA hZ q
  · exact RoadKit.mv hZ q t
/-- WHAT COMES BACK, over the tables of the start Z: h the heap at the call, h' behind it -/
def Q (Z : State) (x : Addr) (A : Cell) (h : Heap) (v : Option Value) (h' : Heap) (L : List Loc) : Prop := v = none ∧ (∀ y ∈ L, y.base = x) ∧ RoadKit.Keep h h' [x] ∧ h'.size = h.size + 1 ∧ RoadKit.Exa Z h' x ST ∧ RoadKit.Fld Z h' x ST "value" "[B" (.ref h.size) ∧ RoadKit.Fld Z h' x ST "coder" "B" (.int 0) ∧
  (∃ V : Cell, RoadKit.Arr Z h' h.size V .byte ∧ V.vm = .none ∧ Z.vm.findClass "[B" = some V.cls ∧ V.slots.size = A.slots.size ∧ ∀ j, j < A.slots.size → V.slots[j]? = some (.int (lo8 (cv A j)))) ∧
  ∀ (O n d : String) (w : Value), RoadKit.Fld Z h x O n d w → RoadKit.slotOf Z O n d ≠ RoadKit.slotOf Z ST "value" "[B" → RoadKit.slotOf Z O n d ≠ RoadKit.slotOf Z ST "coder" "B" → RoadKit.Fld Z h' x O n d w
/-- **new String(chars) AT A CALL, IN THE ROAD'S FORM**: for specialBack behind newO: x the fresh String, b the char[] with the cell A -/
theorem back {p : Program} {l : Launch} {e : Env} {R : Room} {s : State} {args : Array Value} {below : List Frame} {len W : Nat} {Z : State} {a0 : Array Value} {h : Heap} (hZ : Z.Warmed39 s.vm) (hw : ∀ d ∈ words, d.before a0 Z = true) {kI : Nat} (wi : (Jvm.Cond.instantiable ST kI).before a0 Z = true)
    {x b : Addr} {A : Cell} {z : Int32} {v0 c0 : Value} (E : RoadKit.Exa Z h x ST) (V : RoadKit.Fld Z h x ST "value" "[B" v0) (C : RoadKit.Fld Z h x ST "coder" "B" c0) (K : RoadKit.Arr Z h b A .char) (hty : Typed .char A) (S : RoadKit.Sta Z h ST "COMPACT_STRINGS" "Z" (.int z)) (hz : ¬ z = 0)
    (l0 : 0 < A.slots.size) (l2 : A.slots.size ≤ 536870912) (hp : ∀ i, i < A.slots.size → ¬ 255 < cv A i) (hfr : 4 ≤ R.frames) (hlo : W + 65 ≤ R.locals) :
    Back l R p e below s args New1.yN len W (fun P a => a = #[.ref x, .ref b] ∧ P.U.heap = h ∧ P.cells + 1 ≤ R.cells ∧ P.slots + A.slots.size ≤ R.slots)
      (fun P _ v B => ∃ L, Q Z x A h v B.U.heap L ∧ B.locs = P.locs ++ L ∧ B.cells = P.cells + 1 ∧ B.slots = P.slots + A.slots.size) := by
  intro m meth c P g ig mk a X hg hsize hdg hW hn hp'
  obtain ⟨rfl, rfl, r1, r2⟩ := hp'
  have al : Z.vm.Alike P.U.vm := hZ.alike.trans X.warmed.alike
  obtain ⟨D, cfV, kV, iV, fV, hD, gV, stV, knV, obV, asV, slV⟩ := id V
  obtain ⟨D', cfC, kC, iC, fC, hD', gC, stC, -, -, asC, slC⟩ := id C
  cases hD.symm.trans hD'
  obtain ⟨D2, kD, e1, e2, e3, e4, e5⟩ := id E
  cases hD.symm.trans e1
  obtain ⟨c2, k2, i1, i2, i3, -⟩ := Cond.instantiable_spec wi
  cases e2.symm.trans i1
  cases e3.symm.trans i2
  obtain ⟨kU, u1, u2⟩ := al.2.2 _ _ e3
  have hB : Blank ST x D P.U := ⟨hD, ⟨knV, fun q hq => by rw [hq] at obV; cases obV⟩, by rw [al.findClass]; exact e2, kU, u1, by rw [u2]; exact i3, by rw [u2]; exact e5 i3⟩
  have F1 : Found ST "value" "[B" fV P.U := ⟨SBG.found_only al ⟨cfV, kV, iV, gV⟩, stV⟩
  have F2 : Found ST "coder" "B" fC P.U := ⟨SBG.found_only al ⟨cfC, kC, iC, gC⟩, stC⟩
  have hA : Ch b A P.U := ⟨⟨K.1, State.isArrayOf_alike al K.2.1, K.2.2, by omega⟩, hty⟩
  have hS : StaticIs P.U ST "COMPACT_STRINGS" "Z" (.int z) := by
    obtain ⟨cfS, iS, kS, fS, st, cS, t1, t2, t3, t4, t5, t6, t7⟩ := S
    exact StaticIs.there (s := { Z with heap := P.U.heap }) ⟨cfS, iS, kS, fS, st, cS, t1, t2, t3, t4, t5, (fun q => by rw [q] at t6; cases t6), t7⟩ al rfl
  obtain ⟨v, B, X', ⟨⟨hv, E', V', q1, q2, q3, q4, q5, q6, q7, q8, q9, q10, q11⟩, hl, hc, hs⟩, st⟩ := New1.pays x D fV fC b A z (tab_of (moved hZ hw)) hfr hlo m meth c P g ig mk _ X hg hsize hdg hW hn ⟨r1, r2, rfl, hB, F1, F2, hA, hS, hz, l0, l2, hp⟩
  have al' : Z.vm.Alike B.U.vm := hZ.alike.trans X'.warmed.alike
  have hsz : E'.slots.size = D.slots.size := by
    obtain ⟨-, -, -, kB, w1, w2, w3⟩ := q1
    obtain ⟨kB', y1, y2⟩ := al'.2.2 _ _ e3
    rw [q2.2.1] at w1
    cases w1.symm.trans y1
    rw [w3, e5 i3, y2]
  refine ⟨v, B, X', ⟨_, ⟨hv, ?_, ⟨by omega, fun y cy hy hn' => q10 y cy (by simpa using hn') hy, fun y cy hy => ?_⟩, q11, ⟨E', _, q1.1, by rw [q2.2.1]; exact e2, by rw [q2.2.1]; exact e3, by rw [q2.1]; exact obV, fun _ => by rw [hsz]; exact e5 i3⟩,
    ⟨E', cfV, kV, iV, fV, q1.1, gV, stV, by rw [q2.1]; exact knV, by rw [q2.1]; exact obV, by rw [q2.2.1]; exact asV, q3⟩, ⟨E', cfC, kC, iC, fC, q1.1, gC, stC, by rw [q2.1]; exact knV, by rw [q2.1]; exact obV, by rw [q2.2.1]; exact asC, q4⟩,
    ⟨V', ⟨q5.1, State.isArrayOf_alike al'.symm q5.2.1, q5.2.2.1⟩, q6, by rw [← al'.findClass]; exact q7, q8, fun j hj => by have := q9 j hj; rwa [Nat.zero_add] at this⟩, fun O n d w F n1 n2 => ?_⟩, hl, hc, hs⟩, st⟩
  · intro y hy
    simp only [List.mem_cons, List.not_mem_nil, or_false] at hy
    rcases hy with rfl | rfl <;> rfl
  · by_cases q : y = x
    · subst q
      cases hD.symm.trans hy
      exact ⟨E', q1.1, q2.2.1, q2.1, hsz⟩
    · exact ⟨cy, q10 y cy q hy, rfl, rfl, rfl⟩
  · obtain ⟨D3, cf, k, i, f, g1, g2, g3, g4, g5, g6, g7⟩ := F
    cases hD.symm.trans g1
    simp only [RoadKit.slotOf, g2, gV, gC, Option.map_some, Option.getD_some] at n1 n2
    exact ⟨E', cf, k, i, f, q1.1, g2, g3, by rw [q2.1]; exact g4, by rw [q2.1]; exact g5, by rw [q2.2.1]; exact g6, by rw [q2.2.2 f.slot (by simp [n1, n2])]; exact g7⟩
end StrChars.Road
namespace StrChars.Road
open Jvm Sem ClassFile Op Lib Jvm.Stand Jvm.Free Jvm.Free.XT
/-- WHAT COMES BACK, the byte[] as a list of values -/
def QA (Z : State) (x : Addr) (zn : Int32) (cs : List Int32) (h : Heap) (v : Option Value) (h' : Heap) (L : List Loc) : Prop := v = none ∧ (∀ y ∈ L, y.base = x) ∧ RoadKit.Keep h h' [x] ∧ h'.size = h.size + 1 ∧ RoadKit.Exa Z h' x ST ∧ RoadKit.Fld Z h' x ST "value" "[B" (.ref h.size) ∧ RoadKit.Fld Z h' x ST "coder" "B" (.int 0) ∧
  (∃ kb, Z.vm.findClass "[B" = some kb ∧ RoadKit.Arv Z h' h.size kb .byte zn (cs.map fun c => .int (lo8 c)) (.int 0)) ∧
  ∀ (O n d : String) (w : Value), RoadKit.Fld Z h x O n d w → RoadKit.slotOf Z O n d ≠ RoadKit.slotOf Z ST "value" "[B" → RoadKit.slotOf Z O n d ≠ RoadKit.slotOf Z ST "coder" "B" → RoadKit.Fld Z h' x O n d w
/-- **new String(chars) AT A CALL, THE ARRAYS AS LISTS**: the char[] at b holds cs, not empty, no char above 255 -/
theorem backArv {p : Program} {l : Launch} {e : Env} {R : Room} {s : State} {args : Array Value} {below : List Frame} {len W : Nat} {Z : State} {a0 : Array Value} {h : Heap} (hZ : Z.Warmed39 s.vm) (hw : ∀ d ∈ words, d.before a0 Z = true) {kI : Nat} (wi : (Jvm.Cond.instantiable ST kI).before a0 Z = true)
    {x b : Addr} {k : ClassId} {zn z : Int32} {cs : List Int32} {dv v0 c0 : Value} (E : RoadKit.Exa Z h x ST) (V : RoadKit.Fld Z h x ST "value" "[B" v0) (C : RoadKit.Fld Z h x ST "coder" "B" c0) (K : RoadKit.Arv Z h b k .char zn (cs.map Value.int) dv) (S : RoadKit.Sta Z h ST "COMPACT_STRINGS" "Z" (.int z)) (hz : ¬ z = 0)
    (hlen : zn.toNatClampNeg = cs.length) (h0 : 0 < cs.length) (hbig : cs.length ≤ 536870912) (hall : ∀ c ∈ cs, ¬ 255 < c) (hfr : 4 ≤ R.frames) (hlo : W + 65 ≤ R.locals) :
    Back l R p e below s args New1.yN len W (fun P a => a = #[.ref x, .ref b] ∧ P.U.heap = h ∧ P.cells + 1 ≤ R.cells ∧ P.slots + cs.length ≤ R.slots)
      (fun P _ v B => ∃ L, QA Z x zn cs h v B.U.heap L ∧ B.locs = P.locs ++ L ∧ B.cells = P.cells + 1 ∧ B.slots = P.slots + cs.length) := by
  obtain ⟨A, K1, K2, K3, K4, K5, K6⟩ := K
  have e : A.slots.size = cs.length := K3.trans hlen
  have hat : ∀ (i : Nat) (hi : i < cs.length), A.slots[i]? = some (.int cs[i]) := fun i hi => by rw [K5 i (by omega)]; simp [List.getD_eq_getElem?_getD, hi]
  have hcv : ∀ (i : Nat) (hi : i < cs.length), cv A i = cs[i] := fun i hi => by unfold cv; rw [hat i hi]
  have hty : Typed .char A := fun i v hv => by
    have hi : i < A.slots.size := (Array.getElem?_eq_some_iff.mp hv).1
    have q := K5 i hi
    rw [hv] at q
    rw [Option.some.inj q]
    exact K6 i hi
  refine Back.mono (back hZ hw wi E V C K1 hty S hz (by omega) (by omega) (fun i hi => by rw [hcv i (by omega)]; exact hall _ (List.getElem_mem _)) hfr hlo) (fun P a hp => ⟨hp.1, hp.2.1, hp.2.2.1, by rw [e]; exact hp.2.2.2⟩) (fun P a v B hp hq => ?_)
  obtain ⟨L, ⟨q1, q2, q3, q4, q5, q6, q7, ⟨V', v1, v2, v3, v4, v5⟩, q9⟩, hl, hc, hs⟩ := hq
  refine ⟨L, ⟨q1, q2, q3, q4, q5, q6, q7, ⟨V'.cls, v3, V', v1, rfl, by rw [v4, e, hlen], K4, fun i hi => ?_, fun i hi => ?_⟩, q9⟩, hl, hc, by rw [hs, e]⟩
  · have hi' : i < cs.length := by omega
    rw [v5 i (by omega), hcv i hi']; simp [List.getD_eq_getElem?_getD, hi']
  · have hi' : i < cs.length := by omega
    simp only [List.getD_eq_getElem?_getD, List.getElem?_map, List.getElem?_eq_getElem hi', Option.map_some, Option.getD_some]
    exact fits_lo8 _
end StrChars.Road
namespace StrChars.Road
open Jvm Sem ClassFile Op Lib Jvm.Stand Jvm.Free Jvm.Free.XT
/-- WHAT COMES BACK, in the writer's own shape -/
def QV (Z : State) (x : Addr) (N : Int32) (bs : List Int32) (h : Heap) (n0 : Nat) (v : Option Value) (h' : Heap) (L : List Loc) : Prop := v = none ∧ RoadKit.Fr n0 L ∧ RoadKit.Keep h h' [x] ∧ RoadKit.Exa Z h' x ST ∧ RoadKit.Fld Z h' x ST "coder" "B" (.int 0) ∧
  ∃ (t : Addr) (kb : ClassId), n0 ≤ t ∧ h.size ≤ t ∧ ¬ t = x ∧ RoadKit.Fld Z h' x ST "value" "[B" (.ref t) ∧ RoadKit.Arv Z h' t kb .byte N (bs.map Value.int) (.int 0)
/-- **new String(chars) AT A CALL, FOR THE WRITER**: a char[] of n known ints, each 0 to 255 -/
theorem backV {p : Program} {l : Launch} {e : Env} {R : Room} {s : State} {args : Array Value} {below : List Frame} {len W : Nat} {Z : State} {a0 : Array Value} {h : Heap} (hZ : Z.Warmed39 s.vm) (hw : ∀ d ∈ words, d.before a0 Z = true) {kI : Nat} (wi : (Jvm.Cond.instantiable ST kI).before a0 Z = true)
    {x b : Addr} {kC : ClassId} {cs bs : List Int32} {d v0 c0 : Value} {z N : Int32} {n n0 : Nat} (hx0 : n0 ≤ x) (hh0 : n0 ≤ h.size) (E : RoadKit.Exa Z h x ST) (V : RoadKit.Fld Z h x ST "value" "[B" v0) (C : RoadKit.Fld Z h x ST "coder" "B" c0) (K : RoadKit.Arv Z h b kC .char N (cs.map Value.int) d) (S : RoadKit.Sta Z h ST "COMPACT_STRINGS" "Z" (.int z)) (hz : ¬ z = 0)
    (hn : cs.length = n) (hN : N = Int32.ofNat n) (l0 : 0 < n) (l2 : n ≤ 4000) (hp : ∀ c ∈ cs, ¬ c < 0 ∧ ¬ (255 : Int32) < c) (hb : bs = cs.map (fun c => c.toInt8.toInt32)) (hfr : 4 ≤ R.frames) (hlo : W + 65 ≤ R.locals) :
    Back l R p e below s args (⟨"java/lang/String", "<init>", "([C)V"⟩ : MethodName) len W (fun P a => a = #[.ref x, .ref b] ∧ P.U.heap = h ∧ P.cells + 1 ≤ R.cells ∧ P.slots + n ≤ R.slots)
      (fun P _ v B => ∃ L, QV Z x N bs h n0 v B.U.heap L ∧ B.locs = P.locs ++ L ∧ B.cells = P.cells + 1 ∧ B.slots = P.slots + n) := by
  subst hn hN hb
  refine Back.mono (backArv hZ hw wi E V C K S hz (n32 (by omega)) l0 (by omega) (fun c hc => (hp c hc).2) hfr hlo) (fun P a hp => hp) (fun P a v B hp hq => ?_)
  obtain ⟨L, ⟨q1, q2, q3, q4, q5, q6, q7, ⟨kb, v1, v2⟩, q9⟩, hl, hc, hs⟩ := hq
  exact ⟨L, ⟨q1, fun y hy => by rw [q2 y hy]; exact hx0, q3, q5, q7, h.size, kb, hh0, Nat.le_refl _, Nat.ne_of_gt E.lt, q6, by rw [List.map_map]; exact v2⟩, hl, hc, hs⟩
end StrChars.Road
namespace StrChars
open Jvm Sem ClassFile Op Lib Jvm.Stand Jvm.Free.XT Jvm.Free.ALB Jvm.Free.JM Jvm.Free
open Jvm.Lib.Cold (StaticIs)
def hi8 (x : Int32) : Int32 := lo8 (x >>> ((8 : Int32) &&& 31))
/-- what StringUTF16.getChar makes of two bytes -/
def pairCh (u v : Int32) : Int32 := (((u &&& 255) <<< ((0 : Int32) &&& 31)) ||| ((v &&& 255) <<< ((8 : Int32) &&& 31))).toUInt32.toUInt16.toUInt32.toInt32
theorem lo8_and (x : Int32) : (lo8 x &&& 255).toBitVec.toNat = x.toBitVec.toNat % 256 := by
  have h : (lo8 x).toBitVec = (x.toBitVec.signExtend 8).signExtend 32 := by rw [lo8, Int8.toBitVec_toInt32, Int32.toBitVec_toInt8]
  rw [Int32.toBitVec_and, BitVec.toNat_and, h]
  have e : ((x.toBitVec.signExtend 8).signExtend 32).toNat % 256 = x.toBitVec.toNat % 256 := by
    rw [BitVec.toNat_signExtend]
    have hlt := x.toBitVec.isLt
    simp only [BitVec.toNat_setWidth, BitVec.toNat_signExtend]
    split <;> split <;> omega
  rw [← e]
  exact Nat.and_two_pow_sub_one_eq_mod _ 8
theorem pair_says {c : Int32} (h0 : ¬ c < 0) (h1 : ¬ 65535 < c) : pairCh (lo8 c) (hi8 c) = c := by
  rw [Int32.lt_iff_toInt_lt] at h0 h1
  have e0 : (0 : Int32).toInt = 0 := rfl
  have e1 : (65535 : Int32).toInt = 65535 := rfl
  have hc : c.toInt = c.toBitVec.toNat := by
    have := c.toBitVec.isLt
    have e : c.toInt = c.toBitVec.toInt := rfl
    rw [e] at h0 h1
    rw [e]
    rw [BitVec.toInt_eq_toNat_cond] at h0 h1 ⊢
    split at h0 <;> split <;> omega
  have hn : c.toBitVec.toNat < 65536 := by omega
  have a1 := lo8_and c
  have a2 : (hi8 c &&& 255).toBitVec.toNat = c.toBitVec.toNat / 256 := by
    rw [hi8, lo8_and]
    have e : ((8 : Int32) &&& 31) = 8 := by decide
    rw [e, Int32.toBitVec_shiftRight]
    have e2 : ((8 : Int32).toBitVec.smod 32) = 8#32 := by decide
    rw [e2, BitVec.sshiftRight_eq', BitVec.toNat_sshiftRight_of_msb_false (by rw [BitVec.msb_eq_false_iff_two_mul_lt]; omega)]
    show c.toBitVec.toNat >>> 8 % 256 = _
    rw [Nat.shiftRight_eq_div_pow]
    omega
  unfold pairCh
  apply Int32.toBitVec_inj.mp
  apply BitVec.eq_of_toNat_eq
  have f0 : ((0 : Int32) &&& 31) = 0 := by decide
  have f8 : ((8 : Int32) &&& 31) = 8 := by decide
  rw [f0, f8]
  have g : (((lo8 c &&& 255) <<< (0 : Int32)) ||| ((hi8 c &&& 255) <<< (8 : Int32))).toBitVec.toNat = c.toBitVec.toNat := by
    rw [Int32.toBitVec_or, Int32.toBitVec_shiftLeft, Int32.toBitVec_shiftLeft]
    have s0 : ((0 : Int32).toBitVec.smod 32) = 0#32 := by decide
    have s8 : ((8 : Int32).toBitVec.smod 32) = 8#32 := by decide
    rw [s0, s8, BitVec.toNat_or]
    simp only [BitVec.shiftLeft_eq', BitVec.toNat_shiftLeft, a1, a2]
    show (c.toBitVec.toNat % 256) <<< 0 % 2 ^ 32 ||| (c.toBitVec.toNat / 256) <<< 8 % 2 ^ 32 = _
    rw [Nat.shiftLeft_zero, Nat.mod_eq_of_lt (show c.toBitVec.toNat % 256 < 2 ^ 32 by omega), Nat.mod_eq_of_lt (show (c.toBitVec.toNat / 256) <<< 8 < 2 ^ 32 by rw [Nat.shiftLeft_eq]; omega), Nat.or_comm, ← Nat.shiftLeft_add_eq_or_of_lt (by omega), Nat.shiftLeft_eq]
    omega
  show BitVec.toNat (((((lo8 c &&& 255) <<< (0 : Int32)) ||| ((hi8 c &&& 255) <<< (8 : Int32))).toBitVec.setWidth 16).setWidth 32) = _
  rw [BitVec.toNat_setWidth, BitVec.toNat_setWidth, g]
  omega
end StrChars
namespace StrChars
open Jvm Sem ClassFile Op Lib Jvm.Stand Jvm.Free.XT Jvm.Free.ALB Jvm.Free.JM Jvm.Free
open Jvm.Lib.Cold (StaticIs)
/-- the array's cell V codes the n chars f 0 .. f (n - 1) by the coder cd, as the JDK does: coder 1 just where some char is above 255 -/
def Cod (cd : Int32) (n : Nat) (f : Nat → Int32) (V : Cell) : Prop := (cd = 0 ∧ V.slots.size = n ∧ ∀ j, j < n → V.slots[j]? = some (.int (lo8 (f j))) ∧ ¬ 255 < f j) ∨ (cd = 1 ∧ V.slots.size = 2 * n ∧ (∀ j, j < n → V.slots[2 * j]? = some (.int (lo8 (f j))) ∧ V.slots[2 * j + 1]? = some (.int (hi8 (f j)))) ∧ ∃ j, j < n ∧ 255 < f j)
/-- **x is a String of the n chars f 0 .. f (n - 1)**, Latin-1 or UTF-16; its array at t has the cell V -/
def Txt (x t : Addr) (V : Cell) (cd : Int32) (n : Nat) (f : Nat → Int32) (U : State) : Prop := Exact "java/lang/String" x U ∧ Has x "java/lang/String" "value" "[B" (.ref t) U ∧ Has x "java/lang/String" "coder" "B" (.int cd) U ∧ XT.Arr .byte t V U ∧ Cod cd n f V ∧ ∀ j, j < n → ¬ f j < 0 ∧ ¬ 65535 < f j
theorem Txt.mv {x t : Addr} {V : Cell} {cd : Int32} {n : Nat} {f : Nat → Int32} {U U' : State} (h : Txt x t V cd n f U) (hal : U.vm.Alike U'.vm) (hh : U'.heap = U.heap) : Txt x t V cd n f U' := ⟨h.1.mv hal hh, h.2.1.mv hal hh, h.2.2.1.mv hal hh, h.2.2.2.1.mv hal hh, h.2.2.2.2⟩
end StrChars
namespace StrChars.Road
open Jvm Sem ClassFile Op Lib Jvm.Stand Jvm.Free Jvm.Free.XT
open Jvm.Lib.Cold (StaticIs)
theorem consq {a : Array Value} {s : State} {c : Jvm.Cond} {L : List Jvm.Cond} (h0 : c.before a s = true) (h : ∀ w ∈ L, w.before a s = true) : ∀ w ∈ c :: L, w.before a s = true := fun w hw => (List.mem_cons.mp hw).elim (fun e => e ▸ h0) (h w)
/-- the bytes of the chars cs, low before high -/
def wideBytes : List Int32 → List Value
  | [] => []
  | c :: cs => .int (lo8 c) :: .int (hi8 c) :: wideBytes cs
theorem wide_lo (d : Value) : ∀ (cs : List Int32) (j : Nat), j < cs.length → (wideBytes cs).getD (2 * j) d = .int (lo8 (cs.getD j 0))
  | [], j, h => absurd h (Nat.not_lt_zero j)
  | c :: cs, 0, _ => rfl
  | c :: cs, j + 1, h => by
    have q := wide_lo d cs j (by simpa using h)
    rw [show 2 * (j + 1) = 2 * j + 1 + 1 from by omega]
    simpa [wideBytes] using q
theorem wide_hi (d : Value) : ∀ (cs : List Int32) (j : Nat), j < cs.length → (wideBytes cs).getD (2 * j + 1) d = .int (hi8 (cs.getD j 0))
  | [], j, h => absurd h (Nat.not_lt_zero j)
  | c :: cs, 0, _ => rfl
  | c :: cs, j + 1, h => by
    have q := wide_hi d cs j (by simpa using h)
    rw [show 2 * (j + 1) + 1 = 2 * j + 1 + 1 + 1 from by omega]
    simpa [wideBytes] using q
theorem low_at (d : Value) (cs : List Int32) (j : Nat) (h : j < cs.length) : (cs.map fun c => Value.int (lo8 c)).getD j d = .int (lo8 (cs.getD j 0)) := by
  simp [List.getD_eq_getElem?_getD, h]
/-- an array of N2 bytes vs codes the chars cs by the coder cd -/
def CodA (cs : List Int32) (cd N2 : Int32) (vs : List Value) : Prop := (cd = 0 ∧ N2 = Int32.ofNat cs.length ∧ vs = (cs.map fun c => Value.int (lo8 c)) ∧ ∀ c ∈ cs, ¬ 255 < c) ∨ (cd = 1 ∧ N2 = Int32.ofNat (2 * cs.length) ∧ vs = wideBytes cs ∧ ∃ c ∈ cs, 255 < c)
theorem CodA.cod {cs : List Int32} {cd N2 : Int32} {vs : List Value} {V : Cell} (h : CodA cs cd N2 vs) (hn : 2 * cs.length < 2 ^ 31) (hs : V.slots.size = N2.toNatClampNeg) (hv : RoadKit.Has V vs (.int 0)) : Cod cd cs.length (fun j => cs.getD j 0) V := by
  rcases h with ⟨rfl, rfl, rfl, h⟩ | ⟨rfl, rfl, rfl, c, hc, hw⟩
  · rw [n32 (by omega)] at hs
    exact Or.inl ⟨rfl, hs, fun j hj => ⟨by rw [hv j (by omega), low_at _ _ _ hj], by
      have e : cs.getD j 0 = cs[j] := by simp [List.getD_eq_getElem?_getD, hj]
      show ¬ 255 < cs.getD j 0
      rw [e]; exact h _ (List.getElem_mem _)⟩⟩
  · rw [n32 (by omega)] at hs
    obtain ⟨j, hj, rfl⟩ := List.getElem_of_mem hc
    exact Or.inr ⟨rfl, hs, fun j hj => ⟨by rw [hv _ (by omega), wide_lo _ _ _ hj], by rw [hv _ (by omega), wide_hi _ _ _ hj]⟩, j, hj, by
      have e : cs.getD j 0 = cs[j] := by simp [List.getD_eq_getElem?_getD, hj]
      show 255 < cs.getD j 0
      rw [e]; exact hw⟩
/-- an object of exactly java/lang/String, its two fields found: as the laws ask it -/
theorem strObj {Z U : State} {a0 : Array Value} {kI : Nat} (wi : (Jvm.Cond.instantiable ST kI).before a0 Z = true) (al : Z.vm.Alike U.vm) {x : Addr} {v0 c0 : Value} (E : RoadKit.Exa Z U.heap x ST) (V : RoadKit.Fld Z U.heap x ST "value" "[B" v0) (C : RoadKit.Fld Z U.heap x ST "coder" "B" c0) :
    ∃ (D : Cell) (fV fC : Field), Blank ST x D U ∧ Found ST "value" "[B" fV U ∧ Found ST "coder" "B" fC U ∧ D.slots[fV.slot]? = some v0 ∧ D.slots[fC.slot]? = some c0 ∧ RoadKit.slotOf Z ST "value" "[B" = fV.slot ∧ RoadKit.slotOf Z ST "coder" "B" = fC.slot := by
  obtain ⟨D, cfV, kV, iV, fV, hD, gV, stV, knV, obV, asV, slV⟩ := V
  obtain ⟨D', cfC, kC, iC, fC, hD', gC, stC, -, -, asC, slC⟩ := C
  cases hD.symm.trans hD'
  obtain ⟨D2, kD, e1, e2, e3, e4, e5⟩ := E
  cases hD.symm.trans e1
  obtain ⟨c2, k2, i1, i2, i3, -⟩ := Cond.instantiable_spec wi
  cases e2.symm.trans i1
  cases e3.symm.trans i2
  obtain ⟨kU, u1, u2⟩ := al.2.2 _ _ e3
  exact ⟨D, fV, fC, ⟨hD, ⟨knV, fun q hq => by rw [hq] at obV; cases obV⟩, by rw [al.findClass]; exact e2, kU, u1, by rw [u2]; exact i3, by rw [u2]; exact e5 i3⟩, ⟨SBG.found_only al ⟨cfV, kV, iV, gV⟩, stV⟩, ⟨SBG.found_only al ⟨cfC, kC, iC, gC⟩, stC⟩, slV, slC, by simp [RoadKit.slotOf, gV], by simp [RoadKit.slotOf, gC]⟩
theorem sta_is {Z U : State} (al : Z.vm.Alike U.vm) {C n d : String} {v : Value} (S : RoadKit.Sta Z U.heap C n d v) : StaticIs U C n d v := by
  obtain ⟨cfS, iS, kS, fS, st, cS, t1, t2, t3, t4, t5, t6, t7⟩ := S
  exact StaticIs.there (s := { Z with heap := U.heap }) ⟨cfS, iS, kS, fS, st, cS, t1, t2, t3, t4, t5, (fun q => by rw [q] at t6; cases t6), t7⟩ al rfl
end StrChars.Road
namespace StrChars
open Jvm Sem ClassFile Op Lib Jvm.Stand Jvm.Free.XT Jvm.Free.ALB Jvm.Free.JM Jvm.Free
open Jvm.Lib.Cold (StaticIs)
/-- what place i of a byte[]'s cell holds -/
def yv (A : Cell) (i : Nat) : Int32 := match A.slots[i]? with | some (.int x) => x | _ => 0
theorem yv_get {a : Addr} {A : Cell} {U : State} (h : XT.Arr .byte a A U) (ht : Typed .byte A) {i : Nat} (hi : i < A.slots.size) : A.slots[i]? = some (.int (yv A i)) := by
  have e := Array.getElem?_eq_getElem hi
  have f := ht i _ e
  unfold yv; rw [e]
  generalize A.slots[i] = v at f
  cases v <;> simp [fits] at f ⊢
/-- the two arrays are equal, place for place -/
def EqC (A B : Cell) : Prop := A.slots.size = B.slots.size ∧ ∀ i, i < A.slots.size → yv A i = yv B i
/-- a boolean that says whether p -/
def Says01 (q : Prop) (r : Option Value) (s u : State) : Prop := ∃ v : Int32, r = some (.int v) ∧ u.heap = s.heap ∧ ((v = 1 ∧ q) ∨ (v = 0 ∧ ¬ q))
theorem Says01.mv {q : Prop} : ∀ r (U U' V V' : State), U'.heap = U.heap → V.vm.Alike V'.vm → V'.heap = V.heap → Says01 q r U V → Says01 q r U' V' :=
  fun r U U' V V' h1 _ h2 ⟨v, a, b, c⟩ => ⟨v, a, by rw [h1, h2]; exact b, c⟩
namespace LEq
def yN : MethodName := ⟨"java/lang/StringLatin1", "equals", "([B[B)Z"⟩
abbrev yB : ByteArray := jdk_43_method_13_code
theorem d0 : decode yB 0 = .ok (.aload_n 0, 1) := by decide +kernel
theorem d1 : decode yB 1 = .ok (.arraylength, 1) := by decide +kernel
theorem d2 : decode yB 2 = .ok (.aload_n 1, 1) := by decide +kernel
theorem d3 : decode yB 3 = .ok (.arraylength, 1) := by decide +kernel
theorem d4 : decode yB 4 = .ok (.if_icmp (.ne) 30, 3) := by decide +kernel
theorem d7 : decode yB 7 = .ok (.iconst 0, 1) := by decide +kernel
theorem d8 : decode yB 8 = .ok (.istore_n 2, 1) := by decide +kernel
theorem d9 : decode yB 9 = .ok (.iload_n 2, 1) := by decide +kernel
theorem d10 : decode yB 10 = .ok (.aload_n 0, 1) := by decide +kernel
theorem d11 : decode yB 11 = .ok (.arraylength, 1) := by decide +kernel
theorem d12 : decode yB 12 = .ok (.if_icmp (.ge) 20, 3) := by decide +kernel
theorem d15 : decode yB 15 = .ok (.aload_n 0, 1) := by decide +kernel
theorem d16 : decode yB 16 = .ok (.iload_n 2, 1) := by decide +kernel
theorem d17 : decode yB 17 = .ok (.baload, 1) := by decide +kernel
theorem d18 : decode yB 18 = .ok (.aload_n 1, 1) := by decide +kernel
theorem d19 : decode yB 19 = .ok (.iload_n 2, 1) := by decide +kernel
theorem d20 : decode yB 20 = .ok (.baload, 1) := by decide +kernel
theorem d21 : decode yB 21 = .ok (.if_icmp (.eq) 5, 3) := by decide +kernel
theorem d24 : decode yB 24 = .ok (.iconst 0, 1) := by decide +kernel
theorem d25 : decode yB 25 = .ok (.ireturn, 1) := by decide +kernel
theorem d26 : decode yB 26 = .ok (.iinc 2 1, 3) := by decide +kernel
theorem d29 : decode yB 29 = .ok (.goto (-20), 3) := by decide +kernel
theorem d32 : decode yB 32 = .ok (.iconst 1, 1) := by decide +kernel
theorem d33 : decode yB 33 = .ok (.ireturn, 1) := by decide +kernel
theorem d34 : decode yB 34 = .ok (.iconst 0, 1) := by decide +kernel
theorem d35 : decode yB 35 = .ok (.ireturn, 1) := by decide +kernel
def site : List Cond := []
def tab : Cond := tabOf yN yB 3 (some .boolean) site
def P (a : Addr) (A : Cell) (b : Addr) (B : Cell) (args : Array Value) (s : State) : Prop := args = #[.ref a, .ref b] ∧ XT.Arr .byte a A s ∧ Typed .byte A ∧ XT.Arr .byte b B s ∧ Typed .byte B
/-- whether two byte[] are equal, place for place -/
theorem law (l : Launch) (a : Addr) (A : Cell) (b : Addr) (B : Cell) : Law l yN 2 2 0 0 yB 3 (some .boolean) site (P a A b B) (Says01 (EqC A B)) [] 0 0 := by
  refine Law.of_walk (plainFor_of_name (by decide +kernel)) (by decide +kernel) (by decide +kernel) (by decide) (fun _ _ h => by rw [h.1]; rfl) (fun _ U U' hal hh h => ⟨h.1, h.2.1.mv hal hh, h.2.2.1, h.2.2.2.1.mv hal hh, h.2.2.2.2⟩) (fun r U U' V V' h1 hal h2 h => Says01.mv r U U' V V' h1 hal h2 h) ?_
  intro p e s m args below meth c s₁ X0 hexec hbytes hml hret hlk hnm hown hh0 W hP
  obtain ⟨rfl, hA, tA, hB, tB⟩ := hP
  have a31 := hA.2.2.2
  have b31 := hB.2.2.2
  have hA0 := hA.mv X0.warmed.alike hh0
  have hB0 := hB.mv X0.warmed.alike hh0
  have c1 : Steps p.tables e below (s₁.setTop (entryFrame m #[.ref a, .ref b] 3)) (s₁.setTop (mkF m 0 #[.val (.ref a), .val (.ref b), .unset] [])) := entry rfl
  have c2 : Steps p.tables e below (s₁.setTop (entryFrame m #[.ref a, .ref b] 3)) (s₁.setTop (mkF m 4 #[.val (.ref a), .val (.ref b), .unset] [.int (Int32.ofNat B.slots.size), .int (Int32.ofNat A.slots.size)])) := c1.trans (by
    refine XS.aloadN X0.here hexec rfl (hb hbytes d0) rfl rfl ?_
    refine X0.alen hexec hA0 rfl rfl (hb hbytes d1) ?_
    refine XS.aloadN X0.here hexec rfl (hb hbytes d2) rfl rfl ?_
    refine X0.alen hexec hB0 rfl rfl (hb hbytes d3) ?_
    exact Steps.refl _)
  by_cases hs : A.slots.size = B.slots.size
  · have c3 : Steps p.tables e below (s₁.setTop (entryFrame m #[.ref a, .ref b] 3)) (s₁.setTop (mkF m 9 #[.val (.ref a), .val (.ref b), .val (.int 0)] [])) := c2.trans (by
      refine XS.icmpNo X0.here hexec rfl (hb hbytes d4) rfl (ii_ne_f (by rw [hs])) ?_
      refine iconstV X0.here hexec rfl 0 (hb hbytes d7) (by decide) ?_
      refine XS.istoreN X0.here hexec rfl (hb hbytes d8) rfl rfl ?_
      exact Steps.refl _)
    have loop : ∀ (r i : Nat), i + r = A.slots.size → (∀ j, j < i → yv A j = yv B j) → Steps p.tables e below (s₁.setTop (entryFrame m #[.ref a, .ref b] 3)) (s₁.setTop (mkF m 9 #[.val (.ref a), .val (.ref b), .val (.int (Int32.ofNat i))] [])) → ∃ (pc : Nat) (Ls : Array Slot) (v : Int32), (pc = 25 ∨ pc = 33) ∧ ((v = 1 ∧ EqC A B) ∨ (v = 0 ∧ ¬ EqC A B)) ∧ Steps p.tables e below (s₁.setTop (entryFrame m #[.ref a, .ref b] 3)) (s₁.setTop (mkF m pc Ls [.int v])) := by
      intro r
      induction r with
      | zero =>
        intro i hi he cl
        exact ⟨33, _, 1, Or.inr rfl, Or.inl ⟨rfl, hs, fun j hj => he j (by omega)⟩, cl.trans (by
          refine XS.iloadN X0.here hexec rfl (hb hbytes d9) rfl ?_
          refine XS.aloadN X0.here hexec rfl (hb hbytes d10) rfl rfl ?_
          refine X0.alen hexec hA0 rfl rfl (hb hbytes d11) ?_
          refine XS.icmpYes X0.here hexec rfl (pc0 := 12) rfl (hb hbytes d12) rfl (ii_ge_t (nlt32 (by omega) (by omega))) (by decide) rfl ?_
          refine iconstV X0.here hexec rfl 1 (hb hbytes d32) (by decide) ?_
          exact Steps.refl _)⟩
      | succ r ih =>
        intro i hi he cl
        have c4 : Steps p.tables e below (s₁.setTop (entryFrame m #[.ref a, .ref b] 3)) (s₁.setTop (mkF m 21 #[.val (.ref a), .val (.ref b), .val (.int (Int32.ofNat i))] [.int (yv B i), .int (yv A i)])) := cl.trans (by
          refine XS.iloadN X0.here hexec rfl (hb hbytes d9) rfl ?_
          refine XS.aloadN X0.here hexec rfl (hb hbytes d10) rfl rfl ?_
          refine X0.alen hexec hA0 rfl rfl (hb hbytes d11) ?_
          refine XS.icmpNo X0.here hexec rfl (hb hbytes d12) rfl (ii_ge_f (lt32 (by omega) (by omega))) ?_
          refine XS.aloadN X0.here hexec rfl (hb hbytes d15) rfl rfl ?_
          refine XS.iloadN X0.here hexec rfl (hb hbytes d16) rfl ?_
          refine X0.aget hexec hA0 rfl (yv_get hA tA (i := i) (by omega)) rfl rfl (hb hbytes d17) ?_
          refine XS.aloadN X0.here hexec rfl (hb hbytes d18) rfl rfl ?_
          refine XS.iloadN X0.here hexec rfl (hb hbytes d19) rfl ?_
          refine X0.aget hexec hB0 rfl (yv_get hB tB (i := i) (by omega)) rfl rfl (hb hbytes d20) ?_
          exact Steps.refl _)
        by_cases hv : yv A i = yv B i
        · have c5 : Steps p.tables e below (s₁.setTop (entryFrame m #[.ref a, .ref b] 3)) (s₁.setTop (mkF m 9 #[.val (.ref a), .val (.ref b), .val (.int (Int32.ofNat i + 1))] [])) := c4.trans (by
            refine XS.icmpYes X0.here hexec rfl (pc0 := 21) rfl (hb hbytes d21) rfl (ii_eq_t hv) (by decide) rfl ?_
            refine iincV X0.here hexec rfl 1 (hb hbytes d26) (by decide) rfl rfl ?_
            refine XS.goto X0.here hexec rfl (pc0 := 29) rfl (hb hbytes d29) (by decide) rfl ?_
            exact Steps.refl _)
          rw [succ32] at c5
          exact ih (i + 1) (by omega) (fun j hj => by
            by_cases e : j = i
            · rw [e]; exact hv
            · exact he j (by omega)) c5
        · exact ⟨25, _, 0, Or.inl rfl, Or.inr ⟨rfl, fun q => hv (q.2 i (by omega))⟩, c4.trans (by
            refine XS.icmpNo X0.here hexec rfl (hb hbytes d21) rfl (ii_eq_f hv) ?_
            refine iconstV X0.here hexec rfl 0 (hb hbytes d24) (by decide) ?_
            exact Steps.refl _)⟩
    obtain ⟨pc, Ls, v, hpc, hv, cz⟩ := loop A.slots.size 0 (by omega) (fun j hj => absurd hj (Nat.not_lt_zero j)) c3
    have nv : narrow .boolean (.int v) = .int v := by rcases hv with ⟨rfl, -⟩ | ⟨rfl, -⟩ <;> rfl
    rcases hpc with rfl | rfl
    · exact ⟨s₁, some (.int v), _, _, _, X0, rfl, rfl, rfl, (fun h => by cases h), ⟨v, rfl, hh0, hv⟩, fun fs hl => cz.trans (X0.ireturnOut hexec hret nv (Or.inr (Or.inl rfl)) (hb hbytes d25) hl)⟩
    · exact ⟨s₁, some (.int v), _, _, _, X0, rfl, rfl, rfl, (fun h => by cases h), ⟨v, rfl, hh0, hv⟩, fun fs hl => cz.trans (X0.ireturnOut hexec hret nv (Or.inr (Or.inl rfl)) (hb hbytes d33) hl)⟩
  · have c3 : Steps p.tables e below (s₁.setTop (entryFrame m #[.ref a, .ref b] 3)) (s₁.setTop (mkF m 35 #[.val (.ref a), .val (.ref b), .unset] [.int 0])) := c2.trans (by
      refine XS.icmpYes X0.here hexec rfl (pc0 := 4) rfl (hb hbytes d4) rfl (ii_ne_t (ne32 a31 b31 hs)) (by decide) rfl ?_
      refine iconstV X0.here hexec rfl 0 (hb hbytes d34) (by decide) ?_
      exact Steps.refl _)
    exact ⟨s₁, some (.int 0), _, _, _, X0, rfl, rfl, rfl, (fun h => by cases h), ⟨0, rfl, hh0, Or.inr ⟨rfl, fun q => hs q.1⟩⟩, fun fs hl => c3.trans (X0.ireturnOut hexec hret rfl (Or.inr (Or.inl rfl)) (hb hbytes d35) hl)⟩
end LEq
theorem Cod.ty {cd : Int32} {n : Nat} {f : Nat → Int32} {V : Cell} (h : Cod cd n f V) : Typed .byte V := fun i v hv => by
  have hi : i < V.slots.size := (Array.getElem?_eq_some_iff.mp hv).1
  rcases h with ⟨-, k1, k2⟩ | ⟨-, k1, k2, -⟩
  · rw [(k2 i (by omega)).1] at hv; cases hv; exact fits_lo8 _
  · rcases Nat.mod_two_eq_zero_or_one i with e | e
    · obtain ⟨j, rfl⟩ : ∃ j, i = 2 * j := ⟨i / 2, by omega⟩
      rw [(k2 j (by omega)).1] at hv; cases hv; exact fits_lo8 _
    · obtain ⟨j, rfl⟩ : ∃ j, i = 2 * j + 1 := ⟨i / 2, by omega⟩
      rw [(k2 j (by omega)).2] at hv; cases hv; exact fits_lo8 _
/-- the same text -/
def SameT (n : Nat) (f : Nat → Int32) (k : Nat) (g : Nat → Int32) : Prop := n = k ∧ ∀ j, j < n → f j = g j
theorem lo8_inj {x y : Int32} (h0 : ¬ x < 0) (h1 : ¬ 255 < x) (k0 : ¬ y < 0) (k1 : ¬ 255 < y) (h : lo8 x = lo8 y) : x = y := by
  rw [← lo8_mask h0 h1, ← lo8_mask k0 k1, h]
/-- arrays coded by one coder are equal just where the texts are -/
theorem Cod.eqv {cd : Int32} {n k : Nat} {f g : Nat → Int32} {V V' : Cell} (h : Cod cd n f V) (h' : Cod cd k g V') (hf : ∀ j, j < n → ¬ f j < 0 ∧ ¬ 65535 < f j) (hg : ∀ j, j < k → ¬ g j < 0 ∧ ¬ 65535 < g j) : EqC V V' ↔ SameT n f k g := by
  have yvv : ∀ {W : Cell} {i : Nat} {x : Int32}, W.slots[i]? = some (.int x) → yv W i = x := fun q => by unfold yv; rw [q]
  rcases h with ⟨rfl, k1, k2⟩ | ⟨rfl, k1, k2, -⟩
  · rcases h' with ⟨-, m1, m2⟩ | ⟨e, -⟩
    · constructor
      · rintro ⟨e1, e2⟩
        refine ⟨by omega, fun j hj => ?_⟩
        have q := e2 j (by omega)
        rw [yvv (k2 j hj).1, yvv (m2 j (by omega)).1] at q
        exact lo8_inj (hf j hj).1 (k2 j hj).2 (hg j (by omega)).1 (m2 j (by omega)).2 q
      · rintro ⟨rfl, e2⟩
        refine ⟨by omega, fun j hj => ?_⟩
        rw [yvv (k2 j (by omega)).1, yvv (m2 j (by omega)).1, e2 j (by omega)]
    · exact absurd e (by decide)
  · rcases h' with ⟨e, -⟩ | ⟨-, m1, m2, -⟩
    · exact absurd e (by decide)
    · constructor
      · rintro ⟨e1, e2⟩
        refine ⟨by omega, fun j hj => ?_⟩
        have q1 := e2 (2 * j) (by omega)
        have q2 := e2 (2 * j + 1) (by omega)
        rw [yvv (k2 j hj).1, yvv (m2 j (by omega)).1] at q1
        rw [yvv (k2 j hj).2, yvv (m2 j (by omega)).2] at q2
        rw [← pair_says (hf j hj).1 (hf j hj).2, ← pair_says (hg j (by omega)).1 (hg j (by omega)).2, q1, q2]
      · rintro ⟨rfl, e2⟩
        refine ⟨by omega, fun i hi => ?_⟩
        rcases Nat.mod_two_eq_zero_or_one i with e | e
        · obtain ⟨j, rfl⟩ : ∃ j, i = 2 * j := ⟨i / 2, by omega⟩
          rw [yvv (k2 j (by omega)).1, yvv (m2 j (by omega)).1, e2 j (by omega)]
        · obtain ⟨j, rfl⟩ : ∃ j, i = 2 * j + 1 := ⟨i / 2, by omega⟩
          rw [yvv (k2 j (by omega)).2, yvv (m2 j (by omega)).2, e2 j (by omega)]
/-- two codings differ: so do the texts -/
theorem Cod.dif {cd cd' : Int32} {n k : Nat} {f g : Nat → Int32} {V V' : Cell} (h : Cod cd n f V) (h' : Cod cd' k g V') (hne : ¬ cd = cd') : ¬ SameT n f k g := by
  rintro ⟨rfl, e⟩
  rcases h with ⟨rfl, -, k2⟩ | ⟨rfl, -, -, j, hj, hw⟩
  · rcases h' with ⟨rfl, -⟩ | ⟨-, -, -, j, hj, hw⟩
    · exact hne rfl
    · exact (k2 j hj).2 (by rw [e j hj]; exact hw)
  · rcases h' with ⟨-, -, m2⟩ | ⟨rfl, -⟩
    · exact (m2 j hj).2 (by rw [← e j hj]; exact hw)
    · exact hne rfl
/-- an object of exactly C is an instance of C -/
theorem cinst {p : Program} {l : Launch} {e : Env} {R : Room} {s : State} {m : MethodId} {args : Array Value} {below : List Frame} {meth : Method} {c : Code} {T : State} {locs : List Loc} {cells slots : Nat} (X : Stand p l e R s m args below meth c T locs cells slots) (hexec : p.tables.exec = Jvm.exec) {own C : String} {index : Nat} (hown : s.vm.findClass own = some m.cls) (hlink : (Cond.classLink own index C).before args s = true) {a : Addr} (hE : Exact C a T)
    {g : JFrame} (hg : g.method = m) {rest : List Value} (hstack : g.stack = .ref a :: rest) (hdg : decode c.code g.pc = .ok (.instanceof index, 3)) :
    ∃ T', Stand p l e R s m args below meth c T' locs cells slots ∧ T'.heap = T.heap ∧ ∀ target, Steps p.tables e below (T'.setTop { g with pc := g.pc + 3, stack := .int 1 :: rest }) target → Steps p.tables e below (T.setTop g) target := by
  obtain ⟨cB, h1, D, h2, h3, h4⟩ := hE
  have h1' : s.vm.findClass C = some cB := by rw [← X.warmed.alike.findClass]; exact h1
  obtain ⟨vm', X', st⟩ := X.instanceofYes hexec hown hlink h2 h4 h1' (by rw [h3]; exact Jvm.Free.SB.assignable_self _ _) hg hstack hdg
  exact ⟨_, X', rfl, st⟩
theorem cself {p : Program} {l : Launch} {e : Env} {R : Room} {s : State} {m : MethodId} {args : Array Value} {below : List Frame} {meth : Method} {c : Code} {T : State} {locs : List Loc} {cells slots : Nat} (X : Stand p l e R s m args below meth c T locs cells slots) (hexec : p.tables.exec = Jvm.exec) {own C : String} {index : Nat} (hown : s.vm.findClass own = some m.cls) (hlink : (Cond.classLink own index C).before args s = true) {a : Addr} (hE : Exact C a T)
    {g : JFrame} (hg : g.method = m) {rest : List Value} (hstack : g.stack = .ref a :: rest) (hdg : decode c.code g.pc = .ok (.checkcast index, 3)) :
    ∃ T', Stand p l e R s m args below meth c T' locs cells slots ∧ T'.heap = T.heap ∧ ∀ target, Steps p.tables e below (T'.setTop { g with pc := g.pc + 3, stack := .ref a :: rest }) target → Steps p.tables e below (T.setTop g) target := by
  obtain ⟨cB, h1, D, h2, h3, h4⟩ := hE
  have h1' : s.vm.findClass C = some cB := by rw [← X.warmed.alike.findClass]; exact h1
  obtain ⟨vm', X', st⟩ := X.checkcastYes hexec hown hlink h2 h4 h1' (by rw [h3]; exact Jvm.Free.SB.assignable_self _ _) hg hstack hdg
  exact ⟨_, X', rfl, fun t h => st t (by rw [← hstack] at h; exact h)⟩
namespace SEq
def yN : MethodName := ⟨"java/lang/String", "equals", "(Ljava/lang/Object;)Z"⟩
abbrev yB : ByteArray := jdk_42_method_66_code
theorem d0 : decode yB 0 = .ok (.aload_n 0, 1) := by decide +kernel
theorem d1 : decode yB 1 = .ok (.aload_n 1, 1) := by decide +kernel
theorem d2 : decode yB 2 = .ok (.if_acmp (.ne) 5, 3) := by decide +kernel
theorem d5 : decode yB 5 = .ok (.iconst 1, 1) := by decide +kernel
theorem d6 : decode yB 6 = .ok (.ireturn, 1) := by decide +kernel
theorem d7 : decode yB 7 = .ok (.aload_n 1, 1) := by decide +kernel
theorem d8 : decode yB 8 = .ok (.instanceof 10, 3) := by decide +kernel
theorem d11 : decode yB 11 = .ok (.ifCond (.eq) 43, 3) := by decide +kernel
theorem d14 : decode yB 14 = .ok (.aload_n 1, 1) := by decide +kernel
theorem d15 : decode yB 15 = .ok (.checkcast 10, 3) := by decide +kernel
theorem d18 : decode yB 18 = .ok (.astore_n 2, 1) := by decide +kernel
theorem d19 : decode yB 19 = .ok (.getstatic 38, 3) := by decide +kernel
theorem d22 : decode yB 22 = .ok (.ifCond (.eq) 14, 3) := by decide +kernel
theorem d25 : decode yB 25 = .ok (.aload_n 0, 1) := by decide +kernel
theorem d26 : decode yB 26 = .ok (.getfield 15, 3) := by decide +kernel
theorem d29 : decode yB 29 = .ok (.aload_n 2, 1) := by decide +kernel
theorem d30 : decode yB 30 = .ok (.getfield 15, 3) := by decide +kernel
theorem d33 : decode yB 33 = .ok (.if_icmp (.ne) 21, 3) := by decide +kernel
theorem d36 : decode yB 36 = .ok (.aload_n 0, 1) := by decide +kernel
theorem d37 : decode yB 37 = .ok (.getfield 9, 3) := by decide +kernel
theorem d40 : decode yB 40 = .ok (.aload_n 2, 1) := by decide +kernel
theorem d41 : decode yB 41 = .ok (.getfield 9, 3) := by decide +kernel
theorem d44 : decode yB 44 = .ok (.invokestatic 541, 3) := by decide +kernel
theorem d47 : decode yB 47 = .ok (.ifCond (.eq) 7, 3) := by decide +kernel
theorem d50 : decode yB 50 = .ok (.iconst 1, 1) := by decide +kernel
theorem d51 : decode yB 51 = .ok (.goto 4, 3) := by decide +kernel
theorem d54 : decode yB 54 = .ok (.iconst 0, 1) := by decide +kernel
theorem d55 : decode yB 55 = .ok (.ireturn, 1) := by decide +kernel
def site : List Cond := [.classLink "java/lang/String" 10 "java/lang/String", .fieldLink "java/lang/String" 38 "java/lang/String" "COMPACT_STRINGS" "Z", .fieldLink "java/lang/String" 15 "java/lang/String" "coder" "B", .fieldLink "java/lang/String" 9 "java/lang/String" "value" "[B", LEq.tab] ++ staticW "java/lang/String" 541 LEq.yN
def tab : Cond := tabOf yN yB 3 (some .boolean) site
def P (x t : Addr) (V : Cell) (cd : Int32) (n : Nat) (f : Nat → Int32) (y t' : Addr) (V' : Cell) (cd' : Int32) (k : Nat) (g : Nat → Int32) (z : Int32) (args : Array Value) (s : State) : Prop := args = #[.ref x, .ref y] ∧ Txt x t V cd n f s ∧ Txt y t' V' cd' k g s ∧ StaticIs s "java/lang/String" "COMPACT_STRINGS" "Z" (.int z) ∧ ¬ z = 0
/-- equals(Object) of two Strings: whether the texts are the same -/
theorem law (l : Launch) (x t : Addr) (V : Cell) (cd : Int32) (n : Nat) (f : Nat → Int32) (y t' : Addr) (V' : Cell) (cd' : Int32) (k : Nat) (g : Nat → Int32) (z : Int32) : Law l yN 2 1 1 14 yB 3 (some .boolean) site (P x t V cd n f y t' V' cd' k g z) (Says01 (SameT n f k g)) [] 0 0 := by
  refine Law.of_walk (plainFor_of_name (by decide +kernel)) (by decide +kernel) (by decide +kernel) (by decide) (fun _ _ h => by rw [h.1]; rfl) (fun _ U U' hal hh h => ⟨h.1, h.2.1.mv hal hh, h.2.2.1.mv hal hh, h.2.2.2.1.there hal hh, h.2.2.2.2⟩) (fun r U U' V V' h1 hal h2 h => Says01.mv r U U' V V' h1 hal h2 h) ?_
  intro p e s m args below meth c s₁ X0 hexec hbytes hml hret hlk hnm hown hh0 W hP
  obtain ⟨rfl, hx, hy, s1, hz⟩ := hP
  have c1 : Steps p.tables e below (s₁.setTop (entryFrame m #[.ref x, .ref y] 3)) (s₁.setTop (mkF m 2 #[.val (.ref x), .val (.ref y), .unset] [.ref y, .ref x])) := Steps.trans (entry rfl) (by
    show Steps p.tables e below (s₁.setTop (mkF m 0 #[.val (.ref x), .val (.ref y), .unset] [])) _
    refine XS.aloadN X0.here hexec rfl (hb hbytes d0) rfl rfl ?_
    refine XS.aloadN X0.here hexec rfl (hb hbytes d1) rfl rfl ?_
    exact Steps.refl _)
  by_cases hxy : x = y
  · have c2 : Steps p.tables e below (s₁.setTop (entryFrame m #[.ref x, .ref y] 3)) (s₁.setTop (mkF m 6 #[.val (.ref x), .val (.ref y), .unset] [.int 1])) := c1.trans (by
      refine acmpNo X0.here hexec rfl (hb hbytes d2) rfl rfl rfl (by simp [acmp, hxy]) ?_
      refine iconstV X0.here hexec rfl 1 (hb hbytes d5) (by decide) ?_
      exact Steps.refl _)
    subst hxy
    have ec : cd = cd' := by
      obtain ⟨D, fd, a1, a2, a3⟩ := hx.2.2.1
      obtain ⟨D', fd', b1, b2, b3⟩ := hy.2.2.1
      cases a1.symm.trans b1
      obtain ⟨q1, q2, q3, q4⟩ := a2.1
      obtain ⟨r1, r2, r3, r4⟩ := b2.1
      cases q4.symm.trans r4
      cases a3.symm.trans b3; rfl
    have et : t = t' := by
      obtain ⟨D, fd, a1, a2, a3⟩ := hx.2.1
      obtain ⟨D', fd', b1, b2, b3⟩ := hy.2.1
      cases a1.symm.trans b1
      obtain ⟨q1, q2, q3, q4⟩ := a2.1
      obtain ⟨r1, r2, r3, r4⟩ := b2.1
      cases q4.symm.trans r4
      cases a3.symm.trans b3; rfl
    subst ec et
    have ev : V = V' := by cases hx.2.2.2.1.1.symm.trans hy.2.2.2.1.1; rfl
    subst ev
    have hs : SameT n f k g := (Cod.eqv hx.2.2.2.2.1 hy.2.2.2.2.1 hx.2.2.2.2.2 hy.2.2.2.2.2).mp ⟨rfl, fun _ _ => rfl⟩
    exact ⟨s₁, some (.int 1), _, _, _, X0, rfl, rfl, rfl, (fun h => by cases h), ⟨1, rfl, hh0, Or.inl ⟨rfl, hs⟩⟩, fun fs hl => c2.trans (X0.ireturnOut hexec hret rfl (Or.inr (Or.inl rfl)) (hb hbytes d6) hl)⟩
  · have c2 : Steps p.tables e below (s₁.setTop (entryFrame m #[.ref x, .ref y] 3)) (s₁.setTop (mkF m 8 #[.val (.ref x), .val (.ref y), .unset] [.ref y])) := c1.trans (by
      refine acmpYes X0.here hexec rfl (pc0 := 2) rfl (hb hbytes d2) rfl rfl rfl (by simp [acmp, hxy]) (by decide) rfl ?_
      refine XS.aloadN X0.here hexec rfl (hb hbytes d7) rfl rfl ?_
      exact Steps.refl _)
    obtain ⟨T3, X3, q3, st3⟩ := cinst X0 hexec hown (wk W (.classLink "java/lang/String" 10 "java/lang/String")) (hy.mv X0.warmed.alike hh0).1 (g := (mkF m 8 #[.val (.ref x), .val (.ref y), .unset] [.ref y])) rfl (rest := []) rfl (hb hbytes d8)
    have hh3 := q3.trans hh0
    have c4 : Steps p.tables e below (s₁.setTop (entryFrame m #[.ref x, .ref y] 3)) (T3.setTop (mkF m 15 #[.val (.ref x), .val (.ref y), .unset] [.ref y])) := (c2.trans (st3 _ (Steps.refl _))).trans (by
      refine XS.ifNo X3.here hexec rfl (hb hbytes d11) rfl (i0_eq_f (by decide)) ?_
      refine XS.aloadN X3.here hexec rfl (hb hbytes d14) rfl rfl ?_
      exact Steps.refl _)
    obtain ⟨T5, X5, q5, st5⟩ := cself X3 hexec hown (wk W (.classLink "java/lang/String" 10 "java/lang/String")) (hy.mv X3.warmed.alike hh3).1 (g := (mkF m 15 #[.val (.ref x), .val (.ref y), .unset] [.ref y])) rfl (rest := []) rfl (hb hbytes d15)
    have hh5 := q5.trans hh3
    have c6 : Steps p.tables e below (s₁.setTop (entryFrame m #[.ref x, .ref y] 3)) (T5.setTop (mkF m 19 #[.val (.ref x), .val (.ref y), .val (.ref y)] [])) := (c4.trans (st5 _ (Steps.refl _))).trans (by
      refine XS.astoreN X5.here hexec rfl (hb hbytes d18) rfl rfl rfl ?_
      exact Steps.refl _)
    obtain ⟨T7, X7, q7, st7⟩ := X5.sget hexec hown (wk W (.fieldLink "java/lang/String" 38 "java/lang/String" "COMPACT_STRINGS" "Z")) s1 (fun _ _ h => by rw [hh5]; exact h) (g := (mkF m 19 #[.val (.ref x), .val (.ref y), .val (.ref y)] [])) rfl (hb hbytes d19)
    have hh7 := q7.trans hh5
    have c8 : Steps p.tables e below (s₁.setTop (entryFrame m #[.ref x, .ref y] 3)) (T7.setTop (mkF m 26 #[.val (.ref x), .val (.ref y), .val (.ref y)] [.ref x])) := (c6.trans (st7 _ (Steps.refl _))).trans (by
      refine XS.ifNo X7.here hexec rfl (hb hbytes d22) rfl (i0_eq_f hz) ?_
      refine XS.aloadN X7.here hexec rfl (hb hbytes d25) rfl rfl ?_
      exact Steps.refl _)
    obtain ⟨T9, X9, q9, st9⟩ := X7.hget hexec hown (wk W (.fieldLink "java/lang/String" 15 "java/lang/String" "coder" "B")) (hx.mv X7.warmed.alike hh7).2.2.1 (g := (mkF m 26 #[.val (.ref x), .val (.ref y), .val (.ref y)] [.ref x])) rfl (rest := []) rfl (hb hbytes d26)
    have hh9 := q9.trans hh7
    have c10 : Steps p.tables e below (s₁.setTop (entryFrame m #[.ref x, .ref y] 3)) (T9.setTop (mkF m 30 #[.val (.ref x), .val (.ref y), .val (.ref y)] [.ref y, .int cd])) := (c8.trans (st9 _ (Steps.refl _))).trans (by
      refine XS.aloadN X9.here hexec rfl (hb hbytes d29) rfl rfl ?_
      exact Steps.refl _)
    obtain ⟨T11, X11, q11, st11⟩ := X9.hget hexec hown (wk W (.fieldLink "java/lang/String" 15 "java/lang/String" "coder" "B")) (hy.mv X9.warmed.alike hh9).2.2.1 (g := (mkF m 30 #[.val (.ref x), .val (.ref y), .val (.ref y)] [.ref y, .int cd])) rfl (rest := [.int cd]) rfl (hb hbytes d30)
    have hh11 := q11.trans hh9
    have c12 : Steps p.tables e below (s₁.setTop (entryFrame m #[.ref x, .ref y] 3)) (T11.setTop (mkF m 33 #[.val (.ref x), .val (.ref y), .val (.ref y)] [.int cd', .int cd])) := c10.trans (st11 _ (Steps.refl _))
    by_cases hcd : cd = cd'
    · subst hcd
      have c13 : Steps p.tables e below (s₁.setTop (entryFrame m #[.ref x, .ref y] 3)) (T11.setTop (mkF m 37 #[.val (.ref x), .val (.ref y), .val (.ref y)] [.ref x])) := c12.trans (by
        refine XS.icmpNo X11.here hexec rfl (hb hbytes d33) rfl (ii_ne_f rfl) ?_
        refine XS.aloadN X11.here hexec rfl (hb hbytes d36) rfl rfl ?_
        exact Steps.refl _)
      obtain ⟨T14, X14, q14, st14⟩ := X11.hget hexec hown (wk W (.fieldLink "java/lang/String" 9 "java/lang/String" "value" "[B")) (hx.mv X11.warmed.alike hh11).2.1 (g := (mkF m 37 #[.val (.ref x), .val (.ref y), .val (.ref y)] [.ref x])) rfl (rest := []) rfl (hb hbytes d37)
      have hh14 := q14.trans hh11
      have c15 : Steps p.tables e below (s₁.setTop (entryFrame m #[.ref x, .ref y] 3)) (T14.setTop (mkF m 41 #[.val (.ref x), .val (.ref y), .val (.ref y)] [.ref y, .ref t])) := (c13.trans (st14 _ (Steps.refl _))).trans (by
        refine XS.aloadN X14.here hexec rfl (hb hbytes d40) rfl rfl ?_
        exact Steps.refl _)
      obtain ⟨T16, X16, q16, st16⟩ := X14.hget hexec hown (wk W (.fieldLink "java/lang/String" 9 "java/lang/String" "value" "[B")) (hy.mv X14.warmed.alike hh14).2.1 (g := (mkF m 41 #[.val (.ref x), .val (.ref y), .val (.ref y)] [.ref y, .ref t])) rfl (rest := [.ref t]) rfl (hb hbytes d41)
      have hh16 := q16.trans hh14
      have c17 : Steps p.tables e below (s₁.setTop (entryFrame m #[.ref x, .ref y] 3)) (T16.setTop (mkF m 44 #[.val (.ref x), .val (.ref y), .val (.ref y)] [.ref t', .ref t])) := c15.trans (st16 _ (Steps.refl _))
      obtain ⟨v18, T18, X18, E18, g18⟩ := X16.callS hexec (LEq.law l t V t' V') hown (wks W (staticW "java/lang/String" 541 LEq.yN)) (wk W LEq.tab) (W := 0) (Nat.le_of_ble_eq_true rfl) (Nat.le_of_ble_eq_true rfl) (Nat.le_refl _) (Nat.le_refl _) (g := (mkF m 44 #[.val (.ref x), .val (.ref y), .val (.ref y)] [.ref t', .ref t])) rfl (by rw [hml]; rfl) c17 (argsL := [.ref t, .ref t']) (rest := []) rfl rfl (by show 2 * 0 + 0 ≤ _; decide) (hb hbytes d44) (⟨rfl, hx.2.2.2.1.mv X16.warmed.alike hh16, hx.2.2.2.2.1.ty, hy.2.2.2.1.mv X16.warmed.alike hh16, hy.2.2.2.2.1.ty⟩)
      obtain ⟨v, rfl, q18, hv⟩ := E18
      have iff := Cod.eqv hx.2.2.2.2.1 hy.2.2.2.2.1 hx.2.2.2.2.2 hy.2.2.2.2.2
      rcases hv with ⟨rfl, he⟩ | ⟨rfl, he⟩
      · have c19 : Steps p.tables e below (s₁.setTop (entryFrame m #[.ref x, .ref y] 3)) (T18.setTop (mkF m 55 #[.val (.ref x), .val (.ref y), .val (.ref y)] [.int 1])) := Steps.trans g18 (by
          refine XS.ifNo X18.here hexec rfl (hb hbytes d47) rfl (i0_eq_f (by decide)) ?_
          refine iconstV X18.here hexec rfl 1 (hb hbytes d50) (by decide) ?_
          refine XS.goto X18.here hexec rfl (pc0 := 51) rfl (hb hbytes d51) (by decide) rfl ?_
          exact Steps.refl _)
        exact ⟨T18, some (.int 1), _, _, _, X18, rfl, rfl, rfl, (fun h => by cases h), ⟨1, rfl, q18.trans hh16, Or.inl ⟨rfl, iff.mp he⟩⟩, fun fs hl => c19.trans (X18.ireturnOut hexec hret rfl (Or.inr (Or.inl rfl)) (hb hbytes d55) hl)⟩
      · have c19 : Steps p.tables e below (s₁.setTop (entryFrame m #[.ref x, .ref y] 3)) (T18.setTop (mkF m 55 #[.val (.ref x), .val (.ref y), .val (.ref y)] [.int 0])) := Steps.trans g18 (by
          refine XS.ifYes X18.here hexec rfl (pc0 := 47) rfl (hb hbytes d47) rfl (i0_eq_t rfl) (by decide) rfl ?_
          refine iconstV X18.here hexec rfl 0 (hb hbytes d54) (by decide) ?_
          exact Steps.refl _)
        exact ⟨T18, some (.int 0), _, _, _, X18, rfl, rfl, rfl, (fun h => by cases h), ⟨0, rfl, q18.trans hh16, Or.inr ⟨rfl, fun q => he (iff.mpr q)⟩⟩, fun fs hl => c19.trans (X18.ireturnOut hexec hret rfl (Or.inr (Or.inl rfl)) (hb hbytes d55) hl)⟩
    · have c13 : Steps p.tables e below (s₁.setTop (entryFrame m #[.ref x, .ref y] 3)) (T11.setTop (mkF m 55 #[.val (.ref x), .val (.ref y), .val (.ref y)] [.int 0])) := c12.trans (by
        refine XS.icmpYes X11.here hexec rfl (pc0 := 33) rfl (hb hbytes d33) rfl (ii_ne_t hcd) (by decide) rfl ?_
        refine iconstV X11.here hexec rfl 0 (hb hbytes d54) (by decide) ?_
        exact Steps.refl _)
      exact ⟨T11, some (.int 0), _, _, _, X11, rfl, rfl, rfl, (fun h => by cases h), ⟨0, rfl, hh11, Or.inr ⟨rfl, Cod.dif hx.2.2.2.2.1 hy.2.2.2.2.1 hcd⟩⟩, fun fs hl => c13.trans (X11.ireturnOut hexec hret rfl (Or.inr (Or.inl rfl)) (hb hbytes d55) hl)⟩
theorem pays {l : Launch} {R : Room} {p : Program} {e : Env} {below : List Frame} {s : State} {sargs : Array Value} {len W : Nat} (x t : Addr) (V : Cell) (cd : Int32) (n : Nat) (f : Nat → Int32) (y t' : Addr) (V' : Cell) (cd' : Int32) (k : Nat) (g : Nat → Int32) (z : Int32) (htab : tab.before sargs s = true) (hfr : 2 ≤ R.frames) (hlo : W + 28 ≤ R.locals) :
    Back l R p e below s sargs yN len W (fun A₁ a₁ => A₁.cells + 0 ≤ R.cells ∧ A₁.slots + 0 ≤ R.slots ∧ P x t V cd n f y t' V' cd' k g z a₁ A₁.U) (fun A₁ _ v₁ B₁ => Says01 (SameT n f k g) v₁ A₁.U B₁.U ∧ B₁.locs = A₁.locs ++ [] ∧ B₁.cells = A₁.cells + 0 ∧ B₁.slots = A₁.slots + 0) :=
  (law l x t V cd n f y t' V' cd' k g z).pays htab hfr (by omega)
end SEq
end StrChars
namespace StrChars.Road
open Jvm Sem ClassFile Op Lib Jvm.Stand Jvm.Free Jvm.Free.XT
open Jvm.Lib.Cold (StaticIs)
/-- the words of String.equals(Object) -/
abbrev wordsEq : List Jvm.Cond := [.code SEq.yN SEq.yB 3 (some .boolean), .initialized ST, .classLink ST 10 ST, .fieldLink ST 38 ST "COMPACT_STRINGS" "Z", .fieldLink ST 15 ST "coder" "B", .fieldLink ST 9 ST "value" "[B", .methodLink ST 541 LEq.yN, .static LEq.yN, .code LEq.yN LEq.yB 3 (some .boolean), .initialized "java/lang/StringLatin1"]
theorem tabEq_of {a : Array Value} {s : State} (h : ∀ w ∈ wordsEq, w.before a s = true) : SEq.tab.before a s = true := by
  have hl : LEq.tab.before a s = true := unparts (wk h (.code LEq.yN LEq.yB 3 (some .boolean))) (wks h (.initialized LEq.yN.cls :: LEq.site))
  have q := consq hl h
  exact unparts (wk q (.code SEq.yN SEq.yB 3 (some .boolean))) (wks q (.initialized SEq.yN.cls :: SEq.site))
theorem movedEq {Z s : State} {a0 args : Array Value} (hZ : Z.Warmed39 s.vm) (hw : ∀ d ∈ wordsEq, d.before a0 Z = true) : ∀ d ∈ wordsEq, d.before args s = true := fun d hd => by
  have t : ∀ d ∈ wordsEq, (d.onTables && d.keepsFace) = true := by decide +kernel
  exact RoadKit.mv hZ (hw d hd) (t d hd)
/-- the road's facts of a String, as the laws ask it -/
theorem txt_of {Z U : State} {a0 : Array Value} {kI : Nat} (wi : (Jvm.Cond.instantiable ST kI).before a0 Z = true) (al : Z.vm.Alike U.vm) {x t : Addr} {kb : ClassId} {cs : List Int32} {cd N2 : Int32} {vs : List Value} (E : RoadKit.Exa Z U.heap x ST) (V : RoadKit.Fld Z U.heap x ST "value" "[B" (.ref t)) (C : RoadKit.Fld Z U.heap x ST "coder" "B" (.int cd)) (K : RoadKit.Arv Z U.heap t kb .byte N2 vs (.int 0)) (hc : CodA cs cd N2 vs) (hb : ∀ c ∈ cs, ¬ c < 0 ∧ ¬ (65535 : Int32) < c) (l2 : cs.length ≤ 4000) :
    ∃ A, Txt x t A cd cs.length (fun j => cs.getD j 0) U := by
  obtain ⟨A, K1, K2, K3, K4, K5, K6⟩ := K
  have hcod := hc.cod (by omega) K3 K5
  obtain ⟨D, fV, fC, hB, F1, F2, g1, g2, -, -⟩ := strObj wi al E V C
  exact ⟨A, ⟨_, hB.2.2.1, D, hB.1, rfl, by cases q : D.vm <;> first | rfl | exact absurd q (hB.2.1.2 _)⟩, Has.of hB F1 g1, Has.of hB F2 g2, ⟨K1.1, State.isArrayOf_alike al K1.2.1, K1.2.2, by rcases hcod with ⟨-, q, -⟩ | ⟨-, q, -⟩ <;> omega⟩, hcod, fun j hj => by
    have e : cs.getD j 0 = cs[j] := by simp [List.getD_eq_getElem?_getD, hj]
    show ¬ cs.getD j 0 < 0 ∧ ¬ 65535 < cs.getD j 0
    rw [e]; exact hb _ (List.getElem_mem _)⟩
theorem same_list (cs ds : List Int32) : SameT cs.length (fun j => cs.getD j 0) ds.length (fun j => ds.getD j 0) ↔ cs = ds := by
  constructor
  · rintro ⟨e, q⟩
    refine List.ext_getElem e fun j h1 h2 => ?_
    have := q j h1
    simpa [List.getD_eq_getElem?_getD, h1, h2] using this
  · rintro rfl
    exact ⟨rfl, fun _ _ => rfl⟩
/-- **equals(Object) OF TWO SUCH STRINGS**: 1 just where the chars are the same -/
theorem eqW {p : Program} {l : Launch} {e : Env} {R : Room} {s : State} {args : Array Value} {below : List Frame} {len W : Nat} {Z : State} {a0 : Array Value} {h : Heap} (hZ : Z.Warmed39 s.vm) (hw : ∀ d ∈ wordsEq, d.before a0 Z = true) {kI : Nat} (wi : (Jvm.Cond.instantiable ST kI).before a0 Z = true)
    {x t : Addr} {kb : ClassId} {cs : List Int32} {cd N2 : Int32} {vs : List Value} (E : RoadKit.Exa Z h x ST) (V : RoadKit.Fld Z h x ST "value" "[B" (.ref t)) (C : RoadKit.Fld Z h x ST "coder" "B" (.int cd)) (K : RoadKit.Arv Z h t kb .byte N2 vs (.int 0)) (hc : CodA cs cd N2 vs) (hb : ∀ c ∈ cs, ¬ c < 0 ∧ ¬ (65535 : Int32) < c) (l2 : cs.length ≤ 4000)
    {y t' : Addr} {kb' : ClassId} {ds : List Int32} {cd' N2' : Int32} {vs' : List Value} (E' : RoadKit.Exa Z h y ST) (V' : RoadKit.Fld Z h y ST "value" "[B" (.ref t')) (C' : RoadKit.Fld Z h y ST "coder" "B" (.int cd')) (K' : RoadKit.Arv Z h t' kb' .byte N2' vs' (.int 0)) (hc' : CodA ds cd' N2' vs') (hb' : ∀ c ∈ ds, ¬ c < 0 ∧ ¬ (65535 : Int32) < c) (l2' : ds.length ≤ 4000)
    {z : Int32} (S : RoadKit.Sta Z h ST "COMPACT_STRINGS" "Z" (.int z)) (hz : ¬ z = 0) (hfr : 2 ≤ R.frames) (hlo : W + 28 ≤ R.locals) :
    Back l R p e below s args (⟨"java/lang/String", "equals", "(Ljava/lang/Object;)Z"⟩ : MethodName) len W (fun P a => a = #[.ref x, .ref y] ∧ P.U.heap = h ∧ P.cells + 0 ≤ R.cells ∧ P.slots + 0 ≤ R.slots)
      (fun P _ v B => ∃ L, (((v = some (.int 1) ∧ cs = ds) ∨ (v = some (.int 0) ∧ ¬ cs = ds)) ∧ L = [] ∧ B.U.heap = h) ∧ B.locs = P.locs ++ L ∧ B.cells = P.cells + 0 ∧ B.slots = P.slots + 0) := by
  intro m meth c P g ig mk a X hg hsize hdg hW hn hp'
  obtain ⟨rfl, rfl, r1, r2⟩ := hp'
  have al : Z.vm.Alike P.U.vm := hZ.alike.trans X.warmed.alike
  obtain ⟨A, hx⟩ := txt_of wi al E V C K hc hb l2
  obtain ⟨A', hy⟩ := txt_of wi al E' V' C' K' hc' hb' l2'
  obtain ⟨v, B, X', ⟨⟨w, hv, hh, hq⟩, hl, hk, hs⟩, st⟩ := SEq.pays x t A cd cs.length (fun j => cs.getD j 0) y t' A' cd' ds.length (fun j => ds.getD j 0) z (tabEq_of (movedEq hZ hw)) hfr hlo m meth c P g ig mk _ X hg hsize hdg hW hn ⟨r1, r2, rfl, hx, hy, sta_is al S, hz⟩
  refine ⟨v, B, X', ⟨[], ⟨?_, rfl, hh⟩, hl, hk, hs⟩, st⟩
  rcases hq with ⟨rfl, q⟩ | ⟨rfl, q⟩
  · exact Or.inl ⟨hv, (same_list cs ds).mp q⟩
  · exact Or.inr ⟨hv, fun e => q ((same_list cs ds).mpr e)⟩
end StrChars.Road
namespace StrChars.Road
open Jvm Sem ClassFile Op Lib Jvm.Stand Jvm.Free Jvm.Free.XT
open Jvm.Lib.Cold (StaticIs)
/-- what backV says of its String, as the contracts of this text ask it: cs's low bytes, coder 0 -/
theorem codOf {cs : List Int32} {n : Nat} (hn : cs.length = n) (hb : ∀ c ∈ cs, ¬ 255 < c) : CodA cs 0 (Int32.ofNat n) ((cs.map lo8).map Value.int) := Or.inl ⟨rfl, by rw [hn], by simp [List.map_map, Function.comp_def], hb⟩
end StrChars.Road
end Jvm.Pilot.@@N@@
namespace Jvm.Pilot.@@N@@
def own_ushr (x y : Int32) : Int32 := (x.toUInt32 >>> (y &&& 31).toUInt32).toInt32
def own_ushrL (x : Int64) (y : Int32) : Int64 := (x.toUInt64 >>> (y &&& 0x3f).toInt64.toUInt64).toInt64
def own_cmpL (x y : Int64) : Int32 := if x > y then 1 else if x = y then 0 else -1
open Jvm Jvm.ClassFile Sem Op Lib Jvm.Free Jvm.Stand Jvm.LawKit Jvm.RoadKit Bundle Jvm.Pilot.@@N@@.Jvm.D
abbrev uu : Slot := .unset
theorem own_wt {w : Nat} : 2 * 0 + w ≤ w := Nat.le_of_eq (Nat.zero_add w)
theorem own_rem_eq (x y : Int32) : x - x / y * y = x % y := by
  apply Int32.toInt_inj.mp
  have h := Int.tmod_add_mul_tdiv x.toInt y.toInt
  have e : (x % y).toInt = (x % y).toInt.bmod (2 ^ 32) := (Int.bmod_eq_of_le (Int32.le_toInt _) (Int32.toInt_lt _)).symm
  rw [e, Int32.toInt_sub, Int32.toInt_mul, Int32.toInt_div, Int32.toInt_mod, Int.sub_bmod_bmod, Int.sub_bmod, Int.bmod_mul_bmod, ← Int.sub_bmod]
  congr 1
  rw [Int.mul_comm (x.toInt.tdiv y.toInt)]
  omega
theorem own_W {a0 : Array Value} {Z : State} (hw : ∀ d ∈ tables_1, d.before a0 Z = true) (i : Nat) {d : Jvm.Cond} (h : tables_1[i]? = some d) : d.before a0 Z = true := hw d (List.mem_of_getElem? h)
theorem own_and255 (x : Int32) : ¬ nar .char ((x &&& (255 : Int32)).toUInt32.toUInt16.toUInt32.toInt32) < 0 ∧ ¬ (255 : Int32) < nar .char ((x &&& (255 : Int32)).toUInt32.toUInt16.toUInt32.toInt32) := by
  have t : ∀ k : Fin 256, ¬ nar .char ((Int32.ofNat k.val).toUInt32.toUInt16.toUInt32.toInt32) < 0 ∧ ¬ (255 : Int32) < nar .char ((Int32.ofNat k.val).toUInt32.toUInt16.toUInt32.toInt32) := by decide +kernel
  have h : (x &&& 255).toBitVec.toNat < 256 := by
    simp only [Int32.toBitVec_and, BitVec.toNat_and]
    exact Nat.lt_succ_of_le Nat.and_le_right
  have e : (x &&& 255) = Int32.ofNat (x &&& 255).toBitVec.toNat := by
    apply Int32.toBitVec_inj.mp
    show _ = BitVec.ofNat 32 _
    rw [BitVec.ofNat_toNat]; simp
  rw [e]
  exact t ⟨_, h⟩
theorem own_up (cs : List Int32) (h : ∀ c ∈ cs, ¬ c < 0 ∧ ¬ (255 : Int32) < c) : ∀ c ∈ cs, ¬ c < 0 ∧ ¬ (65535 : Int32) < c := fun c hc => ⟨(h c hc).1, fun q => (h c hc).2 (by rw [Int32.lt_iff_toInt_lt] at q ⊢; have e1 : (65535 : Int32).toInt = 65535 := rfl; have e2 : (255 : Int32).toInt = 255 := rfl; omega)⟩
theorem own_narb (y : Int32) : nar .byte (StrChars.lo8 y) = StrChars.lo8 y := by
  show (y.toInt8.toInt32).toInt8.toInt32 = y.toInt8.toInt32
  simp
theorem own_charnat (c : Int32) (h0 : ¬ c < 0) (h1 : ¬ (65535 : Int32) < c) : c.toBitVec.toNat < 65536 := by
  rw [Int32.lt_iff_toInt_lt] at h0 h1
  have e0 : (0 : Int32).toInt = 0 := rfl
  have e1 : (65535 : Int32).toInt = 65535 := rfl
  have e2 : c.toInt = c.toBitVec.toInt := rfl
  rw [e0, e2] at h0; rw [e1, e2] at h1
  have := BitVec.toInt_eq_toNat_cond c.toBitVec
  have := c.toBitVec.isLt
  split at * <;> omega
theorem own_narc (c : Int32) (h0 : ¬ c < 0) (h1 : ¬ (65535 : Int32) < c) : nar .char c = c := by
  have h := own_charnat c h0 h1
  apply Int32.toBitVec_inj.mp
  apply BitVec.eq_of_toNat_eq
  show (c.toUInt32.toUInt16.toUInt32).toNat = c.toUInt32.toNat
  have e : c.toUInt32.toNat = c.toBitVec.toNat := rfl
  simp only [UInt16.toNat_toUInt32, UInt32.toNat_toUInt16]
  rw [e]; omega
/-- x is a String of the chars cs at h, its two cells below k -/
def StrB (Z : State) (h : Heap) (k : Nat) (a : Addr) (cs : List Int32) : Prop := a < k ∧ Exa Z h a "java/lang/String" ∧ ∃ (t : Addr) (kb : ClassId) (cd N2 : Int32) (vs : List Value), t < k ∧ Fld Z h a "java/lang/String" "value" "[B" (.ref t) ∧ Fld Z h a "java/lang/String" "coder" "B" (.int cd) ∧ Arv Z h t kb .byte N2 vs (.int 0) ∧ StrChars.Road.CodA cs cd N2 vs ∧ (∀ c ∈ cs, ¬ c < 0 ∧ ¬ (65535 : Int32) < c) ∧ cs.length ≤ 4000
theorem StrB.ext {Z : State} {h h' : Heap} {k : Nat} {a : Addr} {cs : List Int32} (F : StrB Z h k a cs) (E : Ext h h') : StrB Z h' k a cs := by
  obtain ⟨a1, a2, t, kb, cd, N2, vs, b1, b2, b3, b4, r⟩ := F
  exact ⟨a1, a2.ext E, t, kb, cd, N2, vs, b1, b2.ext E, b3.ext E, b4.ext E, r⟩
theorem own_notin {x : Addr} {k : Nat} {ws : List Addr} (h : x < k) (q : ∀ y ∈ ws, k ≤ y) : x ∉ ws := fun z => absurd h (Nat.not_lt.mpr (q x z))
theorem StrB.keep {Z : State} {h h' : Heap} {k : Nat} {a : Addr} {cs : List Int32} {ws : List Addr} (F : StrB Z h k a cs) (K : Keep h h' ws) (q : ∀ x ∈ ws, k ≤ x) : StrB Z h' k a cs := by
  obtain ⟨a1, a2, t, kb, cd, N2, vs, b1, b2, b3, b4, r⟩ := F
  exact ⟨a1, a2.keep K, t, kb, cd, N2, vs, b1, b2.keep K (own_notin a1 q), b3.keep K (own_notin a1 q), b4.keep K (own_notin b1 q), r⟩
theorem StrB.wr {Z : State} {h h' : Heap} {k : Nat} {a x : Addr} {cs : List Int32} {sl : Nat} {v : Value} (F : StrB Z h k a cs) (W : Wr h h' x sl v) (q : k ≤ x) : StrB Z h' k a cs := F.keep (Keep.of_wr W) (allS q all0)
theorem StrB.now {Z : State} {h : Heap} {k : Nat} {a : Addr} {cs : List Int32} (F : StrB Z h k a cs) : StrB Z h h.size a cs := by
  obtain ⟨a1, a2, t, kb, cd, N2, vs, b1, b2, b3, b4, r⟩ := F
  exact ⟨a2.lt, a2, t, kb, cd, N2, vs, b4.lt, b2, b3, b4, r⟩
theorem StrB.exa {Z : State} {h : Heap} {k : Nat} {a : Addr} {cs : List Int32} (F : StrB Z h k a cs) : Exa Z h a "java/lang/String" := F.2.1
theorem own_eqS {p : Program} {l : Launch} {e : Env} {R : Room} {s : State} {args : Array Value} {below : List Frame} {len W : Nat} {Z : State} {a0 : Array Value} {h : Heap} (hZ : Z.Warmed39 s.vm) (hw : ∀ d ∈ StrChars.Road.wordsEq, d.before a0 Z = true) {kI : Nat} (wi : (Jvm.Cond.instantiable "java/lang/String" kI).before a0 Z = true)
    {x y : Addr} {k k' : Nat} {cs ds : List Int32} (F : StrB Z h k x cs) (G : StrB Z h k' y ds) {z : Int32} (S : Sta Z h "java/lang/String" "COMPACT_STRINGS" "Z" (.int z)) (hz : ¬ z = 0) (hfr : 2 ≤ R.frames) (hlo : W + 28 ≤ R.locals) :
    Back l R p e below s args (⟨"java/lang/String", "equals", "(Ljava/lang/Object;)Z"⟩ : MethodName) len W (fun P a => a = #[.ref x, .ref y] ∧ P.U.heap = h ∧ P.cells + 0 ≤ R.cells ∧ P.slots + 0 ≤ R.slots)
      (fun P _ v B => ∃ L, (((v = some (.int 1) ∧ cs = ds) ∨ (v = some (.int 0) ∧ ¬ cs = ds)) ∧ L = [] ∧ B.U.heap = h) ∧ B.locs = P.locs ++ L ∧ B.cells = P.cells + 0 ∧ B.slots = P.slots + 0) := by
  obtain ⟨_, E1, t, kb, cd, N2, vs, _, V1, C1, K1, hc, hb, hl⟩ := F
  obtain ⟨_, E2, t', kb', cd', N2', vs', _, V2, C2, K2, hc', hb', hl'⟩ := G
  exact StrChars.Road.eqW hZ hw wi E1 V1 C1 K1 hc hb hl E2 V2 C2 K2 hc' hb' hl' S hz hfr hlo
abbrev own_EL : List (String × Nat) := [("java/lang/String", 7)]
theorem own_EW {Z : State} {a0 : Array Value} (hw : ∀ d ∈ tables_1, d.before a0 Z = true) : EW Z a0 own_EL := (EW.cons (own_W hw 43 rfl) (by decide) EW.nil)
def own_J (Z : State) (EL : List (String × Nat)) (xs : List Addr) (h : Heap) (vm : Vm) : Prop := CHv Z EL vm h ∧ ∀ x ∈ xs, Safe Z EL vm h x
theorem own_backX {p : Program} {l : Launch} {e : Env} {R : Room} {s : State} {args : Array Value} {below : List Frame} {Z : State} {a0 : Array Value} {EL : List (String × Nat)} {h : Heap} {vm0 : Vm} {y : MethodName} {bytes : ByteArray} {maxL : Nat} {ret : Option FieldType} {rm : Room} {len W : Nat} {as' : Array Value} {Q : Option Value → Heap → List Loc → Prop} {xs : List Addr}
    (hM : MetFree l y (head1 [Jvm.Cond.code y bytes maxL ret] rm) (fun a U => a = as' ∧ Z.Warmed39 U.vm ∧ U.heap = h ∧ own_J Z EL xs h U.vm) (fun _ _ _ _ _ => True) (fun _ U o U' => ∃ v L, o = .returned v ∧ Q v U'.heap L ∧ CHr Z EL U.vm U.heap U'.vm U'.heap ∧ ReturnedEndW U o U' L rm.cells rm.slots))
    (hZ : Z.Warmed39 vm0) (wc : (Jvm.Cond.code y bytes maxL ret).before a0 Z = true) (wz : (Jvm.Cond.initialized y.cls).before a0 Z = true) (hf : rm.frames + 1 ≤ R.frames) (hl : W + (maxL + 11) + rm.locals ≤ R.locals) (hEL : EW Z a0 EL) (H : own_J Z EL xs h vm0) (hlt : ∀ x ∈ xs, x < h.size) :
    BackS l R p e below (s.setVm vm0) args y len W (fun A a => a = as' ∧ A.U.heap = h ∧ A.cells + rm.cells ≤ R.cells ∧ A.slots + rm.slots ≤ R.slots)
      (fun A _ v B => ∃ L, Q v B.U.heap L ∧ B.locs = A.locs ++ L ∧ B.cells = A.cells + rm.cells ∧ B.slots = A.slots + rm.slots ∧ CHr Z EL vm0 h B.U.vm B.U.heap) := by
  refine BackS.of_freeW (bytes := bytes) (maxL := maxL) (ret := ret) (E := fun _ first o t L k n => k = rm.cells ∧ n = rm.slots ∧ (∃ v, o = .returned v ∧ Q v t.heap L) ∧ CHr Z EL first.vm first.heap t.vm t.heap) hM hf hl ?_ ?_ (fun _ _ _ _ _ _ _ _ _ => trivial) ?_ ?_
  · intro m meth c A a Y hp
    have hU : Z.Warmed39 A.U.vm := wtrans (s := s.setVm vm0) hZ Y.warmed
    exact ⟨by show (Jvm.Cond.and _ .tt).before a A.U = true; rw [Cond.before_and, mv hU wc]; rfl, mv hU wc, mv hU wz, hp.2.2.1, hp.2.2.2⟩
  · intro m meth c A a g mk Y hp
    have hr := CHv.at Y hZ hEL H.1
    exact ⟨hp.1, wtrans (s := s.setVm vm0) hZ Y.warmed, hp.2.1, hr.1, fun x hx => hr.safe (hlt x hx) (H.2 x hx)⟩
  · rintro _ _ _ _ ⟨v, L, h1, h2, h3, h4⟩
    exact ⟨L, _, _, h4, rfl, rfl, ⟨v, h1, h2⟩, h3⟩
  · rintro m meth c A a g mk v t L k n Y hp _ _ ⟨e1, e2, ⟨v', e3, e4⟩, e5⟩
    cases e3; subst e1 e2
    refine ⟨L, e4, rfl, rfl, rfl, (CHv.at Y hZ hEL H.1).trans ?_⟩
    rw [← hp.2.1]; exact e5

theorem own_rem_eqL (x y : Int64) : x - x / y * y = x % y := by
  apply Int64.toInt_inj.mp
  have h := Int.tmod_add_mul_tdiv x.toInt y.toInt
  have e : (x % y).toInt = (x % y).toInt.bmod (2 ^ 64) := (Int.bmod_eq_of_le (Int64.le_toInt _) (Int64.toInt_lt _)).symm
  rw [e, Int64.toInt_sub, Int64.toInt_mul, Int64.toInt_div, Int64.toInt_mod, Int.sub_bmod_bmod, Int.sub_bmod, Int.bmod_mul_bmod, ← Int.sub_bmod]
  congr 1
  rw [Int.mul_comm (x.toInt.tdiv y.toInt)]
  omega
theorem own_andL (x y : Int64) {k : Nat} (h : y.toBitVec.toNat < k) : ∃ i : Fin k, x &&& y = Int64.ofNat i.val := by
  have h1 : (x &&& y).toBitVec.toNat < k := by
    rw [Int64.toBitVec_and, BitVec.toNat_and]
    exact Nat.lt_of_le_of_lt Nat.and_le_right h
  refine ⟨⟨_, h1⟩, ?_⟩
  apply Int64.toBitVec_inj.mp
  show _ = BitVec.ofNat 64 _
  rw [BitVec.ofNat_toNat]; simp
theorem own_l3 (x : Int64) : ∃ l : Int32, ((x &&& (3 : Int64)) % (3 : Int64)).toInt32 = l ∧ (l = 0 ∨ l = 1 ∨ l = 2) := by
  obtain ⟨k, e⟩ := own_andL x (3 : Int64) (k := 4) (by decide)
  have t : ∀ k : Fin 4, (Int64.ofNat k.val % (3 : Int64)).toInt32 = 0 ∨ (Int64.ofNat k.val % (3 : Int64)).toInt32 = 1 ∨ (Int64.ofNat k.val % (3 : Int64)).toInt32 = 2 := by decide +kernel
  rw [e]; exact ⟨_, rfl, t k⟩
theorem own_c8 (x : Int64) : ∃ c : Int32, ((x &&& (255 : Int64)).toInt32).toUInt32.toUInt16.toUInt32.toInt32 = c ∧ (¬ c < 0 ∧ ¬ (255 : Int32) < c) := by
  obtain ⟨k, e⟩ := own_andL x (255 : Int64) (k := 256) (by decide)
  have t : ∀ k : Fin 256, ¬ ((Int64.ofNat k.val).toInt32).toUInt32.toUInt16.toUInt32.toInt32 < 0 ∧ ¬ (255 : Int32) < ((Int64.ofNat k.val).toInt32).toUInt32.toUInt16.toUInt32.toInt32 := by decide +kernel
  rw [e]; exact ⟨_, rfl, t k⟩
theorem own_up1 {c : Int32} (h : ¬ (255 : Int32) < c) : ¬ (65535 : Int32) < c := by
  rw [Int32.lt_iff_toInt_lt] at h ⊢
  rw [show (255 : Int32).toInt = 255 from rfl] at h
  rw [show (65535 : Int32).toInt = 65535 from rfl]; omega
/-- the chars of str(l, a, b) -/
def own_cs (l a b : Int32) : List Int32 := if l = 0 then [] else if l = 1 then [a] else [a, b]
theorem own_cs0 (a b : Int32) : own_cs 0 a b = [] := if_pos rfl
theorem own_cs1 (a b : Int32) : own_cs 1 a b = [a] := (if_neg (by decide)).trans (if_pos rfl)
theorem own_cs2 (a b : Int32) : own_cs 2 a b = [a, b] := (if_neg (by decide)).trans (if_neg (by decide))
theorem own_cseq {l m a b c d : Int32} (hl : l = 0 ∨ l = 1 ∨ l = 2) (hm : m = 0 ∨ m = 1 ∨ m = 2) : own_cs l a b = own_cs m c d ↔ (l = m ∧ (l < 1 ∨ a = c) ∧ (l < 2 ∨ b = d)) := by
  rcases hl with rfl | rfl | rfl <;> rcases hm with rfl | rfl | rfl
  · rw [own_cs0, own_cs0]; exact ⟨fun _ => ⟨rfl, Or.inl (by decide), Or.inl (by decide)⟩, fun _ => rfl⟩
  · rw [own_cs0, own_cs1]; exact ⟨fun q => (by cases q), fun q => absurd q.1 (by decide)⟩
  · rw [own_cs0, own_cs2]; exact ⟨fun q => (by cases q), fun q => absurd q.1 (by decide)⟩
  · rw [own_cs1, own_cs0]; exact ⟨fun q => (by cases q), fun q => absurd q.1 (by decide)⟩
  · rw [own_cs1, own_cs1]; exact ⟨fun q => ⟨rfl, Or.inr (List.cons.inj q).1, Or.inl (by decide)⟩, fun q => by rw [q.2.1.resolve_left (by decide)]⟩
  · rw [own_cs1, own_cs2]; exact ⟨fun q => (by cases (List.cons.inj q).2), fun q => absurd q.1 (by decide)⟩
  · rw [own_cs2, own_cs0]; exact ⟨fun q => (by cases q), fun q => absurd q.1 (by decide)⟩
  · rw [own_cs2, own_cs1]; exact ⟨fun q => (by cases (List.cons.inj q).2), fun q => absurd q.1 (by decide)⟩
  · rw [own_cs2, own_cs2]; exact ⟨fun q => ⟨rfl, Or.inr (List.cons.inj q).1, Or.inr (List.cons.inj (List.cons.inj q).2).1⟩, fun q => by rw [q.2.1.resolve_left (by decide), q.2.2.resolve_left (by decide)]⟩
theorem own_same {P K E : Prop} {r x : Int32} (h : P ↔ K) (hr : (r = 1 ∧ K ∧ E) ∨ (r = 0 ∧ ¬ (K ∧ E))) (hx : (x = 1 ∧ P ∧ E) ∨ (x = 0 ∧ ¬ (P ∧ E))) : r = x := by
  rcases hr with ⟨rfl, a, b⟩ | ⟨rfl, a⟩ <;> rcases hx with ⟨rfl, c, d⟩ | ⟨rfl, c⟩
  · rfl
  · exact absurd ⟨h.mpr a, b⟩ c
  · exact absurd ⟨h.mp c, d⟩ a
  · rfl
theorem own_fev {args : Array Value} {s : State} {t1 t2 : Term} {C n d : String} (h : t1.eval args s none [] s = t2.eval args s none [] s) : (Term.field t1 C n d).eval args s none [] s = (Term.field t2 C n d).eval args s none [] s := by
  simp only [Term.eval, h]
theorem own_dist {args : Array Value} {s : State} {t1 t2 : Term} {C n d : String} {a b : Addr} {x y : Int32} (h1 : t1.eval args s none [] s = some (.ref a)) (h2 : t2.eval args s none [] s = some (.ref b))
    (e1 : (Jvm.Cond.eq (Term.field t1 C n d) (Term.int x)).value args s none s [] = some true) (e2 : (Jvm.Cond.eq (Term.field t2 C n d) (Term.int y)).value args s none s [] = some true) (hxy : ¬ x = y) : ¬ a = b := fun q => by
  have f1 := eqv_i (Term.int_eval x) e1
  have f2 := eqv_i (Term.int_eval y) e2
  have hh := own_fev (C := C) (n := n) (d := d) (h1.trans (by rw [q]; exact h2.symm) : t1.eval args s none [] s = t2.eval args s none [] s)
  rw [f1, f2] at hh
  exact hxy (Value.int.inj (Option.some.inj hh))
theorem own_ex {args : Array Value} {s : State} {t : Term} {C : String} (h : (Jvm.Cond.exactly t C).value args s none s [] = some true) : ∃ a : Addr, t.eval args s none [] s = some (.ref a) := by
  obtain ⟨a', c', cell, k, e1, -⟩ := Cond.exactly_spec (Cond.before_iff.mpr h)
  exact ⟨a', e1⟩
theorem own_pn_5 : plainName "java/lang/StringLatin1" = true := by decide +kernel
theorem own_d8_0 : decode jdk_43_method_3_code 0 = .ok (.iload_n 0, 1) := by decide +kernel
theorem own_d8_1 : decode jdk_43_method_3_code 1 = .ok (.sipush 255, 3) := by decide +kernel
theorem own_d8_4 : decode jdk_43_method_3_code 4 = .ok (.if_icmp .gt 7, 3) := by decide +kernel
theorem own_d8_7 : decode jdk_43_method_3_code 7 = .ok (.iconst 1, 1) := by decide +kernel
theorem own_d8_8 : decode jdk_43_method_3_code 8 = .ok (.goto 4, 3) := by decide +kernel
theorem own_d8_12 : decode jdk_43_method_3_code 12 = .ok (.ireturn, 1) := by decide +kernel
theorem own_ef_can (m : MethodId) (x0 : Int32) : entryFrame m #[(.int x0)] 1 = mkF m 0 #[iv x0] [] := by first | (simp [entryFrame, mkF, argsToLocals, Value.category]; done) | rfl
def Q_can (Z : State) (c1 : Int32) (h0 : Heap) (n0 : Nat) (v : Option Value) (h : Heap) (L : List Loc) : Prop := v = some (.int 1) ∧ Fr n0 L ∧ h = h0
set_option maxRecDepth 65536 in
set_option maxHeartbeats 40000000 in
theorem rm_can (l : Launch) (Z : State) (a0 : Array Value) (hw : ∀ d ∈ tables_1, d.before a0 Z = true) (ws : List Jvm.Cond) (c1 : Int32) (h0 : Heap) (n0 : Nat) (Z0 : n0 ≤ h0.size) (hc : ¬ (255 : Int32) < c1) :
    MetFree l (⟨"java/lang/StringLatin1", "canEncode", "(C)Z"⟩ : MethodName) (head1 (Jvm.Cond.code (⟨"java/lang/StringLatin1", "canEncode", "(C)Z"⟩ : MethodName) jdk_43_method_3_code 1 (some .boolean) :: ws) ({ frames := 0, cells := 0, slots := 0, locals := 0 } : Room)) (fun a U => a = #[(.int c1)] ∧ Z.Warmed39 U.vm ∧ U.heap = h0) (fun _ _ _ _ _ => True) (fun _ U o U' => ∃ v L, o = .returned v ∧ Q_can Z c1 h0 n0 v U'.heap L ∧ FrameEnd U o U' L ({ frames := 0, cells := 0, slots := 0, locals := 0 } : Room).cells ({ frames := 0, cells := 0, slots := 0, locals := 0 } : Room).slots) := by
  refine MetFree.of_bodySF (plainFor_of_name own_pn_5) hisR ?_
  intro p e s m args below meth c s₁ Bd hml0 hP hK
  obtain ⟨rfl, hZ, hh⟩ := hP
  have hx := Bd.exec
  have hby := Bd.bytes
  have hml : c.maxLocals = 1 := hml0
  have hown : s.vm.findClass "java/lang/StringLatin1" = some m.cls := findClass_of_methodNamed Bd.named
  have hnm := (name_of_methodNamed Bd.named Bd.method).1
  have W := own_W hw
  have X0 : Stand p l e ({ frames := 0, cells := 0, slots := 0, locals := 0 } : Room) s m #[(.int c1)] below meth c s₁ [] 0 0 := Stand.of_body Bd
  have e0 : s₁.heap = h0 := by rw [← hh, Bd.state]; rfl
  have N0 := Fr.nil n0
  have pre0 : ∀ tq, Steps p.tables e below (s₁.setTop (mkF m 0 #[iv c1] [])) tq → Steps p.tables e below (s₁.setTop (entryFrame m #[(.int c1)] 1)) tq := fun tq k => castTop (own_ef_can m c1) k
  obtain ⟨fs, hr, hrun, hended, hW, hsame⟩ := X0.leave (v := some (.int (1 : Int32))) (fun h => by rw [Bd.returns] at h; cases h)
  refine ⟨_, _, pre0 _ (?_), hrun, hended, _, _, rfl, ?_, ⟨_, rfl⟩, hW, hsame.mono (by decide) (by decide)⟩
  · show Steps _ _ _ (s₁.setTop (mkF m 0 #[iv c1] [])) _
    refine XS.iloadN X0.here hx rfl (hb hby own_d8_0) rfl ?_
    show Steps _ _ _ (s₁.setTop (mkF m 1 _ [.int c1])) _
    refine XS.sipush X0.here hx rfl (hb hby own_d8_1) ?_
    show Steps _ _ _ (s₁.setTop (mkF m 4 _ [.int 255, .int c1])) _
    refine XS.icmpNo X0.here hx rfl (hb hby own_d8_4) rfl (flt (hc : ¬ ((255 : Int32) < c1))).2.2.1 ?_
    show Steps _ _ _ (s₁.setTop (mkF m 7 _ [])) _
    refine XS.iconst X0.here hx rfl (hb hby own_d8_7) ?_
    show Steps _ _ _ (s₁.setTop (mkF m 8 _ [.int 1])) _
    refine XS.goto X0.here hx rfl (pc0 := 8) (pc' := 12) rfl (hb hby own_d8_8) (by decide) (by decide) ?_
    show Steps _ _ _ (s₁.setTop (mkF m 12 _ [.int 1])) _
    exact retN X0 hx (t := .boolean) Bd.returns (by simp) (hb hby own_d8_12) hr
  · show Q_can Z c1 h0 n0 _ s₁.heap _
    rw [e0]
    exact ⟨rfl, N0, rfl⟩
theorem own_d9_0 : decode jdk_43_method_46_code 0 = .ok (.iconst 1, 1) := by decide +kernel
theorem own_d9_1 : decode jdk_43_method_46_code 1 = .ok (.newarray .byte, 2) := by decide +kernel
theorem own_d9_3 : decode jdk_43_method_46_code 3 = .ok (.dup, 1) := by decide +kernel
theorem own_d9_4 : decode jdk_43_method_46_code 4 = .ok (.iconst 0, 1) := by decide +kernel
theorem own_d9_5 : decode jdk_43_method_46_code 5 = .ok (.iload_n 0, 1) := by decide +kernel
theorem own_d9_6 : decode jdk_43_method_46_code 6 = .ok (.i2b, 1) := by decide +kernel
theorem own_d9_7 : decode jdk_43_method_46_code 7 = .ok (.bastore, 1) := by decide +kernel
theorem own_d9_8 : decode jdk_43_method_46_code 8 = .ok (.areturn, 1) := by decide +kernel
theorem own_ef_l1tb (m : MethodId) (x0 : Int32) : entryFrame m #[(.int x0)] 1 = mkF m 0 #[iv x0] [] := by first | (simp [entryFrame, mkF, argsToLocals, Value.category]; done) | rfl
def Q_l1tb (Z : State) (c1 : Int32) (h0 : Heap) (n0 : Nat) (v : Option Value) (h : Heap) (L : List Loc) : Prop := ∃ b kb, v = some (.ref b) ∧ Fr n0 L ∧ Keep h0 h [] ∧ h0.size ≤ b ∧ Arv Z h b kb .byte (1 : Int32) [(.int (StrChars.lo8 c1))] (.int 0)
set_option maxRecDepth 65536 in
set_option maxHeartbeats 40000000 in
theorem rm_l1tb (l : Launch) (Z : State) (a0 : Array Value) (hw : ∀ d ∈ tables_1, d.before a0 Z = true) (ws : List Jvm.Cond) (c1 : Int32) (h0 : Heap) (n0 : Nat) (Z0 : n0 ≤ h0.size)  :
    MetFree l (⟨"java/lang/StringLatin1", "toBytes", "(C)[B"⟩ : MethodName) (head1 (Jvm.Cond.code (⟨"java/lang/StringLatin1", "toBytes", "(C)[B"⟩ : MethodName) jdk_43_method_46_code 1 (some (.array .byte)) :: ws) ({ frames := 0, cells := 1, slots := 1, locals := 0 } : Room)) (fun a U => a = #[(.int c1)] ∧ Z.Warmed39 U.vm ∧ U.heap = h0) (fun _ _ _ _ _ => True) (fun _ U o U' => ∃ v L, o = .returned v ∧ Q_l1tb Z c1 h0 n0 v U'.heap L ∧ FrameEnd U o U' L ({ frames := 0, cells := 1, slots := 1, locals := 0 } : Room).cells ({ frames := 0, cells := 1, slots := 1, locals := 0 } : Room).slots) := by
  refine MetFree.of_bodySF (plainFor_of_name own_pn_5) hisR ?_
  intro p e s m args below meth c s₁ Bd hml0 hP hK
  obtain ⟨rfl, hZ, hh⟩ := hP
  have hx := Bd.exec
  have hby := Bd.bytes
  have hml : c.maxLocals = 1 := hml0
  have hown : s.vm.findClass "java/lang/StringLatin1" = some m.cls := findClass_of_methodNamed Bd.named
  have hnm := (name_of_methodNamed Bd.named Bd.method).1
  have W := own_W hw
  have X0 : Stand p l e ({ frames := 0, cells := 1, slots := 1, locals := 0 } : Room) s m #[(.int c1)] below meth c s₁ [] 0 0 := Stand.of_body Bd
  have e0 : s₁.heap = h0 := by rw [← hh, Bd.state]; rfl
  have N0 := Fr.nil n0
  have pre0 : ∀ tq, Steps p.tables e below (s₁.setTop (mkF m 0 #[iv c1] [])) tq → Steps p.tables e below (s₁.setTop (entryFrame m #[(.int c1)] 1)) tq := fun tq k => castTop (own_ef_l1tb m c1) k
  have K1 : Keep h0 h0 [] := Keep.refl h0 []
  obtain ⟨T2, h2, k2, X2, e2, E2, A2, st2⟩ := newP X0 hx hZ (W 32 rfl) e0 (g := (mkF m 1 #[iv c1] [.int 1])) rfl (hb hby own_d9_1) rfl (by decide : ¬ ((1 : Int32) < (0 : Int32))) (cap := 1) (by decide) (by decide) (by decide) (by decide)
  obtain ⟨b2, g2⟩ : ∃ z, z = h0.size := ⟨_, rfl⟩
  rw [← g2] at A2 st2
  have g3 : n0 ≤ b2 := Nat.le_trans Z0 (Nat.le_of_eq g2.symm)
  have g4 : h0.size ≤ b2 := Nat.le_trans K1.1 (Nat.le_of_eq g2.symm)
  have Z5 : n0 ≤ h2.size := Nat.le_trans Z0 E2.1
  have K6 : Keep h0 h2 [] := K1.ext E2
  have V2 : Arv Z h2 b2 k2 .byte (1 : Int32) [(.int (0 : Int32))] (.int (0 : Int32)) := (Arv.new A2 (by decide : ¬ ((1 : Int32) < (0 : Int32)))).pad (pad_rep [] (.int (0 : Int32)) 1)
  obtain ⟨cl7, Ar7, aq7, aS7, aN7, aH7, aG7⟩ := id V2
  obtain ⟨T8, h8, X8, e8, W8, st8⟩ := stB X2 hx hZ e2 Ar7 (j := (0 : Int32)) (inb_of aS7 ⟨(by decide), (by decide)⟩) (g := (mkF m 7 #[iv c1] [.int (c1.toInt8.toInt32), .int 0, .ref b2, .ref b2])) rfl rfl (hb hby own_d9_7)
  have N8 := Fr.snoc X8 N0 g3
  have Vx8 := Arv.set Ar7 aq7 aS7 aN7 aH7 aG7 (fits_nar_byte _) W8 0 rfl (Nat.le_of_ble_eq_true rfl)
  have V8 : Arv Z h8 b2 k2 .byte (1 : Int32) [(.int (StrChars.lo8 c1))] (.int (0 : Int32)) := by
    have q := Vx8
    rw [show Value.int (((c1.toInt8.toInt32)).toInt8.toInt32) = (.int (StrChars.lo8 c1)) from congrArg Value.int (own_narb _)] at q
    exact q
  have Z9 : n0 ≤ h8.size := Nat.le_trans Z5 (Keep.of_wr W8).1
  have K10 : Keep h0 h8 [] := K6.wr W8 (Or.inr g4)
  obtain ⟨fs, hr, hrun, hended, hW, hsame⟩ := X8.leave (v := some (.ref b2)) (fun h => by rw [Bd.returns] at h; cases h)
  refine ⟨_, _, pre0 _ (?_), hrun, hended, _, _, rfl, ?_, ⟨_, rfl⟩, hW, hsame.mono (by decide) (by decide)⟩
  · show Steps _ _ _ (s₁.setTop (mkF m 0 #[iv c1] [])) _
    refine XS.iconst X0.here hx rfl (hb hby own_d9_0) ?_
    show Steps _ _ _ (s₁.setTop (mkF m 1 _ [.int 1])) _
    refine st2 _ ?_
    show Steps _ _ _ (T2.setTop (mkF m 3 #[iv c1] [.ref b2])) _
    refine XS.dup X2.here hx rfl (hb hby own_d9_3) rfl rfl ?_
    show Steps _ _ _ (T2.setTop (mkF m 4 _ [.ref b2, .ref b2])) _
    refine XS.iconst X2.here hx rfl (hb hby own_d9_4) ?_
    show Steps _ _ _ (T2.setTop (mkF m 5 _ [.int 0, .ref b2, .ref b2])) _
    refine XS.iloadN X2.here hx rfl (hb hby own_d9_5) rfl ?_
    show Steps _ _ _ (T2.setTop (mkF m 6 _ [.int c1, .int 0, .ref b2, .ref b2])) _
    refine XS.i2b X2.here hx rfl (hb hby own_d9_6) rfl ?_
    show Steps _ _ _ (T2.setTop (mkF m 7 _ [.int (c1.toInt8.toInt32), .int 0, .ref b2, .ref b2])) _
    refine st8 _ ?_
    show Steps _ _ _ (T8.setTop (mkF m 8 #[iv c1] [.ref b2])) _
    exact retOut X8 hx Bd.returns rfl (Or.inr (Or.inr (Or.inr (Or.inr ⟨rfl, rfl, rfl⟩)))) (hb hby own_d9_8) hr
  · show Q_l1tb Z c1 h0 n0 _ T8.heap _
    rw [e8]
    exact ⟨b2, k2, rfl, N8, K10, g4, V8⟩
theorem own_pn_4 : plainName "java/lang/String" = true := by decide +kernel
theorem own_d4_0 : decode jdk_42_method_151_code 0 = .ok (.aload_n 0, 1) := by decide +kernel
theorem own_d4_1 : decode jdk_42_method_151_code 1 = .ok (.invokespecial 1, 3) := by decide +kernel
theorem own_d4_4 : decode jdk_42_method_151_code 4 = .ok (.aload_n 0, 1) := by decide +kernel
theorem own_d4_5 : decode jdk_42_method_151_code 5 = .ok (.aload_n 1, 1) := by decide +kernel
theorem own_d4_6 : decode jdk_42_method_151_code 6 = .ok (.putfield 9, 3) := by decide +kernel
theorem own_d4_9 : decode jdk_42_method_151_code 9 = .ok (.aload_n 0, 1) := by decide +kernel
theorem own_d4_10 : decode jdk_42_method_151_code 10 = .ok (.iload_n 2, 1) := by decide +kernel
theorem own_d4_11 : decode jdk_42_method_151_code 11 = .ok (.putfield 15, 3) := by decide +kernel
theorem own_d4_14 : decode jdk_42_method_151_code 14 = .ok (.return_, 1) := by decide +kernel
theorem own_ef_sbb (m : MethodId) (x0 : Addr) (x1 : Addr) (x2 : Int32) : entryFrame m #[(.ref x0), (.ref x1), (.int x2)] 3 = mkF m 0 #[rv x0, rv x1, iv x2] [] := by first | (simp [entryFrame, mkF, argsToLocals, Value.category]; done) | rfl
def Q_sbb (Z : State) (a1 t1 : Addr) (h0 : Heap) (n0 : Nat) (v : Option Value) (h : Heap) (L : List Loc) : Prop := v = none ∧ Fr n0 L ∧ Keep h0 h [a1] ∧ Exa Z h a1 "java/lang/String" ∧ Fld Z h a1 "java/lang/String" "value" "[B" (.ref t1) ∧ Fld Z h a1 "java/lang/String" "coder" "B" (.int (0 : Int32))
set_option maxRecDepth 65536 in
set_option maxHeartbeats 40000000 in
theorem rm_sbb (l : Launch) (Z : State) (a0 : Array Value) (hw : ∀ d ∈ tables_1, d.before a0 Z = true) (ws : List Jvm.Cond) (a1 t1 : Addr) (h0 : Heap) (n0 : Nat) (Z0 : n0 ≤ h0.size) (E1 : Exa Z h0 a1 "java/lang/String") (g1 : n0 ≤ a1) (F1 : Fld Z h0 a1 "java/lang/String" "value" "[B" .null) (F2 : Fld Z h0 a1 "java/lang/String" "coder" "B" (.int (0 : Int32))) :
    MetFree l (⟨"java/lang/String", "<init>", "([BB)V"⟩ : MethodName) (head1 (Jvm.Cond.code (⟨"java/lang/String", "<init>", "([BB)V"⟩ : MethodName) jdk_42_method_151_code 3 none :: ws) ({ frames := 1, cells := 0, slots := 0, locals := 12 } : Room)) (fun a U => a = #[(.ref a1), (.ref t1), (.int (0 : Int32))] ∧ Z.Warmed39 U.vm ∧ U.heap = h0) (fun _ _ _ _ _ => True) (fun _ U o U' => ∃ v L, o = .returned v ∧ Q_sbb Z a1 t1 h0 n0 v U'.heap L ∧ FrameEnd U o U' L ({ frames := 1, cells := 0, slots := 0, locals := 12 } : Room).cells ({ frames := 1, cells := 0, slots := 0, locals := 12 } : Room).slots) := by
  refine MetFree.of_bodySF (plainFor_of_name own_pn_4) hisR ?_
  intro p e s m args below meth c s₁ Bd hml0 hP hK
  obtain ⟨rfl, hZ, hh⟩ := hP
  have hx := Bd.exec
  have hby := Bd.bytes
  have hml : c.maxLocals = 3 := hml0
  have hown : s.vm.findClass "java/lang/String" = some m.cls := findClass_of_methodNamed Bd.named
  have hnm := (name_of_methodNamed Bd.named Bd.method).1
  have W := own_W hw
  have X0 : Stand p l e ({ frames := 1, cells := 0, slots := 0, locals := 12 } : Room) s m #[(.ref a1), (.ref t1), (.int (0 : Int32))] below meth c s₁ [] 0 0 := Stand.of_body Bd
  have e0 : s₁.heap = h0 := by rw [← hh, Bd.state]; rfl
  have N0 := Fr.nil n0
  have pre0 : ∀ tq, Steps p.tables e below (s₁.setTop (mkF m 0 #[rv a1, rv t1, iv 0] [])) tq → Steps p.tables e below (s₁.setTop (entryFrame m #[(.ref a1), (.ref t1), (.int (0 : Int32))] 3)) tq := fun tq k => castTop (own_ef_sbb m a1 t1 (0 : Int32)) k
  have K11 : Keep h0 h0 [a1] := Keep.refl h0 [a1]
  obtain ⟨T12, X12, e12, st12⟩ := initO X0 hx hZ hown (W 24 rfl) (W 25 rfl) (W 26 rfl) e0 (g := (mkF m 1 #[rv a1, rv t1, iv 0] [.ref a1])) rfl (by rw [hml]; rfl) rfl (hb hby own_d4_1) (by decide) (W := 0) own_wt (by decide)
  obtain ⟨T13, h13, X13, e13, W13, st13⟩ := putF X12 hx hZ hown (host := "") (Or.inl (W 41 rfl)) Via.refl e12 F1 E1 (Or.inr ⟨(W 42 rfl), rfl, hnm⟩) (W 14 rfl) (ty := (.array .byte)) (by decide) rfl rfl (g := (mkF m 6 #[rv a1, rv t1, iv 0] [.ref t1, .ref a1])) rfl rfl (hb hby own_d4_6)
  have N13 := Fr.snoc X13 N0 g1
  have Fw13 := F1.same W13
  have Z14 : n0 ≤ h13.size := Nat.le_trans Z0 (Keep.of_wr W13).1
  have K15 : Keep h0 h13 [a1] := K11.wr W13 (Or.inl (List.mem_of_getElem? (i := 0) rfl))
  have f17 := (F2.other W13 (Or.inr (slot_ne (Or.inr (W 40 rfl)) (Or.inr (W 42 rfl)) (by decide) (t := .byte) (t' := (.array .byte)) (by decide) (by decide))))
  have f18 := (E1.wr W13)
  obtain ⟨T16, h16, X16, e16, W16, st16⟩ := putFN X13 hx hZ hown (W 39 rfl) Via.refl e13 f17 f18 (Or.inr ⟨(W 40 rfl), rfl, hnm⟩) (W 14 rfl) (ty := .byte) (v' := (.int (0 : Int32))) (by decide) rfl rfl (g := (mkF m 11 #[rv a1, rv t1, iv 0] [.int 0, .ref a1])) rfl rfl (hb hby own_d4_11)
  have N16 := Fr.snoc X16 N13 g1
  have Fw16 := f17.same W16
  have Z19 : n0 ≤ h16.size := Nat.le_trans Z14 (Keep.of_wr W16).1
  have K20 : Keep h0 h16 [a1] := K15.wr W16 (Or.inl (List.mem_of_getElem? (i := 0) rfl))
  have f21 := (f18.wr W16)
  have f22 := (Fw13.other W16 (Or.inr (slot_ne (Or.inr (W 42 rfl)) (Or.inr (W 40 rfl)) (by decide) (t := (.array .byte)) (t' := .byte) (by decide) (by decide))))
  obtain ⟨fs, hr, hrun, hended, hW, hsame⟩ := X16.leave (v := none) (fun _ => rfl)
  refine ⟨_, _, pre0 _ (?_), hrun, hended, _, _, rfl, ?_, ⟨_, rfl⟩, hW, hsame.mono (by decide) (by decide)⟩
  · show Steps _ _ _ (s₁.setTop (mkF m 0 #[rv a1, rv t1, iv 0] [])) _
    refine XS.aloadN X0.here hx rfl (hb hby own_d4_0) rfl rfl ?_
    show Steps _ _ _ (s₁.setTop (mkF m 1 _ [.ref a1])) _
    refine st12 _ ?_
    show Steps _ _ _ (T12.setTop (mkF m 4 #[rv a1, rv t1, iv 0] [])) _
    refine XS.aloadN X12.here hx rfl (hb hby own_d4_4) rfl rfl ?_
    show Steps _ _ _ (T12.setTop (mkF m 5 _ [.ref a1])) _
    refine XS.aloadN X12.here hx rfl (hb hby own_d4_5) rfl rfl ?_
    show Steps _ _ _ (T12.setTop (mkF m 6 _ [.ref t1, .ref a1])) _
    refine st13 _ ?_
    show Steps _ _ _ (T13.setTop (mkF m 9 #[rv a1, rv t1, iv 0] [])) _
    refine XS.aloadN X13.here hx rfl (hb hby own_d4_9) rfl rfl ?_
    show Steps _ _ _ (T13.setTop (mkF m 10 _ [.ref a1])) _
    refine XS.iloadN X13.here hx rfl (hb hby own_d4_10) rfl ?_
    show Steps _ _ _ (T13.setTop (mkF m 11 _ [.int 0, .ref a1])) _
    refine st16 _ ?_
    show Steps _ _ _ (T16.setTop (mkF m 14 #[rv a1, rv t1, iv 0] [])) _
    exact X16.returnOut hx Bd.returns (hb hby own_d4_14) hr
  · show Q_sbb Z a1 t1 h0 n0 _ T16.heap _
    rw [e16]
    exact ⟨rfl, N16, K20, f21, f22, Fw16⟩
theorem own_d2_0 : decode jdk_42_method_139_code 0 = .ok (.getstatic 38, 3) := by decide +kernel
theorem own_d2_3 : decode jdk_42_method_139_code 3 = .ok (.ifCond .eq 23, 3) := by decide +kernel
theorem own_d2_6 : decode jdk_42_method_139_code 6 = .ok (.iload_n 0, 1) := by decide +kernel
theorem own_d2_7 : decode jdk_42_method_139_code 7 = .ok (.invokestatic 1015, 3) := by decide +kernel
theorem own_pd_11 : parseMethodDescriptor "(C)Z" = some ⟨[.char], some .boolean⟩ := by decide +kernel
theorem own_d2_10 : decode jdk_42_method_139_code 10 = .ok (.ifCond .eq 16, 3) := by decide +kernel
theorem own_d2_13 : decode jdk_42_method_139_code 13 = .ok (.new 10, 3) := by decide +kernel
theorem own_d2_16 : decode jdk_42_method_139_code 16 = .ok (.dup, 1) := by decide +kernel
theorem own_d2_17 : decode jdk_42_method_139_code 17 = .ok (.iload_n 0, 1) := by decide +kernel
theorem own_d2_18 : decode jdk_42_method_139_code 18 = .ok (.invokestatic 1018, 3) := by decide +kernel
theorem own_pd_12 : parseMethodDescriptor "(C)[B" = some ⟨[.char], some (.array .byte)⟩ := by decide +kernel
theorem own_d2_21 : decode jdk_42_method_139_code 21 = .ok (.iconst 0, 1) := by decide +kernel
theorem own_d2_22 : decode jdk_42_method_139_code 22 = .ok (.invokespecial 209, 3) := by decide +kernel
theorem own_pd_13 : parseMethodDescriptor "([BB)V" = some ⟨[(.array .byte), .byte], none⟩ := by decide +kernel
theorem own_d2_25 : decode jdk_42_method_139_code 25 = .ok (.areturn, 1) := by decide +kernel
theorem own_ef_svo (m : MethodId) (x0 : Int32) : entryFrame m #[(.int x0)] 1 = mkF m 0 #[iv x0] [] := by first | (simp [entryFrame, mkF, argsToLocals, Value.category]; done) | rfl
def Q_svo (Z : State) (c1 G1 : Int32) (h0 : Heap) (n0 : Nat) (v : Option Value) (h : Heap) (L : List Loc) : Prop := ∃ a, v = some (.ref a) ∧ Fr n0 L ∧ Keep h0 h [] ∧ StrB Z h h.size a [c1]
set_option maxRecDepth 65536 in
set_option maxHeartbeats 40000000 in
theorem rm_svo (l : Launch) (Z : State) (a0 : Array Value) (hw : ∀ d ∈ tables_1, d.before a0 Z = true) (ws : List Jvm.Cond) (c1 G1 : Int32) (h0 : Heap) (n0 : Nat) (Z0 : n0 ≤ h0.size) (X00 : Old Z n0 h0) (hc0 : ¬ c1 < 0) (hc : ¬ (255 : Int32) < c1) (O2 : Sta Z Z.heap "java/lang/String" "COMPACT_STRINGS" "Z" (.int G1)) (P5 : ¬ (G1 = (0 : Int32))) :
    MetFree l (⟨"java/lang/String", "valueOf", "(C)Ljava/lang/String;"⟩ : MethodName) (head1 (Jvm.Cond.code (⟨"java/lang/String", "valueOf", "(C)Ljava/lang/String;"⟩ : MethodName) jdk_42_method_139_code 1 (some (.object "java/lang/String")) :: ws) ({ frames := 2, cells := 2, slots := 5, locals := 40 } : Room)) (fun a U => a = #[(.int c1)] ∧ Z.Warmed39 U.vm ∧ U.heap = h0) (fun _ _ _ _ _ => True) (fun _ U o U' => ∃ v L, o = .returned v ∧ Q_svo Z c1 G1 h0 n0 v U'.heap L ∧ FrameEnd U o U' L ({ frames := 2, cells := 2, slots := 5, locals := 40 } : Room).cells ({ frames := 2, cells := 2, slots := 5, locals := 40 } : Room).slots) := by
  refine MetFree.of_bodySF (plainFor_of_name own_pn_4) hisR ?_
  intro p e s m args below meth c s₁ Bd hml0 hP hK
  obtain ⟨rfl, hZ, hh⟩ := hP
  have hx := Bd.exec
  have hby := Bd.bytes
  have hml : c.maxLocals = 1 := hml0
  have hown : s.vm.findClass "java/lang/String" = some m.cls := findClass_of_methodNamed Bd.named
  have hnm := (name_of_methodNamed Bd.named Bd.method).1
  have W := own_W hw
  have X0 : Stand p l e ({ frames := 2, cells := 2, slots := 5, locals := 40 } : Room) s m #[(.int c1)] below meth c s₁ [] 0 0 := Stand.of_body Bd
  have e0 : s₁.heap = h0 := by rw [← hh, Bd.state]; rfl
  have N0 := Fr.nil n0
  have pre0 : ∀ tq, Steps p.tables e below (s₁.setTop (mkF m 0 #[iv c1] [])) tq → Steps p.tables e below (s₁.setTop (entryFrame m #[(.int c1)] 1)) tq := fun tq k => castTop (own_ef_svo m c1) k
  have K23 : Keep h0 h0 [] := Keep.refl h0 []
  obtain ⟨T24, X24, e24, st24⟩ := getS2 X0 hx hZ hown (host := "") (Or.inl (W 27 rfl)) Via.refl e0 (O2.ext X00.2) (g := (mkF m 0 #[iv c1] [])) rfl (hb hby own_d2_0)
  obtain ⟨_, _, ⟨T25, L25, k25, n25⟩, -, X25, ⟨Lc25, hQ25, l25, y25, z25⟩, st25⟩ := Jvm.LawKit.callS X24 hx (y := (⟨"java/lang/StringLatin1", "canEncode", "(C)Z"⟩ : MethodName)) hown (mvT hZ (W 82 rfl)) (mvT hZ (W 83 rfl)) (mvT hZ (W 84 rfl)) (mvT hZ (W 85 rfl)) (by decide) (backOf (W := 0) (rm_can l Z a0 hw [] c1 h0 n0 Z0 hc) hZ (W 85 rfl) (W 84 rfl) (by decide) (by decide)) (g := (mkF m 7 #[iv c1] [.int c1])) rfl (by rw [hml]; rfl) (argsL := [.int c1]) (rest := []) (lenOf own_pd_11 rfl) rfl own_wt (hb hby own_d2_7) (fun _ _ => ⟨rfl, e24, (by decide : 0 + 0 ≤ _), (by decide : 0 + 0 ≤ _)⟩)
  dsimp only [Pt.U, Pt.locs, Pt.cells, Pt.slots] at X25 l25 y25 z25 st25 hQ25
  subst l25 y25 z25
  obtain ⟨rfl, Nq25, e25⟩ := hQ25
  have N25 := Fr.app N0 Nq25
  obtain ⟨T26, h26, X26, e26, E26, A26, D26, -, st26⟩ := newO X25 hx hZ hown (W 86 rfl) (W 14 rfl) (W 15 rfl) e25 (g := (mkF m 13 #[iv c1] [])) rfl (hb hby own_d2_13) (by decide) (by decide)
  obtain ⟨b26, g26⟩ : ∃ z, z = h0.size := ⟨_, rfl⟩
  rw [← g26] at A26 D26 st26
  have g27 : n0 ≤ b26 := Nat.le_trans Z0 (Nat.le_of_eq g26.symm)
  have g28 : h0.size ≤ b26 := Nat.le_trans K23.1 (Nat.le_of_eq g26.symm)
  have Z29 : n0 ≤ h26.size := Nat.le_trans Z0 E26.1
  have O30 : Old Z n0 h26 := X00.ext E26
  have K31 : Keep h0 h26 [] := K23.ext E26
  have F32 : Fld Z h26 b26 "java/lang/String" "coder" "B" (.int (0 : Int32)) := D26 (Or.inr (W 40 rfl)) (ty := .byte) (by decide)
  have F33 : Fld Z h26 b26 "java/lang/String" "value" "[B" .null := D26 (Or.inr (W 42 rfl)) (ty := (.array .byte)) (by decide)
  obtain ⟨_, _, ⟨T34, L34, k34, n34⟩, -, X34, ⟨Lc34, hQ34, l34, y34, z34⟩, st34⟩ := Jvm.LawKit.callS X26 hx (y := (⟨"java/lang/StringLatin1", "toBytes", "(C)[B"⟩ : MethodName)) hown (mvT hZ (W 87 rfl)) (mvT hZ (W 88 rfl)) (mvT hZ (W 84 rfl)) (mvT hZ (W 89 rfl)) (by decide) (backOf (W := 2) (rm_l1tb l Z a0 hw [] c1 h26 n0 Z29 ) hZ (W 89 rfl) (W 84 rfl) (by decide) (by decide)) (g := (mkF m 18 #[iv c1] [.int c1, .ref b26, .ref b26])) rfl (by rw [hml]; rfl) (argsL := [.int c1]) (rest := [.ref b26, .ref b26]) (lenOf own_pd_12 rfl) rfl own_wt (hb hby own_d2_18) (fun _ _ => ⟨rfl, e26, (by decide : 1 + 1 ≤ _), (by decide : 4 + 1 ≤ _)⟩)
  dsimp only [Pt.U, Pt.locs, Pt.cells, Pt.slots] at X34 l34 y34 z34 st34 hQ34
  subst l34 y34 z34
  obtain ⟨b34, kb34, hv34, Nq34, K34, sb34, V34⟩ := hQ34
  subst hv34
  have N34 := Fr.app N25 Nq34
  have g35 : n0 ≤ b34 := Nat.le_trans Z29 sb34
  have g36 : h0.size ≤ b34 := Nat.le_trans K31.1 sb34
  have Z37 : n0 ≤ T34.heap.size := Nat.le_trans Z29 K34.1
  have O38 : Old Z n0 T34.heap := O30.keep K34 all0
  have K39 : Keep h0 T34.heap [] := K31.trans K34 all0
  have f40 := (A26.keep K34)
  have f41 := (F33.keep K34 nin0)
  have f42 := (F32.keep K34 nin0)
  obtain ⟨_, _, ⟨T43, L43, k43, n43⟩, -, X43, ⟨Lc43, hQ43, l43, y43, z43⟩, st43⟩ := X34.specialBack hx (y := (⟨"java/lang/String", "<init>", "([BB)V"⟩ : MethodName)) rfl hown (mvT hZ (W 90 rfl)) (mvT hZ (W 91 rfl)) (mvT hZ (W 92 rfl)) (by decide) (backOf (W := 1) (rm_sbb l Z a0 hw [] b26 b34 T34.heap n0 Z37 f40 g27 f41 f42) hZ (W 92 rfl) (W 15 rfl) (by decide) (by decide)) (g := (mkF m 22 #[iv c1] [.int 0, .ref b34, .ref b26, .ref b26])) rfl (by rw [hml]; rfl) (Steps.refl _) (a := b26) (argsL := [.ref b34, .int 0]) (rest := [.ref b26]) (lenOf own_pd_13 rfl) rfl own_wt (hb hby own_d2_22) (fun _ _ => ⟨rfl, rfl, (by decide : 2 + 0 ≤ _), (by decide : 5 + 0 ≤ _)⟩)
  dsimp only [Pt.U, Pt.locs, Pt.cells, Pt.slots] at X43 l43 y43 z43 st43 hQ43
  subst l43 y43 z43
  obtain ⟨rfl, Nq43, K43, gE43, gV43, gC43⟩ := hQ43
  have N43 := Fr.app N34 Nq43
  have Z44 : n0 ≤ T43.heap.size := Nat.le_trans Z37 K43.1
  have O45 : Old Z n0 T43.heap := O38.keep K43 (allS g27 all0)
  have K46 : Keep h0 T43.heap [] := K39.trans K43 (allS (Or.inr g28) all0)
  have f47 := (V34.keep K43 (ninS (Ne.symm (Nat.ne_of_lt (Nat.lt_of_lt_of_le A26.lt sb34))) nin0))
  have gA := f47
  have hb1 : ∀ c ∈ ([c1] : List Int32), ¬ c < 0 ∧ ¬ (255 : Int32) < c := by
    intro c hc
    rw [List.mem_singleton] at hc; subst hc; exact ⟨hc0, ‹_›⟩
  have hS : StrB Z T43.heap T43.heap.size b26 [c1] := ⟨gE43.lt, gE43, b34, kb34, 0, 1, _, gA.lt, gV43, gC43, gA, StrChars.Road.codOf (n := 1) rfl (fun c hc => (hb1 c hc).2), own_up _ hb1, (Nat.le_of_ble_eq_true rfl)⟩
  obtain ⟨fs, hr, hrun, hended, hW, hsame⟩ := X43.leave (v := some (.ref b26)) (fun h => by rw [Bd.returns] at h; cases h)
  refine ⟨_, _, pre0 _ (?_), hrun, hended, _, _, rfl, ?_, ⟨_, rfl⟩, hW, hsame.mono (by decide) (by decide)⟩
  · show Steps _ _ _ (s₁.setTop (mkF m 0 #[iv c1] [])) _
    refine st24 _ ?_
    show Steps _ _ _ (T24.setTop (mkF m 3 #[iv c1] [.int G1])) _
    refine XS.ifNo X24.here hx rfl (hb hby own_d2_3) rfl ((if0 _ _).trans (feq (P5 : ¬ (G1 = (0 : Int32)))).1) ?_
    show Steps _ _ _ (T24.setTop (mkF m 6 _ [])) _
    refine XS.iloadN X24.here hx rfl (hb hby own_d2_6) rfl ?_
    show Steps _ _ _ (T24.setTop (mkF m 7 _ [.int c1])) _
    refine st25 _ ?_
    show Steps _ _ _ (T25.setTop (mkF m 10 #[iv c1] [.int 1])) _
    refine XS.ifNo X25.here hx rfl (hb hby own_d2_10) rfl ((if0 _ _).trans (feq ((by decide) : ¬ ((1 : Int32) = (0 : Int32)))).1) ?_
    show Steps _ _ _ (T25.setTop (mkF m 13 _ [])) _
    refine st26 _ ?_
    show Steps _ _ _ (T26.setTop (mkF m 16 #[iv c1] [.ref b26])) _
    refine XS.dup X26.here hx rfl (hb hby own_d2_16) rfl rfl ?_
    show Steps _ _ _ (T26.setTop (mkF m 17 _ [.ref b26, .ref b26])) _
    refine XS.iloadN X26.here hx rfl (hb hby own_d2_17) rfl ?_
    show Steps _ _ _ (T26.setTop (mkF m 18 _ [.int c1, .ref b26, .ref b26])) _
    refine st34 _ ?_
    show Steps _ _ _ (T34.setTop (mkF m 21 #[iv c1] [.ref b34, .ref b26, .ref b26])) _
    refine XS.iconst X34.here hx rfl (hb hby own_d2_21) ?_
    show Steps _ _ _ (T34.setTop (mkF m 22 _ [.int 0, .ref b34, .ref b26, .ref b26])) _
    refine st43.trans ?_
    show Steps _ _ _ (T43.setTop (mkF m 25 #[iv c1] [.ref b26])) _
    exact retOut X43 hx Bd.returns rfl (Or.inr (Or.inr (Or.inr (Or.inr ⟨rfl, rfl, rfl⟩)))) (hb hby own_d2_25) hr
  · show Q_svo Z c1 G1 h0 n0 _ T43.heap _
    exact ⟨b26, rfl, N43, K46, hS⟩
theorem own_d3_0 : decode jdk_42_method_149_code 0 = .ok (.aload_n 0, 1) := by decide +kernel
theorem own_d3_1 : decode jdk_42_method_149_code 1 = .ok (.invokespecial 1, 3) := by decide +kernel
theorem own_d3_4 : decode jdk_42_method_149_code 4 = .ok (.iload_n 3, 1) := by decide +kernel
theorem own_d3_5 : decode jdk_42_method_149_code 5 = .ok (.ifCond .ne 22, 3) := by decide +kernel
theorem own_d3_8 : decode jdk_42_method_149_code 8 = .ok (.aload_n 0, 1) := by decide +kernel
theorem own_d3_9 : decode jdk_42_method_149_code 9 = .ok (.ldc 7, 2) := by decide +kernel
theorem own_d3_11 : decode jdk_42_method_149_code 11 = .ok (.getfield 9, 3) := by decide +kernel
theorem own_d3_14 : decode jdk_42_method_149_code 14 = .ok (.putfield 9, 3) := by decide +kernel
theorem own_d3_17 : decode jdk_42_method_149_code 17 = .ok (.aload_n 0, 1) := by decide +kernel
theorem own_d3_18 : decode jdk_42_method_149_code 18 = .ok (.ldc 7, 2) := by decide +kernel
theorem own_d3_20 : decode jdk_42_method_149_code 20 = .ok (.getfield 15, 3) := by decide +kernel
theorem own_d3_23 : decode jdk_42_method_149_code 23 = .ok (.putfield 15, 3) := by decide +kernel
theorem own_d3_26 : decode jdk_42_method_149_code 26 = .ok (.return_, 1) := by decide +kernel
theorem own_ef_sn4_0 (m : MethodId) (x0 : Addr) (x1 : Addr) (x2 : Int32) (x3 : Int32) : entryFrame m #[(.ref x0), (.ref x1), (.int x2), (.int x3), .null] 6 = mkF m 0 #[rv x0, rv x1, iv x2, iv x3, .val .null, uu] [] := by first | (simp [entryFrame, mkF, argsToLocals, Value.category]; done) | rfl
def Q_sn4_0 (Z : State) (a1 b1 : Addr) (h0 : Heap) (n0 : Nat) (v : Option Value) (h : Heap) (L : List Loc) : Prop := v = none ∧ Fr n0 L ∧ Keep h0 h [a1] ∧ StrB Z h h.size a1 []
set_option maxRecDepth 65536 in
set_option maxHeartbeats 40000000 in
theorem rm_sn4_0 (l : Launch) (Z : State) (a0 : Array Value) (hw : ∀ d ∈ tables_1, d.before a0 Z = true) (ws : List Jvm.Cond) (a1 b1 : Addr) (h0 : Heap) (n0 : Nat) (Z0 : n0 ≤ h0.size) (E1 : Exa Z h0 a1 "java/lang/String") (g1 : n0 ≤ a1) (F1 : Fld Z h0 a1 "java/lang/String" "value" "[B" .null) (F2 : Fld Z h0 a1 "java/lang/String" "coder" "B" (.int (0 : Int32))) :
    MetFree l (⟨"java/lang/String", "<init>", "([CIILjava/lang/Void;)V"⟩ : MethodName) (head1 (Jvm.Cond.code (⟨"java/lang/String", "<init>", "([CIILjava/lang/Void;)V"⟩ : MethodName) jdk_42_method_149_code 6 none :: ws) ({ frames := 1, cells := 4, slots := 8, locals := 12 } : Room)) (fun a U => a = #[(.ref a1), (.ref b1), (.int (0 : Int32)), (.int (0 : Int32)), .null] ∧ Z.Warmed39 U.vm ∧ U.heap = h0 ∧ own_J Z own_EL [a1] h0 U.vm) (fun _ _ _ _ _ => True) (fun _ U o U' => ∃ v L, o = .returned v ∧ Q_sn4_0 Z a1 b1 h0 n0 v U'.heap L ∧ CHr Z own_EL U.vm U.heap U'.vm U'.heap ∧ ReturnedEndW U o U' L ({ frames := 1, cells := 4, slots := 8, locals := 12 } : Room).cells ({ frames := 1, cells := 4, slots := 8, locals := 12 } : Room).slots) := by
  refine MetFree.of_bodySF (plainFor_of_name own_pn_4) hisR ?_
  intro p e s m args below meth c s₁ Bd hml0 hP hK
  obtain ⟨rfl, hZ, hh, hJ⟩ := hP
  have hx := Bd.exec
  have hby := Bd.bytes
  have hml : c.maxLocals = 6 := hml0
  have hown : s.vm.findClass "java/lang/String" = some m.cls := findClass_of_methodNamed Bd.named
  have hnm := (name_of_methodNamed Bd.named Bd.method).1
  have W := own_W hw
  have X0 : Stand p l e ({ frames := 1, cells := 4, slots := 8, locals := 12 } : Room) s m #[(.ref a1), (.ref b1), (.int (0 : Int32)), (.int (0 : Int32)), .null] below meth c s₁ [] 0 0 := Stand.of_body Bd
  have e0 : s₁.heap = h0 := by rw [← hh, Bd.state]; rfl
  have N0 := Fr.nil n0
  have pre0 : ∀ tq, Steps p.tables e below (s₁.setTop (mkF m 0 #[rv a1, rv b1, iv 0, iv 0, .val .null, uu] [])) tq → Steps p.tables e below (s₁.setTop (entryFrame m #[(.ref a1), (.ref b1), (.int (0 : Int32)), (.int (0 : Int32)), .null] 6)) tq := fun tq k => castTop (own_ef_sn4_0 m a1 b1 (0 : Int32) (0 : Int32)) k
  have hEL := own_EW hw
  have wS : ∀ d ∈ Bundle.stringAtoms, d.before a0 Z = true := fun d hd => hw d ((by decide +kernel : ∀ d ∈ Bundle.stringAtoms, d ∈ tables_1) d hd)
  have hS0 : s.Since s.vm 0 := (State.WarmedH.refl s).since 0
  have hk0 : 0 ≤ h0.size := Nat.zero_le _
  have CH0 : CHv Z own_EL s.vm h0 := hJ.1
  have CR0 : CHr Z own_EL s.vm h0 s.vm h0 := CHr.refl CH0
  have X0 : Stand p l e ({ frames := 1, cells := 4, slots := 8, locals := 12 } : Room) (s.setVm s.vm) m #[(.ref a1), (.ref b1), (.int (0 : Int32)), (.int (0 : Int32)), .null] below meth c s₁ [] 0 0 := X0
  have sf_a1 : Safe Z own_EL s.vm h0 a1 := hJ.2 a1 (by simp)
  have K48 : Keep h0 h0 [a1] := Keep.refl h0 [a1]
  obtain ⟨T49, X49, e49, st49⟩ := initO X0 hx hZ hown (W 24 rfl) (W 25 rfl) (W 26 rfl) e0 (g := (mkF m 1 #[rv a1, rv b1, iv 0, iv 0, .val .null, uu] [.ref a1])) rfl (by rw [hml]; rfl) rfl (hb hby own_d3_1) (by decide) (W := 0) own_wt (by decide)
  obtain ⟨la50, T50, h50, kx50, lb50, lk50, X50, e50, E50, hS50, hk50, hZ50, hown50, lE50, lC50, lV50, lA50, l150, l250, A50, lL50, lsf50, st50⟩ := ldcCH (s := s) X49 hx hZ hown (W 43 rfl) wS e49 hS0 hk0 hEL (by simp) CH0 (vs := []) (z := (0 : Int32)) ⟨by decide, by rfl⟩ (by decide) rfl (g := (mkF m 9 #[rv a1, rv b1, iv 0, iv 0, .val .null, uu] [.ref a1])) rfl (hb hby own_d3_9) (n := 0) (by decide) (by decide) (by decide) (by decide)
  have CR51 := CR0.trans A50
  have Z52 : n0 ≤ h50.size := Nat.le_trans Z0 E50.1
  have K53 : Keep h0 h50 [a1] := K48.ext E50
  have f54 := (A50.safe E1.lt sf_a1)
  have hna50 := lsf50 a1 f54
  obtain ⟨T55, X55, e55, st55⟩ := getF X50 hx hZ50 hown50 (host := "") (Or.inl (W 41 rfl)) Via.refl e50 lV50 (g := (mkF m 11 #[rv a1, rv b1, iv 0, iv 0, .val .null, uu] [.ref la50, .ref a1])) rfl rfl (hb hby own_d3_11)
  have f57 := (F1.ext E50)
  have f58 := (E1.ext E50)
  obtain ⟨T56, h56, X56, e56, W56, st56⟩ := putF X55 hx hZ50 hown50 (host := "") (Or.inl (W 41 rfl)) Via.refl e55 f57 f58 (Or.inr ⟨(W 42 rfl), rfl, hnm⟩) (W 14 rfl) (ty := (.array .byte)) (by decide) rfl rfl (g := (mkF m 14 #[rv a1, rv b1, iv 0, iv 0, .val .null, uu] [.ref lb50, .ref a1])) rfl rfl (hb hby own_d3_14)
  have N56 := Fr.snoc X56 N0 g1
  have Fw56 := f57.same W56
  have CR59 := CR51.trans (CHr.wr W56 f54 CR51.1)
  have Z60 : n0 ≤ h56.size := Nat.le_trans Z52 (Keep.of_wr W56).1
  have K61 : Keep h0 h56 [a1] := K53.wr W56 (Or.inl (List.mem_of_getElem? (i := 0) rfl))
  have hk62 := Nat.le_trans hk50 (Keep.of_wr W56).1
  obtain ⟨la63, T63, h63, kx63, lb63, lk63, X63, e63, E63, hS63, hk63, hZ63, hown63, lE63, lC63, lV63, lA63, l163, l263, A63, lL63, lsf63, st63⟩ := ldcCH (s := s) X56 hx hZ50 hown50 (W 43 rfl) wS e56 hS50 hk62 hEL (by simp) CR59.1 (vs := []) (z := (0 : Int32)) ⟨by decide, by rfl⟩ (by decide) rfl (g := (mkF m 18 #[rv a1, rv b1, iv 0, iv 0, .val .null, uu] [.ref a1])) rfl (hb hby own_d3_18) (n := 0) (by decide) (by decide) (by decide) (by decide)
  have CR64 := CR59.trans A63
  have Z65 : n0 ≤ h63.size := Nat.le_trans Z60 E63.1
  have K66 : Keep h0 h63 [a1] := K61.ext E63
  have f67 := (Nat.lt_of_lt_of_le E1.lt E50.1)
  have f68 := (Nat.lt_of_lt_of_le f67 (Keep.of_wr W56).1)
  have f69 := (A63.safe f68 ((CHr.wr W56 f54 CR51.1).safe f67 f54))
  have hna63 := lsf63 a1 f69
  obtain ⟨T70, X70, e70, st70⟩ := getF X63 hx hZ63 hown63 (host := "") (Or.inl (W 39 rfl)) Via.refl e63 lC63 (g := (mkF m 20 #[rv a1, rv b1, iv 0, iv 0, .val .null, uu] [.ref la63, .ref a1])) rfl rfl (hb hby own_d3_20)
  have f72 := (((F2.ext E50).other W56 (Or.inr (slot_ne (Or.inr (W 40 rfl)) (Or.inr (W 42 rfl)) (by decide) (t := .byte) (t' := (.array .byte)) (by decide) (by decide)))).ext E63)
  have f73 := ((f58.wr W56).ext E63)
  obtain ⟨T71, h71, X71, e71, W71, st71⟩ := putFN X70 hx hZ63 hown63 (W 39 rfl) Via.refl e70 f72 f73 (Or.inr ⟨(W 40 rfl), rfl, hnm⟩) (W 14 rfl) (ty := .byte) (v' := (.int (0 : Int32))) (by decide) rfl rfl (g := (mkF m 23 #[rv a1, rv b1, iv 0, iv 0, .val .null, uu] [.int 0, .ref a1])) rfl rfl (hb hby own_d3_23)
  have N71 := Fr.snoc X71 N56 g1
  have Fw71 := f72.same W71
  have CR74 := CR64.trans (CHr.wr W71 f69 CR64.1)
  have Z75 : n0 ≤ h71.size := Nat.le_trans Z65 (Keep.of_wr W71).1
  have K76 : Keep h0 h71 [a1] := K66.wr W71 (Or.inl (List.mem_of_getElem? (i := 0) rfl))
  have hk77 := Nat.le_trans hk63 (Keep.of_wr W71).1
  have f78 := (f73.wr W71)
  have f79 := (((lA50.other W56 (Ne.symm hna50.2)).ext E63).other W71 (Ne.symm hna50.2))
  have f80 := ((Fw56.ext E63).other W71 (Or.inr (slot_ne (Or.inr (W 42 rfl)) (Or.inr (W 40 rfl)) (by decide) (t := (.array .byte)) (t' := .byte) (by decide) (by decide))))
  have hS : StrB Z h71 h71.size a1 [] := ⟨f78.lt, f78, lb50, lk50, 0, 0, [], f79.lt, f80, Fw71, f79, Or.inl ⟨rfl, rfl, rfl, fun c hc => by cases hc⟩, (fun c hc => by cases hc), (by decide)⟩
  have CRe := CR74.trans (CHv.at X71 hZ63 hEL CR74.1)
  obtain ⟨fs, hr, hrun, hended, hRW⟩ := X71.leaveW hS63 (by rw [e71]; exact hk77) (v := none) (fun _ => rfl)
  refine ⟨_, _, pre0 _ (?_), hrun, hended, _, _, rfl, ?_, (by rw [hh]; show CHr Z _ s.vm h0 T71.vm T71.heap; rw [e71]; exact CRe), hRW.1, hRW.2.1, hRW.2.2.1, hRW.2.2.2.mono (by decide) (by decide)⟩
  · show Steps _ _ _ (s₁.setTop (mkF m 0 #[rv a1, rv b1, iv 0, iv 0, .val .null, uu] [])) _
    refine XS.aloadN X0.here hx rfl (hb hby own_d3_0) rfl rfl ?_
    show Steps _ _ _ (s₁.setTop (mkF m 1 _ [.ref a1])) _
    refine st49 _ ?_
    show Steps _ _ _ (T49.setTop (mkF m 4 #[rv a1, rv b1, iv 0, iv 0, .val .null, uu] [])) _
    refine XS.iloadN X49.here hx rfl (hb hby own_d3_4) rfl ?_
    show Steps _ _ _ (T49.setTop (mkF m 5 _ [.int 0])) _
    refine XS.ifNo X49.here hx rfl (hb hby own_d3_5) rfl ((if0 _ _).trans (teq (rfl : (0 : Int32) = (0 : Int32))).2) ?_
    show Steps _ _ _ (T49.setTop (mkF m 8 _ [])) _
    refine XS.aloadN X49.here hx rfl (hb hby own_d3_8) rfl rfl ?_
    show Steps _ _ _ (T49.setTop (mkF m 9 _ [.ref a1])) _
    refine st50 _ ?_
    show Steps _ _ _ (T50.setTop (mkF m 11 #[rv a1, rv b1, iv 0, iv 0, .val .null, uu] [.ref la50, .ref a1])) _
    refine st55 _ ?_
    show Steps _ _ _ (T55.setTop (mkF m 14 #[rv a1, rv b1, iv 0, iv 0, .val .null, uu] [.ref lb50, .ref a1])) _
    refine st56 _ ?_
    show Steps _ _ _ (T56.setTop (mkF m 17 #[rv a1, rv b1, iv 0, iv 0, .val .null, uu] [])) _
    refine XS.aloadN X56.here hx rfl (hb hby own_d3_17) rfl rfl ?_
    show Steps _ _ _ (T56.setTop (mkF m 18 _ [.ref a1])) _
    refine st63 _ ?_
    show Steps _ _ _ (T63.setTop (mkF m 20 #[rv a1, rv b1, iv 0, iv 0, .val .null, uu] [.ref la63, .ref a1])) _
    refine st70 _ ?_
    show Steps _ _ _ (T70.setTop (mkF m 23 #[rv a1, rv b1, iv 0, iv 0, .val .null, uu] [.int 0, .ref a1])) _
    refine st71 _ ?_
    show Steps _ _ _ (T71.setTop (mkF m 26 #[rv a1, rv b1, iv 0, iv 0, .val .null, uu] [])) _
    exact X71.returnOut hx Bd.returns (hb hby own_d3_26) hr
  · show Q_sn4_0 Z a1 b1 h0 n0 _ T71.heap _
    rw [e71]
    exact ⟨rfl, N71, K76, hS⟩
theorem own_d5_0 : decode jdk_42_method_3_code 0 = .ok (.aload_n 0, 1) := by decide +kernel
theorem own_d5_1 : decode jdk_42_method_3_code 1 = .ok (.aload_n 1, 1) := by decide +kernel
theorem own_d5_2 : decode jdk_42_method_3_code 2 = .ok (.iconst 0, 1) := by decide +kernel
theorem own_d5_3 : decode jdk_42_method_3_code 3 = .ok (.aload_n 1, 1) := by decide +kernel
theorem own_d5_4 : decode jdk_42_method_3_code 4 = .ok (.arraylength, 1) := by decide +kernel
theorem own_d5_5 : decode jdk_42_method_3_code 5 = .ok (.aconst_null, 1) := by decide +kernel
theorem own_d5_6 : decode jdk_42_method_3_code 6 = .ok (.invokespecial 27, 3) := by decide +kernel
theorem own_pd_3 : parseMethodDescriptor "([CIILjava/lang/Void;)V" = some ⟨[(.array .char), .int, .int, (.object "java/lang/Void")], none⟩ := by decide +kernel
theorem own_d5_9 : decode jdk_42_method_3_code 9 = .ok (.return_, 1) := by decide +kernel
theorem own_ef_snew0 (m : MethodId) (x0 : Addr) (x1 : Addr) : entryFrame m #[(.ref x0), (.ref x1)] 2 = mkF m 0 #[rv x0, rv x1] [] := by first | (simp [entryFrame, mkF, argsToLocals, Value.category]; done) | rfl
def Q_snew0 (Z : State) (a1 b1 : Addr) (kc : ClassId) (h0 : Heap) (n0 : Nat) (v : Option Value) (h : Heap) (L : List Loc) : Prop := v = none ∧ Fr n0 L ∧ Keep h0 h [a1] ∧ StrB Z h h.size a1 []
set_option maxRecDepth 65536 in
set_option maxHeartbeats 40000000 in
theorem rm_snew0 (l : Launch) (Z : State) (a0 : Array Value) (hw : ∀ d ∈ tables_1, d.before a0 Z = true) (ws : List Jvm.Cond) (a1 b1 : Addr) (kc : ClassId) (h0 : Heap) (n0 : Nat) (Z0 : n0 ≤ h0.size) (V1 : Arv Z h0 b1 kc .char (0 : Int32) [] (.int 0)) (E1 : Exa Z h0 a1 "java/lang/String") (g1 : n0 ≤ a1) (F1 : Fld Z h0 a1 "java/lang/String" "value" "[B" .null) (F2 : Fld Z h0 a1 "java/lang/String" "coder" "B" (.int (0 : Int32))) :
    MetFree l (⟨"java/lang/String", "<init>", "([C)V"⟩ : MethodName) (head1 (Jvm.Cond.code (⟨"java/lang/String", "<init>", "([C)V"⟩ : MethodName) jdk_42_method_3_code 2 none :: ws) ({ frames := 2, cells := 4, slots := 8, locals := 32 } : Room)) (fun a U => a = #[(.ref a1), (.ref b1)] ∧ Z.Warmed39 U.vm ∧ U.heap = h0 ∧ own_J Z own_EL [a1] h0 U.vm) (fun _ _ _ _ _ => True) (fun _ U o U' => ∃ v L, o = .returned v ∧ Q_snew0 Z a1 b1 kc h0 n0 v U'.heap L ∧ CHr Z own_EL U.vm U.heap U'.vm U'.heap ∧ ReturnedEndW U o U' L ({ frames := 2, cells := 4, slots := 8, locals := 32 } : Room).cells ({ frames := 2, cells := 4, slots := 8, locals := 32 } : Room).slots) := by
  refine MetFree.of_bodySF (plainFor_of_name own_pn_4) hisR ?_
  intro p e s m args below meth c s₁ Bd hml0 hP hK
  obtain ⟨rfl, hZ, hh, hJ⟩ := hP
  have hx := Bd.exec
  have hby := Bd.bytes
  have hml : c.maxLocals = 2 := hml0
  have hown : s.vm.findClass "java/lang/String" = some m.cls := findClass_of_methodNamed Bd.named
  have hnm := (name_of_methodNamed Bd.named Bd.method).1
  have W := own_W hw
  have X0 : Stand p l e ({ frames := 2, cells := 4, slots := 8, locals := 32 } : Room) s m #[(.ref a1), (.ref b1)] below meth c s₁ [] 0 0 := Stand.of_body Bd
  have e0 : s₁.heap = h0 := by rw [← hh, Bd.state]; rfl
  have N0 := Fr.nil n0
  have pre0 : ∀ tq, Steps p.tables e below (s₁.setTop (mkF m 0 #[rv a1, rv b1] [])) tq → Steps p.tables e below (s₁.setTop (entryFrame m #[(.ref a1), (.ref b1)] 2)) tq := fun tq k => castTop (own_ef_snew0 m a1 b1) k
  have hEL := own_EW hw
  have wS : ∀ d ∈ Bundle.stringAtoms, d.before a0 Z = true := fun d hd => hw d ((by decide +kernel : ∀ d ∈ Bundle.stringAtoms, d ∈ tables_1) d hd)
  have hS0 : s.Since s.vm 0 := (State.WarmedH.refl s).since 0
  have hk0 : 0 ≤ h0.size := Nat.zero_le _
  have CH0 : CHv Z own_EL s.vm h0 := hJ.1
  have CR0 : CHr Z own_EL s.vm h0 s.vm h0 := CHr.refl CH0
  have X0 : Stand p l e ({ frames := 2, cells := 4, slots := 8, locals := 32 } : Room) (s.setVm s.vm) m #[(.ref a1), (.ref b1)] below meth c s₁ [] 0 0 := X0
  have sf_a1 : Safe Z own_EL s.vm h0 a1 := hJ.2 a1 (by simp)
  have K81 : Keep h0 h0 [a1] := Keep.refl h0 [a1]
  obtain ⟨cl82, Ar82, aq82, aS82, aN82, aH82, aG82⟩ := id V1
  obtain ⟨_, _, ⟨T83, L83, k83, n83⟩, -, Xw83, hSw83, hgw83, ⟨Lc83, hQ83, l83, y83, z83, A83⟩, st83⟩ := X0.specialBackS hx (y := (⟨"java/lang/String", "<init>", "([CIILjava/lang/Void;)V"⟩ : MethodName)) rfl hown (mvT hZ (W 20 rfl)) (mvT hZ (W 21 rfl)) (mvT hZ (W 23 rfl)) (by decide) (own_backX (s := s) (W := 0) (rm_sn4_0 l Z a0 hw [] a1 b1 h0 n0 Z0 E1 g1 F1 F2) hZ (W 23 rfl) (W 15 rfl) (by decide) (by decide) hEL (xs := [a1]) ⟨CH0, (allS sf_a1 all0)⟩ (allS E1.lt all0)) (g := (mkF m 6 #[rv a1, rv b1] [.null, .int 0, .int 0, .ref b1, .ref a1])) rfl (by rw [hml]; rfl) (Steps.refl _) (a := a1) (argsL := [.ref b1, .int 0, .int 0, .null]) (rest := []) (lenOf own_pd_3 rfl) rfl own_wt (hb hby own_d5_6) (fun _ _ => ⟨rfl, e0, (by decide : 0 + 4 ≤ _), (by decide : 0 + 8 ≤ _)⟩)
  dsimp only [Pt.U, Pt.locs, Pt.cells, Pt.slots] at Xw83 hSw83 hgw83 l83 y83 z83 A83 st83 hQ83
  subst l83 y83 z83
  obtain ⟨X83, hS83, hZ83, hown83⟩ := rebS (s := s) (T := T83) hS0 hk0 Xw83 hSw83 (by rw [← e0]; exact hgw83) hZ hown
  have hk83 : T83.heap.size ≤ T83.heap.size := Nat.le_refl _
  obtain ⟨rfl, Nq83, K83, hS⟩ := hQ83
  have N83 := Fr.app N0 Nq83
  have CR84 := CR0.trans A83
  have Z85 : n0 ≤ T83.heap.size := Nat.le_trans Z0 K83.1
  have K86 : Keep h0 T83.heap [a1] := K81.trans K83 (allS (Or.inl (List.mem_of_getElem? (i := 0) rfl)) all0)
  have CRe := CR84.trans (CHv.at X83 hZ83 hEL CR84.1)
  obtain ⟨fs, hr, hrun, hended, hRW⟩ := X83.leaveW hS83 hk83 (v := none) (fun _ => rfl)
  refine ⟨_, _, pre0 _ (?_), hrun, hended, _, _, rfl, ?_, (by rw [hh]; show CHr Z _ s.vm h0 T83.vm T83.heap; exact CRe), hRW.1, hRW.2.1, hRW.2.2.1, hRW.2.2.2.mono (by decide) (by decide)⟩
  · show Steps _ _ _ (s₁.setTop (mkF m 0 #[rv a1, rv b1] [])) _
    refine XS.aloadN X0.here hx rfl (hb hby own_d5_0) rfl rfl ?_
    show Steps _ _ _ (s₁.setTop (mkF m 1 _ [.ref a1])) _
    refine XS.aloadN X0.here hx rfl (hb hby own_d5_1) rfl rfl ?_
    show Steps _ _ _ (s₁.setTop (mkF m 2 _ [.ref b1, .ref a1])) _
    refine XS.iconst X0.here hx rfl (hb hby own_d5_2) ?_
    show Steps _ _ _ (s₁.setTop (mkF m 3 _ [.int 0, .ref b1, .ref a1])) _
    refine XS.aloadN X0.here hx rfl (hb hby own_d5_3) rfl rfl ?_
    show Steps _ _ _ (s₁.setTop (mkF m 4 _ [.ref b1, .int 0, .ref b1, .ref a1])) _
    refine X0.arraylength hx (by rw [e0]; exact Ar82.1) (State.isArrayOf_alike hZ.alike Ar82.2.1) (g := (mkF m 4 #[rv a1, rv b1] [.ref b1, .int 0, .ref b1, .ref a1])) rfl rfl (hb hby own_d5_4) _ ?_
    rw [len_of aS82 aN82]
    show Steps _ _ _ (s₁.setTop (mkF m 5 #[rv a1, rv b1] [.int 0, .int 0, .ref b1, .ref a1])) _
    refine XS.aconstNull X0.here hx rfl (hb hby own_d5_5) ?_
    show Steps _ _ _ (s₁.setTop (mkF m 6 _ [.null, .int 0, .int 0, .ref b1, .ref a1])) _
    refine st83.trans ?_
    show Steps _ _ _ (T83.setTop (mkF m 9 #[rv a1, rv b1] [])) _
    exact X83.returnOut hx Bd.returns (hb hby own_d5_9) hr
  · show Q_snew0 Z a1 b1 kc h0 n0 _ T83.heap _
    exact ⟨rfl, N83, K86, hS⟩
theorem own_pn_1 : plainName "itemwright/expression/TokenIsPinLaw" = true := by decide +kernel
theorem own_d13_0 : decode method_2_code 0 = .ok (.iload_n 0, 1) := by decide +kernel
theorem own_d13_1 : decode method_2_code 1 = .ok (.ifCond .ne 7, 3) := by decide +kernel
theorem own_d13_4 : decode method_2_code 4 = .ok (.getstatic 7, 3) := by decide +kernel
theorem own_d13_7 : decode method_2_code 7 = .ok (.areturn, 1) := by decide +kernel
theorem own_d13_8 : decode method_2_code 8 = .ok (.iload_n 0, 1) := by decide +kernel
theorem own_d13_9 : decode method_2_code 9 = .ok (.iconst 1, 1) := by decide +kernel
theorem own_d13_10 : decode method_2_code 10 = .ok (.if_icmp .ne 7, 3) := by decide +kernel
theorem own_d13_13 : decode method_2_code 13 = .ok (.getstatic 13, 3) := by decide +kernel
theorem own_d13_16 : decode method_2_code 16 = .ok (.areturn, 1) := by decide +kernel
theorem own_d13_17 : decode method_2_code 17 = .ok (.iload_n 0, 1) := by decide +kernel
theorem own_d13_18 : decode method_2_code 18 = .ok (.iconst 2, 1) := by decide +kernel
theorem own_d13_19 : decode method_2_code 19 = .ok (.if_icmp .ne 7, 3) := by decide +kernel
theorem own_d13_22 : decode method_2_code 22 = .ok (.getstatic 16, 3) := by decide +kernel
theorem own_d13_25 : decode method_2_code 25 = .ok (.areturn, 1) := by decide +kernel
theorem own_d13_26 : decode method_2_code 26 = .ok (.iload_n 0, 1) := by decide +kernel
theorem own_d13_27 : decode method_2_code 27 = .ok (.iconst 3, 1) := by decide +kernel
theorem own_d13_28 : decode method_2_code 28 = .ok (.if_icmp .ne 7, 3) := by decide +kernel
theorem own_d13_31 : decode method_2_code 31 = .ok (.getstatic 19, 3) := by decide +kernel
theorem own_d13_34 : decode method_2_code 34 = .ok (.areturn, 1) := by decide +kernel
theorem own_d13_35 : decode method_2_code 35 = .ok (.iload_n 0, 1) := by decide +kernel
theorem own_d13_36 : decode method_2_code 36 = .ok (.iconst 4, 1) := by decide +kernel
theorem own_d13_37 : decode method_2_code 37 = .ok (.if_icmp .ne 7, 3) := by decide +kernel
theorem own_d13_40 : decode method_2_code 40 = .ok (.getstatic 22, 3) := by decide +kernel
theorem own_d13_43 : decode method_2_code 43 = .ok (.areturn, 1) := by decide +kernel
theorem own_d13_44 : decode method_2_code 44 = .ok (.iload_n 0, 1) := by decide +kernel
theorem own_d13_45 : decode method_2_code 45 = .ok (.iconst 5, 1) := by decide +kernel
theorem own_d13_46 : decode method_2_code 46 = .ok (.if_icmp .ne 7, 3) := by decide +kernel
theorem own_d13_49 : decode method_2_code 49 = .ok (.getstatic 25, 3) := by decide +kernel
theorem own_d13_52 : decode method_2_code 52 = .ok (.areturn, 1) := by decide +kernel
theorem own_d13_53 : decode method_2_code 53 = .ok (.getstatic 28, 3) := by decide +kernel
theorem own_d13_56 : decode method_2_code 56 = .ok (.areturn, 1) := by decide +kernel
theorem own_ef_kof (m : MethodId) (x0 : Int32) : entryFrame m #[(.int x0)] 1 = mkF m 0 #[iv x0] [] := by first | (simp [entryFrame, mkF, argsToLocals, Value.category]; done) | rfl
def Q_kof (Z : State) (i1 : Int32) (kn k1 k2 k3 kc ku ke : Addr) (h0 : Heap) (n0 : Nat) (v : Option Value) (h : Heap) (L : List Loc) : Prop := ∃ kA, v = some (.ref kA) ∧ Fr n0 L ∧ h = h0 ∧ ((i1 = 4 ∨ i1 = 5) ↔ (kA = ku ∨ kA = kc))
set_option maxRecDepth 65536 in
set_option maxHeartbeats 40000000 in
theorem rm_kof (l : Launch) (Z : State) (a0 : Array Value) (hw : ∀ d ∈ tables_1, d.before a0 Z = true) (ws : List Jvm.Cond) (i1 : Int32) (kn k1 k2 k3 kc ku ke : Addr) (h0 : Heap) (n0 : Nat) (Z0 : n0 ≤ h0.size) (X00 : Old Z n0 h0) (Skn : Sta Z Z.heap "itemwright/expression/Lexer$Kind" "NAME" "Litemwright/expression/Lexer$Kind;" (.ref kn)) (Sk1 : Sta Z Z.heap "itemwright/expression/Lexer$Kind" "NAME_PLACEHOLDER" "Litemwright/expression/Lexer$Kind;" (.ref k1)) (Sk2 : Sta Z Z.heap "itemwright/expression/Lexer$Kind" "VALUE_PLACEHOLDER" "Litemwright/expression/Lexer$Kind;" (.ref k2)) (Sk3 : Sta Z Z.heap "itemwright/expression/Lexer$Kind" "INTEGER" "Litemwright/expression/Lexer$Kind;" (.ref k3)) (Skc : Sta Z Z.heap "itemwright/expression/Lexer$Kind" "COMPARATOR" "Litemwright/expression/Lexer$Kind;" (.ref kc)) (Sku : Sta Z Z.heap "itemwright/expression/Lexer$Kind" "PUNCTUATION" "Litemwright/expression/Lexer$Kind;" (.ref ku)) (Ske : Sta Z Z.heap "itemwright/expression/Lexer$Kind" "END" "Litemwright/expression/Lexer$Kind;" (.ref ke)) (Dkn : ¬ kn = ku ∧ ¬ kn = kc) (Dk1 : ¬ k1 = ku ∧ ¬ k1 = kc) (Dk2 : ¬ k2 = ku ∧ ¬ k2 = kc) (Dk3 : ¬ k3 = ku ∧ ¬ k3 = kc) (Dke : ¬ ke = ku ∧ ¬ ke = kc) :
    MetFree l (⟨"itemwright/expression/TokenIsPinLaw", "kindOf", "(I)Litemwright/expression/Lexer$Kind;"⟩ : MethodName) (head1 (Jvm.Cond.code (⟨"itemwright/expression/TokenIsPinLaw", "kindOf", "(I)Litemwright/expression/Lexer$Kind;"⟩ : MethodName) method_2_code 1 (some (.object "itemwright/expression/Lexer$Kind")) :: ws) ({ frames := 0, cells := 0, slots := 0, locals := 0 } : Room)) (fun a U => a = #[(.int i1)] ∧ Z.Warmed39 U.vm ∧ U.heap = h0) (fun _ _ _ _ _ => True) (fun _ U o U' => ∃ v L, o = .returned v ∧ Q_kof Z i1 kn k1 k2 k3 kc ku ke h0 n0 v U'.heap L ∧ FrameEnd U o U' L ({ frames := 0, cells := 0, slots := 0, locals := 0 } : Room).cells ({ frames := 0, cells := 0, slots := 0, locals := 0 } : Room).slots) := by
  refine MetFree.of_bodySF (plainFor_of_name own_pn_1) hisR ?_
  intro p e s m args below meth c s₁ Bd hml0 hP hK
  obtain ⟨rfl, hZ, hh⟩ := hP
  have hx := Bd.exec
  have hby := Bd.bytes
  have hml : c.maxLocals = 1 := hml0
  have hown : s.vm.findClass "itemwright/expression/TokenIsPinLaw" = some m.cls := findClass_of_methodNamed Bd.named
  have hnm := (name_of_methodNamed Bd.named Bd.method).1
  have W := own_W hw
  have X0 : Stand p l e ({ frames := 0, cells := 0, slots := 0, locals := 0 } : Room) s m #[(.int i1)] below meth c s₁ [] 0 0 := Stand.of_body Bd
  have e0 : s₁.heap = h0 := by rw [← hh, Bd.state]; rfl
  have N0 := Fr.nil n0
  have pre0 : ∀ tq, Steps p.tables e below (s₁.setTop (mkF m 0 #[iv i1] [])) tq → Steps p.tables e below (s₁.setTop (entryFrame m #[(.int i1)] 1)) tq := fun tq k => castTop (own_ef_kof m i1) k
  by_cases h0_ : i1 = (0 : Int32)
  · obtain ⟨T87, X87, e87, st87⟩ := getS2 X0 hx hZ hown (host := "") (Or.inl (W 5 rfl)) Via.refl e0 (Skn.ext X00.2) (g := (mkF m 4 #[iv i1] [])) rfl (hb hby own_d13_4)
    obtain ⟨fs, hr, hrun, hended, hW, hsame⟩ := X87.leave (v := some (.ref kn)) (fun h => by rw [Bd.returns] at h; cases h)
    refine ⟨_, _, pre0 _ (?_), hrun, hended, _, _, rfl, ?_, ⟨_, rfl⟩, hW, hsame.mono (by decide) (by decide)⟩
    · show Steps _ _ _ (s₁.setTop (mkF m 0 #[iv i1] [])) _
      refine XS.iloadN X0.here hx rfl (hb hby own_d13_0) rfl ?_
      show Steps _ _ _ (s₁.setTop (mkF m 1 _ [.int i1])) _
      refine XS.ifNo X0.here hx rfl (hb hby own_d13_1) rfl ((if0 _ _).trans (teq (h0_ : i1 = (0 : Int32))).2) ?_
      show Steps _ _ _ (s₁.setTop (mkF m 4 _ [])) _
      refine st87 _ ?_
      show Steps _ _ _ (T87.setTop (mkF m 7 #[iv i1] [.ref kn])) _
      exact retOut X87 hx Bd.returns rfl (Or.inr (Or.inr (Or.inr (Or.inr ⟨rfl, rfl, rfl⟩)))) (hb hby own_d13_7) hr
    · show Q_kof Z i1 kn k1 k2 k3 kc ku ke h0 n0 _ T87.heap _
      rw [e87]
      exact ⟨kn, rfl, N0, rfl, ⟨fun q => by subst h0_; exact absurd q (by decide), fun q => absurd q (not_or.mpr Dkn)⟩⟩
  · by_cases h1_ : i1 = (1 : Int32)
    · obtain ⟨T88, X88, e88, st88⟩ := getS2 X0 hx hZ hown (host := "") (Or.inl (W 77 rfl)) Via.refl e0 (Sk1.ext X00.2) (g := (mkF m 13 #[iv i1] [])) rfl (hb hby own_d13_13)
      obtain ⟨fs, hr, hrun, hended, hW, hsame⟩ := X88.leave (v := some (.ref k1)) (fun h => by rw [Bd.returns] at h; cases h)
      refine ⟨_, _, pre0 _ (?_), hrun, hended, _, _, rfl, ?_, ⟨_, rfl⟩, hW, hsame.mono (by decide) (by decide)⟩
      · show Steps _ _ _ (s₁.setTop (mkF m 0 #[iv i1] [])) _
        refine XS.iloadN X0.here hx rfl (hb hby own_d13_0) rfl ?_
        show Steps _ _ _ (s₁.setTop (mkF m 1 _ [.int i1])) _
        refine XS.ifYes X0.here hx rfl (pc0 := 1) (pc' := 8) rfl (hb hby own_d13_1) rfl ((if0 _ _).trans (feq (h0_ : ¬ (i1 = (0 : Int32)))).2) (by decide) (by decide) ?_
        show Steps _ _ _ (s₁.setTop (mkF m 8 _ [])) _
        refine XS.iloadN X0.here hx rfl (hb hby own_d13_8) rfl ?_
        show Steps _ _ _ (s₁.setTop (mkF m 9 _ [.int i1])) _
        refine XS.iconst X0.here hx rfl (hb hby own_d13_9) ?_
        show Steps _ _ _ (s₁.setTop (mkF m 10 _ [.int 1, .int i1])) _
        refine XS.icmpNo X0.here hx rfl (hb hby own_d13_10) rfl (teq (h1_ : i1 = (1 : Int32))).2 ?_
        show Steps _ _ _ (s₁.setTop (mkF m 13 _ [])) _
        refine st88 _ ?_
        show Steps _ _ _ (T88.setTop (mkF m 16 #[iv i1] [.ref k1])) _
        exact retOut X88 hx Bd.returns rfl (Or.inr (Or.inr (Or.inr (Or.inr ⟨rfl, rfl, rfl⟩)))) (hb hby own_d13_16) hr
      · show Q_kof Z i1 kn k1 k2 k3 kc ku ke h0 n0 _ T88.heap _
        rw [e88]
        exact ⟨k1, rfl, N0, rfl, ⟨fun q => by subst h1_; exact absurd q (by decide), fun q => absurd q (not_or.mpr Dk1)⟩⟩
    · by_cases h2_ : i1 = (2 : Int32)
      · obtain ⟨T89, X89, e89, st89⟩ := getS2 X0 hx hZ hown (host := "") (Or.inl (W 93 rfl)) Via.refl e0 (Sk2.ext X00.2) (g := (mkF m 22 #[iv i1] [])) rfl (hb hby own_d13_22)
        obtain ⟨fs, hr, hrun, hended, hW, hsame⟩ := X89.leave (v := some (.ref k2)) (fun h => by rw [Bd.returns] at h; cases h)
        refine ⟨_, _, pre0 _ (?_), hrun, hended, _, _, rfl, ?_, ⟨_, rfl⟩, hW, hsame.mono (by decide) (by decide)⟩
        · show Steps _ _ _ (s₁.setTop (mkF m 0 #[iv i1] [])) _
          refine XS.iloadN X0.here hx rfl (hb hby own_d13_0) rfl ?_
          show Steps _ _ _ (s₁.setTop (mkF m 1 _ [.int i1])) _
          refine XS.ifYes X0.here hx rfl (pc0 := 1) (pc' := 8) rfl (hb hby own_d13_1) rfl ((if0 _ _).trans (feq (h0_ : ¬ (i1 = (0 : Int32)))).2) (by decide) (by decide) ?_
          show Steps _ _ _ (s₁.setTop (mkF m 8 _ [])) _
          refine XS.iloadN X0.here hx rfl (hb hby own_d13_8) rfl ?_
          show Steps _ _ _ (s₁.setTop (mkF m 9 _ [.int i1])) _
          refine XS.iconst X0.here hx rfl (hb hby own_d13_9) ?_
          show Steps _ _ _ (s₁.setTop (mkF m 10 _ [.int 1, .int i1])) _
          refine XS.icmpYes X0.here hx rfl (pc0 := 10) (pc' := 17) rfl (hb hby own_d13_10) rfl (feq (h1_ : ¬ (i1 = (1 : Int32)))).2 (by decide) (by decide) ?_
          show Steps _ _ _ (s₁.setTop (mkF m 17 _ [])) _
          refine XS.iloadN X0.here hx rfl (hb hby own_d13_17) rfl ?_
          show Steps _ _ _ (s₁.setTop (mkF m 18 _ [.int i1])) _
          refine XS.iconst X0.here hx rfl (hb hby own_d13_18) ?_
          show Steps _ _ _ (s₁.setTop (mkF m 19 _ [.int 2, .int i1])) _
          refine XS.icmpNo X0.here hx rfl (hb hby own_d13_19) rfl (teq (h2_ : i1 = (2 : Int32))).2 ?_
          show Steps _ _ _ (s₁.setTop (mkF m 22 #[iv i1] [])) _
          refine st89 _ ?_
          show Steps _ _ _ (T89.setTop (mkF m 25 #[iv i1] [.ref k2])) _
          exact retOut X89 hx Bd.returns rfl (Or.inr (Or.inr (Or.inr (Or.inr ⟨rfl, rfl, rfl⟩)))) (hb hby own_d13_25) hr
        · show Q_kof Z i1 kn k1 k2 k3 kc ku ke h0 n0 _ T89.heap _
          rw [e89]
          exact ⟨k2, rfl, N0, rfl, ⟨fun q => by subst h2_; exact absurd q (by decide), fun q => absurd q (not_or.mpr Dk2)⟩⟩
      · by_cases h3_ : i1 = (3 : Int32)
        · obtain ⟨T90, X90, e90, st90⟩ := getS2 X0 hx hZ hown (host := "") (Or.inl (W 73 rfl)) Via.refl e0 (Sk3.ext X00.2) (g := (mkF m 31 #[iv i1] [])) rfl (hb hby own_d13_31)
          obtain ⟨fs, hr, hrun, hended, hW, hsame⟩ := X90.leave (v := some (.ref k3)) (fun h => by rw [Bd.returns] at h; cases h)
          refine ⟨_, _, pre0 _ (?_), hrun, hended, _, _, rfl, ?_, ⟨_, rfl⟩, hW, hsame.mono (by decide) (by decide)⟩
          · show Steps _ _ _ (s₁.setTop (mkF m 0 #[iv i1] [])) _
            refine XS.iloadN X0.here hx rfl (hb hby own_d13_0) rfl ?_
            show Steps _ _ _ (s₁.setTop (mkF m 1 _ [.int i1])) _
            refine XS.ifYes X0.here hx rfl (pc0 := 1) (pc' := 8) rfl (hb hby own_d13_1) rfl ((if0 _ _).trans (feq (h0_ : ¬ (i1 = (0 : Int32)))).2) (by decide) (by decide) ?_
            show Steps _ _ _ (s₁.setTop (mkF m 8 _ [])) _
            refine XS.iloadN X0.here hx rfl (hb hby own_d13_8) rfl ?_
            show Steps _ _ _ (s₁.setTop (mkF m 9 _ [.int i1])) _
            refine XS.iconst X0.here hx rfl (hb hby own_d13_9) ?_
            show Steps _ _ _ (s₁.setTop (mkF m 10 _ [.int 1, .int i1])) _
            refine XS.icmpYes X0.here hx rfl (pc0 := 10) (pc' := 17) rfl (hb hby own_d13_10) rfl (feq (h1_ : ¬ (i1 = (1 : Int32)))).2 (by decide) (by decide) ?_
            show Steps _ _ _ (s₁.setTop (mkF m 17 _ [])) _
            refine XS.iloadN X0.here hx rfl (hb hby own_d13_17) rfl ?_
            show Steps _ _ _ (s₁.setTop (mkF m 18 _ [.int i1])) _
            refine XS.iconst X0.here hx rfl (hb hby own_d13_18) ?_
            show Steps _ _ _ (s₁.setTop (mkF m 19 _ [.int 2, .int i1])) _
            refine XS.icmpYes X0.here hx rfl (pc0 := 19) (pc' := 26) rfl (hb hby own_d13_19) rfl (feq (h2_ : ¬ (i1 = (2 : Int32)))).2 (by decide) (by decide) ?_
            show Steps _ _ _ (s₁.setTop (mkF m 26 #[iv i1] [])) _
            refine XS.iloadN X0.here hx rfl (hb hby own_d13_26) rfl ?_
            show Steps _ _ _ (s₁.setTop (mkF m 27 _ [.int i1])) _
            refine XS.iconst X0.here hx rfl (hb hby own_d13_27) ?_
            show Steps _ _ _ (s₁.setTop (mkF m 28 _ [.int 3, .int i1])) _
            refine XS.icmpNo X0.here hx rfl (hb hby own_d13_28) rfl (teq (h3_ : i1 = (3 : Int32))).2 ?_
            show Steps _ _ _ (s₁.setTop (mkF m 31 _ [])) _
            refine st90 _ ?_
            show Steps _ _ _ (T90.setTop (mkF m 34 #[iv i1] [.ref k3])) _
            exact retOut X90 hx Bd.returns rfl (Or.inr (Or.inr (Or.inr (Or.inr ⟨rfl, rfl, rfl⟩)))) (hb hby own_d13_34) hr
          · show Q_kof Z i1 kn k1 k2 k3 kc ku ke h0 n0 _ T90.heap _
            rw [e90]
            exact ⟨k3, rfl, N0, rfl, ⟨fun q => by subst h3_; exact absurd q (by decide), fun q => absurd q (not_or.mpr Dk3)⟩⟩
        · by_cases h4_ : i1 = (4 : Int32)
          · obtain ⟨T91, X91, e91, st91⟩ := getS2 X0 hx hZ hown (host := "") (Or.inl (W 95 rfl)) Via.refl e0 (Skc.ext X00.2) (g := (mkF m 40 #[iv i1] [])) rfl (hb hby own_d13_40)
            obtain ⟨fs, hr, hrun, hended, hW, hsame⟩ := X91.leave (v := some (.ref kc)) (fun h => by rw [Bd.returns] at h; cases h)
            refine ⟨_, _, pre0 _ (?_), hrun, hended, _, _, rfl, ?_, ⟨_, rfl⟩, hW, hsame.mono (by decide) (by decide)⟩
            · show Steps _ _ _ (s₁.setTop (mkF m 0 #[iv i1] [])) _
              refine XS.iloadN X0.here hx rfl (hb hby own_d13_0) rfl ?_
              show Steps _ _ _ (s₁.setTop (mkF m 1 _ [.int i1])) _
              refine XS.ifYes X0.here hx rfl (pc0 := 1) (pc' := 8) rfl (hb hby own_d13_1) rfl ((if0 _ _).trans (feq (h0_ : ¬ (i1 = (0 : Int32)))).2) (by decide) (by decide) ?_
              show Steps _ _ _ (s₁.setTop (mkF m 8 _ [])) _
              refine XS.iloadN X0.here hx rfl (hb hby own_d13_8) rfl ?_
              show Steps _ _ _ (s₁.setTop (mkF m 9 _ [.int i1])) _
              refine XS.iconst X0.here hx rfl (hb hby own_d13_9) ?_
              show Steps _ _ _ (s₁.setTop (mkF m 10 _ [.int 1, .int i1])) _
              refine XS.icmpYes X0.here hx rfl (pc0 := 10) (pc' := 17) rfl (hb hby own_d13_10) rfl (feq (h1_ : ¬ (i1 = (1 : Int32)))).2 (by decide) (by decide) ?_
              show Steps _ _ _ (s₁.setTop (mkF m 17 _ [])) _
              refine XS.iloadN X0.here hx rfl (hb hby own_d13_17) rfl ?_
              show Steps _ _ _ (s₁.setTop (mkF m 18 _ [.int i1])) _
              refine XS.iconst X0.here hx rfl (hb hby own_d13_18) ?_
              show Steps _ _ _ (s₁.setTop (mkF m 19 _ [.int 2, .int i1])) _
              refine XS.icmpYes X0.here hx rfl (pc0 := 19) (pc' := 26) rfl (hb hby own_d13_19) rfl (feq (h2_ : ¬ (i1 = (2 : Int32)))).2 (by decide) (by decide) ?_
              show Steps _ _ _ (s₁.setTop (mkF m 26 #[iv i1] [])) _
              refine XS.iloadN X0.here hx rfl (hb hby own_d13_26) rfl ?_
              show Steps _ _ _ (s₁.setTop (mkF m 27 _ [.int i1])) _
              refine XS.iconst X0.here hx rfl (hb hby own_d13_27) ?_
              show Steps _ _ _ (s₁.setTop (mkF m 28 _ [.int 3, .int i1])) _
              refine XS.icmpYes X0.here hx rfl (pc0 := 28) (pc' := 35) rfl (hb hby own_d13_28) rfl (feq (h3_ : ¬ (i1 = (3 : Int32)))).2 (by decide) (by decide) ?_
              show Steps _ _ _ (s₁.setTop (mkF m 35 _ [])) _
              refine XS.iloadN X0.here hx rfl (hb hby own_d13_35) rfl ?_
              show Steps _ _ _ (s₁.setTop (mkF m 36 _ [.int i1])) _
              refine XS.iconst X0.here hx rfl (hb hby own_d13_36) ?_
              show Steps _ _ _ (s₁.setTop (mkF m 37 _ [.int 4, .int i1])) _
              refine XS.icmpNo X0.here hx rfl (hb hby own_d13_37) rfl (teq (h4_ : i1 = (4 : Int32))).2 ?_
              show Steps _ _ _ (s₁.setTop (mkF m 40 _ [])) _
              refine st91 _ ?_
              show Steps _ _ _ (T91.setTop (mkF m 43 #[iv i1] [.ref kc])) _
              exact retOut X91 hx Bd.returns rfl (Or.inr (Or.inr (Or.inr (Or.inr ⟨rfl, rfl, rfl⟩)))) (hb hby own_d13_43) hr
            · show Q_kof Z i1 kn k1 k2 k3 kc ku ke h0 n0 _ T91.heap _
              rw [e91]
              exact ⟨kc, rfl, N0, rfl, ⟨fun _ => Or.inr rfl, fun _ => Or.inl h4_⟩⟩
          · by_cases h5_ : i1 = (5 : Int32)
            · obtain ⟨T92, X92, e92, st92⟩ := getS2 X0 hx hZ hown (host := "") (Or.inl (W 104 rfl)) Via.refl e0 (Sku.ext X00.2) (g := (mkF m 49 #[iv i1] [])) rfl (hb hby own_d13_49)
              obtain ⟨fs, hr, hrun, hended, hW, hsame⟩ := X92.leave (v := some (.ref ku)) (fun h => by rw [Bd.returns] at h; cases h)
              refine ⟨_, _, pre0 _ (?_), hrun, hended, _, _, rfl, ?_, ⟨_, rfl⟩, hW, hsame.mono (by decide) (by decide)⟩
              · show Steps _ _ _ (s₁.setTop (mkF m 0 #[iv i1] [])) _
                refine XS.iloadN X0.here hx rfl (hb hby own_d13_0) rfl ?_
                show Steps _ _ _ (s₁.setTop (mkF m 1 _ [.int i1])) _
                refine XS.ifYes X0.here hx rfl (pc0 := 1) (pc' := 8) rfl (hb hby own_d13_1) rfl ((if0 _ _).trans (feq (h0_ : ¬ (i1 = (0 : Int32)))).2) (by decide) (by decide) ?_
                show Steps _ _ _ (s₁.setTop (mkF m 8 _ [])) _
                refine XS.iloadN X0.here hx rfl (hb hby own_d13_8) rfl ?_
                show Steps _ _ _ (s₁.setTop (mkF m 9 _ [.int i1])) _
                refine XS.iconst X0.here hx rfl (hb hby own_d13_9) ?_
                show Steps _ _ _ (s₁.setTop (mkF m 10 _ [.int 1, .int i1])) _
                refine XS.icmpYes X0.here hx rfl (pc0 := 10) (pc' := 17) rfl (hb hby own_d13_10) rfl (feq (h1_ : ¬ (i1 = (1 : Int32)))).2 (by decide) (by decide) ?_
                show Steps _ _ _ (s₁.setTop (mkF m 17 _ [])) _
                refine XS.iloadN X0.here hx rfl (hb hby own_d13_17) rfl ?_
                show Steps _ _ _ (s₁.setTop (mkF m 18 _ [.int i1])) _
                refine XS.iconst X0.here hx rfl (hb hby own_d13_18) ?_
                show Steps _ _ _ (s₁.setTop (mkF m 19 _ [.int 2, .int i1])) _
                refine XS.icmpYes X0.here hx rfl (pc0 := 19) (pc' := 26) rfl (hb hby own_d13_19) rfl (feq (h2_ : ¬ (i1 = (2 : Int32)))).2 (by decide) (by decide) ?_
                show Steps _ _ _ (s₁.setTop (mkF m 26 #[iv i1] [])) _
                refine XS.iloadN X0.here hx rfl (hb hby own_d13_26) rfl ?_
                show Steps _ _ _ (s₁.setTop (mkF m 27 _ [.int i1])) _
                refine XS.iconst X0.here hx rfl (hb hby own_d13_27) ?_
                show Steps _ _ _ (s₁.setTop (mkF m 28 _ [.int 3, .int i1])) _
                refine XS.icmpYes X0.here hx rfl (pc0 := 28) (pc' := 35) rfl (hb hby own_d13_28) rfl (feq (h3_ : ¬ (i1 = (3 : Int32)))).2 (by decide) (by decide) ?_
                show Steps _ _ _ (s₁.setTop (mkF m 35 _ [])) _
                refine XS.iloadN X0.here hx rfl (hb hby own_d13_35) rfl ?_
                show Steps _ _ _ (s₁.setTop (mkF m 36 _ [.int i1])) _
                refine XS.iconst X0.here hx rfl (hb hby own_d13_36) ?_
                show Steps _ _ _ (s₁.setTop (mkF m 37 _ [.int 4, .int i1])) _
                refine XS.icmpYes X0.here hx rfl (pc0 := 37) (pc' := 44) rfl (hb hby own_d13_37) rfl (feq (h4_ : ¬ (i1 = (4 : Int32)))).2 (by decide) (by decide) ?_
                show Steps _ _ _ (s₁.setTop (mkF m 44 _ [])) _
                refine XS.iloadN X0.here hx rfl (hb hby own_d13_44) rfl ?_
                show Steps _ _ _ (s₁.setTop (mkF m 45 _ [.int i1])) _
                refine XS.iconst X0.here hx rfl (hb hby own_d13_45) ?_
                show Steps _ _ _ (s₁.setTop (mkF m 46 #[iv i1] [.int 5, .int i1])) _
                refine XS.icmpNo X0.here hx rfl (hb hby own_d13_46) rfl (teq (h5_ : i1 = (5 : Int32))).2 ?_
                show Steps _ _ _ (s₁.setTop (mkF m 49 _ [])) _
                refine st92 _ ?_
                show Steps _ _ _ (T92.setTop (mkF m 52 #[iv i1] [.ref ku])) _
                exact retOut X92 hx Bd.returns rfl (Or.inr (Or.inr (Or.inr (Or.inr ⟨rfl, rfl, rfl⟩)))) (hb hby own_d13_52) hr
              · show Q_kof Z i1 kn k1 k2 k3 kc ku ke h0 n0 _ T92.heap _
                rw [e92]
                exact ⟨ku, rfl, N0, rfl, ⟨fun _ => Or.inl rfl, fun _ => Or.inr h5_⟩⟩
            · obtain ⟨T93, X93, e93, st93⟩ := getS2 X0 hx hZ hown (host := "") (Or.inl (W 75 rfl)) Via.refl e0 (Ske.ext X00.2) (g := (mkF m 53 #[iv i1] [])) rfl (hb hby own_d13_53)
              obtain ⟨fs, hr, hrun, hended, hW, hsame⟩ := X93.leave (v := some (.ref ke)) (fun h => by rw [Bd.returns] at h; cases h)
              refine ⟨_, _, pre0 _ (?_), hrun, hended, _, _, rfl, ?_, ⟨_, rfl⟩, hW, hsame.mono (by decide) (by decide)⟩
              · show Steps _ _ _ (s₁.setTop (mkF m 0 #[iv i1] [])) _
                refine XS.iloadN X0.here hx rfl (hb hby own_d13_0) rfl ?_
                show Steps _ _ _ (s₁.setTop (mkF m 1 _ [.int i1])) _
                refine XS.ifYes X0.here hx rfl (pc0 := 1) (pc' := 8) rfl (hb hby own_d13_1) rfl ((if0 _ _).trans (feq (h0_ : ¬ (i1 = (0 : Int32)))).2) (by decide) (by decide) ?_
                show Steps _ _ _ (s₁.setTop (mkF m 8 _ [])) _
                refine XS.iloadN X0.here hx rfl (hb hby own_d13_8) rfl ?_
                show Steps _ _ _ (s₁.setTop (mkF m 9 _ [.int i1])) _
                refine XS.iconst X0.here hx rfl (hb hby own_d13_9) ?_
                show Steps _ _ _ (s₁.setTop (mkF m 10 _ [.int 1, .int i1])) _
                refine XS.icmpYes X0.here hx rfl (pc0 := 10) (pc' := 17) rfl (hb hby own_d13_10) rfl (feq (h1_ : ¬ (i1 = (1 : Int32)))).2 (by decide) (by decide) ?_
                show Steps _ _ _ (s₁.setTop (mkF m 17 _ [])) _
                refine XS.iloadN X0.here hx rfl (hb hby own_d13_17) rfl ?_
                show Steps _ _ _ (s₁.setTop (mkF m 18 _ [.int i1])) _
                refine XS.iconst X0.here hx rfl (hb hby own_d13_18) ?_
                show Steps _ _ _ (s₁.setTop (mkF m 19 _ [.int 2, .int i1])) _
                refine XS.icmpYes X0.here hx rfl (pc0 := 19) (pc' := 26) rfl (hb hby own_d13_19) rfl (feq (h2_ : ¬ (i1 = (2 : Int32)))).2 (by decide) (by decide) ?_
                show Steps _ _ _ (s₁.setTop (mkF m 26 #[iv i1] [])) _
                refine XS.iloadN X0.here hx rfl (hb hby own_d13_26) rfl ?_
                show Steps _ _ _ (s₁.setTop (mkF m 27 _ [.int i1])) _
                refine XS.iconst X0.here hx rfl (hb hby own_d13_27) ?_
                show Steps _ _ _ (s₁.setTop (mkF m 28 _ [.int 3, .int i1])) _
                refine XS.icmpYes X0.here hx rfl (pc0 := 28) (pc' := 35) rfl (hb hby own_d13_28) rfl (feq (h3_ : ¬ (i1 = (3 : Int32)))).2 (by decide) (by decide) ?_
                show Steps _ _ _ (s₁.setTop (mkF m 35 _ [])) _
                refine XS.iloadN X0.here hx rfl (hb hby own_d13_35) rfl ?_
                show Steps _ _ _ (s₁.setTop (mkF m 36 _ [.int i1])) _
                refine XS.iconst X0.here hx rfl (hb hby own_d13_36) ?_
                show Steps _ _ _ (s₁.setTop (mkF m 37 _ [.int 4, .int i1])) _
                refine XS.icmpYes X0.here hx rfl (pc0 := 37) (pc' := 44) rfl (hb hby own_d13_37) rfl (feq (h4_ : ¬ (i1 = (4 : Int32)))).2 (by decide) (by decide) ?_
                show Steps _ _ _ (s₁.setTop (mkF m 44 _ [])) _
                refine XS.iloadN X0.here hx rfl (hb hby own_d13_44) rfl ?_
                show Steps _ _ _ (s₁.setTop (mkF m 45 _ [.int i1])) _
                refine XS.iconst X0.here hx rfl (hb hby own_d13_45) ?_
                show Steps _ _ _ (s₁.setTop (mkF m 46 #[iv i1] [.int 5, .int i1])) _
                refine XS.icmpYes X0.here hx rfl (pc0 := 46) (pc' := 53) rfl (hb hby own_d13_46) rfl (feq (h5_ : ¬ (i1 = (5 : Int32)))).2 (by decide) (by decide) ?_
                show Steps _ _ _ (s₁.setTop (mkF m 53 _ [])) _
                refine st93 _ ?_
                show Steps _ _ _ (T93.setTop (mkF m 56 #[iv i1] [.ref ke])) _
                exact retOut X93 hx Bd.returns rfl (Or.inr (Or.inr (Or.inr (Or.inr ⟨rfl, rfl, rfl⟩)))) (hb hby own_d13_56) hr
              · show Q_kof Z i1 kn k1 k2 k3 kc ku ke h0 n0 _ T93.heap _
                rw [e93]
                exact ⟨ke, rfl, N0, rfl, ⟨fun q => absurd q (not_or.mpr ⟨h4_, h5_⟩), fun q => absurd q (not_or.mpr Dke)⟩⟩
theorem own_d14_0 : decode method_3_code 0 = .ok (.iload_n 0, 1) := by decide +kernel
theorem own_d14_1 : decode method_3_code 1 = .ok (.ifCond .ne 14, 3) := by decide +kernel
theorem own_d14_4 : decode method_3_code 4 = .ok (.new 31, 3) := by decide +kernel
theorem own_d14_7 : decode method_3_code 7 = .ok (.dup, 1) := by decide +kernel
theorem own_d14_8 : decode method_3_code 8 = .ok (.iconst 0, 1) := by decide +kernel
theorem own_d14_9 : decode method_3_code 9 = .ok (.newarray .char, 2) := by decide +kernel
theorem own_d14_11 : decode method_3_code 11 = .ok (.invokespecial 33, 3) := by decide +kernel
theorem own_pd_2 : parseMethodDescriptor "([C)V" = some ⟨[(.array .char)], none⟩ := by decide +kernel
theorem own_d14_14 : decode method_3_code 14 = .ok (.areturn, 1) := by decide +kernel
theorem own_d14_15 : decode method_3_code 15 = .ok (.iload_n 0, 1) := by decide +kernel
theorem own_d14_16 : decode method_3_code 16 = .ok (.iconst 1, 1) := by decide +kernel
theorem own_d14_17 : decode method_3_code 17 = .ok (.if_icmp .ne 8, 3) := by decide +kernel
theorem own_d14_20 : decode method_3_code 20 = .ok (.iload_n 1, 1) := by decide +kernel
theorem own_d14_21 : decode method_3_code 21 = .ok (.invokestatic 36, 3) := by decide +kernel
theorem own_pd_10 : parseMethodDescriptor "(C)Ljava/lang/String;" = some ⟨[.char], some (.object "java/lang/String")⟩ := by decide +kernel
theorem own_d14_24 : decode method_3_code 24 = .ok (.areturn, 1) := by decide +kernel
theorem own_d14_25 : decode method_3_code 25 = .ok (.new 31, 3) := by decide +kernel
theorem own_d14_28 : decode method_3_code 28 = .ok (.dup, 1) := by decide +kernel
theorem own_d14_29 : decode method_3_code 29 = .ok (.iconst 2, 1) := by decide +kernel
theorem own_d14_30 : decode method_3_code 30 = .ok (.newarray .char, 2) := by decide +kernel
theorem own_d14_32 : decode method_3_code 32 = .ok (.dup, 1) := by decide +kernel
theorem own_d14_33 : decode method_3_code 33 = .ok (.iconst 0, 1) := by decide +kernel
theorem own_d14_34 : decode method_3_code 34 = .ok (.iload_n 1, 1) := by decide +kernel
theorem own_d14_35 : decode method_3_code 35 = .ok (.castore, 1) := by decide +kernel
theorem own_d14_36 : decode method_3_code 36 = .ok (.dup, 1) := by decide +kernel
theorem own_d14_37 : decode method_3_code 37 = .ok (.iconst 1, 1) := by decide +kernel
theorem own_d14_38 : decode method_3_code 38 = .ok (.iload_n 2, 1) := by decide +kernel
theorem own_d14_39 : decode method_3_code 39 = .ok (.castore, 1) := by decide +kernel
theorem own_d14_40 : decode method_3_code 40 = .ok (.invokespecial 33, 3) := by decide +kernel
theorem own_d14_43 : decode method_3_code 43 = .ok (.areturn, 1) := by decide +kernel
theorem own_ef_str (m : MethodId) (x0 : Int32) (x1 : Int32) (x2 : Int32) : entryFrame m #[(.int x0), (.int x1), (.int x2)] 3 = mkF m 0 #[iv x0, iv x1, iv x2] [] := by first | (simp [entryFrame, mkF, argsToLocals, Value.category]; done) | rfl
def Q_str (Z : State) (l1 c1 c2 G1 : Int32) (h0 : Heap) (n0 : Nat) (v : Option Value) (h : Heap) (L : List Loc) : Prop := ∃ a, v = some (.ref a) ∧ Fr n0 L ∧ Keep h0 h [] ∧ StrB Z h h.size a (own_cs l1 c1 c2)
set_option maxRecDepth 65536 in
set_option maxHeartbeats 40000000 in
theorem rm_str (l : Launch) (Z : State) (a0 : Array Value) (hw : ∀ d ∈ tables_1, d.before a0 Z = true) (ws : List Jvm.Cond) (l1 c1 c2 G1 : Int32) (h0 : Heap) (n0 : Nat) (Z0 : n0 ≤ h0.size) (X00 : Old Z n0 h0) (hl : l1 = 0 ∨ l1 = 1 ∨ l1 = 2) (hc1 : ¬ c1 < 0 ∧ ¬ (255 : Int32) < c1) (hc2 : ¬ c2 < 0 ∧ ¬ (255 : Int32) < c2) (O2 : Sta Z Z.heap "java/lang/String" "COMPACT_STRINGS" "Z" (.int G1)) (P5 : ¬ (G1 = (0 : Int32))) :
    MetFree l (⟨"itemwright/expression/TokenIsPinLaw", "str", "(ICC)Ljava/lang/String;"⟩ : MethodName) (head1 (Jvm.Cond.code (⟨"itemwright/expression/TokenIsPinLaw", "str", "(ICC)Ljava/lang/String;"⟩ : MethodName) method_3_code 3 (some (.object "java/lang/String")) :: ws) ({ frames := 5, cells := 6, slots := 16, locals := 120 } : Room)) (fun a U => a = #[(.int l1), (.int c1), (.int c2)] ∧ Z.Warmed39 U.vm ∧ U.heap = h0 ∧ own_J Z own_EL [] h0 U.vm) (fun _ _ _ _ _ => True) (fun _ U o U' => ∃ v L, o = .returned v ∧ Q_str Z l1 c1 c2 G1 h0 n0 v U'.heap L ∧ CHr Z own_EL U.vm U.heap U'.vm U'.heap ∧ ReturnedEndW U o U' L ({ frames := 5, cells := 6, slots := 16, locals := 120 } : Room).cells ({ frames := 5, cells := 6, slots := 16, locals := 120 } : Room).slots) := by
  refine MetFree.of_bodySF (plainFor_of_name own_pn_1) hisR ?_
  intro p e s m args below meth c s₁ Bd hml0 hP hK
  obtain ⟨rfl, hZ, hh, hJ⟩ := hP
  have hx := Bd.exec
  have hby := Bd.bytes
  have hml : c.maxLocals = 3 := hml0
  have hown : s.vm.findClass "itemwright/expression/TokenIsPinLaw" = some m.cls := findClass_of_methodNamed Bd.named
  have hnm := (name_of_methodNamed Bd.named Bd.method).1
  have W := own_W hw
  have X0 : Stand p l e ({ frames := 5, cells := 6, slots := 16, locals := 120 } : Room) s m #[(.int l1), (.int c1), (.int c2)] below meth c s₁ [] 0 0 := Stand.of_body Bd
  have e0 : s₁.heap = h0 := by rw [← hh, Bd.state]; rfl
  have N0 := Fr.nil n0
  have pre0 : ∀ tq, Steps p.tables e below (s₁.setTop (mkF m 0 #[iv l1, iv c1, iv c2] [])) tq → Steps p.tables e below (s₁.setTop (entryFrame m #[(.int l1), (.int c1), (.int c2)] 3)) tq := fun tq k => castTop (own_ef_str m l1 c1 c2) k
  have hEL := own_EW hw
  have wS : ∀ d ∈ Bundle.stringAtoms, d.before a0 Z = true := fun d hd => hw d ((by decide +kernel : ∀ d ∈ Bundle.stringAtoms, d ∈ tables_1) d hd)
  have hS0 : s.Since s.vm 0 := (State.WarmedH.refl s).since 0
  have hk0 : 0 ≤ h0.size := Nat.zero_le _
  have CH0 : CHv Z own_EL s.vm h0 := hJ.1
  have CR0 : CHr Z own_EL s.vm h0 s.vm h0 := CHr.refl CH0
  have X0 : Stand p l e ({ frames := 5, cells := 6, slots := 16, locals := 120 } : Room) (s.setVm s.vm) m #[(.int l1), (.int c1), (.int c2)] below meth c s₁ [] 0 0 := X0
  have K94 : Keep h0 h0 [] := Keep.refl h0 []
  have hws : ∀ d ∈ StrChars.Road.words, d.before a0 Z = true := fun d hd => hw d ((by decide +kernel : ∀ d ∈ StrChars.Road.words, d ∈ tables_1) d hd)
  rcases hl with rfl | rfl | rfl
  · obtain ⟨T95, h95, X95, e95, E95, A95, D95, -, st95⟩ := newO X0 hx hZ hown (W 13 rfl) (W 14 rfl) (W 15 rfl) e0 (g := (mkF m 4 #[iv 0, iv c1, iv c2] [])) rfl (hb hby own_d14_4) (by decide) (by decide)
    obtain ⟨b95, g95⟩ : ∃ z, z = h0.size := ⟨_, rfl⟩
    rw [← g95] at A95 D95 st95
    have g96 : n0 ≤ b95 := Nat.le_trans Z0 (Nat.le_of_eq g95.symm)
    have g97 : h0.size ≤ b95 := Nat.le_trans K94.1 (Nat.le_of_eq g95.symm)
    have CR98 := CR0.trans (CHr.ext E95 CH0)
    have Z99 : n0 ≤ h95.size := Nat.le_trans Z0 E95.1
    have O100 : Old Z n0 h95 := X00.ext E95
    have K101 : Keep h0 h95 [] := K94.ext E95
    have hk102 := Nat.le_trans hk0 E95.1
    have F103 : Fld Z h95 b95 "java/lang/String" "coder" "B" (.int (0 : Int32)) := D95 (Or.inr (W 40 rfl)) (ty := .byte) (by decide)
    have F104 : Fld Z h95 b95 "java/lang/String" "value" "[B" .null := D95 (Or.inr (W 42 rfl)) (ty := (.array .byte)) (by decide)
    obtain ⟨T105, h105, k105, X105, e105, E105, A105, st105⟩ := newP X95 hx hZ (W 16 rfl) e95 (g := (mkF m 9 #[iv 0, iv c1, iv c2] [.int 0, .ref b95, .ref b95])) rfl (hb hby own_d14_9) rfl (by decide : ¬ ((0 : Int32) < (0 : Int32))) (cap := 0) (by decide) (by decide) (by decide) (by decide)
    obtain ⟨b105, g105⟩ : ∃ z, z = h95.size := ⟨_, rfl⟩
    rw [← g105] at A105 st105
    have g106 : n0 ≤ b105 := Nat.le_trans Z99 (Nat.le_of_eq g105.symm)
    have g107 : h0.size ≤ b105 := Nat.le_trans K101.1 (Nat.le_of_eq g105.symm)
    have CR108 := CR98.trans (CHr.ext E105 CR98.1)
    have Z109 : n0 ≤ h105.size := Nat.le_trans Z99 E105.1
    have O110 : Old Z n0 h105 := O100.ext E105
    have K111 : Keep h0 h105 [] := K101.ext E105
    have hk112 := Nat.le_trans hk102 E105.1
    have V105 : Arv Z h105 b105 k105 .char (0 : Int32) [] (.int (0 : Int32)) := Arv.new A105 (by decide : ¬ ((0 : Int32) < (0 : Int32)))
    have f113 := (A95.ext E105)
    have f114 := (F104.ext E105)
    have f115 := (F103.ext E105)
    have f117 := ((CHr.ext E105 CR98.1).safe A95.lt (Safe.ext E95 CH0 (Safe.new (Nat.le_of_eq g95.symm))))
    have f118 := (Nat.lt_of_lt_of_le A95.lt E105.1)
    obtain ⟨_, _, ⟨T116, L116, k116, n116⟩, -, Xw116, hSw116, hgw116, ⟨Lc116, hQ116, l116, y116, z116, A116⟩, st116⟩ := X105.specialBackS hx (y := (⟨"java/lang/String", "<init>", "([C)V"⟩ : MethodName)) rfl hown (mvT hZ (W 17 rfl)) (mvT hZ (W 18 rfl)) (mvT hZ (W 19 rfl)) (by decide) (own_backX (s := s) (W := 1) (rm_snew0 l Z a0 hw [] b95 b105 k105 h105 n0 Z109 V105 f113 g96 f114 f115) hZ (W 19 rfl) (W 15 rfl) (by decide) (by decide) hEL (xs := [b95]) ⟨CR108.1, (allS f117 all0)⟩ (allS f118 all0)) (g := (mkF m 11 #[iv 0, iv c1, iv c2] [.ref b105, .ref b95, .ref b95])) rfl (by rw [hml]; rfl) (Steps.refl _) (a := b95) (argsL := [.ref b105]) (rest := [.ref b95]) (lenOf own_pd_2 rfl) rfl own_wt (hb hby own_d14_11) (fun _ _ => ⟨rfl, e105, (by decide : 2 + 4 ≤ _), (by decide : 4 + 8 ≤ _)⟩)
    dsimp only [Pt.U, Pt.locs, Pt.cells, Pt.slots] at Xw116 hSw116 hgw116 l116 y116 z116 A116 st116 hQ116
    subst l116 y116 z116
    obtain ⟨X116, hS116, hZ116, hown116⟩ := rebS (s := s) (T := T116) hS0 hk112 Xw116 hSw116 (by rw [← e105]; exact hgw116) hZ hown
    have hk116 : T116.heap.size ≤ T116.heap.size := Nat.le_refl _
    obtain ⟨rfl, Nq116, K116, hSB⟩ := hQ116
    have N116 := Fr.app N0 Nq116
    have CR119 := CR108.trans A116
    have Z120 : n0 ≤ T116.heap.size := Nat.le_trans Z109 K116.1
    have O121 : Old Z n0 T116.heap := O110.keep K116 (allS g96 all0)
    have K122 : Keep h0 T116.heap [] := K111.trans K116 (allS (Or.inr g97) all0)
    have CRe := CR119.trans (CHv.at X116 hZ116 hEL CR119.1)
    obtain ⟨fs, hr, hrun, hended, hRW⟩ := X116.leaveW hS116 hk116 (v := some (.ref b95)) (fun h => by rw [Bd.returns] at h; cases h)
    refine ⟨_, _, pre0 _ (?_), hrun, hended, _, _, rfl, ?_, (by rw [hh]; show CHr Z _ s.vm h0 T116.vm T116.heap; exact CRe), hRW.1, hRW.2.1, hRW.2.2.1, hRW.2.2.2.mono (by decide) (by decide)⟩
    · show Steps _ _ _ (s₁.setTop (mkF m 0 #[iv 0, iv c1, iv c2] [])) _
      refine XS.iloadN X0.here hx rfl (hb hby own_d14_0) rfl ?_
      show Steps _ _ _ (s₁.setTop (mkF m 1 _ [.int 0])) _
      refine XS.ifNo X0.here hx rfl (hb hby own_d14_1) rfl ((if0 _ _).trans (teq (rfl : (0 : Int32) = (0 : Int32))).2) ?_
      show Steps _ _ _ (s₁.setTop (mkF m 4 _ [])) _
      refine st95 _ ?_
      show Steps _ _ _ (T95.setTop (mkF m 7 #[iv 0, iv c1, iv c2] [.ref b95])) _
      refine XS.dup X95.here hx rfl (hb hby own_d14_7) rfl rfl ?_
      show Steps _ _ _ (T95.setTop (mkF m 8 _ [.ref b95, .ref b95])) _
      refine XS.iconst X95.here hx rfl (hb hby own_d14_8) ?_
      show Steps _ _ _ (T95.setTop (mkF m 9 _ [.int 0, .ref b95, .ref b95])) _
      refine st105 _ ?_
      show Steps _ _ _ (T105.setTop (mkF m 11 #[iv 0, iv c1, iv c2] [.ref b105, .ref b95, .ref b95])) _
      refine st116.trans ?_
      show Steps _ _ _ (T116.setTop (mkF m 14 #[iv 0, iv c1, iv c2] [.ref b95])) _
      exact retOut X116 hx Bd.returns rfl (Or.inr (Or.inr (Or.inr (Or.inr ⟨rfl, rfl, rfl⟩)))) (hb hby own_d14_14) hr
    · show Q_str Z _ c1 c2 G1 h0 n0 _ T116.heap _
      exact ⟨b95, rfl, N116, K122, by rw [own_cs0]; exact hSB⟩
  · obtain ⟨_, _, ⟨T123, L123, k123, n123⟩, -, X123, ⟨Lc123, hQ123, l123, y123, z123⟩, st123⟩ := Jvm.LawKit.callS X0 hx (y := (⟨"java/lang/String", "valueOf", "(C)Ljava/lang/String;"⟩ : MethodName)) hown (mvT hZ (W 79 rfl)) (mvT hZ (W 80 rfl)) (mvT hZ (W 15 rfl)) (mvT hZ (W 81 rfl)) (by decide) (backOf (W := 0) (rm_svo l Z a0 hw [] c1 G1 h0 n0 Z0 X00 hc1.1 hc1.2 O2 P5) hZ (W 81 rfl) (W 15 rfl) (by decide) (by decide)) (g := (mkF m 21 #[iv 1, iv c1, iv c2] [.int c1])) rfl (by rw [hml]; rfl) (argsL := [.int c1]) (rest := []) (lenOf own_pd_10 rfl) rfl own_wt (hb hby own_d14_21) (fun _ _ => ⟨rfl, e0, (by decide : 0 + 2 ≤ _), (by decide : 0 + 5 ≤ _)⟩)
    dsimp only [Pt.U, Pt.locs, Pt.cells, Pt.slots] at X123 l123 y123 z123 st123 hQ123
    subst l123 y123 z123
    obtain ⟨a123, hv123, Nq123, K123, hSB⟩ := hQ123
    subst hv123
    have N123 := Fr.app N0 Nq123
    have CR124 := CR0.trans (CHr.keep K123 all0 CH0)
    have Z125 : n0 ≤ T123.heap.size := Nat.le_trans Z0 K123.1
    have O126 : Old Z n0 T123.heap := X00.keep K123 all0
    have K127 : Keep h0 T123.heap [] := K94.trans K123 all0
    have hk128 := Nat.le_trans hk0 K123.1
    have CRe := CR124.trans (CHv.at X123 hZ hEL CR124.1)
    obtain ⟨fs, hr, hrun, hended, hRW⟩ := X123.leaveW hS0 hk128 (v := some (.ref a123)) (fun h => by rw [Bd.returns] at h; cases h)
    refine ⟨_, _, pre0 _ (?_), hrun, hended, _, _, rfl, ?_, (by rw [hh]; show CHr Z _ s.vm h0 T123.vm T123.heap; exact CRe), hRW.1, hRW.2.1, hRW.2.2.1, hRW.2.2.2.mono (by decide) (by decide)⟩
    · show Steps _ _ _ (s₁.setTop (mkF m 0 #[iv 1, iv c1, iv c2] [])) _
      refine XS.iloadN X0.here hx rfl (hb hby own_d14_0) rfl ?_
      show Steps _ _ _ (s₁.setTop (mkF m 1 _ [.int 1])) _
      refine XS.ifYes X0.here hx rfl (pc0 := 1) (pc' := 15) rfl (hb hby own_d14_1) rfl ((if0 _ _).trans (feq ((by decide) : ¬ ((1 : Int32) = (0 : Int32)))).2) (by decide) (by decide) ?_
      show Steps _ _ _ (s₁.setTop (mkF m 15 _ [])) _
      refine XS.iloadN X0.here hx rfl (hb hby own_d14_15) rfl ?_
      show Steps _ _ _ (s₁.setTop (mkF m 16 _ [.int 1])) _
      refine XS.iconst X0.here hx rfl (hb hby own_d14_16) ?_
      show Steps _ _ _ (s₁.setTop (mkF m 17 _ [.int 1, .int 1])) _
      refine XS.icmpNo X0.here hx rfl (hb hby own_d14_17) rfl (teq (rfl : (1 : Int32) = (1 : Int32))).2 ?_
      show Steps _ _ _ (s₁.setTop (mkF m 20 _ [])) _
      refine XS.iloadN X0.here hx rfl (hb hby own_d14_20) rfl ?_
      show Steps _ _ _ (s₁.setTop (mkF m 21 _ [.int c1])) _
      refine st123 _ ?_
      show Steps _ _ _ (T123.setTop (mkF m 24 #[iv 1, iv c1, iv c2] [.ref a123])) _
      exact retOut X123 hx Bd.returns rfl (Or.inr (Or.inr (Or.inr (Or.inr ⟨rfl, rfl, rfl⟩)))) (hb hby own_d14_24) hr
    · show Q_str Z _ c1 c2 G1 h0 n0 _ T123.heap _
      exact ⟨a123, rfl, N123, K127, by rw [own_cs1]; exact hSB⟩
  · obtain ⟨T129, h129, X129, e129, E129, A129, D129, -, st129⟩ := newO X0 hx hZ hown (W 13 rfl) (W 14 rfl) (W 15 rfl) e0 (g := (mkF m 25 #[iv 2, iv c1, iv c2] [])) rfl (hb hby own_d14_25) (by decide) (by decide)
    obtain ⟨b129, g129⟩ : ∃ z, z = h0.size := ⟨_, rfl⟩
    rw [← g129] at A129 D129 st129
    have g130 : n0 ≤ b129 := Nat.le_trans Z0 (Nat.le_of_eq g129.symm)
    have g131 : h0.size ≤ b129 := Nat.le_trans K94.1 (Nat.le_of_eq g129.symm)
    have CR132 := CR0.trans (CHr.ext E129 CH0)
    have Z133 : n0 ≤ h129.size := Nat.le_trans Z0 E129.1
    have O134 : Old Z n0 h129 := X00.ext E129
    have K135 : Keep h0 h129 [] := K94.ext E129
    have hk136 := Nat.le_trans hk0 E129.1
    have F137 : Fld Z h129 b129 "java/lang/String" "coder" "B" (.int (0 : Int32)) := D129 (Or.inr (W 40 rfl)) (ty := .byte) (by decide)
    have F138 : Fld Z h129 b129 "java/lang/String" "value" "[B" .null := D129 (Or.inr (W 42 rfl)) (ty := (.array .byte)) (by decide)
    obtain ⟨T139, h139, k139, X139, e139, E139, A139, st139⟩ := newP X129 hx hZ (W 16 rfl) e129 (g := (mkF m 30 #[iv 2, iv c1, iv c2] [.int 2, .ref b129, .ref b129])) rfl (hb hby own_d14_30) rfl (by decide : ¬ ((2 : Int32) < (0 : Int32))) (cap := 2) (by decide) (by decide) (by decide) (by decide)
    obtain ⟨b139, g139⟩ : ∃ z, z = h129.size := ⟨_, rfl⟩
    rw [← g139] at A139 st139
    have g140 : n0 ≤ b139 := Nat.le_trans Z133 (Nat.le_of_eq g139.symm)
    have g141 : h0.size ≤ b139 := Nat.le_trans K135.1 (Nat.le_of_eq g139.symm)
    have CR142 := CR132.trans (CHr.ext E139 CR132.1)
    have Z143 : n0 ≤ h139.size := Nat.le_trans Z133 E139.1
    have O144 : Old Z n0 h139 := O134.ext E139
    have K145 : Keep h0 h139 [] := K135.ext E139
    have hk146 := Nat.le_trans hk136 E139.1
    have V139 : Arv Z h139 b139 k139 .char (2 : Int32) [(.int (0 : Int32)), (.int (0 : Int32))] (.int (0 : Int32)) := (Arv.new A139 (by decide : ¬ ((2 : Int32) < (0 : Int32)))).pad (pad_rep [] (.int (0 : Int32)) 2)
    obtain ⟨cl147, Ar147, aq147, aS147, aN147, aH147, aG147⟩ := id V139
    obtain ⟨T148, h148, X148, e148, W148, st148⟩ := stC X139 hx hZ e139 Ar147 (j := (0 : Int32)) (inb_of aS147 ⟨(by decide), (by decide)⟩) (g := (mkF m 35 #[iv 2, iv c1, iv c2] [.int c1, .int 0, .ref b139, .ref b139, .ref b129, .ref b129])) rfl rfl (hb hby own_d14_35)
    have N148 := Fr.snoc X148 N0 g140
    have Vx148 := Arv.set Ar147 aq147 aS147 aN147 aH147 aG147 (fits_nar_char _) W148 0 rfl (Nat.le_of_ble_eq_true rfl)
    have V148 : Arv Z h148 b139 k139 .char (2 : Int32) [(.int c1), (.int (0 : Int32))] (.int (0 : Int32)) := by
      have q := Vx148
      rw [show Value.int (nar .char c1) = (.int c1) from congrArg Value.int (own_narc c1 hc1.1 (own_up1 hc1.2))] at q
      exact q
    have f150 := (Safe.ext E139 CR132.1 (Safe.new (Nat.le_of_eq g139.symm)))
    have CR149 := CR142.trans (CHr.wr W148 f150 CR142.1)
    have Z151 : n0 ≤ h148.size := Nat.le_trans Z143 (Keep.of_wr W148).1
    have O152 : Old Z n0 h148 := O144.wr W148 g140
    have K153 : Keep h0 h148 [] := K145.wr W148 (Or.inr g141)
    have hk154 := Nat.le_trans hk146 (Keep.of_wr W148).1
    obtain ⟨cl155, Ar155, aq155, aS155, aN155, aH155, aG155⟩ := id V148
    obtain ⟨T156, h156, X156, e156, W156, st156⟩ := stC X148 hx hZ e148 Ar155 (j := (1 : Int32)) (inb_of aS155 ⟨(by decide), (by decide)⟩) (g := (mkF m 39 #[iv 2, iv c1, iv c2] [.int c2, .int 1, .ref b139, .ref b139, .ref b129, .ref b129])) rfl rfl (hb hby own_d14_39)
    have N156 := Fr.snoc X156 N148 g140
    have Vx156 := Arv.set Ar155 aq155 aS155 aN155 aH155 aG155 (fits_nar_char _) W156 1 rfl (Nat.le_of_ble_eq_true rfl)
    have V156 : Arv Z h156 b139 k139 .char (2 : Int32) [(.int c1), (.int c2)] (.int (0 : Int32)) := by
      have q := Vx156
      rw [show Value.int (nar .char c2) = (.int c2) from congrArg Value.int (own_narc c2 hc2.1 (own_up1 hc2.2))] at q
      exact q
    have f158 := ((CHr.wr W148 f150 CR142.1).safe V139.lt f150)
    have CR157 := CR149.trans (CHr.wr W156 f158 CR149.1)
    have Z159 : n0 ≤ h156.size := Nat.le_trans Z151 (Keep.of_wr W156).1
    have O160 : Old Z n0 h156 := O152.wr W156 g140
    have K161 : Keep h0 h156 [] := K153.wr W156 (Or.inr g141)
    have hk162 := Nat.le_trans hk154 (Keep.of_wr W156).1
    have hp : ∀ c ∈ ([c1, c2] : List Int32), ¬ c < 0 ∧ ¬ (255 : Int32) < c := by
      intro c hc
      simp only [List.mem_cons, List.not_mem_nil, or_false] at hc
      rcases hc with rfl | rfl
      · exact hc1
      · exact hc2
    have f163 := (((A129.ext E139).wr W148).wr W156)
    have f164 := (((F138.ext E139).other W148 (Or.inl (Nat.ne_of_lt (Nat.lt_of_lt_of_le A129.lt (Nat.le_of_eq g139.symm))))).other W156 (Or.inl (Nat.ne_of_lt (Nat.lt_of_lt_of_le A129.lt (Nat.le_of_eq g139.symm)))))
    have f165 := (((F137.ext E139).other W148 (Or.inl (Nat.ne_of_lt (Nat.lt_of_lt_of_le A129.lt (Nat.le_of_eq g139.symm))))).other W156 (Or.inl (Nat.ne_of_lt (Nat.lt_of_lt_of_le A129.lt (Nat.le_of_eq g139.symm)))))
    obtain ⟨_, _, ⟨T166, L166, k166, n166⟩, -, X166, ⟨Lc166, hQ166, l166, y166, z166⟩, st166⟩ := X156.specialBack hx (y := (⟨"java/lang/String", "<init>", "([C)V"⟩ : MethodName)) rfl hown (mvT hZ (W 17 rfl)) (mvT hZ (W 18 rfl)) (mvT hZ (W 19 rfl)) (by decide) (StrChars.Road.backV (W := 1) hZ hws (kI := 4) (W 14 rfl) (cs := ([c1, c2] : List Int32)) (bs := ([c1, c2] : List Int32).map (fun c => c.toInt8.toInt32)) (n := 2) g130 Z159 f163 f164 f165 V156 (O2.ext O160.2) P5 rfl rfl (by decide) (by decide) hp rfl (by decide) (by decide)) (g := (mkF m 40 #[iv 2, iv c1, iv c2] [.ref b139, .ref b129, .ref b129])) rfl (by rw [hml]; rfl) (Steps.refl _) (a := b129) (argsL := [.ref b139]) (rest := [.ref b129]) (lenOf own_pd_2 rfl) rfl own_wt (hb hby own_d14_40) (fun _ _ => ⟨rfl, e156, (by decide : 2 + 1 ≤ _), (by decide : 6 + 2 ≤ _)⟩)
    dsimp only [Pt.U, Pt.locs, Pt.cells, Pt.slots] at X166 l166 y166 z166 st166 hQ166
    subst l166 y166 z166
    obtain ⟨rfl, Nq166, K166, gE166, gC166, t166, kb166, tu166, tv166, tw166, gV166, gA166⟩ := hQ166
    have N166 := Fr.app N156 Nq166
    have f168 := (Nat.lt_of_lt_of_le A129.lt E139.1)
    have f169 := (Nat.lt_of_lt_of_le f168 (Keep.of_wr W148).1)
    have f170 := ((CHr.wr W156 f158 CR149.1).safe f169 ((CHr.wr W148 f150 CR142.1).safe f168 ((CHr.ext E139 CR132.1).safe A129.lt (Safe.ext E129 CH0 (Safe.new (Nat.le_of_eq g129.symm))))))
    have CR167 := CR157.trans (CHr.keep K166 (allS f170 all0) CR157.1)
    have Z171 : n0 ≤ T166.heap.size := Nat.le_trans Z159 K166.1
    have O172 : Old Z n0 T166.heap := O160.keep K166 (allS g130 all0)
    have K173 : Keep h0 T166.heap [] := K161.trans K166 (allS (Or.inr g131) all0)
    have hk174 := Nat.le_trans hk162 K166.1
    have hSB : StrB Z T166.heap T166.heap.size b129 ([c1, c2] : List Int32) := ⟨gE166.lt, gE166, t166, kb166, 0, 2, _, gA166.lt, gV166, gC166, gA166, StrChars.Road.codOf (n := 2) rfl (fun c hc => (hp c hc).2), own_up _ hp, (Nat.le_of_ble_eq_true rfl)⟩
    have CRe := CR167.trans (CHv.at X166 hZ hEL CR167.1)
    obtain ⟨fs, hr, hrun, hended, hRW⟩ := X166.leaveW hS0 hk174 (v := some (.ref b129)) (fun h => by rw [Bd.returns] at h; cases h)
    refine ⟨_, _, pre0 _ (?_), hrun, hended, _, _, rfl, ?_, (by rw [hh]; show CHr Z _ s.vm h0 T166.vm T166.heap; exact CRe), hRW.1, hRW.2.1, hRW.2.2.1, hRW.2.2.2.mono (by decide) (by decide)⟩
    · show Steps _ _ _ (s₁.setTop (mkF m 0 #[iv 2, iv c1, iv c2] [])) _
      refine XS.iloadN X0.here hx rfl (hb hby own_d14_0) rfl ?_
      show Steps _ _ _ (s₁.setTop (mkF m 1 _ [.int 2])) _
      refine XS.ifYes X0.here hx rfl (pc0 := 1) (pc' := 15) rfl (hb hby own_d14_1) rfl ((if0 _ _).trans (feq ((by decide) : ¬ ((2 : Int32) = (0 : Int32)))).2) (by decide) (by decide) ?_
      show Steps _ _ _ (s₁.setTop (mkF m 15 _ [])) _
      refine XS.iloadN X0.here hx rfl (hb hby own_d14_15) rfl ?_
      show Steps _ _ _ (s₁.setTop (mkF m 16 _ [.int 2])) _
      refine XS.iconst X0.here hx rfl (hb hby own_d14_16) ?_
      show Steps _ _ _ (s₁.setTop (mkF m 17 _ [.int 1, .int 2])) _
      refine XS.icmpYes X0.here hx rfl (pc0 := 17) (pc' := 25) rfl (hb hby own_d14_17) rfl (feq ((by decide) : ¬ ((2 : Int32) = (1 : Int32)))).2 (by decide) (by decide) ?_
      show Steps _ _ _ (s₁.setTop (mkF m 25 _ [])) _
      refine st129 _ ?_
      show Steps _ _ _ (T129.setTop (mkF m 28 #[iv 2, iv c1, iv c2] [.ref b129])) _
      refine XS.dup X129.here hx rfl (hb hby own_d14_28) rfl rfl ?_
      show Steps _ _ _ (T129.setTop (mkF m 29 _ [.ref b129, .ref b129])) _
      refine XS.iconst X129.here hx rfl (hb hby own_d14_29) ?_
      show Steps _ _ _ (T129.setTop (mkF m 30 _ [.int 2, .ref b129, .ref b129])) _
      refine st139 _ ?_
      show Steps _ _ _ (T139.setTop (mkF m 32 #[iv 2, iv c1, iv c2] [.ref b139, .ref b129, .ref b129])) _
      refine XS.dup X139.here hx rfl (hb hby own_d14_32) rfl rfl ?_
      show Steps _ _ _ (T139.setTop (mkF m 33 _ [.ref b139, .ref b139, .ref b129, .ref b129])) _
      refine XS.iconst X139.here hx rfl (hb hby own_d14_33) ?_
      show Steps _ _ _ (T139.setTop (mkF m 34 _ [.int 0, .ref b139, .ref b139, .ref b129, .ref b129])) _
      refine XS.iloadN X139.here hx rfl (hb hby own_d14_34) rfl ?_
      show Steps _ _ _ (T139.setTop (mkF m 35 _ [.int c1, .int 0, .ref b139, .ref b139, .ref b129, .ref b129])) _
      refine st148 _ ?_
      show Steps _ _ _ (T148.setTop (mkF m 36 #[iv 2, iv c1, iv c2] [.ref b139, .ref b129, .ref b129])) _
      refine XS.dup X148.here hx rfl (hb hby own_d14_36) rfl rfl ?_
      show Steps _ _ _ (T148.setTop (mkF m 37 _ [.ref b139, .ref b139, .ref b129, .ref b129])) _
      refine XS.iconst X148.here hx rfl (hb hby own_d14_37) ?_
      show Steps _ _ _ (T148.setTop (mkF m 38 _ [.int 1, .ref b139, .ref b139, .ref b129, .ref b129])) _
      refine XS.iloadN X148.here hx rfl (hb hby own_d14_38) rfl ?_
      show Steps _ _ _ (T148.setTop (mkF m 39 _ [.int c2, .int 1, .ref b139, .ref b139, .ref b129, .ref b129])) _
      refine st156 _ ?_
      show Steps _ _ _ (T156.setTop (mkF m 40 #[iv 2, iv c1, iv c2] [.ref b139, .ref b129, .ref b129])) _
      refine st166.trans ?_
      show Steps _ _ _ (T166.setTop (mkF m 43 #[iv 2, iv c1, iv c2] [.ref b129])) _
      exact retOut X166 hx Bd.returns rfl (Or.inr (Or.inr (Or.inr (Or.inr ⟨rfl, rfl, rfl⟩)))) (hb hby own_d14_43) hr
    · show Q_str Z _ c1 c2 G1 h0 n0 _ T166.heap _
      exact ⟨b129, rfl, N166, K173, by rw [own_cs2]; exact hSB⟩
theorem own_pn_3 : plainName "java/lang/Record" = true := by decide +kernel
theorem own_d1_0 : decode jdk_30_method_1_code 0 = .ok (.aload_n 0, 1) := by decide +kernel
theorem own_d1_1 : decode jdk_30_method_1_code 1 = .ok (.invokespecial 1, 3) := by decide +kernel
theorem own_d1_4 : decode jdk_30_method_1_code 4 = .ok (.return_, 1) := by decide +kernel
theorem own_ef_rec (m : MethodId) (x0 : Addr) : entryFrame m #[(.ref x0)] 1 = mkF m 0 #[rv x0] [] := by first | (simp [entryFrame, mkF, argsToLocals, Value.category]; done) | rfl
def Q_rec (Z : State) (a1 : Addr) (h0 : Heap) (n0 : Nat) (v : Option Value) (h : Heap) (L : List Loc) : Prop := v = none ∧ Fr n0 L ∧ h = h0
set_option maxRecDepth 65536 in
set_option maxHeartbeats 40000000 in
theorem rm_rec (l : Launch) (Z : State) (a0 : Array Value) (hw : ∀ d ∈ tables_1, d.before a0 Z = true) (ws : List Jvm.Cond) (a1 : Addr) (h0 : Heap) (n0 : Nat) (Z0 : n0 ≤ h0.size)  :
    MetFree l (⟨"java/lang/Record", "<init>", "()V"⟩ : MethodName) (head1 (Jvm.Cond.code (⟨"java/lang/Record", "<init>", "()V"⟩ : MethodName) jdk_30_method_1_code 1 none :: ws) ({ frames := 1, cells := 0, slots := 0, locals := 12 } : Room)) (fun a U => a = #[(.ref a1)] ∧ Z.Warmed39 U.vm ∧ U.heap = h0) (fun _ _ _ _ _ => True) (fun _ U o U' => ∃ v L, o = .returned v ∧ Q_rec Z a1 h0 n0 v U'.heap L ∧ FrameEnd U o U' L ({ frames := 1, cells := 0, slots := 0, locals := 12 } : Room).cells ({ frames := 1, cells := 0, slots := 0, locals := 12 } : Room).slots) := by
  refine MetFree.of_bodySF (plainFor_of_name own_pn_3) hisR ?_
  intro p e s m args below meth c s₁ Bd hml0 hP hK
  obtain ⟨rfl, hZ, hh⟩ := hP
  have hx := Bd.exec
  have hby := Bd.bytes
  have hml : c.maxLocals = 1 := hml0
  have hown : s.vm.findClass "java/lang/Record" = some m.cls := findClass_of_methodNamed Bd.named
  have hnm := (name_of_methodNamed Bd.named Bd.method).1
  have W := own_W hw
  have X0 : Stand p l e ({ frames := 1, cells := 0, slots := 0, locals := 12 } : Room) s m #[(.ref a1)] below meth c s₁ [] 0 0 := Stand.of_body Bd
  have e0 : s₁.heap = h0 := by rw [← hh, Bd.state]; rfl
  have N0 := Fr.nil n0
  have pre0 : ∀ tq, Steps p.tables e below (s₁.setTop (mkF m 0 #[rv a1] [])) tq → Steps p.tables e below (s₁.setTop (entryFrame m #[(.ref a1)] 1)) tq := fun tq k => castTop (own_ef_rec m a1) k
  obtain ⟨T175, X175, e175, st175⟩ := initO X0 hx hZ hown (W 57 rfl) (W 25 rfl) (W 26 rfl) e0 (g := (mkF m 1 #[rv a1] [.ref a1])) rfl (by rw [hml]; rfl) rfl (hb hby own_d1_1) (by decide) (W := 0) own_wt (by decide)
  obtain ⟨fs, hr, hrun, hended, hW, hsame⟩ := X175.leave (v := none) (fun _ => rfl)
  refine ⟨_, _, pre0 _ (?_), hrun, hended, _, _, rfl, ?_, ⟨_, rfl⟩, hW, hsame.mono (by decide) (by decide)⟩
  · show Steps _ _ _ (s₁.setTop (mkF m 0 #[rv a1] [])) _
    refine XS.aloadN X0.here hx rfl (hb hby own_d1_0) rfl rfl ?_
    show Steps _ _ _ (s₁.setTop (mkF m 1 _ [.ref a1])) _
    refine st175 _ ?_
    show Steps _ _ _ (T175.setTop (mkF m 4 #[rv a1] [])) _
    exact X175.returnOut hx Bd.returns (hb hby own_d1_4) hr
  · show Q_rec Z a1 h0 n0 _ T175.heap _
    rw [e175]
    exact ⟨rfl, N0, rfl⟩
theorem own_pn_0 : plainName "itemwright/expression/Lexer$Token" = true := by decide +kernel
theorem own_d16_0 : decode prog_18_method_1_code 0 = .ok (.aload_n 0, 1) := by decide +kernel
theorem own_d16_1 : decode prog_18_method_1_code 1 = .ok (.invokespecial 1, 3) := by decide +kernel
theorem own_pd_4 : parseMethodDescriptor "()V" = some ⟨[], none⟩ := by decide +kernel
theorem own_d16_4 : decode prog_18_method_1_code 4 = .ok (.aload_n 0, 1) := by decide +kernel
theorem own_d16_5 : decode prog_18_method_1_code 5 = .ok (.aload_n 1, 1) := by decide +kernel
theorem own_d16_6 : decode prog_18_method_1_code 6 = .ok (.putfield 7, 3) := by decide +kernel
theorem own_d16_9 : decode prog_18_method_1_code 9 = .ok (.aload_n 0, 1) := by decide +kernel
theorem own_d16_10 : decode prog_18_method_1_code 10 = .ok (.aload_n 2, 1) := by decide +kernel
theorem own_d16_11 : decode prog_18_method_1_code 11 = .ok (.putfield 13, 3) := by decide +kernel
theorem own_d16_14 : decode prog_18_method_1_code 14 = .ok (.aload_n 0, 1) := by decide +kernel
theorem own_d16_15 : decode prog_18_method_1_code 15 = .ok (.iload_n 3, 1) := by decide +kernel
theorem own_d16_16 : decode prog_18_method_1_code 16 = .ok (.putfield 17, 3) := by decide +kernel
theorem own_d16_19 : decode prog_18_method_1_code 19 = .ok (.return_, 1) := by decide +kernel
theorem own_ef_tin (m : MethodId) (x0 : Addr) (x1 : Addr) (x2 : Addr) (x3 : Int32) : entryFrame m #[(.ref x0), (.ref x1), (.ref x2), (.int x3)] 4 = mkF m 0 #[rv x0, rv x1, rv x2, iv x3] [] := by first | (simp [entryFrame, mkF, argsToLocals, Value.category]; done) | rfl
def Q_tin (Z : State) (a1 kA x1 : Addr) (p1 : Int32) (h0 : Heap) (n0 : Nat) (v : Option Value) (h : Heap) (L : List Loc) : Prop := v = none ∧ Fr n0 L ∧ Keep h0 h [a1] ∧ Exa Z h a1 "itemwright/expression/Lexer$Token" ∧ Fld Z h a1 "itemwright/expression/Lexer$Token" "kind" "Litemwright/expression/Lexer$Kind;" (.ref kA) ∧ Fld Z h a1 "itemwright/expression/Lexer$Token" "text" "Ljava/lang/String;" (.ref x1)
set_option maxRecDepth 65536 in
set_option maxHeartbeats 40000000 in
theorem rm_tin (l : Launch) (Z : State) (a0 : Array Value) (hw : ∀ d ∈ tables_1, d.before a0 Z = true) (ws : List Jvm.Cond) (a1 kA x1 : Addr) (p1 : Int32) (h0 : Heap) (n0 : Nat) (Z0 : n0 ≤ h0.size) (E1 : Exa Z h0 a1 "itemwright/expression/Lexer$Token") (g1 : n0 ≤ a1) (F1 : Fld Z h0 a1 "itemwright/expression/Lexer$Token" "kind" "Litemwright/expression/Lexer$Kind;" .null) (F2 : Fld Z h0 a1 "itemwright/expression/Lexer$Token" "text" "Ljava/lang/String;" .null) (F3 : Fld Z h0 a1 "itemwright/expression/Lexer$Token" "position" "I" (.int (0 : Int32))) :
    MetFree l (⟨"itemwright/expression/Lexer$Token", "<init>", "(Litemwright/expression/Lexer$Kind;Ljava/lang/String;I)V"⟩ : MethodName) (head1 (Jvm.Cond.code (⟨"itemwright/expression/Lexer$Token", "<init>", "(Litemwright/expression/Lexer$Kind;Ljava/lang/String;I)V"⟩ : MethodName) prog_18_method_1_code 4 none :: ws) ({ frames := 2, cells := 0, slots := 0, locals := 24 } : Room)) (fun a U => a = #[(.ref a1), (.ref kA), (.ref x1), (.int p1)] ∧ Z.Warmed39 U.vm ∧ U.heap = h0) (fun _ _ _ _ _ => True) (fun _ U o U' => ∃ v L, o = .returned v ∧ Q_tin Z a1 kA x1 p1 h0 n0 v U'.heap L ∧ FrameEnd U o U' L ({ frames := 2, cells := 0, slots := 0, locals := 24 } : Room).cells ({ frames := 2, cells := 0, slots := 0, locals := 24 } : Room).slots) := by
  refine MetFree.of_bodySF (plainFor_of_name own_pn_0) hisR ?_
  intro p e s m args below meth c s₁ Bd hml0 hP hK
  obtain ⟨rfl, hZ, hh⟩ := hP
  have hx := Bd.exec
  have hby := Bd.bytes
  have hml : c.maxLocals = 4 := hml0
  have hown : s.vm.findClass "itemwright/expression/Lexer$Token" = some m.cls := findClass_of_methodNamed Bd.named
  have hnm := (name_of_methodNamed Bd.named Bd.method).1
  have W := own_W hw
  have X0 : Stand p l e ({ frames := 2, cells := 0, slots := 0, locals := 24 } : Room) s m #[(.ref a1), (.ref kA), (.ref x1), (.int p1)] below meth c s₁ [] 0 0 := Stand.of_body Bd
  have e0 : s₁.heap = h0 := by rw [← hh, Bd.state]; rfl
  have N0 := Fr.nil n0
  have pre0 : ∀ tq, Steps p.tables e below (s₁.setTop (mkF m 0 #[rv a1, rv kA, rv x1, iv p1] [])) tq → Steps p.tables e below (s₁.setTop (entryFrame m #[(.ref a1), (.ref kA), (.ref x1), (.int p1)] 4)) tq := fun tq k => castTop (own_ef_tin m a1 kA x1 p1) k
  have K176 : Keep h0 h0 [a1] := Keep.refl h0 [a1]
  obtain ⟨_, _, ⟨T177, L177, k177, n177⟩, -, X177, ⟨Lc177, hQ177, l177, y177, z177⟩, st177⟩ := X0.specialBack hx (y := (⟨"java/lang/Record", "<init>", "()V"⟩ : MethodName)) rfl hown (mvT hZ (W 52 rfl)) (mvT hZ (W 53 rfl)) (mvT hZ (W 56 rfl)) (by decide) (backOf (W := 0) (rm_rec l Z a0 hw [] a1 h0 n0 Z0 ) hZ (W 56 rfl) (W 55 rfl) (by decide) (by decide)) (g := (mkF m 1 #[rv a1, rv kA, rv x1, iv p1] [.ref a1])) rfl (by rw [hml]; rfl) (Steps.refl _) (a := a1) (argsL := []) (rest := []) (lenOf own_pd_4 rfl) rfl own_wt (hb hby own_d16_1) (fun _ _ => ⟨rfl, e0, (by decide : 0 + 0 ≤ _), (by decide : 0 + 0 ≤ _)⟩)
  dsimp only [Pt.U, Pt.locs, Pt.cells, Pt.slots] at X177 l177 y177 z177 st177 hQ177
  subst l177 y177 z177
  obtain ⟨rfl, Nq177, e177⟩ := hQ177
  have N177 := Fr.app N0 Nq177
  obtain ⟨T178, h178, X178, e178, W178, st178⟩ := putF X177 hx hZ hown (host := "") (Or.inl (W 58 rfl)) Via.refl e177 F1 E1 (Or.inr ⟨(W 59 rfl), rfl, hnm⟩) (W 47 rfl) (ty := (.object "itemwright/expression/Lexer$Kind")) (by decide) rfl rfl (g := (mkF m 6 #[rv a1, rv kA, rv x1, iv p1] [.ref kA, .ref a1])) rfl rfl (hb hby own_d16_6)
  have N178 := Fr.snoc X178 N177 g1
  have Fw178 := F1.same W178
  have Z179 : n0 ≤ h178.size := Nat.le_trans Z0 (Keep.of_wr W178).1
  have K180 : Keep h0 h178 [a1] := K176.wr W178 (Or.inl (List.mem_of_getElem? (i := 0) rfl))
  have f182 := (F2.other W178 (Or.inr (slot_ne (Or.inr (W 61 rfl)) (Or.inr (W 59 rfl)) (by decide) (t := (.object "java/lang/String")) (t' := (.object "itemwright/expression/Lexer$Kind")) (by decide) (by decide))))
  have f183 := (E1.wr W178)
  obtain ⟨T181, h181, X181, e181, W181, st181⟩ := putF X178 hx hZ hown (host := "") (Or.inl (W 60 rfl)) Via.refl e178 f182 f183 (Or.inr ⟨(W 61 rfl), rfl, hnm⟩) (W 47 rfl) (ty := (.object "java/lang/String")) (by decide) rfl rfl (g := (mkF m 11 #[rv a1, rv kA, rv x1, iv p1] [.ref x1, .ref a1])) rfl rfl (hb hby own_d16_11)
  have N181 := Fr.snoc X181 N178 g1
  have Fw181 := f182.same W181
  have Z184 : n0 ≤ h181.size := Nat.le_trans Z179 (Keep.of_wr W181).1
  have K185 : Keep h0 h181 [a1] := K180.wr W181 (Or.inl (List.mem_of_getElem? (i := 0) rfl))
  have f187 := ((F3.other W178 (Or.inr (slot_ne (Or.inr (W 63 rfl)) (Or.inr (W 59 rfl)) (by decide) (t := .int) (t' := (.object "itemwright/expression/Lexer$Kind")) (by decide) (by decide)))).other W181 (Or.inr (slot_ne (Or.inr (W 63 rfl)) (Or.inr (W 61 rfl)) (by decide) (t := .int) (t' := (.object "java/lang/String")) (by decide) (by decide))))
  have f188 := (f183.wr W181)
  obtain ⟨T186, h186, X186, e186, W186, st186⟩ := putF X181 hx hZ hown (host := "") (Or.inl (W 62 rfl)) Via.refl e181 f187 f188 (Or.inr ⟨(W 63 rfl), rfl, hnm⟩) (W 47 rfl) (ty := .int) (by decide) rfl rfl (g := (mkF m 16 #[rv a1, rv kA, rv x1, iv p1] [.int p1, .ref a1])) rfl rfl (hb hby own_d16_16)
  have N186 := Fr.snoc X186 N181 g1
  have Fw186 := f187.same W186
  have Z189 : n0 ≤ h186.size := Nat.le_trans Z184 (Keep.of_wr W186).1
  have K190 : Keep h0 h186 [a1] := K185.wr W186 (Or.inl (List.mem_of_getElem? (i := 0) rfl))
  have f191 := (f188.wr W186)
  have f192 := ((Fw178.other W181 (Or.inr (slot_ne (Or.inr (W 59 rfl)) (Or.inr (W 61 rfl)) (by decide) (t := (.object "itemwright/expression/Lexer$Kind")) (t' := (.object "java/lang/String")) (by decide) (by decide)))).other W186 (Or.inr (slot_ne (Or.inr (W 59 rfl)) (Or.inr (W 63 rfl)) (by decide) (t := (.object "itemwright/expression/Lexer$Kind")) (t' := .int) (by decide) (by decide))))
  have f193 := (Fw181.other W186 (Or.inr (slot_ne (Or.inr (W 61 rfl)) (Or.inr (W 63 rfl)) (by decide) (t := (.object "java/lang/String")) (t' := .int) (by decide) (by decide))))
  obtain ⟨fs, hr, hrun, hended, hW, hsame⟩ := X186.leave (v := none) (fun _ => rfl)
  refine ⟨_, _, pre0 _ (?_), hrun, hended, _, _, rfl, ?_, ⟨_, rfl⟩, hW, hsame.mono (by decide) (by decide)⟩
  · show Steps _ _ _ (s₁.setTop (mkF m 0 #[rv a1, rv kA, rv x1, iv p1] [])) _
    refine XS.aloadN X0.here hx rfl (hb hby own_d16_0) rfl rfl ?_
    show Steps _ _ _ (s₁.setTop (mkF m 1 _ [.ref a1])) _
    refine st177.trans ?_
    show Steps _ _ _ (T177.setTop (mkF m 4 #[rv a1, rv kA, rv x1, iv p1] [])) _
    refine XS.aloadN X177.here hx rfl (hb hby own_d16_4) rfl rfl ?_
    show Steps _ _ _ (T177.setTop (mkF m 5 _ [.ref a1])) _
    refine XS.aloadN X177.here hx rfl (hb hby own_d16_5) rfl rfl ?_
    show Steps _ _ _ (T177.setTop (mkF m 6 _ [.ref kA, .ref a1])) _
    refine st178 _ ?_
    show Steps _ _ _ (T178.setTop (mkF m 9 #[rv a1, rv kA, rv x1, iv p1] [])) _
    refine XS.aloadN X178.here hx rfl (hb hby own_d16_9) rfl rfl ?_
    show Steps _ _ _ (T178.setTop (mkF m 10 _ [.ref a1])) _
    refine XS.aloadN X178.here hx rfl (hb hby own_d16_10) rfl rfl ?_
    show Steps _ _ _ (T178.setTop (mkF m 11 _ [.ref x1, .ref a1])) _
    refine st181 _ ?_
    show Steps _ _ _ (T181.setTop (mkF m 14 #[rv a1, rv kA, rv x1, iv p1] [])) _
    refine XS.aloadN X181.here hx rfl (hb hby own_d16_14) rfl rfl ?_
    show Steps _ _ _ (T181.setTop (mkF m 15 _ [.ref a1])) _
    refine XS.iloadN X181.here hx rfl (hb hby own_d16_15) rfl ?_
    show Steps _ _ _ (T181.setTop (mkF m 16 _ [.int p1, .ref a1])) _
    refine st186 _ ?_
    show Steps _ _ _ (T186.setTop (mkF m 19 #[rv a1, rv kA, rv x1, iv p1] [])) _
    exact X186.returnOut hx Bd.returns (hb hby own_d16_19) hr
  · show Q_tin Z a1 kA x1 p1 h0 n0 _ T186.heap _
    rw [e186]
    exact ⟨rfl, N186, K190, f191, f192, f193⟩
theorem own_d17_0 : decode prog_18_method_2_code 0 = .ok (.aload_n 0, 1) := by decide +kernel
theorem own_d17_1 : decode prog_18_method_2_code 1 = .ok (.getfield 7, 3) := by decide +kernel
theorem own_d17_4 : decode prog_18_method_2_code 4 = .ok (.getstatic 21, 3) := by decide +kernel
theorem own_d17_7 : decode prog_18_method_2_code 7 = .ok (.if_acmp .eq 13, 3) := by decide +kernel
theorem own_d17_20 : decode prog_18_method_2_code 20 = .ok (.aload_n 0, 1) := by decide +kernel
theorem own_d17_21 : decode prog_18_method_2_code 21 = .ok (.getfield 13, 3) := by decide +kernel
theorem own_d17_24 : decode prog_18_method_2_code 24 = .ok (.aload_n 1, 1) := by decide +kernel
theorem own_d17_25 : decode prog_18_method_2_code 25 = .ok (.invokevirtual 29, 3) := by decide +kernel
theorem own_pd_14 : parseMethodDescriptor "(Ljava/lang/Object;)Z" = some ⟨[(.object "java/lang/Object")], some .boolean⟩ := by decide +kernel
theorem own_d17_28 : decode prog_18_method_2_code 28 = .ok (.ifCond .eq 7, 3) := by decide +kernel
theorem own_d17_31 : decode prog_18_method_2_code 31 = .ok (.iconst 1, 1) := by decide +kernel
theorem own_d17_32 : decode prog_18_method_2_code 32 = .ok (.goto 4, 3) := by decide +kernel
theorem own_d17_36 : decode prog_18_method_2_code 36 = .ok (.ireturn, 1) := by decide +kernel
theorem own_d17_35 : decode prog_18_method_2_code 35 = .ok (.iconst 0, 1) := by decide +kernel
theorem own_d17_10 : decode prog_18_method_2_code 10 = .ok (.aload_n 0, 1) := by decide +kernel
theorem own_d17_11 : decode prog_18_method_2_code 11 = .ok (.getfield 7, 3) := by decide +kernel
theorem own_d17_14 : decode prog_18_method_2_code 14 = .ok (.getstatic 26, 3) := by decide +kernel
theorem own_d17_17 : decode prog_18_method_2_code 17 = .ok (.if_acmp .ne 18, 3) := by decide +kernel
theorem own_ef_tis (m : MethodId) (x0 : Addr) (x1 : Addr) : entryFrame m #[(.ref x0), (.ref x1)] 2 = mkF m 0 #[rv x0, rv x1] [] := by first | (simp [entryFrame, mkF, argsToLocals, Value.category]; done) | rfl
def Q_tis (Z : State) (a1 kA x1 x2 ku kc : Addr) (b1 b2 : Nat) (cs ds : List Int32) (G1 : Int32) (h0 : Heap) (n0 : Nat) (v : Option Value) (h : Heap) (L : List Loc) : Prop := ∃ r, v = some (.int r) ∧ ((r = 1 ∧ (kA = ku ∨ kA = kc) ∧ cs = ds) ∨ (r = 0 ∧ ¬ ((kA = ku ∨ kA = kc) ∧ cs = ds))) ∧ Fr n0 L ∧ h = h0
set_option maxRecDepth 65536 in
set_option maxHeartbeats 40000000 in
theorem rm_tis (l : Launch) (Z : State) (a0 : Array Value) (hw : ∀ d ∈ tables_1, d.before a0 Z = true) (ws : List Jvm.Cond) (a1 kA x1 x2 ku kc : Addr) (b1 b2 : Nat) (cs ds : List Int32) (G1 : Int32) (h0 : Heap) (n0 : Nat) (Z0 : n0 ≤ h0.size) (X00 : Old Z n0 h0) (F1 : Fld Z h0 a1 "itemwright/expression/Lexer$Token" "kind" "Litemwright/expression/Lexer$Kind;" (.ref kA)) (F2 : Fld Z h0 a1 "itemwright/expression/Lexer$Token" "text" "Ljava/lang/String;" (.ref x1)) (SX : StrB Z h0 b1 x1 cs) (SY : StrB Z h0 b2 x2 ds) (Skc : Sta Z Z.heap "itemwright/expression/Lexer$Kind" "COMPARATOR" "Litemwright/expression/Lexer$Kind;" (.ref kc)) (Sku : Sta Z Z.heap "itemwright/expression/Lexer$Kind" "PUNCTUATION" "Litemwright/expression/Lexer$Kind;" (.ref ku)) (O2 : Sta Z Z.heap "java/lang/String" "COMPACT_STRINGS" "Z" (.int G1)) (P5 : ¬ (G1 = (0 : Int32))) :
    MetFree l (⟨"itemwright/expression/Lexer$Token", "is", "(Ljava/lang/String;)Z"⟩ : MethodName) (head1 (Jvm.Cond.code (⟨"itemwright/expression/Lexer$Token", "is", "(Ljava/lang/String;)Z"⟩ : MethodName) prog_18_method_2_code 2 (some .boolean) :: ws) ({ frames := 2, cells := 0, slots := 0, locals := 28 } : Room)) (fun a U => a = #[(.ref a1), (.ref x2)] ∧ Z.Warmed39 U.vm ∧ U.heap = h0) (fun _ _ _ _ _ => True) (fun _ U o U' => ∃ v L, o = .returned v ∧ Q_tis Z a1 kA x1 x2 ku kc b1 b2 cs ds G1 h0 n0 v U'.heap L ∧ FrameEnd U o U' L ({ frames := 2, cells := 0, slots := 0, locals := 28 } : Room).cells ({ frames := 2, cells := 0, slots := 0, locals := 28 } : Room).slots) := by
  refine MetFree.of_bodySF (plainFor_of_name own_pn_0) hisR ?_
  intro p e s m args below meth c s₁ Bd hml0 hP hK
  obtain ⟨rfl, hZ, hh⟩ := hP
  have hx := Bd.exec
  have hby := Bd.bytes
  have hml : c.maxLocals = 2 := hml0
  have hown : s.vm.findClass "itemwright/expression/Lexer$Token" = some m.cls := findClass_of_methodNamed Bd.named
  have hnm := (name_of_methodNamed Bd.named Bd.method).1
  have W := own_W hw
  have X0 : Stand p l e ({ frames := 2, cells := 0, slots := 0, locals := 28 } : Room) s m #[(.ref a1), (.ref x2)] below meth c s₁ [] 0 0 := Stand.of_body Bd
  have e0 : s₁.heap = h0 := by rw [← hh, Bd.state]; rfl
  have N0 := Fr.nil n0
  have pre0 : ∀ tq, Steps p.tables e below (s₁.setTop (mkF m 0 #[rv a1, rv x2] [])) tq → Steps p.tables e below (s₁.setTop (entryFrame m #[(.ref a1), (.ref x2)] 2)) tq := fun tq k => castTop (own_ef_tis m a1 x2) k
  have EX := SX.exa
  have heq : ∀ d ∈ StrChars.Road.wordsEq, d.before a0 Z = true := fun d hd => hw d ((by decide +kernel : ∀ d ∈ StrChars.Road.wordsEq, d ∈ tables_1) d hd)
  obtain ⟨T194, X194, e194, st194⟩ := getF X0 hx hZ hown (host := "") (Or.inl (W 58 rfl)) Via.refl e0 F1 (g := (mkF m 1 #[rv a1, rv x2] [.ref a1])) rfl rfl (hb hby own_d17_1)
  obtain ⟨T195, X195, e195, st195⟩ := getS2 X194 hx hZ hown (host := "") (Or.inl (W 69 rfl)) Via.refl e194 (Sku.ext X00.2) (g := (mkF m 4 #[rv a1, rv x2] [.ref kA])) rfl (hb hby own_d17_4)
  have G196 : ∀ tq, Steps p.tables e below (T195.setTop (mkF m 7 #[rv a1, rv x2] [.ref ku, .ref kA])) tq → Steps p.tables e below (s₁.setTop (mkF m 0 #[rv a1, rv x2] [])) tq := by
    intro tq kk
    show Steps _ _ _ (s₁.setTop (mkF m 0 #[rv a1, rv x2] [])) _
    refine XS.aloadN X0.here hx rfl (hb hby own_d17_0) rfl rfl ?_
    show Steps _ _ _ (s₁.setTop (mkF m 1 _ [.ref a1])) _
    refine st194 _ ?_
    show Steps _ _ _ (T194.setTop (mkF m 4 #[rv a1, rv x2] [.ref kA])) _
    refine st195 _ ?_
    exact kk
  by_cases hu : kA = ku
  · have G197 : ∀ tq, Steps p.tables e below (T195.setTop (mkF m 20 #[rv a1, rv x2] [])) tq → Steps p.tables e below (T195.setTop (mkF m 7 #[rv a1, rv x2] [.ref ku, .ref kA])) tq := by
      intro tq kk
      show Steps _ _ _ (T195.setTop (mkF m 7 #[rv a1, rv x2] [.ref ku, .ref kA])) _
      refine Jvm.RoadKit.acmp (g := (mkF m 7 #[rv a1, rv x2] [.ref ku, .ref kA])) X195 hx rfl rfl rfl (pc0 := 7) (pc' := 20) (same := true) rfl (hb hby own_d17_7) rfl (by first | simp [hu] | simp [eq_comm, hu]) (by decide) (by decide) ?_
      exact kk
    obtain ⟨T198, X198, e198, st198⟩ := getF X195 hx hZ hown (host := "") (Or.inl (W 60 rfl)) Via.refl e195 F2 (g := (mkF m 21 #[rv a1, rv x2] [.ref a1])) rfl rfl (hb hby own_d17_21)
    obtain ⟨cq199, kq199, q199a, q199b, q199c⟩ := isOf hZ e198 EX
    obtain ⟨_, _, ⟨T199, L199, k199, n199⟩, -, X199, ⟨Lc199, hQ199, l199, y199, z199⟩, st199⟩ := X198.virtualBack hx (y := (⟨"java/lang/String", "equals", "(Ljava/lang/Object;)Z"⟩ : MethodName)) (z := (⟨"java/lang/String", "equals", "(Ljava/lang/Object;)Z"⟩ : MethodName)) hown (mvT hZ (W 96 rfl)) (mvT hZ (W 97 rfl)) (notFace_of_selects (args := #[]) (mvT hZ (W 99 rfl))) (mvT hZ (W 99 rfl)) (mvT hZ (W 98 rfl)) (by decide) (own_eqS (W := 0) hZ heq (kI := 4) (W 14 rfl) SX SY (O2.ext X00.2) P5 (by decide) (by decide)) q199a q199c (g := (mkF m 25 #[rv a1, rv x2] [.ref x2, .ref x1])) rfl (by rw [hml]; rfl) (Steps.refl _) (argsL := [.ref x2]) (rest := []) (lenOf own_pd_14 rfl) rfl own_wt (hb hby own_d17_25) (fun _ _ => ⟨rfl, e198, (by decide : 0 + 0 ≤ _), (by decide : 0 + 0 ≤ _)⟩)
    dsimp only [Pt.U, Pt.locs, Pt.cells, Pt.slots] at X199 l199 y199 z199 st199 hQ199
    subst l199 y199 z199
    obtain ⟨hq199, rfl, e199⟩ := hQ199
    have N199 := Fr.app N0 (Fr.nil n0)
    rcases hq199 with ⟨rfl, hcd⟩ | ⟨rfl, hcd⟩
    · obtain ⟨fs, hr, hrun, hended, hW, hsame⟩ := X199.leave (v := some (.int (1 : Int32))) (fun h => by rw [Bd.returns] at h; cases h)
      refine ⟨_, _, pre0 _ (G196 _ (G197 _ (?_))), hrun, hended, _, _, rfl, ?_, ⟨_, rfl⟩, hW, hsame.mono (by decide) (by decide)⟩
      · show Steps _ _ _ (T195.setTop (mkF m 20 #[rv a1, rv x2] [])) _
        refine XS.aloadN X195.here hx rfl (hb hby own_d17_20) rfl rfl ?_
        show Steps _ _ _ (T195.setTop (mkF m 21 _ [.ref a1])) _
        refine st198 _ ?_
        show Steps _ _ _ (T198.setTop (mkF m 24 #[rv a1, rv x2] [.ref x1])) _
        refine XS.aloadN X198.here hx rfl (hb hby own_d17_24) rfl rfl ?_
        show Steps _ _ _ (T198.setTop (mkF m 25 _ [.ref x2, .ref x1])) _
        refine st199.trans ?_
        show Steps _ _ _ (T199.setTop (mkF m 28 #[rv a1, rv x2] [.int 1])) _
        refine XS.ifNo X199.here hx rfl (hb hby own_d17_28) rfl ((if0 _ _).trans (feq ((by decide) : ¬ ((1 : Int32) = (0 : Int32)))).1) ?_
        show Steps _ _ _ (T199.setTop (mkF m 31 _ [])) _
        refine XS.iconst X199.here hx rfl (hb hby own_d17_31) ?_
        show Steps _ _ _ (T199.setTop (mkF m 32 _ [.int 1])) _
        refine XS.goto X199.here hx rfl (pc0 := 32) (pc' := 36) rfl (hb hby own_d17_32) (by decide) (by decide) ?_
        show Steps _ _ _ (T199.setTop (mkF m 36 _ [.int 1])) _
        exact retN X199 hx (t := .boolean) Bd.returns (by simp) (hb hby own_d17_36) hr
      · show Q_tis Z a1 kA x1 x2 ku kc b1 b2 cs ds G1 h0 n0 _ T199.heap _
        rw [e199]
        exact ⟨1, rfl, Or.inl ⟨rfl, Or.inl hu, hcd⟩, N199, rfl⟩
    · obtain ⟨fs, hr, hrun, hended, hW, hsame⟩ := X199.leave (v := some (.int (0 : Int32))) (fun h => by rw [Bd.returns] at h; cases h)
      refine ⟨_, _, pre0 _ (G196 _ (G197 _ (?_))), hrun, hended, _, _, rfl, ?_, ⟨_, rfl⟩, hW, hsame.mono (by decide) (by decide)⟩
      · show Steps _ _ _ (T195.setTop (mkF m 20 #[rv a1, rv x2] [])) _
        refine XS.aloadN X195.here hx rfl (hb hby own_d17_20) rfl rfl ?_
        show Steps _ _ _ (T195.setTop (mkF m 21 _ [.ref a1])) _
        refine st198 _ ?_
        show Steps _ _ _ (T198.setTop (mkF m 24 #[rv a1, rv x2] [.ref x1])) _
        refine XS.aloadN X198.here hx rfl (hb hby own_d17_24) rfl rfl ?_
        show Steps _ _ _ (T198.setTop (mkF m 25 _ [.ref x2, .ref x1])) _
        refine st199.trans ?_
        show Steps _ _ _ (T199.setTop (mkF m 28 #[rv a1, rv x2] [.int 0])) _
        refine XS.ifYes X199.here hx rfl (pc0 := 28) (pc' := 35) rfl (hb hby own_d17_28) rfl ((if0 _ _).trans (teq (rfl : (0 : Int32) = (0 : Int32))).1) (by decide) (by decide) ?_
        show Steps _ _ _ (T199.setTop (mkF m 35 _ [])) _
        refine XS.iconst X199.here hx rfl (hb hby own_d17_35) ?_
        show Steps _ _ _ (T199.setTop (mkF m 36 _ [.int 0])) _
        exact retN X199 hx (t := .boolean) Bd.returns (by simp) (hb hby own_d17_36) hr
      · show Q_tis Z a1 kA x1 x2 ku kc b1 b2 cs ds G1 h0 n0 _ T199.heap _
        rw [e199]
        exact ⟨0, rfl, Or.inr ⟨rfl, fun q => hcd q.2⟩, N199, rfl⟩
  · obtain ⟨T200, X200, e200, st200⟩ := getF X195 hx hZ hown (host := "") (Or.inl (W 58 rfl)) Via.refl e195 F1 (g := (mkF m 11 #[rv a1, rv x2] [.ref a1])) rfl rfl (hb hby own_d17_11)
    obtain ⟨T201, X201, e201, st201⟩ := getS2 X200 hx hZ hown (host := "") (Or.inl (W 71 rfl)) Via.refl e200 (Skc.ext X00.2) (g := (mkF m 14 #[rv a1, rv x2] [.ref kA])) rfl (hb hby own_d17_14)
    have G202 : ∀ tq, Steps p.tables e below (T201.setTop (mkF m 17 #[rv a1, rv x2] [.ref kc, .ref kA])) tq → Steps p.tables e below (T195.setTop (mkF m 7 #[rv a1, rv x2] [.ref ku, .ref kA])) tq := by
      intro tq kk
      show Steps _ _ _ (T195.setTop (mkF m 7 #[rv a1, rv x2] [.ref ku, .ref kA])) _
      refine Jvm.RoadKit.acmp (g := (mkF m 7 #[rv a1, rv x2] [.ref ku, .ref kA])) X195 hx rfl rfl rfl (pc0 := 7) (pc' := 10) (same := false) rfl (hb hby own_d17_7) rfl (by first | simp [hu] | simp [eq_comm, hu]) (by decide) (by decide) ?_
      show Steps _ _ _ (T195.setTop (mkF m 10 #[rv a1, rv x2] [])) _
      refine XS.aloadN X195.here hx rfl (hb hby own_d17_10) rfl rfl ?_
      show Steps _ _ _ (T195.setTop (mkF m 11 _ [.ref a1])) _
      refine st200 _ ?_
      show Steps _ _ _ (T200.setTop (mkF m 14 #[rv a1, rv x2] [.ref kA])) _
      refine st201 _ ?_
      exact kk
    by_cases hc : kA = kc
    · have G203 : ∀ tq, Steps p.tables e below (T201.setTop (mkF m 20 #[rv a1, rv x2] [])) tq → Steps p.tables e below (T201.setTop (mkF m 17 #[rv a1, rv x2] [.ref kc, .ref kA])) tq := by
        intro tq kk
        show Steps _ _ _ (T201.setTop (mkF m 17 #[rv a1, rv x2] [.ref kc, .ref kA])) _
        refine Jvm.RoadKit.acmp (g := (mkF m 17 #[rv a1, rv x2] [.ref kc, .ref kA])) X201 hx rfl rfl rfl (pc0 := 17) (pc' := 20) (same := true) rfl (hb hby own_d17_17) rfl (by first | simp [hc] | simp [eq_comm, hc]) (by decide) (by decide) ?_
        exact kk
      obtain ⟨T204, X204, e204, st204⟩ := getF X201 hx hZ hown (host := "") (Or.inl (W 60 rfl)) Via.refl e201 F2 (g := (mkF m 21 #[rv a1, rv x2] [.ref a1])) rfl rfl (hb hby own_d17_21)
      obtain ⟨cq205, kq205, q205a, q205b, q205c⟩ := isOf hZ e204 EX
      obtain ⟨_, _, ⟨T205, L205, k205, n205⟩, -, X205, ⟨Lc205, hQ205, l205, y205, z205⟩, st205⟩ := X204.virtualBack hx (y := (⟨"java/lang/String", "equals", "(Ljava/lang/Object;)Z"⟩ : MethodName)) (z := (⟨"java/lang/String", "equals", "(Ljava/lang/Object;)Z"⟩ : MethodName)) hown (mvT hZ (W 96 rfl)) (mvT hZ (W 97 rfl)) (notFace_of_selects (args := #[]) (mvT hZ (W 99 rfl))) (mvT hZ (W 99 rfl)) (mvT hZ (W 98 rfl)) (by decide) (own_eqS (W := 0) hZ heq (kI := 4) (W 14 rfl) SX SY (O2.ext X00.2) P5 (by decide) (by decide)) q205a q205c (g := (mkF m 25 #[rv a1, rv x2] [.ref x2, .ref x1])) rfl (by rw [hml]; rfl) (Steps.refl _) (argsL := [.ref x2]) (rest := []) (lenOf own_pd_14 rfl) rfl own_wt (hb hby own_d17_25) (fun _ _ => ⟨rfl, e204, (by decide : 0 + 0 ≤ _), (by decide : 0 + 0 ≤ _)⟩)
      dsimp only [Pt.U, Pt.locs, Pt.cells, Pt.slots] at X205 l205 y205 z205 st205 hQ205
      subst l205 y205 z205
      obtain ⟨hq205, rfl, e205⟩ := hQ205
      have N205 := Fr.app N0 (Fr.nil n0)
      rcases hq205 with ⟨rfl, hcd⟩ | ⟨rfl, hcd⟩
      · obtain ⟨fs, hr, hrun, hended, hW, hsame⟩ := X205.leave (v := some (.int (1 : Int32))) (fun h => by rw [Bd.returns] at h; cases h)
        refine ⟨_, _, pre0 _ (G196 _ (G202 _ (G203 _ (?_)))), hrun, hended, _, _, rfl, ?_, ⟨_, rfl⟩, hW, hsame.mono (by decide) (by decide)⟩
        · show Steps _ _ _ (T201.setTop (mkF m 20 #[rv a1, rv x2] [])) _
          refine XS.aloadN X201.here hx rfl (hb hby own_d17_20) rfl rfl ?_
          show Steps _ _ _ (T201.setTop (mkF m 21 _ [.ref a1])) _
          refine st204 _ ?_
          show Steps _ _ _ (T204.setTop (mkF m 24 #[rv a1, rv x2] [.ref x1])) _
          refine XS.aloadN X204.here hx rfl (hb hby own_d17_24) rfl rfl ?_
          show Steps _ _ _ (T204.setTop (mkF m 25 _ [.ref x2, .ref x1])) _
          refine st205.trans ?_
          show Steps _ _ _ (T205.setTop (mkF m 28 #[rv a1, rv x2] [.int 1])) _
          refine XS.ifNo X205.here hx rfl (hb hby own_d17_28) rfl ((if0 _ _).trans (feq ((by decide) : ¬ ((1 : Int32) = (0 : Int32)))).1) ?_
          show Steps _ _ _ (T205.setTop (mkF m 31 _ [])) _
          refine XS.iconst X205.here hx rfl (hb hby own_d17_31) ?_
          show Steps _ _ _ (T205.setTop (mkF m 32 _ [.int 1])) _
          refine XS.goto X205.here hx rfl (pc0 := 32) (pc' := 36) rfl (hb hby own_d17_32) (by decide) (by decide) ?_
          show Steps _ _ _ (T205.setTop (mkF m 36 _ [.int 1])) _
          exact retN X205 hx (t := .boolean) Bd.returns (by simp) (hb hby own_d17_36) hr
        · show Q_tis Z a1 kA x1 x2 ku kc b1 b2 cs ds G1 h0 n0 _ T205.heap _
          rw [e205]
          exact ⟨1, rfl, Or.inl ⟨rfl, Or.inr hc, hcd⟩, N205, rfl⟩
      · obtain ⟨fs, hr, hrun, hended, hW, hsame⟩ := X205.leave (v := some (.int (0 : Int32))) (fun h => by rw [Bd.returns] at h; cases h)
        refine ⟨_, _, pre0 _ (G196 _ (G202 _ (G203 _ (?_)))), hrun, hended, _, _, rfl, ?_, ⟨_, rfl⟩, hW, hsame.mono (by decide) (by decide)⟩
        · show Steps _ _ _ (T201.setTop (mkF m 20 #[rv a1, rv x2] [])) _
          refine XS.aloadN X201.here hx rfl (hb hby own_d17_20) rfl rfl ?_
          show Steps _ _ _ (T201.setTop (mkF m 21 _ [.ref a1])) _
          refine st204 _ ?_
          show Steps _ _ _ (T204.setTop (mkF m 24 #[rv a1, rv x2] [.ref x1])) _
          refine XS.aloadN X204.here hx rfl (hb hby own_d17_24) rfl rfl ?_
          show Steps _ _ _ (T204.setTop (mkF m 25 _ [.ref x2, .ref x1])) _
          refine st205.trans ?_
          show Steps _ _ _ (T205.setTop (mkF m 28 #[rv a1, rv x2] [.int 0])) _
          refine XS.ifYes X205.here hx rfl (pc0 := 28) (pc' := 35) rfl (hb hby own_d17_28) rfl ((if0 _ _).trans (teq (rfl : (0 : Int32) = (0 : Int32))).1) (by decide) (by decide) ?_
          show Steps _ _ _ (T205.setTop (mkF m 35 _ [])) _
          refine XS.iconst X205.here hx rfl (hb hby own_d17_35) ?_
          show Steps _ _ _ (T205.setTop (mkF m 36 _ [.int 0])) _
          exact retN X205 hx (t := .boolean) Bd.returns (by simp) (hb hby own_d17_36) hr
        · show Q_tis Z a1 kA x1 x2 ku kc b1 b2 cs ds G1 h0 n0 _ T205.heap _
          rw [e205]
          exact ⟨0, rfl, Or.inr ⟨rfl, fun q => hcd q.2⟩, N205, rfl⟩
    · obtain ⟨fs, hr, hrun, hended, hW, hsame⟩ := X201.leave (v := some (.int (0 : Int32))) (fun h => by rw [Bd.returns] at h; cases h)
      refine ⟨_, _, pre0 _ (G196 _ (G202 _ (?_))), hrun, hended, _, _, rfl, ?_, ⟨_, rfl⟩, hW, hsame.mono (by decide) (by decide)⟩
      · show Steps _ _ _ (T201.setTop (mkF m 17 #[rv a1, rv x2] [.ref kc, .ref kA])) _
        refine Jvm.RoadKit.acmp (g := (mkF m 17 #[rv a1, rv x2] [.ref kc, .ref kA])) X201 hx rfl rfl rfl (pc0 := 17) (pc' := 35) (same := false) rfl (hb hby own_d17_17) rfl (by first | simp [hc] | simp [eq_comm, hc]) (by decide) (by decide) ?_
        show Steps _ _ _ (T201.setTop (mkF m 35 #[rv a1, rv x2] [])) _
        refine XS.iconst X201.here hx rfl (hb hby own_d17_35) ?_
        show Steps _ _ _ (T201.setTop (mkF m 36 _ [.int 0])) _
        exact retN X201 hx (t := .boolean) Bd.returns (by simp) (hb hby own_d17_36) hr
      · show Q_tis Z a1 kA x1 x2 ku kc b1 b2 cs ds G1 h0 n0 _ T201.heap _
        rw [e201]
        exact ⟨0, rfl, Or.inr ⟨rfl, fun q => absurd q.1 (not_or.mpr ⟨hu, hc⟩)⟩, N0, rfl⟩
theorem own_pd_0 : parseMethodDescriptor "(I)Litemwright/expression/Lexer$Kind;" = some ⟨[.int], some (.object "itemwright/expression/Lexer$Kind")⟩ := by decide +kernel
theorem own_pd_1 : parseMethodDescriptor "(ICC)Ljava/lang/String;" = some ⟨[.int, .char, .char], some (.object "java/lang/String")⟩ := by decide +kernel
theorem own_pd_8 : parseMethodDescriptor "(Litemwright/expression/Lexer$Kind;Ljava/lang/String;I)V" = some ⟨[(.object "itemwright/expression/Lexer$Kind"), (.object "java/lang/String"), .int], none⟩ := by decide +kernel
theorem own_pd_9 : parseMethodDescriptor "(Ljava/lang/String;)Z" = some ⟨[(.object "java/lang/String")], some .boolean⟩ := by decide +kernel
theorem own_ef_law (m : MethodId) (x0 : Int32) (x1 : Int64) (x2 : Int64) (x3 : Int32) : entryFrame m #[(.int x0), (.long x1), (.long x2), (.int x3)] maxLocals = mkF m 0 #[iv x0, .val (.long x1), .second, .val (.long x2), .second, iv x3, uu, uu, uu, uu, uu, uu, uu, uu, uu, uu, uu, uu, uu, uu] [] := by first | (simp [entryFrame, mkF, argsToLocals, Value.category, maxLocals]; done) | rfl
def Q_law (Z : State) (p1 : Int32) (q2 q3 : Int64) (p4 G1 : Int32) (kn k1 k2 k3 kc ku ke : Addr) (h0 : Heap) (n0 : Nat) (v : Option Value) (h : Heap) (L : List Loc) : Prop := v = some (.int 1) ∧ Fr n0 L
set_option maxRecDepth 65536 in
set_option maxHeartbeats 40000000 in
theorem rm_law (l : Launch) (Z : State) (a0 : Array Value) (hw : ∀ d ∈ tables_1, d.before a0 Z = true) (ws : List Jvm.Cond) (p1 : Int32) (q2 q3 : Int64) (p4 G1 : Int32) (kn k1 k2 k3 kc ku ke : Addr) (h0 : Heap) (n0 : Nat) (Z0 : n0 ≤ h0.size) (X00 : Old Z n0 h0) (O2 : Sta Z Z.heap "java/lang/String" "COMPACT_STRINGS" "Z" (.int G1)) (P5 : ¬ (G1 = (0 : Int32))) (Skn : Sta Z Z.heap "itemwright/expression/Lexer$Kind" "NAME" "Litemwright/expression/Lexer$Kind;" (.ref kn)) (Sk1 : Sta Z Z.heap "itemwright/expression/Lexer$Kind" "NAME_PLACEHOLDER" "Litemwright/expression/Lexer$Kind;" (.ref k1)) (Sk2 : Sta Z Z.heap "itemwright/expression/Lexer$Kind" "VALUE_PLACEHOLDER" "Litemwright/expression/Lexer$Kind;" (.ref k2)) (Sk3 : Sta Z Z.heap "itemwright/expression/Lexer$Kind" "INTEGER" "Litemwright/expression/Lexer$Kind;" (.ref k3)) (Skc : Sta Z Z.heap "itemwright/expression/Lexer$Kind" "COMPARATOR" "Litemwright/expression/Lexer$Kind;" (.ref kc)) (Sku : Sta Z Z.heap "itemwright/expression/Lexer$Kind" "PUNCTUATION" "Litemwright/expression/Lexer$Kind;" (.ref ku)) (Ske : Sta Z Z.heap "itemwright/expression/Lexer$Kind" "END" "Litemwright/expression/Lexer$Kind;" (.ref ke)) (Dkn : ¬ kn = ku ∧ ¬ kn = kc) (Dk1 : ¬ k1 = ku ∧ ¬ k1 = kc) (Dk2 : ¬ k2 = ku ∧ ¬ k2 = kc) (Dk3 : ¬ k3 = ku ∧ ¬ k3 = kc) (Dke : ¬ ke = ku ∧ ¬ ke = kc) :
    MetFree l x (head1 (Jvm.Cond.code x code maxLocals ret :: ws) room_1) (fun a U => a = #[(.int p1), (.long q2), (.long q3), (.int p4)] ∧ Z.Warmed39 U.vm ∧ U.heap = h0 ∧ own_J Z own_EL [] h0 U.vm) (fun _ _ _ _ _ => True) (fun _ U o U' => ∃ v L, o = .returned v ∧ Q_law Z p1 q2 q3 p4 G1 kn k1 k2 k3 kc ku ke h0 n0 v U'.heap L ∧ CHr Z own_EL U.vm U.heap U'.vm U'.heap ∧ ReturnedEndW U o U' L 24 1152) := by
  refine MetFree.of_bodySF (plainFor_of_name own_pn_1) hisR ?_
  intro p e s m args below meth c s₁ Bd hml0 hP hK
  obtain ⟨rfl, hZ, hh, hJ⟩ := hP
  have hx := Bd.exec
  have hby := Bd.bytes
  have hml : c.maxLocals = 20 := hml0
  have hown : s.vm.findClass "itemwright/expression/TokenIsPinLaw" = some m.cls := findClass_of_methodNamed Bd.named
  have hnm := (name_of_methodNamed Bd.named Bd.method).1
  have W := own_W hw
  have X0 : Stand p l e room_1 s m #[(.int p1), (.long q2), (.long q3), (.int p4)] below meth c s₁ [] 0 0 := Stand.of_body Bd
  have e0 : s₁.heap = h0 := by rw [← hh, Bd.state]; rfl
  have N0 := Fr.nil n0
  have pre0 : ∀ tq, Steps p.tables e below (s₁.setTop (mkF m 0 #[iv p1, .val (.long q2), .second, .val (.long q3), .second, iv p4, uu, uu, uu, uu, uu, uu, uu, uu, uu, uu, uu, uu, uu, uu] [])) tq → Steps p.tables e below (s₁.setTop (entryFrame m #[(.int p1), (.long q2), (.long q3), (.int p4)] maxLocals)) tq := fun tq k => castTop (own_ef_law m p1 q2 q3 p4) k
  have hEL := own_EW hw
  have wS : ∀ d ∈ Bundle.stringAtoms, d.before a0 Z = true := fun d hd => hw d ((by decide +kernel : ∀ d ∈ Bundle.stringAtoms, d ∈ tables_1) d hd)
  have hS0 : s.Since s.vm 0 := (State.WarmedH.refl s).since 0
  have hk0 : 0 ≤ h0.size := Nat.zero_le _
  have CH0 : CHv Z own_EL s.vm h0 := hJ.1
  have CR0 : CHr Z own_EL s.vm h0 s.vm h0 := CHr.refl CH0
  have X0 : Stand p l e room_1 (s.setVm s.vm) m #[(.int p1), (.long q2), (.long q3), (.int p4)] below meth c s₁ [] 0 0 := X0
  have Gn : ∀ tq, Steps p.tables e below (s₁.setTop (mkF m 7 #[iv p1, .val (.long q2), .second, .val (.long q3), .second, iv p4, uu, uu, uu, uu, uu, uu, uu, uu, uu, uu, uu, uu, uu, uu] [.int ((p1 &&& (2147483647 : Int32)) % (7 : Int32))])) tq → Steps p.tables e below (s₁.setTop (mkF m 0 #[iv p1, .val (.long q2), .second, .val (.long q3), .second, iv p4, uu, uu, uu, uu, uu, uu, uu, uu, uu, uu, uu, uu, uu, uu] [])) tq := by
    intro tq kk
    show Steps _ _ _ (s₁.setTop (mkF m 0 #[iv p1, .val (.long q2), .second, .val (.long q3), .second, iv p4, uu, uu, uu, uu, uu, uu, uu, uu, uu, uu, uu, uu, uu, uu] [])) _
    refine XS.iloadN X0.here hx rfl (hb hby at_0) rfl ?_
    show Steps _ _ _ (s₁.setTop (mkF m 1 _ [.int p1])) _
    refine Jvm.Stand.ldcI X0 hx hown (mvT hZ (W 0 rfl)) rfl (hb hby at_1) ?_
    show Steps _ _ _ (s₁.setTop (mkF m 3 _ [.int 2147483647, .int p1])) _
    refine XS.iand X0.here hx rfl (hb hby at_3) rfl ?_
    show Steps _ _ _ (s₁.setTop (mkF m 4 _ [.int (p1 &&& (2147483647 : Int32))])) _
    refine XS.bipush X0.here hx rfl (hb hby at_4) ?_
    show Steps _ _ _ (s₁.setTop (mkF m 6 _ [.int 7, .int (p1 &&& (2147483647 : Int32))])) _
    refine XS.irem X0.here hx rfl (hb hby at_6) rfl (by decide) ?_
    rw [own_rem_eq (p1 &&& (2147483647 : Int32)) (7 : Int32)]
    exact kk
  generalize (p1 &&& (2147483647 : Int32)) % (7 : Int32) = i1 at Gn
  obtain ⟨_, _, ⟨T206, L206, k206, n206⟩, -, X206, ⟨Lc206, hQ206, l206, y206, z206⟩, st206⟩ := Jvm.LawKit.callS X0 hx (y := (⟨"itemwright/expression/TokenIsPinLaw", "kindOf", "(I)Litemwright/expression/Lexer$Kind;"⟩ : MethodName)) hown (mvT hZ (W 1 rfl)) (mvT hZ (W 2 rfl)) (mvT hZ (W 3 rfl)) (mvT hZ (W 4 rfl)) (by decide) (backOf (W := 0) (rm_kof l Z a0 hw [] i1 kn k1 k2 k3 kc ku ke h0 n0 Z0 X00 Skn Sk1 Sk2 Sk3 Skc Sku Ske Dkn Dk1 Dk2 Dk3 Dke) hZ (W 4 rfl) (W 3 rfl) (by decide) (by decide)) (g := (mkF m 11 #[iv p1, .val (.long q2), .second, .val (.long q3), .second, iv p4, iv i1, uu, uu, uu, uu, uu, uu, uu, uu, uu, uu, uu, uu, uu] [.int i1])) rfl (by rw [hml]; rfl) (argsL := [.int i1]) (rest := []) (lenOf own_pd_0 rfl) rfl own_wt (hb hby at_11) (fun _ _ => ⟨rfl, e0, (by decide : 0 + 0 ≤ _), (by decide : 0 + 0 ≤ _)⟩)
  dsimp only [Pt.U, Pt.locs, Pt.cells, Pt.slots] at X206 l206 y206 z206 st206 hQ206
  subst l206 y206 z206
  obtain ⟨kA, hv206, Nq206, e206, hk⟩ := hQ206
  subst hv206
  have N206 := Fr.app N0 Nq206
  have G207 : ∀ tq, Steps p.tables e below (T206.setTop (mkF m 16 #[iv p1, .val (.long q2), .second, .val (.long q3), .second, iv p4, iv i1, rv kA, uu, uu, uu, uu, uu, uu, uu, uu, uu, uu, uu, uu] [])) tq → Steps p.tables e below (s₁.setTop (mkF m 7 #[iv p1, .val (.long q2), .second, .val (.long q3), .second, iv p4, uu, uu, uu, uu, uu, uu, uu, uu, uu, uu, uu, uu, uu, uu] [.int i1])) tq := by
    intro tq kk
    show Steps _ _ _ (s₁.setTop (mkF m 7 #[iv p1, .val (.long q2), .second, .val (.long q3), .second, iv p4, uu, uu, uu, uu, uu, uu, uu, uu, uu, uu, uu, uu, uu, uu] [.int i1])) _
    refine XS.istore X0.here hx rfl (hb hby at_7) rfl (l' := #[iv p1, .val (.long q2), .second, .val (.long q3), .second, iv p4, iv i1, uu, uu, uu, uu, uu, uu, uu, uu, uu, uu, uu, uu, uu]) rfl ?_
    show Steps _ _ _ (s₁.setTop (mkF m 9 _ [])) _
    refine XS.iload X0.here hx rfl (hb hby at_9) rfl ?_
    show Steps _ _ _ (s₁.setTop (mkF m 11 _ [.int i1])) _
    refine st206 _ ?_
    show Steps _ _ _ (T206.setTop (mkF m 14 #[iv p1, .val (.long q2), .second, .val (.long q3), .second, iv p4, iv i1, uu, uu, uu, uu, uu, uu, uu, uu, uu, uu, uu, uu, uu] [.ref kA])) _
    refine XS.astore X206.here hx rfl (hb hby at_14) rfl rfl (l' := #[iv p1, .val (.long q2), .second, .val (.long q3), .second, iv p4, iv i1, rv kA, uu, uu, uu, uu, uu, uu, uu, uu, uu, uu, uu, uu]) rfl ?_
    exact kk
  obtain ⟨lT, elT, hlT⟩ := own_l3 q2
  obtain ⟨t0, et0, ht0⟩ := own_c8 (own_ushrL q2 (8 : Int32))
  obtain ⟨t1, et1, ht1⟩ := own_c8 (own_ushrL q2 (16 : Int32))
  have G208 : ∀ tq, Steps p.tables e below (T206.setTop (mkF m 56 #[iv p1, .val (.long q2), .second, .val (.long q3), .second, iv p4, iv i1, rv kA, iv lT, iv t0, iv t1, uu, uu, uu, uu, uu, uu, uu, uu, uu] [.long 0, .long (q3 &&& (1 : Int64))])) tq → Steps p.tables e below (T206.setTop (mkF m 16 #[iv p1, .val (.long q2), .second, .val (.long q3), .second, iv p4, iv i1, rv kA, uu, uu, uu, uu, uu, uu, uu, uu, uu, uu, uu, uu] [])) tq := by
    intro tq kk
    show Steps _ _ _ (T206.setTop (mkF m 16 #[iv p1, .val (.long q2), .second, .val (.long q3), .second, iv p4, iv i1, rv kA, uu, uu, uu, uu, uu, uu, uu, uu, uu, uu, uu, uu] [])) _
    refine XS.lloadN X206.here hx rfl (hb hby at_16) rfl ?_
    show Steps _ _ _ (T206.setTop (mkF m 17 _ [.long q2])) _
    refine Jvm.Stand.ldc2J X206 hx hown (mvT hZ (W 8 rfl)) rfl (hb hby at_17) ?_
    show Steps _ _ _ (T206.setTop (mkF m 20 _ [.long 3, .long q2])) _
    refine XS.land X206.here hx rfl (hb hby at_20) rfl ?_
    show Steps _ _ _ (T206.setTop (mkF m 21 _ [.long (q2 &&& (3 : Int64))])) _
    refine Jvm.Stand.ldc2J X206 hx hown (mvT hZ (W 8 rfl)) rfl (hb hby at_21) ?_
    show Steps _ _ _ (T206.setTop (mkF m 24 _ [.long 3, .long (q2 &&& (3 : Int64))])) _
    refine XS.lrem X206.here hx rfl (hb hby at_24) rfl (by decide) ?_
    rw [own_rem_eqL (q2 &&& (3 : Int64)) (3 : Int64)]
    show Steps _ _ _ (T206.setTop (mkF m 25 #[iv p1, .val (.long q2), .second, .val (.long q3), .second, iv p4, iv i1, rv kA, uu, uu, uu, uu, uu, uu, uu, uu, uu, uu, uu, uu] [.long ((q2 &&& (3 : Int64)) % (3 : Int64))])) _
    refine XS.l2i X206.here hx rfl (hb hby at_25) rfl ?_
    rw [elT]
    show Steps _ _ _ (T206.setTop (mkF m 26 #[iv p1, .val (.long q2), .second, .val (.long q3), .second, iv p4, iv i1, rv kA, uu, uu, uu, uu, uu, uu, uu, uu, uu, uu, uu, uu] [.int lT])) _
    refine XS.istore X206.here hx rfl (hb hby at_26) rfl (l' := #[iv p1, .val (.long q2), .second, .val (.long q3), .second, iv p4, iv i1, rv kA, iv lT, uu, uu, uu, uu, uu, uu, uu, uu, uu, uu, uu]) rfl ?_
    show Steps _ _ _ (T206.setTop (mkF m 28 _ [])) _
    refine XS.lloadN X206.here hx rfl (hb hby at_28) rfl ?_
    show Steps _ _ _ (T206.setTop (mkF m 29 _ [.long q2])) _
    refine XS.bipush X206.here hx rfl (hb hby at_29) ?_
    show Steps _ _ _ (T206.setTop (mkF m 31 _ [.int 8, .long q2])) _
    refine XS.lushr X206.here hx rfl (hb hby at_31) rfl ?_
    show Steps _ _ _ (T206.setTop (mkF m 32 _ [.long (own_ushrL q2 (8 : Int32))])) _
    refine Jvm.Stand.ldc2J X206 hx hown (mvT hZ (W 9 rfl)) rfl (hb hby at_32) ?_
    show Steps _ _ _ (T206.setTop (mkF m 35 _ [.long 255, .long (own_ushrL q2 (8 : Int32))])) _
    refine XS.land X206.here hx rfl (hb hby at_35) rfl ?_
    show Steps _ _ _ (T206.setTop (mkF m 36 _ [.long ((own_ushrL q2 (8 : Int32)) &&& (255 : Int64))])) _
    refine XS.l2i X206.here hx rfl (hb hby at_36) rfl ?_
    show Steps _ _ _ (T206.setTop (mkF m 37 _ [.int (((own_ushrL q2 (8 : Int32)) &&& (255 : Int64)).toInt32)])) _
    refine XS.i2c X206.here hx rfl (hb hby at_37) rfl ?_
    rw [et0]
    show Steps _ _ _ (T206.setTop (mkF m 38 #[iv p1, .val (.long q2), .second, .val (.long q3), .second, iv p4, iv i1, rv kA, iv lT, uu, uu, uu, uu, uu, uu, uu, uu, uu, uu, uu] [.int t0])) _
    refine XS.istore X206.here hx rfl (hb hby at_38) rfl (l' := #[iv p1, .val (.long q2), .second, .val (.long q3), .second, iv p4, iv i1, rv kA, iv lT, iv t0, uu, uu, uu, uu, uu, uu, uu, uu, uu, uu]) rfl ?_
    show Steps _ _ _ (T206.setTop (mkF m 40 _ [])) _
    refine XS.lloadN X206.here hx rfl (hb hby at_40) rfl ?_
    show Steps _ _ _ (T206.setTop (mkF m 41 _ [.long q2])) _
    refine XS.bipush X206.here hx rfl (hb hby at_41) ?_
    show Steps _ _ _ (T206.setTop (mkF m 43 _ [.int 16, .long q2])) _
    refine XS.lushr X206.here hx rfl (hb hby at_43) rfl ?_
    show Steps _ _ _ (T206.setTop (mkF m 44 _ [.long (own_ushrL q2 (16 : Int32))])) _
    refine Jvm.Stand.ldc2J X206 hx hown (mvT hZ (W 9 rfl)) rfl (hb hby at_44) ?_
    show Steps _ _ _ (T206.setTop (mkF m 47 _ [.long 255, .long (own_ushrL q2 (16 : Int32))])) _
    refine XS.land X206.here hx rfl (hb hby at_47) rfl ?_
    show Steps _ _ _ (T206.setTop (mkF m 48 _ [.long ((own_ushrL q2 (16 : Int32)) &&& (255 : Int64))])) _
    refine XS.l2i X206.here hx rfl (hb hby at_48) rfl ?_
    show Steps _ _ _ (T206.setTop (mkF m 49 _ [.int (((own_ushrL q2 (16 : Int32)) &&& (255 : Int64)).toInt32)])) _
    refine XS.i2c X206.here hx rfl (hb hby at_49) rfl ?_
    rw [et1]
    show Steps _ _ _ (T206.setTop (mkF m 50 #[iv p1, .val (.long q2), .second, .val (.long q3), .second, iv p4, iv i1, rv kA, iv lT, iv t0, uu, uu, uu, uu, uu, uu, uu, uu, uu, uu] [.int t1])) _
    refine XS.istore X206.here hx rfl (hb hby at_50) rfl (l' := #[iv p1, .val (.long q2), .second, .val (.long q3), .second, iv p4, iv i1, rv kA, iv lT, iv t0, iv t1, uu, uu, uu, uu, uu, uu, uu, uu, uu]) rfl ?_
    show Steps _ _ _ (T206.setTop (mkF m 52 _ [])) _
    refine XS.lloadN X206.here hx rfl (hb hby at_52) rfl ?_
    show Steps _ _ _ (T206.setTop (mkF m 53 _ [.long q3])) _
    refine XS.lconst X206.here hx rfl (hb hby at_53) ?_
    show Steps _ _ _ (T206.setTop (mkF m 54 _ [.long 1, .long q3])) _
    refine XS.land X206.here hx rfl (hb hby at_54) rfl ?_
    show Steps _ _ _ (T206.setTop (mkF m 55 _ [.long (q3 &&& (1 : Int64))])) _
    refine XS.lconst X206.here hx rfl (hb hby at_55) ?_
    exact kk
  obtain ⟨sm, lS, s0, s1, hlS, hs0, hs1, GS⟩ : ∃ sm lS s0 s1 : Int32, (lS = 0 ∨ lS = 1 ∨ lS = 2) ∧ (¬ s0 < 0 ∧ ¬ (255 : Int32) < s0) ∧ (¬ s1 < 0 ∧ ¬ (255 : Int32) < s1) ∧ (∀ tq, Steps p.tables e below (T206.setTop (mkF m 135 #[iv p1, .val (.long q2), .second, .val (.long q3), .second, iv p4, iv i1, rv kA, iv lT, iv t0, iv t1, iv sm, iv lS, iv s0, iv s1, uu, uu, uu, uu, uu] [])) tq → Steps p.tables e below (T206.setTop (mkF m 56 #[iv p1, .val (.long q2), .second, .val (.long q3), .second, iv p4, iv i1, rv kA, iv lT, iv t0, iv t1, uu, uu, uu, uu, uu, uu, uu, uu, uu] [.long 0, .long (q3 &&& (1 : Int64))])) tq) := by
    by_cases hs : own_cmpL (q3 &&& (1 : Int64)) (0 : Int64) = (0 : Int32)
    · have G209 : ∀ tq, Steps p.tables e below (T206.setTop (mkF m 135 #[iv p1, .val (.long q2), .second, .val (.long q3), .second, iv p4, iv i1, rv kA, iv lT, iv t0, iv t1, iv 1, iv lT, iv t0, iv t1, uu, uu, uu, uu, uu] [])) tq → Steps p.tables e below (T206.setTop (mkF m 56 #[iv p1, .val (.long q2), .second, .val (.long q3), .second, iv p4, iv i1, rv kA, iv lT, iv t0, iv t1, uu, uu, uu, uu, uu, uu, uu, uu, uu] [.long 0, .long (q3 &&& (1 : Int64))])) tq := by
        intro tq kk
        show Steps _ _ _ (T206.setTop (mkF m 56 #[iv p1, .val (.long q2), .second, .val (.long q3), .second, iv p4, iv i1, rv kA, iv lT, iv t0, iv t1, uu, uu, uu, uu, uu, uu, uu, uu, uu] [.long 0, .long (q3 &&& (1 : Int64))])) _
        refine XS.lcmp X206.here hx rfl (hb hby at_56) rfl ?_
        show Steps _ _ _ (T206.setTop (mkF m 57 _ [.int (own_cmpL (q3 &&& (1 : Int64)) (0 : Int64))])) _
        refine XS.ifNo X206.here hx rfl (hb hby at_57) rfl ((if0 _ _).trans (teq (hs : (own_cmpL (q3 &&& (1 : Int64)) (0 : Int64)) = (0 : Int32))).2) ?_
        show Steps _ _ _ (T206.setTop (mkF m 60 _ [])) _
        refine XS.iconst X206.here hx rfl (hb hby at_60) ?_
        show Steps _ _ _ (T206.setTop (mkF m 61 _ [.int 1])) _
        refine XS.goto X206.here hx rfl (pc0 := 61) (pc' := 65) rfl (hb hby at_61) (by decide) (by decide) ?_
        show Steps _ _ _ (T206.setTop (mkF m 65 _ [.int 1])) _
        refine XS.istore X206.here hx rfl (hb hby at_65) rfl (l' := #[iv p1, .val (.long q2), .second, .val (.long q3), .second, iv p4, iv i1, rv kA, iv lT, iv t0, iv t1, iv 1, uu, uu, uu, uu, uu, uu, uu, uu]) rfl ?_
        show Steps _ _ _ (T206.setTop (mkF m 67 _ [])) _
        refine XS.iload X206.here hx rfl (hb hby at_67) rfl ?_
        show Steps _ _ _ (T206.setTop (mkF m 69 _ [.int 1])) _
        refine XS.ifNo X206.here hx rfl (hb hby at_69) rfl ((if0 _ _).trans (feq ((by decide) : ¬ ((1 : Int32) = (0 : Int32)))).1) ?_
        show Steps _ _ _ (T206.setTop (mkF m 72 _ [])) _
        refine XS.iload X206.here hx rfl (hb hby at_72) rfl ?_
        show Steps _ _ _ (T206.setTop (mkF m 74 #[iv p1, .val (.long q2), .second, .val (.long q3), .second, iv p4, iv i1, rv kA, iv lT, iv t0, iv t1, iv 1, uu, uu, uu, uu, uu, uu, uu, uu] [.int lT])) _
        refine XS.goto X206.here hx rfl (pc0 := 74) (pc' := 89) rfl (hb hby at_74) (by decide) (by decide) ?_
        show Steps _ _ _ (T206.setTop (mkF m 89 _ [.int lT])) _
        refine XS.istore X206.here hx rfl (hb hby at_89) rfl (l' := #[iv p1, .val (.long q2), .second, .val (.long q3), .second, iv p4, iv i1, rv kA, iv lT, iv t0, iv t1, iv 1, iv lT, uu, uu, uu, uu, uu, uu, uu]) rfl ?_
        show Steps _ _ _ (T206.setTop (mkF m 91 _ [])) _
        refine XS.iload X206.here hx rfl (hb hby at_91) rfl ?_
        show Steps _ _ _ (T206.setTop (mkF m 93 _ [.int 1])) _
        refine XS.ifNo X206.here hx rfl (hb hby at_93) rfl ((if0 _ _).trans (feq ((by decide) : ¬ ((1 : Int32) = (0 : Int32)))).1) ?_
        show Steps _ _ _ (T206.setTop (mkF m 96 _ [])) _
        refine XS.iload X206.here hx rfl (hb hby at_96) rfl ?_
        show Steps _ _ _ (T206.setTop (mkF m 98 _ [.int t0])) _
        refine XS.goto X206.here hx rfl (pc0 := 98) (pc' := 111) rfl (hb hby at_98) (by decide) (by decide) ?_
        show Steps _ _ _ (T206.setTop (mkF m 111 _ [.int t0])) _
        refine XS.istore X206.here hx rfl (hb hby at_111) rfl (l' := #[iv p1, .val (.long q2), .second, .val (.long q3), .second, iv p4, iv i1, rv kA, iv lT, iv t0, iv t1, iv 1, iv lT, iv t0, uu, uu, uu, uu, uu, uu]) rfl ?_
        show Steps _ _ _ (T206.setTop (mkF m 113 _ [])) _
        refine XS.iload X206.here hx rfl (hb hby at_113) rfl ?_
        show Steps _ _ _ (T206.setTop (mkF m 115 #[iv p1, .val (.long q2), .second, .val (.long q3), .second, iv p4, iv i1, rv kA, iv lT, iv t0, iv t1, iv 1, iv lT, iv t0, uu, uu, uu, uu, uu, uu] [.int 1])) _
        refine XS.ifNo X206.here hx rfl (hb hby at_115) rfl ((if0 _ _).trans (feq ((by decide) : ¬ ((1 : Int32) = (0 : Int32)))).1) ?_
        show Steps _ _ _ (T206.setTop (mkF m 118 _ [])) _
        refine XS.iload X206.here hx rfl (hb hby at_118) rfl ?_
        show Steps _ _ _ (T206.setTop (mkF m 120 _ [.int t1])) _
        refine XS.goto X206.here hx rfl (pc0 := 120) (pc' := 133) rfl (hb hby at_120) (by decide) (by decide) ?_
        show Steps _ _ _ (T206.setTop (mkF m 133 _ [.int t1])) _
        refine XS.istore X206.here hx rfl (hb hby at_133) rfl (l' := #[iv p1, .val (.long q2), .second, .val (.long q3), .second, iv p4, iv i1, rv kA, iv lT, iv t0, iv t1, iv 1, iv lT, iv t0, iv t1, uu, uu, uu, uu, uu]) rfl ?_
        exact kk
      exact ⟨1, lT, t0, t1, hlT, ht0, ht1, fun tgt kk => G209 _ kk⟩
    · obtain ⟨lS, elS, hlS⟩ := own_l3 (own_ushrL q3 (1 : Int32))
      obtain ⟨s0, es0, hs0⟩ := own_c8 (own_ushrL q3 (8 : Int32))
      obtain ⟨s1, es1, hs1⟩ := own_c8 (own_ushrL q3 (16 : Int32))
      have G210 : ∀ tq, Steps p.tables e below (T206.setTop (mkF m 135 #[iv p1, .val (.long q2), .second, .val (.long q3), .second, iv p4, iv i1, rv kA, iv lT, iv t0, iv t1, iv 0, iv lS, iv s0, iv s1, uu, uu, uu, uu, uu] [])) tq → Steps p.tables e below (T206.setTop (mkF m 56 #[iv p1, .val (.long q2), .second, .val (.long q3), .second, iv p4, iv i1, rv kA, iv lT, iv t0, iv t1, uu, uu, uu, uu, uu, uu, uu, uu, uu] [.long 0, .long (q3 &&& (1 : Int64))])) tq := by
        intro tq kk
        show Steps _ _ _ (T206.setTop (mkF m 56 #[iv p1, .val (.long q2), .second, .val (.long q3), .second, iv p4, iv i1, rv kA, iv lT, iv t0, iv t1, uu, uu, uu, uu, uu, uu, uu, uu, uu] [.long 0, .long (q3 &&& (1 : Int64))])) _
        refine XS.lcmp X206.here hx rfl (hb hby at_56) rfl ?_
        show Steps _ _ _ (T206.setTop (mkF m 57 _ [.int (own_cmpL (q3 &&& (1 : Int64)) (0 : Int64))])) _
        refine XS.ifYes X206.here hx rfl (pc0 := 57) (pc' := 64) rfl (hb hby at_57) rfl ((if0 _ _).trans (feq (hs : ¬ ((own_cmpL (q3 &&& (1 : Int64)) (0 : Int64)) = (0 : Int32)))).2) (by decide) (by decide) ?_
        show Steps _ _ _ (T206.setTop (mkF m 64 _ [])) _
        refine XS.iconst X206.here hx rfl (hb hby at_64) ?_
        show Steps _ _ _ (T206.setTop (mkF m 65 _ [.int 0])) _
        refine XS.istore X206.here hx rfl (hb hby at_65) rfl (l' := #[iv p1, .val (.long q2), .second, .val (.long q3), .second, iv p4, iv i1, rv kA, iv lT, iv t0, iv t1, iv 0, uu, uu, uu, uu, uu, uu, uu, uu]) rfl ?_
        show Steps _ _ _ (T206.setTop (mkF m 67 _ [])) _
        refine XS.iload X206.here hx rfl (hb hby at_67) rfl ?_
        show Steps _ _ _ (T206.setTop (mkF m 69 _ [.int 0])) _
        refine XS.ifYes X206.here hx rfl (pc0 := 69) (pc' := 77) rfl (hb hby at_69) rfl ((if0 _ _).trans (teq (rfl : (0 : Int32) = (0 : Int32))).1) (by decide) (by decide) ?_
        show Steps _ _ _ (T206.setTop (mkF m 77 _ [])) _
        refine XS.lloadN X206.here hx rfl (hb hby at_77) rfl ?_
        show Steps _ _ _ (T206.setTop (mkF m 78 _ [.long q3])) _
        refine XS.iconst X206.here hx rfl (hb hby at_78) ?_
        show Steps _ _ _ (T206.setTop (mkF m 79 #[iv p1, .val (.long q2), .second, .val (.long q3), .second, iv p4, iv i1, rv kA, iv lT, iv t0, iv t1, iv 0, uu, uu, uu, uu, uu, uu, uu, uu] [.int 1, .long q3])) _
        refine XS.lushr X206.here hx rfl (hb hby at_79) rfl ?_
        show Steps _ _ _ (T206.setTop (mkF m 80 _ [.long (own_ushrL q3 (1 : Int32))])) _
        refine Jvm.Stand.ldc2J X206 hx hown (mvT hZ (W 8 rfl)) rfl (hb hby at_80) ?_
        show Steps _ _ _ (T206.setTop (mkF m 83 _ [.long 3, .long (own_ushrL q3 (1 : Int32))])) _
        refine XS.land X206.here hx rfl (hb hby at_83) rfl ?_
        show Steps _ _ _ (T206.setTop (mkF m 84 _ [.long ((own_ushrL q3 (1 : Int32)) &&& (3 : Int64))])) _
        refine Jvm.Stand.ldc2J X206 hx hown (mvT hZ (W 8 rfl)) rfl (hb hby at_84) ?_
        show Steps _ _ _ (T206.setTop (mkF m 87 _ [.long 3, .long ((own_ushrL q3 (1 : Int32)) &&& (3 : Int64))])) _
        refine XS.lrem X206.here hx rfl (hb hby at_87) rfl (by decide) ?_
        rw [own_rem_eqL ((own_ushrL q3 (1 : Int32)) &&& (3 : Int64)) (3 : Int64)]
        show Steps _ _ _ (T206.setTop (mkF m 88 #[iv p1, .val (.long q2), .second, .val (.long q3), .second, iv p4, iv i1, rv kA, iv lT, iv t0, iv t1, iv 0, uu, uu, uu, uu, uu, uu, uu, uu] [.long (((own_ushrL q3 (1 : Int32)) &&& (3 : Int64)) % (3 : Int64))])) _
        refine XS.l2i X206.here hx rfl (hb hby at_88) rfl ?_
        rw [elS]
        show Steps _ _ _ (T206.setTop (mkF m 89 #[iv p1, .val (.long q2), .second, .val (.long q3), .second, iv p4, iv i1, rv kA, iv lT, iv t0, iv t1, iv 0, uu, uu, uu, uu, uu, uu, uu, uu] [.int lS])) _
        refine XS.istore X206.here hx rfl (hb hby at_89) rfl (l' := #[iv p1, .val (.long q2), .second, .val (.long q3), .second, iv p4, iv i1, rv kA, iv lT, iv t0, iv t1, iv 0, iv lS, uu, uu, uu, uu, uu, uu, uu]) rfl ?_
        show Steps _ _ _ (T206.setTop (mkF m 91 _ [])) _
        refine XS.iload X206.here hx rfl (hb hby at_91) rfl ?_
        show Steps _ _ _ (T206.setTop (mkF m 93 _ [.int 0])) _
        refine XS.ifYes X206.here hx rfl (pc0 := 93) (pc' := 101) rfl (hb hby at_93) rfl ((if0 _ _).trans (teq (rfl : (0 : Int32) = (0 : Int32))).1) (by decide) (by decide) ?_
        show Steps _ _ _ (T206.setTop (mkF m 101 _ [])) _
        refine XS.lloadN X206.here hx rfl (hb hby at_101) rfl ?_
        show Steps _ _ _ (T206.setTop (mkF m 102 _ [.long q3])) _
        refine XS.bipush X206.here hx rfl (hb hby at_102) ?_
        show Steps _ _ _ (T206.setTop (mkF m 104 _ [.int 8, .long q3])) _
        refine XS.lushr X206.here hx rfl (hb hby at_104) rfl ?_
        show Steps _ _ _ (T206.setTop (mkF m 105 _ [.long (own_ushrL q3 (8 : Int32))])) _
        refine Jvm.Stand.ldc2J X206 hx hown (mvT hZ (W 9 rfl)) rfl (hb hby at_105) ?_
        show Steps _ _ _ (T206.setTop (mkF m 108 _ [.long 255, .long (own_ushrL q3 (8 : Int32))])) _
        refine XS.land X206.here hx rfl (hb hby at_108) rfl ?_
        show Steps _ _ _ (T206.setTop (mkF m 109 #[iv p1, .val (.long q2), .second, .val (.long q3), .second, iv p4, iv i1, rv kA, iv lT, iv t0, iv t1, iv 0, iv lS, uu, uu, uu, uu, uu, uu, uu] [.long ((own_ushrL q3 (8 : Int32)) &&& (255 : Int64))])) _
        refine XS.l2i X206.here hx rfl (hb hby at_109) rfl ?_
        show Steps _ _ _ (T206.setTop (mkF m 110 _ [.int (((own_ushrL q3 (8 : Int32)) &&& (255 : Int64)).toInt32)])) _
        refine XS.i2c X206.here hx rfl (hb hby at_110) rfl ?_
        rw [es0]
        show Steps _ _ _ (T206.setTop (mkF m 111 #[iv p1, .val (.long q2), .second, .val (.long q3), .second, iv p4, iv i1, rv kA, iv lT, iv t0, iv t1, iv 0, iv lS, uu, uu, uu, uu, uu, uu, uu] [.int s0])) _
        refine XS.istore X206.here hx rfl (hb hby at_111) rfl (l' := #[iv p1, .val (.long q2), .second, .val (.long q3), .second, iv p4, iv i1, rv kA, iv lT, iv t0, iv t1, iv 0, iv lS, iv s0, uu, uu, uu, uu, uu, uu]) rfl ?_
        show Steps _ _ _ (T206.setTop (mkF m 113 _ [])) _
        refine XS.iload X206.here hx rfl (hb hby at_113) rfl ?_
        show Steps _ _ _ (T206.setTop (mkF m 115 _ [.int 0])) _
        refine XS.ifYes X206.here hx rfl (pc0 := 115) (pc' := 123) rfl (hb hby at_115) rfl ((if0 _ _).trans (teq (rfl : (0 : Int32) = (0 : Int32))).1) (by decide) (by decide) ?_
        show Steps _ _ _ (T206.setTop (mkF m 123 _ [])) _
        refine XS.lloadN X206.here hx rfl (hb hby at_123) rfl ?_
        show Steps _ _ _ (T206.setTop (mkF m 124 _ [.long q3])) _
        refine XS.bipush X206.here hx rfl (hb hby at_124) ?_
        show Steps _ _ _ (T206.setTop (mkF m 126 _ [.int 16, .long q3])) _
        refine XS.lushr X206.here hx rfl (hb hby at_126) rfl ?_
        show Steps _ _ _ (T206.setTop (mkF m 127 _ [.long (own_ushrL q3 (16 : Int32))])) _
        refine Jvm.Stand.ldc2J X206 hx hown (mvT hZ (W 9 rfl)) rfl (hb hby at_127) ?_
        show Steps _ _ _ (T206.setTop (mkF m 130 _ [.long 255, .long (own_ushrL q3 (16 : Int32))])) _
        refine XS.land X206.here hx rfl (hb hby at_130) rfl ?_
        show Steps _ _ _ (T206.setTop (mkF m 131 #[iv p1, .val (.long q2), .second, .val (.long q3), .second, iv p4, iv i1, rv kA, iv lT, iv t0, iv t1, iv 0, iv lS, iv s0, uu, uu, uu, uu, uu, uu] [.long ((own_ushrL q3 (16 : Int32)) &&& (255 : Int64))])) _
        refine XS.l2i X206.here hx rfl (hb hby at_131) rfl ?_
        show Steps _ _ _ (T206.setTop (mkF m 132 _ [.int (((own_ushrL q3 (16 : Int32)) &&& (255 : Int64)).toInt32)])) _
        refine XS.i2c X206.here hx rfl (hb hby at_132) rfl ?_
        rw [es1]
        show Steps _ _ _ (T206.setTop (mkF m 133 #[iv p1, .val (.long q2), .second, .val (.long q3), .second, iv p4, iv i1, rv kA, iv lT, iv t0, iv t1, iv 0, iv lS, iv s0, uu, uu, uu, uu, uu, uu] [.int s1])) _
        refine XS.istore X206.here hx rfl (hb hby at_133) rfl (l' := #[iv p1, .val (.long q2), .second, .val (.long q3), .second, iv p4, iv i1, rv kA, iv lT, iv t0, iv t1, iv 0, iv lS, iv s0, iv s1, uu, uu, uu, uu, uu]) rfl ?_
        exact kk
      exact ⟨0, lS, s0, s1, hlS, hs0, hs1, fun tgt kk => G210 _ kk⟩
  obtain ⟨_, _, ⟨T211, L211, k211, n211⟩, -, Xw211, hSw211, hgw211, ⟨Lc211, hQ211, l211, y211, z211, A211⟩, st211⟩ := callSS X206 hx (y := (⟨"itemwright/expression/TokenIsPinLaw", "str", "(ICC)Ljava/lang/String;"⟩ : MethodName)) hown (mvT hZ (W 10 rfl)) (mvT hZ (W 11 rfl)) (mvT hZ (W 3 rfl)) (mvT hZ (W 12 rfl)) (by decide) (own_backX (s := s) (W := 0) (rm_str l Z a0 hw [] lT t0 t1 G1 h0 n0 Z0 X00 hlT ht0 ht1 O2 P5) hZ (W 12 rfl) (W 3 rfl) (by decide) (by decide) hEL (xs := []) ⟨CH0, all0⟩ all0) (g := (mkF m 141 #[iv p1, .val (.long q2), .second, .val (.long q3), .second, iv p4, iv i1, rv kA, iv lT, iv t0, iv t1, iv sm, iv lS, iv s0, iv s1, uu, uu, uu, uu, uu] [.int t1, .int t0, .int lT])) rfl (by rw [hml]; rfl) (argsL := [.int lT, .int t0, .int t1]) (rest := []) (lenOf own_pd_1 rfl) rfl own_wt (hb hby at_141) (fun _ _ => ⟨rfl, e206, (by decide : 0 + 6 ≤ _), (by decide : 0 + 16 ≤ _)⟩)
  dsimp only [Pt.U, Pt.locs, Pt.cells, Pt.slots] at Xw211 hSw211 hgw211 l211 y211 z211 A211 st211 hQ211
  subst l211 y211 z211
  obtain ⟨X211, hS211, hZ211, hown211⟩ := rebS (s := s) (T := T211) hS0 hk0 Xw211 hSw211 (by rw [← e206]; exact hgw211) hZ hown
  have hk211 : T211.heap.size ≤ T211.heap.size := Nat.le_refl _
  obtain ⟨a211, hv211, Nq211, K211, SB211⟩ := hQ211
  subst hv211
  have N211 := Fr.app N206 Nq211
  have CR212 := CR0.trans A211
  have Z213 : n0 ≤ T211.heap.size := Nat.le_trans Z0 K211.1
  have O214 : Old Z n0 T211.heap := X00.keep K211 all0
  have G215 : ∀ tq, Steps p.tables e below (T211.setTop (mkF m 144 #[iv p1, .val (.long q2), .second, .val (.long q3), .second, iv p4, iv i1, rv kA, iv lT, iv t0, iv t1, iv sm, iv lS, iv s0, iv s1, uu, uu, uu, uu, uu] [.ref a211])) tq → Steps p.tables e below (T206.setTop (mkF m 135 #[iv p1, .val (.long q2), .second, .val (.long q3), .second, iv p4, iv i1, rv kA, iv lT, iv t0, iv t1, iv sm, iv lS, iv s0, iv s1, uu, uu, uu, uu, uu] [])) tq := by
    intro tq kk
    show Steps _ _ _ (T206.setTop (mkF m 135 #[iv p1, .val (.long q2), .second, .val (.long q3), .second, iv p4, iv i1, rv kA, iv lT, iv t0, iv t1, iv sm, iv lS, iv s0, iv s1, uu, uu, uu, uu, uu] [])) _
    refine XS.iload X206.here hx rfl (hb hby at_135) rfl ?_
    show Steps _ _ _ (T206.setTop (mkF m 137 _ [.int lT])) _
    refine XS.iload X206.here hx rfl (hb hby at_137) rfl ?_
    show Steps _ _ _ (T206.setTop (mkF m 139 _ [.int t0, .int lT])) _
    refine XS.iload X206.here hx rfl (hb hby at_139) rfl ?_
    show Steps _ _ _ (T206.setTop (mkF m 141 _ [.int t1, .int t0, .int lT])) _
    refine st211.trans ?_
    exact kk
  obtain ⟨_, _, ⟨T216, L216, k216, n216⟩, -, Xw216, hSw216, hgw216, ⟨Lc216, hQ216, l216, y216, z216, A216⟩, st216⟩ := callSS X211 hx (y := (⟨"itemwright/expression/TokenIsPinLaw", "str", "(ICC)Ljava/lang/String;"⟩ : MethodName)) hown211 (mvT hZ211 (W 10 rfl)) (mvT hZ211 (W 11 rfl)) (mvT hZ211 (W 3 rfl)) (mvT hZ211 (W 12 rfl)) (by decide) (own_backX (s := s) (W := 0) (rm_str l Z a0 hw [] lS s0 s1 G1 T211.heap n0 Z213 O214 hlS hs0 hs1 O2 P5) hZ211 (W 12 rfl) (W 3 rfl) (by decide) (by decide) hEL (xs := []) ⟨CR212.1, all0⟩ all0) (g := (mkF m 152 #[iv p1, .val (.long q2), .second, .val (.long q3), .second, iv p4, iv i1, rv kA, iv lT, iv t0, iv t1, iv sm, iv lS, iv s0, iv s1, rv a211, uu, uu, uu, uu] [.int s1, .int s0, .int lS])) rfl (by rw [hml]; rfl) (argsL := [.int lS, .int s0, .int s1]) (rest := []) (lenOf own_pd_1 rfl) rfl own_wt (hb hby at_152) (fun _ _ => ⟨rfl, rfl, (by decide : 6 + 6 ≤ _), (by decide : 16 + 16 ≤ _)⟩)
  dsimp only [Pt.U, Pt.locs, Pt.cells, Pt.slots] at Xw216 hSw216 hgw216 l216 y216 z216 A216 st216 hQ216
  subst l216 y216 z216
  obtain ⟨X216, hS216, hZ216, hown216⟩ := rebS (s := s) (T := T216) hS211 hk211 Xw216 hSw216 hgw216 hZ211 hown211
  have hk216 : T216.heap.size ≤ T216.heap.size := Nat.le_refl _
  obtain ⟨a216, hv216, Nq216, K216, SB216⟩ := hQ216
  subst hv216
  have N216 := Fr.app N211 Nq216
  have CR217 := CR212.trans A216
  have Z218 : n0 ≤ T216.heap.size := Nat.le_trans Z213 K216.1
  have O219 : Old Z n0 T216.heap := O214.keep K216 all0
  have G220 : ∀ tq, Steps p.tables e below (T216.setTop (mkF m 155 #[iv p1, .val (.long q2), .second, .val (.long q3), .second, iv p4, iv i1, rv kA, iv lT, iv t0, iv t1, iv sm, iv lS, iv s0, iv s1, rv a211, uu, uu, uu, uu] [.ref a216])) tq → Steps p.tables e below (T211.setTop (mkF m 144 #[iv p1, .val (.long q2), .second, .val (.long q3), .second, iv p4, iv i1, rv kA, iv lT, iv t0, iv t1, iv sm, iv lS, iv s0, iv s1, uu, uu, uu, uu, uu] [.ref a211])) tq := by
    intro tq kk
    show Steps _ _ _ (T211.setTop (mkF m 144 #[iv p1, .val (.long q2), .second, .val (.long q3), .second, iv p4, iv i1, rv kA, iv lT, iv t0, iv t1, iv sm, iv lS, iv s0, iv s1, uu, uu, uu, uu, uu] [.ref a211])) _
    refine XS.astore X211.here hx rfl (hb hby at_144) rfl rfl (l' := #[iv p1, .val (.long q2), .second, .val (.long q3), .second, iv p4, iv i1, rv kA, iv lT, iv t0, iv t1, iv sm, iv lS, iv s0, iv s1, rv a211, uu, uu, uu, uu]) rfl ?_
    show Steps _ _ _ (T211.setTop (mkF m 146 _ [])) _
    refine XS.iload X211.here hx rfl (hb hby at_146) rfl ?_
    show Steps _ _ _ (T211.setTop (mkF m 148 _ [.int lS])) _
    refine XS.iload X211.here hx rfl (hb hby at_148) rfl ?_
    show Steps _ _ _ (T211.setTop (mkF m 150 _ [.int s0, .int lS])) _
    refine XS.iload X211.here hx rfl (hb hby at_150) rfl ?_
    show Steps _ _ _ (T211.setTop (mkF m 152 _ [.int s1, .int s0, .int lS])) _
    refine st216.trans ?_
    exact kk
  have f221 := (SB211.keep K216 all0)
  have SXa := f221.now
  obtain ⟨T222, h222, X222, e222, E222, A222, D222, -, st222⟩ := newO X216 hx hZ216 hown216 (W 46 rfl) (W 47 rfl) (W 48 rfl) rfl (g := (mkF m 157 #[iv p1, .val (.long q2), .second, .val (.long q3), .second, iv p4, iv i1, rv kA, iv lT, iv t0, iv t1, iv sm, iv lS, iv s0, iv s1, rv a211, rv a216, uu, uu, uu] [])) rfl (hb hby at_157) (by decide) (by decide)
  obtain ⟨b222, g222⟩ : ∃ z, z = T216.heap.size := ⟨_, rfl⟩
  rw [← g222] at A222 D222 st222
  have g223 : n0 ≤ b222 := Nat.le_trans Z218 (Nat.le_of_eq g222.symm)
  have CR224 := CR217.trans (CHr.ext E222 CR217.1)
  have Z225 : n0 ≤ h222.size := Nat.le_trans Z218 E222.1
  have O226 : Old Z n0 h222 := O219.ext E222
  have hk227 := Nat.le_trans hk216 E222.1
  have F228 : Fld Z h222 b222 "itemwright/expression/Lexer$Token" "kind" "Litemwright/expression/Lexer$Kind;" .null := D222 (Or.inr (W 59 rfl)) (ty := (.object "itemwright/expression/Lexer$Kind")) (by decide)
  have F229 : Fld Z h222 b222 "itemwright/expression/Lexer$Token" "text" "Ljava/lang/String;" .null := D222 (Or.inr (W 61 rfl)) (ty := (.object "java/lang/String")) (by decide)
  have F230 : Fld Z h222 b222 "itemwright/expression/Lexer$Token" "position" "I" (.int (0 : Int32)) := D222 (Or.inr (W 63 rfl)) (ty := .int) (by decide)
  obtain ⟨_, _, ⟨T231, L231, k231, n231⟩, -, X231, ⟨Lc231, hQ231, l231, y231, z231⟩, st231⟩ := X222.specialBack hx (y := (⟨"itemwright/expression/Lexer$Token", "<init>", "(Litemwright/expression/Lexer$Kind;Ljava/lang/String;I)V"⟩ : MethodName)) rfl hown216 (mvT hZ216 (W 49 rfl)) (mvT hZ216 (W 50 rfl)) (mvT hZ216 (W 51 rfl)) (by decide) (backOf (W := 1) (rm_tin l Z a0 hw [] b222 kA a211 p4 h222 n0 Z225 A222 g223 F228 F229 F230) hZ216 (W 51 rfl) (W 48 rfl) (by decide) (by decide)) (g := (mkF m 167 #[iv p1, .val (.long q2), .second, .val (.long q3), .second, iv p4, iv i1, rv kA, iv lT, iv t0, iv t1, iv sm, iv lS, iv s0, iv s1, rv a211, rv a216, uu, uu, uu] [.int p4, .ref a211, .ref kA, .ref b222, .ref b222])) rfl (by rw [hml]; rfl) (Steps.refl _) (a := b222) (argsL := [.ref kA, .ref a211, .int p4]) (rest := [.ref b222]) (lenOf own_pd_8 rfl) rfl own_wt (hb hby at_167) (fun _ _ => ⟨rfl, e222, (by decide : 13 + 0 ≤ _), (by decide : 35 + 0 ≤ _)⟩)
  dsimp only [Pt.U, Pt.locs, Pt.cells, Pt.slots] at X231 l231 y231 z231 st231 hQ231
  subst l231 y231 z231
  obtain ⟨rfl, Nq231, K231, gE231, gK231, gT231⟩ := hQ231
  have N231 := Fr.app N216 Nq231
  have f233 := (Safe.ext E222 CR217.1 (Safe.new (Nat.le_of_eq g222.symm)))
  have CR232 := CR224.trans (CHr.keep K231 (allS f233 all0) CR224.1)
  have Z234 : n0 ≤ T231.heap.size := Nat.le_trans Z225 K231.1
  have O235 : Old Z n0 T231.heap := O226.keep K231 (allS g223 all0)
  have hk236 := Nat.le_trans hk227 K231.1
  have G237 : ∀ tq, Steps p.tables e below (T231.setTop (mkF m 172 #[iv p1, .val (.long q2), .second, .val (.long q3), .second, iv p4, iv i1, rv kA, iv lT, iv t0, iv t1, iv sm, iv lS, iv s0, iv s1, rv a211, rv a216, rv b222, uu, uu] [])) tq → Steps p.tables e below (T216.setTop (mkF m 155 #[iv p1, .val (.long q2), .second, .val (.long q3), .second, iv p4, iv i1, rv kA, iv lT, iv t0, iv t1, iv sm, iv lS, iv s0, iv s1, rv a211, uu, uu, uu, uu] [.ref a216])) tq := by
    intro tq kk
    show Steps _ _ _ (T216.setTop (mkF m 155 #[iv p1, .val (.long q2), .second, .val (.long q3), .second, iv p4, iv i1, rv kA, iv lT, iv t0, iv t1, iv sm, iv lS, iv s0, iv s1, rv a211, uu, uu, uu, uu] [.ref a216])) _
    refine XS.astore X216.here hx rfl (hb hby at_155) rfl rfl (l' := #[iv p1, .val (.long q2), .second, .val (.long q3), .second, iv p4, iv i1, rv kA, iv lT, iv t0, iv t1, iv sm, iv lS, iv s0, iv s1, rv a211, rv a216, uu, uu, uu]) rfl ?_
    show Steps _ _ _ (T216.setTop (mkF m 157 _ [])) _
    refine st222 _ ?_
    show Steps _ _ _ (T222.setTop (mkF m 160 #[iv p1, .val (.long q2), .second, .val (.long q3), .second, iv p4, iv i1, rv kA, iv lT, iv t0, iv t1, iv sm, iv lS, iv s0, iv s1, rv a211, rv a216, uu, uu, uu] [.ref b222])) _
    refine XS.dup X222.here hx rfl (hb hby at_160) rfl rfl ?_
    show Steps _ _ _ (T222.setTop (mkF m 161 _ [.ref b222, .ref b222])) _
    refine XS.aload X222.here hx rfl (hb hby at_161) rfl rfl ?_
    show Steps _ _ _ (T222.setTop (mkF m 163 _ [.ref kA, .ref b222, .ref b222])) _
    refine XS.aload X222.here hx rfl (hb hby at_163) rfl rfl ?_
    show Steps _ _ _ (T222.setTop (mkF m 165 _ [.ref a211, .ref kA, .ref b222, .ref b222])) _
    refine XS.iload X222.here hx rfl (hb hby at_165) rfl ?_
    show Steps _ _ _ (T222.setTop (mkF m 167 _ [.int p4, .ref a211, .ref kA, .ref b222, .ref b222])) _
    refine st231.trans ?_
    show Steps _ _ _ (T231.setTop (mkF m 170 #[iv p1, .val (.long q2), .second, .val (.long q3), .second, iv p4, iv i1, rv kA, iv lT, iv t0, iv t1, iv sm, iv lS, iv s0, iv s1, rv a211, rv a216, uu, uu, uu] [.ref b222])) _
    refine XS.astore X231.here hx rfl (hb hby at_170) rfl rfl (l' := #[iv p1, .val (.long q2), .second, .val (.long q3), .second, iv p4, iv i1, rv kA, iv lT, iv t0, iv t1, iv sm, iv lS, iv s0, iv s1, rv a211, rv a216, rv b222, uu, uu]) rfl ?_
    exact kk
  have hcs := own_cseq (a := t0) (b := t1) (c := s0) (d := s1) hlT hlS
  obtain ⟨eq, heq, GQ⟩ : ∃ eq : Int32, ((eq = 1 ∧ own_cs lT t0 t1 = own_cs lS s0 s1) ∨ (eq = 0 ∧ ¬ (own_cs lT t0 t1 = own_cs lS s0 s1))) ∧ (∀ tq, Steps p.tables e below (T231.setTop (mkF m 212 #[iv p1, .val (.long q2), .second, .val (.long q3), .second, iv p4, iv i1, rv kA, iv lT, iv t0, iv t1, iv sm, iv lS, iv s0, iv s1, rv a211, rv a216, rv b222, iv eq, uu] [])) tq → Steps p.tables e below (T231.setTop (mkF m 172 #[iv p1, .val (.long q2), .second, .val (.long q3), .second, iv p4, iv i1, rv kA, iv lT, iv t0, iv t1, iv sm, iv lS, iv s0, iv s1, rv a211, rv a216, rv b222, uu, uu] [])) tq) := by
    by_cases h1 : lT = lS
    · by_cases h2 : lT < (1 : Int32)
      · by_cases h4 : lT < (2 : Int32)
        · have G238 : ∀ tq, Steps p.tables e below (T231.setTop (mkF m 212 #[iv p1, .val (.long q2), .second, .val (.long q3), .second, iv p4, iv i1, rv kA, iv lT, iv t0, iv t1, iv sm, iv lS, iv s0, iv s1, rv a211, rv a216, rv b222, iv 1, uu] [])) tq → Steps p.tables e below (T231.setTop (mkF m 172 #[iv p1, .val (.long q2), .second, .val (.long q3), .second, iv p4, iv i1, rv kA, iv lT, iv t0, iv t1, iv sm, iv lS, iv s0, iv s1, rv a211, rv a216, rv b222, uu, uu] [])) tq := by
            intro tq kk
            show Steps _ _ _ (T231.setTop (mkF m 172 #[iv p1, .val (.long q2), .second, .val (.long q3), .second, iv p4, iv i1, rv kA, iv lT, iv t0, iv t1, iv sm, iv lS, iv s0, iv s1, rv a211, rv a216, rv b222, uu, uu] [])) _
            refine XS.iload X231.here hx rfl (hb hby at_172) rfl ?_
            show Steps _ _ _ (T231.setTop (mkF m 174 _ [.int lT])) _
            refine XS.iload X231.here hx rfl (hb hby at_174) rfl ?_
            show Steps _ _ _ (T231.setTop (mkF m 176 _ [.int lS, .int lT])) _
            refine XS.icmpNo X231.here hx rfl (hb hby at_176) rfl (teq (h1 : lT = lS)).2 ?_
            show Steps _ _ _ (T231.setTop (mkF m 179 _ [])) _
            refine XS.iload X231.here hx rfl (hb hby at_179) rfl ?_
            show Steps _ _ _ (T231.setTop (mkF m 181 _ [.int lT])) _
            refine XS.iconst X231.here hx rfl (hb hby at_181) ?_
            show Steps _ _ _ (T231.setTop (mkF m 182 _ [.int 1, .int lT])) _
            refine XS.icmpYes X231.here hx rfl (pc0 := 182) (pc' := 192) rfl (hb hby at_182) rfl (tlt (h2 : lT < (1 : Int32))).1 (by decide) (by decide) ?_
            show Steps _ _ _ (T231.setTop (mkF m 192 _ [])) _
            refine XS.iload X231.here hx rfl (hb hby at_192) rfl ?_
            show Steps _ _ _ (T231.setTop (mkF m 194 _ [.int lT])) _
            refine XS.iconst X231.here hx rfl (hb hby at_194) ?_
            show Steps _ _ _ (T231.setTop (mkF m 195 #[iv p1, .val (.long q2), .second, .val (.long q3), .second, iv p4, iv i1, rv kA, iv lT, iv t0, iv t1, iv sm, iv lS, iv s0, iv s1, rv a211, rv a216, rv b222, uu, uu] [.int 2, .int lT])) _
            refine XS.icmpYes X231.here hx rfl (pc0 := 195) (pc' := 205) rfl (hb hby at_195) rfl (tlt (h4 : lT < (2 : Int32))).1 (by decide) (by decide) ?_
            show Steps _ _ _ (T231.setTop (mkF m 205 _ [])) _
            refine XS.iconst X231.here hx rfl (hb hby at_205) ?_
            show Steps _ _ _ (T231.setTop (mkF m 206 _ [.int 1])) _
            refine XS.goto X231.here hx rfl (pc0 := 206) (pc' := 210) rfl (hb hby at_206) (by decide) (by decide) ?_
            show Steps _ _ _ (T231.setTop (mkF m 210 _ [.int 1])) _
            refine XS.istore X231.here hx rfl (hb hby at_210) rfl (l' := #[iv p1, .val (.long q2), .second, .val (.long q3), .second, iv p4, iv i1, rv kA, iv lT, iv t0, iv t1, iv sm, iv lS, iv s0, iv s1, rv a211, rv a216, rv b222, iv 1, uu]) rfl ?_
            exact kk
          exact ⟨1, Or.inl ⟨rfl, hcs.mpr ⟨h1, Or.inl h2, Or.inl h4⟩⟩, fun tgt kk => G238 _ kk⟩
        · by_cases h5 : t1 = s1
          · have G239 : ∀ tq, Steps p.tables e below (T231.setTop (mkF m 212 #[iv p1, .val (.long q2), .second, .val (.long q3), .second, iv p4, iv i1, rv kA, iv lT, iv t0, iv t1, iv sm, iv lS, iv s0, iv s1, rv a211, rv a216, rv b222, iv 1, uu] [])) tq → Steps p.tables e below (T231.setTop (mkF m 172 #[iv p1, .val (.long q2), .second, .val (.long q3), .second, iv p4, iv i1, rv kA, iv lT, iv t0, iv t1, iv sm, iv lS, iv s0, iv s1, rv a211, rv a216, rv b222, uu, uu] [])) tq := by
              intro tq kk
              show Steps _ _ _ (T231.setTop (mkF m 172 #[iv p1, .val (.long q2), .second, .val (.long q3), .second, iv p4, iv i1, rv kA, iv lT, iv t0, iv t1, iv sm, iv lS, iv s0, iv s1, rv a211, rv a216, rv b222, uu, uu] [])) _
              refine XS.iload X231.here hx rfl (hb hby at_172) rfl ?_
              show Steps _ _ _ (T231.setTop (mkF m 174 _ [.int lT])) _
              refine XS.iload X231.here hx rfl (hb hby at_174) rfl ?_
              show Steps _ _ _ (T231.setTop (mkF m 176 _ [.int lS, .int lT])) _
              refine XS.icmpNo X231.here hx rfl (hb hby at_176) rfl (teq (h1 : lT = lS)).2 ?_
              show Steps _ _ _ (T231.setTop (mkF m 179 _ [])) _
              refine XS.iload X231.here hx rfl (hb hby at_179) rfl ?_
              show Steps _ _ _ (T231.setTop (mkF m 181 _ [.int lT])) _
              refine XS.iconst X231.here hx rfl (hb hby at_181) ?_
              show Steps _ _ _ (T231.setTop (mkF m 182 _ [.int 1, .int lT])) _
              refine XS.icmpYes X231.here hx rfl (pc0 := 182) (pc' := 192) rfl (hb hby at_182) rfl (tlt (h2 : lT < (1 : Int32))).1 (by decide) (by decide) ?_
              show Steps _ _ _ (T231.setTop (mkF m 192 _ [])) _
              refine XS.iload X231.here hx rfl (hb hby at_192) rfl ?_
              show Steps _ _ _ (T231.setTop (mkF m 194 _ [.int lT])) _
              refine XS.iconst X231.here hx rfl (hb hby at_194) ?_
              show Steps _ _ _ (T231.setTop (mkF m 195 #[iv p1, .val (.long q2), .second, .val (.long q3), .second, iv p4, iv i1, rv kA, iv lT, iv t0, iv t1, iv sm, iv lS, iv s0, iv s1, rv a211, rv a216, rv b222, uu, uu] [.int 2, .int lT])) _
              refine XS.icmpNo X231.here hx rfl (hb hby at_195) rfl (flt (h4 : ¬ (lT < (2 : Int32)))).1 ?_
              show Steps _ _ _ (T231.setTop (mkF m 198 _ [])) _
              refine XS.iload X231.here hx rfl (hb hby at_198) rfl ?_
              show Steps _ _ _ (T231.setTop (mkF m 200 _ [.int t1])) _
              refine XS.iload X231.here hx rfl (hb hby at_200) rfl ?_
              show Steps _ _ _ (T231.setTop (mkF m 202 _ [.int s1, .int t1])) _
              refine XS.icmpNo X231.here hx rfl (hb hby at_202) rfl (teq (h5 : t1 = s1)).2 ?_
              show Steps _ _ _ (T231.setTop (mkF m 205 _ [])) _
              refine XS.iconst X231.here hx rfl (hb hby at_205) ?_
              show Steps _ _ _ (T231.setTop (mkF m 206 _ [.int 1])) _
              refine XS.goto X231.here hx rfl (pc0 := 206) (pc' := 210) rfl (hb hby at_206) (by decide) (by decide) ?_
              show Steps _ _ _ (T231.setTop (mkF m 210 _ [.int 1])) _
              refine XS.istore X231.here hx rfl (hb hby at_210) rfl (l' := #[iv p1, .val (.long q2), .second, .val (.long q3), .second, iv p4, iv i1, rv kA, iv lT, iv t0, iv t1, iv sm, iv lS, iv s0, iv s1, rv a211, rv a216, rv b222, iv 1, uu]) rfl ?_
              exact kk
            exact ⟨1, Or.inl ⟨rfl, hcs.mpr ⟨h1, Or.inl h2, Or.inr h5⟩⟩, fun tgt kk => G239 _ kk⟩
          · have G240 : ∀ tq, Steps p.tables e below (T231.setTop (mkF m 212 #[iv p1, .val (.long q2), .second, .val (.long q3), .second, iv p4, iv i1, rv kA, iv lT, iv t0, iv t1, iv sm, iv lS, iv s0, iv s1, rv a211, rv a216, rv b222, iv 0, uu] [])) tq → Steps p.tables e below (T231.setTop (mkF m 172 #[iv p1, .val (.long q2), .second, .val (.long q3), .second, iv p4, iv i1, rv kA, iv lT, iv t0, iv t1, iv sm, iv lS, iv s0, iv s1, rv a211, rv a216, rv b222, uu, uu] [])) tq := by
              intro tq kk
              show Steps _ _ _ (T231.setTop (mkF m 172 #[iv p1, .val (.long q2), .second, .val (.long q3), .second, iv p4, iv i1, rv kA, iv lT, iv t0, iv t1, iv sm, iv lS, iv s0, iv s1, rv a211, rv a216, rv b222, uu, uu] [])) _
              refine XS.iload X231.here hx rfl (hb hby at_172) rfl ?_
              show Steps _ _ _ (T231.setTop (mkF m 174 _ [.int lT])) _
              refine XS.iload X231.here hx rfl (hb hby at_174) rfl ?_
              show Steps _ _ _ (T231.setTop (mkF m 176 _ [.int lS, .int lT])) _
              refine XS.icmpNo X231.here hx rfl (hb hby at_176) rfl (teq (h1 : lT = lS)).2 ?_
              show Steps _ _ _ (T231.setTop (mkF m 179 _ [])) _
              refine XS.iload X231.here hx rfl (hb hby at_179) rfl ?_
              show Steps _ _ _ (T231.setTop (mkF m 181 _ [.int lT])) _
              refine XS.iconst X231.here hx rfl (hb hby at_181) ?_
              show Steps _ _ _ (T231.setTop (mkF m 182 _ [.int 1, .int lT])) _
              refine XS.icmpYes X231.here hx rfl (pc0 := 182) (pc' := 192) rfl (hb hby at_182) rfl (tlt (h2 : lT < (1 : Int32))).1 (by decide) (by decide) ?_
              show Steps _ _ _ (T231.setTop (mkF m 192 _ [])) _
              refine XS.iload X231.here hx rfl (hb hby at_192) rfl ?_
              show Steps _ _ _ (T231.setTop (mkF m 194 _ [.int lT])) _
              refine XS.iconst X231.here hx rfl (hb hby at_194) ?_
              show Steps _ _ _ (T231.setTop (mkF m 195 #[iv p1, .val (.long q2), .second, .val (.long q3), .second, iv p4, iv i1, rv kA, iv lT, iv t0, iv t1, iv sm, iv lS, iv s0, iv s1, rv a211, rv a216, rv b222, uu, uu] [.int 2, .int lT])) _
              refine XS.icmpNo X231.here hx rfl (hb hby at_195) rfl (flt (h4 : ¬ (lT < (2 : Int32)))).1 ?_
              show Steps _ _ _ (T231.setTop (mkF m 198 _ [])) _
              refine XS.iload X231.here hx rfl (hb hby at_198) rfl ?_
              show Steps _ _ _ (T231.setTop (mkF m 200 _ [.int t1])) _
              refine XS.iload X231.here hx rfl (hb hby at_200) rfl ?_
              show Steps _ _ _ (T231.setTop (mkF m 202 _ [.int s1, .int t1])) _
              refine XS.icmpYes X231.here hx rfl (pc0 := 202) (pc' := 209) rfl (hb hby at_202) rfl (feq (h5 : ¬ (t1 = s1))).2 (by decide) (by decide) ?_
              show Steps _ _ _ (T231.setTop (mkF m 209 _ [])) _
              refine XS.iconst X231.here hx rfl (hb hby at_209) ?_
              show Steps _ _ _ (T231.setTop (mkF m 210 _ [.int 0])) _
              refine XS.istore X231.here hx rfl (hb hby at_210) rfl (l' := #[iv p1, .val (.long q2), .second, .val (.long q3), .second, iv p4, iv i1, rv kA, iv lT, iv t0, iv t1, iv sm, iv lS, iv s0, iv s1, rv a211, rv a216, rv b222, iv 0, uu]) rfl ?_
              exact kk
            exact ⟨0, Or.inr ⟨rfl, fun q => ((hcs.mp q).2.2.elim h4 h5)⟩, fun tgt kk => G240 _ kk⟩
      · by_cases h3 : t0 = s0
        · by_cases h4 : lT < (2 : Int32)
          · have G241 : ∀ tq, Steps p.tables e below (T231.setTop (mkF m 212 #[iv p1, .val (.long q2), .second, .val (.long q3), .second, iv p4, iv i1, rv kA, iv lT, iv t0, iv t1, iv sm, iv lS, iv s0, iv s1, rv a211, rv a216, rv b222, iv 1, uu] [])) tq → Steps p.tables e below (T231.setTop (mkF m 172 #[iv p1, .val (.long q2), .second, .val (.long q3), .second, iv p4, iv i1, rv kA, iv lT, iv t0, iv t1, iv sm, iv lS, iv s0, iv s1, rv a211, rv a216, rv b222, uu, uu] [])) tq := by
              intro tq kk
              show Steps _ _ _ (T231.setTop (mkF m 172 #[iv p1, .val (.long q2), .second, .val (.long q3), .second, iv p4, iv i1, rv kA, iv lT, iv t0, iv t1, iv sm, iv lS, iv s0, iv s1, rv a211, rv a216, rv b222, uu, uu] [])) _
              refine XS.iload X231.here hx rfl (hb hby at_172) rfl ?_
              show Steps _ _ _ (T231.setTop (mkF m 174 _ [.int lT])) _
              refine XS.iload X231.here hx rfl (hb hby at_174) rfl ?_
              show Steps _ _ _ (T231.setTop (mkF m 176 _ [.int lS, .int lT])) _
              refine XS.icmpNo X231.here hx rfl (hb hby at_176) rfl (teq (h1 : lT = lS)).2 ?_
              show Steps _ _ _ (T231.setTop (mkF m 179 _ [])) _
              refine XS.iload X231.here hx rfl (hb hby at_179) rfl ?_
              show Steps _ _ _ (T231.setTop (mkF m 181 _ [.int lT])) _
              refine XS.iconst X231.here hx rfl (hb hby at_181) ?_
              show Steps _ _ _ (T231.setTop (mkF m 182 _ [.int 1, .int lT])) _
              refine XS.icmpNo X231.here hx rfl (hb hby at_182) rfl (flt (h2 : ¬ (lT < (1 : Int32)))).1 ?_
              show Steps _ _ _ (T231.setTop (mkF m 185 _ [])) _
              refine XS.iload X231.here hx rfl (hb hby at_185) rfl ?_
              show Steps _ _ _ (T231.setTop (mkF m 187 _ [.int t0])) _
              refine XS.iload X231.here hx rfl (hb hby at_187) rfl ?_
              show Steps _ _ _ (T231.setTop (mkF m 189 #[iv p1, .val (.long q2), .second, .val (.long q3), .second, iv p4, iv i1, rv kA, iv lT, iv t0, iv t1, iv sm, iv lS, iv s0, iv s1, rv a211, rv a216, rv b222, uu, uu] [.int s0, .int t0])) _
              refine XS.icmpNo X231.here hx rfl (hb hby at_189) rfl (teq (h3 : t0 = s0)).2 ?_
              show Steps _ _ _ (T231.setTop (mkF m 192 _ [])) _
              refine XS.iload X231.here hx rfl (hb hby at_192) rfl ?_
              show Steps _ _ _ (T231.setTop (mkF m 194 _ [.int lT])) _
              refine XS.iconst X231.here hx rfl (hb hby at_194) ?_
              show Steps _ _ _ (T231.setTop (mkF m 195 _ [.int 2, .int lT])) _
              refine XS.icmpYes X231.here hx rfl (pc0 := 195) (pc' := 205) rfl (hb hby at_195) rfl (tlt (h4 : lT < (2 : Int32))).1 (by decide) (by decide) ?_
              show Steps _ _ _ (T231.setTop (mkF m 205 _ [])) _
              refine XS.iconst X231.here hx rfl (hb hby at_205) ?_
              show Steps _ _ _ (T231.setTop (mkF m 206 _ [.int 1])) _
              refine XS.goto X231.here hx rfl (pc0 := 206) (pc' := 210) rfl (hb hby at_206) (by decide) (by decide) ?_
              show Steps _ _ _ (T231.setTop (mkF m 210 _ [.int 1])) _
              refine XS.istore X231.here hx rfl (hb hby at_210) rfl (l' := #[iv p1, .val (.long q2), .second, .val (.long q3), .second, iv p4, iv i1, rv kA, iv lT, iv t0, iv t1, iv sm, iv lS, iv s0, iv s1, rv a211, rv a216, rv b222, iv 1, uu]) rfl ?_
              exact kk
            exact ⟨1, Or.inl ⟨rfl, hcs.mpr ⟨h1, Or.inr h3, Or.inl h4⟩⟩, fun tgt kk => G241 _ kk⟩
          · by_cases h5 : t1 = s1
            · have G242 : ∀ tq, Steps p.tables e below (T231.setTop (mkF m 212 #[iv p1, .val (.long q2), .second, .val (.long q3), .second, iv p4, iv i1, rv kA, iv lT, iv t0, iv t1, iv sm, iv lS, iv s0, iv s1, rv a211, rv a216, rv b222, iv 1, uu] [])) tq → Steps p.tables e below (T231.setTop (mkF m 172 #[iv p1, .val (.long q2), .second, .val (.long q3), .second, iv p4, iv i1, rv kA, iv lT, iv t0, iv t1, iv sm, iv lS, iv s0, iv s1, rv a211, rv a216, rv b222, uu, uu] [])) tq := by
                intro tq kk
                show Steps _ _ _ (T231.setTop (mkF m 172 #[iv p1, .val (.long q2), .second, .val (.long q3), .second, iv p4, iv i1, rv kA, iv lT, iv t0, iv t1, iv sm, iv lS, iv s0, iv s1, rv a211, rv a216, rv b222, uu, uu] [])) _
                refine XS.iload X231.here hx rfl (hb hby at_172) rfl ?_
                show Steps _ _ _ (T231.setTop (mkF m 174 _ [.int lT])) _
                refine XS.iload X231.here hx rfl (hb hby at_174) rfl ?_
                show Steps _ _ _ (T231.setTop (mkF m 176 _ [.int lS, .int lT])) _
                refine XS.icmpNo X231.here hx rfl (hb hby at_176) rfl (teq (h1 : lT = lS)).2 ?_
                show Steps _ _ _ (T231.setTop (mkF m 179 _ [])) _
                refine XS.iload X231.here hx rfl (hb hby at_179) rfl ?_
                show Steps _ _ _ (T231.setTop (mkF m 181 _ [.int lT])) _
                refine XS.iconst X231.here hx rfl (hb hby at_181) ?_
                show Steps _ _ _ (T231.setTop (mkF m 182 _ [.int 1, .int lT])) _
                refine XS.icmpNo X231.here hx rfl (hb hby at_182) rfl (flt (h2 : ¬ (lT < (1 : Int32)))).1 ?_
                show Steps _ _ _ (T231.setTop (mkF m 185 _ [])) _
                refine XS.iload X231.here hx rfl (hb hby at_185) rfl ?_
                show Steps _ _ _ (T231.setTop (mkF m 187 _ [.int t0])) _
                refine XS.iload X231.here hx rfl (hb hby at_187) rfl ?_
                show Steps _ _ _ (T231.setTop (mkF m 189 #[iv p1, .val (.long q2), .second, .val (.long q3), .second, iv p4, iv i1, rv kA, iv lT, iv t0, iv t1, iv sm, iv lS, iv s0, iv s1, rv a211, rv a216, rv b222, uu, uu] [.int s0, .int t0])) _
                refine XS.icmpNo X231.here hx rfl (hb hby at_189) rfl (teq (h3 : t0 = s0)).2 ?_
                show Steps _ _ _ (T231.setTop (mkF m 192 _ [])) _
                refine XS.iload X231.here hx rfl (hb hby at_192) rfl ?_
                show Steps _ _ _ (T231.setTop (mkF m 194 _ [.int lT])) _
                refine XS.iconst X231.here hx rfl (hb hby at_194) ?_
                show Steps _ _ _ (T231.setTop (mkF m 195 _ [.int 2, .int lT])) _
                refine XS.icmpNo X231.here hx rfl (hb hby at_195) rfl (flt (h4 : ¬ (lT < (2 : Int32)))).1 ?_
                show Steps _ _ _ (T231.setTop (mkF m 198 _ [])) _
                refine XS.iload X231.here hx rfl (hb hby at_198) rfl ?_
                show Steps _ _ _ (T231.setTop (mkF m 200 _ [.int t1])) _
                refine XS.iload X231.here hx rfl (hb hby at_200) rfl ?_
                show Steps _ _ _ (T231.setTop (mkF m 202 _ [.int s1, .int t1])) _
                refine XS.icmpNo X231.here hx rfl (hb hby at_202) rfl (teq (h5 : t1 = s1)).2 ?_
                show Steps _ _ _ (T231.setTop (mkF m 205 _ [])) _
                refine XS.iconst X231.here hx rfl (hb hby at_205) ?_
                show Steps _ _ _ (T231.setTop (mkF m 206 #[iv p1, .val (.long q2), .second, .val (.long q3), .second, iv p4, iv i1, rv kA, iv lT, iv t0, iv t1, iv sm, iv lS, iv s0, iv s1, rv a211, rv a216, rv b222, uu, uu] [.int 1])) _
                refine XS.goto X231.here hx rfl (pc0 := 206) (pc' := 210) rfl (hb hby at_206) (by decide) (by decide) ?_
                show Steps _ _ _ (T231.setTop (mkF m 210 _ [.int 1])) _
                refine XS.istore X231.here hx rfl (hb hby at_210) rfl (l' := #[iv p1, .val (.long q2), .second, .val (.long q3), .second, iv p4, iv i1, rv kA, iv lT, iv t0, iv t1, iv sm, iv lS, iv s0, iv s1, rv a211, rv a216, rv b222, iv 1, uu]) rfl ?_
                exact kk
              exact ⟨1, Or.inl ⟨rfl, hcs.mpr ⟨h1, Or.inr h3, Or.inr h5⟩⟩, fun tgt kk => G242 _ kk⟩
            · have G243 : ∀ tq, Steps p.tables e below (T231.setTop (mkF m 212 #[iv p1, .val (.long q2), .second, .val (.long q3), .second, iv p4, iv i1, rv kA, iv lT, iv t0, iv t1, iv sm, iv lS, iv s0, iv s1, rv a211, rv a216, rv b222, iv 0, uu] [])) tq → Steps p.tables e below (T231.setTop (mkF m 172 #[iv p1, .val (.long q2), .second, .val (.long q3), .second, iv p4, iv i1, rv kA, iv lT, iv t0, iv t1, iv sm, iv lS, iv s0, iv s1, rv a211, rv a216, rv b222, uu, uu] [])) tq := by
                intro tq kk
                show Steps _ _ _ (T231.setTop (mkF m 172 #[iv p1, .val (.long q2), .second, .val (.long q3), .second, iv p4, iv i1, rv kA, iv lT, iv t0, iv t1, iv sm, iv lS, iv s0, iv s1, rv a211, rv a216, rv b222, uu, uu] [])) _
                refine XS.iload X231.here hx rfl (hb hby at_172) rfl ?_
                show Steps _ _ _ (T231.setTop (mkF m 174 _ [.int lT])) _
                refine XS.iload X231.here hx rfl (hb hby at_174) rfl ?_
                show Steps _ _ _ (T231.setTop (mkF m 176 _ [.int lS, .int lT])) _
                refine XS.icmpNo X231.here hx rfl (hb hby at_176) rfl (teq (h1 : lT = lS)).2 ?_
                show Steps _ _ _ (T231.setTop (mkF m 179 _ [])) _
                refine XS.iload X231.here hx rfl (hb hby at_179) rfl ?_
                show Steps _ _ _ (T231.setTop (mkF m 181 _ [.int lT])) _
                refine XS.iconst X231.here hx rfl (hb hby at_181) ?_
                show Steps _ _ _ (T231.setTop (mkF m 182 _ [.int 1, .int lT])) _
                refine XS.icmpNo X231.here hx rfl (hb hby at_182) rfl (flt (h2 : ¬ (lT < (1 : Int32)))).1 ?_
                show Steps _ _ _ (T231.setTop (mkF m 185 _ [])) _
                refine XS.iload X231.here hx rfl (hb hby at_185) rfl ?_
                show Steps _ _ _ (T231.setTop (mkF m 187 _ [.int t0])) _
                refine XS.iload X231.here hx rfl (hb hby at_187) rfl ?_
                show Steps _ _ _ (T231.setTop (mkF m 189 #[iv p1, .val (.long q2), .second, .val (.long q3), .second, iv p4, iv i1, rv kA, iv lT, iv t0, iv t1, iv sm, iv lS, iv s0, iv s1, rv a211, rv a216, rv b222, uu, uu] [.int s0, .int t0])) _
                refine XS.icmpNo X231.here hx rfl (hb hby at_189) rfl (teq (h3 : t0 = s0)).2 ?_
                show Steps _ _ _ (T231.setTop (mkF m 192 _ [])) _
                refine XS.iload X231.here hx rfl (hb hby at_192) rfl ?_
                show Steps _ _ _ (T231.setTop (mkF m 194 _ [.int lT])) _
                refine XS.iconst X231.here hx rfl (hb hby at_194) ?_
                show Steps _ _ _ (T231.setTop (mkF m 195 _ [.int 2, .int lT])) _
                refine XS.icmpNo X231.here hx rfl (hb hby at_195) rfl (flt (h4 : ¬ (lT < (2 : Int32)))).1 ?_
                show Steps _ _ _ (T231.setTop (mkF m 198 _ [])) _
                refine XS.iload X231.here hx rfl (hb hby at_198) rfl ?_
                show Steps _ _ _ (T231.setTop (mkF m 200 _ [.int t1])) _
                refine XS.iload X231.here hx rfl (hb hby at_200) rfl ?_
                show Steps _ _ _ (T231.setTop (mkF m 202 _ [.int s1, .int t1])) _
                refine XS.icmpYes X231.here hx rfl (pc0 := 202) (pc' := 209) rfl (hb hby at_202) rfl (feq (h5 : ¬ (t1 = s1))).2 (by decide) (by decide) ?_
                show Steps _ _ _ (T231.setTop (mkF m 209 _ [])) _
                refine XS.iconst X231.here hx rfl (hb hby at_209) ?_
                show Steps _ _ _ (T231.setTop (mkF m 210 #[iv p1, .val (.long q2), .second, .val (.long q3), .second, iv p4, iv i1, rv kA, iv lT, iv t0, iv t1, iv sm, iv lS, iv s0, iv s1, rv a211, rv a216, rv b222, uu, uu] [.int 0])) _
                refine XS.istore X231.here hx rfl (hb hby at_210) rfl (l' := #[iv p1, .val (.long q2), .second, .val (.long q3), .second, iv p4, iv i1, rv kA, iv lT, iv t0, iv t1, iv sm, iv lS, iv s0, iv s1, rv a211, rv a216, rv b222, iv 0, uu]) rfl ?_
                exact kk
              exact ⟨0, Or.inr ⟨rfl, fun q => ((hcs.mp q).2.2.elim h4 h5)⟩, fun tgt kk => G243 _ kk⟩
        · have G244 : ∀ tq, Steps p.tables e below (T231.setTop (mkF m 212 #[iv p1, .val (.long q2), .second, .val (.long q3), .second, iv p4, iv i1, rv kA, iv lT, iv t0, iv t1, iv sm, iv lS, iv s0, iv s1, rv a211, rv a216, rv b222, iv 0, uu] [])) tq → Steps p.tables e below (T231.setTop (mkF m 172 #[iv p1, .val (.long q2), .second, .val (.long q3), .second, iv p4, iv i1, rv kA, iv lT, iv t0, iv t1, iv sm, iv lS, iv s0, iv s1, rv a211, rv a216, rv b222, uu, uu] [])) tq := by
            intro tq kk
            show Steps _ _ _ (T231.setTop (mkF m 172 #[iv p1, .val (.long q2), .second, .val (.long q3), .second, iv p4, iv i1, rv kA, iv lT, iv t0, iv t1, iv sm, iv lS, iv s0, iv s1, rv a211, rv a216, rv b222, uu, uu] [])) _
            refine XS.iload X231.here hx rfl (hb hby at_172) rfl ?_
            show Steps _ _ _ (T231.setTop (mkF m 174 _ [.int lT])) _
            refine XS.iload X231.here hx rfl (hb hby at_174) rfl ?_
            show Steps _ _ _ (T231.setTop (mkF m 176 _ [.int lS, .int lT])) _
            refine XS.icmpNo X231.here hx rfl (hb hby at_176) rfl (teq (h1 : lT = lS)).2 ?_
            show Steps _ _ _ (T231.setTop (mkF m 179 _ [])) _
            refine XS.iload X231.here hx rfl (hb hby at_179) rfl ?_
            show Steps _ _ _ (T231.setTop (mkF m 181 _ [.int lT])) _
            refine XS.iconst X231.here hx rfl (hb hby at_181) ?_
            show Steps _ _ _ (T231.setTop (mkF m 182 _ [.int 1, .int lT])) _
            refine XS.icmpNo X231.here hx rfl (hb hby at_182) rfl (flt (h2 : ¬ (lT < (1 : Int32)))).1 ?_
            show Steps _ _ _ (T231.setTop (mkF m 185 _ [])) _
            refine XS.iload X231.here hx rfl (hb hby at_185) rfl ?_
            show Steps _ _ _ (T231.setTop (mkF m 187 _ [.int t0])) _
            refine XS.iload X231.here hx rfl (hb hby at_187) rfl ?_
            show Steps _ _ _ (T231.setTop (mkF m 189 #[iv p1, .val (.long q2), .second, .val (.long q3), .second, iv p4, iv i1, rv kA, iv lT, iv t0, iv t1, iv sm, iv lS, iv s0, iv s1, rv a211, rv a216, rv b222, uu, uu] [.int s0, .int t0])) _
            refine XS.icmpYes X231.here hx rfl (pc0 := 189) (pc' := 209) rfl (hb hby at_189) rfl (feq (h3 : ¬ (t0 = s0))).2 (by decide) (by decide) ?_
            show Steps _ _ _ (T231.setTop (mkF m 209 _ [])) _
            refine XS.iconst X231.here hx rfl (hb hby at_209) ?_
            show Steps _ _ _ (T231.setTop (mkF m 210 _ [.int 0])) _
            refine XS.istore X231.here hx rfl (hb hby at_210) rfl (l' := #[iv p1, .val (.long q2), .second, .val (.long q3), .second, iv p4, iv i1, rv kA, iv lT, iv t0, iv t1, iv sm, iv lS, iv s0, iv s1, rv a211, rv a216, rv b222, iv 0, uu]) rfl ?_
            exact kk
          exact ⟨0, Or.inr ⟨rfl, fun q => ((hcs.mp q).2.1.elim h2 h3)⟩, fun tgt kk => G244 _ kk⟩
    · have G245 : ∀ tq, Steps p.tables e below (T231.setTop (mkF m 212 #[iv p1, .val (.long q2), .second, .val (.long q3), .second, iv p4, iv i1, rv kA, iv lT, iv t0, iv t1, iv sm, iv lS, iv s0, iv s1, rv a211, rv a216, rv b222, iv 0, uu] [])) tq → Steps p.tables e below (T231.setTop (mkF m 172 #[iv p1, .val (.long q2), .second, .val (.long q3), .second, iv p4, iv i1, rv kA, iv lT, iv t0, iv t1, iv sm, iv lS, iv s0, iv s1, rv a211, rv a216, rv b222, uu, uu] [])) tq := by
        intro tq kk
        show Steps _ _ _ (T231.setTop (mkF m 172 #[iv p1, .val (.long q2), .second, .val (.long q3), .second, iv p4, iv i1, rv kA, iv lT, iv t0, iv t1, iv sm, iv lS, iv s0, iv s1, rv a211, rv a216, rv b222, uu, uu] [])) _
        refine XS.iload X231.here hx rfl (hb hby at_172) rfl ?_
        show Steps _ _ _ (T231.setTop (mkF m 174 _ [.int lT])) _
        refine XS.iload X231.here hx rfl (hb hby at_174) rfl ?_
        show Steps _ _ _ (T231.setTop (mkF m 176 _ [.int lS, .int lT])) _
        refine XS.icmpYes X231.here hx rfl (pc0 := 176) (pc' := 209) rfl (hb hby at_176) rfl (feq (h1 : ¬ (lT = lS))).2 (by decide) (by decide) ?_
        show Steps _ _ _ (T231.setTop (mkF m 209 _ [])) _
        refine XS.iconst X231.here hx rfl (hb hby at_209) ?_
        show Steps _ _ _ (T231.setTop (mkF m 210 _ [.int 0])) _
        refine XS.istore X231.here hx rfl (hb hby at_210) rfl (l' := #[iv p1, .val (.long q2), .second, .val (.long q3), .second, iv p4, iv i1, rv kA, iv lT, iv t0, iv t1, iv sm, iv lS, iv s0, iv s1, rv a211, rv a216, rv b222, iv 0, uu]) rfl ?_
        exact kk
      exact ⟨0, Or.inr ⟨rfl, fun q => h1 (hcs.mp q).1⟩, fun tgt kk => G245 _ kk⟩
  obtain ⟨ex, hex, GX⟩ : ∃ ex : Int32, ((ex = 1 ∧ (i1 = 4 ∨ i1 = 5) ∧ own_cs lT t0 t1 = own_cs lS s0 s1) ∨ (ex = 0 ∧ ¬ ((i1 = 4 ∨ i1 = 5) ∧ own_cs lT t0 t1 = own_cs lS s0 s1))) ∧ (∀ tq, Steps p.tables e below (T231.setTop (mkF m 236 #[iv p1, .val (.long q2), .second, .val (.long q3), .second, iv p4, iv i1, rv kA, iv lT, iv t0, iv t1, iv sm, iv lS, iv s0, iv s1, rv a211, rv a216, rv b222, iv eq, iv ex] [])) tq → Steps p.tables e below (T231.setTop (mkF m 212 #[iv p1, .val (.long q2), .second, .val (.long q3), .second, iv p4, iv i1, rv kA, iv lT, iv t0, iv t1, iv sm, iv lS, iv s0, iv s1, rv a211, rv a216, rv b222, iv eq, uu] [])) tq) := by
    rcases heq with ⟨rfl, hcd⟩ | ⟨rfl, hcd⟩
    · by_cases h4 : i1 = (4 : Int32)
      · have G246 : ∀ tq, Steps p.tables e below (T231.setTop (mkF m 236 #[iv p1, .val (.long q2), .second, .val (.long q3), .second, iv p4, iv i1, rv kA, iv lT, iv t0, iv t1, iv sm, iv lS, iv s0, iv s1, rv a211, rv a216, rv b222, iv 1, iv 1] [])) tq → Steps p.tables e below (T231.setTop (mkF m 212 #[iv p1, .val (.long q2), .second, .val (.long q3), .second, iv p4, iv i1, rv kA, iv lT, iv t0, iv t1, iv sm, iv lS, iv s0, iv s1, rv a211, rv a216, rv b222, iv 1, uu] [])) tq := by
          intro tq kk
          show Steps _ _ _ (T231.setTop (mkF m 212 #[iv p1, .val (.long q2), .second, .val (.long q3), .second, iv p4, iv i1, rv kA, iv lT, iv t0, iv t1, iv sm, iv lS, iv s0, iv s1, rv a211, rv a216, rv b222, iv 1, uu] [])) _
          refine XS.iload X231.here hx rfl (hb hby at_212) rfl ?_
          show Steps _ _ _ (T231.setTop (mkF m 214 _ [.int i1])) _
          refine XS.iconst X231.here hx rfl (hb hby at_214) ?_
          show Steps _ _ _ (T231.setTop (mkF m 215 _ [.int 4, .int i1])) _
          refine XS.icmpYes X231.here hx rfl (pc0 := 215) (pc' := 224) rfl (hb hby at_215) rfl (teq (h4 : i1 = (4 : Int32))).1 (by decide) (by decide) ?_
          show Steps _ _ _ (T231.setTop (mkF m 224 _ [])) _
          refine XS.iload X231.here hx rfl (hb hby at_224) rfl ?_
          show Steps _ _ _ (T231.setTop (mkF m 226 _ [.int 1])) _
          refine XS.ifNo X231.here hx rfl (hb hby at_226) rfl ((if0 _ _).trans (feq ((by decide) : ¬ ((1 : Int32) = (0 : Int32)))).1) ?_
          show Steps _ _ _ (T231.setTop (mkF m 229 _ [])) _
          refine XS.iconst X231.here hx rfl (hb hby at_229) ?_
          show Steps _ _ _ (T231.setTop (mkF m 230 _ [.int 1])) _
          refine XS.goto X231.here hx rfl (pc0 := 230) (pc' := 234) rfl (hb hby at_230) (by decide) (by decide) ?_
          show Steps _ _ _ (T231.setTop (mkF m 234 _ [.int 1])) _
          refine XS.istore X231.here hx rfl (hb hby at_234) rfl (l' := #[iv p1, .val (.long q2), .second, .val (.long q3), .second, iv p4, iv i1, rv kA, iv lT, iv t0, iv t1, iv sm, iv lS, iv s0, iv s1, rv a211, rv a216, rv b222, iv 1, iv 1]) rfl ?_
          exact kk
        exact ⟨1, Or.inl ⟨rfl, Or.inl h4, hcd⟩, fun tgt kk => G246 _ kk⟩
      · by_cases h5 : i1 = (5 : Int32)
        · have G247 : ∀ tq, Steps p.tables e below (T231.setTop (mkF m 236 #[iv p1, .val (.long q2), .second, .val (.long q3), .second, iv p4, iv i1, rv kA, iv lT, iv t0, iv t1, iv sm, iv lS, iv s0, iv s1, rv a211, rv a216, rv b222, iv 1, iv 1] [])) tq → Steps p.tables e below (T231.setTop (mkF m 212 #[iv p1, .val (.long q2), .second, .val (.long q3), .second, iv p4, iv i1, rv kA, iv lT, iv t0, iv t1, iv sm, iv lS, iv s0, iv s1, rv a211, rv a216, rv b222, iv 1, uu] [])) tq := by
            intro tq kk
            show Steps _ _ _ (T231.setTop (mkF m 212 #[iv p1, .val (.long q2), .second, .val (.long q3), .second, iv p4, iv i1, rv kA, iv lT, iv t0, iv t1, iv sm, iv lS, iv s0, iv s1, rv a211, rv a216, rv b222, iv 1, uu] [])) _
            refine XS.iload X231.here hx rfl (hb hby at_212) rfl ?_
            show Steps _ _ _ (T231.setTop (mkF m 214 _ [.int i1])) _
            refine XS.iconst X231.here hx rfl (hb hby at_214) ?_
            show Steps _ _ _ (T231.setTop (mkF m 215 _ [.int 4, .int i1])) _
            refine XS.icmpNo X231.here hx rfl (hb hby at_215) rfl (feq (h4 : ¬ (i1 = (4 : Int32)))).1 ?_
            show Steps _ _ _ (T231.setTop (mkF m 218 _ [])) _
            refine XS.iload X231.here hx rfl (hb hby at_218) rfl ?_
            show Steps _ _ _ (T231.setTop (mkF m 220 _ [.int i1])) _
            refine XS.iconst X231.here hx rfl (hb hby at_220) ?_
            show Steps _ _ _ (T231.setTop (mkF m 221 _ [.int 5, .int i1])) _
            refine XS.icmpNo X231.here hx rfl (hb hby at_221) rfl (teq (h5 : i1 = (5 : Int32))).2 ?_
            show Steps _ _ _ (T231.setTop (mkF m 224 _ [])) _
            refine XS.iload X231.here hx rfl (hb hby at_224) rfl ?_
            show Steps _ _ _ (T231.setTop (mkF m 226 _ [.int 1])) _
            refine XS.ifNo X231.here hx rfl (hb hby at_226) rfl ((if0 _ _).trans (feq ((by decide) : ¬ ((1 : Int32) = (0 : Int32)))).1) ?_
            show Steps _ _ _ (T231.setTop (mkF m 229 #[iv p1, .val (.long q2), .second, .val (.long q3), .second, iv p4, iv i1, rv kA, iv lT, iv t0, iv t1, iv sm, iv lS, iv s0, iv s1, rv a211, rv a216, rv b222, iv 1, uu] [])) _
            refine XS.iconst X231.here hx rfl (hb hby at_229) ?_
            show Steps _ _ _ (T231.setTop (mkF m 230 _ [.int 1])) _
            refine XS.goto X231.here hx rfl (pc0 := 230) (pc' := 234) rfl (hb hby at_230) (by decide) (by decide) ?_
            show Steps _ _ _ (T231.setTop (mkF m 234 _ [.int 1])) _
            refine XS.istore X231.here hx rfl (hb hby at_234) rfl (l' := #[iv p1, .val (.long q2), .second, .val (.long q3), .second, iv p4, iv i1, rv kA, iv lT, iv t0, iv t1, iv sm, iv lS, iv s0, iv s1, rv a211, rv a216, rv b222, iv 1, iv 1]) rfl ?_
            exact kk
          exact ⟨1, Or.inl ⟨rfl, Or.inr h5, hcd⟩, fun tgt kk => G247 _ kk⟩
        · have G248 : ∀ tq, Steps p.tables e below (T231.setTop (mkF m 236 #[iv p1, .val (.long q2), .second, .val (.long q3), .second, iv p4, iv i1, rv kA, iv lT, iv t0, iv t1, iv sm, iv lS, iv s0, iv s1, rv a211, rv a216, rv b222, iv 1, iv 0] [])) tq → Steps p.tables e below (T231.setTop (mkF m 212 #[iv p1, .val (.long q2), .second, .val (.long q3), .second, iv p4, iv i1, rv kA, iv lT, iv t0, iv t1, iv sm, iv lS, iv s0, iv s1, rv a211, rv a216, rv b222, iv 1, uu] [])) tq := by
            intro tq kk
            show Steps _ _ _ (T231.setTop (mkF m 212 #[iv p1, .val (.long q2), .second, .val (.long q3), .second, iv p4, iv i1, rv kA, iv lT, iv t0, iv t1, iv sm, iv lS, iv s0, iv s1, rv a211, rv a216, rv b222, iv 1, uu] [])) _
            refine XS.iload X231.here hx rfl (hb hby at_212) rfl ?_
            show Steps _ _ _ (T231.setTop (mkF m 214 _ [.int i1])) _
            refine XS.iconst X231.here hx rfl (hb hby at_214) ?_
            show Steps _ _ _ (T231.setTop (mkF m 215 _ [.int 4, .int i1])) _
            refine XS.icmpNo X231.here hx rfl (hb hby at_215) rfl (feq (h4 : ¬ (i1 = (4 : Int32)))).1 ?_
            show Steps _ _ _ (T231.setTop (mkF m 218 _ [])) _
            refine XS.iload X231.here hx rfl (hb hby at_218) rfl ?_
            show Steps _ _ _ (T231.setTop (mkF m 220 _ [.int i1])) _
            refine XS.iconst X231.here hx rfl (hb hby at_220) ?_
            show Steps _ _ _ (T231.setTop (mkF m 221 _ [.int 5, .int i1])) _
            refine XS.icmpYes X231.here hx rfl (pc0 := 221) (pc' := 233) rfl (hb hby at_221) rfl (feq (h5 : ¬ (i1 = (5 : Int32)))).2 (by decide) (by decide) ?_
            show Steps _ _ _ (T231.setTop (mkF m 233 _ [])) _
            refine XS.iconst X231.here hx rfl (hb hby at_233) ?_
            show Steps _ _ _ (T231.setTop (mkF m 234 _ [.int 0])) _
            refine XS.istore X231.here hx rfl (hb hby at_234) rfl (l' := #[iv p1, .val (.long q2), .second, .val (.long q3), .second, iv p4, iv i1, rv kA, iv lT, iv t0, iv t1, iv sm, iv lS, iv s0, iv s1, rv a211, rv a216, rv b222, iv 1, iv 0]) rfl ?_
            exact kk
          exact ⟨0, Or.inr ⟨rfl, fun q => absurd q.1 (not_or.mpr ⟨h4, h5⟩)⟩, fun tgt kk => G248 _ kk⟩
    · by_cases h4 : i1 = (4 : Int32)
      · have G249 : ∀ tq, Steps p.tables e below (T231.setTop (mkF m 236 #[iv p1, .val (.long q2), .second, .val (.long q3), .second, iv p4, iv i1, rv kA, iv lT, iv t0, iv t1, iv sm, iv lS, iv s0, iv s1, rv a211, rv a216, rv b222, iv 0, iv 0] [])) tq → Steps p.tables e below (T231.setTop (mkF m 212 #[iv p1, .val (.long q2), .second, .val (.long q3), .second, iv p4, iv i1, rv kA, iv lT, iv t0, iv t1, iv sm, iv lS, iv s0, iv s1, rv a211, rv a216, rv b222, iv 0, uu] [])) tq := by
          intro tq kk
          show Steps _ _ _ (T231.setTop (mkF m 212 #[iv p1, .val (.long q2), .second, .val (.long q3), .second, iv p4, iv i1, rv kA, iv lT, iv t0, iv t1, iv sm, iv lS, iv s0, iv s1, rv a211, rv a216, rv b222, iv 0, uu] [])) _
          refine XS.iload X231.here hx rfl (hb hby at_212) rfl ?_
          show Steps _ _ _ (T231.setTop (mkF m 214 _ [.int i1])) _
          refine XS.iconst X231.here hx rfl (hb hby at_214) ?_
          show Steps _ _ _ (T231.setTop (mkF m 215 _ [.int 4, .int i1])) _
          refine XS.icmpYes X231.here hx rfl (pc0 := 215) (pc' := 224) rfl (hb hby at_215) rfl (teq (h4 : i1 = (4 : Int32))).1 (by decide) (by decide) ?_
          show Steps _ _ _ (T231.setTop (mkF m 224 _ [])) _
          refine XS.iload X231.here hx rfl (hb hby at_224) rfl ?_
          show Steps _ _ _ (T231.setTop (mkF m 226 _ [.int 0])) _
          refine XS.ifYes X231.here hx rfl (pc0 := 226) (pc' := 233) rfl (hb hby at_226) rfl ((if0 _ _).trans (teq (rfl : (0 : Int32) = (0 : Int32))).1) (by decide) (by decide) ?_
          show Steps _ _ _ (T231.setTop (mkF m 233 _ [])) _
          refine XS.iconst X231.here hx rfl (hb hby at_233) ?_
          show Steps _ _ _ (T231.setTop (mkF m 234 _ [.int 0])) _
          refine XS.istore X231.here hx rfl (hb hby at_234) rfl (l' := #[iv p1, .val (.long q2), .second, .val (.long q3), .second, iv p4, iv i1, rv kA, iv lT, iv t0, iv t1, iv sm, iv lS, iv s0, iv s1, rv a211, rv a216, rv b222, iv 0, iv 0]) rfl ?_
          exact kk
        exact ⟨0, Or.inr ⟨rfl, fun q => hcd q.2⟩, fun tgt kk => G249 _ kk⟩
      · by_cases h5 : i1 = (5 : Int32)
        · have G250 : ∀ tq, Steps p.tables e below (T231.setTop (mkF m 236 #[iv p1, .val (.long q2), .second, .val (.long q3), .second, iv p4, iv i1, rv kA, iv lT, iv t0, iv t1, iv sm, iv lS, iv s0, iv s1, rv a211, rv a216, rv b222, iv 0, iv 0] [])) tq → Steps p.tables e below (T231.setTop (mkF m 212 #[iv p1, .val (.long q2), .second, .val (.long q3), .second, iv p4, iv i1, rv kA, iv lT, iv t0, iv t1, iv sm, iv lS, iv s0, iv s1, rv a211, rv a216, rv b222, iv 0, uu] [])) tq := by
            intro tq kk
            show Steps _ _ _ (T231.setTop (mkF m 212 #[iv p1, .val (.long q2), .second, .val (.long q3), .second, iv p4, iv i1, rv kA, iv lT, iv t0, iv t1, iv sm, iv lS, iv s0, iv s1, rv a211, rv a216, rv b222, iv 0, uu] [])) _
            refine XS.iload X231.here hx rfl (hb hby at_212) rfl ?_
            show Steps _ _ _ (T231.setTop (mkF m 214 _ [.int i1])) _
            refine XS.iconst X231.here hx rfl (hb hby at_214) ?_
            show Steps _ _ _ (T231.setTop (mkF m 215 _ [.int 4, .int i1])) _
            refine XS.icmpNo X231.here hx rfl (hb hby at_215) rfl (feq (h4 : ¬ (i1 = (4 : Int32)))).1 ?_
            show Steps _ _ _ (T231.setTop (mkF m 218 _ [])) _
            refine XS.iload X231.here hx rfl (hb hby at_218) rfl ?_
            show Steps _ _ _ (T231.setTop (mkF m 220 _ [.int i1])) _
            refine XS.iconst X231.here hx rfl (hb hby at_220) ?_
            show Steps _ _ _ (T231.setTop (mkF m 221 _ [.int 5, .int i1])) _
            refine XS.icmpNo X231.here hx rfl (hb hby at_221) rfl (teq (h5 : i1 = (5 : Int32))).2 ?_
            show Steps _ _ _ (T231.setTop (mkF m 224 _ [])) _
            refine XS.iload X231.here hx rfl (hb hby at_224) rfl ?_
            show Steps _ _ _ (T231.setTop (mkF m 226 _ [.int 0])) _
            refine XS.ifYes X231.here hx rfl (pc0 := 226) (pc' := 233) rfl (hb hby at_226) rfl ((if0 _ _).trans (teq (rfl : (0 : Int32) = (0 : Int32))).1) (by decide) (by decide) ?_
            show Steps _ _ _ (T231.setTop (mkF m 233 #[iv p1, .val (.long q2), .second, .val (.long q3), .second, iv p4, iv i1, rv kA, iv lT, iv t0, iv t1, iv sm, iv lS, iv s0, iv s1, rv a211, rv a216, rv b222, iv 0, uu] [])) _
            refine XS.iconst X231.here hx rfl (hb hby at_233) ?_
            show Steps _ _ _ (T231.setTop (mkF m 234 _ [.int 0])) _
            refine XS.istore X231.here hx rfl (hb hby at_234) rfl (l' := #[iv p1, .val (.long q2), .second, .val (.long q3), .second, iv p4, iv i1, rv kA, iv lT, iv t0, iv t1, iv sm, iv lS, iv s0, iv s1, rv a211, rv a216, rv b222, iv 0, iv 0]) rfl ?_
            exact kk
          exact ⟨0, Or.inr ⟨rfl, fun q => hcd q.2⟩, fun tgt kk => G250 _ kk⟩
        · have G251 : ∀ tq, Steps p.tables e below (T231.setTop (mkF m 236 #[iv p1, .val (.long q2), .second, .val (.long q3), .second, iv p4, iv i1, rv kA, iv lT, iv t0, iv t1, iv sm, iv lS, iv s0, iv s1, rv a211, rv a216, rv b222, iv 0, iv 0] [])) tq → Steps p.tables e below (T231.setTop (mkF m 212 #[iv p1, .val (.long q2), .second, .val (.long q3), .second, iv p4, iv i1, rv kA, iv lT, iv t0, iv t1, iv sm, iv lS, iv s0, iv s1, rv a211, rv a216, rv b222, iv 0, uu] [])) tq := by
            intro tq kk
            show Steps _ _ _ (T231.setTop (mkF m 212 #[iv p1, .val (.long q2), .second, .val (.long q3), .second, iv p4, iv i1, rv kA, iv lT, iv t0, iv t1, iv sm, iv lS, iv s0, iv s1, rv a211, rv a216, rv b222, iv 0, uu] [])) _
            refine XS.iload X231.here hx rfl (hb hby at_212) rfl ?_
            show Steps _ _ _ (T231.setTop (mkF m 214 _ [.int i1])) _
            refine XS.iconst X231.here hx rfl (hb hby at_214) ?_
            show Steps _ _ _ (T231.setTop (mkF m 215 _ [.int 4, .int i1])) _
            refine XS.icmpNo X231.here hx rfl (hb hby at_215) rfl (feq (h4 : ¬ (i1 = (4 : Int32)))).1 ?_
            show Steps _ _ _ (T231.setTop (mkF m 218 _ [])) _
            refine XS.iload X231.here hx rfl (hb hby at_218) rfl ?_
            show Steps _ _ _ (T231.setTop (mkF m 220 _ [.int i1])) _
            refine XS.iconst X231.here hx rfl (hb hby at_220) ?_
            show Steps _ _ _ (T231.setTop (mkF m 221 _ [.int 5, .int i1])) _
            refine XS.icmpYes X231.here hx rfl (pc0 := 221) (pc' := 233) rfl (hb hby at_221) rfl (feq (h5 : ¬ (i1 = (5 : Int32)))).2 (by decide) (by decide) ?_
            show Steps _ _ _ (T231.setTop (mkF m 233 _ [])) _
            refine XS.iconst X231.here hx rfl (hb hby at_233) ?_
            show Steps _ _ _ (T231.setTop (mkF m 234 _ [.int 0])) _
            refine XS.istore X231.here hx rfl (hb hby at_234) rfl (l' := #[iv p1, .val (.long q2), .second, .val (.long q3), .second, iv p4, iv i1, rv kA, iv lT, iv t0, iv t1, iv sm, iv lS, iv s0, iv s1, rv a211, rv a216, rv b222, iv 0, iv 0]) rfl ?_
            exact kk
          exact ⟨0, Or.inr ⟨rfl, fun q => hcd q.2⟩, fun tgt kk => G251 _ kk⟩
  have f252 := ((SXa.ext E222).keep K231 (allS (Nat.le_of_eq g222.symm) all0))
  have f253 := ((SB216.ext E222).keep K231 (allS (Nat.le_of_eq g222.symm) all0))
  obtain ⟨cq254, kq254, q254a, q254b, q254c⟩ := isOf hZ216 rfl gE231
  obtain ⟨_, _, ⟨T254, L254, k254, n254⟩, -, X254, ⟨Lc254, hQ254, l254, y254, z254⟩, st254⟩ := X231.virtualBack hx (y := (⟨"itemwright/expression/Lexer$Token", "is", "(Ljava/lang/String;)Z"⟩ : MethodName)) (z := (⟨"itemwright/expression/Lexer$Token", "is", "(Ljava/lang/String;)Z"⟩ : MethodName)) hown216 (mvT hZ216 (W 64 rfl)) (mvT hZ216 (W 65 rfl)) (notFace_of_selects (args := #[]) (mvT hZ216 (W 67 rfl))) (mvT hZ216 (W 67 rfl)) (mvT hZ216 (W 66 rfl)) (by decide) (backOf (W := 0) (rm_tis l Z a0 hw [] b222 kA a211 a216 ku kc _ _ (own_cs lT t0 t1) (own_cs lS s0 s1) G1 T231.heap n0 Z234 O235 gK231 gT231 f252 f253 Skc Sku O2 P5) hZ216 (W 68 rfl) (W 48 rfl) (by decide) (by decide)) q254a q254c (g := (mkF m 240 #[iv p1, .val (.long q2), .second, .val (.long q3), .second, iv p4, iv i1, rv kA, iv lT, iv t0, iv t1, iv sm, iv lS, iv s0, iv s1, rv a211, rv a216, rv b222, iv eq, iv ex] [.ref a216, .ref b222])) rfl (by rw [hml]; rfl) (Steps.refl _) (argsL := [.ref a216]) (rest := []) (lenOf own_pd_9 rfl) rfl own_wt (hb hby at_240) (fun _ _ => ⟨rfl, rfl, (by decide : 13 + 0 ≤ _), (by decide : 35 + 0 ≤ _)⟩)
  dsimp only [Pt.U, Pt.locs, Pt.cells, Pt.slots] at X254 l254 y254 z254 st254 hQ254
  subst l254 y254 z254
  obtain ⟨r9, hv254, hr9, Nq254, e254⟩ := hQ254
  subst hv254
  have N254 := Fr.app N231 Nq254
  have CRe := CR232.trans (CHv.at X254 hZ216 hEL CR232.1)
  obtain ⟨fs, hr, hrun, hended, hRW⟩ := X254.leaveW hS216 (by rw [e254]; exact hk236) (v := some (.int (1 : Int32))) (fun h => by rw [Bd.returns] at h; cases h)
  refine ⟨_, _, pre0 _ (Gn _ (G207 _ (G208 _ (GS _ (G215 _ (G220 _ (G237 _ (GQ _ (GX _ (?_)))))))))), hrun, hended, _, _, rfl, ?_, (by rw [hh]; show CHr Z _ s.vm h0 T254.vm T254.heap; rw [e254]; exact CRe), hRW.1, hRW.2.1, hRW.2.2.1, hRW.2.2.2.mono (by decide) (by decide)⟩
  · show Steps _ _ _ (T231.setTop (mkF m 236 #[iv p1, .val (.long q2), .second, .val (.long q3), .second, iv p4, iv i1, rv kA, iv lT, iv t0, iv t1, iv sm, iv lS, iv s0, iv s1, rv a211, rv a216, rv b222, iv eq, iv ex] [])) _
    refine XS.aload X231.here hx rfl (hb hby at_236) rfl rfl ?_
    show Steps _ _ _ (T231.setTop (mkF m 238 _ [.ref b222])) _
    refine XS.aload X231.here hx rfl (hb hby at_238) rfl rfl ?_
    show Steps _ _ _ (T231.setTop (mkF m 240 _ [.ref a216, .ref b222])) _
    refine st254.trans ?_
    show Steps _ _ _ (T254.setTop (mkF m 243 #[iv p1, .val (.long q2), .second, .val (.long q3), .second, iv p4, iv i1, rv kA, iv lT, iv t0, iv t1, iv sm, iv lS, iv s0, iv s1, rv a211, rv a216, rv b222, iv eq, iv ex] [.int r9])) _
    refine XS.iload X254.here hx rfl (hb hby at_243) rfl ?_
    show Steps _ _ _ (T254.setTop (mkF m 245 _ [.int ex, .int r9])) _
    refine XS.icmpNo X254.here hx rfl (hb hby at_245) rfl (teq (own_same hk hr9 hex : r9 = ex)).2 ?_
    show Steps _ _ _ (T254.setTop (mkF m 248 _ [])) _
    refine XS.iconst X254.here hx rfl (hb hby at_248) ?_
    show Steps _ _ _ (T254.setTop (mkF m 249 _ [.int 1])) _
    refine XS.goto X254.here hx rfl (pc0 := 249) (pc' := 253) rfl (hb hby at_249) (by decide) (by decide) ?_
    show Steps _ _ _ (T254.setTop (mkF m 253 _ [.int 1])) _
    exact retN X254 hx (t := .boolean) Bd.returns (by simp) (hb hby at_253) hr
  · show Q_law Z p1 q2 q3 p4 G1 kn k1 k2 k3 kc ku ke h0 n0 _ T254.heap _
    rw [e254]
    exact ⟨rfl, N254⟩
set_option maxRecDepth 65536 in
set_option maxHeartbeats 40000000 in
theorem comes_1 {Post : Tables → Env → Array Value → State → Outcome → State → Prop} (hpost : ∀ tb e args s v u, (limb_1_1.after args s (.returned v) u = true ∧ limb_1_2.after args s (.returned v) u = true ∧ True) → ReturnedEndW s (.returned v) u (Jvm.fieldLocs frame_1_writes args s ++ Jvm.arrayLocs frame_1_arrays args s ++ Jvm.staticLocs frame_1_statics s) 24 1152 → Post tb e args s (.returned v) u) :
    ArmFor flags0 classFile x code maxLocals ret World_1 tables_1 room_1 Calls_1 rest_1 Pre_1 Post := by
  intro l hfl _ _ p e ha hc hk s m args below hf hA hF happ hP
  obtain ⟨hcalls, hrest, hpre⟩ := hP
  obtain ⟨-, -, -, hnamed, -, -, -, hat⟩ := (Spec.applies_iff hf).mp happ
  obtain ⟨hg, hn⟩ := and_e (Cond.before_iff.mp (show (Jvm.Cond.and given_1 narrow_1).before args s = true from hpre))
  obtain ⟨hcount, hg0⟩ := and_e hg
  obtain ⟨hi0, hg1⟩ := and_e hg0
  obtain ⟨hi1, hg2⟩ := and_e hg1
  obtain ⟨hi2, hg3⟩ := and_e hg2
  have hi3 := hg3
  obtain ⟨w0, w1, w2, w3, rfl⟩ : ∃ w0 w1 w2 w3 : Value, args = #[w0, w1, w2, w3] := by
    have hs : args.size = 4 := by simpa [Cond.value, given_1] using hcount
    obtain ⟨L⟩ := args
    match L, hs with
    | [w0, w1, w2, w3], _ => exact ⟨w0, w1, w2, w3, rfl⟩
  have hw := fun d (hd : d ∈ tables_1) => atoms_spec (ws := Jvm.Cond.code x code maxLocals ret :: tables_1) hat d (List.mem_cons_of_mem _ hd)
  obtain ⟨hsets, hown0⟩ := atoms_of _ (rest_1_c_eq ▸ (show rest_1_c.before _ s = true from hrest))
  obtain ⟨i0, ei0⟩ := is_v hi0
  obtain rfl : w0 = (.int i0) := Option.some.inj ei0
  obtain ⟨i1, ei1⟩ := isL_v hi1
  obtain rfl : w1 = (.long i1) := Option.some.inj ei1
  obtain ⟨i2, ei2⟩ := isL_v hi2
  obtain rfl : w2 = (.long i2) := Option.some.inj ei2
  obtain ⟨i3, ei3⟩ := is_v hi3
  obtain rfl : w3 = (.int i3) := Option.some.inj ei3
  have n3 := not_v (Cond.before_iff.mp (hsets _ (List.mem_of_getElem? (i := 2) rfl)))
  obtain ⟨iC, eC⟩ := is_v (Cond.before_iff.mp (hsets _ (List.mem_of_getElem? (i := 1) rfl)))
  have SC : Sta s s.heap "java/lang/String" "COMPACT_STRINGS" "Z" (.int iC) := Sta.start eC (Or.inl (hsets _ (List.mem_of_getElem? (i := 0) rfl)))
  have nC : ¬ (iC = (0 : Int32)) := gotF (Cond.eq_ints eC (Term.int_eval (0))) n3
  obtain ⟨x_NAME, hn0⟩ := and_e hn
  obtain ⟨x_PUNCTUATION, hn1⟩ := and_e hn0
  obtain ⟨o_NAME, hn2⟩ := and_e hn1
  obtain ⟨o_PUNCTUATION, hn3⟩ := and_e hn2
  obtain ⟨x_COMPARATOR, hn4⟩ := and_e hn3
  obtain ⟨o_COMPARATOR, hn5⟩ := and_e hn4
  obtain ⟨x_INTEGER, hn6⟩ := and_e hn5
  obtain ⟨o_INTEGER, hn7⟩ := and_e hn6
  obtain ⟨x_END, hn8⟩ := and_e hn7
  obtain ⟨o_END, hn9⟩ := and_e hn8
  obtain ⟨x_NAME_PLACEHOLDER, hn10⟩ := and_e hn9
  obtain ⟨o_NAME_PLACEHOLDER, hn11⟩ := and_e hn10
  obtain ⟨x_VALUE_PLACEHOLDER, hn12⟩ := and_e hn11
  have o_VALUE_PLACEHOLDER := hn12
  obtain ⟨kn, ev_kn⟩ := own_ex x_NAME
  have Skn : Sta s s.heap "itemwright/expression/Lexer$Kind" "NAME" "Litemwright/expression/Lexer$Kind;" (.ref kn) := Sta.start ev_kn (Or.inr ⟨own_W hw 6 rfl, own_W hw 7 rfl⟩)
  obtain ⟨k1, ev_k1⟩ := own_ex x_NAME_PLACEHOLDER
  have Sk1 : Sta s s.heap "itemwright/expression/Lexer$Kind" "NAME_PLACEHOLDER" "Litemwright/expression/Lexer$Kind;" (.ref k1) := Sta.start ev_k1 (Or.inr ⟨own_W hw 6 rfl, own_W hw 78 rfl⟩)
  obtain ⟨k2, ev_k2⟩ := own_ex x_VALUE_PLACEHOLDER
  have Sk2 : Sta s s.heap "itemwright/expression/Lexer$Kind" "VALUE_PLACEHOLDER" "Litemwright/expression/Lexer$Kind;" (.ref k2) := Sta.start ev_k2 (Or.inr ⟨own_W hw 6 rfl, own_W hw 94 rfl⟩)
  obtain ⟨k3, ev_k3⟩ := own_ex x_INTEGER
  have Sk3 : Sta s s.heap "itemwright/expression/Lexer$Kind" "INTEGER" "Litemwright/expression/Lexer$Kind;" (.ref k3) := Sta.start ev_k3 (Or.inr ⟨own_W hw 6 rfl, own_W hw 74 rfl⟩)
  obtain ⟨kc, ev_kc⟩ := own_ex x_COMPARATOR
  have Skc : Sta s s.heap "itemwright/expression/Lexer$Kind" "COMPARATOR" "Litemwright/expression/Lexer$Kind;" (.ref kc) := Sta.start ev_kc (Or.inr ⟨own_W hw 6 rfl, own_W hw 72 rfl⟩)
  obtain ⟨ku, ev_ku⟩ := own_ex x_PUNCTUATION
  have Sku : Sta s s.heap "itemwright/expression/Lexer$Kind" "PUNCTUATION" "Litemwright/expression/Lexer$Kind;" (.ref ku) := Sta.start ev_ku (Or.inr ⟨own_W hw 6 rfl, own_W hw 70 rfl⟩)
  obtain ⟨ke, ev_ke⟩ := own_ex x_END
  have Ske : Sta s s.heap "itemwright/expression/Lexer$Kind" "END" "Litemwright/expression/Lexer$Kind;" (.ref ke) := Sta.start ev_ke (Or.inr ⟨own_W hw 6 rfl, own_W hw 76 rfl⟩)
  have Dkn : ¬ kn = ku ∧ ¬ kn = kc := ⟨own_dist ev_kn ev_ku o_NAME o_PUNCTUATION (by decide), own_dist ev_kn ev_kc o_NAME o_COMPARATOR (by decide)⟩
  have Dk1 : ¬ k1 = ku ∧ ¬ k1 = kc := ⟨own_dist ev_k1 ev_ku o_NAME_PLACEHOLDER o_PUNCTUATION (by decide), own_dist ev_k1 ev_kc o_NAME_PLACEHOLDER o_COMPARATOR (by decide)⟩
  have Dk2 : ¬ k2 = ku ∧ ¬ k2 = kc := ⟨own_dist ev_k2 ev_ku o_VALUE_PLACEHOLDER o_PUNCTUATION (by decide), own_dist ev_k2 ev_kc o_VALUE_PLACEHOLDER o_COMPARATOR (by decide)⟩
  have Dk3 : ¬ k3 = ku ∧ ¬ k3 = kc := ⟨own_dist ev_k3 ev_ku o_INTEGER o_PUNCTUATION (by decide), own_dist ev_k3 ev_kc o_INTEGER o_COMPARATOR (by decide)⟩
  have Dke : ¬ ke = ku ∧ ¬ ke = kc := ⟨own_dist ev_ke ev_ku o_END o_PUNCTUATION (by decide), own_dist ev_ke ev_kc o_END o_COMPARATOR (by decide)⟩
  have hcw : Jvm.Lit.compactW.before _ s = true := hsets _ (List.mem_of_getElem? (i := 2) rfl)
  have hCH : CHv s own_EL s.vm s.heap := CHv.start (own_EW hw) (fun p hp => hcalls.1 p hp) hcw (own_W hw 32 rfl) (own_W hw 14 rfl)
  obtain ⟨n, o, h1, h2, h3, _, L, rfl, ⟨rfl, N⟩, -, hq⟩ := rm_law l s _ hw tables_1 i0 i1 i2 i3 iC kn k1 k2 k3 kc ku ke s.heap s.heap.size (Nat.le_refl _) (Old.start s) SC nC Skn Sk1 Sk2 Sk3 Skc Sku Ske Dkn Dk1 Dk2 Dk3 Dke p e ha hc hk s m _ below hf ((Spec.applies_iff_loose hf).mp happ).1 ⟨rfl, State.Warmed39.refl s, rfl, hCH, fun x hx => by cases hx⟩ trivial
  refine ⟨n, _, h1, h2, h3, hpost _ _ _ _ _ _ ⟨Cond.after_iff.mpr rfl, Cond.after_iff.mpr (eq_i res_at (Term.int_eval (1)) rfl), trivial⟩ ⟨hq.1, hq.2.1, hq.2.2.1, (hq.2.2.2.sift fun y hy => Or.inr (N y hy)).mono (by decide) (by decide)⟩⟩
theorem main_1_1 : Claimed_1_1 := comes_1 fun _ _ _ _ _ _ h hF => ⟨h.1, hF⟩
theorem main_1_2 : Claimed_1_2 := comes_1 fun _ _ _ _ _ _ h hF => ⟨h.2.1, hF⟩
end Jvm.Pilot.@@N@@
namespace Jvm.Pilot.@@N@@
open Jvm Jvm.ClassFile Sem Op Lib Jvm.Free Jvm.Stand Jvm.Pilot.@@N@@.Jvm.D
/-! MADE BY PROGRAM (witnessworld.py) out of the Statement's table words and the real class files: 23 classes; the members and pool entries that the words name. The judged class is class 1, her method 3. -/
namespace start1
open Jvm.ClassFile
def u (s : String) : CpInfo := .utf8 (stringToUtf16 s)
/-- a pool by its gaps: so many unusable entries, then the entry; so many at the end -/
def gap : Nat → List CpInfo → List CpInfo
  | 0, r => r
  | n + 1, r => .unusable :: gap n r
def poolList (es : List (Nat × CpInfo)) (last : Nat) : List CpInfo := es.foldr (fun e r => gap e.1 (e.2 :: r)) (gap last [])
def pool (es : List (Nat × CpInfo)) (last : Nat) : Array CpInfo := ⟨poolList es last⟩
def fileOf (pool : Array CpInfo) (this : Nat) (attrs : Array Attribute := #[]) (ms : Array MethodInfo := #[]) (fl : Nat := 33) (sup : Nat := 0) (ifs : Array Nat := #[]) (fds : Array FieldInfo := #[]) : ClassFile where
  minorVersion := 0
  majorVersion := 65
  constantPool := pool
  accessFlags := fl
  thisClass := this
  superClass := sup
  interfaces := ifs
  fields := fds
  methods := ms
  attributes := attrs
def plain (name : String) (sup : Option ClassId) : Class where
  name := name
  kind := .ordinary
  loader := none
  accessFlags := 33
  super := sup
  interfaces := #[]
  cf := none
  fields := #[]
  methods := #[]
  instanceTypes := #[]
  staticTypes := #[]
  resolved := #[]
  callSites := []
  init := .initialized
  statics := none
  mirror := none

def pool0 : Array CpInfo := pool [(5, u "<init>"), (0, u "()V"), (1, .class_ 10), (1, u "java/lang/Object")] 113

def k0c0 : Code := { maxStack := 0, maxLocals := 1, code := object_method_1_code, exceptionTable := #[], attributes := #[] }
def k0m0 : Method := { name := "<init>", desc := "()V", sig := { parameters := [], returnType := none }, accessFlags := 1, code := some k0c0 }
/-- java/lang/Object -/
def k0 : Class := { plain "java/lang/Object" none with
  accessFlags := 33
  interfaces := #[]
  cf := some (fileOf pool0 8 #[] #[{ accessFlags := 1, nameIndex := 5, descriptorIndex := 6, attributes := #[] }] 33 0 #[] #[])
  fields := #[]
  methods := #[k0m0]
  instanceTypes := #[]
  staticTypes := #[]
  resolved := Array.replicate 124 none
  statics := none }

def pool1 : Array CpInfo := pool [(2, .class_ 4), (1, u "java/lang/Object"), (0, u "<init>"), (0, u "()V"), (0, .fieldref 8 9), (0, .class_ 10), (0, .nameAndType 11 12), (0, u "itemwright/expression/Lexer$Kind"), (0, u "NAME"), (0, u "Litemwright/expression/Lexer$Kind;"), (0, .fieldref 8 14), (0, .nameAndType 15 12), (0, u "NAME_PLACEHOLDER"), (0, .fieldref 8 17), (0, .nameAndType 18 12), (0, u "VALUE_PLACEHOLDER"), (0, .fieldref 8 20), (0, .nameAndType 21 12), (0, u "INTEGER"), (0, .fieldref 8 23), (0, .nameAndType 24 12), (0, u "COMPARATOR"), (0, .fieldref 8 26), (0, .nameAndType 27 12), (0, u "PUNCTUATION"), (0, .fieldref 8 29), (0, .nameAndType 30 12), (0, u "END"), (0, .class_ 32), (0, u "java/lang/String"), (0, .methodref 31 34), (0, .nameAndType 5 35), (0, u "([C)V"), (0, .methodref 31 37), (0, .nameAndType 38 39), (0, u "valueOf"), (0, u "(C)Ljava/lang/String;"), (0, .integer 2147483647), (0, .methodref 42 43), (0, .class_ 44), (0, .nameAndType 45 46), (0, u "itemwright/expression/TokenIsPinLaw"), (0, u "kindOf"), (0, u "(I)Litemwright/expression/Lexer$Kind;"), (0, .long 3), (1, .long 255), (1, .methodref 42 52), (0, .nameAndType 53 54), (0, u "str"), (0, u "(ICC)Ljava/lang/String;"), (0, .class_ 56), (0, u "itemwright/expression/Lexer$Token"), (0, .methodref 55 58), (0, .nameAndType 5 59), (0, u "(Litemwright/expression/Lexer$Kind;Ljava/lang/String;I)V"), (0, .methodref 55 61), (0, .nameAndType 62 63), (0, u "is"), (0, u "(Ljava/lang/String;)Z"), (3, u "law"), (0, u "(IJJI)Z")] 7

def k1m0 : Method := { name := "<init>", desc := "()V", sig := { parameters := [], returnType := none }, accessFlags := 1, code := none }
def k1c1 : Code := { maxStack := 2, maxLocals := 1, code := method_2_code, exceptionTable := #[], attributes := #[] }
def k1m1 : Method := { name := "kindOf", desc := "(I)Litemwright/expression/Lexer$Kind;", sig := { parameters := [.int], returnType := some (.object "itemwright/expression/Lexer$Kind") }, accessFlags := 10, code := some k1c1 }
def k1c2 : Code := { maxStack := 6, maxLocals := 3, code := method_3_code, exceptionTable := #[], attributes := #[] }
def k1m2 : Method := { name := "str", desc := "(ICC)Ljava/lang/String;", sig := { parameters := [.int, .char, .char], returnType := some (.object "java/lang/String") }, accessFlags := 10, code := some k1c2 }
def k1c3 : Code := { maxStack := 5, maxLocals := 20, code := code, exceptionTable := #[], attributes := #[] }
def k1m3 : Method := { name := "law", desc := "(IJJI)Z", sig := { parameters := [.int, .long, .long, .int], returnType := some .boolean }, accessFlags := 9, code := some k1c3 }
/-- itemwright/expression/TokenIsPinLaw -/
def k1 : Class := { plain "itemwright/expression/TokenIsPinLaw" (some 0) with
  accessFlags := 49
  interfaces := #[]
  cf := some (fileOf pool1 42 #[] #[{ accessFlags := 1, nameIndex := 5, descriptorIndex := 6, attributes := #[] }, { accessFlags := 10, nameIndex := 45, descriptorIndex := 46, attributes := #[] }, { accessFlags := 10, nameIndex := 53, descriptorIndex := 54, attributes := #[] }, { accessFlags := 9, nameIndex := 67, descriptorIndex := 68, attributes := #[] }] 49 2 #[] #[])
  fields := #[]
  methods := #[k1m0, k1m1, k1m2, k1m3]
  instanceTypes := #[]
  staticTypes := #[]
  resolved := Array.replicate 76 none
  statics := none }

def pool2 : Array CpInfo := pool [(1, .class_ 2), (0, u "java/lang/constant/Constable"), (0, .class_ 4), (0, u "java/lang/Object")] 6

/-- java/lang/constant/Constable -/
def k2 : Class := { plain "java/lang/constant/Constable" (some 0) with
  accessFlags := 1537
  interfaces := #[]
  cf := some (fileOf pool2 1 #[] #[] 1537 3 #[] #[])
  fields := #[]
  methods := #[]
  instanceTypes := #[]
  staticTypes := #[]
  resolved := Array.replicate 11 none
  statics := none }

def pool3 : Array CpInfo := pool [(1, .class_ 2), (0, u "java/lang/Comparable"), (0, .class_ 4), (0, u "java/lang/Object")] 7

/-- java/lang/Comparable -/
def k3 : Class := { plain "java/lang/Comparable" (some 0) with
  accessFlags := 1537
  interfaces := #[]
  cf := some (fileOf pool3 1 #[] #[] 1537 3 #[] #[])
  fields := #[]
  methods := #[]
  instanceTypes := #[]
  staticTypes := #[]
  resolved := Array.replicate 12 none
  statics := none }

def pool4 : Array CpInfo := pool [(1, .class_ 2), (0, u "java/io/Serializable"), (0, .class_ 4), (0, u "java/lang/Object")] 2

/-- java/io/Serializable -/
def k4 : Class := { plain "java/io/Serializable" (some 0) with
  accessFlags := 1537
  interfaces := #[]
  cf := some (fileOf pool4 1 #[] #[] 1537 3 #[] #[])
  fields := #[]
  methods := #[]
  instanceTypes := #[]
  staticTypes := #[]
  resolved := Array.replicate 7 none
  statics := none }

def pool5 : Array CpInfo := pool [(2, .class_ 4), (1, u "java/lang/Enum"), (0, u "name"), (0, u "Ljava/lang/String;"), (2, u "ordinal"), (0, u "I"), (1, .class_ 14), (1, u "java/lang/Object"), (4, u "hash"), (86, .class_ 108), (1, u "java/lang/Enum$EnumDesc"), (2, .class_ 112), (0, u "java/lang/constant/Constable"), (0, .class_ 114), (0, u "java/lang/Comparable"), (0, .class_ 116), (0, u "java/io/Serializable")] 87

/-- java/lang/Enum -/
def k5 : Class := { plain "java/lang/Enum" (some 0) with
  accessFlags := 1057
  interfaces := #[2, 3, 4]
  cf := some (fileOf pool5 2 #[.nestMembers #[106]] #[] 1057 12 #[111, 113, 115] #[{ accessFlags := 18, nameIndex := 5, descriptorIndex := 6, attributes := #[] }, { accessFlags := 18, nameIndex := 9, descriptorIndex := 10, attributes := #[] }, { accessFlags := 2, nameIndex := 19, descriptorIndex := 10, attributes := #[] }])
  fields := #[{ name := "name", type := (.object "java/lang/String"), accessFlags := 18, slot := 0, constantValue := 0 }, { name := "ordinal", type := .int, accessFlags := 18, slot := 1, constantValue := 0 }, { name := "hash", type := .int, accessFlags := 2, slot := 2, constantValue := 0 }]
  methods := #[]
  instanceTypes := #[(.object "java/lang/String"), .int, .int]
  staticTypes := #[]
  resolved := Array.replicate 204 none
  statics := none }

def pool6 : Array CpInfo := pool [(1, .class_ 2), (0, u "itemwright/expression/Lexer$Kind"), (2, u "NAME"), (0, u "Litemwright/expression/Lexer$Kind;"), (2, u "NAME_PLACEHOLDER"), (2, u "VALUE_PLACEHOLDER"), (2, u "INTEGER"), (2, u "COMPARATOR"), (2, u "PUNCTUATION"), (2, u "END"), (2, u "$VALUES"), (0, u "[Litemwright/expression/Lexer$Kind;"), (6, .class_ 37), (1, u "java/lang/Enum"), (30, .class_ 69), (0, u "itemwright/expression/Lexer")] 2

/-- itemwright/expression/Lexer$Kind -/
def k6 : Class := { plain "itemwright/expression/Lexer$Kind" (some 5) with
  accessFlags := 16432
  interfaces := #[]
  cf := some (fileOf pool6 1 #[.nestHost 68] #[] 16432 35 #[] #[{ accessFlags := 16409, nameIndex := 5, descriptorIndex := 6, attributes := #[] }, { accessFlags := 16409, nameIndex := 9, descriptorIndex := 6, attributes := #[] }, { accessFlags := 16409, nameIndex := 12, descriptorIndex := 6, attributes := #[] }, { accessFlags := 16409, nameIndex := 15, descriptorIndex := 6, attributes := #[] }, { accessFlags := 16409, nameIndex := 18, descriptorIndex := 6, attributes := #[] }, { accessFlags := 16409, nameIndex := 21, descriptorIndex := 6, attributes := #[] }, { accessFlags := 16409, nameIndex := 24, descriptorIndex := 6, attributes := #[] }, { accessFlags := 4122, nameIndex := 27, descriptorIndex := 28, attributes := #[] }])
  fields := #[{ name := "NAME", type := (.object "itemwright/expression/Lexer$Kind"), accessFlags := 16409, slot := 0, constantValue := 0 }, { name := "NAME_PLACEHOLDER", type := (.object "itemwright/expression/Lexer$Kind"), accessFlags := 16409, slot := 1, constantValue := 0 }, { name := "VALUE_PLACEHOLDER", type := (.object "itemwright/expression/Lexer$Kind"), accessFlags := 16409, slot := 2, constantValue := 0 }, { name := "INTEGER", type := (.object "itemwright/expression/Lexer$Kind"), accessFlags := 16409, slot := 3, constantValue := 0 }, { name := "COMPARATOR", type := (.object "itemwright/expression/Lexer$Kind"), accessFlags := 16409, slot := 4, constantValue := 0 }, { name := "PUNCTUATION", type := (.object "itemwright/expression/Lexer$Kind"), accessFlags := 16409, slot := 5, constantValue := 0 }, { name := "END", type := (.object "itemwright/expression/Lexer$Kind"), accessFlags := 16409, slot := 6, constantValue := 0 }, { name := "$VALUES", type := (.array (.object "itemwright/expression/Lexer$Kind")), accessFlags := 4122, slot := 7, constantValue := 0 }]
  methods := #[]
  instanceTypes := #[(.object "java/lang/String"), .int, .int]
  staticTypes := #[(.object "itemwright/expression/Lexer$Kind"), (.object "itemwright/expression/Lexer$Kind"), (.object "itemwright/expression/Lexer$Kind"), (.object "itemwright/expression/Lexer$Kind"), (.object "itemwright/expression/Lexer$Kind"), (.object "itemwright/expression/Lexer$Kind"), (.object "itemwright/expression/Lexer$Kind"), (.array (.object "itemwright/expression/Lexer$Kind"))]
  resolved := Array.replicate 72 none
  statics := some 0 }

def pool7 : Array CpInfo := pool [(2, .class_ 4), (1, u "java/lang/CharSequence"), (42, .class_ 48), (0, u "java/lang/CharSequence$1CodePointIterator"), (10, .class_ 60), (0, u "java/lang/CharSequence$1CharIterator"), (5, .class_ 67), (0, u "java/lang/Object")] 63

/-- java/lang/CharSequence -/
def k7 : Class := { plain "java/lang/CharSequence" (some 0) with
  accessFlags := 1537
  interfaces := #[]
  cf := some (fileOf pool7 2 #[.nestMembers #[47, 59]] #[] 1537 66 #[] #[])
  fields := #[]
  methods := #[]
  instanceTypes := #[]
  staticTypes := #[]
  resolved := Array.replicate 131 none
  statics := none }

def pool8 : Array CpInfo := pool [(1, .class_ 2), (0, u "java/lang/constant/ConstantDesc"), (0, .class_ 4), (0, u "java/lang/Object")] 32

/-- java/lang/constant/ConstantDesc -/
def k8 : Class := { plain "java/lang/constant/ConstantDesc" (some 0) with
  accessFlags := 1537
  interfaces := #[]
  cf := some (fileOf pool8 1 #[] #[] 1537 3 #[] #[])
  fields := #[]
  methods := #[]
  instanceTypes := #[]
  staticTypes := #[]
  resolved := Array.replicate 37 none
  statics := none }

def pool9 : Array CpInfo := pool [(1, .methodref 2 3), (0, .class_ 4), (0, .nameAndType 5 6), (0, u "java/lang/Object"), (0, u "<init>"), (0, u "()V"), (0, .string 8), (0, u ""), (0, .fieldref 10 11), (0, .class_ 12), (0, .nameAndType 13 14), (0, u "java/lang/String"), (0, u "value"), (0, u "[B"), (0, .fieldref 10 16), (0, .nameAndType 17 18), (0, u "coder"), (0, u "B"), (2, u "hash"), (0, u "I"), (2, u "hashIsZero"), (0, u "Z"), (0, .methodref 10 28), (0, .nameAndType 5 29), (0, u "([CIILjava/lang/Void;)V"), (8, .fieldref 10 39), (0, .nameAndType 40 26), (0, u "COMPACT_STRINGS"), (1, .class_ 44), (1, u "java/lang/StringUTF16"), (0, u "compress"), (1, .methodref 42 48), (0, .nameAndType 49 50), (0, u "coderFromArrayLen"), (0, u "([BI)B"), (2, u "toBytes"), (53, .class_ 109), (1, u "java/lang/StringLatin1"), (67, .methodref 42 178), (0, .nameAndType 45 179), (0, u "([CII)[B"), (29, .methodref 10 210), (0, .nameAndType 5 211), (0, u "([BB)V"), (157, u "(C)Z"), (171, .methodref 107 542), (0, .nameAndType 543 544), (0, u "equals"), (0, u "([B[B)Z"), (28, u "(Ljava/lang/Object;)Z"), (1, .class_ 576), (0, u "java/lang/CharSequence"), (22, u "CASE_INSENSITIVE_ORDER"), (0, u "Ljava/util/Comparator;"), (181, u "valueOf"), (0, u "(C)Ljava/lang/String;"), (226, u "([C)V"), (4, .methodref 107 1016), (0, .nameAndType 1017 369), (0, u "canEncode"), (0, .methodref 107 1019), (0, .nameAndType 53 1020), (0, u "(C)[B"), (80, u "serialPersistentFields"), (0, u "[Ljava/io/ObjectStreamField;"), (0, .class_ 1104), (0, u "java/lang/String$CaseInsensitiveComparator"), (1, .class_ 1107), (0, u "java/io/Serializable"), (0, .class_ 1109), (0, u "java/lang/Comparable"), (0, .class_ 1111), (0, u "java/lang/constant/Constable"), (0, .class_ 1113), (0, u "java/lang/constant/ConstantDesc"), (2, u "serialVersionUID"), (0, u "J"), (3, u "REPL"), (0, u "C"), (2, u "LATIN1"), (1, u "UTF16")] 323

def k9m0 : Method := { name := "<init>", desc := "()V", sig := { parameters := [], returnType := none }, accessFlags := 1, code := none }
def k9c1 : Code := { maxStack := 5, maxLocals := 2, code := jdk_42_method_3_code, exceptionTable := #[], attributes := #[] }
def k9m1 : Method := { name := "<init>", desc := "([C)V", sig := { parameters := [(.array .char)], returnType := none }, accessFlags := 1, code := some k9c1 }
def k9c2 : Code := { maxStack := 2, maxLocals := 3, code := jdk_42_method_66_code, exceptionTable := #[], attributes := #[] }
def k9m2 : Method := { name := "equals", desc := "(Ljava/lang/Object;)Z", sig := { parameters := [(.object "java/lang/Object")], returnType := some .boolean }, accessFlags := 1, code := some k9c2 }
def k9c3 : Code := { maxStack := 4, maxLocals := 1, code := jdk_42_method_139_code, exceptionTable := #[], attributes := #[] }
def k9m3 : Method := { name := "valueOf", desc := "(C)Ljava/lang/String;", sig := { parameters := [.char], returnType := some (.object "java/lang/String") }, accessFlags := 9, code := some k9c3 }
def k9c4 : Code := { maxStack := 4, maxLocals := 6, code := jdk_42_method_149_code, exceptionTable := #[], attributes := #[] }
def k9m4 : Method := { name := "<init>", desc := "([CIILjava/lang/Void;)V", sig := { parameters := [(.array .char), .int, .int, (.object "java/lang/Void")], returnType := none }, accessFlags := 2, code := some k9c4 }
def k9c5 : Code := { maxStack := 2, maxLocals := 3, code := jdk_42_method_151_code, exceptionTable := #[], attributes := #[] }
def k9m5 : Method := { name := "<init>", desc := "([BB)V", sig := { parameters := [(.array .byte), .byte], returnType := none }, accessFlags := 0, code := some k9c5 }
/-- java/lang/String -/
def k9 : Class := { plain "java/lang/String" (some 0) with
  accessFlags := 49
  interfaces := #[4, 3, 7, 2, 8]
  cf := some (fileOf pool9 10 #[.nestMembers #[1103]] #[{ accessFlags := 1, nameIndex := 5, descriptorIndex := 6, attributes := #[] }, { accessFlags := 1, nameIndex := 5, descriptorIndex := 1010, attributes := #[] }, { accessFlags := 1, nameIndex := 543, descriptorIndex := 573, attributes := #[] }, { accessFlags := 9, nameIndex := 782, descriptorIndex := 783, attributes := #[] }, { accessFlags := 2, nameIndex := 5, descriptorIndex := 29, attributes := #[] }, { accessFlags := 0, nameIndex := 5, descriptorIndex := 211, attributes := #[] }] 49 2 #[1106, 1108, 575, 1110, 1112] #[{ accessFlags := 18, nameIndex := 13, descriptorIndex := 14, attributes := #[] }, { accessFlags := 18, nameIndex := 17, descriptorIndex := 18, attributes := #[] }, { accessFlags := 2, nameIndex := 21, descriptorIndex := 22, attributes := #[] }, { accessFlags := 2, nameIndex := 25, descriptorIndex := 26, attributes := #[] }, { accessFlags := 26, nameIndex := 1116, descriptorIndex := 1117, attributes := #[] }, { accessFlags := 24, nameIndex := 40, descriptorIndex := 26, attributes := #[] }, { accessFlags := 26, nameIndex := 1101, descriptorIndex := 1102, attributes := #[] }, { accessFlags := 26, nameIndex := 1121, descriptorIndex := 1122, attributes := #[] }, { accessFlags := 25, nameIndex := 599, descriptorIndex := 600, attributes := #[] }, { accessFlags := 24, nameIndex := 1125, descriptorIndex := 18, attributes := #[] }, { accessFlags := 24, nameIndex := 1127, descriptorIndex := 18, attributes := #[] }])
  fields := #[{ name := "value", type := (.array .byte), accessFlags := 18, slot := 0, constantValue := 0 }, { name := "coder", type := .byte, accessFlags := 18, slot := 1, constantValue := 0 }, { name := "hash", type := .int, accessFlags := 2, slot := 2, constantValue := 0 }, { name := "hashIsZero", type := .boolean, accessFlags := 2, slot := 3, constantValue := 0 }, { name := "serialVersionUID", type := .long, accessFlags := 26, slot := 0, constantValue := 0 }, { name := "COMPACT_STRINGS", type := .boolean, accessFlags := 24, slot := 1, constantValue := 0 }, { name := "serialPersistentFields", type := (.array (.object "java/io/ObjectStreamField")), accessFlags := 26, slot := 2, constantValue := 0 }, { name := "REPL", type := .char, accessFlags := 26, slot := 3, constantValue := 0 }, { name := "CASE_INSENSITIVE_ORDER", type := (.object "java/util/Comparator"), accessFlags := 25, slot := 4, constantValue := 0 }, { name := "LATIN1", type := .byte, accessFlags := 24, slot := 5, constantValue := 0 }, { name := "UTF16", type := .byte, accessFlags := 24, slot := 6, constantValue := 0 }]
  methods := #[k9m0, k9m1, k9m2, k9m3, k9m4, k9m5]
  instanceTypes := #[(.array .byte), .byte, .int, .boolean]
  staticTypes := #[.long, .boolean, (.array (.object "java/io/ObjectStreamField")), .char, (.object "java/util/Comparator"), .byte, .byte]
  resolved := Array.replicate 1451 none
  statics := some 1 }

def pool10 : Array CpInfo := pool [(6, .class_ 8), (1, u "java/lang/Object"), (0, u "<init>"), (0, u "()V"), (1, .class_ 14), (1, u "java/lang/StringUTF16"), (31, u "$assertionsDisabled"), (0, u "Z"), (13, u "HI_BYTE_SHIFT"), (0, u "I"), (2, u "LO_BYTE_SHIFT"), (49, .methodref 12 116), (0, .nameAndType 117 118), (0, u "compress"), (0, u "([CI[BII)I"), (3, u "([CII)[B"), (138, u "coderFromArrayLen"), (0, u "([BI)B"), (106, .class_ 371), (1, u "java/lang/StringUTF16$LinesSpliterator"), (58, u "MAX_LENGTH"), (196, .class_ 628), (0, u "java/lang/StringUTF16$CodePointsSpliterator"), (0, .class_ 630), (0, u "java/lang/StringUTF16$CharsSpliterator")] 4

def k10m0 : Method := { name := "<init>", desc := "()V", sig := { parameters := [], returnType := none }, accessFlags := 0, code := none }
def k10c1 : Code := { maxStack := 2, maxLocals := 2, code := jdk_52_method_15_code, exceptionTable := #[], attributes := #[] }
def k10m1 : Method := { name := "coderFromArrayLen", desc := "([BI)B", sig := { parameters := [(.array .byte), .int], returnType := some .byte }, accessFlags := 8, code := some k10c1 }
def k10c2 : Code := { maxStack := 5, maxLocals := 6, code := jdk_52_method_16_code, exceptionTable := #[], attributes := #[] }
def k10m2 : Method := { name := "compress", desc := "([CII)[B", sig := { parameters := [(.array .char), .int, .int], returnType := some (.array .byte) }, accessFlags := 9, code := some k10c2 }
def k10c3 : Code := { maxStack := 3, maxLocals := 7, code := jdk_52_method_21_code, exceptionTable := #[], attributes := #[] }
def k10m3 : Method := { name := "compress", desc := "([CI[BII)I", sig := { parameters := [(.array .char), .int, (.array .byte), .int, .int], returnType := some .int }, accessFlags := 9, code := some k10c3 }
/-- java/lang/StringUTF16 -/
def k10 : Class := { plain "java/lang/StringUTF16" (some 0) with
  accessFlags := 48
  interfaces := #[]
  cf := some (fileOf pool10 12 #[.nestMembers #[627, 629, 369]] #[{ accessFlags := 0, nameIndex := 9, descriptorIndex := 10, attributes := #[] }, { accessFlags := 8, nameIndex := 261, descriptorIndex := 262, attributes := #[] }, { accessFlags := 9, nameIndex := 117, descriptorIndex := 122, attributes := #[] }, { accessFlags := 9, nameIndex := 117, descriptorIndex := 118, attributes := #[] }] 48 6 #[] #[{ accessFlags := 26, nameIndex := 61, descriptorIndex := 62, attributes := #[] }, { accessFlags := 26, nameIndex := 65, descriptorIndex := 62, attributes := #[] }, { accessFlags := 24, nameIndex := 430, descriptorIndex := 62, attributes := #[] }, { accessFlags := 4120, nameIndex := 46, descriptorIndex := 47, attributes := #[] }])
  fields := #[{ name := "HI_BYTE_SHIFT", type := .int, accessFlags := 26, slot := 0, constantValue := 0 }, { name := "LO_BYTE_SHIFT", type := .int, accessFlags := 26, slot := 1, constantValue := 0 }, { name := "MAX_LENGTH", type := .int, accessFlags := 24, slot := 2, constantValue := 0 }, { name := "$assertionsDisabled", type := .boolean, accessFlags := 4120, slot := 3, constantValue := 0 }]
  methods := #[k10m0, k10m1, k10m2, k10m3]
  instanceTypes := #[]
  staticTypes := #[.int, .int, .int, .boolean]
  resolved := Array.replicate 635 none
  statics := none }

def pool11 : Array CpInfo := pool [(1, .methodref 2 3), (0, .class_ 4), (0, .nameAndType 5 6), (0, u "java/lang/Object"), (0, u "<init>"), (0, u "()V"), (0, .class_ 8), (0, u "java/lang/Record")] 13

def k11c0 : Code := { maxStack := 1, maxLocals := 1, code := jdk_30_method_1_code, exceptionTable := #[], attributes := #[] }
def k11m0 : Method := { name := "<init>", desc := "()V", sig := { parameters := [], returnType := none }, accessFlags := 4, code := some k11c0 }
/-- java/lang/Record -/
def k11 : Class := { plain "java/lang/Record" (some 0) with
  accessFlags := 1057
  interfaces := #[]
  cf := some (fileOf pool11 7 #[] #[{ accessFlags := 4, nameIndex := 5, descriptorIndex := 6, attributes := #[] }] 1057 2 #[] #[])
  fields := #[]
  methods := #[k11m0]
  instanceTypes := #[]
  staticTypes := #[]
  resolved := Array.replicate 22 none
  statics := none }

def pool12 : Array CpInfo := pool [(1, .methodref 2 3), (0, .class_ 4), (0, .nameAndType 5 6), (0, u "java/lang/Record"), (0, u "<init>"), (0, u "()V"), (0, .fieldref 8 9), (0, .class_ 10), (0, .nameAndType 11 12), (0, u "itemwright/expression/Lexer$Token"), (0, u "kind"), (0, u "Litemwright/expression/Lexer$Kind;"), (0, .fieldref 8 14), (0, .nameAndType 15 16), (0, u "text"), (0, u "Ljava/lang/String;"), (0, .fieldref 8 18), (0, .nameAndType 19 20), (0, u "position"), (0, u "I"), (0, .fieldref 22 23), (0, .class_ 24), (0, .nameAndType 25 12), (0, u "itemwright/expression/Lexer$Kind"), (0, u "PUNCTUATION"), (0, .fieldref 22 27), (0, .nameAndType 28 12), (0, u "COMPARATOR"), (0, .methodref 30 31), (0, .class_ 32), (0, .nameAndType 33 34), (0, u "java/lang/String"), (0, u "equals"), (0, u "(Ljava/lang/Object;)Z"), (6, u "(Ljava/lang/String;)Z"), (20, u "(Litemwright/expression/Lexer$Kind;Ljava/lang/String;I)V"), (3, u "is"), (9, .class_ 77), (0, u "itemwright/expression/Lexer")] 30

def k12c0 : Code := { maxStack := 2, maxLocals := 4, code := prog_18_method_1_code, exceptionTable := #[], attributes := #[] }
def k12m0 : Method := { name := "<init>", desc := "(Litemwright/expression/Lexer$Kind;Ljava/lang/String;I)V", sig := { parameters := [(.object "itemwright/expression/Lexer$Kind"), (.object "java/lang/String"), .int], returnType := none }, accessFlags := 0, code := some k12c0 }
def k12c1 : Code := { maxStack := 2, maxLocals := 2, code := prog_18_method_2_code, exceptionTable := #[], attributes := #[] }
def k12m1 : Method := { name := "is", desc := "(Ljava/lang/String;)Z", sig := { parameters := [(.object "java/lang/String")], returnType := some .boolean }, accessFlags := 0, code := some k12c1 }
/-- itemwright/expression/Lexer$Token -/
def k12 : Class := { plain "itemwright/expression/Lexer$Token" (some 11) with
  accessFlags := 48
  interfaces := #[]
  cf := some (fileOf pool12 8 #[.nestHost 76] #[{ accessFlags := 0, nameIndex := 5, descriptorIndex := 62, attributes := #[] }, { accessFlags := 0, nameIndex := 66, descriptorIndex := 41, attributes := #[] }] 48 2 #[] #[{ accessFlags := 18, nameIndex := 11, descriptorIndex := 12, attributes := #[] }, { accessFlags := 18, nameIndex := 15, descriptorIndex := 16, attributes := #[] }, { accessFlags := 18, nameIndex := 19, descriptorIndex := 20, attributes := #[] }])
  fields := #[{ name := "kind", type := (.object "itemwright/expression/Lexer$Kind"), accessFlags := 18, slot := 0, constantValue := 0 }, { name := "text", type := (.object "java/lang/String"), accessFlags := 18, slot := 1, constantValue := 0 }, { name := "position", type := .int, accessFlags := 18, slot := 2, constantValue := 0 }]
  methods := #[k12m0, k12m1]
  instanceTypes := #[(.object "itemwright/expression/Lexer$Kind"), (.object "java/lang/String"), .int]
  staticTypes := #[]
  resolved := Array.replicate 108 none
  statics := none }

def pool13 : Array CpInfo := pool [(4, .class_ 6), (1, u "java/lang/Object"), (0, u "<init>"), (0, u "()V"), (5, .class_ 16), (1, u "java/lang/StringLatin1"), (73, u "canEncode"), (14, u "(C)Z"), (15, u "$assertionsDisabled"), (0, u "Z"), (98, .class_ 223), (1, u "java/lang/StringLatin1$LinesSpliterator"), (57, u "equals"), (0, u "([B[B)Z"), (97, u "toBytes"), (1, u "(C)[B"), (7, .class_ 391), (0, u "java/lang/StringLatin1$CharsSpliterator")] 3

def k13m0 : Method := { name := "<init>", desc := "()V", sig := { parameters := [], returnType := none }, accessFlags := 0, code := none }
def k13c1 : Code := { maxStack := 2, maxLocals := 1, code := jdk_43_method_3_code, exceptionTable := #[], attributes := #[] }
def k13m1 : Method := { name := "canEncode", desc := "(C)Z", sig := { parameters := [.char], returnType := some .boolean }, accessFlags := 9, code := some k13c1 }
def k13c2 : Code := { maxStack := 3, maxLocals := 3, code := jdk_43_method_13_code, exceptionTable := #[], attributes := #[] }
def k13m2 : Method := { name := "equals", desc := "([B[B)Z", sig := { parameters := [(.array .byte), (.array .byte)], returnType := some .boolean }, accessFlags := 9, code := some k13c2 }
def k13c3 : Code := { maxStack := 4, maxLocals := 1, code := jdk_43_method_46_code, exceptionTable := #[], attributes := #[] }
def k13m3 : Method := { name := "toBytes", desc := "(C)[B", sig := { parameters := [.char], returnType := some (.array .byte) }, accessFlags := 9, code := some k13c3 }
/-- java/lang/StringLatin1 -/
def k13 : Class := { plain "java/lang/StringLatin1" (some 0) with
  accessFlags := 48
  interfaces := #[]
  cf := some (fileOf pool13 14 #[.nestMembers #[390, 221]] #[{ accessFlags := 0, nameIndex := 7, descriptorIndex := 8, attributes := #[] }, { accessFlags := 9, nameIndex := 90, descriptorIndex := 105, attributes := #[] }, { accessFlags := 9, nameIndex := 281, descriptorIndex := 282, attributes := #[] }, { accessFlags := 9, nameIndex := 380, descriptorIndex := 382, attributes := #[] }] 48 4 #[] #[{ accessFlags := 4120, nameIndex := 121, descriptorIndex := 122, attributes := #[] }])
  fields := #[{ name := "$assertionsDisabled", type := .boolean, accessFlags := 4120, slot := 0, constantValue := 0 }]
  methods := #[k13m0, k13m1, k13m2, k13m3]
  instanceTypes := #[]
  staticTypes := #[.boolean]
  resolved := Array.replicate 395 none
  statics := none }

def pool14 : Array CpInfo := pool [(2, .class_ 4), (1, u "java/lang/Object"), (0, u "<init>"), (0, u "()V"), (17, .class_ 26), (1, u "jdk/internal/util/Preconditions"), (28, .class_ 56), (0, u "jdk/internal/util/Preconditions$4"), (57, .class_ 115), (0, u "jdk/internal/util/Preconditions$1"), (7, u "SIOOBE_FORMATTER"), (0, u "Ljava/util/function/BiFunction;"), (0, .class_ 126), (0, u "jdk/internal/util/Preconditions$2"), (3, u "AIOOBE_FORMATTER"), (0, .class_ 132), (0, u "jdk/internal/util/Preconditions$3"), (3, u "IOOBE_FORMATTER")] 57

def k14m0 : Method := { name := "<init>", desc := "()V", sig := { parameters := [], returnType := none }, accessFlags := 1, code := none }
/-- jdk/internal/util/Preconditions -/
def k14 : Class := { plain "jdk/internal/util/Preconditions" (some 0) with
  accessFlags := 33
  interfaces := #[]
  cf := some (fileOf pool14 24 #[.nestMembers #[55, 131, 125, 114]] #[{ accessFlags := 1, nameIndex := 5, descriptorIndex := 6, attributes := #[] }] 33 2 #[] #[{ accessFlags := 25, nameIndex := 123, descriptorIndex := 124, attributes := #[] }, { accessFlags := 25, nameIndex := 130, descriptorIndex := 124, attributes := #[] }, { accessFlags := 25, nameIndex := 136, descriptorIndex := 124, attributes := #[] }])
  fields := #[{ name := "SIOOBE_FORMATTER", type := (.object "java/util/function/BiFunction"), accessFlags := 25, slot := 0, constantValue := 0 }, { name := "AIOOBE_FORMATTER", type := (.object "java/util/function/BiFunction"), accessFlags := 25, slot := 1, constantValue := 0 }, { name := "IOOBE_FORMATTER", type := (.object "java/util/function/BiFunction"), accessFlags := 25, slot := 2, constantValue := 0 }]
  methods := #[k14m0]
  instanceTypes := #[]
  staticTypes := #[(.object "java/util/function/BiFunction"), (.object "java/util/function/BiFunction"), (.object "java/util/function/BiFunction")]
  resolved := Array.replicate 194 none
  statics := some 2 }

def pool15 : Array CpInfo := pool [(9, u "<init>"), (6, .class_ 18), (1, u "java/lang/Object"), (0, u "()V"), (1, .class_ 23), (1, u "jdk/internal/util/ArraysSupport"), (0, u "LOG2_ARRAY_LONG_INDEX_SCALE"), (0, u "I"), (2, u "U"), (0, u "Ljdk/internal/misc/Unsafe;"), (8, u "BIG_ENDIAN"), (0, u "Z"), (8, u "LOG2_BYTE_BIT_SIZE"), (4, u "LOG2_ARRAY_INT_INDEX_SCALE"), (54, u "JLA"), (0, u "Ljdk/internal/access/JavaLangAccess;"), (11, u "LOG2_ARRAY_BOOLEAN_INDEX_SCALE"), (9, u "LOG2_ARRAY_BYTE_INDEX_SCALE"), (5, u "LOG2_ARRAY_CHAR_INDEX_SCALE"), (5, u "LOG2_ARRAY_SHORT_INDEX_SCALE"), (18, u "LOG2_ARRAY_FLOAT_INDEX_SCALE"), (24, u "LOG2_ARRAY_DOUBLE_INDEX_SCALE"), (89, u "T_BOOLEAN"), (2, u "T_CHAR"), (1, u "T_FLOAT"), (1, u "T_DOUBLE"), (1, u "T_BYTE"), (1, u "T_SHORT"), (1, u "T_INT"), (1, u "T_LONG"), (1, u "SOFT_MAX_ARRAY_LENGTH")] 83

def k15m0 : Method := { name := "<init>", desc := "()V", sig := { parameters := [], returnType := none }, accessFlags := 2, code := none }
/-- jdk/internal/util/ArraysSupport -/
def k15 : Class := { plain "jdk/internal/util/ArraysSupport" (some 0) with
  accessFlags := 33
  interfaces := #[]
  cf := some (fileOf pool15 21 #[] #[{ accessFlags := 2, nameIndex := 9, descriptorIndex := 19, attributes := #[] }] 33 16 #[] #[{ accessFlags := 24, nameIndex := 28, descriptorIndex := 29, attributes := #[] }, { accessFlags := 26, nameIndex := 38, descriptorIndex := 39, attributes := #[] }, { accessFlags := 25, nameIndex := 121, descriptorIndex := 25, attributes := #[] }, { accessFlags := 25, nameIndex := 131, descriptorIndex := 25, attributes := #[] }, { accessFlags := 25, nameIndex := 137, descriptorIndex := 25, attributes := #[] }, { accessFlags := 25, nameIndex := 143, descriptorIndex := 25, attributes := #[] }, { accessFlags := 25, nameIndex := 53, descriptorIndex := 25, attributes := #[] }, { accessFlags := 25, nameIndex := 24, descriptorIndex := 25, attributes := #[] }, { accessFlags := 25, nameIndex := 162, descriptorIndex := 25, attributes := #[] }, { accessFlags := 25, nameIndex := 187, descriptorIndex := 25, attributes := #[] }, { accessFlags := 26, nameIndex := 48, descriptorIndex := 25, attributes := #[] }, { accessFlags := 25, nameIndex := 277, descriptorIndex := 25, attributes := #[] }, { accessFlags := 25, nameIndex := 280, descriptorIndex := 25, attributes := #[] }, { accessFlags := 25, nameIndex := 282, descriptorIndex := 25, attributes := #[] }, { accessFlags := 25, nameIndex := 284, descriptorIndex := 25, attributes := #[] }, { accessFlags := 25, nameIndex := 286, descriptorIndex := 25, attributes := #[] }, { accessFlags := 25, nameIndex := 288, descriptorIndex := 25, attributes := #[] }, { accessFlags := 25, nameIndex := 290, descriptorIndex := 25, attributes := #[] }, { accessFlags := 25, nameIndex := 292, descriptorIndex := 25, attributes := #[] }, { accessFlags := 26, nameIndex := 108, descriptorIndex := 109, attributes := #[] }, { accessFlags := 25, nameIndex := 294, descriptorIndex := 25, attributes := #[] }])
  fields := #[{ name := "U", type := (.object "jdk/internal/misc/Unsafe"), accessFlags := 24, slot := 0, constantValue := 0 }, { name := "BIG_ENDIAN", type := .boolean, accessFlags := 26, slot := 1, constantValue := 0 }, { name := "LOG2_ARRAY_BOOLEAN_INDEX_SCALE", type := .int, accessFlags := 25, slot := 2, constantValue := 0 }, { name := "LOG2_ARRAY_BYTE_INDEX_SCALE", type := .int, accessFlags := 25, slot := 3, constantValue := 0 }, { name := "LOG2_ARRAY_CHAR_INDEX_SCALE", type := .int, accessFlags := 25, slot := 4, constantValue := 0 }, { name := "LOG2_ARRAY_SHORT_INDEX_SCALE", type := .int, accessFlags := 25, slot := 5, constantValue := 0 }, { name := "LOG2_ARRAY_INT_INDEX_SCALE", type := .int, accessFlags := 25, slot := 6, constantValue := 0 }, { name := "LOG2_ARRAY_LONG_INDEX_SCALE", type := .int, accessFlags := 25, slot := 7, constantValue := 0 }, { name := "LOG2_ARRAY_FLOAT_INDEX_SCALE", type := .int, accessFlags := 25, slot := 8, constantValue := 0 }, { name := "LOG2_ARRAY_DOUBLE_INDEX_SCALE", type := .int, accessFlags := 25, slot := 9, constantValue := 0 }, { name := "LOG2_BYTE_BIT_SIZE", type := .int, accessFlags := 26, slot := 10, constantValue := 0 }, { name := "T_BOOLEAN", type := .int, accessFlags := 25, slot := 11, constantValue := 0 }, { name := "T_CHAR", type := .int, accessFlags := 25, slot := 12, constantValue := 0 }, { name := "T_FLOAT", type := .int, accessFlags := 25, slot := 13, constantValue := 0 }, { name := "T_DOUBLE", type := .int, accessFlags := 25, slot := 14, constantValue := 0 }, { name := "T_BYTE", type := .int, accessFlags := 25, slot := 15, constantValue := 0 }, { name := "T_SHORT", type := .int, accessFlags := 25, slot := 16, constantValue := 0 }, { name := "T_INT", type := .int, accessFlags := 25, slot := 17, constantValue := 0 }, { name := "T_LONG", type := .int, accessFlags := 25, slot := 18, constantValue := 0 }, { name := "JLA", type := (.object "jdk/internal/access/JavaLangAccess"), accessFlags := 26, slot := 19, constantValue := 0 }, { name := "SOFT_MAX_ARRAY_LENGTH", type := .int, accessFlags := 25, slot := 20, constantValue := 0 }]
  methods := #[k15m0]
  instanceTypes := #[]
  staticTypes := #[(.object "jdk/internal/misc/Unsafe"), .boolean, .int, .int, .int, .int, .int, .int, .int, .int, .int, .int, .int, .int, .int, .int, .int, .int, .int, (.object "jdk/internal/access/JavaLangAccess"), .int]
  resolved := Array.replicate 378 none
  statics := none }

def pool16 : Array CpInfo := pool [(1, u "java/lang/Cloneable"), (0, .class_ 1), (0, u "java/lang/Object"), (0, .class_ 3)] 3

/-- java/lang/Cloneable -/
def k16 : Class := { plain "java/lang/Cloneable" (some 0) with
  accessFlags := 1537
  interfaces := #[]
  cf := some (fileOf pool16 2 #[] #[] 1537 4 #[] #[])
  fields := #[]
  methods := #[]
  instanceTypes := #[]
  staticTypes := #[]
  resolved := Array.replicate 8 none
  statics := none }

/-- the primitive byte -/
def k17 : Class := { plain "byte" none with kind := .primitive 'B', accessFlags := 0x411 }
/-- [B -/
def k18 : Class := { plain "[B" (some 0) with kind := .array 17 .byte, interfaces := #[16, 4], accessFlags := 1041 }

/-- the primitive char -/
def k19 : Class := { plain "char" none with kind := .primitive 'C', accessFlags := 0x411 }
/-- [C -/
def k20 : Class := { plain "[C" (some 0) with kind := .array 19 .char, interfaces := #[16, 4], accessFlags := 1041 }

/-- the primitive int -/
def k21 : Class := { plain "int" none with kind := .primitive 'I', accessFlags := 0x411 }
/-- [I -/
def k22 : Class := { plain "[I" (some 0) with kind := .array 21 .int, interfaces := #[16, 4], accessFlags := 1041 }

def heap : Heap := #[{ cls := 6, slots := #[.ref 3, .ref 4, .ref 5, .ref 6, .ref 7, .ref 8, .ref 9, .null], vm := .statics 6 },
  { cls := 9, slots := #[.long 0, .int 1, .null, .int 0, .null, .int 0, .int 0], vm := .statics 9 },
  { cls := 14, slots := #[.null, .null, .null], vm := .statics 14 },
  { cls := 6, slots := #[.null, .int 0, .int 0], vm := .none },
  { cls := 6, slots := #[.null, .int 1, .int 0], vm := .none },
  { cls := 6, slots := #[.null, .int 2, .int 0], vm := .none },
  { cls := 6, slots := #[.null, .int 3, .int 0], vm := .none },
  { cls := 6, slots := #[.null, .int 4, .int 0], vm := .none },
  { cls := 6, slots := #[.null, .int 5, .int 0], vm := .none },
  { cls := 6, slots := #[.null, .int 6, .int 0], vm := .none }]
def classes : Array Class := #[k0, k1, k2, k3, k4, k5, k6, k7, k8, k9, k10, k11, k12, k13, k14, k15, k16, k17, k18, k19, k20, k21, k22]
def interned : List (Array UInt16 × Addr) := []
def slotsUsed : Nat := 39
def theMethod : MethodId := ⟨1, 3⟩
def args0 : Array Value := #[.int 5, .long 7, .long 9, .int 2]
def aboutOver (below : List Frame) : State where
  vm := { classes := classes, interned := interned.toArray }
  heap := heap
  slotsUsed := slotsUsed
  threads := #[{ frames := .invoking theMethod args0 :: below }]
def below0 : List Frame := [.native { method := ⟨0, 0⟩, args := #[] }]
def about1 : State := aboutOver below0
def p0 : Program := .bare "" "" ""
def e0 : Env := launch0.env 0 0 0
theorem w_frames : about1.frames = Frame.invoking theMethod args0 :: below0 := rfl
set_option maxRecDepth 65536 in
theorem w_args : argsFit about1.vm theMethod args0 = true := by decide +kernel
set_option maxRecDepth 65536 in
theorem w_heap : heapFits about1 = true := by decide +kernel
set_option maxRecDepth 65536 in
theorem w_runnable : about1.curStatus? = some .runnable := by decide +kernel
set_option maxRecDepth 65536 in
theorem w_alone : about1.alone = true := by decide +kernel
set_option maxRecDepth 65536 in
theorem w_named : about1.methodNamed? x = some theMethod := by decide +kernel
set_option maxRecDepth 65536 in
theorem w_hears : about1.hears theMethod below0 = true := by decide +kernel
set_option maxRecDepth 65536 in
theorem w_ripe : about1.ripe theMethod args0 below0 = true := by decide +kernel
theorem w_running : about1.status = .running := rfl
set_option maxRecDepth 65536 in
theorem w_room : about1.hasRoom e0.platform room_1 = true :=
  launch0.hasRoom_least _ room_1 (by decide +kernel) (by decide +kernel) (by decide +kernel) (by decide +kernel) (by decide +kernel) (by decide +kernel)
theorem allAtoms_all (ts : List Jvm.Cond) (a : Array Jvm.Value) (st : Jvm.State) : (allAtoms ts).before a st = ts.all (fun c => c.before a st) := by
  induction ts with
  | nil => rfl
  | cons c t ih =>
    show (Jvm.Cond.and c (allAtoms t)).before a st = _
    rw [Jvm.Cond.before_and, ih, List.all_cons]
def words1 : List Jvm.Cond := Jvm.Cond.code x code maxLocals ret :: tables_1
/-- a 'code' word, met by the world's own term for the bytes: nothing is compared byte by byte -/
theorem code_word {y : MethodName} {bytes : ByteArray} {mx : Nat} {rt : Option FieldType} {a : Array Value} {s : State} {m : MethodId} {meth : Method} {c : Code} (h1 : s.methodNamed? y = some m) (h2 : s.vm.method? m = some meth) (h3 : meth.code = some c) (h4 : c.code = bytes)
    (h5 : (c.maxLocals == mx && c.exceptionTable.isEmpty && decide (c.maxStack ≤ mostOperands) && decide (meth.sig.returnType = rt) && !meth.locks && decide (parseMethodDescriptor y.desc = some meth.sig)) = true) : (Jvm.Cond.code y bytes mx rt).before a s = true := by
  simp only [Bool.and_eq_true, beq_iff_eq, Bool.not_eq_true', decide_eq_true_eq] at h5
  obtain ⟨⟨⟨⟨⟨g1, g2⟩, g3⟩, g4⟩, g5⟩, g6⟩ := h5
  simp [Cond.before, Cond.holds, Cond.value, h1, h2, h3, h4, g1, g2, g3, g4, g5, g6]
def isCode : Jvm.Cond → Bool
  | .code _ _ _ _ => true
  | _ => false
theorem all_split {L : List Jvm.Cond} {P : Jvm.Cond → Bool} (h1 : L.all (fun c => isCode c || P c) = true) (h2 : ∀ c ∈ L.filter isCode, P c = true) : L.all P = true := by
  refine List.all_eq_true.mpr fun c hc => ?_
  have h := List.all_eq_true.mp h1 c hc
  rcases Bool.eq_false_or_eq_true (isCode c) with hi | hi
  · exact h2 c (List.mem_filter.mpr ⟨hc, hi⟩)
  · simpa [hi] using h
set_option maxRecDepth 65536 in
theorem w_c0 : (Jvm.Cond.code x code maxLocals ret).before args0 about1 = true := code_word (m := ⟨1, 3⟩) (meth := k1m3) (c := k1c3) (by decide +kernel) rfl rfl rfl (by decide +kernel)
set_option maxRecDepth 65536 in
theorem w_c1 : (Jvm.Cond.code ({ cls := "itemwright/expression/TokenIsPinLaw", name := "kindOf", desc := "(I)Litemwright/expression/Lexer$Kind;" } : Jvm.MethodName) method_2_code (1 : Nat) (Option.some (Jvm.ClassFile.FieldType.object "itemwright/expression/Lexer$Kind"))).before args0 about1 = true := code_word (m := ⟨1, 1⟩) (meth := k1m1) (c := k1c1) (by decide +kernel) rfl rfl rfl (by decide +kernel)
set_option maxRecDepth 65536 in
theorem w_c2 : (Jvm.Cond.code ({ cls := "itemwright/expression/TokenIsPinLaw", name := "str", desc := "(ICC)Ljava/lang/String;" } : Jvm.MethodName) method_3_code (3 : Nat) (Option.some (Jvm.ClassFile.FieldType.object "java/lang/String"))).before args0 about1 = true := code_word (m := ⟨1, 2⟩) (meth := k1m2) (c := k1c2) (by decide +kernel) rfl rfl rfl (by decide +kernel)
set_option maxRecDepth 65536 in
theorem w_c3 : (Jvm.Cond.code ({ cls := "java/lang/String", name := "<init>", desc := "([C)V" } : Jvm.MethodName) jdk_42_method_3_code (2 : Nat) (Option.none : Option Jvm.ClassFile.FieldType)).before args0 about1 = true := code_word (m := ⟨9, 1⟩) (meth := k9m1) (c := k9c1) (by decide +kernel) rfl rfl rfl (by decide +kernel)
set_option maxRecDepth 65536 in
theorem w_c4 : (Jvm.Cond.code ({ cls := "java/lang/String", name := "<init>", desc := "([CIILjava/lang/Void;)V" } : Jvm.MethodName) jdk_42_method_149_code (6 : Nat) (Option.none : Option Jvm.ClassFile.FieldType)).before args0 about1 = true := code_word (m := ⟨9, 4⟩) (meth := k9m4) (c := k9c4) (by decide +kernel) rfl rfl rfl (by decide +kernel)
set_option maxRecDepth 65536 in
theorem w_c5 : (Jvm.Cond.code ({ cls := "java/lang/Object", name := "<init>", desc := "()V" } : Jvm.MethodName) object_method_1_code (1 : Nat) (Option.none : Option Jvm.ClassFile.FieldType)).before args0 about1 = true := code_word (m := ⟨0, 0⟩) (meth := k0m0) (c := k0c0) (by decide +kernel) rfl rfl rfl (by decide +kernel)
set_option maxRecDepth 65536 in
theorem w_c6 : (Jvm.Cond.code ({ cls := "java/lang/StringUTF16", name := "compress", desc := "([CII)[B" } : Jvm.MethodName) jdk_52_method_16_code (6 : Nat) (Option.some (Jvm.ClassFile.FieldType.array Jvm.ClassFile.FieldType.byte))).before args0 about1 = true := code_word (m := ⟨10, 2⟩) (meth := k10m2) (c := k10c2) (by decide +kernel) rfl rfl rfl (by decide +kernel)
set_option maxRecDepth 65536 in
theorem w_c7 : (Jvm.Cond.code ({ cls := "java/lang/StringUTF16", name := "compress", desc := "([CI[BII)I" } : Jvm.MethodName) jdk_52_method_21_code (7 : Nat) (Option.some Jvm.ClassFile.FieldType.int)).before args0 about1 = true := code_word (m := ⟨10, 3⟩) (meth := k10m3) (c := k10c3) (by decide +kernel) rfl rfl rfl (by decide +kernel)
set_option maxRecDepth 65536 in
theorem w_c8 : (Jvm.Cond.code ({ cls := "java/lang/StringUTF16", name := "coderFromArrayLen", desc := "([BI)B" } : Jvm.MethodName) jdk_52_method_15_code (2 : Nat) (Option.some Jvm.ClassFile.FieldType.byte)).before args0 about1 = true := code_word (m := ⟨10, 1⟩) (meth := k10m1) (c := k10c1) (by decide +kernel) rfl rfl rfl (by decide +kernel)
set_option maxRecDepth 65536 in
theorem w_c9 : (Jvm.Cond.code ({ cls := "itemwright/expression/Lexer$Token", name := "<init>", desc := "(Litemwright/expression/Lexer$Kind;Ljava/lang/String;I)V" } : Jvm.MethodName) prog_18_method_1_code (4 : Nat) (Option.none : Option Jvm.ClassFile.FieldType)).before args0 about1 = true := code_word (m := ⟨12, 0⟩) (meth := k12m0) (c := k12c0) (by decide +kernel) rfl rfl rfl (by decide +kernel)
set_option maxRecDepth 65536 in
theorem w_c10 : (Jvm.Cond.code ({ cls := "java/lang/Record", name := "<init>", desc := "()V" } : Jvm.MethodName) jdk_30_method_1_code (1 : Nat) (Option.none : Option Jvm.ClassFile.FieldType)).before args0 about1 = true := code_word (m := ⟨11, 0⟩) (meth := k11m0) (c := k11c0) (by decide +kernel) rfl rfl rfl (by decide +kernel)
set_option maxRecDepth 65536 in
theorem w_c11 : (Jvm.Cond.code ({ cls := "itemwright/expression/Lexer$Token", name := "is", desc := "(Ljava/lang/String;)Z" } : Jvm.MethodName) prog_18_method_2_code (2 : Nat) (Option.some Jvm.ClassFile.FieldType.boolean)).before args0 about1 = true := code_word (m := ⟨12, 1⟩) (meth := k12m1) (c := k12c1) (by decide +kernel) rfl rfl rfl (by decide +kernel)
set_option maxRecDepth 65536 in
theorem w_c12 : (Jvm.Cond.code ({ cls := "java/lang/String", name := "valueOf", desc := "(C)Ljava/lang/String;" } : Jvm.MethodName) jdk_42_method_139_code (1 : Nat) (Option.some (Jvm.ClassFile.FieldType.object "java/lang/String"))).before args0 about1 = true := code_word (m := ⟨9, 3⟩) (meth := k9m3) (c := k9c3) (by decide +kernel) rfl rfl rfl (by decide +kernel)
set_option maxRecDepth 65536 in
theorem w_c13 : (Jvm.Cond.code ({ cls := "java/lang/StringLatin1", name := "canEncode", desc := "(C)Z" } : Jvm.MethodName) jdk_43_method_3_code (1 : Nat) (Option.some Jvm.ClassFile.FieldType.boolean)).before args0 about1 = true := code_word (m := ⟨13, 1⟩) (meth := k13m1) (c := k13c1) (by decide +kernel) rfl rfl rfl (by decide +kernel)
set_option maxRecDepth 65536 in
theorem w_c14 : (Jvm.Cond.code ({ cls := "java/lang/StringLatin1", name := "toBytes", desc := "(C)[B" } : Jvm.MethodName) jdk_43_method_46_code (1 : Nat) (Option.some (Jvm.ClassFile.FieldType.array Jvm.ClassFile.FieldType.byte))).before args0 about1 = true := code_word (m := ⟨13, 3⟩) (meth := k13m3) (c := k13c3) (by decide +kernel) rfl rfl rfl (by decide +kernel)
set_option maxRecDepth 65536 in
theorem w_c15 : (Jvm.Cond.code ({ cls := "java/lang/String", name := "<init>", desc := "([BB)V" } : Jvm.MethodName) jdk_42_method_151_code (3 : Nat) (Option.none : Option Jvm.ClassFile.FieldType)).before args0 about1 = true := code_word (m := ⟨9, 5⟩) (meth := k9m5) (c := k9c5) (by decide +kernel) rfl rfl rfl (by decide +kernel)
set_option maxRecDepth 65536 in
theorem w_c16 : (Jvm.Cond.code ({ cls := "java/lang/String", name := "equals", desc := "(Ljava/lang/Object;)Z" } : Jvm.MethodName) jdk_42_method_66_code (3 : Nat) (Option.some Jvm.ClassFile.FieldType.boolean)).before args0 about1 = true := code_word (m := ⟨9, 2⟩) (meth := k9m2) (c := k9c2) (by decide +kernel) rfl rfl rfl (by decide +kernel)
set_option maxRecDepth 65536 in
theorem w_c17 : (Jvm.Cond.code ({ cls := "java/lang/StringLatin1", name := "equals", desc := "([B[B)Z" } : Jvm.MethodName) jdk_43_method_13_code (3 : Nat) (Option.some Jvm.ClassFile.FieldType.boolean)).before args0 about1 = true := code_word (m := ⟨13, 2⟩) (meth := k13m2) (c := k13c2) (by decide +kernel) rfl rfl rfl (by decide +kernel)
def codes1 : List Jvm.Cond := [Jvm.Cond.code x code maxLocals ret, Jvm.Cond.code ({ cls := "itemwright/expression/TokenIsPinLaw", name := "kindOf", desc := "(I)Litemwright/expression/Lexer$Kind;" } : Jvm.MethodName) method_2_code (1 : Nat) (Option.some (Jvm.ClassFile.FieldType.object "itemwright/expression/Lexer$Kind")), Jvm.Cond.code ({ cls := "itemwright/expression/TokenIsPinLaw", name := "str", desc := "(ICC)Ljava/lang/String;" } : Jvm.MethodName) method_3_code (3 : Nat) (Option.some (Jvm.ClassFile.FieldType.object "java/lang/String")), Jvm.Cond.code ({ cls := "java/lang/String", name := "<init>", desc := "([C)V" } : Jvm.MethodName) jdk_42_method_3_code (2 : Nat) (Option.none : Option Jvm.ClassFile.FieldType), Jvm.Cond.code ({ cls := "java/lang/String", name := "<init>", desc := "([CIILjava/lang/Void;)V" } : Jvm.MethodName) jdk_42_method_149_code (6 : Nat) (Option.none : Option Jvm.ClassFile.FieldType), Jvm.Cond.code ({ cls := "java/lang/Object", name := "<init>", desc := "()V" } : Jvm.MethodName) object_method_1_code (1 : Nat) (Option.none : Option Jvm.ClassFile.FieldType), Jvm.Cond.code ({ cls := "java/lang/StringUTF16", name := "compress", desc := "([CII)[B" } : Jvm.MethodName) jdk_52_method_16_code (6 : Nat) (Option.some (Jvm.ClassFile.FieldType.array Jvm.ClassFile.FieldType.byte)), Jvm.Cond.code ({ cls := "java/lang/StringUTF16", name := "compress", desc := "([CI[BII)I" } : Jvm.MethodName) jdk_52_method_21_code (7 : Nat) (Option.some Jvm.ClassFile.FieldType.int), Jvm.Cond.code ({ cls := "java/lang/StringUTF16", name := "coderFromArrayLen", desc := "([BI)B" } : Jvm.MethodName) jdk_52_method_15_code (2 : Nat) (Option.some Jvm.ClassFile.FieldType.byte), Jvm.Cond.code ({ cls := "itemwright/expression/Lexer$Token", name := "<init>", desc := "(Litemwright/expression/Lexer$Kind;Ljava/lang/String;I)V" } : Jvm.MethodName) prog_18_method_1_code (4 : Nat) (Option.none : Option Jvm.ClassFile.FieldType), Jvm.Cond.code ({ cls := "java/lang/Record", name := "<init>", desc := "()V" } : Jvm.MethodName) jdk_30_method_1_code (1 : Nat) (Option.none : Option Jvm.ClassFile.FieldType), Jvm.Cond.code ({ cls := "itemwright/expression/Lexer$Token", name := "is", desc := "(Ljava/lang/String;)Z" } : Jvm.MethodName) prog_18_method_2_code (2 : Nat) (Option.some Jvm.ClassFile.FieldType.boolean), Jvm.Cond.code ({ cls := "java/lang/String", name := "valueOf", desc := "(C)Ljava/lang/String;" } : Jvm.MethodName) jdk_42_method_139_code (1 : Nat) (Option.some (Jvm.ClassFile.FieldType.object "java/lang/String")), Jvm.Cond.code ({ cls := "java/lang/StringLatin1", name := "canEncode", desc := "(C)Z" } : Jvm.MethodName) jdk_43_method_3_code (1 : Nat) (Option.some Jvm.ClassFile.FieldType.boolean), Jvm.Cond.code ({ cls := "java/lang/StringLatin1", name := "toBytes", desc := "(C)[B" } : Jvm.MethodName) jdk_43_method_46_code (1 : Nat) (Option.some (Jvm.ClassFile.FieldType.array Jvm.ClassFile.FieldType.byte)), Jvm.Cond.code ({ cls := "java/lang/String", name := "<init>", desc := "([BB)V" } : Jvm.MethodName) jdk_42_method_151_code (3 : Nat) (Option.none : Option Jvm.ClassFile.FieldType), Jvm.Cond.code ({ cls := "java/lang/String", name := "equals", desc := "(Ljava/lang/Object;)Z" } : Jvm.MethodName) jdk_42_method_66_code (3 : Nat) (Option.some Jvm.ClassFile.FieldType.boolean), Jvm.Cond.code ({ cls := "java/lang/StringLatin1", name := "equals", desc := "([B[B)Z" } : Jvm.MethodName) jdk_43_method_13_code (3 : Nat) (Option.some Jvm.ClassFile.FieldType.boolean)]
set_option maxRecDepth 65536 in
theorem codes_eq : words1.filter isCode = codes1 := rfl
theorem w_codes : ∀ c ∈ words1.filter isCode, c.before args0 about1 = true := by
  rw [codes_eq]
  intro c hc
  simp only [codes1, List.mem_cons, List.not_mem_nil, or_false] at hc
  rcases hc with rfl | rfl | rfl | rfl | rfl | rfl | rfl | rfl | rfl | rfl | rfl | rfl | rfl | rfl | rfl | rfl | rfl | rfl
  · exact w_c0
  · exact w_c1
  · exact w_c2
  · exact w_c3
  · exact w_c4
  · exact w_c5
  · exact w_c6
  · exact w_c7
  · exact w_c8
  · exact w_c9
  · exact w_c10
  · exact w_c11
  · exact w_c12
  · exact w_c13
  · exact w_c14
  · exact w_c15
  · exact w_c16
  · exact w_c17
set_option maxRecDepth 65536 in
theorem w_t1 : (words1.take 24).all (fun c => isCode c || c.before args0 about1) = true := by decide +kernel
set_option maxRecDepth 65536 in
theorem w_t2 : ((words1.drop 24).take 24).all (fun c => isCode c || c.before args0 about1) = true := by decide +kernel
set_option maxRecDepth 65536 in
theorem w_t3 : (((words1.drop 24).drop 24).take 24).all (fun c => isCode c || c.before args0 about1) = true := by decide +kernel
set_option maxRecDepth 65536 in
theorem w_t4 : ((((words1.drop 24).drop 24).drop 24).take 24).all (fun c => isCode c || c.before args0 about1) = true := by decide +kernel
set_option maxRecDepth 65536 in
theorem w_t5 : ((((words1.drop 24).drop 24).drop 24).drop 24).all (fun c => isCode c || c.before args0 about1) = true := by decide +kernel
theorem w_tables : (allAtoms (Jvm.Cond.code x code maxLocals ret :: tables_1)).before args0 about1 = true := by
  rw [allAtoms_all]
  show words1.all (fun c => c.before args0 about1) = true
  refine all_split ?_ w_codes
  rw [← List.take_append_drop 24 words1, List.all_append, w_t1, ← List.take_append_drop 24 (words1.drop 24), List.all_append, w_t2, ← List.take_append_drop 24 ((words1.drop 24).drop 24), List.all_append, w_t3, ← List.take_append_drop 24 (((words1.drop 24).drop 24).drop 24), List.all_append, w_t4, w_t5]
  rfl
set_option maxRecDepth 65536 in
theorem w_rest : rest_1_c.before args0 about1 = true := by decide +kernel
set_option maxRecDepth 65536 in
theorem w_case : (Jvm.Cond.and given_1 narrow_1).before args0 about1 = true := by decide +kernel
set_option maxRecDepth 65536 in
theorem w_consts : constsHeld consts_1 about1 := Jvm.Lit.constsHeldB_iff.mp (by decide +kernel)
theorem w_applies : (headSpec (Jvm.Cond.code x code maxLocals ret :: tables_1) room_1).applies x e0.platform about1 = true :=
  (Spec.applies_iff w_frames).mpr ⟨w_running, w_runnable, w_alone, w_named, w_hears, w_ripe, w_room, w_tables⟩
theorem atStart : AtStart classFile x code maxLocals ret World_1 tables_1 room_1 Calls_1 rest_1 Pre_1 launch0 p0 e0 about1 theMethod args0 below0 :=
  ⟨lists_1, trivial, launch0.admits_env _ _ _, launch0.least_env, fairChoices_fair.cas, fairChoices_fair.clock, w_frames, w_args, w_heap, w_applies, ⟨w_consts, trivial⟩, w_rest, w_case⟩
end start1
theorem witness_1 : WitnessClaimed_1 := ⟨start1.p0, start1.e0, start1.about1, start1.theMethod, start1.args0, start1.below0, start1.atStart⟩
end Jvm.Pilot.@@N@@
