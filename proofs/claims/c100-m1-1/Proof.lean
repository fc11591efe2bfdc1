import JvmDerived
import JvmDerived.Pilot.@@N@@Statement
import JvmDerived.Pilot.@@N@@Code
set_option linter.unusedVariables false
set_option linter.unusedSimpArgs false
namespace Jvm.RoadKit
open Sem ClassFile Op Lib Jvm.Stand Jvm.Free Jvm.LawKit
section New
variable {p : Program} {l : Launch} {e : Env} {R : Room} {s : State} {m : MethodId} {args : Array Value} {below : List Frame} {meth : Method} {c : Code} {T : State} {locs : List Loc} {cells slots : Nat}
theorem retI (X : Stand p l e R s m args below meth c T locs cells slots) (hx : p.tables.exec = Jvm.exec) {pc : Nat} {Ls : Array Slot} {z : Int32} {rest : List Value} (hret : meth.sig.returnType = some .int) (hd : decode c.code pc = .ok (.ireturn, 1)) {fs : List Frame}
    (hl : ∀ (f : JFrame) (acts : List Action), f.method = m → f.locked = none → f.entered = [] → (doReturn e (T.setTop f) acts (some (.int z))).1 = T.setFrames fs) : Steps p.tables e below (T.setTop (mkF m pc Ls (.int z :: rest))) (T.setFrames fs) :=
  retOut X hx hret rfl (Or.inl ⟨rfl, Or.inl rfl, z, rfl⟩) hd hl
end New
end Jvm.RoadKit
/- laws to paste: Road.backV, Road.lenW, Road.codOf (cut by pick.py; bodies as the Statement names them) -/
namespace Jvm.Pilot.@@N@@
namespace StrChars
open Jvm Sem ClassFile Op Lib Jvm.Stand Jvm.Free.XT Jvm.Free.ALB Jvm.Free.JM Jvm.Free
open Jvm.Lib.Cold (StaticIs)
/-- a char array whose places are chars -/
def Ch (a : Addr) (A : Cell) (U : State) : Prop := Arr .char a A U ∧ Typed .char A
theorem Ch.mv {a : Addr} {A : Cell} {U U' : State} (h : Ch a A U) (hal : U.vm.Alike U'.vm) (hh : U'.heap = U.heap) : Ch a A U' := ⟨h.1.mv hal hh, h.2⟩
theorem Ch.keep {a : Addr} {A : Cell} {U U' : State} (h : Ch a A U) (hal : U.vm.Alike U'.vm) (hk : U'.heap[a]? = some A) : Ch a A U' := ⟨h.1.keep hal hk, h.2⟩
/-- what place i of a char[]'s cell holds -/
def cv (A : Cell) (i : Nat) : Int32 := match A.slots[i]? with | some (.int x) => x | _ => 0
theorem Ch.get {a : Addr} {A : Cell} {U : State} (h : Ch a A U) {i : Nat} (hi : i < A.slots.size) : A.slots[i]? = some (.int (cv A i)) := by
  have e := Array.getElem?_eq_getElem hi
  have f := h.2 i _ e
  unfold cv; rw [e]
  generalize A.slots[i] = v at f
  cases v <;> simp [fits] at f ⊢
/-- the byte that i2b leaves of a char -/
def lo8 (x : Int32) : Int32 := x.toInt8.toInt32
theorem fits_lo8 (y : Int32) : fits .byte (.int (lo8 y)) = true := by
  have h1 := y.toInt8.le_toInt
  have h2 := y.toInt8.toInt_lt
  simp only [lo8, fits, Bool.and_eq_true, decide_eq_true_eq, Int32.le_iff_toInt_le, Int8.toInt_toInt32, show (-128 : Int32).toInt = -128 from by decide, show (127 : Int32).toInt = 127 from by decide]
  omega
/-- A' is A but that each place j of lo .. hi - 1 holds f j -/
def Laid (A A' : Cell) (lo hi : Nat) (f : Nat → Value) : Prop := A'.cls = A.cls ∧ A'.vm = A.vm ∧ A'.slots.size = A.slots.size ∧ ∀ i, A'.slots[i]? = if lo ≤ i ∧ i < hi then some (f i) else A.slots[i]?
theorem Laid.zero (A : Cell) (lo : Nat) (f : Nat → Value) : Laid A A lo (lo + 0) f := ⟨rfl, rfl, rfl, fun i => by rw [if_neg (by omega)]⟩
theorem Laid.step {A Ak : Cell} {lo k : Nat} {f : Nat → Value} {v : Value} (h : Laid A Ak lo k f) (hlo : lo ≤ k) (hk : k < Ak.slots.size) (hv : v = f k) : Laid A (Ak.setSlot k v) lo (k + 1) f := by
  refine ⟨h.1, h.2.1, by simpa [Cell.setSlot] using h.2.2.1, fun i => ?_⟩
  by_cases e : k = i
  · subst e; rw [Cell.slots_setSlot_self v hk, if_pos (by omega), hv]
  · rw [Cell.slots_setSlot_ne v e, h.2.2.2 i]
    by_cases q : lo ≤ i ∧ i < k
    · rw [if_pos q, if_pos (by omega)]
    · rw [if_neg q, if_neg (by omega)]
def U16 : String := "java/lang/StringUTF16"
namespace Cmp5
def yN : MethodName := ⟨"java/lang/StringUTF16", "compress", "([CI[BII)I"⟩
abbrev yB : ByteArray := jdk_52_method_21_code
theorem d0 : decode yB 0 = .ok (.iconst 0, 1) := by decide +kernel
theorem d1 : decode yB 1 = .ok (.istore 5, 2) := by decide +kernel
theorem d3 : decode yB 3 = .ok (.iload 5, 2) := by decide +kernel
theorem d5 : decode yB 5 = .ok (.iload 4, 2) := by decide +kernel
theorem d7 : decode yB 7 = .ok (.if_icmp (.ge) 37, 3) := by decide +kernel
theorem d10 : decode yB 10 = .ok (.aload_n 0, 1) := by decide +kernel
theorem d11 : decode yB 11 = .ok (.iload_n 1, 1) := by decide +kernel
theorem d12 : decode yB 12 = .ok (.caload, 1) := by decide +kernel
theorem d13 : decode yB 13 = .ok (.istore 6, 2) := by decide +kernel
theorem d15 : decode yB 15 = .ok (.iload 6, 2) := by decide +kernel
theorem d17 : decode yB 17 = .ok (.sipush 255, 3) := by decide +kernel
theorem d20 : decode yB 20 = .ok (.if_icmp (.le) 6, 3) := by decide +kernel
theorem d26 : decode yB 26 = .ok (.aload_n 2, 1) := by decide +kernel
theorem d27 : decode yB 27 = .ok (.iload_n 3, 1) := by decide +kernel
theorem d28 : decode yB 28 = .ok (.iload 6, 2) := by decide +kernel
theorem d30 : decode yB 30 = .ok (.i2b, 1) := by decide +kernel
theorem d31 : decode yB 31 = .ok (.bastore, 1) := by decide +kernel
theorem d32 : decode yB 32 = .ok (.iinc 1 1, 3) := by decide +kernel
theorem d35 : decode yB 35 = .ok (.iinc 3 1, 3) := by decide +kernel
theorem d38 : decode yB 38 = .ok (.iinc 5 1, 3) := by decide +kernel
theorem d41 : decode yB 41 = .ok (.goto (-38), 3) := by decide +kernel
theorem d44 : decode yB 44 = .ok (.iload 4, 2) := by decide +kernel
theorem d46 : decode yB 46 = .ok (.ireturn, 1) := by decide +kernel
def site : List Cond := []
def tab : Cond := tabOf yN yB 7 (some .int) site
def P (b : Addr) (A : Cell) (d : Addr) (B : Cell) (o q len : Nat) (args : Array Value) (s : State) : Prop := args = #[.ref b, .int (Int32.ofNat o), .ref d, .int (Int32.ofNat q), .int (Int32.ofNat len)] ∧ Ch b A s ∧ Arr .byte d B s ∧ b ≠ d ∧ o + len ≤ A.slots.size ∧ q + len ≤ B.slots.size ∧ ∀ i, i < len → ¬ 255 < cv A (o + i)
def E (b : Addr) (A : Cell) (d : Addr) (B : Cell) (o q len : Nat) (r : Option Value) (s u : State) : Prop := r = some (.int (Int32.ofNat len)) ∧ ∃ B', Put d B' s u ∧ Laid B B' q (q + len) (fun j => Value.int (lo8 (cv A (o + (j - q)))))
/-- no char of the range above 255: len; the places written hold each char's low byte -/
theorem law (l : Launch) (b : Addr) (A : Cell) (d : Addr) (B : Cell) (o q len : Nat) : Law l yN 5 5 0 0 yB 7 (some .int) site (P b A d B o q len) (E b A d B o q len) (copyLocs d q len) 0 0 := by
  refine Law.of_walk (plainFor_of_name (by decide +kernel)) (by decide +kernel) (by decide +kernel) (by decide) (fun _ _ h => by rw [h.1]; rfl) (fun _ U U' hal hh h => ⟨h.1, h.2.1.mv hal hh, h.2.2.1.mv hal hh, h.2.2.2⟩) (fun r U U' V V' h1 hal h2 h => ⟨h.1, h.2.elim fun B' q => ⟨B', q.1.mv h1 h2, q.2⟩⟩) ?_
  intro p e s m args below meth c s₁ X0 hexec hbytes hml hret hlk hnm hown hh0 W hP
  obtain ⟨rfl, hA, hB, hne, l1, l2, hp⟩ := hP
  have c1 : Steps p.tables e below (s₁.setTop (entryFrame m #[.ref b, .int (Int32.ofNat o), .ref d, .int (Int32.ofNat q), .int (Int32.ofNat len)] 7)) (s₁.setTop (mkF m 0 #[.val (.ref b), .val (.int (Int32.ofNat o)), .val (.ref d), .val (.int (Int32.ofNat q)), .val (.int (Int32.ofNat len)), .unset, .unset] [])) := entry rfl
  have hA0 := hA.1.mv X0.warmed.alike hh0
  have hB0 := hB.mv X0.warmed.alike hh0
  have a31 := hA.1.2.2.2
  have c2 : Steps p.tables e below (s₁.setTop (entryFrame m #[.ref b, .int (Int32.ofNat o), .ref d, .int (Int32.ofNat q), .int (Int32.ofNat len)] 7)) (s₁.setTop (mkF m 3 #[.val (.ref b), .val (.int (Int32.ofNat o)), .val (.ref d), .val (.int (Int32.ofNat q)), .val (.int (Int32.ofNat len)), .val (.int 0), .unset] [])) := c1.trans (by
    refine iconstV X0.here hexec rfl 0 (hb hbytes d0) (by decide) ?_
    refine XS.istore X0.here hexec rfl (hb hbytes d1) rfl rfl ?_
    exact Steps.refl _)
  have loop : ∀ (r i : Nat), i + r = len → ∀ (z : Slot), (z = .unset ∨ ∃ w, z = .val w ∧ w.category = 1) → ∀ (Tl : State) (Bk : Cell), Stand p l e { frames := 0, locals := 0, cells := 0, slots := 0 } s m #[.ref b, .int (Int32.ofNat o), .ref d, .int (Int32.ofNat q), .int (Int32.ofNat len)] below meth c Tl ([] ++ copyLocs d q i) 0 0 → Put d Bk s₁ Tl → Laid B Bk q (q + i) (fun j => Value.int (lo8 (cv A (o + (j - q))))) →
      Steps p.tables e below (s₁.setTop (entryFrame m #[.ref b, .int (Int32.ofNat o), .ref d, .int (Int32.ofNat q), .int (Int32.ofNat len)] 7)) (Tl.setTop (mkF m 3 #[.val (.ref b), .val (.int (Int32.ofNat (o + i))), .val (.ref d), .val (.int (Int32.ofNat (q + i))), .val (.int (Int32.ofNat len)), .val (.int (Int32.ofNat i)), z] [])) → ∃ (T' : State) (B' : Cell) (z' : Slot), Stand p l e { frames := 0, locals := 0, cells := 0, slots := 0 } s m #[.ref b, .int (Int32.ofNat o), .ref d, .int (Int32.ofNat q), .int (Int32.ofNat len)] below meth c T' ([] ++ copyLocs d q len) 0 0 ∧ Put d B' s₁ T' ∧ Laid B B' q (q + len) (fun j => Value.int (lo8 (cv A (o + (j - q))))) ∧
      Steps p.tables e below (s₁.setTop (entryFrame m #[.ref b, .int (Int32.ofNat o), .ref d, .int (Int32.ofNat q), .int (Int32.ofNat len)] 7)) (T'.setTop (mkF m 3 #[.val (.ref b), .val (.int (Int32.ofNat (o + len))), .val (.ref d), .val (.int (Int32.ofNat (q + len))), .val (.int (Int32.ofNat len)), .val (.int (Int32.ofNat len)), z'] [])) := by
    intro r
    induction r with
    | zero =>
      intro i hi z hz Tl Bk Xl pl fl cl
      have hil : i = len := by omega
      rw [hil] at Xl fl cl
      exact ⟨Tl, Bk, z, Xl, pl, fl, cl⟩
    | succ r ih =>
      intro i hi z hz Tl Bk Xl pl fl cl
      have all := X0.warmed.alike.symm.trans Xl.warmed.alike
      have hAl := hA0.keep all (pl.other hne hA0.1)
      have hBk := hB0.like all pl.1 fl.1 fl.2.1 fl.2.2.1
      have hlt : q + i < Bk.slots.size := by rw [fl.2.2.1]; omega
      have c3 : Steps p.tables e below (s₁.setTop (entryFrame m #[.ref b, .int (Int32.ofNat o), .ref d, .int (Int32.ofNat q), .int (Int32.ofNat len)] 7)) (Tl.setTop (mkF m 12 #[.val (.ref b), .val (.int (Int32.ofNat (o + i))), .val (.ref d), .val (.int (Int32.ofNat (q + i))), .val (.int (Int32.ofNat len)), .val (.int (Int32.ofNat i)), z] [.int (Int32.ofNat (o + i)), .ref b])) := cl.trans (by
        refine XS.iload Xl.here hexec rfl (hb hbytes d3) rfl ?_
        refine XS.iload Xl.here hexec rfl (hb hbytes d5) rfl ?_
        refine XS.icmpNo Xl.here hexec rfl (hb hbytes d7) rfl (ii_ge_f (lt32 (by omega) (by omega))) ?_
        refine XS.aloadN Xl.here hexec rfl (hb hbytes d10) rfl rfl ?_
        refine XS.iloadN Xl.here hexec rfl (hb hbytes d11) rfl ?_
        exact Steps.refl _)
      have c4 : Steps p.tables e below (s₁.setTop (entryFrame m #[.ref b, .int (Int32.ofNat o), .ref d, .int (Int32.ofNat q), .int (Int32.ofNat len)] 7)) (Tl.setTop (mkF m 13 #[.val (.ref b), .val (.int (Int32.ofNat (o + i))), .val (.ref d), .val (.int (Int32.ofNat (q + i))), .val (.int (Int32.ofNat len)), .val (.int (Int32.ofNat i)), z] [.int (cv A (o + i))])) := c3.trans (by
        refine Xl.aget hexec hAl rfl (hA.get (i := o + i) (by omega)) rfl rfl (hb hbytes d12) ?_
        exact Steps.refl _)
      have c5 : Steps p.tables e below (s₁.setTop (entryFrame m #[.ref b, .int (Int32.ofNat o), .ref d, .int (Int32.ofNat q), .int (Int32.ofNat len)] 7)) (Tl.setTop (mkF m 15 #[.val (.ref b), .val (.int (Int32.ofNat (o + i))), .val (.ref d), .val (.int (Int32.ofNat (q + i))), .val (.int (Int32.ofNat len)), .val (.int (Int32.ofNat i)), .val (.int (cv A (o + i)))] [])) := c4.trans (by
        refine XS.istoreS Xl.here hexec rfl (hb hbytes d13) rfl rfl hz ?_
        exact Steps.refl _)
      have c6 : Steps p.tables e below (s₁.setTop (entryFrame m #[.ref b, .int (Int32.ofNat o), .ref d, .int (Int32.ofNat q), .int (Int32.ofNat len)] 7)) (Tl.setTop (mkF m 31 #[.val (.ref b), .val (.int (Int32.ofNat (o + i))), .val (.ref d), .val (.int (Int32.ofNat (q + i))), .val (.int (Int32.ofNat len)), .val (.int (Int32.ofNat i)), .val (.int (cv A (o + i)))] [.int (lo8 (cv A (o + i))), .int (Int32.ofNat (q + i)), .ref d])) := c5.trans (by
        refine XS.iload Xl.here hexec rfl (hb hbytes d15) rfl ?_
        refine sipushV Xl.here hexec rfl 255 (hb hbytes d17) (by decide) ?_
        refine XS.icmpYes Xl.here hexec rfl (pc0 := 20) rfl (hb hbytes d20) rfl (ii_le_t (hp i (by omega))) (by decide) rfl ?_
        refine XS.aloadN Xl.here hexec rfl (hb hbytes d26) rfl rfl ?_
        refine XS.iloadN Xl.here hexec rfl (hb hbytes d27) rfl ?_
        refine XS.iload Xl.here hexec rfl (hb hbytes d28) rfl ?_
        refine i2b Xl.here hexec rfl (hb hbytes d30) rfl ?_
        exact Steps.refl _)
      obtain ⟨T7, X7, p7, st7⟩ := Xl.aput hexec hBk rfl hlt rfl (fits_lo8 (cv A (o + i))) (g := (mkF m 31 #[.val (.ref b), .val (.int (Int32.ofNat (o + i))), .val (.ref d), .val (.int (Int32.ofNat (q + i))), .val (.int (Int32.ofNat len)), .val (.int (Int32.ofNat i)), .val (.int (cv A (o + i)))] [.int (lo8 (cv A (o + i))), .int (Int32.ofNat (q + i)), .ref d])) rfl (rest := []) rfl (hb hbytes d31)
      have c8 : Steps p.tables e below (s₁.setTop (entryFrame m #[.ref b, .int (Int32.ofNat o), .ref d, .int (Int32.ofNat q), .int (Int32.ofNat len)] 7)) (T7.setTop (mkF m 32 #[.val (.ref b), .val (.int (Int32.ofNat (o + i))), .val (.ref d), .val (.int (Int32.ofNat (q + i))), .val (.int (Int32.ofNat len)), .val (.int (Int32.ofNat i)), .val (.int (cv A (o + i)))] [])) := c6.trans (st7 _ (Steps.refl _))
      have c9 : Steps p.tables e below (s₁.setTop (entryFrame m #[.ref b, .int (Int32.ofNat o), .ref d, .int (Int32.ofNat q), .int (Int32.ofNat len)] 7)) (T7.setTop (mkF m 3 #[.val (.ref b), .val (.int (Int32.ofNat (o + i) + 1)), .val (.ref d), .val (.int (Int32.ofNat (q + i) + 1)), .val (.int (Int32.ofNat len)), .val (.int (Int32.ofNat i + 1)), .val (.int (cv A (o + i)))] [])) := c8.trans (by
        refine iincV X7.here hexec rfl 1 (hb hbytes d32) (by decide) rfl rfl ?_
        refine iincV X7.here hexec rfl 1 (hb hbytes d35) (by decide) rfl rfl ?_
        refine iincV X7.here hexec rfl 1 (hb hbytes d38) (by decide) rfl rfl ?_
        refine XS.goto X7.here hexec rfl (pc0 := 41) rfl (hb hbytes d41) (by decide) rfl ?_
        exact Steps.refl _)
      have c10 : Steps p.tables e below (s₁.setTop (entryFrame m #[.ref b, .int (Int32.ofNat o), .ref d, .int (Int32.ofNat q), .int (Int32.ofNat len)] 7)) (T7.setTop (mkF m 3 #[.val (.ref b), .val (.int (Int32.ofNat (o + (i + 1)))), .val (.ref d), .val (.int (Int32.ofNat (q + (i + 1)))), .val (.int (Int32.ofNat len)), .val (.int (Int32.ofNat (i + 1))), .val (.int (cv A (o + i)))] [])) := by
        have := c9
        rw [succ32, succ32, succ32] at this
        exact this
      exact ih (i + 1) (by omega) _ (Or.inr ⟨_, rfl, rfl⟩) T7 _ (by rw [copyLocs_step, ← List.append_assoc]; exact X7) (pl.trans p7) (fl.step (by omega) hlt (by simp)) c10
  obtain ⟨T9, B9, z9, X9, p9, f9, g9⟩ := loop len 0 (by omega) .unset (Or.inl rfl) s₁ B (by simpa [copyLocs] using X0) ⟨hB0.1, fun _ _ => rfl, rfl⟩ (Laid.zero _ _ _) c2
  have c11 : Steps p.tables e below (s₁.setTop (entryFrame m #[.ref b, .int (Int32.ofNat o), .ref d, .int (Int32.ofNat q), .int (Int32.ofNat len)] 7)) (T9.setTop (mkF m 46 #[.val (.ref b), .val (.int (Int32.ofNat (o + len))), .val (.ref d), .val (.int (Int32.ofNat (q + len))), .val (.int (Int32.ofNat len)), .val (.int (Int32.ofNat len)), z9] [.int (Int32.ofNat len)])) := g9.trans (by
    refine XS.iload X9.here hexec rfl (hb hbytes d3) rfl ?_
    refine XS.iload X9.here hexec rfl (hb hbytes d5) rfl ?_
    refine XS.icmpYes X9.here hexec rfl (pc0 := 7) rfl (hb hbytes d7) rfl (ii_ge_t (nlt32 (by omega) (Nat.le_refl _))) (by decide) rfl ?_
    refine XS.iload X9.here hexec rfl (hb hbytes d44) rfl ?_
    exact Steps.refl _)
  exact ⟨T9, some (.int (Int32.ofNat len)), _, _, _, X9, by simp, rfl, rfl, (fun h => by cases h), ⟨rfl, B9, p9.from hh0, f9⟩, fun fs hl => c11.trans (X9.ireturnOut hexec hret rfl (Or.inl rfl) (hb hbytes d46) hl)⟩
end Cmp5
namespace Cmp3
def yN : MethodName := ⟨"java/lang/StringUTF16", "compress", "([CII)[B"⟩
abbrev yB : ByteArray := jdk_52_method_16_code
theorem d0 : decode yB 0 = .ok (.iload_n 2, 1) := by decide +kernel
theorem d1 : decode yB 1 = .ok (.newarray .byte, 2) := by decide +kernel
theorem d3 : decode yB 3 = .ok (.astore_n 3, 1) := by decide +kernel
theorem d4 : decode yB 4 = .ok (.aload_n 0, 1) := by decide +kernel
theorem d5 : decode yB 5 = .ok (.iload_n 1, 1) := by decide +kernel
theorem d6 : decode yB 6 = .ok (.aload_n 3, 1) := by decide +kernel
theorem d7 : decode yB 7 = .ok (.iconst 0, 1) := by decide +kernel
theorem d8 : decode yB 8 = .ok (.iload_n 2, 1) := by decide +kernel
theorem d9 : decode yB 9 = .ok (.invokestatic 115, 3) := by decide +kernel
theorem d12 : decode yB 12 = .ok (.istore 4, 2) := by decide +kernel
theorem d14 : decode yB 14 = .ok (.iload 4, 2) := by decide +kernel
theorem d16 : decode yB 16 = .ok (.iload_n 2, 1) := by decide +kernel
theorem d17 : decode yB 17 = .ok (.if_icmp (.eq) 40, 3) := by decide +kernel
theorem d57 : decode yB 57 = .ok (.aload_n 3, 1) := by decide +kernel
theorem d58 : decode yB 58 = .ok (.areturn, 1) := by decide +kernel
def site : List Cond := [.arrayClass .byte, Cmp5.tab] ++ staticW U16 115 Cmp5.yN
def tab : Cond := tabOf yN yB 6 (some (.array .byte)) site
def P (b : Addr) (A : Cell) (o len : Nat) (args : Array Value) (s : State) : Prop := args = #[.ref b, .int (Int32.ofNat o), .int (Int32.ofNat len)] ∧ Ch b A s ∧ o + len ≤ A.slots.size ∧ len ≤ 536870912 ∧ ∀ i, i < len → ¬ 255 < cv A (o + i)
def E (b : Addr) (A : Cell) (o len : Nat) (r : Option Value) (s u : State) : Prop := NewArr .byte "[B" len (fun j => .int (lo8 (cv A (o + j)))) r s u ∧ u.heap.size = s.heap.size + 1
/-- no char of the range above 255: a new byte[] of their low bytes -/
theorem law (l : Launch) (b : Addr) (A : Cell) (o len : Nat) : Law l yN 3 3 1 18 yB 6 (some (.array .byte)) site (P b A o len) (E b A o len) [] 1 len := by
  refine Law.of_walk (plainFor_of_name (by decide +kernel)) (by decide +kernel) (by decide +kernel) (by decide) (fun _ _ h => by rw [h.1]; rfl) (fun _ U U' hal hh h => ⟨h.1, h.2.1.mv hal hh, h.2.2⟩) (fun r U U' V V' h1 hal h2 h => ⟨NewArr.mv r U U' V V' h1 hal h2 h.1, by rw [h1, h2]; exact h.2⟩) ?_
  intro p e s m args below meth c s₁ X0 hexec hbytes hml hret hlk hnm hown hh0 W hP
  obtain ⟨rfl, hA, l1, l2, hp⟩ := hP
  have a31 := hA.1.2.2.2
  have c1 : Steps p.tables e below (s₁.setTop (entryFrame m #[.ref b, .int (Int32.ofNat o), .int (Int32.ofNat len)] 6)) (s₁.setTop (mkF m 0 #[.val (.ref b), .val (.int (Int32.ofNat o)), .val (.int (Int32.ofNat len)), .unset, .unset, .unset] [])) := entry rfl
  have c2 : Steps p.tables e below (s₁.setTop (entryFrame m #[.ref b, .int (Int32.ofNat o), .int (Int32.ofNat len)] 6)) (s₁.setTop (mkF m 1 #[.val (.ref b), .val (.int (Int32.ofNat o)), .val (.int (Int32.ofNat len)), .unset, .unset, .unset] [.int (Int32.ofNat len)])) := c1.trans (by
    refine XS.iloadN X0.here hexec rfl (hb hbytes d0) rfl ?_
    exact Steps.refl _)
  obtain ⟨T3, B3, X3, ba3, bs3, bv3, bh3, bf3, st3⟩ := X0.anew hexec (atype := .byte) (wk W (.arrayClass .byte)) rfl (by show len * 1 ≤ _; omega) (by omega) (g := (mkF m 1 #[.val (.ref b), .val (.int (Int32.ofNat o)), .val (.int (Int32.ofNat len)), .unset, .unset, .unset] [.int (Int32.ofNat len)])) rfl (hb hbytes d1) (rest := []) rfl (Nat.le_refl _) (by show 0 + len ≤ len; omega)
  rw [hh0] at ba3 st3
  have kp3 : XT.Kept s T3 := (XT.Kept.of_eq hh0).push bh3
  have hA3 := hA.keep X3.warmed.alike (kp3 _ _ hA.1.1)
  have hne : b ≠ s.heap.size := hA.1.ne
  have c4 : Steps p.tables e below (s₁.setTop (entryFrame m #[.ref b, .int (Int32.ofNat o), .int (Int32.ofNat len)] 6)) (T3.setTop (mkF m 3 #[.val (.ref b), .val (.int (Int32.ofNat o)), .val (.int (Int32.ofNat len)), .unset, .unset, .unset] [.ref s.heap.size])) := c2.trans (st3 _ (Steps.refl _))
  have c5 : Steps p.tables e below (s₁.setTop (entryFrame m #[.ref b, .int (Int32.ofNat o), .int (Int32.ofNat len)] 6)) (T3.setTop (mkF m 9 #[.val (.ref b), .val (.int (Int32.ofNat o)), .val (.int (Int32.ofNat len)), .val (.ref s.heap.size), .unset, .unset] [.int (Int32.ofNat len), .int 0, .ref s.heap.size, .int (Int32.ofNat o), .ref b])) := c4.trans (by
    refine XS.astoreN X3.here hexec rfl (hb hbytes d3) rfl rfl rfl ?_
    refine XS.aloadN X3.here hexec rfl (hb hbytes d4) rfl rfl ?_
    refine XS.iloadN X3.here hexec rfl (hb hbytes d5) rfl ?_
    refine XS.aloadN X3.here hexec rfl (hb hbytes d6) rfl rfl ?_
    refine iconstV X3.here hexec rfl 0 (hb hbytes d7) (by decide) ?_
    refine XS.iloadN X3.here hexec rfl (hb hbytes d8) rfl ?_
    exact Steps.refl _)
  obtain ⟨v6, T6, X6, E6, g6⟩ := X3.callS hexec (Cmp5.law l b A s.heap.size B3 o 0 len) hown (wks W (staticW U16 115 Cmp5.yN)) (wk W Cmp5.tab) (W := 0) (Nat.le_of_ble_eq_true rfl) (Nat.le_of_ble_eq_true rfl) (Nat.le_refl _) (by show 0 + len + 0 ≤ len; omega) (g := (mkF m 9 #[.val (.ref b), .val (.int (Int32.ofNat o)), .val (.int (Int32.ofNat len)), .val (.ref s.heap.size), .unset, .unset] [.int (Int32.ofNat len), .int (Int32.ofNat 0), .ref s.heap.size, .int (Int32.ofNat o), .ref b])) rfl (by rw [hml]; rfl) c5 (argsL := [.ref b, .int (Int32.ofNat o), .ref s.heap.size, .int (Int32.ofNat 0), .int (Int32.ofNat len)]) (rest := []) rfl rfl (by show 2 * 0 + 0 ≤ _; decide) (hb hbytes d9) (⟨rfl, hA3, ba3, hne, l1, by rw [bs3]; simp, hp⟩)
  obtain ⟨rfl, B6, p6, f6⟩ := E6
  have c7 : Steps p.tables e below (s₁.setTop (entryFrame m #[.ref b, .int (Int32.ofNat o), .int (Int32.ofNat len)] 6)) (T6.setTop (mkF m 12 #[.val (.ref b), .val (.int (Int32.ofNat o)), .val (.int (Int32.ofNat len)), .val (.ref s.heap.size), .unset, .unset] [.int (Int32.ofNat len)])) := g6
  have c8 : Steps p.tables e below (s₁.setTop (entryFrame m #[.ref b, .int (Int32.ofNat o), .int (Int32.ofNat len)] 6)) (T6.setTop (mkF m 58 #[.val (.ref b), .val (.int (Int32.ofNat o)), .val (.int (Int32.ofNat len)), .val (.ref s.heap.size), .val (.int (Int32.ofNat len)), .unset] [.ref s.heap.size])) := c7.trans (by
    refine XS.istore X6.here hexec rfl (hb hbytes d12) rfl rfl ?_
    refine XS.iload X6.here hexec rfl (hb hbytes d14) rfl ?_
    refine XS.iloadN X6.here hexec rfl (hb hbytes d16) rfl ?_
    refine XS.icmpYes X6.here hexec rfl (pc0 := 17) rfl (hb hbytes d17) rfl (ii_eq_t rfl) (by decide) rfl ?_
    refine XS.aloadN X6.here hexec rfl (hb hbytes d57) rfl rfl ?_
    exact Steps.refl _)
  have X8 := X6.wide (L' := []) (cells' := 1) (slots' := len) (fun x hx hlt => by
    simp only [List.nil_append, copyLocs, List.mem_map, List.mem_range] at hx
    obtain ⟨i, -, rfl⟩ := hx
    exact absurd hlt (Nat.lt_irrefl _)) (Nat.le_refl _) (by omega)
  exact ⟨T6, some (.ref s.heap.size), _, _, _, X8, rfl, rfl, rfl, (fun h => by cases h), ⟨⟨rfl, B6, ba3.like (X3.warmed.alike.symm.trans X6.warmed.alike) p6.1 f6.1 f6.2.1 f6.2.2.1, f6.2.1.trans bv3, by rw [X6.warmed.alike.findClass, f6.1]; exact bf3, by rw [f6.2.2.1, bs3]; simp, fun j hj => by rw [f6.2.2.2 j, if_pos (by omega)]; rfl, kp3.put p6 (Nat.le_refl _)⟩, by rw [p6.2.2, bh3, hh0]; simp⟩, fun fs hl => c8.trans (X8.areturnOut hexec rfl hret rfl (hb hbytes d58) hl)⟩
end Cmp3
namespace CodL
def yN : MethodName := ⟨"java/lang/StringUTF16", "coderFromArrayLen", "([BI)B"⟩
abbrev yB : ByteArray := jdk_52_method_15_code
theorem d0 : decode yB 0 = .ok (.iload_n 1, 1) := by decide +kernel
theorem d1 : decode yB 1 = .ok (.aload_n 0, 1) := by decide +kernel
theorem d2 : decode yB 2 = .ok (.arraylength, 1) := by decide +kernel
theorem d3 : decode yB 3 = .ok (.isub, 1) := by decide +kernel
theorem d4 : decode yB 4 = .ok (.bipush 31, 2) := by decide +kernel
theorem d6 : decode yB 6 = .ok (.iushr, 1) := by decide +kernel
theorem d7 : decode yB 7 = .ok (.i2b, 1) := by decide +kernel
theorem d8 : decode yB 8 = .ok (.ireturn, 1) := by decide +kernel
def site : List Cond := []
def tab : Cond := tabOf yN yB 2 (some .byte) site
def P (d : Addr) (B : Cell) (args : Array Value) (s : State) : Prop := args = #[.ref d, .int (Int32.ofNat B.slots.size)] ∧ Arr .byte d B s
def E (r : Option Value) (s u : State) : Prop := XT.PureE (some (.int 0)) r s u
/-- an array as long as the number of chars: LATIN1 -/
theorem law (l : Launch) (d : Addr) (B : Cell) : Law l yN 2 2 0 0 yB 2 (some .byte) site (P d B) E [] 0 0 := by
  refine Law.of_walk (plainFor_of_name (by decide +kernel)) (by decide +kernel) (by decide +kernel) (by decide) (fun _ _ h => by rw [h.1]; rfl) (fun _ U U' hal hh h => ⟨h.1, h.2.mv hal hh⟩) (fun r U U' V V' h1 hal h2 h => XT.PureE.mv r U U' V V' h1 hal h2 h) ?_
  intro p e s m args below meth c s₁ X0 hexec hbytes hml hret hlk hnm hown hh0 W hP
  obtain ⟨rfl, hB⟩ := hP
  have hB0 := hB.mv X0.warmed.alike hh0
  have c1 : Steps p.tables e below (s₁.setTop (entryFrame m #[.ref d, .int (Int32.ofNat B.slots.size)] 2)) (s₁.setTop (mkF m 0 #[.val (.ref d), .val (.int (Int32.ofNat B.slots.size))] [])) := entry rfl
  have c2 : Steps p.tables e below (s₁.setTop (entryFrame m #[.ref d, .int (Int32.ofNat B.slots.size)] 2)) (s₁.setTop (mkF m 2 #[.val (.ref d), .val (.int (Int32.ofNat B.slots.size))] [.ref d, .int (Int32.ofNat B.slots.size)])) := c1.trans (by
    refine XS.iloadN X0.here hexec rfl (hb hbytes d0) rfl ?_
    refine XS.aloadN X0.here hexec rfl (hb hbytes d1) rfl rfl ?_
    exact Steps.refl _)
  have c3 : Steps p.tables e below (s₁.setTop (entryFrame m #[.ref d, .int (Int32.ofNat B.slots.size)] 2)) (s₁.setTop (mkF m 8 #[.val (.ref d), .val (.int (Int32.ofNat B.slots.size))] [.int (lo8 (ushr (Int32.ofNat B.slots.size - Int32.ofNat B.slots.size) 31))])) := c2.trans (by
    refine X0.alen hexec hB0 rfl rfl (hb hbytes d2) ?_
    refine XS.isub X0.here hexec rfl (hb hbytes d3) rfl ?_
    refine bipushV X0.here hexec rfl 31 (hb hbytes d4) (by decide) ?_
    refine iushr X0.here hexec rfl (hb hbytes d6) rfl ?_
    refine i2b X0.here hexec rfl (hb hbytes d7) rfl ?_
    exact Steps.refl _)
  have e0 : lo8 (ushr (Int32.ofNat B.slots.size - Int32.ofNat B.slots.size) 31) = 0 := by rw [Int32.sub_self]; decide
  rw [e0] at c3
  exact ⟨s₁, some (.int 0), _, _, _, X0, rfl, rfl, rfl, (fun h => by cases h), ⟨rfl, hh0⟩, fun fs hl => c3.trans (X0.ireturnOut hexec hret rfl (Or.inr (Or.inr (Or.inl rfl))) (hb hbytes d8) hl)⟩
end CodL
/-- the String at a is Latin-1 over a new byte[] (the heap's one new cell): the low bytes of the len chars of A from o on; every cell but a is kept -/
def Got (a : Addr) (D : Cell) (fV fC : Field) (A : Cell) (o len : Nat) (r : Option Value) (s u : State) : Prop := r = none ∧ ∃ D' V : Cell, Blank "java/lang/String" a D' u ∧ Same D D' [fV.slot, fC.slot] ∧ D'.slots[fV.slot]? = some (.ref s.heap.size) ∧ D'.slots[fC.slot]? = some (.int 0) ∧ Arr .byte s.heap.size V u ∧ V.vm = .none ∧ u.vm.findClass "[B" = some V.cls ∧ V.slots.size = len ∧ (∀ j, j < len → V.slots[j]? = some (.int (lo8 (cv A (o + j))))) ∧ (∀ (y : Addr) (c : Cell), y ≠ a → s.heap[y]? = some c → u.heap[y]? = some c) ∧ u.heap.size = s.heap.size + 1
theorem Got.mv {a : Addr} {D A : Cell} {fV fC : Field} {o len : Nat} : ∀ r (U U' V V' : State), U'.heap = U.heap → V.vm.Alike V'.vm → V'.heap = V.heap → Got a D fV fC A o len r U V → Got a D fV fC A o len r U' V' :=
  fun r U U' V V' h1 hal h2 ⟨e0, D', X, a1, a2, a3, a4, a5, a6, a7, a8, a9, a10, a11⟩ => ⟨e0, D', X, a1.mv hal h2, a2, by rw [h1]; exact a3, a4, by rw [h1]; exact a5.mv hal h2, a6, by rw [hal.findClass]; exact a7, a8, a9, by rw [h1, h2]; exact a10, by rw [h1, h2]; exact a11⟩
namespace New4
def yN : MethodName := ⟨"java/lang/String", "<init>", "([CIILjava/lang/Void;)V"⟩
abbrev yB : ByteArray := jdk_42_method_149_code
theorem d0 : decode yB 0 = .ok (.aload_n 0, 1) := by decide +kernel
theorem d1 : decode yB 1 = .ok (.invokespecial 1, 3) := by decide +kernel
theorem d4 : decode yB 4 = .ok (.iload_n 3, 1) := by decide +kernel
theorem d5 : decode yB 5 = .ok (.ifCond (.ne) 22, 3) := by decide +kernel
theorem d27 : decode yB 27 = .ok (.getstatic 38, 3) := by decide +kernel
theorem d30 : decode yB 30 = .ok (.ifCond (.eq) 28, 3) := by decide +kernel
theorem d33 : decode yB 33 = .ok (.aload_n 1, 1) := by decide +kernel
theorem d34 : decode yB 34 = .ok (.iload_n 2, 1) := by decide +kernel
theorem d35 : decode yB 35 = .ok (.iload_n 3, 1) := by decide +kernel
theorem d36 : decode yB 36 = .ok (.invokestatic 177, 3) := by decide +kernel
theorem d39 : decode yB 39 = .ok (.astore 5, 2) := by decide +kernel
theorem d41 : decode yB 41 = .ok (.aload_n 0, 1) := by decide +kernel
theorem d42 : decode yB 42 = .ok (.aload 5, 2) := by decide +kernel
theorem d44 : decode yB 44 = .ok (.iload_n 3, 1) := by decide +kernel
theorem d45 : decode yB 45 = .ok (.invokestatic 47, 3) := by decide +kernel
theorem d48 : decode yB 48 = .ok (.putfield 15, 3) := by decide +kernel
theorem d51 : decode yB 51 = .ok (.aload_n 0, 1) := by decide +kernel
theorem d52 : decode yB 52 = .ok (.aload 5, 2) := by decide +kernel
theorem d54 : decode yB 54 = .ok (.putfield 9, 3) := by decide +kernel
theorem d57 : decode yB 57 = .ok (.return_, 1) := by decide +kernel
def site : List Cond := [.fieldLink "java/lang/String" 38 "java/lang/String" "COMPACT_STRINGS" "Z", Cmp3.tab, CodL.tab, .laysFinal "java/lang/String" "java/lang/String" "value" "[B", .fieldLink "java/lang/String" 9 "java/lang/String" "value" "[B", .laysFinal "java/lang/String" "java/lang/String" "coder" "B", .fieldLink "java/lang/String" 15 "java/lang/String" "coder" "B"] ++ objW "java/lang/String" 1 ++ staticW "java/lang/String" 177 Cmp3.yN ++ staticW "java/lang/String" 47 CodL.yN
def tab : Cond := tabOf yN yB 6 none site
def P (a : Addr) (D : Cell) (fV fC : Field) (b : Addr) (A : Cell) (z : Int32) (o len : Nat) (args : Array Value) (s : State) : Prop := args = #[.ref a, .ref b, .int (Int32.ofNat o), .int (Int32.ofNat len), .null] ∧ Blank "java/lang/String" a D s ∧ Found "java/lang/String" "value" "[B" fV s ∧ Found "java/lang/String" "coder" "B" fC s ∧ Ch b A s ∧ StaticIs s "java/lang/String" "COMPACT_STRINGS" "Z" (.int z) ∧ ¬ z = 0 ∧ 0 < len ∧ o + len ≤ A.slots.size ∧ len ≤ 536870912 ∧ ∀ i, i < len → ¬ 255 < cv A (o + i)
def E (a : Addr) (D : Cell) (fV fC : Field) (A : Cell) (o len : Nat) (r : Option Value) (s u : State) : Prop := Got a D fV fC A o len r s u
/-- len > 0, no char of the range above 255: a Latin-1 String of their low bytes -/
theorem law (l : Launch) (a : Addr) (D : Cell) (fV fC : Field) (b : Addr) (A : Cell) (z : Int32) (o len : Nat) : Law l yN 5 4 2 35 yB 6 none site (P a D fV fC b A z o len) (E a D fV fC A o len) [⟨a, fC.slot⟩, ⟨a, fV.slot⟩] 1 len := by
  refine Law.of_walk (plainFor_of_name (by decide +kernel)) (by decide +kernel) (by decide +kernel) (by decide) (fun _ _ h => by rw [h.1]; rfl) (fun _ U U' hal hh h => ⟨h.1, h.2.1.mv hal hh, h.2.2.1.al hal, h.2.2.2.1.al hal, h.2.2.2.2.1.mv hal hh, h.2.2.2.2.2.1.there hal hh, h.2.2.2.2.2.2⟩) (fun r U U' V V' h1 hal h2 h => Got.mv r U U' V V' h1 hal h2 h) ?_
  intro p e s m args below meth c s₁ X0 hexec hbytes hml hret hlk hnm hown hh0 W hP
  obtain ⟨rfl, hB, f1, f2, hA, s1, hz, l0, l1, l2, hp⟩ := hP
  have a31 := hA.1.2.2.2
  have c1 : Steps p.tables e below (s₁.setTop (entryFrame m #[.ref a, .ref b, .int (Int32.ofNat o), .int (Int32.ofNat len), .null] 6)) (s₁.setTop (mkF m 0 #[.val (.ref a), .val (.ref b), .val (.int (Int32.ofNat o)), .val (.int (Int32.ofNat len)), .val .null, .unset] [])) := entry rfl
  have c2 : Steps p.tables e below (s₁.setTop (entryFrame m #[.ref a, .ref b, .int (Int32.ofNat o), .int (Int32.ofNat len), .null] 6)) (s₁.setTop (mkF m 1 #[.val (.ref a), .val (.ref b), .val (.int (Int32.ofNat o)), .val (.int (Int32.ofNat len)), .val .null, .unset] [.ref a])) := c1.trans (by
    refine XS.aloadN X0.here hexec rfl (hb hbytes d0) rfl rfl ?_
    exact Steps.refl _)
  obtain ⟨T3, X3, q3, st3⟩ := X0.oinit hexec hown (wks W (objW "java/lang/String" 1)) (g := (mkF m 1 #[.val (.ref a), .val (.ref b), .val (.int (Int32.ofNat o)), .val (.int (Int32.ofNat len)), .val .null, .unset] [.ref a])) rfl (by rw [hml]; rfl) (rest := []) rfl (hb hbytes d1) (W := 0) (by show 2 * 0 + 0 ≤ _; decide) (Nat.le_of_ble_eq_true rfl) (Nat.le_of_ble_eq_true rfl)
  have hh3 := q3.trans hh0
  have c4 : Steps p.tables e below (s₁.setTop (entryFrame m #[.ref a, .ref b, .int (Int32.ofNat o), .int (Int32.ofNat len), .null] 6)) (T3.setTop (mkF m 27 #[.val (.ref a), .val (.ref b), .val (.int (Int32.ofNat o)), .val (.int (Int32.ofNat len)), .val .null, .unset] [])) := (c2.trans (st3 _ (Steps.refl _))).trans (by
    refine XS.iloadN X3.here hexec rfl (hb hbytes d4) rfl ?_
    refine XS.ifYes X3.here hexec rfl (pc0 := 5) rfl (hb hbytes d5) rfl (i0_ne_t (nz32 (by omega) l0)) (by decide) rfl ?_
    exact Steps.refl _)
  obtain ⟨T5, X5, q5, st5⟩ := X3.sget hexec hown (wk W (.fieldLink "java/lang/String" 38 "java/lang/String" "COMPACT_STRINGS" "Z")) s1 (fun _ _ h => by rw [hh3]; exact h) (g := (mkF m 27 #[.val (.ref a), .val (.ref b), .val (.int (Int32.ofNat o)), .val (.int (Int32.ofNat len)), .val .null, .unset] [])) rfl (hb hbytes d27)
  have hh5 := q5.trans hh3
  have c6 : Steps p.tables e below (s₁.setTop (entryFrame m #[.ref a, .ref b, .int (Int32.ofNat o), .int (Int32.ofNat len), .null] 6)) (T5.setTop (mkF m 30 #[.val (.ref a), .val (.ref b), .val (.int (Int32.ofNat o)), .val (.int (Int32.ofNat len)), .val .null, .unset] [.int z])) := c4.trans (st5 _ (Steps.refl _))
  have c7 : Steps p.tables e below (s₁.setTop (entryFrame m #[.ref a, .ref b, .int (Int32.ofNat o), .int (Int32.ofNat len), .null] 6)) (T5.setTop (mkF m 36 #[.val (.ref a), .val (.ref b), .val (.int (Int32.ofNat o)), .val (.int (Int32.ofNat len)), .val .null, .unset] [.int (Int32.ofNat len), .int (Int32.ofNat o), .ref b])) := c6.trans (by
    refine XS.ifNo X5.here hexec rfl (hb hbytes d30) rfl (i0_eq_f hz) ?_
    refine XS.aloadN X5.here hexec rfl (hb hbytes d33) rfl rfl ?_
    refine XS.iloadN X5.here hexec rfl (hb hbytes d34) rfl ?_
    refine XS.iloadN X5.here hexec rfl (hb hbytes d35) rfl ?_
    exact Steps.refl _)
  obtain ⟨v8, T8, X8, E8, g8⟩ := X5.callS hexec (Cmp3.law l b A o len) hown (wks W (staticW "java/lang/String" 177 Cmp3.yN)) (wk W Cmp3.tab) (W := 0) (Nat.le_of_ble_eq_true rfl) (Nat.le_of_ble_eq_true rfl) (Nat.le_refl _) (by show 0 + len ≤ len; omega) (g := (mkF m 36 #[.val (.ref a), .val (.ref b), .val (.int (Int32.ofNat o)), .val (.int (Int32.ofNat len)), .val .null, .unset] [.int (Int32.ofNat len), .int (Int32.ofNat o), .ref b])) rfl (by rw [hml]; rfl) c7 (argsL := [.ref b, .int (Int32.ofNat o), .int (Int32.ofNat len)]) (rest := []) rfl rfl (by show 2 * 0 + 0 ≤ _; decide) (hb hbytes d36) (⟨rfl, hA.mv X5.warmed.alike hh5, l1, l2, hp⟩)
  obtain ⟨e8, z8⟩ := E8
  obtain ⟨rfl, N, n1, n2, n3, n4, n5, n6⟩ := NewArr.mv _ T5 s _ _ hh5.symm (Vm.Alike.refl _) rfl e8
  rw [hh5] at z8
  have hB1 := hB.keep X8.warmed.alike (n6 _ _ hB.1)
  have hne : s.heap.size ≠ a := (Nat.ne_of_lt (Array.getElem?_eq_some_iff.mp hB.1).1).symm
  have c9 : Steps p.tables e below (s₁.setTop (entryFrame m #[.ref a, .ref b, .int (Int32.ofNat o), .int (Int32.ofNat len), .null] 6)) (T8.setTop (mkF m 39 #[.val (.ref a), .val (.ref b), .val (.int (Int32.ofNat o)), .val (.int (Int32.ofNat len)), .val .null, .unset] [.ref s.heap.size])) := g8
  have c10 : Steps p.tables e below (s₁.setTop (entryFrame m #[.ref a, .ref b, .int (Int32.ofNat o), .int (Int32.ofNat len), .null] 6)) (T8.setTop (mkF m 45 #[.val (.ref a), .val (.ref b), .val (.int (Int32.ofNat o)), .val (.int (Int32.ofNat len)), .val .null, .val (.ref s.heap.size)] [.int (Int32.ofNat N.slots.size), .ref s.heap.size, .ref a])) := by
    have hc : Steps p.tables e below (s₁.setTop (entryFrame m #[.ref a, .ref b, .int (Int32.ofNat o), .int (Int32.ofNat len), .null] 6)) (T8.setTop (mkF m 45 #[.val (.ref a), .val (.ref b), .val (.int (Int32.ofNat o)), .val (.int (Int32.ofNat len)), .val .null, .val (.ref s.heap.size)] [.int (Int32.ofNat len), .ref s.heap.size, .ref a])) := c9.trans (by
      refine XS.astore X8.here hexec rfl (hb hbytes d39) rfl rfl rfl ?_
      refine XS.aloadN X8.here hexec rfl (hb hbytes d41) rfl rfl ?_
      refine XS.aload X8.here hexec rfl (hb hbytes d42) rfl rfl ?_
      refine XS.iloadN X8.here hexec rfl (hb hbytes d44) rfl ?_
      exact Steps.refl _)
    rw [n4]; exact hc
  obtain ⟨v11, T11, X11, E11, g11⟩ := X8.callS hexec (CodL.law l s.heap.size N) hown (wks W (staticW "java/lang/String" 47 CodL.yN)) (wk W CodL.tab) (W := 1) (Nat.le_of_ble_eq_true rfl) (Nat.le_of_ble_eq_true rfl) (Nat.le_refl _) (by show 0 + len + 0 ≤ len; omega) (g := (mkF m 45 #[.val (.ref a), .val (.ref b), .val (.int (Int32.ofNat o)), .val (.int (Int32.ofNat len)), .val .null, .val (.ref s.heap.size)] [.int (Int32.ofNat N.slots.size), .ref s.heap.size, .ref a])) rfl (by rw [hml]; rfl) c10 (argsL := [.ref s.heap.size, .int (Int32.ofNat N.slots.size)]) (rest := [.ref a]) rfl rfl (by show 2 * 0 + (1 + 0) ≤ _; decide) (hb hbytes d45) (⟨rfl, n1⟩)
  obtain ⟨rfl, q11⟩ := E11
  have hB11 := hB1.mv (X8.warmed.alike.symm.trans X11.warmed.alike) q11
  have c12 : Steps p.tables e below (s₁.setTop (entryFrame m #[.ref a, .ref b, .int (Int32.ofNat o), .int (Int32.ofNat len), .null] 6)) (T11.setTop (mkF m 48 #[.val (.ref a), .val (.ref b), .val (.int (Int32.ofNat o)), .val (.int (Int32.ofNat len)), .val .null, .val (.ref s.heap.size)] [.int 0, .ref a])) := g11
  obtain ⟨T13, X13, p13, bl13, sl13, st13⟩ := X11.finit hexec hown (wk W (.fieldLink "java/lang/String" 15 "java/lang/String" "coder" "B")) (Or.inr ⟨_, (wk W (.laysFinal "java/lang/String" "java/lang/String" "coder" "B"))⟩) (Or.inl ⟨rfl, hnm⟩) f2 (Or.inl rfl) hB11 (t := .byte) (by decide +kernel) rfl (g := (mkF m 48 #[.val (.ref a), .val (.ref b), .val (.int (Int32.ofNat o)), .val (.int (Int32.ofNat len)), .val .null, .val (.ref s.heap.size)] [.int 0, .ref a])) rfl (rest := []) rfl (hb hbytes d48)
  have c14 : Steps p.tables e below (s₁.setTop (entryFrame m #[.ref a, .ref b, .int (Int32.ofNat o), .int (Int32.ofNat len), .null] 6)) (T13.setTop (mkF m 54 #[.val (.ref a), .val (.ref b), .val (.int (Int32.ofNat o)), .val (.int (Int32.ofNat len)), .val .null, .val (.ref s.heap.size)] [.ref s.heap.size, .ref a])) := (c12.trans (st13 _ (Steps.refl _))).trans (by
    refine XS.aloadN X13.here hexec rfl (hb hbytes d51) rfl rfl ?_
    refine XS.aload X13.here hexec rfl (hb hbytes d52) rfl rfl ?_
    exact Steps.refl _)
  obtain ⟨T15, X15, p15, bl15, sl15, st15⟩ := X13.finit hexec hown (wk W (.fieldLink "java/lang/String" 9 "java/lang/String" "value" "[B")) (Or.inr ⟨_, (wk W (.laysFinal "java/lang/String" "java/lang/String" "value" "[B"))⟩) (Or.inl ⟨rfl, hnm⟩) f1 (Or.inl rfl) bl13 (t := (.array .byte)) (by decide +kernel) rfl (g := (mkF m 54 #[.val (.ref a), .val (.ref b), .val (.int (Int32.ofNat o)), .val (.int (Int32.ofNat len)), .val .null, .val (.ref s.heap.size)] [.ref s.heap.size, .ref a])) rfl (rest := []) rfl (hb hbytes d54)
  have c16 : Steps p.tables e below (s₁.setTop (entryFrame m #[.ref a, .ref b, .int (Int32.ofNat o), .int (Int32.ofNat len), .null] 6)) (T15.setTop (mkF m 57 #[.val (.ref a), .val (.ref b), .val (.int (Int32.ofNat o)), .val (.int (Int32.ofNat len)), .val .null, .val (.ref s.heap.size)] [])) := c14.trans (st15 _ (Steps.refl _))
  have ap := apart (Or.inr ⟨_, (wk W (.laysFinal "java/lang/String" "java/lang/String" "value" "[B"))⟩) (Or.inr ⟨_, (wk W (.laysFinal "java/lang/String" "java/lang/String" "coder" "B"))⟩) f1 f2 (t₁ := .array .byte) (t₂ := .byte) (by decide +kernel) (by decide +kernel) (by decide)
  have al := X8.warmed.alike.symm.trans X15.warmed.alike
  have n7 : T11.heap[s.heap.size]? = some N := by rw [q11]; exact n1.1
  exact ⟨T15, none, _, _, _, X15, by simp, rfl, by omega, (fun _ => rfl), ⟨rfl, _, N, bl15, ((Same.refl D _).set _ (by simp)).set _ (by simp), sl15, (Cell.slots_setSlot_ne _ ap).trans sl13, n1.keep al (p15.other hne (p13.other hne n7)), n2, by rw [al.findClass]; exact n3, n4, n5, fun y c h1 h2 => p15.other h1 (p13.other h1 (by rw [q11]; exact n6 y c h2)), by rw [p15.2.2, p13.2.2, q11]; exact z8⟩, fun fs hl => c16.trans (X15.returnOut hexec hret (hb hbytes d57) hl)⟩
end New4
namespace New1
def yN : MethodName := ⟨"java/lang/String", "<init>", "([C)V"⟩
abbrev yB : ByteArray := jdk_42_method_3_code
theorem d0 : decode yB 0 = .ok (.aload_n 0, 1) := by decide +kernel
theorem d1 : decode yB 1 = .ok (.aload_n 1, 1) := by decide +kernel
theorem d2 : decode yB 2 = .ok (.iconst 0, 1) := by decide +kernel
theorem d3 : decode yB 3 = .ok (.aload_n 1, 1) := by decide +kernel
theorem d4 : decode yB 4 = .ok (.arraylength, 1) := by decide +kernel
theorem d5 : decode yB 5 = .ok (.aconst_null, 1) := by decide +kernel
theorem d6 : decode yB 6 = .ok (.invokespecial 27, 3) := by decide +kernel
theorem d9 : decode yB 9 = .ok (.return_, 1) := by decide +kernel
def site : List Cond := [New4.tab] ++ initW "java/lang/String" 27 New4.yN
def tab : Cond := tabOf yN yB 2 none site
def P (a : Addr) (D : Cell) (fV fC : Field) (b : Addr) (A : Cell) (z : Int32) (args : Array Value) (s : State) : Prop := args = #[.ref a, .ref b] ∧ Blank "java/lang/String" a D s ∧ Found "java/lang/String" "value" "[B" fV s ∧ Found "java/lang/String" "coder" "B" fC s ∧ Ch b A s ∧ StaticIs s "java/lang/String" "COMPACT_STRINGS" "Z" (.int z) ∧ ¬ z = 0 ∧ 0 < A.slots.size ∧ A.slots.size ≤ 536870912 ∧ ∀ i, i < A.slots.size → ¬ 255 < cv A i
def E (a : Addr) (D : Cell) (fV fC : Field) (A : Cell) (r : Option Value) (s u : State) : Prop := Got a D fV fC A 0 A.slots.size r s u
/-- new String(chars), not empty, no char above 255: a Latin-1 String of their low bytes -/
theorem law (l : Launch) (a : Addr) (D : Cell) (fV fC : Field) (b : Addr) (A : Cell) (z : Int32) : Law l yN 2 1 3 52 yB 2 none site (P a D fV fC b A z) (E a D fV fC A) [⟨a, fC.slot⟩, ⟨a, fV.slot⟩] 1 A.slots.size := by
  refine Law.of_walk (plainFor_of_name (by decide +kernel)) (by decide +kernel) (by decide +kernel) (by decide) (fun _ _ h => by rw [h.1]; rfl) (fun _ U U' hal hh h => ⟨h.1, h.2.1.mv hal hh, h.2.2.1.al hal, h.2.2.2.1.al hal, h.2.2.2.2.1.mv hal hh, h.2.2.2.2.2.1.there hal hh, h.2.2.2.2.2.2⟩) (fun r U U' V V' h1 hal h2 h => Got.mv r U U' V V' h1 hal h2 h) ?_
  intro p e s m args below meth c s₁ X0 hexec hbytes hml hret hlk hnm hown hh0 W hP
  obtain ⟨rfl, hB, f1, f2, hA, s1, hz, l0, l2, hp⟩ := hP
  have c1 : Steps p.tables e below (s₁.setTop (entryFrame m #[.ref a, .ref b] 2)) (s₁.setTop (mkF m 0 #[.val (.ref a), .val (.ref b)] [])) := entry rfl
  have c2 : Steps p.tables e below (s₁.setTop (entryFrame m #[.ref a, .ref b] 2)) (s₁.setTop (mkF m 6 #[.val (.ref a), .val (.ref b)] [.null, .int (Int32.ofNat A.slots.size), .int 0, .ref b, .ref a])) := c1.trans (by
    refine XS.aloadN X0.here hexec rfl (hb hbytes d0) rfl rfl ?_
    refine XS.aloadN X0.here hexec rfl (hb hbytes d1) rfl rfl ?_
    refine iconstV X0.here hexec rfl 0 (hb hbytes d2) (by decide) ?_
    refine XS.aloadN X0.here hexec rfl (hb hbytes d3) rfl rfl ?_
    refine X0.alen hexec (hA.1.mv X0.warmed.alike hh0) rfl rfl (hb hbytes d4) ?_
    refine XS.aconstNull X0.here hexec rfl (hb hbytes d5) ?_
    exact Steps.refl _)
  obtain ⟨v3, T3, X3, E3, g3⟩ := X0.callN hexec (New4.law l a D fV fC b A z 0 A.slots.size) rfl hown (wks W (initW "java/lang/String" 27 New4.yN)) (W New4.tab (by simp only [site, List.mem_cons, List.mem_append, true_or, or_true])) (W := 0) (Nat.le_of_ble_eq_true rfl) (Nat.le_of_ble_eq_true rfl) (Nat.le_refl _) (by show 0 + A.slots.size ≤ A.slots.size; omega) (g := (mkF m 6 #[.val (.ref a), .val (.ref b)] [.null, .int (Int32.ofNat A.slots.size), .int (Int32.ofNat 0), .ref b, .ref a])) rfl (by rw [hml]; rfl) c2 (argsL := [.ref b, .int (Int32.ofNat 0), .int (Int32.ofNat A.slots.size), .null]) (rest := []) rfl rfl (by show 2 * 0 + 0 ≤ _; decide) (hb hbytes d6) (⟨rfl, hB.mv X0.warmed.alike hh0, f1.al X0.warmed.alike, f2.al X0.warmed.alike, hA.mv X0.warmed.alike hh0, s1.there X0.warmed.alike hh0, hz, l0, by omega, l2, fun i hi => by rw [Nat.zero_add]; exact hp i hi⟩)
  have e0 := Got.mv _ s₁ s _ _ hh0.symm (Vm.Alike.refl _) rfl E3
  obtain rfl := e0.1
  have c4 : Steps p.tables e below (s₁.setTop (entryFrame m #[.ref a, .ref b] 2)) (T3.setTop (mkF m 9 #[.val (.ref a), .val (.ref b)] [])) := g3
  exact ⟨T3, none, _, _, _, X3, by simp, rfl, by omega, (fun _ => rfl), e0, fun fs hl => c4.trans (X3.returnOut hexec hret (hb hbytes d9) hl)⟩
theorem pays {l : Launch} {R : Room} {p : Program} {e : Env} {below : List Frame} {s : State} {sargs : Array Value} {len W : Nat} (a : Addr) (D : Cell) (fV fC : Field) (b : Addr) (A : Cell) (z : Int32) (htab : tab.before sargs s = true) (hfr : 4 ≤ R.frames) (hlo : W + 65 ≤ R.locals) :
    Back l R p e below s sargs yN len W (fun A₁ a₁ => A₁.cells + 1 ≤ R.cells ∧ A₁.slots + A.slots.size ≤ R.slots ∧ P a D fV fC b A z a₁ A₁.U) (fun A₁ _ v₁ B₁ => E a D fV fC A v₁ A₁.U B₁.U ∧ B₁.locs = A₁.locs ++ [⟨a, fC.slot⟩, ⟨a, fV.slot⟩] ∧ B₁.cells = A₁.cells + 1 ∧ B₁.slots = A₁.slots + A.slots.size) :=
  (law l a D fV fC b A z).pays htab hfr (by omega)
end New1
end StrChars
namespace StrChars.Road
open Jvm Sem ClassFile Op Lib Jvm.Stand Jvm.Free Jvm.Free.XT
open Jvm.Lib.Cold (StaticIs)
abbrev ST : String := "java/lang/String"
/-- every table word that New1's law asks, flat -/
abbrev words : List Jvm.Cond := [.code New1.yN New1.yB 2 none, .initialized ST, .methodLink ST 27 New4.yN, .instanceMethod New4.yN,
  .code New4.yN New4.yB 6 none, .fieldLink ST 38 ST "COMPACT_STRINGS" "Z", .laysFinal ST ST "value" "[B", .fieldLink ST 9 ST "value" "[B", .laysFinal ST ST "coder" "B", .fieldLink ST 15 ST "coder" "B",
  .methodLink ST 1 Lib.objectInit, .instanceMethod Lib.objectInit, .code Lib.objectInit ⟨#[0xb1]⟩ 1 none, .methodLink ST 177 Cmp3.yN, .static Cmp3.yN, .methodLink ST 47 CodL.yN, .static CodL.yN,
  .code Cmp3.yN Cmp3.yB 6 (some (.array .byte)), .initialized U16, .arrayClass .byte, .methodLink U16 115 Cmp5.yN, .static Cmp5.yN, .code Cmp5.yN Cmp5.yB 7 (some .int), .code CodL.yN CodL.yB 2 (some .byte)]
theorem tab_of {a : Array Value} {s : State} (h : ∀ w ∈ words, w.before a s = true) : New1.tab.before a s = true := by
  have h5 : Cmp5.tab.before a s = true := unparts (wk h (.code Cmp5.yN Cmp5.yB 7 (some .int))) (wks h (.initialized Cmp5.yN.cls :: Cmp5.site))
  have hc : CodL.tab.before a s = true := unparts (wk h (.code CodL.yN CodL.yB 2 (some .byte))) (wks h (.initialized CodL.yN.cls :: CodL.site))
  have q5 : ∀ w ∈ Cmp5.tab :: words, w.before a s = true := fun w hw => (List.mem_cons.mp hw).elim (fun e => e ▸ h5) (h w)
  have h3 : Cmp3.tab.before a s = true := unparts (wk q5 (.code Cmp3.yN Cmp3.yB 6 (some (.array .byte)))) (wks q5 (.initialized Cmp3.yN.cls :: Cmp3.site))
  have q3 : ∀ w ∈ Cmp3.tab :: CodL.tab :: words, w.before a s = true := fun w hw => (List.mem_cons.mp hw).elim (fun e => e ▸ h3) fun hw => (List.mem_cons.mp hw).elim (fun e => e ▸ hc) (h w)
  have h4 : New4.tab.before a s = true := unparts (wk q3 (.code New4.yN New4.yB 6 none)) (wks q3 (.initialized New4.yN.cls :: New4.site))
  have q4 : ∀ w ∈ New4.tab :: words, w.before a s = true := fun w hw => (List.mem_cons.mp hw).elim (fun e => e ▸ h4) (h w)
  exact unparts (wk q4 (.code New1.yN New1.yB 2 none)) (wks q4 (.initialized New1.yN.cls :: New1.site))
/-- the words ride from the start Z to the walk's own state -/
theorem moved {Z s : State} {a0 args : Array Value} (hZ : Z.Warmed39 s.vm) (hw : ∀ d ∈ words, d.before a0 Z = true) : ∀ d ∈ words, d.before args s = true := fun d hd => by
  have q := hw d hd
  have t : ∀ d ∈ words, d = .arrayClass .byte ∨ (d.onTables && d.keepsFace) = true := by decide +kernel
  rcases t d hd with rfl | t
  · exact RoadKit.mvA hZ q
  · exact RoadKit.mv hZ q t
/-- WHAT COMES BACK, over the tables of the start Z: h the heap at the call, h' behind it -/
def Q (Z : State) (x : Addr) (A : Cell) (h : Heap) (v : Option Value) (h' : Heap) (L : List Loc) : Prop := v = none ∧ (∀ y ∈ L, y.base = x) ∧ RoadKit.Keep h h' [x] ∧ h'.size = h.size + 1 ∧ RoadKit.Exa Z h' x ST ∧ RoadKit.Fld Z h' x ST "value" "[B" (.ref h.size) ∧ RoadKit.Fld Z h' x ST "coder" "B" (.int 0) ∧
  (∃ V : Cell, RoadKit.Arr Z h' h.size V .byte ∧ V.vm = .none ∧ Z.vm.findClass "[B" = some V.cls ∧ V.slots.size = A.slots.size ∧ ∀ j, j < A.slots.size → V.slots[j]? = some (.int (lo8 (cv A j)))) ∧
  ∀ (O n d : String) (w : Value), RoadKit.Fld Z h x O n d w → RoadKit.slotOf Z O n d ≠ RoadKit.slotOf Z ST "value" "[B" → RoadKit.slotOf Z O n d ≠ RoadKit.slotOf Z ST "coder" "B" → RoadKit.Fld Z h' x O n d w
/-- **new String(chars) AT A CALL, IN THE ROAD'S FORM**: for specialBack behind newO: x the fresh String, b the char[] with the cell A -/
theorem back {p : Program} {l : Launch} {e : Env} {R : Room} {s : State} {args : Array Value} {below : List Frame} {len W : Nat} {Z : State} {a0 : Array Value} {h : Heap} (hZ : Z.Warmed39 s.vm) (hw : ∀ d ∈ words, d.before a0 Z = true) {kI : Nat} (wi : (Jvm.Cond.instantiable ST kI).before a0 Z = true)
    {x b : Addr} {A : Cell} {z : Int32} {v0 c0 : Value} (E : RoadKit.Exa Z h x ST) (V : RoadKit.Fld Z h x ST "value" "[B" v0) (C : RoadKit.Fld Z h x ST "coder" "B" c0) (K : RoadKit.Arr Z h b A .char) (hty : Typed .char A) (S : RoadKit.Sta Z h ST "COMPACT_STRINGS" "Z" (.int z)) (hz : ¬ z = 0)
    (l0 : 0 < A.slots.size) (l2 : A.slots.size ≤ 536870912) (hp : ∀ i, i < A.slots.size → ¬ 255 < cv A i) (hfr : 4 ≤ R.frames) (hlo : W + 65 ≤ R.locals) :
    Back l R p e below s args New1.yN len W (fun P a => a = #[.ref x, .ref b] ∧ P.U.heap = h ∧ P.cells + 1 ≤ R.cells ∧ P.slots + A.slots.size ≤ R.slots)
      (fun P _ v B => ∃ L, Q Z x A h v B.U.heap L ∧ B.locs = P.locs ++ L ∧ B.cells = P.cells + 1 ∧ B.slots = P.slots + A.slots.size) := by
  intro m meth c P g ig mk a X hg hsize hdg hW hn hp'
  obtain ⟨rfl, rfl, r1, r2⟩ := hp'
  have al : Z.vm.Alike P.U.vm := hZ.alike.trans X.warmed.alike
  obtain ⟨D, cfV, kV, iV, fV, hD, gV, stV, knV, obV, asV, slV⟩ := id V
  obtain ⟨D', cfC, kC, iC, fC, hD', gC, stC, -, -, asC, slC⟩ := id C
  cases hD.symm.trans hD'
  obtain ⟨D2, kD, e1, e2, e3, e4, e5⟩ := id E
  cases hD.symm.trans e1
  obtain ⟨c2, k2, i1, i2, i3, -⟩ := Cond.instantiable_spec wi
  cases e2.symm.trans i1
  cases e3.symm.trans i2
  obtain ⟨kU, u1, u2⟩ := al.2.2 _ _ e3
  have hB : Blank ST x D P.U := ⟨hD, ⟨knV, fun q hq => by rw [hq] at obV; cases obV⟩, by rw [al.findClass]; exact e2, kU, u1, by rw [u2]; exact i3, by rw [u2]; exact e5 i3⟩
  have F1 : Found ST "value" "[B" fV P.U := ⟨SBG.found_only al ⟨cfV, kV, iV, gV⟩, stV⟩
  have F2 : Found ST "coder" "B" fC P.U := ⟨SBG.found_only al ⟨cfC, kC, iC, gC⟩, stC⟩
  have hA : Ch b A P.U := ⟨⟨K.1, State.isArrayOf_alike al K.2.1, K.2.2, by omega⟩, hty⟩
  have hS : StaticIs P.U ST "COMPACT_STRINGS" "Z" (.int z) := by
    obtain ⟨cfS, iS, kS, fS, st, cS, t1, t2, t3, t4, t5, t6, t7⟩ := S
    exact StaticIs.there (s := { Z with heap := P.U.heap }) ⟨cfS, iS, kS, fS, st, cS, t1, t2, t3, t4, t5, (fun q => by rw [q] at t6; cases t6), t7⟩ al rfl
  obtain ⟨v, B, X', ⟨⟨hv, E', V', q1, q2, q3, q4, q5, q6, q7, q8, q9, q10, q11⟩, hl, hc, hs⟩, st⟩ := New1.pays x D fV fC b A z (tab_of (moved hZ hw)) hfr hlo m meth c P g ig mk _ X hg hsize hdg hW hn ⟨r1, r2, rfl, hB, F1, F2, hA, hS, hz, l0, l2, hp⟩
  have al' : Z.vm.Alike B.U.vm := hZ.alike.trans X'.warmed.alike
  have hsz : E'.slots.size = D.slots.size := by
    obtain ⟨-, -, -, kB, w1, w2, w3⟩ := q1
    obtain ⟨kB', y1, y2⟩ := al'.2.2 _ _ e3
    rw [q2.2.1] at w1
    cases w1.symm.trans y1
    rw [w3, e5 i3, y2]
  refine ⟨v, B, X', ⟨_, ⟨hv, ?_, ⟨by omega, fun y cy hy hn' => q10 y cy (by simpa using hn') hy, fun y cy hy => ?_⟩, q11, ⟨E', _, q1.1, by rw [q2.2.1]; exact e2, by rw [q2.2.1]; exact e3, by rw [q2.1]; exact obV, fun _ => by rw [hsz]; exact e5 i3⟩,
    ⟨E', cfV, kV, iV, fV, q1.1, gV, stV, by rw [q2.1]; exact knV, by rw [q2.1]; exact obV, by rw [q2.2.1]; exact asV, q3⟩, ⟨E', cfC, kC, iC, fC, q1.1, gC, stC, by rw [q2.1]; exact knV, by rw [q2.1]; exact obV, by rw [q2.2.1]; exact asC, q4⟩,
    ⟨V', ⟨q5.1, State.isArrayOf_alike al'.symm q5.2.1, q5.2.2.1⟩, q6, by rw [← al'.findClass]; exact q7, q8, fun j hj => by have := q9 j hj; rwa [Nat.zero_add] at this⟩, fun O n d w F n1 n2 => ?_⟩, hl, hc, hs⟩, st⟩
  · intro y hy
    simp only [List.mem_cons, List.not_mem_nil, or_false] at hy
    rcases hy with rfl | rfl <;> rfl
  · by_cases q : y = x
    · subst q
      cases hD.symm.trans hy
      exact ⟨E', q1.1, q2.2.1, q2.1, hsz⟩
    · exact ⟨cy, q10 y cy q hy, rfl, rfl, rfl⟩
  · obtain ⟨D3, cf, k, i, f, g1, g2, g3, g4, g5, g6, g7⟩ := F
    cases hD.symm.trans g1
    simp only [RoadKit.slotOf, g2, gV, gC, Option.map_some, Option.getD_some] at n1 n2
    exact ⟨E', cf, k, i, f, q1.1, g2, g3, by rw [q2.1]; exact g4, by rw [q2.1]; exact g5, by rw [q2.2.1]; exact g6, by rw [q2.2.2 f.slot (by simp [n1, n2])]; exact g7⟩
end StrChars.Road
namespace StrChars.Road
open Jvm Sem ClassFile Op Lib Jvm.Stand Jvm.Free Jvm.Free.XT
/-- WHAT COMES BACK, the byte[] as a list of values -/
def QA (Z : State) (x : Addr) (zn : Int32) (cs : List Int32) (h : Heap) (v : Option Value) (h' : Heap) (L : List Loc) : Prop := v = none ∧ (∀ y ∈ L, y.base = x) ∧ RoadKit.Keep h h' [x] ∧ h'.size = h.size + 1 ∧ RoadKit.Exa Z h' x ST ∧ RoadKit.Fld Z h' x ST "value" "[B" (.ref h.size) ∧ RoadKit.Fld Z h' x ST "coder" "B" (.int 0) ∧
  (∃ kb, Z.vm.findClass "[B" = some kb ∧ RoadKit.Arv Z h' h.size kb .byte zn (cs.map fun c => .int (lo8 c)) (.int 0)) ∧
  ∀ (O n d : String) (w : Value), RoadKit.Fld Z h x O n d w → RoadKit.slotOf Z O n d ≠ RoadKit.slotOf Z ST "value" "[B" → RoadKit.slotOf Z O n d ≠ RoadKit.slotOf Z ST "coder" "B" → RoadKit.Fld Z h' x O n d w
/-- **new String(chars) AT A CALL, THE ARRAYS AS LISTS**: the char[] at b holds cs, not empty, no char above 255 -/
theorem backArv {p : Program} {l : Launch} {e : Env} {R : Room} {s : State} {args : Array Value} {below : List Frame} {len W : Nat} {Z : State} {a0 : Array Value} {h : Heap} (hZ : Z.Warmed39 s.vm) (hw : ∀ d ∈ words, d.before a0 Z = true) {kI : Nat} (wi : (Jvm.Cond.instantiable ST kI).before a0 Z = true)
    {x b : Addr} {k : ClassId} {zn z : Int32} {cs : List Int32} {dv v0 c0 : Value} (E : RoadKit.Exa Z h x ST) (V : RoadKit.Fld Z h x ST "value" "[B" v0) (C : RoadKit.Fld Z h x ST "coder" "B" c0) (K : RoadKit.Arv Z h b k .char zn (cs.map Value.int) dv) (S : RoadKit.Sta Z h ST "COMPACT_STRINGS" "Z" (.int z)) (hz : ¬ z = 0)
    (hlen : zn.toNatClampNeg = cs.length) (h0 : 0 < cs.length) (hbig : cs.length ≤ 536870912) (hall : ∀ c ∈ cs, ¬ 255 < c) (hfr : 4 ≤ R.frames) (hlo : W + 65 ≤ R.locals) :
    Back l R p e below s args New1.yN len W (fun P a => a = #[.ref x, .ref b] ∧ P.U.heap = h ∧ P.cells + 1 ≤ R.cells ∧ P.slots + cs.length ≤ R.slots)
      (fun P _ v B => ∃ L, QA Z x zn cs h v B.U.heap L ∧ B.locs = P.locs ++ L ∧ B.cells = P.cells + 1 ∧ B.slots = P.slots + cs.length) := by
  obtain ⟨A, K1, K2, K3, K4, K5, K6⟩ := K
  have e : A.slots.size = cs.length := K3.trans hlen
  have hat : ∀ (i : Nat) (hi : i < cs.length), A.slots[i]? = some (.int cs[i]) := fun i hi => by rw [K5 i (by omega)]; simp [List.getD_eq_getElem?_getD, hi]
  have hcv : ∀ (i : Nat) (hi : i < cs.length), cv A i = cs[i] := fun i hi => by unfold cv; rw [hat i hi]
  have hty : Typed .char A := fun i v hv => by
    have hi : i < A.slots.size := (Array.getElem?_eq_some_iff.mp hv).1
    have q := K5 i hi
    rw [hv] at q
    rw [Option.some.inj q]
    exact K6 i hi
  refine Back.mono (back hZ hw wi E V C K1 hty S hz (by omega) (by omega) (fun i hi => by rw [hcv i (by omega)]; exact hall _ (List.getElem_mem _)) hfr hlo) (fun P a hp => ⟨hp.1, hp.2.1, hp.2.2.1, by rw [e]; exact hp.2.2.2⟩) (fun P a v B hp hq => ?_)
  obtain ⟨L, ⟨q1, q2, q3, q4, q5, q6, q7, ⟨V', v1, v2, v3, v4, v5⟩, q9⟩, hl, hc, hs⟩ := hq
  refine ⟨L, ⟨q1, q2, q3, q4, q5, q6, q7, ⟨V'.cls, v3, V', v1, rfl, by rw [v4, e, hlen], K4, fun i hi => ?_, fun i hi => ?_⟩, q9⟩, hl, hc, by rw [hs, e]⟩
  · have hi' : i < cs.length := by omega
    rw [v5 i (by omega), hcv i hi']; simp [List.getD_eq_getElem?_getD, hi']
  · have hi' : i < cs.length := by omega
    simp only [List.getD_eq_getElem?_getD, List.getElem?_map, List.getElem?_eq_getElem hi', Option.map_some, Option.getD_some]
    exact fits_lo8 _
end StrChars.Road
namespace StrChars.Road
open Jvm Sem ClassFile Op Lib Jvm.Stand Jvm.Free Jvm.Free.XT
/-- WHAT COMES BACK, in the writer's own shape -/
def QV (Z : State) (x : Addr) (N : Int32) (bs : List Int32) (h : Heap) (n0 : Nat) (v : Option Value) (h' : Heap) (L : List Loc) : Prop := v = none ∧ RoadKit.Fr n0 L ∧ RoadKit.Keep h h' [x] ∧ RoadKit.Exa Z h' x ST ∧ RoadKit.Fld Z h' x ST "coder" "B" (.int 0) ∧
  ∃ (t : Addr) (kb : ClassId), n0 ≤ t ∧ h.size ≤ t ∧ ¬ t = x ∧ RoadKit.Fld Z h' x ST "value" "[B" (.ref t) ∧ RoadKit.Arv Z h' t kb .byte N (bs.map Value.int) (.int 0)
/-- **new String(chars) AT A CALL, FOR THE WRITER**: a char[] of n known ints, each 0 to 255 -/
theorem backV {p : Program} {l : Launch} {e : Env} {R : Room} {s : State} {args : Array Value} {below : List Frame} {len W : Nat} {Z : State} {a0 : Array Value} {h : Heap} (hZ : Z.Warmed39 s.vm) (hw : ∀ d ∈ words, d.before a0 Z = true) {kI : Nat} (wi : (Jvm.Cond.instantiable ST kI).before a0 Z = true)
    {x b : Addr} {kC : ClassId} {cs bs : List Int32} {d v0 c0 : Value} {z N : Int32} {n n0 : Nat} (hx0 : n0 ≤ x) (hh0 : n0 ≤ h.size) (E : RoadKit.Exa Z h x ST) (V : RoadKit.Fld Z h x ST "value" "[B" v0) (C : RoadKit.Fld Z h x ST "coder" "B" c0) (K : RoadKit.Arv Z h b kC .char N (cs.map Value.int) d) (S : RoadKit.Sta Z h ST "COMPACT_STRINGS" "Z" (.int z)) (hz : ¬ z = 0)
    (hn : cs.length = n) (hN : N = Int32.ofNat n) (l0 : 0 < n) (l2 : n ≤ 4000) (hp : ∀ c ∈ cs, ¬ c < 0 ∧ ¬ (255 : Int32) < c) (hb : bs = cs.map (fun c => c.toInt8.toInt32)) (hfr : 4 ≤ R.frames) (hlo : W + 65 ≤ R.locals) :
    Back l R p e below s args (⟨"java/lang/String", "<init>", "([C)V"⟩ : MethodName) len W (fun P a => a = #[.ref x, .ref b] ∧ P.U.heap = h ∧ P.cells + 1 ≤ R.cells ∧ P.slots + n ≤ R.slots)
      (fun P _ v B => ∃ L, QV Z x N bs h n0 v B.U.heap L ∧ B.locs = P.locs ++ L ∧ B.cells = P.cells + 1 ∧ B.slots = P.slots + n) := by
  subst hn hN hb
  refine Back.mono (backArv hZ hw wi E V C K S hz (n32 (by omega)) l0 (by omega) (fun c hc => (hp c hc).2) hfr hlo) (fun P a hp => hp) (fun P a v B hp hq => ?_)
  obtain ⟨L, ⟨q1, q2, q3, q4, q5, q6, q7, ⟨kb, v1, v2⟩, q9⟩, hl, hc, hs⟩ := hq
  exact ⟨L, ⟨q1, fun y hy => by rw [q2 y hy]; exact hx0, q3, q5, q7, h.size, kb, hh0, Nat.le_refl _, Nat.ne_of_gt E.lt, q6, by rw [List.map_map]; exact v2⟩, hl, hc, hs⟩
end StrChars.Road
namespace StrChars
open Jvm Sem ClassFile Op Lib Jvm.Stand Jvm.Free.XT Jvm.Free.ALB Jvm.Free.JM Jvm.Free
open Jvm.Lib.Cold (StaticIs)
def hi8 (x : Int32) : Int32 := lo8 (x >>> ((8 : Int32) &&& 31))
theorem shr0 (c : Int32) : c >>> ((0 : Int32) &&& 31) = c := by
  have e : ((0 : Int32) &&& 31) = 0 := by decide
  rw [e]
  apply Int32.toBitVec_inj.mp
  rw [Int32.toBitVec_shiftRight]
  have e1 : ((0 : Int32).toBitVec.smod 32) = 0#32 := by decide
  rw [e1, BitVec.sshiftRight_eq']
  exact BitVec.sshiftRight_zero
end StrChars
namespace StrChars
open Jvm Sem ClassFile Op Lib Jvm.Stand Jvm.Free.XT Jvm.Free.ALB Jvm.Free.JM Jvm.Free
open Jvm.Lib.Cold (StaticIs)
theorem shr1 {n : Nat} (h : 2 * n < 2 ^ 31) : Int32.ofNat (2 * n) >>> ((1 : Int32) &&& 31) = Int32.ofNat n := by
  have e : ((1 : Int32) &&& 31) = 1 := by decide
  rw [e]
  apply Int32.toBitVec_inj.mp
  rw [Int32.toBitVec_shiftRight]
  have e1 : ((1 : Int32).toBitVec.smod 32) = 1#32 := by decide
  have hm : (BitVec.ofNat 32 (2 * n)).toNat = 2 * n := by rw [BitVec.toNat_ofNat, Nat.mod_eq_of_lt (by omega)]
  rw [e1, BitVec.sshiftRight_eq']
  apply BitVec.eq_of_toNat_eq
  show ((BitVec.ofNat 32 (2 * n)).sshiftRight 1).toNat = (BitVec.ofNat 32 n).toNat
  rw [BitVec.toNat_sshiftRight_of_msb_false (by rw [BitVec.msb_eq_false_iff_two_mul_lt, hm]; omega), hm, BitVec.toNat_ofNat, Nat.shiftRight_eq_div_pow]
  omega
/-- the array's cell V codes the n chars f 0 .. f (n - 1) by the coder cd, as the JDK does: coder 1 just where some char is above 255 -/
def Cod (cd : Int32) (n : Nat) (f : Nat → Int32) (V : Cell) : Prop := (cd = 0 ∧ V.slots.size = n ∧ ∀ j, j < n → V.slots[j]? = some (.int (lo8 (f j))) ∧ ¬ 255 < f j) ∨ (cd = 1 ∧ V.slots.size = 2 * n ∧ (∀ j, j < n → V.slots[2 * j]? = some (.int (lo8 (f j))) ∧ V.slots[2 * j + 1]? = some (.int (hi8 (f j)))) ∧ ∃ j, j < n ∧ 255 < f j)
theorem Cod.cd {cd : Int32} {n : Nat} {f : Nat → Int32} {V : Cell} (h : Cod cd n f V) : cd = 0 ∨ cd = 1 := h.imp (fun q => q.1) fun q => q.1
theorem Cod.len {cd : Int32} {n : Nat} {f : Nat → Int32} {V : Cell} (h : Cod cd n f V) (hs : V.slots.size < 2 ^ 31) : Int32.ofNat V.slots.size >>> (cd &&& 31) = Int32.ofNat n := by
  rcases h with ⟨rfl, h, -⟩ | ⟨rfl, h, -⟩
  · rw [shr0, h]
  · rw [h, shr1 (by omega)]
/-- **x is a String of the n chars f 0 .. f (n - 1)**, Latin-1 or UTF-16; its array at t has the cell V -/
def Txt (x t : Addr) (V : Cell) (cd : Int32) (n : Nat) (f : Nat → Int32) (U : State) : Prop := Exact "java/lang/String" x U ∧ Has x "java/lang/String" "value" "[B" (.ref t) U ∧ Has x "java/lang/String" "coder" "B" (.int cd) U ∧ XT.Arr .byte t V U ∧ Cod cd n f V ∧ ∀ j, j < n → ¬ f j < 0 ∧ ¬ 65535 < f j
theorem Txt.mv {x t : Addr} {V : Cell} {cd : Int32} {n : Nat} {f : Nat → Int32} {U U' : State} (h : Txt x t V cd n f U) (hal : U.vm.Alike U'.vm) (hh : U'.heap = U.heap) : Txt x t V cd n f U' := ⟨h.1.mv hal hh, h.2.1.mv hal hh, h.2.2.1.mv hal hh, h.2.2.2.1.mv hal hh, h.2.2.2.2⟩
namespace Cdr
def yN : MethodName := ⟨"java/lang/String", "coder", "()B"⟩
abbrev yB : ByteArray := jdk_42_method_152_code
theorem d0 : decode yB 0 = .ok (.getstatic 38, 3) := by decide +kernel
theorem d3 : decode yB 3 = .ok (.ifCond (.eq) 10, 3) := by decide +kernel
theorem d6 : decode yB 6 = .ok (.aload_n 0, 1) := by decide +kernel
theorem d7 : decode yB 7 = .ok (.getfield 15, 3) := by decide +kernel
theorem d10 : decode yB 10 = .ok (.goto 4, 3) := by decide +kernel
theorem d14 : decode yB 14 = .ok (.ireturn, 1) := by decide +kernel
def site : List Cond := [.fieldLink "java/lang/String" 38 "java/lang/String" "COMPACT_STRINGS" "Z", .fieldLink "java/lang/String" 15 "java/lang/String" "coder" "B"]
def tab : Cond := tabOf yN yB 1 (some .byte) site
def P (x : Addr) (cd z : Int32) (args : Array Value) (s : State) : Prop := args = #[.ref x] ∧ Has x "java/lang/String" "coder" "B" (.int cd) s ∧ (cd = 0 ∨ cd = 1) ∧ StaticIs s "java/lang/String" "COMPACT_STRINGS" "Z" (.int z) ∧ ¬ z = 0
def E (cd : Int32) (r : Option Value) (s u : State) : Prop := XT.PureE (some (.int cd)) r s u
theorem law (l : Launch) (x : Addr) (cd z : Int32) : Law l yN 1 0 0 0 yB 1 (some .byte) site (P x cd z) (E cd) [] 0 0 := by
  refine Law.of_walk (plainFor_of_name (by decide +kernel)) (by decide +kernel) (by decide +kernel) (by decide) (fun _ _ h => by rw [h.1]; rfl) (fun _ U U' hal hh h => ⟨h.1, h.2.1.mv hal hh, h.2.2.1, h.2.2.2.1.there hal hh, h.2.2.2.2⟩) (fun r U U' V V' h1 hal h2 h => XT.PureE.mv r U U' V V' h1 hal h2 h) ?_
  intro p e s m args below meth c s₁ X0 hexec hbytes hml hret hlk hnm hown hh0 W hP
  obtain ⟨rfl, hx, hc, s1, hz⟩ := hP
  have c1 : Steps p.tables e below (s₁.setTop (entryFrame m #[.ref x] 1)) (s₁.setTop (mkF m 0 #[.val (.ref x)] [])) := entry rfl
  obtain ⟨T2, X2, q2, st2⟩ := X0.sget hexec hown (wk W (.fieldLink "java/lang/String" 38 "java/lang/String" "COMPACT_STRINGS" "Z")) s1 (fun _ _ h => by rw [hh0]; exact h) (g := (mkF m 0 #[.val (.ref x)] [])) rfl (hb hbytes d0)
  have hh2 := q2.trans hh0
  have c3 : Steps p.tables e below (s₁.setTop (entryFrame m #[.ref x] 1)) (T2.setTop (mkF m 7 #[.val (.ref x)] [.ref x])) := (c1.trans (st2 _ (Steps.refl _))).trans (by
    refine XS.ifNo X2.here hexec rfl (hb hbytes d3) rfl (i0_eq_f hz) ?_
    refine XS.aloadN X2.here hexec rfl (hb hbytes d6) rfl rfl ?_
    exact Steps.refl _)
  obtain ⟨T4, X4, q4, st4⟩ := X2.hget hexec hown (wk W (.fieldLink "java/lang/String" 15 "java/lang/String" "coder" "B")) (hx.mv X2.warmed.alike hh2) (g := (mkF m 7 #[.val (.ref x)] [.ref x])) rfl (rest := []) rfl (hb hbytes d7)
  have c5 : Steps p.tables e below (s₁.setTop (entryFrame m #[.ref x] 1)) (T4.setTop (mkF m 14 #[.val (.ref x)] [.int cd])) := (c3.trans (st4 _ (Steps.refl _))).trans (by
    refine XS.goto X4.here hexec rfl (pc0 := 10) rfl (hb hbytes d10) (by decide) rfl ?_
    exact Steps.refl _)
  exact ⟨T4, some (.int cd), _, _, _, X4, rfl, rfl, rfl, (fun h => by cases h), ⟨rfl, q4.trans hh2⟩, fun fs hl => c5.trans (X4.ireturnOut hexec hret (by rcases hc with rfl | rfl <;> rfl) (Or.inr (Or.inr (Or.inl rfl))) (hb hbytes d14) hl)⟩
end Cdr
namespace Len
def yN : MethodName := ⟨"java/lang/String", "length", "()I"⟩
abbrev yB : ByteArray := jdk_42_method_54_code
theorem d0 : decode yB 0 = .ok (.aload_n 0, 1) := by decide +kernel
theorem d1 : decode yB 1 = .ok (.getfield 9, 3) := by decide +kernel
theorem d4 : decode yB 4 = .ok (.arraylength, 1) := by decide +kernel
theorem d5 : decode yB 5 = .ok (.aload_n 0, 1) := by decide +kernel
theorem d6 : decode yB 6 = .ok (.invokevirtual 335, 3) := by decide +kernel
theorem d9 : decode yB 9 = .ok (.ishr, 1) := by decide +kernel
theorem d10 : decode yB 10 = .ok (.ireturn, 1) := by decide +kernel
def site : List Cond := [.fieldLink "java/lang/String" 9 "java/lang/String" "value" "[B", Cdr.tab] ++ virtW "java/lang/String" 335 "java/lang/String" Cdr.yN Cdr.yN
def tab : Cond := tabOf yN yB 1 (some .int) site
def P (x t : Addr) (V : Cell) (cd : Int32) (n : Nat) (f : Nat → Int32) (z : Int32) (args : Array Value) (s : State) : Prop := args = #[.ref x] ∧ Txt x t V cd n f s ∧ StaticIs s "java/lang/String" "COMPACT_STRINGS" "Z" (.int z) ∧ ¬ z = 0
def E (n : Nat) (r : Option Value) (s u : State) : Prop := XT.PureE (some (.int (Int32.ofNat n))) r s u
/-- length() of a String of n chars, in either coding -/
theorem law (l : Launch) (x t : Addr) (V : Cell) (cd : Int32) (n : Nat) (f : Nat → Int32) (z : Int32) : Law l yN 1 0 1 13 yB 1 (some .int) site (P x t V cd n f z) (E n) [] 0 0 := by
  refine Law.of_walk (plainFor_of_name (by decide +kernel)) (by decide +kernel) (by decide +kernel) (by decide) (fun _ _ h => by rw [h.1]; rfl) (fun _ U U' hal hh h => ⟨h.1, h.2.1.mv hal hh, h.2.2.1.there hal hh, h.2.2.2⟩) (fun r U U' V V' h1 hal h2 h => XT.PureE.mv r U U' V V' h1 hal h2 h) ?_
  intro p e s m args below meth c s₁ X0 hexec hbytes hml hret hlk hnm hown hh0 W hP
  obtain ⟨rfl, hx, s1, hz⟩ := hP
  have v31 := hx.2.2.2.1.2.2.2
  have c1 : Steps p.tables e below (s₁.setTop (entryFrame m #[.ref x] 1)) (s₁.setTop (mkF m 1 #[.val (.ref x)] [.ref x])) := Steps.trans (entry rfl) (by
    show Steps p.tables e below (s₁.setTop (mkF m 0 #[.val (.ref x)] [])) _
    refine XS.aloadN X0.here hexec rfl (hb hbytes d0) rfl rfl ?_
    exact Steps.refl _)
  obtain ⟨T2, X2, q2, st2⟩ := X0.hget hexec hown (wk W (.fieldLink "java/lang/String" 9 "java/lang/String" "value" "[B")) (hx.mv X0.warmed.alike hh0).2.1 (g := (mkF m 1 #[.val (.ref x)] [.ref x])) rfl (rest := []) rfl (hb hbytes d1)
  have hh2 := q2.trans hh0
  have hx2 := hx.mv X2.warmed.alike hh2
  have c3 : Steps p.tables e below (s₁.setTop (entryFrame m #[.ref x] 1)) (T2.setTop (mkF m 6 #[.val (.ref x)] [.ref x, .int (Int32.ofNat V.slots.size)])) := (c1.trans (st2 _ (Steps.refl _))).trans (by
    refine X2.alen hexec hx2.2.2.2.1 rfl rfl (hb hbytes d4) ?_
    refine XS.aloadN X2.here hexec rfl (hb hbytes d5) rfl rfl ?_
    exact Steps.refl _)
  obtain ⟨v4, T4, X4, E4, g4⟩ := X2.callV hexec (Cdr.law l x cd z) hown (wks W (virtW "java/lang/String" 335 "java/lang/String" Cdr.yN Cdr.yN)) rfl (by decide) (wk W Cdr.tab) (W := 1) (Nat.le_of_ble_eq_true rfl) (Nat.le_of_ble_eq_true rfl) (Nat.le_refl _) (Nat.le_refl _) (hx2.1.fc X2.warmed.alike) hx2.1.is (g := (mkF m 6 #[.val (.ref x)] [.ref x, .int (Int32.ofNat V.slots.size)])) rfl (by rw [hml]; rfl) c3 (argsL := []) (rest := [.int (Int32.ofNat V.slots.size)]) rfl rfl (by show 2 * 0 + (1 + 0) ≤ _; decide) (hb hbytes d6) (⟨rfl, hx2.2.2.1, hx.2.2.2.2.1.cd, s1.there X2.warmed.alike hh2, hz⟩)
  obtain ⟨rfl, q4⟩ := E4
  have c5 : Steps p.tables e below (s₁.setTop (entryFrame m #[.ref x] 1)) (T4.setTop (mkF m 10 #[.val (.ref x)] [.int (Int32.ofNat V.slots.size >>> (cd &&& 31))])) := Steps.trans g4 (by
    refine ishr X4.here hexec rfl (hb hbytes d9) rfl ?_
    exact Steps.refl _)
  rw [hx.2.2.2.2.1.len v31] at c5
  exact ⟨T4, some (.int (Int32.ofNat n)), _, _, _, X4, rfl, rfl, rfl, (fun h => by cases h), ⟨rfl, q4.trans hh2⟩, fun fs hl => c5.trans (X4.ireturnOut hexec hret rfl (Or.inl rfl) (hb hbytes d10) hl)⟩
theorem pays {l : Launch} {R : Room} {p : Program} {e : Env} {below : List Frame} {s : State} {sargs : Array Value} {len W : Nat} (x t : Addr) (V : Cell) (cd : Int32) (n : Nat) (f : Nat → Int32) (z : Int32) (htab : tab.before sargs s = true) (hfr : 2 ≤ R.frames) (hlo : W + 25 ≤ R.locals) :
    Back l R p e below s sargs yN len W (fun A₁ a₁ => A₁.cells + 0 ≤ R.cells ∧ A₁.slots + 0 ≤ R.slots ∧ P x t V cd n f z a₁ A₁.U) (fun A₁ _ v₁ B₁ => E n v₁ A₁.U B₁.U ∧ B₁.locs = A₁.locs ++ [] ∧ B₁.cells = A₁.cells + 0 ∧ B₁.slots = A₁.slots + 0) :=
  (law l x t V cd n f z).pays htab hfr (by omega)
end Len
end StrChars
namespace StrChars.Road
open Jvm Sem ClassFile Op Lib Jvm.Stand Jvm.Free Jvm.Free.XT
open Jvm.Lib.Cold (StaticIs)
theorem consq {a : Array Value} {s : State} {c : Jvm.Cond} {L : List Jvm.Cond} (h0 : c.before a s = true) (h : ∀ w ∈ L, w.before a s = true) : ∀ w ∈ c :: L, w.before a s = true := fun w hw => (List.mem_cons.mp hw).elim (fun e => e ▸ h0) (h w)
/-- the words of String.length(), either coding -/
abbrev wordsLen : List Jvm.Cond := [.code Len.yN Len.yB 1 (some .int), .initialized ST, .fieldLink ST 9 ST "value" "[B", .fieldLink ST 38 ST "COMPACT_STRINGS" "Z", .fieldLink ST 15 ST "coder" "B", .code Cdr.yN Cdr.yB 1 (some .byte), .methodLink ST 335 Cdr.yN, .declares Cdr.yN, .selects ST Cdr.yN Cdr.yN, .instanceMethod Cdr.yN]
theorem tabLen_of {a : Array Value} {s : State} (h : ∀ w ∈ wordsLen, w.before a s = true) : Len.tab.before a s = true := by
  have hc : Cdr.tab.before a s = true := unparts (wk h (.code Cdr.yN Cdr.yB 1 (some .byte))) (wks h (.initialized Cdr.yN.cls :: Cdr.site))
  have q := consq hc h
  exact unparts (wk q (.code Len.yN Len.yB 1 (some .int))) (wks q (.initialized Len.yN.cls :: Len.site))
theorem movedLen {Z s : State} {a0 args : Array Value} (hZ : Z.Warmed39 s.vm) (hw : ∀ d ∈ wordsLen, d.before a0 Z = true) : ∀ d ∈ wordsLen, d.before args s = true := fun d hd => by
  have q := hw d hd
  have t : ∀ d ∈ wordsLen, d = .arrayClass .byte ∨ (d.onTables && d.keepsFace) = true := by decide +kernel
  rcases t d hd with rfl | t
  · exact RoadKit.mvA hZ q
  · exact RoadKit.mv hZ q t
/-- the bytes of the chars cs, low before high -/
def wideBytes : List Int32 → List Value
  | [] => []
  | c :: cs => .int (lo8 c) :: .int (hi8 c) :: wideBytes cs
theorem wide_lo (d : Value) : ∀ (cs : List Int32) (j : Nat), j < cs.length → (wideBytes cs).getD (2 * j) d = .int (lo8 (cs.getD j 0))
  | [], j, h => absurd h (Nat.not_lt_zero j)
  | c :: cs, 0, _ => rfl
  | c :: cs, j + 1, h => by
    have q := wide_lo d cs j (by simpa using h)
    rw [show 2 * (j + 1) = 2 * j + 1 + 1 from by omega]
    simpa [wideBytes] using q
theorem wide_hi (d : Value) : ∀ (cs : List Int32) (j : Nat), j < cs.length → (wideBytes cs).getD (2 * j + 1) d = .int (hi8 (cs.getD j 0))
  | [], j, h => absurd h (Nat.not_lt_zero j)
  | c :: cs, 0, _ => rfl
  | c :: cs, j + 1, h => by
    have q := wide_hi d cs j (by simpa using h)
    rw [show 2 * (j + 1) + 1 = 2 * j + 1 + 1 + 1 from by omega]
    simpa [wideBytes] using q
theorem low_at (d : Value) (cs : List Int32) (j : Nat) (h : j < cs.length) : (cs.map fun c => Value.int (lo8 c)).getD j d = .int (lo8 (cs.getD j 0)) := by
  simp [List.getD_eq_getElem?_getD, h]
/-- an array of N2 bytes vs codes the chars cs by the coder cd -/
def CodA (cs : List Int32) (cd N2 : Int32) (vs : List Value) : Prop := (cd = 0 ∧ N2 = Int32.ofNat cs.length ∧ vs = (cs.map fun c => Value.int (lo8 c)) ∧ ∀ c ∈ cs, ¬ 255 < c) ∨ (cd = 1 ∧ N2 = Int32.ofNat (2 * cs.length) ∧ vs = wideBytes cs ∧ ∃ c ∈ cs, 255 < c)
theorem CodA.cod {cs : List Int32} {cd N2 : Int32} {vs : List Value} {V : Cell} (h : CodA cs cd N2 vs) (hn : 2 * cs.length < 2 ^ 31) (hs : V.slots.size = N2.toNatClampNeg) (hv : RoadKit.Has V vs (.int 0)) : Cod cd cs.length (fun j => cs.getD j 0) V := by
  rcases h with ⟨rfl, rfl, rfl, h⟩ | ⟨rfl, rfl, rfl, c, hc, hw⟩
  · rw [n32 (by omega)] at hs
    exact Or.inl ⟨rfl, hs, fun j hj => ⟨by rw [hv j (by omega), low_at _ _ _ hj], by
      have e : cs.getD j 0 = cs[j] := by simp [List.getD_eq_getElem?_getD, hj]
      show ¬ 255 < cs.getD j 0
      rw [e]; exact h _ (List.getElem_mem _)⟩⟩
  · rw [n32 (by omega)] at hs
    obtain ⟨j, hj, rfl⟩ := List.getElem_of_mem hc
    exact Or.inr ⟨rfl, hs, fun j hj => ⟨by rw [hv _ (by omega), wide_lo _ _ _ hj], by rw [hv _ (by omega), wide_hi _ _ _ hj]⟩, j, hj, by
      have e : cs.getD j 0 = cs[j] := by simp [List.getD_eq_getElem?_getD, hj]
      show 255 < cs.getD j 0
      rw [e]; exact hw⟩
/-- an object of exactly java/lang/String, its two fields found: as the laws ask it -/
theorem strObj {Z U : State} {a0 : Array Value} {kI : Nat} (wi : (Jvm.Cond.instantiable ST kI).before a0 Z = true) (al : Z.vm.Alike U.vm) {x : Addr} {v0 c0 : Value} (E : RoadKit.Exa Z U.heap x ST) (V : RoadKit.Fld Z U.heap x ST "value" "[B" v0) (C : RoadKit.Fld Z U.heap x ST "coder" "B" c0) :
    ∃ (D : Cell) (fV fC : Field), Blank ST x D U ∧ Found ST "value" "[B" fV U ∧ Found ST "coder" "B" fC U ∧ D.slots[fV.slot]? = some v0 ∧ D.slots[fC.slot]? = some c0 ∧ RoadKit.slotOf Z ST "value" "[B" = fV.slot ∧ RoadKit.slotOf Z ST "coder" "B" = fC.slot := by
  obtain ⟨D, cfV, kV, iV, fV, hD, gV, stV, knV, obV, asV, slV⟩ := V
  obtain ⟨D', cfC, kC, iC, fC, hD', gC, stC, -, -, asC, slC⟩ := C
  cases hD.symm.trans hD'
  obtain ⟨D2, kD, e1, e2, e3, e4, e5⟩ := E
  cases hD.symm.trans e1
  obtain ⟨c2, k2, i1, i2, i3, -⟩ := Cond.instantiable_spec wi
  cases e2.symm.trans i1
  cases e3.symm.trans i2
  obtain ⟨kU, u1, u2⟩ := al.2.2 _ _ e3
  exact ⟨D, fV, fC, ⟨hD, ⟨knV, fun q hq => by rw [hq] at obV; cases obV⟩, by rw [al.findClass]; exact e2, kU, u1, by rw [u2]; exact i3, by rw [u2]; exact e5 i3⟩, ⟨SBG.found_only al ⟨cfV, kV, iV, gV⟩, stV⟩, ⟨SBG.found_only al ⟨cfC, kC, iC, gC⟩, stC⟩, slV, slC, by simp [RoadKit.slotOf, gV], by simp [RoadKit.slotOf, gC]⟩
theorem sta_is {Z U : State} (al : Z.vm.Alike U.vm) {C n d : String} {v : Value} (S : RoadKit.Sta Z U.heap C n d v) : StaticIs U C n d v := by
  obtain ⟨cfS, iS, kS, fS, st, cS, t1, t2, t3, t4, t5, t6, t7⟩ := S
  exact StaticIs.there (s := { Z with heap := U.heap }) ⟨cfS, iS, kS, fS, st, cS, t1, t2, t3, t4, t5, (fun q => by rw [q] at t6; cases t6), t7⟩ al rfl
/-- **length() OF SUCH A STRING** -/
theorem lenW {p : Program} {l : Launch} {e : Env} {R : Room} {s : State} {args : Array Value} {below : List Frame} {len W : Nat} {Z : State} {a0 : Array Value} {h : Heap} (hZ : Z.Warmed39 s.vm) (hw : ∀ d ∈ wordsLen, d.before a0 Z = true) {kI : Nat} (wi : (Jvm.Cond.instantiable ST kI).before a0 Z = true)
    {x t : Addr} {kb : ClassId} {cs : List Int32} {cd N2 z : Int32} {vs : List Value} (E : RoadKit.Exa Z h x ST) (V : RoadKit.Fld Z h x ST "value" "[B" (.ref t)) (C : RoadKit.Fld Z h x ST "coder" "B" (.int cd)) (K : RoadKit.Arv Z h t kb .byte N2 vs (.int 0)) (hc : CodA cs cd N2 vs) (hb : ∀ c ∈ cs, ¬ c < 0 ∧ ¬ (65535 : Int32) < c)
    (S : RoadKit.Sta Z h ST "COMPACT_STRINGS" "Z" (.int z)) (hz : ¬ z = 0) (l2 : cs.length ≤ 4000) (hfr : 2 ≤ R.frames) (hlo : W + 25 ≤ R.locals) :
    Back l R p e below s args (⟨"java/lang/String", "length", "()I"⟩ : MethodName) len W (fun P a => a = #[.ref x] ∧ P.U.heap = h ∧ P.cells + 0 ≤ R.cells ∧ P.slots + 0 ≤ R.slots)
      (fun P _ v B => ∃ L, (v = some (.int (Int32.ofNat cs.length)) ∧ L = [] ∧ B.U.heap = h) ∧ B.locs = P.locs ++ L ∧ B.cells = P.cells + 0 ∧ B.slots = P.slots + 0) := by
  obtain ⟨A, K1, K2, K3, K4, K5, K6⟩ := K
  have hcod := hc.cod (by omega) K3 K5
  intro m meth c P g ig mk a X hg hsize hdg hW hn hp'
  obtain ⟨rfl, rfl, r1, r2⟩ := hp'
  have al : Z.vm.Alike P.U.vm := hZ.alike.trans X.warmed.alike
  obtain ⟨D, fV, fC, hB, F1, F2, g1, g2, -, -⟩ := strObj wi al E V C
  have hx : Txt x t A cd cs.length (fun j => cs.getD j 0) P.U := ⟨⟨_, hB.2.2.1, D, hB.1, rfl, by cases q : D.vm <;> first | rfl | exact absurd q (hB.2.1.2 _)⟩, Has.of hB F1 g1, Has.of hB F2 g2, ⟨K1.1, State.isArrayOf_alike al K1.2.1, K1.2.2, by rcases hcod with ⟨-, q, -⟩ | ⟨-, q, -⟩ <;> omega⟩, hcod, fun j hj => by
    have e : cs.getD j 0 = cs[j] := by simp [List.getD_eq_getElem?_getD, hj]
    show ¬ cs.getD j 0 < 0 ∧ ¬ 65535 < cs.getD j 0
    rw [e]; exact hb _ (List.getElem_mem _)⟩
  obtain ⟨v, B, X', ⟨⟨hv, hh⟩, hl, hk, hs⟩, st⟩ := Len.pays x t A cd cs.length (fun j => cs.getD j 0) z (tabLen_of (movedLen hZ hw)) hfr hlo m meth c P g ig mk _ X hg hsize hdg hW hn ⟨r1, r2, rfl, hx, sta_is al S, hz⟩
  exact ⟨v, B, X', ⟨[], ⟨hv, rfl, hh⟩, hl, hk, hs⟩, st⟩
end StrChars.Road
namespace StrChars.Road
open Jvm Sem ClassFile Op Lib Jvm.Stand Jvm.Free Jvm.Free.XT
open Jvm.Lib.Cold (StaticIs)
/-- what backV says of its String, as the contracts of this text ask it: cs's low bytes, coder 0 -/
theorem codOf {cs : List Int32} {n : Nat} (hn : cs.length = n) (hb : ∀ c ∈ cs, ¬ 255 < c) : CodA cs 0 (Int32.ofNat n) ((cs.map lo8).map Value.int) := Or.inl ⟨rfl, by rw [hn], by simp [List.map_map, Function.comp_def], hb⟩
end StrChars.Road
end Jvm.Pilot.@@N@@
namespace Jvm.Pilot.@@N@@
def own_ushr (x y : Int32) : Int32 := (x.toUInt32 >>> (y &&& 31).toUInt32).toInt32
def own_ushrL (x : Int64) (y : Int32) : Int64 := (x.toUInt64 >>> (y &&& 0x3f).toInt64.toUInt64).toInt64
def own_cmpL (x y : Int64) : Int32 := if x > y then 1 else if x = y then 0 else -1
open Jvm Jvm.ClassFile Sem Op Lib Jvm.Free Jvm.Stand Jvm.LawKit Jvm.RoadKit Bundle Jvm.Pilot.@@N@@.Jvm.D
theorem own_rem_eq (x y : Int32) : x - x / y * y = x % y := by
  apply Int32.toInt_inj.mp
  have h := Int.tmod_add_mul_tdiv x.toInt y.toInt
  have e : (x % y).toInt = (x % y).toInt.bmod (2 ^ 32) := (Int.bmod_eq_of_le (Int32.le_toInt _) (Int32.toInt_lt _)).symm
  rw [e, Int32.toInt_sub, Int32.toInt_mul, Int32.toInt_div, Int32.toInt_mod, Int.sub_bmod_bmod, Int.sub_bmod, Int.bmod_mul_bmod, ← Int.sub_bmod]
  congr 1
  rw [Int.mul_comm (x.toInt.tdiv y.toInt)]
  omega
theorem own_W {a0 : Array Value} {Z : State} (hw : ∀ d ∈ tables_1, d.before a0 Z = true) (i : Nat) {d : Jvm.Cond} (h : tables_1[i]? = some d) : d.before a0 Z = true := hw d (List.mem_of_getElem? h)
theorem own_and255 (x : Int32) : ¬ nar .char ((x &&& (255 : Int32)).toUInt32.toUInt16.toUInt32.toInt32) < 0 ∧ ¬ (255 : Int32) < nar .char ((x &&& (255 : Int32)).toUInt32.toUInt16.toUInt32.toInt32) := by
  have t : ∀ k : Fin 256, ¬ nar .char ((Int32.ofNat k.val).toUInt32.toUInt16.toUInt32.toInt32) < 0 ∧ ¬ (255 : Int32) < nar .char ((Int32.ofNat k.val).toUInt32.toUInt16.toUInt32.toInt32) := by decide +kernel
  have h : (x &&& 255).toBitVec.toNat < 256 := by
    simp only [Int32.toBitVec_and, BitVec.toNat_and]
    exact Nat.lt_succ_of_le Nat.and_le_right
  have e : (x &&& 255) = Int32.ofNat (x &&& 255).toBitVec.toNat := by
    apply Int32.toBitVec_inj.mp
    show _ = BitVec.ofNat 32 _
    rw [BitVec.ofNat_toNat]; simp
  rw [e]
  exact t ⟨_, h⟩
theorem own_up (cs : List Int32) (h : ∀ c ∈ cs, ¬ c < 0 ∧ ¬ (255 : Int32) < c) : ∀ c ∈ cs, ¬ c < 0 ∧ ¬ (65535 : Int32) < c := fun c hc => ⟨(h c hc).1, fun q => (h c hc).2 (by rw [Int32.lt_iff_toInt_lt] at q ⊢; have e1 : (65535 : Int32).toInt = 65535 := rfl; have e2 : (255 : Int32).toInt = 255 := rfl; omega)⟩
theorem own_narb (y : Int32) : nar .byte (StrChars.lo8 y) = StrChars.lo8 y := by
  show (y.toInt8.toInt32).toInt8.toInt32 = y.toInt8.toInt32
  simp
theorem own_charnat (c : Int32) (h0 : ¬ c < 0) (h1 : ¬ (65535 : Int32) < c) : c.toBitVec.toNat < 65536 := by
  rw [Int32.lt_iff_toInt_lt] at h0 h1
  have e0 : (0 : Int32).toInt = 0 := rfl
  have e1 : (65535 : Int32).toInt = 65535 := rfl
  have e2 : c.toInt = c.toBitVec.toInt := rfl
  rw [e0, e2] at h0; rw [e1, e2] at h1
  have := BitVec.toInt_eq_toNat_cond c.toBitVec
  have := c.toBitVec.isLt
  split at * <;> omega
theorem own_narc (c : Int32) (h0 : ¬ c < 0) (h1 : ¬ (65535 : Int32) < c) : nar .char c = c := by
  have h := own_charnat c h0 h1
  apply Int32.toBitVec_inj.mp
  apply BitVec.eq_of_toNat_eq
  show (c.toUInt32.toUInt16.toUInt32).toNat = c.toUInt32.toNat
  have e : c.toUInt32.toNat = c.toBitVec.toNat := rfl
  simp only [UInt16.toNat_toUInt32, UInt32.toNat_toUInt16]
  rw [e]; omega
/-- x is a String of the chars cs at h, its two cells below k -/
def StrB (Z : State) (h : Heap) (k : Nat) (a : Addr) (cs : List Int32) : Prop := a < k ∧ Exa Z h a "java/lang/String" ∧ ∃ (t : Addr) (kb : ClassId) (cd N2 : Int32) (vs : List Value), t < k ∧ Fld Z h a "java/lang/String" "value" "[B" (.ref t) ∧ Fld Z h a "java/lang/String" "coder" "B" (.int cd) ∧ Arv Z h t kb .byte N2 vs (.int 0) ∧ StrChars.Road.CodA cs cd N2 vs ∧ (∀ c ∈ cs, ¬ c < 0 ∧ ¬ (65535 : Int32) < c) ∧ cs.length ≤ 4000
theorem StrB.ext {Z : State} {h h' : Heap} {k : Nat} {a : Addr} {cs : List Int32} (F : StrB Z h k a cs) (E : Ext h h') : StrB Z h' k a cs := by
  obtain ⟨a1, a2, t, kb, cd, N2, vs, b1, b2, b3, b4, r⟩ := F
  exact ⟨a1, a2.ext E, t, kb, cd, N2, vs, b1, b2.ext E, b3.ext E, b4.ext E, r⟩
theorem own_notin {x : Addr} {k : Nat} {ws : List Addr} (h : x < k) (q : ∀ y ∈ ws, k ≤ y) : x ∉ ws := fun z => absurd h (Nat.not_lt.mpr (q x z))
theorem StrB.keep {Z : State} {h h' : Heap} {k : Nat} {a : Addr} {cs : List Int32} {ws : List Addr} (F : StrB Z h k a cs) (K : Keep h h' ws) (q : ∀ x ∈ ws, k ≤ x) : StrB Z h' k a cs := by
  obtain ⟨a1, a2, t, kb, cd, N2, vs, b1, b2, b3, b4, r⟩ := F
  exact ⟨a1, a2.keep K, t, kb, cd, N2, vs, b1, b2.keep K (own_notin a1 q), b3.keep K (own_notin a1 q), b4.keep K (own_notin b1 q), r⟩
theorem StrB.wr {Z : State} {h h' : Heap} {k : Nat} {a x : Addr} {cs : List Int32} {sl : Nat} {v : Value} (F : StrB Z h k a cs) (W : Wr h h' x sl v) (q : k ≤ x) : StrB Z h' k a cs := F.keep (Keep.of_wr W) (allS q all0)
theorem StrB.now {Z : State} {h : Heap} {k : Nat} {a : Addr} {cs : List Int32} (F : StrB Z h k a cs) : StrB Z h h.size a cs := by
  obtain ⟨a1, a2, t, kb, cd, N2, vs, b1, b2, b3, b4, r⟩ := F
  exact ⟨a2.lt, a2, t, kb, cd, N2, vs, b4.lt, b2, b3, b4, r⟩
theorem StrB.exa {Z : State} {h : Heap} {k : Nat} {a : Addr} {cs : List Int32} (F : StrB Z h k a cs) : Exa Z h a "java/lang/String" := F.2.1
theorem own_lenS {p : Program} {l : Launch} {e : Env} {R : Room} {s : State} {args : Array Value} {below : List Frame} {len W : Nat} {Z : State} {a0 : Array Value} {h : Heap} (hZ : Z.Warmed39 s.vm) (hw : ∀ d ∈ StrChars.Road.wordsLen, d.before a0 Z = true) {kI : Nat} (wi : (Jvm.Cond.instantiable "java/lang/String" kI).before a0 Z = true)
    {x : Addr} {k : Nat} {cs : List Int32} (F : StrB Z h k x cs) {z : Int32} (S : Sta Z h "java/lang/String" "COMPACT_STRINGS" "Z" (.int z)) (hz : ¬ z = 0) (hfr : 2 ≤ R.frames) (hlo : W + 25 ≤ R.locals) :
    Back l R p e below s args (⟨"java/lang/String", "length", "()I"⟩ : MethodName) len W (fun P a => a = #[.ref x] ∧ P.U.heap = h ∧ P.cells + 0 ≤ R.cells ∧ P.slots + 0 ≤ R.slots)
      (fun P _ v B => ∃ L, (v = some (.int (Int32.ofNat cs.length)) ∧ L = [] ∧ B.U.heap = h) ∧ B.locs = P.locs ++ L ∧ B.cells = P.cells + 0 ∧ B.slots = P.slots + 0) := by
  obtain ⟨_, E1, t, kb, cd, N2, vs, _, V1, C1, K1, hc, hb, hl⟩ := F
  exact StrChars.Road.lenW hZ hw wi E1 V1 C1 K1 hc hb S hz hl hfr hlo
abbrev own_EL : List (String × Nat) := [("java/lang/String", 7)]
theorem own_EW {Z : State} {a0 : Array Value} (hw : ∀ d ∈ tables_1, d.before a0 Z = true) : EW Z a0 own_EL := (EW.cons (own_W hw 137 rfl) (by decide) EW.nil)
def own_J (Z : State) (EL : List (String × Nat)) (xs : List Addr) (h : Heap) (vm : Vm) : Prop := CHv Z EL vm h ∧ ∀ x ∈ xs, Safe Z EL vm h x
theorem own_backX {p : Program} {l : Launch} {e : Env} {R : Room} {s : State} {args : Array Value} {below : List Frame} {Z : State} {a0 : Array Value} {EL : List (String × Nat)} {h : Heap} {vm0 : Vm} {y : MethodName} {bytes : ByteArray} {maxL : Nat} {ret : Option FieldType} {rm : Room} {len W : Nat} {as' : Array Value} {Q : Option Value → Heap → List Loc → Prop} {xs : List Addr}
    (hM : MetFree l y (head1 [Jvm.Cond.code y bytes maxL ret] rm) (fun a U => a = as' ∧ Z.Warmed39 U.vm ∧ U.heap = h ∧ own_J Z EL xs h U.vm) (fun _ _ _ _ _ => True) (fun _ U o U' => ∃ v L, o = .returned v ∧ Q v U'.heap L ∧ CHr Z EL U.vm U.heap U'.vm U'.heap ∧ ReturnedEndW U o U' L rm.cells rm.slots))
    (hZ : Z.Warmed39 vm0) (wc : (Jvm.Cond.code y bytes maxL ret).before a0 Z = true) (wz : (Jvm.Cond.initialized y.cls).before a0 Z = true) (hf : rm.frames + 1 ≤ R.frames) (hl : W + (maxL + 11) + rm.locals ≤ R.locals) (hEL : EW Z a0 EL) (H : own_J Z EL xs h vm0) (hlt : ∀ x ∈ xs, x < h.size) :
    BackS l R p e below (s.setVm vm0) args y len W (fun A a => a = as' ∧ A.U.heap = h ∧ A.cells + rm.cells ≤ R.cells ∧ A.slots + rm.slots ≤ R.slots)
      (fun A _ v B => ∃ L, Q v B.U.heap L ∧ B.locs = A.locs ++ L ∧ B.cells = A.cells + rm.cells ∧ B.slots = A.slots + rm.slots ∧ CHr Z EL vm0 h B.U.vm B.U.heap) := by
  refine BackS.of_freeW (bytes := bytes) (maxL := maxL) (ret := ret) (E := fun _ first o t L k n => k = rm.cells ∧ n = rm.slots ∧ (∃ v, o = .returned v ∧ Q v t.heap L) ∧ CHr Z EL first.vm first.heap t.vm t.heap) hM hf hl ?_ ?_ (fun _ _ _ _ _ _ _ _ _ => trivial) ?_ ?_
  · intro m meth c A a Y hp
    have hU : Z.Warmed39 A.U.vm := wtrans (s := s.setVm vm0) hZ Y.warmed
    exact ⟨by show (Jvm.Cond.and _ .tt).before a A.U = true; rw [Cond.before_and, mv hU wc]; rfl, mv hU wc, mv hU wz, hp.2.2.1, hp.2.2.2⟩
  · intro m meth c A a g mk Y hp
    have hr := CHv.at Y hZ hEL H.1
    exact ⟨hp.1, wtrans (s := s.setVm vm0) hZ Y.warmed, hp.2.1, hr.1, fun x hx => hr.safe (hlt x hx) (H.2 x hx)⟩
  · rintro _ _ _ _ ⟨v, L, h1, h2, h3, h4⟩
    exact ⟨L, _, _, h4, rfl, rfl, ⟨v, h1, h2⟩, h3⟩
  · rintro m meth c A a g mk v t L k n Y hp _ _ ⟨e1, e2, ⟨v', e3, e4⟩, e5⟩
    cases e3; subst e1 e2
    refine ⟨L, e4, rfl, rfl, rfl, (CHv.at Y hZ hEL H.1).trans ?_⟩
    rw [← hp.2.1]; exact e5

theorem own_pn_7 : plainName "java/lang/StringLatin1" = true := by decide +kernel
theorem own_d10_0 : decode jdk_43_method_3_code 0 = .ok (.iload_n 0, 1) := by decide +kernel
theorem own_d10_1 : decode jdk_43_method_3_code 1 = .ok (.sipush 255, 3) := by decide +kernel
theorem own_d10_4 : decode jdk_43_method_3_code 4 = .ok (.if_icmp .gt 7, 3) := by decide +kernel
theorem own_d10_7 : decode jdk_43_method_3_code 7 = .ok (.iconst 1, 1) := by decide +kernel
theorem own_d10_8 : decode jdk_43_method_3_code 8 = .ok (.goto 4, 3) := by decide +kernel
theorem own_d10_12 : decode jdk_43_method_3_code 12 = .ok (.ireturn, 1) := by decide +kernel
theorem own_ef_can (m : MethodId) (x0 : Int32) : entryFrame m #[(.int x0)] 1 = mkF m 0 #[iv x0] [] := by first | (simp [entryFrame, mkF, argsToLocals, Value.category]; done) | rfl
def Q_can (Z : State) (c1 : Int32) (h0 : Heap) (n0 : Nat) (v : Option Value) (h : Heap) (L : List Loc) : Prop := v = some (.int 1) ∧ Fr n0 L ∧ h = h0
set_option maxRecDepth 65536 in
set_option maxHeartbeats 40000000 in
theorem rm_can (l : Launch) (Z : State) (a0 : Array Value) (hw : ∀ d ∈ tables_1, d.before a0 Z = true) (ws : List Jvm.Cond) (c1 : Int32) (h0 : Heap) (n0 : Nat) (Z0 : n0 ≤ h0.size) (hc : ¬ (255 : Int32) < c1) :
    MetFree l (⟨"java/lang/StringLatin1", "canEncode", "(C)Z"⟩ : MethodName) (head1 (Jvm.Cond.code (⟨"java/lang/StringLatin1", "canEncode", "(C)Z"⟩ : MethodName) jdk_43_method_3_code 1 (some .boolean) :: ws) ({ frames := 0, cells := 0, slots := 0, locals := 0 } : Room)) (fun a U => a = #[(.int c1)] ∧ Z.Warmed39 U.vm ∧ U.heap = h0) (fun _ _ _ _ _ => True) (fun _ U o U' => ∃ v L, o = .returned v ∧ Q_can Z c1 h0 n0 v U'.heap L ∧ FrameEnd U o U' L ({ frames := 0, cells := 0, slots := 0, locals := 0 } : Room).cells ({ frames := 0, cells := 0, slots := 0, locals := 0 } : Room).slots) := by
  refine MetFree.of_bodySF (plainFor_of_name own_pn_7) hisR ?_
  intro p e s m args below meth c s₁ Bd hml0 hP hK
  obtain ⟨rfl, hZ, hh⟩ := hP
  have hx := Bd.exec
  have hby := Bd.bytes
  have hml : c.maxLocals = 1 := hml0
  have hown : s.vm.findClass "java/lang/StringLatin1" = some m.cls := findClass_of_methodNamed Bd.named
  have hnm := (name_of_methodNamed Bd.named Bd.method).1
  have W := own_W hw
  have X0 : Stand p l e ({ frames := 0, cells := 0, slots := 0, locals := 0 } : Room) s m #[(.int c1)] below meth c s₁ [] 0 0 := Stand.of_body Bd
  have e0 : s₁.heap = h0 := by rw [← hh, Bd.state]; rfl
  have N0 := Fr.nil n0
  have pre0 : ∀ tq, Steps p.tables e below (s₁.setTop (mkF m 0 #[iv c1] [])) tq → Steps p.tables e below (s₁.setTop (entryFrame m #[(.int c1)] 1)) tq := fun tq k => castTop (own_ef_can m c1) k
  obtain ⟨fs, hr, hrun, hended, hW, hsame⟩ := X0.leave (v := some (.int (1 : Int32))) (fun h => by rw [Bd.returns] at h; cases h)
  refine ⟨_, _, pre0 _ (?_), hrun, hended, _, _, rfl, ?_, ⟨_, rfl⟩, hW, hsame.mono (by decide) (by decide)⟩
  · show Steps p.tables e below (s₁.setTop (mkF m 0 #[iv c1] [])) _
    refine XS.iloadN X0.here hx rfl (hb hby own_d10_0) rfl ?_
    show Steps _ _ _ (s₁.setTop (mkF m 1 _ [.int c1])) _
    refine XS.sipush X0.here hx rfl (hb hby own_d10_1) ?_
    show Steps _ _ _ (s₁.setTop (mkF m 4 _ [.int 255, .int c1])) _
    refine XS.icmpNo X0.here hx rfl (hb hby own_d10_4) rfl (flt (hc : ¬ ((255 : Int32) < c1))).2.2.1 ?_
    show Steps _ _ _ (s₁.setTop (mkF m 7 _ [])) _
    refine XS.iconst X0.here hx rfl (hb hby own_d10_7) ?_
    show Steps _ _ _ (s₁.setTop (mkF m 8 _ [.int 1])) _
    refine XS.goto X0.here hx rfl (pc0 := 8) (pc' := 12) rfl (hb hby own_d10_8) (by decide) (by decide) ?_
    show Steps _ _ _ (s₁.setTop (mkF m 12 _ [.int 1])) _
    exact retN X0 hx (t := .boolean) Bd.returns (by simp) (hb hby own_d10_12) hr
  · show Q_can Z c1 h0 n0 _ s₁.heap _
    rw [e0]
    exact ⟨rfl, N0, rfl⟩
theorem own_d11_0 : decode jdk_43_method_46_code 0 = .ok (.iconst 1, 1) := by decide +kernel
theorem own_d11_1 : decode jdk_43_method_46_code 1 = .ok (.newarray .byte, 2) := by decide +kernel
theorem own_d11_3 : decode jdk_43_method_46_code 3 = .ok (.dup, 1) := by decide +kernel
theorem own_d11_4 : decode jdk_43_method_46_code 4 = .ok (.iconst 0, 1) := by decide +kernel
theorem own_d11_5 : decode jdk_43_method_46_code 5 = .ok (.iload_n 0, 1) := by decide +kernel
theorem own_d11_6 : decode jdk_43_method_46_code 6 = .ok (.i2b, 1) := by decide +kernel
theorem own_d11_7 : decode jdk_43_method_46_code 7 = .ok (.bastore, 1) := by decide +kernel
theorem own_d11_8 : decode jdk_43_method_46_code 8 = .ok (.areturn, 1) := by decide +kernel
theorem own_ef_l1tb (m : MethodId) (x0 : Int32) : entryFrame m #[(.int x0)] 1 = mkF m 0 #[iv x0] [] := by first | (simp [entryFrame, mkF, argsToLocals, Value.category]; done) | rfl
def Q_l1tb (Z : State) (c1 : Int32) (h0 : Heap) (n0 : Nat) (v : Option Value) (h : Heap) (L : List Loc) : Prop := ∃ b kb, v = some (.ref b) ∧ Fr n0 L ∧ Keep h0 h [] ∧ h0.size ≤ b ∧ Arv Z h b kb .byte (1 : Int32) [(.int (StrChars.lo8 c1))] (.int 0)
set_option maxRecDepth 65536 in
set_option maxHeartbeats 40000000 in
theorem rm_l1tb (l : Launch) (Z : State) (a0 : Array Value) (hw : ∀ d ∈ tables_1, d.before a0 Z = true) (ws : List Jvm.Cond) (c1 : Int32) (h0 : Heap) (n0 : Nat) (Z0 : n0 ≤ h0.size)  :
    MetFree l (⟨"java/lang/StringLatin1", "toBytes", "(C)[B"⟩ : MethodName) (head1 (Jvm.Cond.code (⟨"java/lang/StringLatin1", "toBytes", "(C)[B"⟩ : MethodName) jdk_43_method_46_code 1 (some (.array .byte)) :: ws) ({ frames := 0, cells := 1, slots := 1, locals := 0 } : Room)) (fun a U => a = #[(.int c1)] ∧ Z.Warmed39 U.vm ∧ U.heap = h0) (fun _ _ _ _ _ => True) (fun _ U o U' => ∃ v L, o = .returned v ∧ Q_l1tb Z c1 h0 n0 v U'.heap L ∧ FrameEnd U o U' L ({ frames := 0, cells := 1, slots := 1, locals := 0 } : Room).cells ({ frames := 0, cells := 1, slots := 1, locals := 0 } : Room).slots) := by
  refine MetFree.of_bodySF (plainFor_of_name own_pn_7) hisR ?_
  intro p e s m args below meth c s₁ Bd hml0 hP hK
  obtain ⟨rfl, hZ, hh⟩ := hP
  have hx := Bd.exec
  have hby := Bd.bytes
  have hml : c.maxLocals = 1 := hml0
  have hown : s.vm.findClass "java/lang/StringLatin1" = some m.cls := findClass_of_methodNamed Bd.named
  have hnm := (name_of_methodNamed Bd.named Bd.method).1
  have W := own_W hw
  have X0 : Stand p l e ({ frames := 0, cells := 1, slots := 1, locals := 0 } : Room) s m #[(.int c1)] below meth c s₁ [] 0 0 := Stand.of_body Bd
  have e0 : s₁.heap = h0 := by rw [← hh, Bd.state]; rfl
  have N0 := Fr.nil n0
  have pre0 : ∀ tq, Steps p.tables e below (s₁.setTop (mkF m 0 #[iv c1] [])) tq → Steps p.tables e below (s₁.setTop (entryFrame m #[(.int c1)] 1)) tq := fun tq k => castTop (own_ef_l1tb m c1) k
  have K1 : Keep h0 h0 [] := Keep.refl h0 []
  obtain ⟨T2, h2, k2, X2, e2, E2, A2, st2⟩ := newP X0 hx hZ (W 95 rfl) e0 (g := (mkF m 1 #[iv c1] [.int 1])) rfl (hb hby own_d11_1) rfl (by decide : ¬ ((1 : Int32) < (0 : Int32))) (cap := 1) (by decide) (by decide) (by decide) (by decide)
  obtain ⟨b2, g2⟩ : ∃ z, z = h0.size := ⟨_, rfl⟩
  rw [← g2] at A2 st2
  have g3 : n0 ≤ b2 := Nat.le_trans Z0 (Nat.le_of_eq g2.symm)
  have g4 : h0.size ≤ b2 := Nat.le_trans K1.1 (Nat.le_of_eq g2.symm)
  have Z5 : n0 ≤ h2.size := Nat.le_trans Z0 E2.1
  have K6 : Keep h0 h2 [] := K1.ext E2
  have V2 : Arv Z h2 b2 k2 .byte (1 : Int32) [(.int (0 : Int32))] (.int (0 : Int32)) := (Arv.new A2 (by decide : ¬ ((1 : Int32) < (0 : Int32)))).pad (pad_rep [] (.int (0 : Int32)) 1)
  obtain ⟨cl7, Ar7, aq7, aS7, aN7, aH7, aG7⟩ := id V2
  obtain ⟨T8, h8, X8, e8, W8, st8⟩ := stB X2 hx hZ e2 Ar7 (j := (0 : Int32)) (inb_of aS7 ⟨(by decide), (by decide)⟩) (g := (mkF m 7 #[iv c1] [.int (c1.toInt8.toInt32), .int 0, .ref b2, .ref b2])) rfl rfl (hb hby own_d11_7)
  have N8 := Fr.snoc X8 N0 g3
  have Vx8 := Arv.set Ar7 aq7 aS7 aN7 aH7 aG7 (fits_nar_byte _) W8 0 rfl (Nat.le_of_ble_eq_true rfl)
  have V8 : Arv Z h8 b2 k2 .byte (1 : Int32) [(.int (StrChars.lo8 c1))] (.int (0 : Int32)) := by
    have q := Vx8
    rw [show Value.int (((c1.toInt8.toInt32)).toInt8.toInt32) = (.int (StrChars.lo8 c1)) from congrArg Value.int (own_narb _)] at q
    exact q
  have Z9 : n0 ≤ h8.size := Nat.le_trans Z5 (Keep.of_wr W8).1
  have K10 : Keep h0 h8 [] := K6.wr W8 (Or.inr g4)
  obtain ⟨fs, hr, hrun, hended, hW, hsame⟩ := X8.leave (v := some (.ref b2)) (fun h => by rw [Bd.returns] at h; cases h)
  refine ⟨_, _, pre0 _ (?_), hrun, hended, _, _, rfl, ?_, ⟨_, rfl⟩, hW, hsame.mono (by decide) (by decide)⟩
  · show Steps p.tables e below (s₁.setTop (mkF m 0 #[iv c1] [])) _
    refine XS.iconst X0.here hx rfl (hb hby own_d11_0) ?_
    show Steps _ _ _ (s₁.setTop (mkF m 1 _ [.int 1])) _
    refine st2 _ ?_
    show Steps p.tables e below (T2.setTop (mkF m 3 #[iv c1] [.ref b2])) _
    refine XS.dup X2.here hx rfl (hb hby own_d11_3) rfl rfl ?_
    show Steps _ _ _ (T2.setTop (mkF m 4 _ [.ref b2, .ref b2])) _
    refine XS.iconst X2.here hx rfl (hb hby own_d11_4) ?_
    show Steps _ _ _ (T2.setTop (mkF m 5 _ [.int 0, .ref b2, .ref b2])) _
    refine XS.iloadN X2.here hx rfl (hb hby own_d11_5) rfl ?_
    show Steps _ _ _ (T2.setTop (mkF m 6 _ [.int c1, .int 0, .ref b2, .ref b2])) _
    refine XS.i2b X2.here hx rfl (hb hby own_d11_6) rfl ?_
    show Steps _ _ _ (T2.setTop (mkF m 7 _ [.int (c1.toInt8.toInt32), .int 0, .ref b2, .ref b2])) _
    refine st8 _ ?_
    show Steps p.tables e below (T8.setTop (mkF m 8 #[iv c1] [.ref b2])) _
    exact retOut X8 hx Bd.returns rfl (Or.inr (Or.inr (Or.inr (Or.inr ⟨rfl, rfl, rfl⟩)))) (hb hby own_d11_8) hr
  · show Q_l1tb Z c1 h0 n0 _ T8.heap _
    rw [e8]
    exact ⟨b2, k2, rfl, N8, K10, g4, V8⟩
theorem own_pn_6 : plainName "java/lang/String" = true := by decide +kernel
theorem own_d5_0 : decode jdk_42_method_151_code 0 = .ok (.aload_n 0, 1) := by decide +kernel
theorem own_d5_1 : decode jdk_42_method_151_code 1 = .ok (.invokespecial 1, 3) := by decide +kernel
theorem own_d5_4 : decode jdk_42_method_151_code 4 = .ok (.aload_n 0, 1) := by decide +kernel
theorem own_d5_5 : decode jdk_42_method_151_code 5 = .ok (.aload_n 1, 1) := by decide +kernel
theorem own_d5_6 : decode jdk_42_method_151_code 6 = .ok (.putfield 9, 3) := by decide +kernel
theorem own_d5_9 : decode jdk_42_method_151_code 9 = .ok (.aload_n 0, 1) := by decide +kernel
theorem own_d5_10 : decode jdk_42_method_151_code 10 = .ok (.iload_n 2, 1) := by decide +kernel
theorem own_d5_11 : decode jdk_42_method_151_code 11 = .ok (.putfield 15, 3) := by decide +kernel
theorem own_d5_14 : decode jdk_42_method_151_code 14 = .ok (.return_, 1) := by decide +kernel
theorem own_ef_sbb (m : MethodId) (x0 : Addr) (x1 : Addr) (x2 : Int32) : entryFrame m #[(.ref x0), (.ref x1), (.int x2)] 3 = mkF m 0 #[rv x0, rv x1, iv x2] [] := by first | (simp [entryFrame, mkF, argsToLocals, Value.category]; done) | rfl
def Q_sbb (Z : State) (a1 t1 : Addr) (h0 : Heap) (n0 : Nat) (v : Option Value) (h : Heap) (L : List Loc) : Prop := v = none ∧ Fr n0 L ∧ Keep h0 h [a1] ∧ Exa Z h a1 "java/lang/String" ∧ Fld Z h a1 "java/lang/String" "value" "[B" (.ref t1) ∧ Fld Z h a1 "java/lang/String" "coder" "B" (.int (0 : Int32))
set_option maxRecDepth 65536 in
set_option maxHeartbeats 40000000 in
theorem rm_sbb (l : Launch) (Z : State) (a0 : Array Value) (hw : ∀ d ∈ tables_1, d.before a0 Z = true) (ws : List Jvm.Cond) (a1 t1 : Addr) (h0 : Heap) (n0 : Nat) (Z0 : n0 ≤ h0.size) (E1 : Exa Z h0 a1 "java/lang/String") (g1 : n0 ≤ a1) (F1 : Fld Z h0 a1 "java/lang/String" "value" "[B" .null) (F2 : Fld Z h0 a1 "java/lang/String" "coder" "B" (.int (0 : Int32))) :
    MetFree l (⟨"java/lang/String", "<init>", "([BB)V"⟩ : MethodName) (head1 (Jvm.Cond.code (⟨"java/lang/String", "<init>", "([BB)V"⟩ : MethodName) jdk_42_method_151_code 3 none :: ws) ({ frames := 1, cells := 0, slots := 0, locals := 12 } : Room)) (fun a U => a = #[(.ref a1), (.ref t1), (.int (0 : Int32))] ∧ Z.Warmed39 U.vm ∧ U.heap = h0) (fun _ _ _ _ _ => True) (fun _ U o U' => ∃ v L, o = .returned v ∧ Q_sbb Z a1 t1 h0 n0 v U'.heap L ∧ FrameEnd U o U' L ({ frames := 1, cells := 0, slots := 0, locals := 12 } : Room).cells ({ frames := 1, cells := 0, slots := 0, locals := 12 } : Room).slots) := by
  refine MetFree.of_bodySF (plainFor_of_name own_pn_6) hisR ?_
  intro p e s m args below meth c s₁ Bd hml0 hP hK
  obtain ⟨rfl, hZ, hh⟩ := hP
  have hx := Bd.exec
  have hby := Bd.bytes
  have hml : c.maxLocals = 3 := hml0
  have hown : s.vm.findClass "java/lang/String" = some m.cls := findClass_of_methodNamed Bd.named
  have hnm := (name_of_methodNamed Bd.named Bd.method).1
  have W := own_W hw
  have X0 : Stand p l e ({ frames := 1, cells := 0, slots := 0, locals := 12 } : Room) s m #[(.ref a1), (.ref t1), (.int (0 : Int32))] below meth c s₁ [] 0 0 := Stand.of_body Bd
  have e0 : s₁.heap = h0 := by rw [← hh, Bd.state]; rfl
  have N0 := Fr.nil n0
  have pre0 : ∀ tq, Steps p.tables e below (s₁.setTop (mkF m 0 #[rv a1, rv t1, iv 0] [])) tq → Steps p.tables e below (s₁.setTop (entryFrame m #[(.ref a1), (.ref t1), (.int (0 : Int32))] 3)) tq := fun tq k => castTop (own_ef_sbb m a1 t1 (0 : Int32)) k
  have K11 : Keep h0 h0 [a1] := Keep.refl h0 [a1]
  obtain ⟨T12, X12, e12, st12⟩ := initO X0 hx hZ hown (W 100 rfl) (W 8 rfl) (W 9 rfl) e0 (g := (mkF m 1 #[rv a1, rv t1, iv 0] [.ref a1])) rfl (by rw [hml]; rfl) rfl (hb hby own_d5_1) (by decide) (W := 0) (by show 2 * 0 + _ ≤ _; exact Nat.le_of_eq rfl) (by decide)
  obtain ⟨T13, h13, X13, e13, W13, st13⟩ := putF X12 hx hZ hown (host := "") (Or.inl (W 101 rfl)) Via.refl e12 F1 E1 (Or.inr ⟨(W 102 rfl), rfl, hnm⟩) (W 91 rfl) (ty := (.array .byte)) (by decide) rfl rfl (g := (mkF m 6 #[rv a1, rv t1, iv 0] [.ref t1, .ref a1])) rfl rfl (hb hby own_d5_6)
  have N13 := Fr.snoc X13 N0 g1
  have Fw13 := F1.same W13
  have Z14 : n0 ≤ h13.size := Nat.le_trans Z0 (Keep.of_wr W13).1
  have K15 : Keep h0 h13 [a1] := K11.wr W13 (Or.inl (List.mem_of_getElem? (i := 0) rfl))
  have f17 := (F2.other W13 (Or.inr (slot_ne (Or.inr (W 104 rfl)) (Or.inr (W 102 rfl)) (by decide) (t := .byte) (t' := (.array .byte)) (by decide) (by decide))))
  have f18 := (E1.wr W13)
  obtain ⟨T16, h16, X16, e16, W16, st16⟩ := putFN X13 hx hZ hown (W 103 rfl) Via.refl e13 f17 f18 (Or.inr ⟨(W 104 rfl), rfl, hnm⟩) (W 91 rfl) (ty := .byte) (v' := (.int (0 : Int32))) (by decide) rfl rfl (g := (mkF m 11 #[rv a1, rv t1, iv 0] [.int 0, .ref a1])) rfl rfl (hb hby own_d5_11)
  have N16 := Fr.snoc X16 N13 g1
  have Fw16 := f17.same W16
  have Z19 : n0 ≤ h16.size := Nat.le_trans Z14 (Keep.of_wr W16).1
  have K20 : Keep h0 h16 [a1] := K15.wr W16 (Or.inl (List.mem_of_getElem? (i := 0) rfl))
  have f21 := (f18.wr W16)
  have f22 := (Fw13.other W16 (Or.inr (slot_ne (Or.inr (W 102 rfl)) (Or.inr (W 104 rfl)) (by decide) (t := (.array .byte)) (t' := .byte) (by decide) (by decide))))
  obtain ⟨fs, hr, hrun, hended, hW, hsame⟩ := X16.leave (v := none) (fun _ => rfl)
  refine ⟨_, _, pre0 _ (?_), hrun, hended, _, _, rfl, ?_, ⟨_, rfl⟩, hW, hsame.mono (by decide) (by decide)⟩
  · show Steps p.tables e below (s₁.setTop (mkF m 0 #[rv a1, rv t1, iv 0] [])) _
    refine XS.aloadN X0.here hx rfl (hb hby own_d5_0) rfl rfl ?_
    show Steps _ _ _ (s₁.setTop (mkF m 1 _ [.ref a1])) _
    refine st12 _ ?_
    show Steps p.tables e below (T12.setTop (mkF m 4 #[rv a1, rv t1, iv 0] [])) _
    refine XS.aloadN X12.here hx rfl (hb hby own_d5_4) rfl rfl ?_
    show Steps _ _ _ (T12.setTop (mkF m 5 _ [.ref a1])) _
    refine XS.aloadN X12.here hx rfl (hb hby own_d5_5) rfl rfl ?_
    show Steps _ _ _ (T12.setTop (mkF m 6 _ [.ref t1, .ref a1])) _
    refine st13 _ ?_
    show Steps p.tables e below (T13.setTop (mkF m 9 #[rv a1, rv t1, iv 0] [])) _
    refine XS.aloadN X13.here hx rfl (hb hby own_d5_9) rfl rfl ?_
    show Steps _ _ _ (T13.setTop (mkF m 10 _ [.ref a1])) _
    refine XS.iloadN X13.here hx rfl (hb hby own_d5_10) rfl ?_
    show Steps _ _ _ (T13.setTop (mkF m 11 _ [.int 0, .ref a1])) _
    refine st16 _ ?_
    show Steps p.tables e below (T16.setTop (mkF m 14 #[rv a1, rv t1, iv 0] [])) _
    exact X16.returnOut hx Bd.returns (hb hby own_d5_14) hr
  · show Q_sbb Z a1 t1 h0 n0 _ T16.heap _
    rw [e16]
    exact ⟨rfl, N16, K20, f21, f22, Fw16⟩
theorem own_d3_0 : decode jdk_42_method_139_code 0 = .ok (.getstatic 38, 3) := by decide +kernel
theorem own_d3_3 : decode jdk_42_method_139_code 3 = .ok (.ifCond .eq 23, 3) := by decide +kernel
theorem own_d3_6 : decode jdk_42_method_139_code 6 = .ok (.iload_n 0, 1) := by decide +kernel
theorem own_d3_7 : decode jdk_42_method_139_code 7 = .ok (.invokestatic 1015, 3) := by decide +kernel
theorem own_pd_10 : parseMethodDescriptor "(C)Z" = some ⟨[.char], some .boolean⟩ := by decide +kernel
theorem own_d3_10 : decode jdk_42_method_139_code 10 = .ok (.ifCond .eq 16, 3) := by decide +kernel
theorem own_d3_13 : decode jdk_42_method_139_code 13 = .ok (.new 10, 3) := by decide +kernel
theorem own_d3_16 : decode jdk_42_method_139_code 16 = .ok (.dup, 1) := by decide +kernel
theorem own_d3_17 : decode jdk_42_method_139_code 17 = .ok (.iload_n 0, 1) := by decide +kernel
theorem own_d3_18 : decode jdk_42_method_139_code 18 = .ok (.invokestatic 1018, 3) := by decide +kernel
theorem own_pd_11 : parseMethodDescriptor "(C)[B" = some ⟨[.char], some (.array .byte)⟩ := by decide +kernel
theorem own_d3_21 : decode jdk_42_method_139_code 21 = .ok (.iconst 0, 1) := by decide +kernel
theorem own_d3_22 : decode jdk_42_method_139_code 22 = .ok (.invokespecial 209, 3) := by decide +kernel
theorem own_pd_12 : parseMethodDescriptor "([BB)V" = some ⟨[(.array .byte), .byte], none⟩ := by decide +kernel
theorem own_d3_25 : decode jdk_42_method_139_code 25 = .ok (.areturn, 1) := by decide +kernel
theorem own_ef_svo (m : MethodId) (x0 : Int32) : entryFrame m #[(.int x0)] 1 = mkF m 0 #[iv x0] [] := by first | (simp [entryFrame, mkF, argsToLocals, Value.category]; done) | rfl
def Q_svo (Z : State) (c1 G1 : Int32) (h0 : Heap) (n0 : Nat) (v : Option Value) (h : Heap) (L : List Loc) : Prop := ∃ a, v = some (.ref a) ∧ Fr n0 L ∧ Keep h0 h [] ∧ StrB Z h h.size a [c1]
set_option maxRecDepth 65536 in
set_option maxHeartbeats 40000000 in
theorem rm_svo (l : Launch) (Z : State) (a0 : Array Value) (hw : ∀ d ∈ tables_1, d.before a0 Z = true) (ws : List Jvm.Cond) (c1 G1 : Int32) (h0 : Heap) (n0 : Nat) (Z0 : n0 ≤ h0.size) (X00 : Old Z n0 h0) (hc0 : ¬ c1 < 0) (hc : ¬ (255 : Int32) < c1) (O2 : Sta Z Z.heap "java/lang/String" "COMPACT_STRINGS" "Z" (.int G1)) (P5 : ¬ (G1 = (0 : Int32))) :
    MetFree l (⟨"java/lang/String", "valueOf", "(C)Ljava/lang/String;"⟩ : MethodName) (head1 (Jvm.Cond.code (⟨"java/lang/String", "valueOf", "(C)Ljava/lang/String;"⟩ : MethodName) jdk_42_method_139_code 1 (some (.object "java/lang/String")) :: ws) ({ frames := 2, cells := 2, slots := 5, locals := 40 } : Room)) (fun a U => a = #[(.int c1)] ∧ Z.Warmed39 U.vm ∧ U.heap = h0) (fun _ _ _ _ _ => True) (fun _ U o U' => ∃ v L, o = .returned v ∧ Q_svo Z c1 G1 h0 n0 v U'.heap L ∧ FrameEnd U o U' L ({ frames := 2, cells := 2, slots := 5, locals := 40 } : Room).cells ({ frames := 2, cells := 2, slots := 5, locals := 40 } : Room).slots) := by
  refine MetFree.of_bodySF (plainFor_of_name own_pn_6) hisR ?_
  intro p e s m args below meth c s₁ Bd hml0 hP hK
  obtain ⟨rfl, hZ, hh⟩ := hP
  have hx := Bd.exec
  have hby := Bd.bytes
  have hml : c.maxLocals = 1 := hml0
  have hown : s.vm.findClass "java/lang/String" = some m.cls := findClass_of_methodNamed Bd.named
  have hnm := (name_of_methodNamed Bd.named Bd.method).1
  have W := own_W hw
  have X0 : Stand p l e ({ frames := 2, cells := 2, slots := 5, locals := 40 } : Room) s m #[(.int c1)] below meth c s₁ [] 0 0 := Stand.of_body Bd
  have e0 : s₁.heap = h0 := by rw [← hh, Bd.state]; rfl
  have N0 := Fr.nil n0
  have pre0 : ∀ tq, Steps p.tables e below (s₁.setTop (mkF m 0 #[iv c1] [])) tq → Steps p.tables e below (s₁.setTop (entryFrame m #[(.int c1)] 1)) tq := fun tq k => castTop (own_ef_svo m c1) k
  have K23 : Keep h0 h0 [] := Keep.refl h0 []
  obtain ⟨T24, X24, e24, st24⟩ := getS2 X0 hx hZ hown (host := "") (Or.inl (W 85 rfl)) Via.refl e0 (O2.ext X00.2) (g := (mkF m 0 #[iv c1] [])) rfl (hb hby own_d3_0)
  obtain ⟨_, _, ⟨T25, L25, k25, n25⟩, -, X25, ⟨Lc25, hQ25, l25, y25, z25⟩, st25⟩ := Jvm.LawKit.callS X24 hx (y := (⟨"java/lang/StringLatin1", "canEncode", "(C)Z"⟩ : MethodName)) hown (mvT hZ (W 86 rfl)) (mvT hZ (W 87 rfl)) (mvT hZ (W 88 rfl)) (mvT hZ (W 89 rfl)) (by decide) (backOf (W := 0) (rm_can l Z a0 hw [] c1 h0 n0 Z0 hc) hZ (W 89 rfl) (W 88 rfl) (by decide) (by decide)) (g := (mkF m 7 #[iv c1] [.int c1])) rfl (by rw [hml]; rfl) (argsL := [.int c1]) (rest := []) (lenOf own_pd_10 rfl) rfl (by show 2 * 0 + _ ≤ _; exact Nat.le_of_eq rfl) (hb hby own_d3_7) (fun _ _ => ⟨rfl, e24, (by decide : 0 + 0 ≤ _), (by decide : 0 + 0 ≤ _)⟩)
  dsimp only [Pt.U, Pt.locs, Pt.cells, Pt.slots] at X25 l25 y25 z25 st25 hQ25
  subst l25 y25 z25
  obtain ⟨rfl, Nq25, e25⟩ := hQ25
  have N25 := Fr.app N0 Nq25
  obtain ⟨T26, h26, X26, e26, E26, A26, D26, -, st26⟩ := newO X25 hx hZ hown (W 90 rfl) (W 91 rfl) (W 83 rfl) e25 (g := (mkF m 13 #[iv c1] [])) rfl (hb hby own_d3_13) (by decide) (by decide)
  obtain ⟨b26, g26⟩ : ∃ z, z = h0.size := ⟨_, rfl⟩
  rw [← g26] at A26 D26 st26
  have g27 : n0 ≤ b26 := Nat.le_trans Z0 (Nat.le_of_eq g26.symm)
  have g28 : h0.size ≤ b26 := Nat.le_trans K23.1 (Nat.le_of_eq g26.symm)
  have Z29 : n0 ≤ h26.size := Nat.le_trans Z0 E26.1
  have O30 : Old Z n0 h26 := X00.ext E26
  have K31 : Keep h0 h26 [] := K23.ext E26
  have F32 : Fld Z h26 b26 "java/lang/String" "value" "[B" .null := D26 (Or.inr (W 102 rfl)) (ty := (.array .byte)) (by decide)
  have F33 : Fld Z h26 b26 "java/lang/String" "coder" "B" (.int (0 : Int32)) := D26 (Or.inr (W 104 rfl)) (ty := .byte) (by decide)
  obtain ⟨_, _, ⟨T34, L34, k34, n34⟩, -, X34, ⟨Lc34, hQ34, l34, y34, z34⟩, st34⟩ := Jvm.LawKit.callS X26 hx (y := (⟨"java/lang/StringLatin1", "toBytes", "(C)[B"⟩ : MethodName)) hown (mvT hZ (W 92 rfl)) (mvT hZ (W 93 rfl)) (mvT hZ (W 88 rfl)) (mvT hZ (W 94 rfl)) (by decide) (backOf (W := 2) (rm_l1tb l Z a0 hw [] c1 h26 n0 Z29 ) hZ (W 94 rfl) (W 88 rfl) (by decide) (by decide)) (g := (mkF m 18 #[iv c1] [.int c1, .ref b26, .ref b26])) rfl (by rw [hml]; rfl) (argsL := [.int c1]) (rest := [.ref b26, .ref b26]) (lenOf own_pd_11 rfl) rfl (by show 2 * 0 + _ ≤ _; exact Nat.le_of_eq rfl) (hb hby own_d3_18) (fun _ _ => ⟨rfl, e26, (by decide : 1 + 1 ≤ _), (by decide : 4 + 1 ≤ _)⟩)
  dsimp only [Pt.U, Pt.locs, Pt.cells, Pt.slots] at X34 l34 y34 z34 st34 hQ34
  subst l34 y34 z34
  obtain ⟨b34, kb34, hv34, Nq34, K34, sb34, V34⟩ := hQ34
  subst hv34
  have N34 := Fr.app N25 Nq34
  have g35 : n0 ≤ b34 := Nat.le_trans Z29 sb34
  have g36 : h0.size ≤ b34 := Nat.le_trans K31.1 sb34
  have Z37 : n0 ≤ T34.heap.size := Nat.le_trans Z29 K34.1
  have O38 : Old Z n0 T34.heap := O30.keep K34 all0
  have K39 : Keep h0 T34.heap [] := K31.trans K34 all0
  have f40 := (A26.keep K34)
  have f41 := (F32.keep K34 nin0)
  have f42 := (F33.keep K34 nin0)
  obtain ⟨_, _, ⟨T43, L43, k43, n43⟩, -, X43, ⟨Lc43, hQ43, l43, y43, z43⟩, st43⟩ := X34.specialBack hx (y := (⟨"java/lang/String", "<init>", "([BB)V"⟩ : MethodName)) rfl hown (mvT hZ (W 96 rfl)) (mvT hZ (W 97 rfl)) (mvT hZ (W 99 rfl)) (by decide) (backOf (W := 1) (rm_sbb l Z a0 hw [] b26 b34 T34.heap n0 Z37 f40 g27 f41 f42) hZ (W 99 rfl) (W 83 rfl) (by decide) (by decide)) (g := (mkF m 22 #[iv c1] [.int 0, .ref b34, .ref b26, .ref b26])) rfl (by rw [hml]; rfl) (Steps.refl _) (a := b26) (argsL := [.ref b34, .int 0]) (rest := [.ref b26]) (lenOf own_pd_12 rfl) rfl (by show 2 * 0 + _ ≤ _; exact Nat.le_of_eq rfl) (hb hby own_d3_22) (fun _ _ => ⟨rfl, rfl, (by decide : 2 + 0 ≤ _), (by decide : 5 + 0 ≤ _)⟩)
  dsimp only [Pt.U, Pt.locs, Pt.cells, Pt.slots] at X43 l43 y43 z43 st43 hQ43
  subst l43 y43 z43
  obtain ⟨rfl, Nq43, K43, gE43, gV43, gC43⟩ := hQ43
  have N43 := Fr.app N34 Nq43
  have Z44 : n0 ≤ T43.heap.size := Nat.le_trans Z37 K43.1
  have O45 : Old Z n0 T43.heap := O38.keep K43 (allS g27 all0)
  have K46 : Keep h0 T43.heap [] := K39.trans K43 (allS (Or.inr g28) all0)
  have f47 := (V34.keep K43 (ninS (Ne.symm (Nat.ne_of_lt (Nat.lt_of_lt_of_le A26.lt sb34))) nin0))
  have gA := f47
  have hb1 : ∀ c ∈ ([c1] : List Int32), ¬ c < 0 ∧ ¬ (255 : Int32) < c := by
    intro c hc
    rw [List.mem_singleton] at hc; subst hc; exact ⟨hc0, ‹_›⟩
  have hS : StrB Z T43.heap T43.heap.size b26 [c1] := ⟨gE43.lt, gE43, b34, kb34, 0, 1, _, gA.lt, gV43, gC43, gA, StrChars.Road.codOf (n := 1) rfl (fun c hc => (hb1 c hc).2), own_up _ hb1, (Nat.le_of_ble_eq_true rfl)⟩
  obtain ⟨fs, hr, hrun, hended, hW, hsame⟩ := X43.leave (v := some (.ref b26)) (fun h => by rw [Bd.returns] at h; cases h)
  refine ⟨_, _, pre0 _ (?_), hrun, hended, _, _, rfl, ?_, ⟨_, rfl⟩, hW, hsame.mono (by decide) (by decide)⟩
  · show Steps p.tables e below (s₁.setTop (mkF m 0 #[iv c1] [])) _
    refine st24 _ ?_
    show Steps p.tables e below (T24.setTop (mkF m 3 #[iv c1] [.int G1])) _
    refine XS.ifNo X24.here hx rfl (hb hby own_d3_3) rfl ((if0 _ _).trans (feq (P5 : ¬ (G1 = (0 : Int32)))).1) ?_
    show Steps _ _ _ (T24.setTop (mkF m 6 _ [])) _
    refine XS.iloadN X24.here hx rfl (hb hby own_d3_6) rfl ?_
    show Steps _ _ _ (T24.setTop (mkF m 7 _ [.int c1])) _
    refine st25 _ ?_
    show Steps p.tables e below (T25.setTop (mkF m 10 #[iv c1] [.int 1])) _
    refine XS.ifNo X25.here hx rfl (hb hby own_d3_10) rfl ((if0 _ _).trans (feq ((by decide) : ¬ ((1 : Int32) = (0 : Int32)))).1) ?_
    show Steps _ _ _ (T25.setTop (mkF m 13 _ [])) _
    refine st26 _ ?_
    show Steps p.tables e below (T26.setTop (mkF m 16 #[iv c1] [.ref b26])) _
    refine XS.dup X26.here hx rfl (hb hby own_d3_16) rfl rfl ?_
    show Steps _ _ _ (T26.setTop (mkF m 17 _ [.ref b26, .ref b26])) _
    refine XS.iloadN X26.here hx rfl (hb hby own_d3_17) rfl ?_
    show Steps _ _ _ (T26.setTop (mkF m 18 _ [.int c1, .ref b26, .ref b26])) _
    refine st34 _ ?_
    show Steps p.tables e below (T34.setTop (mkF m 21 #[iv c1] [.ref b34, .ref b26, .ref b26])) _
    refine XS.iconst X34.here hx rfl (hb hby own_d3_21) ?_
    show Steps _ _ _ (T34.setTop (mkF m 22 _ [.int 0, .ref b34, .ref b26, .ref b26])) _
    refine st43.trans ?_
    show Steps p.tables e below (T43.setTop (mkF m 25 #[iv c1] [.ref b26])) _
    exact retOut X43 hx Bd.returns rfl (Or.inr (Or.inr (Or.inr (Or.inr ⟨rfl, rfl, rfl⟩)))) (hb hby own_d3_25) hr
  · show Q_svo Z c1 G1 h0 n0 _ T43.heap _
    exact ⟨b26, rfl, N43, K46, hS⟩
theorem own_d9_0 : decode jdk_42_method_66_code 0 = .ok (.aload_n 0, 1) := by decide +kernel
theorem own_d9_1 : decode jdk_42_method_66_code 1 = .ok (.aload_n 1, 1) := by decide +kernel
theorem own_d9_2 : decode jdk_42_method_66_code 2 = .ok (.if_acmp .ne 5, 3) := by decide +kernel
theorem own_d9_5 : decode jdk_42_method_66_code 5 = .ok (.iconst 1, 1) := by decide +kernel
theorem own_d9_6 : decode jdk_42_method_66_code 6 = .ok (.ireturn, 1) := by decide +kernel
theorem own_ef_eqs (m : MethodId) (x0 : Addr) (x1 : Addr) : entryFrame m #[(.ref x0), (.ref x1)] 3 = mkF m 0 #[rv x0, rv x1, .unset] [] := by first | (simp [entryFrame, mkF, argsToLocals, Value.category]; done) | rfl
def Q_eqs (Z : State) (a1 : Addr) (h0 : Heap) (n0 : Nat) (v : Option Value) (h : Heap) (L : List Loc) : Prop := v = some (.int 1) ∧ Fr n0 L ∧ h = h0
set_option maxRecDepth 65536 in
set_option maxHeartbeats 40000000 in
theorem rm_eqs (l : Launch) (Z : State) (a0 : Array Value) (hw : ∀ d ∈ tables_1, d.before a0 Z = true) (ws : List Jvm.Cond) (a1 : Addr) (h0 : Heap) (n0 : Nat) (Z0 : n0 ≤ h0.size)  :
    MetFree l (⟨"java/lang/String", "equals", "(Ljava/lang/Object;)Z"⟩ : MethodName) (head1 (Jvm.Cond.code (⟨"java/lang/String", "equals", "(Ljava/lang/Object;)Z"⟩ : MethodName) jdk_42_method_66_code 3 (some .boolean) :: ws) ({ frames := 0, cells := 0, slots := 0, locals := 0 } : Room)) (fun a U => a = #[(.ref a1), (.ref a1)] ∧ Z.Warmed39 U.vm ∧ U.heap = h0) (fun _ _ _ _ _ => True) (fun _ U o U' => ∃ v L, o = .returned v ∧ Q_eqs Z a1 h0 n0 v U'.heap L ∧ FrameEnd U o U' L ({ frames := 0, cells := 0, slots := 0, locals := 0 } : Room).cells ({ frames := 0, cells := 0, slots := 0, locals := 0 } : Room).slots) := by
  refine MetFree.of_bodySF (plainFor_of_name own_pn_6) hisR ?_
  intro p e s m args below meth c s₁ Bd hml0 hP hK
  obtain ⟨rfl, hZ, hh⟩ := hP
  have hx := Bd.exec
  have hby := Bd.bytes
  have hml : c.maxLocals = 3 := hml0
  have hown : s.vm.findClass "java/lang/String" = some m.cls := findClass_of_methodNamed Bd.named
  have hnm := (name_of_methodNamed Bd.named Bd.method).1
  have W := own_W hw
  have X0 : Stand p l e ({ frames := 0, cells := 0, slots := 0, locals := 0 } : Room) s m #[(.ref a1), (.ref a1)] below meth c s₁ [] 0 0 := Stand.of_body Bd
  have e0 : s₁.heap = h0 := by rw [← hh, Bd.state]; rfl
  have N0 := Fr.nil n0
  have pre0 : ∀ tq, Steps p.tables e below (s₁.setTop (mkF m 0 #[rv a1, rv a1, .unset] [])) tq → Steps p.tables e below (s₁.setTop (entryFrame m #[(.ref a1), (.ref a1)] 3)) tq := fun tq k => castTop (own_ef_eqs m a1 a1) k
  obtain ⟨fs, hr, hrun, hended, hW, hsame⟩ := X0.leave (v := some (.int (1 : Int32))) (fun h => by rw [Bd.returns] at h; cases h)
  refine ⟨_, _, pre0 _ (?_), hrun, hended, _, _, rfl, ?_, ⟨_, rfl⟩, hW, hsame.mono (by decide) (by decide)⟩
  · show Steps p.tables e below (s₁.setTop (mkF m 0 #[rv a1, rv a1, .unset] [])) _
    refine XS.aloadN X0.here hx rfl (hb hby own_d9_0) rfl rfl ?_
    show Steps _ _ _ (s₁.setTop (mkF m 1 _ [.ref a1])) _
    refine XS.aloadN X0.here hx rfl (hb hby own_d9_1) rfl rfl ?_
    show Steps _ _ _ (s₁.setTop (mkF m 2 _ [.ref a1, .ref a1])) _
    refine Jvm.RoadKit.acmp (g := (mkF m 2 #[rv a1, rv a1, .unset] [.ref a1, .ref a1])) X0 hx rfl rfl rfl (pc0 := 2) (pc' := 5) (same := true) rfl (hb hby own_d9_2) rfl (decide_eq_true rfl) (by decide) (by decide) ?_
    show Steps p.tables e below (s₁.setTop (mkF m 5 #[rv a1, rv a1, .unset] [])) _
    refine XS.iconst X0.here hx rfl (hb hby own_d9_5) ?_
    show Steps _ _ _ (s₁.setTop (mkF m 6 _ [.int 1])) _
    exact retN X0 hx (t := .boolean) Bd.returns (by simp) (hb hby own_d9_6) hr
  · show Q_eqs Z a1 h0 n0 _ s₁.heap _
    rw [e0]
    exact ⟨rfl, N0, rfl⟩
theorem own_d4_0 : decode jdk_42_method_149_code 0 = .ok (.aload_n 0, 1) := by decide +kernel
theorem own_d4_1 : decode jdk_42_method_149_code 1 = .ok (.invokespecial 1, 3) := by decide +kernel
theorem own_d4_4 : decode jdk_42_method_149_code 4 = .ok (.iload_n 3, 1) := by decide +kernel
theorem own_d4_5 : decode jdk_42_method_149_code 5 = .ok (.ifCond .ne 22, 3) := by decide +kernel
theorem own_d4_8 : decode jdk_42_method_149_code 8 = .ok (.aload_n 0, 1) := by decide +kernel
theorem own_d4_9 : decode jdk_42_method_149_code 9 = .ok (.ldc 7, 2) := by decide +kernel
theorem own_d4_11 : decode jdk_42_method_149_code 11 = .ok (.getfield 9, 3) := by decide +kernel
theorem own_d4_14 : decode jdk_42_method_149_code 14 = .ok (.putfield 9, 3) := by decide +kernel
theorem own_d4_17 : decode jdk_42_method_149_code 17 = .ok (.aload_n 0, 1) := by decide +kernel
theorem own_d4_18 : decode jdk_42_method_149_code 18 = .ok (.ldc 7, 2) := by decide +kernel
theorem own_d4_20 : decode jdk_42_method_149_code 20 = .ok (.getfield 15, 3) := by decide +kernel
theorem own_d4_23 : decode jdk_42_method_149_code 23 = .ok (.putfield 15, 3) := by decide +kernel
theorem own_d4_26 : decode jdk_42_method_149_code 26 = .ok (.return_, 1) := by decide +kernel
theorem own_ef_sn4_0 (m : MethodId) (x0 : Addr) (x1 : Addr) (x2 : Int32) (x3 : Int32) : entryFrame m #[(.ref x0), (.ref x1), (.int x2), (.int x3), .null] 6 = mkF m 0 #[rv x0, rv x1, iv x2, iv x3, .val .null, .unset] [] := by first | (simp [entryFrame, mkF, argsToLocals, Value.category]; done) | rfl
def Q_sn4_0 (Z : State) (a1 b1 : Addr) (h0 : Heap) (n0 : Nat) (v : Option Value) (h : Heap) (L : List Loc) : Prop := v = none ∧ Fr n0 L ∧ Keep h0 h [a1] ∧ StrB Z h h.size a1 []
set_option maxRecDepth 65536 in
set_option maxHeartbeats 40000000 in
theorem rm_sn4_0 (l : Launch) (Z : State) (a0 : Array Value) (hw : ∀ d ∈ tables_1, d.before a0 Z = true) (ws : List Jvm.Cond) (a1 b1 : Addr) (h0 : Heap) (n0 : Nat) (Z0 : n0 ≤ h0.size) (E1 : Exa Z h0 a1 "java/lang/String") (g1 : n0 ≤ a1) (F1 : Fld Z h0 a1 "java/lang/String" "value" "[B" .null) (F2 : Fld Z h0 a1 "java/lang/String" "coder" "B" (.int (0 : Int32))) :
    MetFree l (⟨"java/lang/String", "<init>", "([CIILjava/lang/Void;)V"⟩ : MethodName) (head1 (Jvm.Cond.code (⟨"java/lang/String", "<init>", "([CIILjava/lang/Void;)V"⟩ : MethodName) jdk_42_method_149_code 6 none :: ws) ({ frames := 1, cells := 4, slots := 8, locals := 12 } : Room)) (fun a U => a = #[(.ref a1), (.ref b1), (.int (0 : Int32)), (.int (0 : Int32)), .null] ∧ Z.Warmed39 U.vm ∧ U.heap = h0 ∧ own_J Z own_EL [a1] h0 U.vm) (fun _ _ _ _ _ => True) (fun _ U o U' => ∃ v L, o = .returned v ∧ Q_sn4_0 Z a1 b1 h0 n0 v U'.heap L ∧ CHr Z own_EL U.vm U.heap U'.vm U'.heap ∧ ReturnedEndW U o U' L ({ frames := 1, cells := 4, slots := 8, locals := 12 } : Room).cells ({ frames := 1, cells := 4, slots := 8, locals := 12 } : Room).slots) := by
  refine MetFree.of_bodySF (plainFor_of_name own_pn_6) hisR ?_
  intro p e s m args below meth c s₁ Bd hml0 hP hK
  obtain ⟨rfl, hZ, hh, hJ⟩ := hP
  have hx := Bd.exec
  have hby := Bd.bytes
  have hml : c.maxLocals = 6 := hml0
  have hown : s.vm.findClass "java/lang/String" = some m.cls := findClass_of_methodNamed Bd.named
  have hnm := (name_of_methodNamed Bd.named Bd.method).1
  have W := own_W hw
  have X0 : Stand p l e ({ frames := 1, cells := 4, slots := 8, locals := 12 } : Room) s m #[(.ref a1), (.ref b1), (.int (0 : Int32)), (.int (0 : Int32)), .null] below meth c s₁ [] 0 0 := Stand.of_body Bd
  have e0 : s₁.heap = h0 := by rw [← hh, Bd.state]; rfl
  have N0 := Fr.nil n0
  have pre0 : ∀ tq, Steps p.tables e below (s₁.setTop (mkF m 0 #[rv a1, rv b1, iv 0, iv 0, .val .null, .unset] [])) tq → Steps p.tables e below (s₁.setTop (entryFrame m #[(.ref a1), (.ref b1), (.int (0 : Int32)), (.int (0 : Int32)), .null] 6)) tq := fun tq k => castTop (own_ef_sn4_0 m a1 b1 (0 : Int32) (0 : Int32)) k
  have hEL := own_EW hw
  have wS : ∀ d ∈ Bundle.stringAtoms, d.before a0 Z = true := fun d hd => hw d ((by decide +kernel : ∀ d ∈ Bundle.stringAtoms, d ∈ tables_1) d hd)
  have hS0 : s.Since s.vm 0 := (State.WarmedH.refl s).since 0
  have hk0 : 0 ≤ h0.size := Nat.zero_le _
  have CH0 : CHv Z own_EL s.vm h0 := hJ.1
  have CR0 : CHr Z own_EL s.vm h0 s.vm h0 := CHr.refl CH0
  have X0 : Stand p l e ({ frames := 1, cells := 4, slots := 8, locals := 12 } : Room) (s.setVm s.vm) m #[(.ref a1), (.ref b1), (.int (0 : Int32)), (.int (0 : Int32)), .null] below meth c s₁ [] 0 0 := X0
  have sf_a1 : Safe Z own_EL s.vm h0 a1 := hJ.2 a1 (by simp)
  have K48 : Keep h0 h0 [a1] := Keep.refl h0 [a1]
  obtain ⟨T49, X49, e49, st49⟩ := initO X0 hx hZ hown (W 100 rfl) (W 8 rfl) (W 9 rfl) e0 (g := (mkF m 1 #[rv a1, rv b1, iv 0, iv 0, .val .null, .unset] [.ref a1])) rfl (by rw [hml]; rfl) rfl (hb hby own_d4_1) (by decide) (W := 0) (by show 2 * 0 + _ ≤ _; exact Nat.le_of_eq rfl) (by decide)
  obtain ⟨la50, T50, h50, kx50, lb50, lk50, X50, e50, E50, hS50, hk50, hZ50, hown50, lE50, lC50, lV50, lA50, l150, l250, A50, lL50, lsf50, st50⟩ := ldcCH (s := s) X49 hx hZ hown (W 137 rfl) wS e49 hS0 hk0 hEL (by simp) CH0 (vs := []) (z := (0 : Int32)) ⟨by decide, by rfl⟩ (by decide) rfl (g := (mkF m 9 #[rv a1, rv b1, iv 0, iv 0, .val .null, .unset] [.ref a1])) rfl (hb hby own_d4_9) (n := 0) (by decide) (by decide) (by decide) (by decide)
  have CR51 := CR0.trans A50
  have Z52 : n0 ≤ h50.size := Nat.le_trans Z0 E50.1
  have K53 : Keep h0 h50 [a1] := K48.ext E50
  have f54 := (A50.safe E1.lt sf_a1)
  have hna50 := lsf50 a1 f54
  obtain ⟨T55, X55, e55, st55⟩ := getF X50 hx hZ50 hown50 (host := "") (Or.inl (W 101 rfl)) Via.refl e50 lV50 (g := (mkF m 11 #[rv a1, rv b1, iv 0, iv 0, .val .null, .unset] [.ref la50, .ref a1])) rfl rfl (hb hby own_d4_11)
  have f57 := (F1.ext E50)
  have f58 := (E1.ext E50)
  obtain ⟨T56, h56, X56, e56, W56, st56⟩ := putF X55 hx hZ50 hown50 (host := "") (Or.inl (W 101 rfl)) Via.refl e55 f57 f58 (Or.inr ⟨(W 102 rfl), rfl, hnm⟩) (W 91 rfl) (ty := (.array .byte)) (by decide) rfl rfl (g := (mkF m 14 #[rv a1, rv b1, iv 0, iv 0, .val .null, .unset] [.ref lb50, .ref a1])) rfl rfl (hb hby own_d4_14)
  have N56 := Fr.snoc X56 N0 g1
  have Fw56 := f57.same W56
  have CR59 := CR51.trans (CHr.wr W56 f54 CR51.1)
  have Z60 : n0 ≤ h56.size := Nat.le_trans Z52 (Keep.of_wr W56).1
  have K61 : Keep h0 h56 [a1] := K53.wr W56 (Or.inl (List.mem_of_getElem? (i := 0) rfl))
  have hk62 := Nat.le_trans hk50 (Keep.of_wr W56).1
  obtain ⟨la63, T63, h63, kx63, lb63, lk63, X63, e63, E63, hS63, hk63, hZ63, hown63, lE63, lC63, lV63, lA63, l163, l263, A63, lL63, lsf63, st63⟩ := ldcCH (s := s) X56 hx hZ50 hown50 (W 137 rfl) wS e56 hS50 hk62 hEL (by simp) CR59.1 (vs := []) (z := (0 : Int32)) ⟨by decide, by rfl⟩ (by decide) rfl (g := (mkF m 18 #[rv a1, rv b1, iv 0, iv 0, .val .null, .unset] [.ref a1])) rfl (hb hby own_d4_18) (n := 0) (by decide) (by decide) (by decide) (by decide)
  have CR64 := CR59.trans A63
  have Z65 : n0 ≤ h63.size := Nat.le_trans Z60 E63.1
  have K66 : Keep h0 h63 [a1] := K61.ext E63
  have f67 := (Nat.lt_of_lt_of_le E1.lt E50.1)
  have f68 := (Nat.lt_of_lt_of_le f67 (Keep.of_wr W56).1)
  have f69 := (A63.safe f68 ((CHr.wr W56 f54 CR51.1).safe f67 f54))
  have hna63 := lsf63 a1 f69
  obtain ⟨T70, X70, e70, st70⟩ := getF X63 hx hZ63 hown63 (host := "") (Or.inl (W 103 rfl)) Via.refl e63 lC63 (g := (mkF m 20 #[rv a1, rv b1, iv 0, iv 0, .val .null, .unset] [.ref la63, .ref a1])) rfl rfl (hb hby own_d4_20)
  have f72 := (((F2.ext E50).other W56 (Or.inr (slot_ne (Or.inr (W 104 rfl)) (Or.inr (W 102 rfl)) (by decide) (t := .byte) (t' := (.array .byte)) (by decide) (by decide)))).ext E63)
  have f73 := ((f58.wr W56).ext E63)
  obtain ⟨T71, h71, X71, e71, W71, st71⟩ := putFN X70 hx hZ63 hown63 (W 103 rfl) Via.refl e70 f72 f73 (Or.inr ⟨(W 104 rfl), rfl, hnm⟩) (W 91 rfl) (ty := .byte) (v' := (.int (0 : Int32))) (by decide) rfl rfl (g := (mkF m 23 #[rv a1, rv b1, iv 0, iv 0, .val .null, .unset] [.int 0, .ref a1])) rfl rfl (hb hby own_d4_23)
  have N71 := Fr.snoc X71 N56 g1
  have Fw71 := f72.same W71
  have CR74 := CR64.trans (CHr.wr W71 f69 CR64.1)
  have Z75 : n0 ≤ h71.size := Nat.le_trans Z65 (Keep.of_wr W71).1
  have K76 : Keep h0 h71 [a1] := K66.wr W71 (Or.inl (List.mem_of_getElem? (i := 0) rfl))
  have hk77 := Nat.le_trans hk63 (Keep.of_wr W71).1
  have f78 := (f73.wr W71)
  have f79 := (((lA50.other W56 (Ne.symm hna50.2)).ext E63).other W71 (Ne.symm hna50.2))
  have f80 := ((Fw56.ext E63).other W71 (Or.inr (slot_ne (Or.inr (W 102 rfl)) (Or.inr (W 104 rfl)) (by decide) (t := (.array .byte)) (t' := .byte) (by decide) (by decide))))
  have hS : StrB Z h71 h71.size a1 [] := ⟨f78.lt, f78, lb50, lk50, 0, 0, [], f79.lt, f80, Fw71, f79, Or.inl ⟨rfl, rfl, rfl, fun c hc => by cases hc⟩, (fun c hc => by cases hc), (by decide)⟩
  have CRe := CR74.trans (CHv.at X71 hZ63 hEL CR74.1)
  obtain ⟨fs, hr, hrun, hended, hRW⟩ := X71.leaveW hS63 (by rw [e71]; exact hk77) (v := none) (fun _ => rfl)
  refine ⟨_, _, pre0 _ (?_), hrun, hended, _, _, rfl, ?_, (by rw [hh]; show CHr Z _ s.vm h0 T71.vm T71.heap; rw [e71]; exact CRe), hRW.1, hRW.2.1, hRW.2.2.1, hRW.2.2.2.mono (by decide) (by decide)⟩
  · show Steps p.tables e below (s₁.setTop (mkF m 0 #[rv a1, rv b1, iv 0, iv 0, .val .null, .unset] [])) _
    refine XS.aloadN X0.here hx rfl (hb hby own_d4_0) rfl rfl ?_
    show Steps _ _ _ (s₁.setTop (mkF m 1 _ [.ref a1])) _
    refine st49 _ ?_
    show Steps p.tables e below (T49.setTop (mkF m 4 #[rv a1, rv b1, iv 0, iv 0, .val .null, .unset] [])) _
    refine XS.iloadN X49.here hx rfl (hb hby own_d4_4) rfl ?_
    show Steps _ _ _ (T49.setTop (mkF m 5 _ [.int 0])) _
    refine XS.ifNo X49.here hx rfl (hb hby own_d4_5) rfl ((if0 _ _).trans (teq (rfl : (0 : Int32) = (0 : Int32))).2) ?_
    show Steps _ _ _ (T49.setTop (mkF m 8 _ [])) _
    refine XS.aloadN X49.here hx rfl (hb hby own_d4_8) rfl rfl ?_
    show Steps _ _ _ (T49.setTop (mkF m 9 _ [.ref a1])) _
    refine st50 _ ?_
    show Steps p.tables e below (T50.setTop (mkF m 11 #[rv a1, rv b1, iv 0, iv 0, .val .null, .unset] [.ref la50, .ref a1])) _
    refine st55 _ ?_
    show Steps p.tables e below (T55.setTop (mkF m 14 #[rv a1, rv b1, iv 0, iv 0, .val .null, .unset] [.ref lb50, .ref a1])) _
    refine st56 _ ?_
    show Steps p.tables e below (T56.setTop (mkF m 17 #[rv a1, rv b1, iv 0, iv 0, .val .null, .unset] [])) _
    refine XS.aloadN X56.here hx rfl (hb hby own_d4_17) rfl rfl ?_
    show Steps _ _ _ (T56.setTop (mkF m 18 _ [.ref a1])) _
    refine st63 _ ?_
    show Steps p.tables e below (T63.setTop (mkF m 20 #[rv a1, rv b1, iv 0, iv 0, .val .null, .unset] [.ref la63, .ref a1])) _
    refine st70 _ ?_
    show Steps p.tables e below (T70.setTop (mkF m 23 #[rv a1, rv b1, iv 0, iv 0, .val .null, .unset] [.int 0, .ref a1])) _
    refine st71 _ ?_
    show Steps p.tables e below (T71.setTop (mkF m 26 #[rv a1, rv b1, iv 0, iv 0, .val .null, .unset] [])) _
    exact X71.returnOut hx Bd.returns (hb hby own_d4_26) hr
  · show Q_sn4_0 Z a1 b1 h0 n0 _ T71.heap _
    rw [e71]
    exact ⟨rfl, N71, K76, hS⟩
theorem own_d7_0 : decode jdk_42_method_3_code 0 = .ok (.aload_n 0, 1) := by decide +kernel
theorem own_d7_1 : decode jdk_42_method_3_code 1 = .ok (.aload_n 1, 1) := by decide +kernel
theorem own_d7_2 : decode jdk_42_method_3_code 2 = .ok (.iconst 0, 1) := by decide +kernel
theorem own_d7_3 : decode jdk_42_method_3_code 3 = .ok (.aload_n 1, 1) := by decide +kernel
theorem own_d7_4 : decode jdk_42_method_3_code 4 = .ok (.arraylength, 1) := by decide +kernel
theorem own_d7_5 : decode jdk_42_method_3_code 5 = .ok (.aconst_null, 1) := by decide +kernel
theorem own_d7_6 : decode jdk_42_method_3_code 6 = .ok (.invokespecial 27, 3) := by decide +kernel
theorem own_pd_16 : parseMethodDescriptor "([CIILjava/lang/Void;)V" = some ⟨[(.array .char), .int, .int, (.object "java/lang/Void")], none⟩ := by decide +kernel
theorem own_d7_9 : decode jdk_42_method_3_code 9 = .ok (.return_, 1) := by decide +kernel
theorem own_ef_snew0 (m : MethodId) (x0 : Addr) (x1 : Addr) : entryFrame m #[(.ref x0), (.ref x1)] 2 = mkF m 0 #[rv x0, rv x1] [] := by first | (simp [entryFrame, mkF, argsToLocals, Value.category]; done) | rfl
def Q_snew0 (Z : State) (a1 b1 : Addr) (kc : ClassId) (h0 : Heap) (n0 : Nat) (v : Option Value) (h : Heap) (L : List Loc) : Prop := v = none ∧ Fr n0 L ∧ Keep h0 h [a1] ∧ StrB Z h h.size a1 []
set_option maxRecDepth 65536 in
set_option maxHeartbeats 40000000 in
theorem rm_snew0 (l : Launch) (Z : State) (a0 : Array Value) (hw : ∀ d ∈ tables_1, d.before a0 Z = true) (ws : List Jvm.Cond) (a1 b1 : Addr) (kc : ClassId) (h0 : Heap) (n0 : Nat) (Z0 : n0 ≤ h0.size) (V1 : Arv Z h0 b1 kc .char (0 : Int32) [] (.int 0)) (E1 : Exa Z h0 a1 "java/lang/String") (g1 : n0 ≤ a1) (F1 : Fld Z h0 a1 "java/lang/String" "value" "[B" .null) (F2 : Fld Z h0 a1 "java/lang/String" "coder" "B" (.int (0 : Int32))) :
    MetFree l (⟨"java/lang/String", "<init>", "([C)V"⟩ : MethodName) (head1 (Jvm.Cond.code (⟨"java/lang/String", "<init>", "([C)V"⟩ : MethodName) jdk_42_method_3_code 2 none :: ws) ({ frames := 2, cells := 4, slots := 8, locals := 32 } : Room)) (fun a U => a = #[(.ref a1), (.ref b1)] ∧ Z.Warmed39 U.vm ∧ U.heap = h0 ∧ own_J Z own_EL [a1] h0 U.vm) (fun _ _ _ _ _ => True) (fun _ U o U' => ∃ v L, o = .returned v ∧ Q_snew0 Z a1 b1 kc h0 n0 v U'.heap L ∧ CHr Z own_EL U.vm U.heap U'.vm U'.heap ∧ ReturnedEndW U o U' L ({ frames := 2, cells := 4, slots := 8, locals := 32 } : Room).cells ({ frames := 2, cells := 4, slots := 8, locals := 32 } : Room).slots) := by
  refine MetFree.of_bodySF (plainFor_of_name own_pn_6) hisR ?_
  intro p e s m args below meth c s₁ Bd hml0 hP hK
  obtain ⟨rfl, hZ, hh, hJ⟩ := hP
  have hx := Bd.exec
  have hby := Bd.bytes
  have hml : c.maxLocals = 2 := hml0
  have hown : s.vm.findClass "java/lang/String" = some m.cls := findClass_of_methodNamed Bd.named
  have hnm := (name_of_methodNamed Bd.named Bd.method).1
  have W := own_W hw
  have X0 : Stand p l e ({ frames := 2, cells := 4, slots := 8, locals := 32 } : Room) s m #[(.ref a1), (.ref b1)] below meth c s₁ [] 0 0 := Stand.of_body Bd
  have e0 : s₁.heap = h0 := by rw [← hh, Bd.state]; rfl
  have N0 := Fr.nil n0
  have pre0 : ∀ tq, Steps p.tables e below (s₁.setTop (mkF m 0 #[rv a1, rv b1] [])) tq → Steps p.tables e below (s₁.setTop (entryFrame m #[(.ref a1), (.ref b1)] 2)) tq := fun tq k => castTop (own_ef_snew0 m a1 b1) k
  have hEL := own_EW hw
  have wS : ∀ d ∈ Bundle.stringAtoms, d.before a0 Z = true := fun d hd => hw d ((by decide +kernel : ∀ d ∈ Bundle.stringAtoms, d ∈ tables_1) d hd)
  have hS0 : s.Since s.vm 0 := (State.WarmedH.refl s).since 0
  have hk0 : 0 ≤ h0.size := Nat.zero_le _
  have CH0 : CHv Z own_EL s.vm h0 := hJ.1
  have CR0 : CHr Z own_EL s.vm h0 s.vm h0 := CHr.refl CH0
  have X0 : Stand p l e ({ frames := 2, cells := 4, slots := 8, locals := 32 } : Room) (s.setVm s.vm) m #[(.ref a1), (.ref b1)] below meth c s₁ [] 0 0 := X0
  have sf_a1 : Safe Z own_EL s.vm h0 a1 := hJ.2 a1 (by simp)
  have K81 : Keep h0 h0 [a1] := Keep.refl h0 [a1]
  obtain ⟨cl82, Ar82, aq82, aS82, aN82, aH82, aG82⟩ := id V1
  obtain ⟨_, _, ⟨T83, L83, k83, n83⟩, -, Xw83, hSw83, hgw83, ⟨Lc83, hQ83, l83, y83, z83, A83⟩, st83⟩ := X0.specialBackS hx (y := (⟨"java/lang/String", "<init>", "([CIILjava/lang/Void;)V"⟩ : MethodName)) rfl hown (mvT hZ (W 124 rfl)) (mvT hZ (W 125 rfl)) (mvT hZ (W 126 rfl)) (by decide) (own_backX (s := s) (W := 0) (rm_sn4_0 l Z a0 hw [] a1 b1 h0 n0 Z0 E1 g1 F1 F2) hZ (W 126 rfl) (W 83 rfl) (by decide) (by decide) hEL (xs := [a1]) ⟨CH0, (allS sf_a1 all0)⟩ (allS E1.lt all0)) (g := (mkF m 6 #[rv a1, rv b1] [.null, .int 0, .int 0, .ref b1, .ref a1])) rfl (by rw [hml]; rfl) (Steps.refl _) (a := a1) (argsL := [.ref b1, .int 0, .int 0, .null]) (rest := []) (lenOf own_pd_16 rfl) rfl (by show 2 * 0 + _ ≤ _; exact Nat.le_of_eq rfl) (hb hby own_d7_6) (fun _ _ => ⟨rfl, e0, (by decide : 0 + 4 ≤ _), (by decide : 0 + 8 ≤ _)⟩)
  dsimp only [Pt.U, Pt.locs, Pt.cells, Pt.slots] at Xw83 hSw83 hgw83 l83 y83 z83 A83 st83 hQ83
  subst l83 y83 z83
  obtain ⟨X83, hS83, hZ83, hown83⟩ := rebS (s := s) (T := T83) hS0 hk0 Xw83 hSw83 (by rw [← e0]; exact hgw83) hZ hown
  have hk83 : T83.heap.size ≤ T83.heap.size := Nat.le_refl _
  obtain ⟨rfl, Nq83, K83, hS⟩ := hQ83
  have N83 := Fr.app N0 Nq83
  have CR84 := CR0.trans A83
  have Z85 : n0 ≤ T83.heap.size := Nat.le_trans Z0 K83.1
  have K86 : Keep h0 T83.heap [a1] := K81.trans K83 (allS (Or.inl (List.mem_of_getElem? (i := 0) rfl)) all0)
  have CRe := CR84.trans (CHv.at X83 hZ83 hEL CR84.1)
  obtain ⟨fs, hr, hrun, hended, hRW⟩ := X83.leaveW hS83 hk83 (v := none) (fun _ => rfl)
  refine ⟨_, _, pre0 _ (?_), hrun, hended, _, _, rfl, ?_, (by rw [hh]; show CHr Z _ s.vm h0 T83.vm T83.heap; exact CRe), hRW.1, hRW.2.1, hRW.2.2.1, hRW.2.2.2.mono (by decide) (by decide)⟩
  · show Steps p.tables e below (s₁.setTop (mkF m 0 #[rv a1, rv b1] [])) _
    refine XS.aloadN X0.here hx rfl (hb hby own_d7_0) rfl rfl ?_
    show Steps _ _ _ (s₁.setTop (mkF m 1 _ [.ref a1])) _
    refine XS.aloadN X0.here hx rfl (hb hby own_d7_1) rfl rfl ?_
    show Steps _ _ _ (s₁.setTop (mkF m 2 _ [.ref b1, .ref a1])) _
    refine XS.iconst X0.here hx rfl (hb hby own_d7_2) ?_
    show Steps _ _ _ (s₁.setTop (mkF m 3 _ [.int 0, .ref b1, .ref a1])) _
    refine XS.aloadN X0.here hx rfl (hb hby own_d7_3) rfl rfl ?_
    show Steps _ _ _ (s₁.setTop (mkF m 4 _ [.ref b1, .int 0, .ref b1, .ref a1])) _
    refine X0.arraylength hx (by rw [e0]; exact Ar82.1) (State.isArrayOf_alike hZ.alike Ar82.2.1) (g := (mkF m 4 #[rv a1, rv b1] [.ref b1, .int 0, .ref b1, .ref a1])) rfl rfl (hb hby own_d7_4) _ ?_
    rw [len_of aS82 aN82]
    show Steps p.tables e below (s₁.setTop (mkF m 5 #[rv a1, rv b1] [.int 0, .int 0, .ref b1, .ref a1])) _
    refine XS.aconstNull X0.here hx rfl (hb hby own_d7_5) ?_
    show Steps _ _ _ (s₁.setTop (mkF m 6 _ [.null, .int 0, .int 0, .ref b1, .ref a1])) _
    refine st83.trans ?_
    show Steps p.tables e below (T83.setTop (mkF m 9 #[rv a1, rv b1] [])) _
    exact X83.returnOut hx Bd.returns (hb hby own_d7_9) hr
  · show Q_snew0 Z a1 b1 kc h0 n0 _ T83.heap _
    exact ⟨rfl, N83, K86, hS⟩
theorem own_pn_9 : plainName "java/util/List" = true := by decide +kernel
theorem own_d2_0 : decode jdk_40_method_36_code 0 = .ok (.getstatic 90, 3) := by decide +kernel
theorem own_d2_3 : decode jdk_40_method_36_code 3 = .ok (.areturn, 1) := by decide +kernel
theorem own_ef_lof (m : MethodId)  : entryFrame m #[] 0 = mkF m 0 #[] [] := by first | (simp [entryFrame, mkF, argsToLocals, Value.category]; done) | rfl
def Q_lof (Z : State) (em : Addr) (h0 : Heap) (n0 : Nat) (v : Option Value) (h : Heap) (L : List Loc) : Prop := v = some (.ref em) ∧ Fr n0 L ∧ h = h0
set_option maxRecDepth 65536 in
set_option maxHeartbeats 40000000 in
theorem rm_lof (l : Launch) (Z : State) (a0 : Array Value) (hw : ∀ d ∈ tables_1, d.before a0 Z = true) (ws : List Jvm.Cond) (em : Addr) (h0 : Heap) (n0 : Nat) (Z0 : n0 ≤ h0.size) (X00 : Old Z n0 h0) (OE : Sta Z Z.heap "java/util/ImmutableCollections" "EMPTY_LIST" "Ljava/util/ImmutableCollections$ListN;" (.ref em)) :
    MetFree l (⟨"java/util/List", "of", "()Ljava/util/List;"⟩ : MethodName) (head1 (Jvm.Cond.code (⟨"java/util/List", "of", "()Ljava/util/List;"⟩ : MethodName) jdk_40_method_36_code 0 (some (.object "java/util/List")) :: ws) ({ frames := 0, cells := 0, slots := 0, locals := 0 } : Room)) (fun a U => a = #[] ∧ Z.Warmed39 U.vm ∧ U.heap = h0) (fun _ _ _ _ _ => True) (fun _ U o U' => ∃ v L, o = .returned v ∧ Q_lof Z em h0 n0 v U'.heap L ∧ FrameEnd U o U' L ({ frames := 0, cells := 0, slots := 0, locals := 0 } : Room).cells ({ frames := 0, cells := 0, slots := 0, locals := 0 } : Room).slots) := by
  refine MetFree.of_bodySF (plainFor_of_name own_pn_9) hisR ?_
  intro p e s m args below meth c s₁ Bd hml0 hP hK
  obtain ⟨rfl, hZ, hh⟩ := hP
  have hx := Bd.exec
  have hby := Bd.bytes
  have hml : c.maxLocals = 0 := hml0
  have hown : s.vm.findClass "java/util/List" = some m.cls := findClass_of_methodNamed Bd.named
  have hnm := (name_of_methodNamed Bd.named Bd.method).1
  have W := own_W hw
  have X0 : Stand p l e ({ frames := 0, cells := 0, slots := 0, locals := 0 } : Room) s m #[] below meth c s₁ [] 0 0 := Stand.of_body Bd
  have e0 : s₁.heap = h0 := by rw [← hh, Bd.state]; rfl
  have N0 := Fr.nil n0
  have pre0 : ∀ tq, Steps p.tables e below (s₁.setTop (mkF m 0 #[] [])) tq → Steps p.tables e below (s₁.setTop (entryFrame m #[] 0)) tq := fun tq k => castTop (own_ef_lof m ) k
  obtain ⟨T87, X87, e87, st87⟩ := getS2 X0 hx hZ hown (host := "") (Or.inl (W 14 rfl)) Via.refl e0 (OE.ext X00.2) (g := (mkF m 0 #[] [])) rfl (hb hby own_d2_0)
  obtain ⟨fs, hr, hrun, hended, hW, hsame⟩ := X87.leave (v := some (.ref em)) (fun h => by rw [Bd.returns] at h; cases h)
  refine ⟨_, _, pre0 _ (?_), hrun, hended, _, _, rfl, ?_, ⟨_, rfl⟩, hW, hsame.mono (by decide) (by decide)⟩
  · show Steps p.tables e below (s₁.setTop (mkF m 0 #[] [])) _
    refine st87 _ ?_
    show Steps p.tables e below (T87.setTop (mkF m 3 #[] [.ref em])) _
    exact retOut X87 hx Bd.returns rfl (Or.inr (Or.inr (Or.inr (Or.inr ⟨rfl, rfl, rfl⟩)))) (hb hby own_d2_3) hr
  · show Q_lof Z em h0 n0 _ T87.heap _
    rw [e87]
    exact ⟨rfl, N0, rfl⟩
theorem own_pn_3 : plainName "com/example/kalip/kalip/recordshop/domain/Artist" = true := by decide +kernel
theorem own_d20_0 : decode prog_67_method_1_code 0 = .ok (.aload_n 0, 1) := by decide +kernel
theorem own_d20_1 : decode prog_67_method_1_code 1 = .ok (.invokespecial 1, 3) := by decide +kernel
theorem own_d20_4 : decode prog_67_method_1_code 4 = .ok (.aload_n 0, 1) := by decide +kernel
theorem own_d20_5 : decode prog_67_method_1_code 5 = .ok (.invokestatic 7, 3) := by decide +kernel
theorem own_pd_1 : parseMethodDescriptor "()Ljava/util/List;" = some ⟨[], some (.object "java/util/List")⟩ := by decide +kernel
theorem own_d20_8 : decode prog_67_method_1_code 8 = .ok (.putfield 13, 3) := by decide +kernel
theorem own_d20_11 : decode prog_67_method_1_code 11 = .ok (.return_, 1) := by decide +kernel
theorem own_ef_ainit (m : MethodId) (x0 : Addr) : entryFrame m #[(.ref x0)] 1 = mkF m 0 #[rv x0] [] := by first | (simp [entryFrame, mkF, argsToLocals, Value.category]; done) | rfl
def Q_ainit (Z : State) (a1 em : Addr) (h0 : Heap) (n0 : Nat) (v : Option Value) (h : Heap) (L : List Loc) : Prop := v = none ∧ Fr n0 L ∧ Keep h0 h [a1] ∧ Exa Z h a1 "com/example/kalip/kalip/recordshop/domain/Artist" ∧ Fld Z h a1 "com/example/kalip/kalip/recordshop/domain/Artist" "id" "I" (.int (0 : Int32)) ∧ Fld Z h a1 "com/example/kalip/kalip/recordshop/domain/Artist" "version" "J" (.long (0 : Int64)) ∧ Fld Z h a1 "com/example/kalip/kalip/recordshop/domain/Artist" "name" "Ljava/lang/String;" .null
set_option maxRecDepth 65536 in
set_option maxHeartbeats 40000000 in
theorem rm_ainit (l : Launch) (Z : State) (a0 : Array Value) (hw : ∀ d ∈ tables_1, d.before a0 Z = true) (ws : List Jvm.Cond) (a1 em : Addr) (h0 : Heap) (n0 : Nat) (Z0 : n0 ≤ h0.size) (X00 : Old Z n0 h0) (E1 : Exa Z h0 a1 "com/example/kalip/kalip/recordshop/domain/Artist") (g1 : n0 ≤ a1) (F1 : Fld Z h0 a1 "com/example/kalip/kalip/recordshop/domain/Artist" "id" "I" (.int (0 : Int32))) (F2 : Fld Z h0 a1 "com/example/kalip/kalip/recordshop/domain/Artist" "version" "J" (.long (0 : Int64))) (F3 : Fld Z h0 a1 "com/example/kalip/kalip/recordshop/domain/Artist" "name" "Ljava/lang/String;" .null) (F4 : Fld Z h0 a1 "com/example/kalip/kalip/recordshop/domain/Artist" "albums" "Ljava/util/List;" .null) (OE : Sta Z Z.heap "java/util/ImmutableCollections" "EMPTY_LIST" "Ljava/util/ImmutableCollections$ListN;" (.ref em)) :
    MetFree l (⟨"com/example/kalip/kalip/recordshop/domain/Artist", "<init>", "()V"⟩ : MethodName) (head1 (Jvm.Cond.code (⟨"com/example/kalip/kalip/recordshop/domain/Artist", "<init>", "()V"⟩ : MethodName) prog_67_method_1_code 1 none :: ws) ({ frames := 1, cells := 0, slots := 0, locals := 20 } : Room)) (fun a U => a = #[(.ref a1)] ∧ Z.Warmed39 U.vm ∧ U.heap = h0) (fun _ _ _ _ _ => True) (fun _ U o U' => ∃ v L, o = .returned v ∧ Q_ainit Z a1 em h0 n0 v U'.heap L ∧ FrameEnd U o U' L ({ frames := 1, cells := 0, slots := 0, locals := 20 } : Room).cells ({ frames := 1, cells := 0, slots := 0, locals := 20 } : Room).slots) := by
  refine MetFree.of_bodySF (plainFor_of_name own_pn_3) hisR ?_
  intro p e s m args below meth c s₁ Bd hml0 hP hK
  obtain ⟨rfl, hZ, hh⟩ := hP
  have hx := Bd.exec
  have hby := Bd.bytes
  have hml : c.maxLocals = 1 := hml0
  have hown : s.vm.findClass "com/example/kalip/kalip/recordshop/domain/Artist" = some m.cls := findClass_of_methodNamed Bd.named
  have hnm := (name_of_methodNamed Bd.named Bd.method).1
  have W := own_W hw
  have X0 : Stand p l e ({ frames := 1, cells := 0, slots := 0, locals := 20 } : Room) s m #[(.ref a1)] below meth c s₁ [] 0 0 := Stand.of_body Bd
  have e0 : s₁.heap = h0 := by rw [← hh, Bd.state]; rfl
  have N0 := Fr.nil n0
  have pre0 : ∀ tq, Steps p.tables e below (s₁.setTop (mkF m 0 #[rv a1] [])) tq → Steps p.tables e below (s₁.setTop (entryFrame m #[(.ref a1)] 1)) tq := fun tq k => castTop (own_ef_ainit m a1) k
  have K88 : Keep h0 h0 [a1] := Keep.refl h0 [a1]
  obtain ⟨T89, X89, e89, st89⟩ := initO X0 hx hZ hown (W 7 rfl) (W 8 rfl) (W 9 rfl) e0 (g := (mkF m 1 #[rv a1] [.ref a1])) rfl (by rw [hml]; rfl) rfl (hb hby own_d20_1) (by decide) (W := 0) (by show 2 * 0 + _ ≤ _; exact Nat.le_of_eq rfl) (by decide)
  obtain ⟨_, _, ⟨T90, L90, k90, n90⟩, -, X90, ⟨Lc90, hQ90, l90, y90, z90⟩, st90⟩ := Jvm.LawKit.callS X89 hx (y := (⟨"java/util/List", "of", "()Ljava/util/List;"⟩ : MethodName)) hown (mvT hZ (W 10 rfl)) (mvT hZ (W 11 rfl)) (mvT hZ (W 12 rfl)) (mvT hZ (W 13 rfl)) (by decide) (backOf (W := 1) (rm_lof l Z a0 hw [] em h0 n0 Z0 X00 OE) hZ (W 13 rfl) (W 12 rfl) (by decide) (by decide)) (g := (mkF m 5 #[rv a1] [.ref a1])) rfl (by rw [hml]; rfl) (argsL := []) (rest := [.ref a1]) (lenOf own_pd_1 rfl) rfl (by show 2 * 0 + _ ≤ _; exact Nat.le_of_eq rfl) (hb hby own_d20_5) (fun _ _ => ⟨rfl, e89, (by decide : 0 + 0 ≤ _), (by decide : 0 + 0 ≤ _)⟩)
  dsimp only [Pt.U, Pt.locs, Pt.cells, Pt.slots] at X90 l90 y90 z90 st90 hQ90
  subst l90 y90 z90
  obtain ⟨rfl, Nq90, e90⟩ := hQ90
  have N90 := Fr.app N0 Nq90
  obtain ⟨T91, h91, X91, e91, W91, st91⟩ := putF X90 hx hZ hown (host := "") (Or.inl (W 16 rfl)) Via.refl e90 F4 E1 (Or.inl (W 17 rfl)) (W 2 rfl) (ty := (.object "java/util/List")) (by decide) rfl rfl (g := (mkF m 8 #[rv a1] [.ref em, .ref a1])) rfl rfl (hb hby own_d20_8)
  have N91 := Fr.snoc X91 N90 g1
  have Fw91 := F4.same W91
  have Z92 : n0 ≤ h91.size := Nat.le_trans Z0 (Keep.of_wr W91).1
  have O93 : Old Z n0 h91 := X00.wr W91 g1
  have K94 : Keep h0 h91 [a1] := K88.wr W91 (Or.inl (List.mem_of_getElem? (i := 0) rfl))
  have f95 := (E1.wr W91)
  have f96 := (F1.other W91 (Or.inr (slot_ne (Or.inl (W 24 rfl)) (Or.inl (W 17 rfl)) (by decide) (t := .int) (t' := (.object "java/util/List")) (by decide) (by decide))))
  have f97 := (F2.other W91 (Or.inr (slot_ne (Or.inl (W 31 rfl)) (Or.inl (W 17 rfl)) (by decide) (t := .long) (t' := (.object "java/util/List")) (by decide) (by decide))))
  have f98 := (F3.other W91 (Or.inr (slot_ne (Or.inl (W 38 rfl)) (Or.inl (W 17 rfl)) (by decide) (t := (.object "java/lang/String")) (t' := (.object "java/util/List")) (by decide) (by decide))))
  obtain ⟨fs, hr, hrun, hended, hW, hsame⟩ := X91.leave (v := none) (fun _ => rfl)
  refine ⟨_, _, pre0 _ (?_), hrun, hended, _, _, rfl, ?_, ⟨_, rfl⟩, hW, hsame.mono (by decide) (by decide)⟩
  · show Steps p.tables e below (s₁.setTop (mkF m 0 #[rv a1] [])) _
    refine XS.aloadN X0.here hx rfl (hb hby own_d20_0) rfl rfl ?_
    show Steps _ _ _ (s₁.setTop (mkF m 1 _ [.ref a1])) _
    refine st89 _ ?_
    show Steps p.tables e below (T89.setTop (mkF m 4 #[rv a1] [])) _
    refine XS.aloadN X89.here hx rfl (hb hby own_d20_4) rfl rfl ?_
    show Steps _ _ _ (T89.setTop (mkF m 5 _ [.ref a1])) _
    refine st90 _ ?_
    show Steps p.tables e below (T90.setTop (mkF m 8 #[rv a1] [.ref em, .ref a1])) _
    refine st91 _ ?_
    show Steps p.tables e below (T91.setTop (mkF m 11 #[rv a1] [])) _
    exact X91.returnOut hx Bd.returns (hb hby own_d20_11) hr
  · show Q_ainit Z a1 em h0 n0 _ T91.heap _
    rw [e91]
    exact ⟨rfl, N91, K94, f95, f96, f97, f98⟩
theorem own_d22_0 : decode prog_67_method_3_code 0 = .ok (.aload_n 0, 1) := by decide +kernel
theorem own_d22_1 : decode prog_67_method_3_code 1 = .ok (.iload_n 1, 1) := by decide +kernel
theorem own_d22_2 : decode prog_67_method_3_code 2 = .ok (.putfield 19, 3) := by decide +kernel
theorem own_d22_5 : decode prog_67_method_3_code 5 = .ok (.return_, 1) := by decide +kernel
theorem own_ef_setid (m : MethodId) (x0 : Addr) (x1 : Int32) : entryFrame m #[(.ref x0), (.int x1)] 2 = mkF m 0 #[rv x0, iv x1] [] := by first | (simp [entryFrame, mkF, argsToLocals, Value.category]; done) | rfl
def Q_setid (Z : State) (a1 : Addr) (i2 : Int32) (h0 : Heap) (n0 : Nat) (v : Option Value) (h : Heap) (L : List Loc) : Prop := v = none ∧ Fr n0 L ∧ Keep h0 h [a1] ∧ Exa Z h a1 "com/example/kalip/kalip/recordshop/domain/Artist" ∧ Fld Z h a1 "com/example/kalip/kalip/recordshop/domain/Artist" "id" "I" (.int i2) ∧ Fld Z h a1 "com/example/kalip/kalip/recordshop/domain/Artist" "version" "J" (.long (0 : Int64)) ∧ Fld Z h a1 "com/example/kalip/kalip/recordshop/domain/Artist" "name" "Ljava/lang/String;" .null
set_option maxRecDepth 65536 in
set_option maxHeartbeats 40000000 in
theorem rm_setid (l : Launch) (Z : State) (a0 : Array Value) (hw : ∀ d ∈ tables_1, d.before a0 Z = true) (ws : List Jvm.Cond) (a1 : Addr) (i2 : Int32) (h0 : Heap) (n0 : Nat) (Z0 : n0 ≤ h0.size) (E1 : Exa Z h0 a1 "com/example/kalip/kalip/recordshop/domain/Artist") (g1 : n0 ≤ a1) (F1 : Fld Z h0 a1 "com/example/kalip/kalip/recordshop/domain/Artist" "id" "I" (.int (0 : Int32))) (F2 : Fld Z h0 a1 "com/example/kalip/kalip/recordshop/domain/Artist" "version" "J" (.long (0 : Int64))) (F3 : Fld Z h0 a1 "com/example/kalip/kalip/recordshop/domain/Artist" "name" "Ljava/lang/String;" .null)  :
    MetFree l (⟨"com/example/kalip/kalip/recordshop/domain/Artist", "setId", "(I)V"⟩ : MethodName) (head1 (Jvm.Cond.code (⟨"com/example/kalip/kalip/recordshop/domain/Artist", "setId", "(I)V"⟩ : MethodName) prog_67_method_3_code 2 none :: ws) ({ frames := 0, cells := 0, slots := 0, locals := 0 } : Room)) (fun a U => a = #[(.ref a1), (.int i2)] ∧ Z.Warmed39 U.vm ∧ U.heap = h0) (fun _ _ _ _ _ => True) (fun _ U o U' => ∃ v L, o = .returned v ∧ Q_setid Z a1 i2 h0 n0 v U'.heap L ∧ FrameEnd U o U' L ({ frames := 0, cells := 0, slots := 0, locals := 0 } : Room).cells ({ frames := 0, cells := 0, slots := 0, locals := 0 } : Room).slots) := by
  refine MetFree.of_bodySF (plainFor_of_name own_pn_3) hisR ?_
  intro p e s m args below meth c s₁ Bd hml0 hP hK
  obtain ⟨rfl, hZ, hh⟩ := hP
  have hx := Bd.exec
  have hby := Bd.bytes
  have hml : c.maxLocals = 2 := hml0
  have hown : s.vm.findClass "com/example/kalip/kalip/recordshop/domain/Artist" = some m.cls := findClass_of_methodNamed Bd.named
  have hnm := (name_of_methodNamed Bd.named Bd.method).1
  have W := own_W hw
  have X0 : Stand p l e ({ frames := 0, cells := 0, slots := 0, locals := 0 } : Room) s m #[(.ref a1), (.int i2)] below meth c s₁ [] 0 0 := Stand.of_body Bd
  have e0 : s₁.heap = h0 := by rw [← hh, Bd.state]; rfl
  have N0 := Fr.nil n0
  have pre0 : ∀ tq, Steps p.tables e below (s₁.setTop (mkF m 0 #[rv a1, iv i2] [])) tq → Steps p.tables e below (s₁.setTop (entryFrame m #[(.ref a1), (.int i2)] 2)) tq := fun tq k => castTop (own_ef_setid m a1 i2) k
  have K99 : Keep h0 h0 [a1] := Keep.refl h0 [a1]
  obtain ⟨T100, h100, X100, e100, W100, st100⟩ := putF X0 hx hZ hown (host := "") (Or.inl (W 23 rfl)) Via.refl e0 F1 E1 (Or.inl (W 24 rfl)) (W 2 rfl) (ty := .int) (by decide) rfl rfl (g := (mkF m 2 #[rv a1, iv i2] [.int i2, .ref a1])) rfl rfl (hb hby own_d22_2)
  have N100 := Fr.snoc X100 N0 g1
  have Fw100 := F1.same W100
  have Z101 : n0 ≤ h100.size := Nat.le_trans Z0 (Keep.of_wr W100).1
  have K102 : Keep h0 h100 [a1] := K99.wr W100 (Or.inl (List.mem_of_getElem? (i := 0) rfl))
  have f103 := (E1.wr W100)
  have f104 := (F2.other W100 (Or.inr (slot_ne (Or.inl (W 31 rfl)) (Or.inl (W 24 rfl)) (by decide) (t := .long) (t' := .int) (by decide) (by decide))))
  have f105 := (F3.other W100 (Or.inr (slot_ne (Or.inl (W 38 rfl)) (Or.inl (W 24 rfl)) (by decide) (t := (.object "java/lang/String")) (t' := .int) (by decide) (by decide))))
  obtain ⟨fs, hr, hrun, hended, hW, hsame⟩ := X100.leave (v := none) (fun _ => rfl)
  refine ⟨_, _, pre0 _ (?_), hrun, hended, _, _, rfl, ?_, ⟨_, rfl⟩, hW, hsame.mono (by decide) (by decide)⟩
  · show Steps p.tables e below (s₁.setTop (mkF m 0 #[rv a1, iv i2] [])) _
    refine XS.aloadN X0.here hx rfl (hb hby own_d22_0) rfl rfl ?_
    show Steps _ _ _ (s₁.setTop (mkF m 1 _ [.ref a1])) _
    refine XS.iloadN X0.here hx rfl (hb hby own_d22_1) rfl ?_
    show Steps _ _ _ (s₁.setTop (mkF m 2 _ [.int i2, .ref a1])) _
    refine st100 _ ?_
    show Steps p.tables e below (T100.setTop (mkF m 5 #[rv a1, iv i2] [])) _
    exact X100.returnOut hx Bd.returns (hb hby own_d22_5) hr
  · show Q_setid Z a1 i2 h0 n0 _ T100.heap _
    rw [e100]
    exact ⟨rfl, N100, K102, f103, Fw100, f104, f105⟩
theorem own_d25_0 : decode prog_67_method_7_code 0 = .ok (.aload_n 0, 1) := by decide +kernel
theorem own_d25_1 : decode prog_67_method_7_code 1 = .ok (.lload_n 1, 1) := by decide +kernel
theorem own_d25_2 : decode prog_67_method_7_code 2 = .ok (.putfield 27, 3) := by decide +kernel
theorem own_d25_5 : decode prog_67_method_7_code 5 = .ok (.return_, 1) := by decide +kernel
theorem own_ef_setver (m : MethodId) (x0 : Addr) (x1 : Int64) : entryFrame m #[(.ref x0), (.long x1)] 3 = mkF m 0 #[rv x0, .val (.long x1), .second] [] := by first | (simp [entryFrame, mkF, argsToLocals, Value.category]; done) | rfl
def Q_setver (Z : State) (a1 : Addr) (i2 : Int32) (v2 : Int64) (h0 : Heap) (n0 : Nat) (v : Option Value) (h : Heap) (L : List Loc) : Prop := v = none ∧ Fr n0 L ∧ Keep h0 h [a1] ∧ Exa Z h a1 "com/example/kalip/kalip/recordshop/domain/Artist" ∧ Fld Z h a1 "com/example/kalip/kalip/recordshop/domain/Artist" "id" "I" (.int i2) ∧ Fld Z h a1 "com/example/kalip/kalip/recordshop/domain/Artist" "version" "J" (.long v2) ∧ Fld Z h a1 "com/example/kalip/kalip/recordshop/domain/Artist" "name" "Ljava/lang/String;" .null
set_option maxRecDepth 65536 in
set_option maxHeartbeats 40000000 in
theorem rm_setver (l : Launch) (Z : State) (a0 : Array Value) (hw : ∀ d ∈ tables_1, d.before a0 Z = true) (ws : List Jvm.Cond) (a1 : Addr) (i2 : Int32) (v2 : Int64) (h0 : Heap) (n0 : Nat) (Z0 : n0 ≤ h0.size) (E1 : Exa Z h0 a1 "com/example/kalip/kalip/recordshop/domain/Artist") (g1 : n0 ≤ a1) (F1 : Fld Z h0 a1 "com/example/kalip/kalip/recordshop/domain/Artist" "id" "I" (.int i2)) (F2 : Fld Z h0 a1 "com/example/kalip/kalip/recordshop/domain/Artist" "version" "J" (.long (0 : Int64))) (F3 : Fld Z h0 a1 "com/example/kalip/kalip/recordshop/domain/Artist" "name" "Ljava/lang/String;" .null)  :
    MetFree l (⟨"com/example/kalip/kalip/recordshop/domain/Artist", "setVersion", "(J)V"⟩ : MethodName) (head1 (Jvm.Cond.code (⟨"com/example/kalip/kalip/recordshop/domain/Artist", "setVersion", "(J)V"⟩ : MethodName) prog_67_method_7_code 3 none :: ws) ({ frames := 0, cells := 0, slots := 0, locals := 0 } : Room)) (fun a U => a = #[(.ref a1), (.long v2)] ∧ Z.Warmed39 U.vm ∧ U.heap = h0) (fun _ _ _ _ _ => True) (fun _ U o U' => ∃ v L, o = .returned v ∧ Q_setver Z a1 i2 v2 h0 n0 v U'.heap L ∧ FrameEnd U o U' L ({ frames := 0, cells := 0, slots := 0, locals := 0 } : Room).cells ({ frames := 0, cells := 0, slots := 0, locals := 0 } : Room).slots) := by
  refine MetFree.of_bodySF (plainFor_of_name own_pn_3) hisR ?_
  intro p e s m args below meth c s₁ Bd hml0 hP hK
  obtain ⟨rfl, hZ, hh⟩ := hP
  have hx := Bd.exec
  have hby := Bd.bytes
  have hml : c.maxLocals = 3 := hml0
  have hown : s.vm.findClass "com/example/kalip/kalip/recordshop/domain/Artist" = some m.cls := findClass_of_methodNamed Bd.named
  have hnm := (name_of_methodNamed Bd.named Bd.method).1
  have W := own_W hw
  have X0 : Stand p l e ({ frames := 0, cells := 0, slots := 0, locals := 0 } : Room) s m #[(.ref a1), (.long v2)] below meth c s₁ [] 0 0 := Stand.of_body Bd
  have e0 : s₁.heap = h0 := by rw [← hh, Bd.state]; rfl
  have N0 := Fr.nil n0
  have pre0 : ∀ tq, Steps p.tables e below (s₁.setTop (mkF m 0 #[rv a1, .val (.long v2), .second] [])) tq → Steps p.tables e below (s₁.setTop (entryFrame m #[(.ref a1), (.long v2)] 3)) tq := fun tq k => castTop (own_ef_setver m a1 v2) k
  have K106 : Keep h0 h0 [a1] := Keep.refl h0 [a1]
  obtain ⟨T107, h107, X107, e107, W107, st107⟩ := putF X0 hx hZ hown (host := "") (Or.inl (W 30 rfl)) Via.refl e0 F2 E1 (Or.inl (W 31 rfl)) (W 2 rfl) (ty := .long) (by decide) rfl rfl (g := (mkF m 2 #[rv a1, .val (.long v2), .second] [.long v2, .ref a1])) rfl rfl (hb hby own_d25_2)
  have N107 := Fr.snoc X107 N0 g1
  have Fw107 := F2.same W107
  have Z108 : n0 ≤ h107.size := Nat.le_trans Z0 (Keep.of_wr W107).1
  have K109 : Keep h0 h107 [a1] := K106.wr W107 (Or.inl (List.mem_of_getElem? (i := 0) rfl))
  have f110 := (E1.wr W107)
  have f111 := (F1.other W107 (Or.inr (slot_ne (Or.inl (W 24 rfl)) (Or.inl (W 31 rfl)) (by decide) (t := .int) (t' := .long) (by decide) (by decide))))
  have f112 := (F3.other W107 (Or.inr (slot_ne (Or.inl (W 38 rfl)) (Or.inl (W 31 rfl)) (by decide) (t := (.object "java/lang/String")) (t' := .long) (by decide) (by decide))))
  obtain ⟨fs, hr, hrun, hended, hW, hsame⟩ := X107.leave (v := none) (fun _ => rfl)
  refine ⟨_, _, pre0 _ (?_), hrun, hended, _, _, rfl, ?_, ⟨_, rfl⟩, hW, hsame.mono (by decide) (by decide)⟩
  · show Steps p.tables e below (s₁.setTop (mkF m 0 #[rv a1, .val (.long v2), .second] [])) _
    refine XS.aloadN X0.here hx rfl (hb hby own_d25_0) rfl rfl ?_
    show Steps _ _ _ (s₁.setTop (mkF m 1 _ [.ref a1])) _
    refine XS.lloadN X0.here hx rfl (hb hby own_d25_1) rfl ?_
    show Steps _ _ _ (s₁.setTop (mkF m 2 _ [.long v2, .ref a1])) _
    refine st107 _ ?_
    show Steps p.tables e below (T107.setTop (mkF m 5 #[rv a1, .val (.long v2), .second] [])) _
    exact X107.returnOut hx Bd.returns (hb hby own_d25_5) hr
  · show Q_setver Z a1 i2 v2 h0 n0 _ T107.heap _
    rw [e107]
    exact ⟨rfl, N107, K109, f110, f111, Fw107, f112⟩
theorem own_pn_5 : plainName "java/lang/Record" = true := by decide +kernel
theorem own_d1_0 : decode jdk_30_method_1_code 0 = .ok (.aload_n 0, 1) := by decide +kernel
theorem own_d1_1 : decode jdk_30_method_1_code 1 = .ok (.invokespecial 1, 3) := by decide +kernel
theorem own_d1_4 : decode jdk_30_method_1_code 4 = .ok (.return_, 1) := by decide +kernel
theorem own_ef_rec (m : MethodId) (x0 : Addr) : entryFrame m #[(.ref x0)] 1 = mkF m 0 #[rv x0] [] := by first | (simp [entryFrame, mkF, argsToLocals, Value.category]; done) | rfl
def Q_rec (Z : State) (a1 : Addr) (h0 : Heap) (n0 : Nat) (v : Option Value) (h : Heap) (L : List Loc) : Prop := v = none ∧ Fr n0 L ∧ h = h0
set_option maxRecDepth 65536 in
set_option maxHeartbeats 40000000 in
theorem rm_rec (l : Launch) (Z : State) (a0 : Array Value) (hw : ∀ d ∈ tables_1, d.before a0 Z = true) (ws : List Jvm.Cond) (a1 : Addr) (h0 : Heap) (n0 : Nat) (Z0 : n0 ≤ h0.size)  :
    MetFree l (⟨"java/lang/Record", "<init>", "()V"⟩ : MethodName) (head1 (Jvm.Cond.code (⟨"java/lang/Record", "<init>", "()V"⟩ : MethodName) jdk_30_method_1_code 1 none :: ws) ({ frames := 1, cells := 0, slots := 0, locals := 12 } : Room)) (fun a U => a = #[(.ref a1)] ∧ Z.Warmed39 U.vm ∧ U.heap = h0) (fun _ _ _ _ _ => True) (fun _ U o U' => ∃ v L, o = .returned v ∧ Q_rec Z a1 h0 n0 v U'.heap L ∧ FrameEnd U o U' L ({ frames := 1, cells := 0, slots := 0, locals := 12 } : Room).cells ({ frames := 1, cells := 0, slots := 0, locals := 12 } : Room).slots) := by
  refine MetFree.of_bodySF (plainFor_of_name own_pn_5) hisR ?_
  intro p e s m args below meth c s₁ Bd hml0 hP hK
  obtain ⟨rfl, hZ, hh⟩ := hP
  have hx := Bd.exec
  have hby := Bd.bytes
  have hml : c.maxLocals = 1 := hml0
  have hown : s.vm.findClass "java/lang/Record" = some m.cls := findClass_of_methodNamed Bd.named
  have hnm := (name_of_methodNamed Bd.named Bd.method).1
  have W := own_W hw
  have X0 : Stand p l e ({ frames := 1, cells := 0, slots := 0, locals := 12 } : Room) s m #[(.ref a1)] below meth c s₁ [] 0 0 := Stand.of_body Bd
  have e0 : s₁.heap = h0 := by rw [← hh, Bd.state]; rfl
  have N0 := Fr.nil n0
  have pre0 : ∀ tq, Steps p.tables e below (s₁.setTop (mkF m 0 #[rv a1] [])) tq → Steps p.tables e below (s₁.setTop (entryFrame m #[(.ref a1)] 1)) tq := fun tq k => castTop (own_ef_rec m a1) k
  obtain ⟨T113, X113, e113, st113⟩ := initO X0 hx hZ hown (W 64 rfl) (W 8 rfl) (W 9 rfl) e0 (g := (mkF m 1 #[rv a1] [.ref a1])) rfl (by rw [hml]; rfl) rfl (hb hby own_d1_1) (by decide) (W := 0) (by show 2 * 0 + _ ≤ _; exact Nat.le_of_eq rfl) (by decide)
  obtain ⟨fs, hr, hrun, hended, hW, hsame⟩ := X113.leave (v := none) (fun _ => rfl)
  refine ⟨_, _, pre0 _ (?_), hrun, hended, _, _, rfl, ?_, ⟨_, rfl⟩, hW, hsame.mono (by decide) (by decide)⟩
  · show Steps p.tables e below (s₁.setTop (mkF m 0 #[rv a1] [])) _
    refine XS.aloadN X0.here hx rfl (hb hby own_d1_0) rfl rfl ?_
    show Steps _ _ _ (s₁.setTop (mkF m 1 _ [.ref a1])) _
    refine st113 _ ?_
    show Steps p.tables e below (T113.setTop (mkF m 4 #[rv a1] [])) _
    exact X113.returnOut hx Bd.returns (hb hby own_d1_4) hr
  · show Q_rec Z a1 h0 n0 _ T113.heap _
    rw [e113]
    exact ⟨rfl, N0, rfl⟩
theorem own_d24_0 : decode prog_67_method_5_code 0 = .ok (.aload_n 0, 1) := by decide +kernel
theorem own_d24_1 : decode prog_67_method_5_code 1 = .ok (.aload_n 1, 1) := by decide +kernel
theorem own_d24_2 : decode prog_67_method_5_code 2 = .ok (.putfield 23, 3) := by decide +kernel
theorem own_d24_5 : decode prog_67_method_5_code 5 = .ok (.return_, 1) := by decide +kernel
theorem own_ef_setnmN (m : MethodId) (x0 : Addr) : entryFrame m #[(.ref x0), .null] 2 = mkF m 0 #[rv x0, .val .null] [] := by first | (simp [entryFrame, mkF, argsToLocals, Value.category]; done) | rfl
def Q_setnmN (Z : State) (a1 : Addr) (i2 : Int32) (v2 : Int64) (h0 : Heap) (n0 : Nat) (v : Option Value) (h : Heap) (L : List Loc) : Prop := v = none ∧ Fr n0 L ∧ Keep h0 h [a1] ∧ Exa Z h a1 "com/example/kalip/kalip/recordshop/domain/Artist" ∧ Fld Z h a1 "com/example/kalip/kalip/recordshop/domain/Artist" "id" "I" (.int i2) ∧ Fld Z h a1 "com/example/kalip/kalip/recordshop/domain/Artist" "version" "J" (.long v2) ∧ Fld Z h a1 "com/example/kalip/kalip/recordshop/domain/Artist" "name" "Ljava/lang/String;" .null
set_option maxRecDepth 65536 in
set_option maxHeartbeats 40000000 in
theorem rm_setnmN (l : Launch) (Z : State) (a0 : Array Value) (hw : ∀ d ∈ tables_1, d.before a0 Z = true) (ws : List Jvm.Cond) (a1 : Addr) (i2 : Int32) (v2 : Int64) (h0 : Heap) (n0 : Nat) (Z0 : n0 ≤ h0.size) (E1 : Exa Z h0 a1 "com/example/kalip/kalip/recordshop/domain/Artist") (g1 : n0 ≤ a1) (F1 : Fld Z h0 a1 "com/example/kalip/kalip/recordshop/domain/Artist" "id" "I" (.int i2)) (F2 : Fld Z h0 a1 "com/example/kalip/kalip/recordshop/domain/Artist" "version" "J" (.long v2)) (F3 : Fld Z h0 a1 "com/example/kalip/kalip/recordshop/domain/Artist" "name" "Ljava/lang/String;" .null)  :
    MetFree l (⟨"com/example/kalip/kalip/recordshop/domain/Artist", "setName", "(Ljava/lang/String;)V"⟩ : MethodName) (head1 (Jvm.Cond.code (⟨"com/example/kalip/kalip/recordshop/domain/Artist", "setName", "(Ljava/lang/String;)V"⟩ : MethodName) prog_67_method_5_code 2 none :: ws) ({ frames := 0, cells := 0, slots := 0, locals := 0 } : Room)) (fun a U => a = #[(.ref a1), .null] ∧ Z.Warmed39 U.vm ∧ U.heap = h0) (fun _ _ _ _ _ => True) (fun _ U o U' => ∃ v L, o = .returned v ∧ Q_setnmN Z a1 i2 v2 h0 n0 v U'.heap L ∧ FrameEnd U o U' L ({ frames := 0, cells := 0, slots := 0, locals := 0 } : Room).cells ({ frames := 0, cells := 0, slots := 0, locals := 0 } : Room).slots) := by
  refine MetFree.of_bodySF (plainFor_of_name own_pn_3) hisR ?_
  intro p e s m args below meth c s₁ Bd hml0 hP hK
  obtain ⟨rfl, hZ, hh⟩ := hP
  have hx := Bd.exec
  have hby := Bd.bytes
  have hml : c.maxLocals = 2 := hml0
  have hown : s.vm.findClass "com/example/kalip/kalip/recordshop/domain/Artist" = some m.cls := findClass_of_methodNamed Bd.named
  have hnm := (name_of_methodNamed Bd.named Bd.method).1
  have W := own_W hw
  have X0 : Stand p l e ({ frames := 0, cells := 0, slots := 0, locals := 0 } : Room) s m #[(.ref a1), .null] below meth c s₁ [] 0 0 := Stand.of_body Bd
  have e0 : s₁.heap = h0 := by rw [← hh, Bd.state]; rfl
  have N0 := Fr.nil n0
  have pre0 : ∀ tq, Steps p.tables e below (s₁.setTop (mkF m 0 #[rv a1, .val .null] [])) tq → Steps p.tables e below (s₁.setTop (entryFrame m #[(.ref a1), .null] 2)) tq := fun tq k => castTop (own_ef_setnmN m a1) k
  have K114 : Keep h0 h0 [a1] := Keep.refl h0 [a1]
  obtain ⟨T115, h115, X115, e115, W115, st115⟩ := putF X0 hx hZ hown (host := "") (Or.inl (W 37 rfl)) Via.refl e0 F3 E1 (Or.inl (W 38 rfl)) (W 2 rfl) (ty := (.object "java/lang/String")) (by decide) rfl rfl (g := (mkF m 2 #[rv a1, .val .null] [.null, .ref a1])) rfl rfl (hb hby own_d24_2)
  have N115 := Fr.snoc X115 N0 g1
  have Fw115 := F3.same W115
  have Z116 : n0 ≤ h115.size := Nat.le_trans Z0 (Keep.of_wr W115).1
  have K117 : Keep h0 h115 [a1] := K114.wr W115 (Or.inl (List.mem_of_getElem? (i := 0) rfl))
  have f118 := (E1.wr W115)
  have f119 := (F1.other W115 (Or.inr (slot_ne (Or.inl (W 24 rfl)) (Or.inl (W 38 rfl)) (by decide) (t := .int) (t' := (.object "java/lang/String")) (by decide) (by decide))))
  have f120 := (F2.other W115 (Or.inr (slot_ne (Or.inl (W 31 rfl)) (Or.inl (W 38 rfl)) (by decide) (t := .long) (t' := (.object "java/lang/String")) (by decide) (by decide))))
  obtain ⟨fs, hr, hrun, hended, hW, hsame⟩ := X115.leave (v := none) (fun _ => rfl)
  refine ⟨_, _, pre0 _ (?_), hrun, hended, _, _, rfl, ?_, ⟨_, rfl⟩, hW, hsame.mono (by decide) (by decide)⟩
  · show Steps p.tables e below (s₁.setTop (mkF m 0 #[rv a1, .val .null] [])) _
    refine XS.aloadN X0.here hx rfl (hb hby own_d24_0) rfl rfl ?_
    show Steps _ _ _ (s₁.setTop (mkF m 1 _ [.ref a1])) _
    refine XS.aloadN X0.here hx rfl (hb hby own_d24_1) rfl rfl ?_
    show Steps _ _ _ (s₁.setTop (mkF m 2 _ [.null, .ref a1])) _
    refine st115 _ ?_
    show Steps p.tables e below (T115.setTop (mkF m 5 #[rv a1, .val .null] [])) _
    exact X115.returnOut hx Bd.returns (hb hby own_d24_5) hr
  · show Q_setnmN Z a1 i2 v2 h0 n0 _ T115.heap _
    rw [e115]
    exact ⟨rfl, N115, K117, f118, f119, f120, Fw115⟩
theorem own_d23_0 : decode prog_67_method_4_code 0 = .ok (.aload_n 0, 1) := by decide +kernel
theorem own_d23_1 : decode prog_67_method_4_code 1 = .ok (.getfield 23, 3) := by decide +kernel
theorem own_d23_4 : decode prog_67_method_4_code 4 = .ok (.areturn, 1) := by decide +kernel
theorem own_ef_getnmN (m : MethodId) (x0 : Addr) : entryFrame m #[(.ref x0)] 1 = mkF m 0 #[rv x0] [] := by first | (simp [entryFrame, mkF, argsToLocals, Value.category]; done) | rfl
def Q_getnmN (Z : State) (a1 : Addr) (h0 : Heap) (n0 : Nat) (v : Option Value) (h : Heap) (L : List Loc) : Prop := v = some .null ∧ Fr n0 L ∧ h = h0
set_option maxRecDepth 65536 in
set_option maxHeartbeats 40000000 in
theorem rm_getnmN (l : Launch) (Z : State) (a0 : Array Value) (hw : ∀ d ∈ tables_1, d.before a0 Z = true) (ws : List Jvm.Cond) (a1 : Addr) (h0 : Heap) (n0 : Nat) (Z0 : n0 ≤ h0.size) (F3 : Fld Z h0 a1 "com/example/kalip/kalip/recordshop/domain/Artist" "name" "Ljava/lang/String;" .null) :
    MetFree l (⟨"com/example/kalip/kalip/recordshop/domain/Artist", "getName", "()Ljava/lang/String;"⟩ : MethodName) (head1 (Jvm.Cond.code (⟨"com/example/kalip/kalip/recordshop/domain/Artist", "getName", "()Ljava/lang/String;"⟩ : MethodName) prog_67_method_4_code 1 (some (.object "java/lang/String")) :: ws) ({ frames := 0, cells := 0, slots := 0, locals := 0 } : Room)) (fun a U => a = #[(.ref a1)] ∧ Z.Warmed39 U.vm ∧ U.heap = h0) (fun _ _ _ _ _ => True) (fun _ U o U' => ∃ v L, o = .returned v ∧ Q_getnmN Z a1 h0 n0 v U'.heap L ∧ FrameEnd U o U' L ({ frames := 0, cells := 0, slots := 0, locals := 0 } : Room).cells ({ frames := 0, cells := 0, slots := 0, locals := 0 } : Room).slots) := by
  refine MetFree.of_bodySF (plainFor_of_name own_pn_3) hisR ?_
  intro p e s m args below meth c s₁ Bd hml0 hP hK
  obtain ⟨rfl, hZ, hh⟩ := hP
  have hx := Bd.exec
  have hby := Bd.bytes
  have hml : c.maxLocals = 1 := hml0
  have hown : s.vm.findClass "com/example/kalip/kalip/recordshop/domain/Artist" = some m.cls := findClass_of_methodNamed Bd.named
  have hnm := (name_of_methodNamed Bd.named Bd.method).1
  have W := own_W hw
  have X0 : Stand p l e ({ frames := 0, cells := 0, slots := 0, locals := 0 } : Room) s m #[(.ref a1)] below meth c s₁ [] 0 0 := Stand.of_body Bd
  have e0 : s₁.heap = h0 := by rw [← hh, Bd.state]; rfl
  have N0 := Fr.nil n0
  have pre0 : ∀ tq, Steps p.tables e below (s₁.setTop (mkF m 0 #[rv a1] [])) tq → Steps p.tables e below (s₁.setTop (entryFrame m #[(.ref a1)] 1)) tq := fun tq k => castTop (own_ef_getnmN m a1) k
  obtain ⟨T121, X121, e121, st121⟩ := getF X0 hx hZ hown (host := "") (Or.inl (W 37 rfl)) Via.refl e0 F3 (g := (mkF m 1 #[rv a1] [.ref a1])) rfl rfl (hb hby own_d23_1)
  obtain ⟨fs, hr, hrun, hended, hW, hsame⟩ := X121.leave (v := some .null) (fun h => by rw [Bd.returns] at h; cases h)
  refine ⟨_, _, pre0 _ (?_), hrun, hended, _, _, rfl, ?_, ⟨_, rfl⟩, hW, hsame.mono (by decide) (by decide)⟩
  · show Steps p.tables e below (s₁.setTop (mkF m 0 #[rv a1] [])) _
    refine XS.aloadN X0.here hx rfl (hb hby own_d23_0) rfl rfl ?_
    show Steps _ _ _ (s₁.setTop (mkF m 1 _ [.ref a1])) _
    refine st121 _ ?_
    show Steps p.tables e below (T121.setTop (mkF m 4 #[rv a1] [.null])) _
    exact retOut X121 hx Bd.returns rfl (Or.inr (Or.inr (Or.inr (Or.inr ⟨rfl, rfl, rfl⟩)))) (hb hby own_d23_4) hr
  · show Q_getnmN Z a1 h0 n0 _ T121.heap _
    rw [e121]
    exact ⟨rfl, N0, rfl⟩
theorem own_pn_1 : plainName "com/example/kalip/kalip/recordshop/api/ArtistDto$Item" = true := by decide +kernel
theorem own_d19_0 : decode prog_57_method_6_code 0 = .ok (.aload_n 0, 1) := by decide +kernel
theorem own_d19_1 : decode prog_57_method_6_code 1 = .ok (.getfield 13, 3) := by decide +kernel
theorem own_d19_4 : decode prog_57_method_6_code 4 = .ok (.areturn, 1) := by decide +kernel
theorem own_ef_itnmN (m : MethodId) (x0 : Addr) : entryFrame m #[(.ref x0)] 1 = mkF m 0 #[rv x0] [] := by first | (simp [entryFrame, mkF, argsToLocals, Value.category]; done) | rfl
def Q_itnmN (Z : State) (a1 : Addr) (h0 : Heap) (n0 : Nat) (v : Option Value) (h : Heap) (L : List Loc) : Prop := v = some .null ∧ Fr n0 L ∧ h = h0
set_option maxRecDepth 65536 in
set_option maxHeartbeats 40000000 in
theorem rm_itnmN (l : Launch) (Z : State) (a0 : Array Value) (hw : ∀ d ∈ tables_1, d.before a0 Z = true) (ws : List Jvm.Cond) (a1 : Addr) (h0 : Heap) (n0 : Nat) (Z0 : n0 ≤ h0.size) (F3 : Fld Z h0 a1 "com/example/kalip/kalip/recordshop/api/ArtistDto$Item" "name" "Ljava/lang/String;" .null) :
    MetFree l (⟨"com/example/kalip/kalip/recordshop/api/ArtistDto$Item", "name", "()Ljava/lang/String;"⟩ : MethodName) (head1 (Jvm.Cond.code (⟨"com/example/kalip/kalip/recordshop/api/ArtistDto$Item", "name", "()Ljava/lang/String;"⟩ : MethodName) prog_57_method_6_code 1 (some (.object "java/lang/String")) :: ws) ({ frames := 0, cells := 0, slots := 0, locals := 0 } : Room)) (fun a U => a = #[(.ref a1)] ∧ Z.Warmed39 U.vm ∧ U.heap = h0) (fun _ _ _ _ _ => True) (fun _ U o U' => ∃ v L, o = .returned v ∧ Q_itnmN Z a1 h0 n0 v U'.heap L ∧ FrameEnd U o U' L ({ frames := 0, cells := 0, slots := 0, locals := 0 } : Room).cells ({ frames := 0, cells := 0, slots := 0, locals := 0 } : Room).slots) := by
  refine MetFree.of_bodySF (plainFor_of_name own_pn_1) hisR ?_
  intro p e s m args below meth c s₁ Bd hml0 hP hK
  obtain ⟨rfl, hZ, hh⟩ := hP
  have hx := Bd.exec
  have hby := Bd.bytes
  have hml : c.maxLocals = 1 := hml0
  have hown : s.vm.findClass "com/example/kalip/kalip/recordshop/api/ArtistDto$Item" = some m.cls := findClass_of_methodNamed Bd.named
  have hnm := (name_of_methodNamed Bd.named Bd.method).1
  have W := own_W hw
  have X0 : Stand p l e ({ frames := 0, cells := 0, slots := 0, locals := 0 } : Room) s m #[(.ref a1)] below meth c s₁ [] 0 0 := Stand.of_body Bd
  have e0 : s₁.heap = h0 := by rw [← hh, Bd.state]; rfl
  have N0 := Fr.nil n0
  have pre0 : ∀ tq, Steps p.tables e below (s₁.setTop (mkF m 0 #[rv a1] [])) tq → Steps p.tables e below (s₁.setTop (entryFrame m #[(.ref a1)] 1)) tq := fun tq k => castTop (own_ef_itnmN m a1) k
  obtain ⟨T122, X122, e122, st122⟩ := getF X0 hx hZ hown (host := "") (Or.inl (W 67 rfl)) Via.refl e0 F3 (g := (mkF m 1 #[rv a1] [.ref a1])) rfl rfl (hb hby own_d19_1)
  obtain ⟨fs, hr, hrun, hended, hW, hsame⟩ := X122.leave (v := some .null) (fun h => by rw [Bd.returns] at h; cases h)
  refine ⟨_, _, pre0 _ (?_), hrun, hended, _, _, rfl, ?_, ⟨_, rfl⟩, hW, hsame.mono (by decide) (by decide)⟩
  · show Steps p.tables e below (s₁.setTop (mkF m 0 #[rv a1] [])) _
    refine XS.aloadN X0.here hx rfl (hb hby own_d19_0) rfl rfl ?_
    show Steps _ _ _ (s₁.setTop (mkF m 1 _ [.ref a1])) _
    refine st122 _ ?_
    show Steps p.tables e below (T122.setTop (mkF m 4 #[rv a1] [.null])) _
    exact retOut X122 hx Bd.returns rfl (Or.inr (Or.inr (Or.inr (Or.inr ⟨rfl, rfl, rfl⟩)))) (hb hby own_d19_4) hr
  · show Q_itnmN Z a1 h0 n0 _ T122.heap _
    rw [e122]
    exact ⟨rfl, N0, rfl⟩
theorem own_ef_setnmR (m : MethodId) (x0 : Addr) (x1 : Addr) : entryFrame m #[(.ref x0), (.ref x1)] 2 = mkF m 0 #[rv x0, rv x1] [] := by first | (simp [entryFrame, mkF, argsToLocals, Value.category]; done) | rfl
def Q_setnmR (Z : State) (a1 : Addr) (i2 : Int32) (v2 : Int64) (x1 : Addr) (h0 : Heap) (n0 : Nat) (v : Option Value) (h : Heap) (L : List Loc) : Prop := v = none ∧ Fr n0 L ∧ Keep h0 h [a1] ∧ Exa Z h a1 "com/example/kalip/kalip/recordshop/domain/Artist" ∧ Fld Z h a1 "com/example/kalip/kalip/recordshop/domain/Artist" "id" "I" (.int i2) ∧ Fld Z h a1 "com/example/kalip/kalip/recordshop/domain/Artist" "version" "J" (.long v2) ∧ Fld Z h a1 "com/example/kalip/kalip/recordshop/domain/Artist" "name" "Ljava/lang/String;" (.ref x1)
set_option maxRecDepth 65536 in
set_option maxHeartbeats 40000000 in
theorem rm_setnmR (l : Launch) (Z : State) (a0 : Array Value) (hw : ∀ d ∈ tables_1, d.before a0 Z = true) (ws : List Jvm.Cond) (a1 : Addr) (i2 : Int32) (v2 : Int64) (x1 : Addr) (h0 : Heap) (n0 : Nat) (Z0 : n0 ≤ h0.size) (E1 : Exa Z h0 a1 "com/example/kalip/kalip/recordshop/domain/Artist") (g1 : n0 ≤ a1) (F1 : Fld Z h0 a1 "com/example/kalip/kalip/recordshop/domain/Artist" "id" "I" (.int i2)) (F2 : Fld Z h0 a1 "com/example/kalip/kalip/recordshop/domain/Artist" "version" "J" (.long v2)) (F3 : Fld Z h0 a1 "com/example/kalip/kalip/recordshop/domain/Artist" "name" "Ljava/lang/String;" .null)  :
    MetFree l (⟨"com/example/kalip/kalip/recordshop/domain/Artist", "setName", "(Ljava/lang/String;)V"⟩ : MethodName) (head1 (Jvm.Cond.code (⟨"com/example/kalip/kalip/recordshop/domain/Artist", "setName", "(Ljava/lang/String;)V"⟩ : MethodName) prog_67_method_5_code 2 none :: ws) ({ frames := 0, cells := 0, slots := 0, locals := 0 } : Room)) (fun a U => a = #[(.ref a1), (.ref x1)] ∧ Z.Warmed39 U.vm ∧ U.heap = h0) (fun _ _ _ _ _ => True) (fun _ U o U' => ∃ v L, o = .returned v ∧ Q_setnmR Z a1 i2 v2 x1 h0 n0 v U'.heap L ∧ FrameEnd U o U' L ({ frames := 0, cells := 0, slots := 0, locals := 0 } : Room).cells ({ frames := 0, cells := 0, slots := 0, locals := 0 } : Room).slots) := by
  refine MetFree.of_bodySF (plainFor_of_name own_pn_3) hisR ?_
  intro p e s m args below meth c s₁ Bd hml0 hP hK
  obtain ⟨rfl, hZ, hh⟩ := hP
  have hx := Bd.exec
  have hby := Bd.bytes
  have hml : c.maxLocals = 2 := hml0
  have hown : s.vm.findClass "com/example/kalip/kalip/recordshop/domain/Artist" = some m.cls := findClass_of_methodNamed Bd.named
  have hnm := (name_of_methodNamed Bd.named Bd.method).1
  have W := own_W hw
  have X0 : Stand p l e ({ frames := 0, cells := 0, slots := 0, locals := 0 } : Room) s m #[(.ref a1), (.ref x1)] below meth c s₁ [] 0 0 := Stand.of_body Bd
  have e0 : s₁.heap = h0 := by rw [← hh, Bd.state]; rfl
  have N0 := Fr.nil n0
  have pre0 : ∀ tq, Steps p.tables e below (s₁.setTop (mkF m 0 #[rv a1, rv x1] [])) tq → Steps p.tables e below (s₁.setTop (entryFrame m #[(.ref a1), (.ref x1)] 2)) tq := fun tq k => castTop (own_ef_setnmR m a1 x1) k
  have K123 : Keep h0 h0 [a1] := Keep.refl h0 [a1]
  obtain ⟨T124, h124, X124, e124, W124, st124⟩ := putF X0 hx hZ hown (host := "") (Or.inl (W 37 rfl)) Via.refl e0 F3 E1 (Or.inl (W 38 rfl)) (W 2 rfl) (ty := (.object "java/lang/String")) (by decide) rfl rfl (g := (mkF m 2 #[rv a1, rv x1] [.ref x1, .ref a1])) rfl rfl (hb hby own_d24_2)
  have N124 := Fr.snoc X124 N0 g1
  have Fw124 := F3.same W124
  have Z125 : n0 ≤ h124.size := Nat.le_trans Z0 (Keep.of_wr W124).1
  have K126 : Keep h0 h124 [a1] := K123.wr W124 (Or.inl (List.mem_of_getElem? (i := 0) rfl))
  have f127 := (E1.wr W124)
  have f128 := (F1.other W124 (Or.inr (slot_ne (Or.inl (W 24 rfl)) (Or.inl (W 38 rfl)) (by decide) (t := .int) (t' := (.object "java/lang/String")) (by decide) (by decide))))
  have f129 := (F2.other W124 (Or.inr (slot_ne (Or.inl (W 31 rfl)) (Or.inl (W 38 rfl)) (by decide) (t := .long) (t' := (.object "java/lang/String")) (by decide) (by decide))))
  obtain ⟨fs, hr, hrun, hended, hW, hsame⟩ := X124.leave (v := none) (fun _ => rfl)
  refine ⟨_, _, pre0 _ (?_), hrun, hended, _, _, rfl, ?_, ⟨_, rfl⟩, hW, hsame.mono (by decide) (by decide)⟩
  · show Steps p.tables e below (s₁.setTop (mkF m 0 #[rv a1, rv x1] [])) _
    refine XS.aloadN X0.here hx rfl (hb hby own_d24_0) rfl rfl ?_
    show Steps _ _ _ (s₁.setTop (mkF m 1 _ [.ref a1])) _
    refine XS.aloadN X0.here hx rfl (hb hby own_d24_1) rfl rfl ?_
    show Steps _ _ _ (s₁.setTop (mkF m 2 _ [.ref x1, .ref a1])) _
    refine st124 _ ?_
    show Steps p.tables e below (T124.setTop (mkF m 5 #[rv a1, rv x1] [])) _
    exact X124.returnOut hx Bd.returns (hb hby own_d24_5) hr
  · show Q_setnmR Z a1 i2 v2 x1 h0 n0 _ T124.heap _
    rw [e124]
    exact ⟨rfl, N124, K126, f127, f128, f129, Fw124⟩
theorem own_ef_getnmR (m : MethodId) (x0 : Addr) : entryFrame m #[(.ref x0)] 1 = mkF m 0 #[rv x0] [] := by first | (simp [entryFrame, mkF, argsToLocals, Value.category]; done) | rfl
def Q_getnmR (Z : State) (a1 : Addr) (x1 : Addr) (h0 : Heap) (n0 : Nat) (v : Option Value) (h : Heap) (L : List Loc) : Prop := v = some (.ref x1) ∧ Fr n0 L ∧ h = h0
set_option maxRecDepth 65536 in
set_option maxHeartbeats 40000000 in
theorem rm_getnmR (l : Launch) (Z : State) (a0 : Array Value) (hw : ∀ d ∈ tables_1, d.before a0 Z = true) (ws : List Jvm.Cond) (a1 : Addr) (x1 : Addr) (h0 : Heap) (n0 : Nat) (Z0 : n0 ≤ h0.size) (F3 : Fld Z h0 a1 "com/example/kalip/kalip/recordshop/domain/Artist" "name" "Ljava/lang/String;" (.ref x1)) :
    MetFree l (⟨"com/example/kalip/kalip/recordshop/domain/Artist", "getName", "()Ljava/lang/String;"⟩ : MethodName) (head1 (Jvm.Cond.code (⟨"com/example/kalip/kalip/recordshop/domain/Artist", "getName", "()Ljava/lang/String;"⟩ : MethodName) prog_67_method_4_code 1 (some (.object "java/lang/String")) :: ws) ({ frames := 0, cells := 0, slots := 0, locals := 0 } : Room)) (fun a U => a = #[(.ref a1)] ∧ Z.Warmed39 U.vm ∧ U.heap = h0) (fun _ _ _ _ _ => True) (fun _ U o U' => ∃ v L, o = .returned v ∧ Q_getnmR Z a1 x1 h0 n0 v U'.heap L ∧ FrameEnd U o U' L ({ frames := 0, cells := 0, slots := 0, locals := 0 } : Room).cells ({ frames := 0, cells := 0, slots := 0, locals := 0 } : Room).slots) := by
  refine MetFree.of_bodySF (plainFor_of_name own_pn_3) hisR ?_
  intro p e s m args below meth c s₁ Bd hml0 hP hK
  obtain ⟨rfl, hZ, hh⟩ := hP
  have hx := Bd.exec
  have hby := Bd.bytes
  have hml : c.maxLocals = 1 := hml0
  have hown : s.vm.findClass "com/example/kalip/kalip/recordshop/domain/Artist" = some m.cls := findClass_of_methodNamed Bd.named
  have hnm := (name_of_methodNamed Bd.named Bd.method).1
  have W := own_W hw
  have X0 : Stand p l e ({ frames := 0, cells := 0, slots := 0, locals := 0 } : Room) s m #[(.ref a1)] below meth c s₁ [] 0 0 := Stand.of_body Bd
  have e0 : s₁.heap = h0 := by rw [← hh, Bd.state]; rfl
  have N0 := Fr.nil n0
  have pre0 : ∀ tq, Steps p.tables e below (s₁.setTop (mkF m 0 #[rv a1] [])) tq → Steps p.tables e below (s₁.setTop (entryFrame m #[(.ref a1)] 1)) tq := fun tq k => castTop (own_ef_getnmR m a1) k
  obtain ⟨T130, X130, e130, st130⟩ := getF X0 hx hZ hown (host := "") (Or.inl (W 37 rfl)) Via.refl e0 F3 (g := (mkF m 1 #[rv a1] [.ref a1])) rfl rfl (hb hby own_d23_1)
  obtain ⟨fs, hr, hrun, hended, hW, hsame⟩ := X130.leave (v := some (.ref x1)) (fun h => by rw [Bd.returns] at h; cases h)
  refine ⟨_, _, pre0 _ (?_), hrun, hended, _, _, rfl, ?_, ⟨_, rfl⟩, hW, hsame.mono (by decide) (by decide)⟩
  · show Steps p.tables e below (s₁.setTop (mkF m 0 #[rv a1] [])) _
    refine XS.aloadN X0.here hx rfl (hb hby own_d23_0) rfl rfl ?_
    show Steps _ _ _ (s₁.setTop (mkF m 1 _ [.ref a1])) _
    refine st130 _ ?_
    show Steps p.tables e below (T130.setTop (mkF m 4 #[rv a1] [.ref x1])) _
    exact retOut X130 hx Bd.returns rfl (Or.inr (Or.inr (Or.inr (Or.inr ⟨rfl, rfl, rfl⟩)))) (hb hby own_d23_4) hr
  · show Q_getnmR Z a1 x1 h0 n0 _ T130.heap _
    rw [e130]
    exact ⟨rfl, N0, rfl⟩
theorem own_ef_itnmR (m : MethodId) (x0 : Addr) : entryFrame m #[(.ref x0)] 1 = mkF m 0 #[rv x0] [] := by first | (simp [entryFrame, mkF, argsToLocals, Value.category]; done) | rfl
def Q_itnmR (Z : State) (a1 : Addr) (x1 : Addr) (h0 : Heap) (n0 : Nat) (v : Option Value) (h : Heap) (L : List Loc) : Prop := v = some (.ref x1) ∧ Fr n0 L ∧ h = h0
set_option maxRecDepth 65536 in
set_option maxHeartbeats 40000000 in
theorem rm_itnmR (l : Launch) (Z : State) (a0 : Array Value) (hw : ∀ d ∈ tables_1, d.before a0 Z = true) (ws : List Jvm.Cond) (a1 : Addr) (x1 : Addr) (h0 : Heap) (n0 : Nat) (Z0 : n0 ≤ h0.size) (F3 : Fld Z h0 a1 "com/example/kalip/kalip/recordshop/api/ArtistDto$Item" "name" "Ljava/lang/String;" (.ref x1)) :
    MetFree l (⟨"com/example/kalip/kalip/recordshop/api/ArtistDto$Item", "name", "()Ljava/lang/String;"⟩ : MethodName) (head1 (Jvm.Cond.code (⟨"com/example/kalip/kalip/recordshop/api/ArtistDto$Item", "name", "()Ljava/lang/String;"⟩ : MethodName) prog_57_method_6_code 1 (some (.object "java/lang/String")) :: ws) ({ frames := 0, cells := 0, slots := 0, locals := 0 } : Room)) (fun a U => a = #[(.ref a1)] ∧ Z.Warmed39 U.vm ∧ U.heap = h0) (fun _ _ _ _ _ => True) (fun _ U o U' => ∃ v L, o = .returned v ∧ Q_itnmR Z a1 x1 h0 n0 v U'.heap L ∧ FrameEnd U o U' L ({ frames := 0, cells := 0, slots := 0, locals := 0 } : Room).cells ({ frames := 0, cells := 0, slots := 0, locals := 0 } : Room).slots) := by
  refine MetFree.of_bodySF (plainFor_of_name own_pn_1) hisR ?_
  intro p e s m args below meth c s₁ Bd hml0 hP hK
  obtain ⟨rfl, hZ, hh⟩ := hP
  have hx := Bd.exec
  have hby := Bd.bytes
  have hml : c.maxLocals = 1 := hml0
  have hown : s.vm.findClass "com/example/kalip/kalip/recordshop/api/ArtistDto$Item" = some m.cls := findClass_of_methodNamed Bd.named
  have hnm := (name_of_methodNamed Bd.named Bd.method).1
  have W := own_W hw
  have X0 : Stand p l e ({ frames := 0, cells := 0, slots := 0, locals := 0 } : Room) s m #[(.ref a1)] below meth c s₁ [] 0 0 := Stand.of_body Bd
  have e0 : s₁.heap = h0 := by rw [← hh, Bd.state]; rfl
  have N0 := Fr.nil n0
  have pre0 : ∀ tq, Steps p.tables e below (s₁.setTop (mkF m 0 #[rv a1] [])) tq → Steps p.tables e below (s₁.setTop (entryFrame m #[(.ref a1)] 1)) tq := fun tq k => castTop (own_ef_itnmR m a1) k
  obtain ⟨T131, X131, e131, st131⟩ := getF X0 hx hZ hown (host := "") (Or.inl (W 67 rfl)) Via.refl e0 F3 (g := (mkF m 1 #[rv a1] [.ref a1])) rfl rfl (hb hby own_d19_1)
  obtain ⟨fs, hr, hrun, hended, hW, hsame⟩ := X131.leave (v := some (.ref x1)) (fun h => by rw [Bd.returns] at h; cases h)
  refine ⟨_, _, pre0 _ (?_), hrun, hended, _, _, rfl, ?_, ⟨_, rfl⟩, hW, hsame.mono (by decide) (by decide)⟩
  · show Steps p.tables e below (s₁.setTop (mkF m 0 #[rv a1] [])) _
    refine XS.aloadN X0.here hx rfl (hb hby own_d19_0) rfl rfl ?_
    show Steps _ _ _ (s₁.setTop (mkF m 1 _ [.ref a1])) _
    refine st131 _ ?_
    show Steps p.tables e below (T131.setTop (mkF m 4 #[rv a1] [.ref x1])) _
    exact retOut X131 hx Bd.returns rfl (Or.inr (Or.inr (Or.inr (Or.inr ⟨rfl, rfl, rfl⟩)))) (hb hby own_d19_4) hr
  · show Q_itnmR Z a1 x1 h0 n0 _ T131.heap _
    rw [e131]
    exact ⟨rfl, N0, rfl⟩
theorem own_d21_0 : decode prog_67_method_2_code 0 = .ok (.aload_n 0, 1) := by decide +kernel
theorem own_d21_1 : decode prog_67_method_2_code 1 = .ok (.getfield 19, 3) := by decide +kernel
theorem own_d21_4 : decode prog_67_method_2_code 4 = .ok (.ireturn, 1) := by decide +kernel
theorem own_ef_getid (m : MethodId) (x0 : Addr) : entryFrame m #[(.ref x0)] 1 = mkF m 0 #[rv x0] [] := by first | (simp [entryFrame, mkF, argsToLocals, Value.category]; done) | rfl
def Q_getid (Z : State) (a1 : Addr) (i1 : Int32) (h0 : Heap) (n0 : Nat) (v : Option Value) (h : Heap) (L : List Loc) : Prop := v = some (.int i1) ∧ Fr n0 L ∧ h = h0
set_option maxRecDepth 65536 in
set_option maxHeartbeats 40000000 in
theorem rm_getid (l : Launch) (Z : State) (a0 : Array Value) (hw : ∀ d ∈ tables_1, d.before a0 Z = true) (ws : List Jvm.Cond) (a1 : Addr) (i1 : Int32) (h0 : Heap) (n0 : Nat) (Z0 : n0 ≤ h0.size) (F1 : Fld Z h0 a1 "com/example/kalip/kalip/recordshop/domain/Artist" "id" "I" (.int i1)) :
    MetFree l (⟨"com/example/kalip/kalip/recordshop/domain/Artist", "getId", "()I"⟩ : MethodName) (head1 (Jvm.Cond.code (⟨"com/example/kalip/kalip/recordshop/domain/Artist", "getId", "()I"⟩ : MethodName) prog_67_method_2_code 1 (some .int) :: ws) ({ frames := 0, cells := 0, slots := 0, locals := 0 } : Room)) (fun a U => a = #[(.ref a1)] ∧ Z.Warmed39 U.vm ∧ U.heap = h0) (fun _ _ _ _ _ => True) (fun _ U o U' => ∃ v L, o = .returned v ∧ Q_getid Z a1 i1 h0 n0 v U'.heap L ∧ FrameEnd U o U' L ({ frames := 0, cells := 0, slots := 0, locals := 0 } : Room).cells ({ frames := 0, cells := 0, slots := 0, locals := 0 } : Room).slots) := by
  refine MetFree.of_bodySF (plainFor_of_name own_pn_3) hisR ?_
  intro p e s m args below meth c s₁ Bd hml0 hP hK
  obtain ⟨rfl, hZ, hh⟩ := hP
  have hx := Bd.exec
  have hby := Bd.bytes
  have hml : c.maxLocals = 1 := hml0
  have hown : s.vm.findClass "com/example/kalip/kalip/recordshop/domain/Artist" = some m.cls := findClass_of_methodNamed Bd.named
  have hnm := (name_of_methodNamed Bd.named Bd.method).1
  have W := own_W hw
  have X0 : Stand p l e ({ frames := 0, cells := 0, slots := 0, locals := 0 } : Room) s m #[(.ref a1)] below meth c s₁ [] 0 0 := Stand.of_body Bd
  have e0 : s₁.heap = h0 := by rw [← hh, Bd.state]; rfl
  have N0 := Fr.nil n0
  have pre0 : ∀ tq, Steps p.tables e below (s₁.setTop (mkF m 0 #[rv a1] [])) tq → Steps p.tables e below (s₁.setTop (entryFrame m #[(.ref a1)] 1)) tq := fun tq k => castTop (own_ef_getid m a1) k
  obtain ⟨T132, X132, e132, st132⟩ := getF X0 hx hZ hown (host := "") (Or.inl (W 23 rfl)) Via.refl e0 F1 (g := (mkF m 1 #[rv a1] [.ref a1])) rfl rfl (hb hby own_d21_1)
  obtain ⟨fs, hr, hrun, hended, hW, hsame⟩ := X132.leave (v := some (.int i1)) (fun h => by rw [Bd.returns] at h; cases h)
  refine ⟨_, _, pre0 _ (?_), hrun, hended, _, _, rfl, ?_, ⟨_, rfl⟩, hW, hsame.mono (by decide) (by decide)⟩
  · show Steps p.tables e below (s₁.setTop (mkF m 0 #[rv a1] [])) _
    refine XS.aloadN X0.here hx rfl (hb hby own_d21_0) rfl rfl ?_
    show Steps _ _ _ (s₁.setTop (mkF m 1 _ [.ref a1])) _
    refine st132 _ ?_
    show Steps p.tables e below (T132.setTop (mkF m 4 #[rv a1] [.int i1])) _
    exact retI X132 hx Bd.returns (hb hby own_d21_4) hr
  · show Q_getid Z a1 i1 h0 n0 _ T132.heap _
    rw [e132]
    exact ⟨rfl, N0, rfl⟩
theorem own_d18_0 : decode prog_57_method_5_code 0 = .ok (.aload_n 0, 1) := by decide +kernel
theorem own_d18_1 : decode prog_57_method_5_code 1 = .ok (.getfield 7, 3) := by decide +kernel
theorem own_d18_4 : decode prog_57_method_5_code 4 = .ok (.ireturn, 1) := by decide +kernel
theorem own_ef_itid (m : MethodId) (x0 : Addr) : entryFrame m #[(.ref x0)] 1 = mkF m 0 #[rv x0] [] := by first | (simp [entryFrame, mkF, argsToLocals, Value.category]; done) | rfl
def Q_itid (Z : State) (a1 : Addr) (i1 : Int32) (h0 : Heap) (n0 : Nat) (v : Option Value) (h : Heap) (L : List Loc) : Prop := v = some (.int i1) ∧ Fr n0 L ∧ h = h0
set_option maxRecDepth 65536 in
set_option maxHeartbeats 40000000 in
theorem rm_itid (l : Launch) (Z : State) (a0 : Array Value) (hw : ∀ d ∈ tables_1, d.before a0 Z = true) (ws : List Jvm.Cond) (a1 : Addr) (i1 : Int32) (h0 : Heap) (n0 : Nat) (Z0 : n0 ≤ h0.size) (F1 : Fld Z h0 a1 "com/example/kalip/kalip/recordshop/api/ArtistDto$Item" "id" "I" (.int i1)) :
    MetFree l (⟨"com/example/kalip/kalip/recordshop/api/ArtistDto$Item", "id", "()I"⟩ : MethodName) (head1 (Jvm.Cond.code (⟨"com/example/kalip/kalip/recordshop/api/ArtistDto$Item", "id", "()I"⟩ : MethodName) prog_57_method_5_code 1 (some .int) :: ws) ({ frames := 0, cells := 0, slots := 0, locals := 0 } : Room)) (fun a U => a = #[(.ref a1)] ∧ Z.Warmed39 U.vm ∧ U.heap = h0) (fun _ _ _ _ _ => True) (fun _ U o U' => ∃ v L, o = .returned v ∧ Q_itid Z a1 i1 h0 n0 v U'.heap L ∧ FrameEnd U o U' L ({ frames := 0, cells := 0, slots := 0, locals := 0 } : Room).cells ({ frames := 0, cells := 0, slots := 0, locals := 0 } : Room).slots) := by
  refine MetFree.of_bodySF (plainFor_of_name own_pn_1) hisR ?_
  intro p e s m args below meth c s₁ Bd hml0 hP hK
  obtain ⟨rfl, hZ, hh⟩ := hP
  have hx := Bd.exec
  have hby := Bd.bytes
  have hml : c.maxLocals = 1 := hml0
  have hown : s.vm.findClass "com/example/kalip/kalip/recordshop/api/ArtistDto$Item" = some m.cls := findClass_of_methodNamed Bd.named
  have hnm := (name_of_methodNamed Bd.named Bd.method).1
  have W := own_W hw
  have X0 : Stand p l e ({ frames := 0, cells := 0, slots := 0, locals := 0 } : Room) s m #[(.ref a1)] below meth c s₁ [] 0 0 := Stand.of_body Bd
  have e0 : s₁.heap = h0 := by rw [← hh, Bd.state]; rfl
  have N0 := Fr.nil n0
  have pre0 : ∀ tq, Steps p.tables e below (s₁.setTop (mkF m 0 #[rv a1] [])) tq → Steps p.tables e below (s₁.setTop (entryFrame m #[(.ref a1)] 1)) tq := fun tq k => castTop (own_ef_itid m a1) k
  obtain ⟨T133, X133, e133, st133⟩ := getF X0 hx hZ hown (host := "") (Or.inl (W 65 rfl)) Via.refl e0 F1 (g := (mkF m 1 #[rv a1] [.ref a1])) rfl rfl (hb hby own_d18_1)
  obtain ⟨fs, hr, hrun, hended, hW, hsame⟩ := X133.leave (v := some (.int i1)) (fun h => by rw [Bd.returns] at h; cases h)
  refine ⟨_, _, pre0 _ (?_), hrun, hended, _, _, rfl, ?_, ⟨_, rfl⟩, hW, hsame.mono (by decide) (by decide)⟩
  · show Steps p.tables e below (s₁.setTop (mkF m 0 #[rv a1] [])) _
    refine XS.aloadN X0.here hx rfl (hb hby own_d18_0) rfl rfl ?_
    show Steps _ _ _ (s₁.setTop (mkF m 1 _ [.ref a1])) _
    refine st133 _ ?_
    show Steps p.tables e below (T133.setTop (mkF m 4 #[rv a1] [.int i1])) _
    exact retI X133 hx Bd.returns (hb hby own_d18_4) hr
  · show Q_itid Z a1 i1 h0 n0 _ T133.heap _
    rw [e133]
    exact ⟨rfl, N0, rfl⟩
theorem own_d17_0 : decode prog_57_method_1_code 0 = .ok (.aload_n 0, 1) := by decide +kernel
theorem own_d17_1 : decode prog_57_method_1_code 1 = .ok (.invokespecial 1, 3) := by decide +kernel
theorem own_pd_0 : parseMethodDescriptor "()V" = some ⟨[], none⟩ := by decide +kernel
theorem own_d17_4 : decode prog_57_method_1_code 4 = .ok (.aload_n 0, 1) := by decide +kernel
theorem own_d17_5 : decode prog_57_method_1_code 5 = .ok (.iload_n 1, 1) := by decide +kernel
theorem own_d17_6 : decode prog_57_method_1_code 6 = .ok (.putfield 7, 3) := by decide +kernel
theorem own_d17_9 : decode prog_57_method_1_code 9 = .ok (.aload_n 0, 1) := by decide +kernel
theorem own_d17_10 : decode prog_57_method_1_code 10 = .ok (.aload_n 2, 1) := by decide +kernel
theorem own_d17_11 : decode prog_57_method_1_code 11 = .ok (.putfield 13, 3) := by decide +kernel
theorem own_d17_14 : decode prog_57_method_1_code 14 = .ok (.return_, 1) := by decide +kernel
theorem own_ef_itinitN (m : MethodId) (x0 : Addr) (x1 : Int32) : entryFrame m #[(.ref x0), (.int x1), .null] 3 = mkF m 0 #[rv x0, iv x1, .val .null] [] := by first | (simp [entryFrame, mkF, argsToLocals, Value.category]; done) | rfl
def Q_itinitN (Z : State) (a1 : Addr) (i1 : Int32) (h0 : Heap) (n0 : Nat) (v : Option Value) (h : Heap) (L : List Loc) : Prop := v = none ∧ Fr n0 L ∧ Keep h0 h [a1] ∧ Exa Z h a1 "com/example/kalip/kalip/recordshop/api/ArtistDto$Item" ∧ Fld Z h a1 "com/example/kalip/kalip/recordshop/api/ArtistDto$Item" "id" "I" (.int i1) ∧ Fld Z h a1 "com/example/kalip/kalip/recordshop/api/ArtistDto$Item" "name" "Ljava/lang/String;" .null
set_option maxRecDepth 65536 in
set_option maxHeartbeats 40000000 in
theorem rm_itinitN (l : Launch) (Z : State) (a0 : Array Value) (hw : ∀ d ∈ tables_1, d.before a0 Z = true) (ws : List Jvm.Cond) (a1 : Addr) (i1 : Int32) (h0 : Heap) (n0 : Nat) (Z0 : n0 ≤ h0.size) (E1 : Exa Z h0 a1 "com/example/kalip/kalip/recordshop/api/ArtistDto$Item") (g1 : n0 ≤ a1) (F1 : Fld Z h0 a1 "com/example/kalip/kalip/recordshop/api/ArtistDto$Item" "id" "I" (.int (0 : Int32))) (F2 : Fld Z h0 a1 "com/example/kalip/kalip/recordshop/api/ArtistDto$Item" "name" "Ljava/lang/String;" .null) :
    MetFree l (⟨"com/example/kalip/kalip/recordshop/api/ArtistDto$Item", "<init>", "(ILjava/lang/String;)V"⟩ : MethodName) (head1 (Jvm.Cond.code (⟨"com/example/kalip/kalip/recordshop/api/ArtistDto$Item", "<init>", "(ILjava/lang/String;)V"⟩ : MethodName) prog_57_method_1_code 3 none :: ws) ({ frames := 2, cells := 0, slots := 0, locals := 24 } : Room)) (fun a U => a = #[(.ref a1), (.int i1), .null] ∧ Z.Warmed39 U.vm ∧ U.heap = h0) (fun _ _ _ _ _ => True) (fun _ U o U' => ∃ v L, o = .returned v ∧ Q_itinitN Z a1 i1 h0 n0 v U'.heap L ∧ FrameEnd U o U' L ({ frames := 2, cells := 0, slots := 0, locals := 24 } : Room).cells ({ frames := 2, cells := 0, slots := 0, locals := 24 } : Room).slots) := by
  refine MetFree.of_bodySF (plainFor_of_name own_pn_1) hisR ?_
  intro p e s m args below meth c s₁ Bd hml0 hP hK
  obtain ⟨rfl, hZ, hh⟩ := hP
  have hx := Bd.exec
  have hby := Bd.bytes
  have hml : c.maxLocals = 3 := hml0
  have hown : s.vm.findClass "com/example/kalip/kalip/recordshop/api/ArtistDto$Item" = some m.cls := findClass_of_methodNamed Bd.named
  have hnm := (name_of_methodNamed Bd.named Bd.method).1
  have W := own_W hw
  have X0 : Stand p l e ({ frames := 2, cells := 0, slots := 0, locals := 24 } : Room) s m #[(.ref a1), (.int i1), .null] below meth c s₁ [] 0 0 := Stand.of_body Bd
  have e0 : s₁.heap = h0 := by rw [← hh, Bd.state]; rfl
  have N0 := Fr.nil n0
  have pre0 : ∀ tq, Steps p.tables e below (s₁.setTop (mkF m 0 #[rv a1, iv i1, .val .null] [])) tq → Steps p.tables e below (s₁.setTop (entryFrame m #[(.ref a1), (.int i1), .null] 3)) tq := fun tq k => castTop (own_ef_itinitN m a1 i1) k
  have K134 : Keep h0 h0 [a1] := Keep.refl h0 [a1]
  obtain ⟨_, _, ⟨T135, L135, k135, n135⟩, -, X135, ⟨Lc135, hQ135, l135, y135, z135⟩, st135⟩ := X0.specialBack hx (y := (⟨"java/lang/Record", "<init>", "()V"⟩ : MethodName)) rfl hown (mvT hZ (W 59 rfl)) (mvT hZ (W 60 rfl)) (mvT hZ (W 63 rfl)) (by decide) (backOf (W := 0) (rm_rec l Z a0 hw [] a1 h0 n0 Z0 ) hZ (W 63 rfl) (W 62 rfl) (by decide) (by decide)) (g := (mkF m 1 #[rv a1, iv i1, .val .null] [.ref a1])) rfl (by rw [hml]; rfl) (Steps.refl _) (a := a1) (argsL := []) (rest := []) (lenOf own_pd_0 rfl) rfl (by show 2 * 0 + _ ≤ _; exact Nat.le_of_eq rfl) (hb hby own_d17_1) (fun _ _ => ⟨rfl, e0, (by decide : 0 + 0 ≤ _), (by decide : 0 + 0 ≤ _)⟩)
  dsimp only [Pt.U, Pt.locs, Pt.cells, Pt.slots] at X135 l135 y135 z135 st135 hQ135
  subst l135 y135 z135
  obtain ⟨rfl, Nq135, e135⟩ := hQ135
  have N135 := Fr.app N0 Nq135
  obtain ⟨T136, h136, X136, e136, W136, st136⟩ := putF X135 hx hZ hown (host := "") (Or.inl (W 65 rfl)) Via.refl e135 F1 E1 (Or.inr ⟨(W 66 rfl), rfl, hnm⟩) (W 44 rfl) (ty := .int) (by decide) rfl rfl (g := (mkF m 6 #[rv a1, iv i1, .val .null] [.int i1, .ref a1])) rfl rfl (hb hby own_d17_6)
  have N136 := Fr.snoc X136 N135 g1
  have Fw136 := F1.same W136
  have Z137 : n0 ≤ h136.size := Nat.le_trans Z0 (Keep.of_wr W136).1
  have K138 : Keep h0 h136 [a1] := K134.wr W136 (Or.inl (List.mem_of_getElem? (i := 0) rfl))
  have f140 := (F2.other W136 (Or.inr (slot_ne (Or.inr (W 68 rfl)) (Or.inr (W 66 rfl)) (by decide) (t := (.object "java/lang/String")) (t' := .int) (by decide) (by decide))))
  have f141 := (E1.wr W136)
  obtain ⟨T139, h139, X139, e139, W139, st139⟩ := putF X136 hx hZ hown (host := "") (Or.inl (W 67 rfl)) Via.refl e136 f140 f141 (Or.inr ⟨(W 68 rfl), rfl, hnm⟩) (W 44 rfl) (ty := (.object "java/lang/String")) (by decide) rfl rfl (g := (mkF m 11 #[rv a1, iv i1, .val .null] [.null, .ref a1])) rfl rfl (hb hby own_d17_11)
  have N139 := Fr.snoc X139 N136 g1
  have Fw139 := f140.same W139
  have Z142 : n0 ≤ h139.size := Nat.le_trans Z137 (Keep.of_wr W139).1
  have K143 : Keep h0 h139 [a1] := K138.wr W139 (Or.inl (List.mem_of_getElem? (i := 0) rfl))
  have f144 := (f141.wr W139)
  have f145 := (Fw136.other W139 (Or.inr (slot_ne (Or.inr (W 66 rfl)) (Or.inr (W 68 rfl)) (by decide) (t := .int) (t' := (.object "java/lang/String")) (by decide) (by decide))))
  obtain ⟨fs, hr, hrun, hended, hW, hsame⟩ := X139.leave (v := none) (fun _ => rfl)
  refine ⟨_, _, pre0 _ (?_), hrun, hended, _, _, rfl, ?_, ⟨_, rfl⟩, hW, hsame.mono (by decide) (by decide)⟩
  · show Steps p.tables e below (s₁.setTop (mkF m 0 #[rv a1, iv i1, .val .null] [])) _
    refine XS.aloadN X0.here hx rfl (hb hby own_d17_0) rfl rfl ?_
    show Steps _ _ _ (s₁.setTop (mkF m 1 _ [.ref a1])) _
    refine st135.trans ?_
    show Steps p.tables e below (T135.setTop (mkF m 4 #[rv a1, iv i1, .val .null] [])) _
    refine XS.aloadN X135.here hx rfl (hb hby own_d17_4) rfl rfl ?_
    show Steps _ _ _ (T135.setTop (mkF m 5 _ [.ref a1])) _
    refine XS.iloadN X135.here hx rfl (hb hby own_d17_5) rfl ?_
    show Steps _ _ _ (T135.setTop (mkF m 6 _ [.int i1, .ref a1])) _
    refine st136 _ ?_
    show Steps p.tables e below (T136.setTop (mkF m 9 #[rv a1, iv i1, .val .null] [])) _
    refine XS.aloadN X136.here hx rfl (hb hby own_d17_9) rfl rfl ?_
    show Steps _ _ _ (T136.setTop (mkF m 10 _ [.ref a1])) _
    refine XS.aloadN X136.here hx rfl (hb hby own_d17_10) rfl rfl ?_
    show Steps _ _ _ (T136.setTop (mkF m 11 _ [.null, .ref a1])) _
    refine st139 _ ?_
    show Steps p.tables e below (T139.setTop (mkF m 14 #[rv a1, iv i1, .val .null] [])) _
    exact X139.returnOut hx Bd.returns (hb hby own_d17_14) hr
  · show Q_itinitN Z a1 i1 h0 n0 _ T139.heap _
    rw [e139]
    exact ⟨rfl, N139, K143, f144, f145, Fw139⟩
theorem own_pn_0 : plainName "com/example/kalip/kalip/recordshop/api/ArtistDto" = true := by decide +kernel
theorem own_d16_0 : decode prog_54_method_3_code 0 = .ok (.new 95, 3) := by decide +kernel
theorem own_d16_3 : decode prog_54_method_3_code 3 = .ok (.dup, 1) := by decide +kernel
theorem own_d16_4 : decode prog_54_method_3_code 4 = .ok (.aload_n 0, 1) := by decide +kernel
theorem own_d16_5 : decode prog_54_method_3_code 5 = .ok (.invokevirtual 92, 3) := by decide +kernel
theorem own_pd_6 : parseMethodDescriptor "()I" = some ⟨[], some .int⟩ := by decide +kernel
theorem own_d16_8 : decode prog_54_method_3_code 8 = .ok (.aload_n 0, 1) := by decide +kernel
theorem own_d16_9 : decode prog_54_method_3_code 9 = .ok (.invokevirtual 93, 3) := by decide +kernel
theorem own_pd_7 : parseMethodDescriptor "()Ljava/lang/String;" = some ⟨[], some (.object "java/lang/String")⟩ := by decide +kernel
theorem own_d16_12 : decode prog_54_method_3_code 12 = .ok (.invokespecial 97, 3) := by decide +kernel
theorem own_pd_8 : parseMethodDescriptor "(ILjava/lang/String;)V" = some ⟨[.int, (.object "java/lang/String")], none⟩ := by decide +kernel
theorem own_d16_15 : decode prog_54_method_3_code 15 = .ok (.areturn, 1) := by decide +kernel
theorem own_ef_itemN (m : MethodId) (x0 : Addr) : entryFrame m #[(.ref x0)] 1 = mkF m 0 #[rv x0] [] := by first | (simp [entryFrame, mkF, argsToLocals, Value.category]; done) | rfl
def Q_itemN (Z : State) (a1 : Addr) (i1 : Int32) (h0 : Heap) (n0 : Nat) (v : Option Value) (h : Heap) (L : List Loc) : Prop := ∃ b, v = some (.ref b) ∧ Fr n0 L ∧ Keep h0 h [] ∧ h0.size ≤ b ∧ Exa Z h b "com/example/kalip/kalip/recordshop/api/ArtistDto$Item" ∧ Fld Z h b "com/example/kalip/kalip/recordshop/api/ArtistDto$Item" "id" "I" (.int i1) ∧ Fld Z h b "com/example/kalip/kalip/recordshop/api/ArtistDto$Item" "name" "Ljava/lang/String;" .null
set_option maxRecDepth 65536 in
set_option maxHeartbeats 40000000 in
theorem rm_itemN (l : Launch) (Z : State) (a0 : Array Value) (hw : ∀ d ∈ tables_1, d.before a0 Z = true) (ws : List Jvm.Cond) (a1 : Addr) (i1 : Int32) (h0 : Heap) (n0 : Nat) (Z0 : n0 ≤ h0.size) (E1 : Exa Z h0 a1 "com/example/kalip/kalip/recordshop/domain/Artist") (F1 : Fld Z h0 a1 "com/example/kalip/kalip/recordshop/domain/Artist" "id" "I" (.int i1)) (F3 : Fld Z h0 a1 "com/example/kalip/kalip/recordshop/domain/Artist" "name" "Ljava/lang/String;" .null) :
    MetFree l (⟨"com/example/kalip/kalip/recordshop/api/ArtistDto", "item", "(Lcom/example/kalip/kalip/recordshop/domain/Artist;)Lcom/example/kalip/kalip/recordshop/api/ArtistDto$Item;"⟩ : MethodName) (head1 (Jvm.Cond.code (⟨"com/example/kalip/kalip/recordshop/api/ArtistDto", "item", "(Lcom/example/kalip/kalip/recordshop/domain/Artist;)Lcom/example/kalip/kalip/recordshop/api/ArtistDto$Item;"⟩ : MethodName) prog_54_method_3_code 1 (some (.object "com/example/kalip/kalip/recordshop/api/ArtistDto$Item")) :: ws) ({ frames := 3, cells := 1, slots := 2, locals := 42 } : Room)) (fun a U => a = #[(.ref a1)] ∧ Z.Warmed39 U.vm ∧ U.heap = h0) (fun _ _ _ _ _ => True) (fun _ U o U' => ∃ v L, o = .returned v ∧ Q_itemN Z a1 i1 h0 n0 v U'.heap L ∧ FrameEnd U o U' L ({ frames := 3, cells := 1, slots := 2, locals := 42 } : Room).cells ({ frames := 3, cells := 1, slots := 2, locals := 42 } : Room).slots) := by
  refine MetFree.of_bodySF (plainFor_of_name own_pn_0) hisR ?_
  intro p e s m args below meth c s₁ Bd hml0 hP hK
  obtain ⟨rfl, hZ, hh⟩ := hP
  have hx := Bd.exec
  have hby := Bd.bytes
  have hml : c.maxLocals = 1 := hml0
  have hown : s.vm.findClass "com/example/kalip/kalip/recordshop/api/ArtistDto" = some m.cls := findClass_of_methodNamed Bd.named
  have hnm := (name_of_methodNamed Bd.named Bd.method).1
  have W := own_W hw
  have X0 : Stand p l e ({ frames := 3, cells := 1, slots := 2, locals := 42 } : Room) s m #[(.ref a1)] below meth c s₁ [] 0 0 := Stand.of_body Bd
  have e0 : s₁.heap = h0 := by rw [← hh, Bd.state]; rfl
  have N0 := Fr.nil n0
  have pre0 : ∀ tq, Steps p.tables e below (s₁.setTop (mkF m 0 #[rv a1] [])) tq → Steps p.tables e below (s₁.setTop (entryFrame m #[(.ref a1)] 1)) tq := fun tq k => castTop (own_ef_itemN m a1) k
  have K146 : Keep h0 h0 [] := Keep.refl h0 []
  obtain ⟨T147, h147, X147, e147, E147, A147, D147, -, st147⟩ := newO X0 hx hZ hown (W 43 rfl) (W 44 rfl) (W 45 rfl) e0 (g := (mkF m 0 #[rv a1] [])) rfl (hb hby own_d16_0) (by decide) (by decide)
  obtain ⟨b147, g147⟩ : ∃ z, z = h0.size := ⟨_, rfl⟩
  rw [← g147] at A147 D147 st147
  have g148 : n0 ≤ b147 := Nat.le_trans Z0 (Nat.le_of_eq g147.symm)
  have g149 : h0.size ≤ b147 := Nat.le_trans K146.1 (Nat.le_of_eq g147.symm)
  have Z150 : n0 ≤ h147.size := Nat.le_trans Z0 E147.1
  have K151 : Keep h0 h147 [] := K146.ext E147
  have F152 : Fld Z h147 b147 "com/example/kalip/kalip/recordshop/api/ArtistDto$Item" "id" "I" (.int (0 : Int32)) := D147 (Or.inr (W 66 rfl)) (ty := .int) (by decide)
  have F153 : Fld Z h147 b147 "com/example/kalip/kalip/recordshop/api/ArtistDto$Item" "name" "Ljava/lang/String;" .null := D147 (Or.inr (W 68 rfl)) (ty := (.object "java/lang/String")) (by decide)
  have f154 := (F1.ext E147)
  have f156 := (E1.ext E147)
  obtain ⟨cq155, kq155, q155a, q155b, q155c⟩ := isOf hZ e147 f156
  obtain ⟨_, _, ⟨T155, L155, k155, n155⟩, -, X155, ⟨Lc155, hQ155, l155, y155, z155⟩, st155⟩ := X147.virtualBack hx (y := (⟨"com/example/kalip/kalip/recordshop/domain/Artist", "getId", "()I"⟩ : MethodName)) (z := (⟨"com/example/kalip/kalip/recordshop/domain/Artist", "getId", "()I"⟩ : MethodName)) hown (mvT hZ (W 46 rfl)) (mvT hZ (W 47 rfl)) (notFace_of_selects (args := #[]) (mvT hZ (W 49 rfl))) (mvT hZ (W 49 rfl)) (mvT hZ (W 48 rfl)) (by decide) (backOf (W := 2) (rm_getid l Z a0 hw [] a1 i1 h147 n0 Z150 f154) hZ (W 50 rfl) (W 3 rfl) (by decide) (by decide)) q155a q155c (g := (mkF m 5 #[rv a1] [.ref a1, .ref b147, .ref b147])) rfl (by rw [hml]; rfl) (Steps.refl _) (argsL := []) (rest := [.ref b147, .ref b147]) (lenOf own_pd_6 rfl) rfl (by show 2 * 0 + _ ≤ _; exact Nat.le_of_eq rfl) (hb hby own_d16_5) (fun _ _ => ⟨rfl, e147, (by decide : 1 + 0 ≤ _), (by decide : 2 + 0 ≤ _)⟩)
  dsimp only [Pt.U, Pt.locs, Pt.cells, Pt.slots] at X155 l155 y155 z155 st155 hQ155
  subst l155 y155 z155
  obtain ⟨rfl, Nq155, e155⟩ := hQ155
  have N155 := Fr.app N0 Nq155
  have f157 := (F3.ext E147)
  obtain ⟨cq158, kq158, q158a, q158b, q158c⟩ := isOf hZ e155 f156
  obtain ⟨_, _, ⟨T158, L158, k158, n158⟩, -, X158, ⟨Lc158, hQ158, l158, y158, z158⟩, st158⟩ := X155.virtualBack hx (y := (⟨"com/example/kalip/kalip/recordshop/domain/Artist", "getName", "()Ljava/lang/String;"⟩ : MethodName)) (z := (⟨"com/example/kalip/kalip/recordshop/domain/Artist", "getName", "()Ljava/lang/String;"⟩ : MethodName)) hown (mvT hZ (W 51 rfl)) (mvT hZ (W 52 rfl)) (notFace_of_selects (args := #[]) (mvT hZ (W 54 rfl))) (mvT hZ (W 54 rfl)) (mvT hZ (W 53 rfl)) (by decide) (backOf (W := 3) (rm_getnmN l Z a0 hw [] a1 h147 n0 Z150 f157) hZ (W 55 rfl) (W 3 rfl) (by decide) (by decide)) q158a q158c (g := (mkF m 9 #[rv a1] [.ref a1, .int i1, .ref b147, .ref b147])) rfl (by rw [hml]; rfl) (Steps.refl _) (argsL := []) (rest := [.int i1, .ref b147, .ref b147]) (lenOf own_pd_7 rfl) rfl (by show 2 * 0 + _ ≤ _; exact Nat.le_of_eq rfl) (hb hby own_d16_9) (fun _ _ => ⟨rfl, e155, (by decide : 1 + 0 ≤ _), (by decide : 2 + 0 ≤ _)⟩)
  dsimp only [Pt.U, Pt.locs, Pt.cells, Pt.slots] at X158 l158 y158 z158 st158 hQ158
  subst l158 y158 z158
  obtain ⟨rfl, Nq158, e158⟩ := hQ158
  have N158 := Fr.app N155 Nq158
  obtain ⟨_, _, ⟨T159, L159, k159, n159⟩, -, X159, ⟨Lc159, hQ159, l159, y159, z159⟩, st159⟩ := X158.specialBack hx (y := (⟨"com/example/kalip/kalip/recordshop/api/ArtistDto$Item", "<init>", "(ILjava/lang/String;)V"⟩ : MethodName)) rfl hown (mvT hZ (W 56 rfl)) (mvT hZ (W 57 rfl)) (mvT hZ (W 58 rfl)) (by decide) (backOf (W := 1) (rm_itinitN l Z a0 hw [] b147 i1 h147 n0 Z150 A147 g148 F152 F153) hZ (W 58 rfl) (W 45 rfl) (by decide) (by decide)) (g := (mkF m 12 #[rv a1] [.null, .int i1, .ref b147, .ref b147])) rfl (by rw [hml]; rfl) (Steps.refl _) (a := b147) (argsL := [.int i1, .null]) (rest := [.ref b147]) (lenOf own_pd_8 rfl) rfl (by show 2 * 0 + _ ≤ _; exact Nat.le_of_eq rfl) (hb hby own_d16_12) (fun _ _ => ⟨rfl, e158, (by decide : 1 + 0 ≤ _), (by decide : 2 + 0 ≤ _)⟩)
  dsimp only [Pt.U, Pt.locs, Pt.cells, Pt.slots] at X159 l159 y159 z159 st159 hQ159
  subst l159 y159 z159
  obtain ⟨rfl, Nq159, K159, gE, gI, gN⟩ := hQ159
  have N159 := Fr.app N158 Nq159
  have Z160 : n0 ≤ T159.heap.size := Nat.le_trans Z150 K159.1
  have K161 : Keep h0 T159.heap [] := K151.trans K159 (allS (Or.inr g149) all0)
  obtain ⟨fs, hr, hrun, hended, hW, hsame⟩ := X159.leave (v := some (.ref b147)) (fun h => by rw [Bd.returns] at h; cases h)
  refine ⟨_, _, pre0 _ (?_), hrun, hended, _, _, rfl, ?_, ⟨_, rfl⟩, hW, hsame.mono (by decide) (by decide)⟩
  · show Steps p.tables e below (s₁.setTop (mkF m 0 #[rv a1] [])) _
    refine st147 _ ?_
    show Steps p.tables e below (T147.setTop (mkF m 3 #[rv a1] [.ref b147])) _
    refine XS.dup X147.here hx rfl (hb hby own_d16_3) rfl rfl ?_
    show Steps _ _ _ (T147.setTop (mkF m 4 _ [.ref b147, .ref b147])) _
    refine XS.aloadN X147.here hx rfl (hb hby own_d16_4) rfl rfl ?_
    show Steps _ _ _ (T147.setTop (mkF m 5 _ [.ref a1, .ref b147, .ref b147])) _
    refine st155.trans ?_
    show Steps p.tables e below (T155.setTop (mkF m 8 #[rv a1] [.int i1, .ref b147, .ref b147])) _
    refine XS.aloadN X155.here hx rfl (hb hby own_d16_8) rfl rfl ?_
    show Steps _ _ _ (T155.setTop (mkF m 9 _ [.ref a1, .int i1, .ref b147, .ref b147])) _
    refine st158.trans ?_
    show Steps p.tables e below (T158.setTop (mkF m 12 #[rv a1] [.null, .int i1, .ref b147, .ref b147])) _
    refine st159.trans ?_
    show Steps p.tables e below (T159.setTop (mkF m 15 #[rv a1] [.ref b147])) _
    exact retOut X159 hx Bd.returns rfl (Or.inr (Or.inr (Or.inr (Or.inr ⟨rfl, rfl, rfl⟩)))) (hb hby own_d16_15) hr
  · show Q_itemN Z a1 i1 h0 n0 _ T159.heap _
    exact ⟨b147, rfl, N159, K161, g149, gE, gI, gN⟩
theorem own_ef_itinitR (m : MethodId) (x0 : Addr) (x1 : Int32) (x2 : Addr) : entryFrame m #[(.ref x0), (.int x1), (.ref x2)] 3 = mkF m 0 #[rv x0, iv x1, rv x2] [] := by first | (simp [entryFrame, mkF, argsToLocals, Value.category]; done) | rfl
def Q_itinitR (Z : State) (a1 : Addr) (i1 : Int32) (x1 : Addr) (h0 : Heap) (n0 : Nat) (v : Option Value) (h : Heap) (L : List Loc) : Prop := v = none ∧ Fr n0 L ∧ Keep h0 h [a1] ∧ Exa Z h a1 "com/example/kalip/kalip/recordshop/api/ArtistDto$Item" ∧ Fld Z h a1 "com/example/kalip/kalip/recordshop/api/ArtistDto$Item" "id" "I" (.int i1) ∧ Fld Z h a1 "com/example/kalip/kalip/recordshop/api/ArtistDto$Item" "name" "Ljava/lang/String;" (.ref x1)
set_option maxRecDepth 65536 in
set_option maxHeartbeats 40000000 in
theorem rm_itinitR (l : Launch) (Z : State) (a0 : Array Value) (hw : ∀ d ∈ tables_1, d.before a0 Z = true) (ws : List Jvm.Cond) (a1 : Addr) (i1 : Int32) (x1 : Addr) (h0 : Heap) (n0 : Nat) (Z0 : n0 ≤ h0.size) (E1 : Exa Z h0 a1 "com/example/kalip/kalip/recordshop/api/ArtistDto$Item") (g1 : n0 ≤ a1) (F1 : Fld Z h0 a1 "com/example/kalip/kalip/recordshop/api/ArtistDto$Item" "id" "I" (.int (0 : Int32))) (F2 : Fld Z h0 a1 "com/example/kalip/kalip/recordshop/api/ArtistDto$Item" "name" "Ljava/lang/String;" .null) :
    MetFree l (⟨"com/example/kalip/kalip/recordshop/api/ArtistDto$Item", "<init>", "(ILjava/lang/String;)V"⟩ : MethodName) (head1 (Jvm.Cond.code (⟨"com/example/kalip/kalip/recordshop/api/ArtistDto$Item", "<init>", "(ILjava/lang/String;)V"⟩ : MethodName) prog_57_method_1_code 3 none :: ws) ({ frames := 2, cells := 0, slots := 0, locals := 24 } : Room)) (fun a U => a = #[(.ref a1), (.int i1), (.ref x1)] ∧ Z.Warmed39 U.vm ∧ U.heap = h0) (fun _ _ _ _ _ => True) (fun _ U o U' => ∃ v L, o = .returned v ∧ Q_itinitR Z a1 i1 x1 h0 n0 v U'.heap L ∧ FrameEnd U o U' L ({ frames := 2, cells := 0, slots := 0, locals := 24 } : Room).cells ({ frames := 2, cells := 0, slots := 0, locals := 24 } : Room).slots) := by
  refine MetFree.of_bodySF (plainFor_of_name own_pn_1) hisR ?_
  intro p e s m args below meth c s₁ Bd hml0 hP hK
  obtain ⟨rfl, hZ, hh⟩ := hP
  have hx := Bd.exec
  have hby := Bd.bytes
  have hml : c.maxLocals = 3 := hml0
  have hown : s.vm.findClass "com/example/kalip/kalip/recordshop/api/ArtistDto$Item" = some m.cls := findClass_of_methodNamed Bd.named
  have hnm := (name_of_methodNamed Bd.named Bd.method).1
  have W := own_W hw
  have X0 : Stand p l e ({ frames := 2, cells := 0, slots := 0, locals := 24 } : Room) s m #[(.ref a1), (.int i1), (.ref x1)] below meth c s₁ [] 0 0 := Stand.of_body Bd
  have e0 : s₁.heap = h0 := by rw [← hh, Bd.state]; rfl
  have N0 := Fr.nil n0
  have pre0 : ∀ tq, Steps p.tables e below (s₁.setTop (mkF m 0 #[rv a1, iv i1, rv x1] [])) tq → Steps p.tables e below (s₁.setTop (entryFrame m #[(.ref a1), (.int i1), (.ref x1)] 3)) tq := fun tq k => castTop (own_ef_itinitR m a1 i1 x1) k
  have K162 : Keep h0 h0 [a1] := Keep.refl h0 [a1]
  obtain ⟨_, _, ⟨T163, L163, k163, n163⟩, -, X163, ⟨Lc163, hQ163, l163, y163, z163⟩, st163⟩ := X0.specialBack hx (y := (⟨"java/lang/Record", "<init>", "()V"⟩ : MethodName)) rfl hown (mvT hZ (W 59 rfl)) (mvT hZ (W 60 rfl)) (mvT hZ (W 63 rfl)) (by decide) (backOf (W := 0) (rm_rec l Z a0 hw [] a1 h0 n0 Z0 ) hZ (W 63 rfl) (W 62 rfl) (by decide) (by decide)) (g := (mkF m 1 #[rv a1, iv i1, rv x1] [.ref a1])) rfl (by rw [hml]; rfl) (Steps.refl _) (a := a1) (argsL := []) (rest := []) (lenOf own_pd_0 rfl) rfl (by show 2 * 0 + _ ≤ _; exact Nat.le_of_eq rfl) (hb hby own_d17_1) (fun _ _ => ⟨rfl, e0, (by decide : 0 + 0 ≤ _), (by decide : 0 + 0 ≤ _)⟩)
  dsimp only [Pt.U, Pt.locs, Pt.cells, Pt.slots] at X163 l163 y163 z163 st163 hQ163
  subst l163 y163 z163
  obtain ⟨rfl, Nq163, e163⟩ := hQ163
  have N163 := Fr.app N0 Nq163
  obtain ⟨T164, h164, X164, e164, W164, st164⟩ := putF X163 hx hZ hown (host := "") (Or.inl (W 65 rfl)) Via.refl e163 F1 E1 (Or.inr ⟨(W 66 rfl), rfl, hnm⟩) (W 44 rfl) (ty := .int) (by decide) rfl rfl (g := (mkF m 6 #[rv a1, iv i1, rv x1] [.int i1, .ref a1])) rfl rfl (hb hby own_d17_6)
  have N164 := Fr.snoc X164 N163 g1
  have Fw164 := F1.same W164
  have Z165 : n0 ≤ h164.size := Nat.le_trans Z0 (Keep.of_wr W164).1
  have K166 : Keep h0 h164 [a1] := K162.wr W164 (Or.inl (List.mem_of_getElem? (i := 0) rfl))
  have f168 := (F2.other W164 (Or.inr (slot_ne (Or.inr (W 68 rfl)) (Or.inr (W 66 rfl)) (by decide) (t := (.object "java/lang/String")) (t' := .int) (by decide) (by decide))))
  have f169 := (E1.wr W164)
  obtain ⟨T167, h167, X167, e167, W167, st167⟩ := putF X164 hx hZ hown (host := "") (Or.inl (W 67 rfl)) Via.refl e164 f168 f169 (Or.inr ⟨(W 68 rfl), rfl, hnm⟩) (W 44 rfl) (ty := (.object "java/lang/String")) (by decide) rfl rfl (g := (mkF m 11 #[rv a1, iv i1, rv x1] [.ref x1, .ref a1])) rfl rfl (hb hby own_d17_11)
  have N167 := Fr.snoc X167 N164 g1
  have Fw167 := f168.same W167
  have Z170 : n0 ≤ h167.size := Nat.le_trans Z165 (Keep.of_wr W167).1
  have K171 : Keep h0 h167 [a1] := K166.wr W167 (Or.inl (List.mem_of_getElem? (i := 0) rfl))
  have f172 := (f169.wr W167)
  have f173 := (Fw164.other W167 (Or.inr (slot_ne (Or.inr (W 66 rfl)) (Or.inr (W 68 rfl)) (by decide) (t := .int) (t' := (.object "java/lang/String")) (by decide) (by decide))))
  obtain ⟨fs, hr, hrun, hended, hW, hsame⟩ := X167.leave (v := none) (fun _ => rfl)
  refine ⟨_, _, pre0 _ (?_), hrun, hended, _, _, rfl, ?_, ⟨_, rfl⟩, hW, hsame.mono (by decide) (by decide)⟩
  · show Steps p.tables e below (s₁.setTop (mkF m 0 #[rv a1, iv i1, rv x1] [])) _
    refine XS.aloadN X0.here hx rfl (hb hby own_d17_0) rfl rfl ?_
    show Steps _ _ _ (s₁.setTop (mkF m 1 _ [.ref a1])) _
    refine st163.trans ?_
    show Steps p.tables e below (T163.setTop (mkF m 4 #[rv a1, iv i1, rv x1] [])) _
    refine XS.aloadN X163.here hx rfl (hb hby own_d17_4) rfl rfl ?_
    show Steps _ _ _ (T163.setTop (mkF m 5 _ [.ref a1])) _
    refine XS.iloadN X163.here hx rfl (hb hby own_d17_5) rfl ?_
    show Steps _ _ _ (T163.setTop (mkF m 6 _ [.int i1, .ref a1])) _
    refine st164 _ ?_
    show Steps p.tables e below (T164.setTop (mkF m 9 #[rv a1, iv i1, rv x1] [])) _
    refine XS.aloadN X164.here hx rfl (hb hby own_d17_9) rfl rfl ?_
    show Steps _ _ _ (T164.setTop (mkF m 10 _ [.ref a1])) _
    refine XS.aloadN X164.here hx rfl (hb hby own_d17_10) rfl rfl ?_
    show Steps _ _ _ (T164.setTop (mkF m 11 _ [.ref x1, .ref a1])) _
    refine st167 _ ?_
    show Steps p.tables e below (T167.setTop (mkF m 14 #[rv a1, iv i1, rv x1] [])) _
    exact X167.returnOut hx Bd.returns (hb hby own_d17_14) hr
  · show Q_itinitR Z a1 i1 x1 h0 n0 _ T167.heap _
    rw [e167]
    exact ⟨rfl, N167, K171, f172, f173, Fw167⟩
theorem own_ef_itemR (m : MethodId) (x0 : Addr) : entryFrame m #[(.ref x0)] 1 = mkF m 0 #[rv x0] [] := by first | (simp [entryFrame, mkF, argsToLocals, Value.category]; done) | rfl
def Q_itemR (Z : State) (a1 : Addr) (i1 : Int32) (x1 : Addr) (h0 : Heap) (n0 : Nat) (v : Option Value) (h : Heap) (L : List Loc) : Prop := ∃ b, v = some (.ref b) ∧ Fr n0 L ∧ Keep h0 h [] ∧ h0.size ≤ b ∧ Exa Z h b "com/example/kalip/kalip/recordshop/api/ArtistDto$Item" ∧ Fld Z h b "com/example/kalip/kalip/recordshop/api/ArtistDto$Item" "id" "I" (.int i1) ∧ Fld Z h b "com/example/kalip/kalip/recordshop/api/ArtistDto$Item" "name" "Ljava/lang/String;" (.ref x1)
set_option maxRecDepth 65536 in
set_option maxHeartbeats 40000000 in
theorem rm_itemR (l : Launch) (Z : State) (a0 : Array Value) (hw : ∀ d ∈ tables_1, d.before a0 Z = true) (ws : List Jvm.Cond) (a1 : Addr) (i1 : Int32) (x1 : Addr) (h0 : Heap) (n0 : Nat) (Z0 : n0 ≤ h0.size) (E1 : Exa Z h0 a1 "com/example/kalip/kalip/recordshop/domain/Artist") (F1 : Fld Z h0 a1 "com/example/kalip/kalip/recordshop/domain/Artist" "id" "I" (.int i1)) (F3 : Fld Z h0 a1 "com/example/kalip/kalip/recordshop/domain/Artist" "name" "Ljava/lang/String;" (.ref x1)) :
    MetFree l (⟨"com/example/kalip/kalip/recordshop/api/ArtistDto", "item", "(Lcom/example/kalip/kalip/recordshop/domain/Artist;)Lcom/example/kalip/kalip/recordshop/api/ArtistDto$Item;"⟩ : MethodName) (head1 (Jvm.Cond.code (⟨"com/example/kalip/kalip/recordshop/api/ArtistDto", "item", "(Lcom/example/kalip/kalip/recordshop/domain/Artist;)Lcom/example/kalip/kalip/recordshop/api/ArtistDto$Item;"⟩ : MethodName) prog_54_method_3_code 1 (some (.object "com/example/kalip/kalip/recordshop/api/ArtistDto$Item")) :: ws) ({ frames := 3, cells := 1, slots := 2, locals := 42 } : Room)) (fun a U => a = #[(.ref a1)] ∧ Z.Warmed39 U.vm ∧ U.heap = h0) (fun _ _ _ _ _ => True) (fun _ U o U' => ∃ v L, o = .returned v ∧ Q_itemR Z a1 i1 x1 h0 n0 v U'.heap L ∧ FrameEnd U o U' L ({ frames := 3, cells := 1, slots := 2, locals := 42 } : Room).cells ({ frames := 3, cells := 1, slots := 2, locals := 42 } : Room).slots) := by
  refine MetFree.of_bodySF (plainFor_of_name own_pn_0) hisR ?_
  intro p e s m args below meth c s₁ Bd hml0 hP hK
  obtain ⟨rfl, hZ, hh⟩ := hP
  have hx := Bd.exec
  have hby := Bd.bytes
  have hml : c.maxLocals = 1 := hml0
  have hown : s.vm.findClass "com/example/kalip/kalip/recordshop/api/ArtistDto" = some m.cls := findClass_of_methodNamed Bd.named
  have hnm := (name_of_methodNamed Bd.named Bd.method).1
  have W := own_W hw
  have X0 : Stand p l e ({ frames := 3, cells := 1, slots := 2, locals := 42 } : Room) s m #[(.ref a1)] below meth c s₁ [] 0 0 := Stand.of_body Bd
  have e0 : s₁.heap = h0 := by rw [← hh, Bd.state]; rfl
  have N0 := Fr.nil n0
  have pre0 : ∀ tq, Steps p.tables e below (s₁.setTop (mkF m 0 #[rv a1] [])) tq → Steps p.tables e below (s₁.setTop (entryFrame m #[(.ref a1)] 1)) tq := fun tq k => castTop (own_ef_itemR m a1) k
  have K174 : Keep h0 h0 [] := Keep.refl h0 []
  obtain ⟨T175, h175, X175, e175, E175, A175, D175, -, st175⟩ := newO X0 hx hZ hown (W 43 rfl) (W 44 rfl) (W 45 rfl) e0 (g := (mkF m 0 #[rv a1] [])) rfl (hb hby own_d16_0) (by decide) (by decide)
  obtain ⟨b175, g175⟩ : ∃ z, z = h0.size := ⟨_, rfl⟩
  rw [← g175] at A175 D175 st175
  have g176 : n0 ≤ b175 := Nat.le_trans Z0 (Nat.le_of_eq g175.symm)
  have g177 : h0.size ≤ b175 := Nat.le_trans K174.1 (Nat.le_of_eq g175.symm)
  have Z178 : n0 ≤ h175.size := Nat.le_trans Z0 E175.1
  have K179 : Keep h0 h175 [] := K174.ext E175
  have F180 : Fld Z h175 b175 "com/example/kalip/kalip/recordshop/api/ArtistDto$Item" "id" "I" (.int (0 : Int32)) := D175 (Or.inr (W 66 rfl)) (ty := .int) (by decide)
  have F181 : Fld Z h175 b175 "com/example/kalip/kalip/recordshop/api/ArtistDto$Item" "name" "Ljava/lang/String;" .null := D175 (Or.inr (W 68 rfl)) (ty := (.object "java/lang/String")) (by decide)
  have f182 := (F1.ext E175)
  have f184 := (E1.ext E175)
  obtain ⟨cq183, kq183, q183a, q183b, q183c⟩ := isOf hZ e175 f184
  obtain ⟨_, _, ⟨T183, L183, k183, n183⟩, -, X183, ⟨Lc183, hQ183, l183, y183, z183⟩, st183⟩ := X175.virtualBack hx (y := (⟨"com/example/kalip/kalip/recordshop/domain/Artist", "getId", "()I"⟩ : MethodName)) (z := (⟨"com/example/kalip/kalip/recordshop/domain/Artist", "getId", "()I"⟩ : MethodName)) hown (mvT hZ (W 46 rfl)) (mvT hZ (W 47 rfl)) (notFace_of_selects (args := #[]) (mvT hZ (W 49 rfl))) (mvT hZ (W 49 rfl)) (mvT hZ (W 48 rfl)) (by decide) (backOf (W := 2) (rm_getid l Z a0 hw [] a1 i1 h175 n0 Z178 f182) hZ (W 50 rfl) (W 3 rfl) (by decide) (by decide)) q183a q183c (g := (mkF m 5 #[rv a1] [.ref a1, .ref b175, .ref b175])) rfl (by rw [hml]; rfl) (Steps.refl _) (argsL := []) (rest := [.ref b175, .ref b175]) (lenOf own_pd_6 rfl) rfl (by show 2 * 0 + _ ≤ _; exact Nat.le_of_eq rfl) (hb hby own_d16_5) (fun _ _ => ⟨rfl, e175, (by decide : 1 + 0 ≤ _), (by decide : 2 + 0 ≤ _)⟩)
  dsimp only [Pt.U, Pt.locs, Pt.cells, Pt.slots] at X183 l183 y183 z183 st183 hQ183
  subst l183 y183 z183
  obtain ⟨rfl, Nq183, e183⟩ := hQ183
  have N183 := Fr.app N0 Nq183
  have f185 := (F3.ext E175)
  obtain ⟨cq186, kq186, q186a, q186b, q186c⟩ := isOf hZ e183 f184
  obtain ⟨_, _, ⟨T186, L186, k186, n186⟩, -, X186, ⟨Lc186, hQ186, l186, y186, z186⟩, st186⟩ := X183.virtualBack hx (y := (⟨"com/example/kalip/kalip/recordshop/domain/Artist", "getName", "()Ljava/lang/String;"⟩ : MethodName)) (z := (⟨"com/example/kalip/kalip/recordshop/domain/Artist", "getName", "()Ljava/lang/String;"⟩ : MethodName)) hown (mvT hZ (W 51 rfl)) (mvT hZ (W 52 rfl)) (notFace_of_selects (args := #[]) (mvT hZ (W 54 rfl))) (mvT hZ (W 54 rfl)) (mvT hZ (W 53 rfl)) (by decide) (backOf (W := 3) (rm_getnmR l Z a0 hw [] a1 x1 h175 n0 Z178 f185) hZ (W 55 rfl) (W 3 rfl) (by decide) (by decide)) q186a q186c (g := (mkF m 9 #[rv a1] [.ref a1, .int i1, .ref b175, .ref b175])) rfl (by rw [hml]; rfl) (Steps.refl _) (argsL := []) (rest := [.int i1, .ref b175, .ref b175]) (lenOf own_pd_7 rfl) rfl (by show 2 * 0 + _ ≤ _; exact Nat.le_of_eq rfl) (hb hby own_d16_9) (fun _ _ => ⟨rfl, e183, (by decide : 1 + 0 ≤ _), (by decide : 2 + 0 ≤ _)⟩)
  dsimp only [Pt.U, Pt.locs, Pt.cells, Pt.slots] at X186 l186 y186 z186 st186 hQ186
  subst l186 y186 z186
  obtain ⟨rfl, Nq186, e186⟩ := hQ186
  have N186 := Fr.app N183 Nq186
  obtain ⟨_, _, ⟨T187, L187, k187, n187⟩, -, X187, ⟨Lc187, hQ187, l187, y187, z187⟩, st187⟩ := X186.specialBack hx (y := (⟨"com/example/kalip/kalip/recordshop/api/ArtistDto$Item", "<init>", "(ILjava/lang/String;)V"⟩ : MethodName)) rfl hown (mvT hZ (W 56 rfl)) (mvT hZ (W 57 rfl)) (mvT hZ (W 58 rfl)) (by decide) (backOf (W := 1) (rm_itinitR l Z a0 hw [] b175 i1 x1 h175 n0 Z178 A175 g176 F180 F181) hZ (W 58 rfl) (W 45 rfl) (by decide) (by decide)) (g := (mkF m 12 #[rv a1] [.ref x1, .int i1, .ref b175, .ref b175])) rfl (by rw [hml]; rfl) (Steps.refl _) (a := b175) (argsL := [.int i1, .ref x1]) (rest := [.ref b175]) (lenOf own_pd_8 rfl) rfl (by show 2 * 0 + _ ≤ _; exact Nat.le_of_eq rfl) (hb hby own_d16_12) (fun _ _ => ⟨rfl, e186, (by decide : 1 + 0 ≤ _), (by decide : 2 + 0 ≤ _)⟩)
  dsimp only [Pt.U, Pt.locs, Pt.cells, Pt.slots] at X187 l187 y187 z187 st187 hQ187
  subst l187 y187 z187
  obtain ⟨rfl, Nq187, K187, gE, gI, gN⟩ := hQ187
  have N187 := Fr.app N186 Nq187
  have Z188 : n0 ≤ T187.heap.size := Nat.le_trans Z178 K187.1
  have K189 : Keep h0 T187.heap [] := K179.trans K187 (allS (Or.inr g177) all0)
  obtain ⟨fs, hr, hrun, hended, hW, hsame⟩ := X187.leave (v := some (.ref b175)) (fun h => by rw [Bd.returns] at h; cases h)
  refine ⟨_, _, pre0 _ (?_), hrun, hended, _, _, rfl, ?_, ⟨_, rfl⟩, hW, hsame.mono (by decide) (by decide)⟩
  · show Steps p.tables e below (s₁.setTop (mkF m 0 #[rv a1] [])) _
    refine st175 _ ?_
    show Steps p.tables e below (T175.setTop (mkF m 3 #[rv a1] [.ref b175])) _
    refine XS.dup X175.here hx rfl (hb hby own_d16_3) rfl rfl ?_
    show Steps _ _ _ (T175.setTop (mkF m 4 _ [.ref b175, .ref b175])) _
    refine XS.aloadN X175.here hx rfl (hb hby own_d16_4) rfl rfl ?_
    show Steps _ _ _ (T175.setTop (mkF m 5 _ [.ref a1, .ref b175, .ref b175])) _
    refine st183.trans ?_
    show Steps p.tables e below (T183.setTop (mkF m 8 #[rv a1] [.int i1, .ref b175, .ref b175])) _
    refine XS.aloadN X183.here hx rfl (hb hby own_d16_8) rfl rfl ?_
    show Steps _ _ _ (T183.setTop (mkF m 9 _ [.ref a1, .int i1, .ref b175, .ref b175])) _
    refine st186.trans ?_
    show Steps p.tables e below (T186.setTop (mkF m 12 #[rv a1] [.ref x1, .int i1, .ref b175, .ref b175])) _
    refine st187.trans ?_
    show Steps p.tables e below (T187.setTop (mkF m 15 #[rv a1] [.ref b175])) _
    exact retOut X187 hx Bd.returns rfl (Or.inr (Or.inr (Or.inr (Or.inr ⟨rfl, rfl, rfl⟩)))) (hb hby own_d16_15) hr
  · show Q_itemR Z a1 i1 x1 h0 n0 _ T187.heap _
    exact ⟨b175, rfl, N187, K189, g177, gE, gI, gN⟩
theorem own_pn_2 : plainName "com/example/kalip/kalip/recordshop/api/ArtistDtoItemPinLaw" = true := by decide +kernel
theorem own_pd_2 : parseMethodDescriptor "(I)V" = some ⟨[.int], none⟩ := by decide +kernel
theorem own_pd_3 : parseMethodDescriptor "(J)V" = some ⟨[.long], none⟩ := by decide +kernel
theorem own_pd_4 : parseMethodDescriptor "(Ljava/lang/String;)V" = some ⟨[(.object "java/lang/String")], none⟩ := by decide +kernel
theorem own_pd_5 : parseMethodDescriptor "(Lcom/example/kalip/kalip/recordshop/domain/Artist;)Lcom/example/kalip/kalip/recordshop/api/ArtistDto$Item;" = some ⟨[(.object "com/example/kalip/kalip/recordshop/domain/Artist")], some (.object "com/example/kalip/kalip/recordshop/api/ArtistDto$Item")⟩ := by decide +kernel
theorem own_pd_14 : parseMethodDescriptor "(Ljava/lang/Object;)Z" = some ⟨[(.object "java/lang/Object")], some .boolean⟩ := by decide +kernel
theorem own_pd_15 : parseMethodDescriptor "([C)V" = some ⟨[(.array .char)], none⟩ := by decide +kernel
theorem own_pd_9 : parseMethodDescriptor "(C)Ljava/lang/String;" = some ⟨[.char], some (.object "java/lang/String")⟩ := by decide +kernel
theorem own_ef_law (m : MethodId) (x0 : Int32) (x1 : Int64) (x2 : Int32) (x3 : Int32) (x4 : Int32) : entryFrame m #[(.int x0), (.long x1), (.int x2), (.int x3), (.int x4)] maxLocals = mkF m 0 #[iv x0, .val (.long x1), .second, iv x2, iv x3, iv x4, .unset, .unset, .unset, .unset, .unset, .unset, .unset, .unset] [] := by first | (simp [entryFrame, mkF, argsToLocals, Value.category, maxLocals]; done) | rfl
def Q_law (Z : State) (p1 : Int32) (q2 : Int64) (p3 p4 p5 G1 : Int32) (em : Addr) (h0 : Heap) (n0 : Nat) (v : Option Value) (h : Heap) (L : List Loc) : Prop := v = some (.int 1) ∧ Fr n0 L
set_option maxRecDepth 65536 in
set_option maxHeartbeats 40000000 in
theorem rm_law (l : Launch) (Z : State) (a0 : Array Value) (hw : ∀ d ∈ tables_1, d.before a0 Z = true) (ws : List Jvm.Cond) (p1 : Int32) (q2 : Int64) (p3 p4 p5 G1 : Int32) (em : Addr) (h0 : Heap) (n0 : Nat) (Z0 : n0 ≤ h0.size) (X00 : Old Z n0 h0) (O2 : Sta Z Z.heap "java/lang/String" "COMPACT_STRINGS" "Z" (.int G1)) (P5 : ¬ (G1 = (0 : Int32))) (OE : Sta Z Z.heap "java/util/ImmutableCollections" "EMPTY_LIST" "Ljava/util/ImmutableCollections$ListN;" (.ref em)) :
    MetFree l x (head1 (Jvm.Cond.code x code maxLocals ret :: ws) room_1) (fun a U => a = #[(.int p1), (.long q2), (.int p3), (.int p4), (.int p5)] ∧ Z.Warmed39 U.vm ∧ U.heap = h0 ∧ own_J Z own_EL [] h0 U.vm) (fun _ _ _ _ _ => True) (fun _ U o U' => ∃ v L, o = .returned v ∧ Q_law Z p1 q2 p3 p4 p5 G1 em h0 n0 v U'.heap L ∧ CHr Z own_EL U.vm U.heap U'.vm U'.heap ∧ ReturnedEndW U o U' L 24 1152) := by
  refine MetFree.of_bodySF (plainFor_of_name own_pn_2) hisR ?_
  intro p e s m args below meth c s₁ Bd hml0 hP hK
  obtain ⟨rfl, hZ, hh, hJ⟩ := hP
  have hx := Bd.exec
  have hby := Bd.bytes
  have hml : c.maxLocals = 14 := hml0
  have hown : s.vm.findClass "com/example/kalip/kalip/recordshop/api/ArtistDtoItemPinLaw" = some m.cls := findClass_of_methodNamed Bd.named
  have hnm := (name_of_methodNamed Bd.named Bd.method).1
  have W := own_W hw
  have X0 : Stand p l e room_1 s m #[(.int p1), (.long q2), (.int p3), (.int p4), (.int p5)] below meth c s₁ [] 0 0 := Stand.of_body Bd
  have e0 : s₁.heap = h0 := by rw [← hh, Bd.state]; rfl
  have N0 := Fr.nil n0
  have pre0 : ∀ tq, Steps p.tables e below (s₁.setTop (mkF m 0 #[iv p1, .val (.long q2), .second, iv p3, iv p4, iv p5, .unset, .unset, .unset, .unset, .unset, .unset, .unset, .unset] [])) tq → Steps p.tables e below (s₁.setTop (entryFrame m #[(.int p1), (.long q2), (.int p3), (.int p4), (.int p5)] maxLocals)) tq := fun tq k => castTop (own_ef_law m p1 q2 p3 p4 p5) k
  have hEL := own_EW hw
  have wS : ∀ d ∈ Bundle.stringAtoms, d.before a0 Z = true := fun d hd => hw d ((by decide +kernel : ∀ d ∈ Bundle.stringAtoms, d ∈ tables_1) d hd)
  have hS0 : s.Since s.vm 0 := (State.WarmedH.refl s).since 0
  have hk0 : 0 ≤ h0.size := Nat.zero_le _
  have CH0 : CHv Z own_EL s.vm h0 := hJ.1
  have CR0 : CHr Z own_EL s.vm h0 s.vm h0 := CHr.refl CH0
  have X0 : Stand p l e room_1 (s.setVm s.vm) m #[(.int p1), (.long q2), (.int p3), (.int p4), (.int p5)] below meth c s₁ [] 0 0 := X0
  have hws : ∀ d ∈ StrChars.Road.words, d.before a0 Z = true := fun d hd => hw d ((by decide +kernel : ∀ d ∈ StrChars.Road.words, d ∈ tables_1) d hd)
  have hln : ∀ d ∈ StrChars.Road.wordsLen, d.before a0 Z = true := fun d hd => hw d ((by decide +kernel : ∀ d ∈ StrChars.Road.wordsLen, d ∈ tables_1) d hd)
  have G190 : ∀ tq, Steps p.tables e below (s₁.setTop (mkF m 4 #[iv p1, .val (.long q2), .second, iv p3, iv p4, iv p5, .unset, .unset, .unset, .unset, .unset, .unset, .unset, .unset] [.int (p5 &&& (1 : Int32))])) tq → Steps p.tables e below (s₁.setTop (mkF m 0 #[iv p1, .val (.long q2), .second, iv p3, iv p4, iv p5, .unset, .unset, .unset, .unset, .unset, .unset, .unset, .unset] [])) tq := by
    intro tq kk
    show Steps p.tables e below (s₁.setTop (mkF m 0 #[iv p1, .val (.long q2), .second, iv p3, iv p4, iv p5, .unset, .unset, .unset, .unset, .unset, .unset, .unset, .unset] [])) _
    refine XS.iload X0.here hx rfl (hb hby at_0) rfl ?_
    show Steps _ _ _ (s₁.setTop (mkF m 2 _ [.int p5])) _
    refine XS.iconst X0.here hx rfl (hb hby at_2) ?_
    show Steps _ _ _ (s₁.setTop (mkF m 3 _ [.int 1, .int p5])) _
    refine XS.iand X0.here hx rfl (hb hby at_3) rfl ?_
    exact kk
  obtain ⟨nn, hnn, G6⟩ : ∃ nn : Int32, (nn = 0 ∨ nn = 1) ∧ ∀ t, Steps p.tables e below (s₁.setTop (mkF m 12 #[iv p1, .val (.long q2), .second, iv p3, iv p4, iv p5, .unset, .unset, .unset, .unset, .unset, .unset, .unset, .unset] [.int nn])) t → Steps p.tables e below (s₁.setTop (mkF m 4 #[iv p1, .val (.long q2), .second, iv p3, iv p4, iv p5, .unset, .unset, .unset, .unset, .unset, .unset, .unset, .unset] [.int (p5 &&& (1 : Int32))])) t := by
    by_cases hc : (p5 &&& (1 : Int32)) = (0 : Int32)
    · have G191 : ∀ tq, Steps p.tables e below (s₁.setTop (mkF m 12 #[iv p1, .val (.long q2), .second, iv p3, iv p4, iv p5, .unset, .unset, .unset, .unset, .unset, .unset, .unset, .unset] [.int 0])) tq → Steps p.tables e below (s₁.setTop (mkF m 4 #[iv p1, .val (.long q2), .second, iv p3, iv p4, iv p5, .unset, .unset, .unset, .unset, .unset, .unset, .unset, .unset] [.int (p5 &&& (1 : Int32))])) tq := by
        intro tq kk
        show Steps p.tables e below (s₁.setTop (mkF m 4 #[iv p1, .val (.long q2), .second, iv p3, iv p4, iv p5, .unset, .unset, .unset, .unset, .unset, .unset, .unset, .unset] [.int (p5 &&& (1 : Int32))])) _
        refine XS.ifYes X0.here hx rfl (pc0 := 4) (pc' := 11) rfl (hb hby at_4) rfl ((if0 _ _).trans (teq (hc : (p5 &&& (1 : Int32)) = (0 : Int32))).1) (by decide) (by decide) ?_
        show Steps _ _ _ (s₁.setTop (mkF m 11 _ [])) _
        refine XS.iconst X0.here hx rfl (hb hby at_11) ?_
        exact kk
      exact ⟨0, Or.inl rfl, fun tgt kk => G191 _ kk⟩
    · have G192 : ∀ tq, Steps p.tables e below (s₁.setTop (mkF m 12 #[iv p1, .val (.long q2), .second, iv p3, iv p4, iv p5, .unset, .unset, .unset, .unset, .unset, .unset, .unset, .unset] [.int 1])) tq → Steps p.tables e below (s₁.setTop (mkF m 4 #[iv p1, .val (.long q2), .second, iv p3, iv p4, iv p5, .unset, .unset, .unset, .unset, .unset, .unset, .unset, .unset] [.int (p5 &&& (1 : Int32))])) tq := by
        intro tq kk
        show Steps p.tables e below (s₁.setTop (mkF m 4 #[iv p1, .val (.long q2), .second, iv p3, iv p4, iv p5, .unset, .unset, .unset, .unset, .unset, .unset, .unset, .unset] [.int (p5 &&& (1 : Int32))])) _
        refine XS.ifNo X0.here hx rfl (hb hby at_4) rfl ((if0 _ _).trans (feq (hc : ¬ ((p5 &&& (1 : Int32)) = (0 : Int32)))).1) ?_
        show Steps _ _ _ (s₁.setTop (mkF m 7 _ [])) _
        refine XS.iconst X0.here hx rfl (hb hby at_7) ?_
        show Steps _ _ _ (s₁.setTop (mkF m 8 _ [.int 1])) _
        refine XS.goto X0.here hx rfl (pc0 := 8) (pc' := 12) rfl (hb hby at_8) (by decide) (by decide) ?_
        exact kk
      exact ⟨1, Or.inr rfl, fun tgt kk => G192 _ kk⟩
  obtain ⟨T193, h193, k193, X193, e193, E193, A193, st193⟩ := newP X0 hx hZ (W 0 rfl) e0 (g := (mkF m 23 #[iv p1, .val (.long q2), .second, iv p3, iv p4, iv p5, iv nn, iv ((own_ushr p5 (1 : Int32)) &&& (3 : Int32)), .unset, .unset, .unset, .unset, .unset, .unset] [.int 2])) rfl (hb hby at_23) rfl (by decide : ¬ ((2 : Int32) < (0 : Int32))) (cap := 2) (by decide) (by decide) (by decide) (by decide)
  obtain ⟨b193, g193⟩ : ∃ z, z = h0.size := ⟨_, rfl⟩
  rw [← g193] at A193 st193
  have g194 : n0 ≤ b193 := Nat.le_trans Z0 (Nat.le_of_eq g193.symm)
  have CR195 := CR0.trans (CHr.ext E193 CH0)
  have Z196 : n0 ≤ h193.size := Nat.le_trans Z0 E193.1
  have O197 : Old Z n0 h193 := X00.ext E193
  have hk198 := Nat.le_trans hk0 E193.1
  have V193 : Arv Z h193 b193 k193 .char (2 : Int32) [(.int (0 : Int32)), (.int (0 : Int32))] (.int (0 : Int32)) := (Arv.new A193 (by decide : ¬ ((2 : Int32) < (0 : Int32)))).pad (pad_rep [] (.int (0 : Int32)) 2)
  obtain ⟨cl199, Ar199, aq199, aS199, aN199, aH199, aG199⟩ := id V193
  obtain ⟨T200, h200, X200, e200, W200, st200⟩ := stC X193 hx hZ e193 Ar199 (j := (0 : Int32)) (inb_of aS199 ⟨(by decide), (by decide)⟩) (g := (mkF m 36 #[iv p1, .val (.long q2), .second, iv p3, iv p4, iv p5, iv nn, iv ((own_ushr p5 (1 : Int32)) &&& (3 : Int32)), rv b193, .unset, .unset, .unset, .unset, .unset] [.int ((p3 &&& (255 : Int32)).toUInt32.toUInt16.toUInt32.toInt32), .int 0, .ref b193])) rfl rfl (hb hby at_36)
  have N200 := Fr.snoc X200 N0 g194
  have V200 : Arv Z h200 b193 k193 .char (2 : Int32) [(.int (nar .char ((p3 &&& (255 : Int32)).toUInt32.toUInt16.toUInt32.toInt32))), (.int (0 : Int32))] (.int (0 : Int32)) := Arv.set Ar199 aq199 aS199 aN199 aH199 aG199 (fits_nar_char _) W200 0 rfl (Nat.le_of_ble_eq_true rfl)
  have f202 := (Safe.ext E193 CH0 (Safe.new (Nat.le_of_eq g193.symm)))
  have CR201 := CR195.trans (CHr.wr W200 f202 CR195.1)
  have Z203 : n0 ≤ h200.size := Nat.le_trans Z196 (Keep.of_wr W200).1
  have O204 : Old Z n0 h200 := O197.wr W200 g194
  have hk205 := Nat.le_trans hk198 (Keep.of_wr W200).1
  obtain ⟨cl206, Ar206, aq206, aS206, aN206, aH206, aG206⟩ := id V200
  obtain ⟨T207, h207, X207, e207, W207, st207⟩ := stC X200 hx hZ e200 Ar206 (j := (1 : Int32)) (inb_of aS206 ⟨(by decide), (by decide)⟩) (g := (mkF m 47 #[iv p1, .val (.long q2), .second, iv p3, iv p4, iv p5, iv nn, iv ((own_ushr p5 (1 : Int32)) &&& (3 : Int32)), rv b193, .unset, .unset, .unset, .unset, .unset] [.int ((p4 &&& (255 : Int32)).toUInt32.toUInt16.toUInt32.toInt32), .int 1, .ref b193])) rfl rfl (hb hby at_47)
  have N207 := Fr.snoc X207 N200 g194
  have V207 : Arv Z h207 b193 k193 .char (2 : Int32) [(.int (nar .char ((p3 &&& (255 : Int32)).toUInt32.toUInt16.toUInt32.toInt32))), (.int (nar .char ((p4 &&& (255 : Int32)).toUInt32.toUInt16.toUInt32.toInt32)))] (.int (0 : Int32)) := Arv.set Ar206 aq206 aS206 aN206 aH206 aG206 (fits_nar_char _) W207 1 rfl (Nat.le_of_ble_eq_true rfl)
  have f209 := ((CHr.wr W200 f202 CR195.1).safe V193.lt f202)
  have CR208 := CR201.trans (CHr.wr W207 f209 CR201.1)
  have Z210 : n0 ≤ h207.size := Nat.le_trans Z203 (Keep.of_wr W207).1
  have O211 : Old Z n0 h207 := O204.wr W207 g194
  have hk212 := Nat.le_trans hk205 (Keep.of_wr W207).1
  obtain ⟨T213, h213, k213, X213, e213, E213, A213, st213⟩ := newP X207 hx hZ (W 0 rfl) e207 (g := (mkF m 49 #[iv p1, .val (.long q2), .second, iv p3, iv p4, iv p5, iv nn, iv ((own_ushr p5 (1 : Int32)) &&& (3 : Int32)), rv b193, .unset, .unset, .unset, .unset, .unset] [.int 0])) rfl (hb hby at_49) rfl (by decide : ¬ ((0 : Int32) < (0 : Int32))) (cap := 0) (by decide) (by decide) (by decide) (by decide)
  obtain ⟨b213, g213⟩ : ∃ z, z = h207.size := ⟨_, rfl⟩
  rw [← g213] at A213 st213
  have g214 : n0 ≤ b213 := Nat.le_trans Z210 (Nat.le_of_eq g213.symm)
  have CR215 := CR208.trans (CHr.ext E213 CR208.1)
  have Z216 : n0 ≤ h213.size := Nat.le_trans Z210 E213.1
  have O217 : Old Z n0 h213 := O211.ext E213
  have hk218 := Nat.le_trans hk212 E213.1
  have V213 : Arv Z h213 b213 k213 .char (0 : Int32) [] (.int (0 : Int32)) := Arv.new A213 (by decide : ¬ ((0 : Int32) < (0 : Int32)))
  have G219 : ∀ tq, Steps p.tables e below (T213.setTop (mkF m 55 #[iv p1, .val (.long q2), .second, iv p3, iv p4, iv p5, iv nn, iv ((own_ushr p5 (1 : Int32)) &&& (3 : Int32)), rv b193, rv b213, .unset, .unset, .unset, .unset] [.int nn])) tq → Steps p.tables e below (s₁.setTop (mkF m 12 #[iv p1, .val (.long q2), .second, iv p3, iv p4, iv p5, .unset, .unset, .unset, .unset, .unset, .unset, .unset, .unset] [.int nn])) tq := by
    intro tq kk
    show Steps p.tables e below (s₁.setTop (mkF m 12 #[iv p1, .val (.long q2), .second, iv p3, iv p4, iv p5, .unset, .unset, .unset, .unset, .unset, .unset, .unset, .unset] [.int nn])) _
    refine XS.istore X0.here hx rfl (hb hby at_12) rfl (l' := #[iv p1, .val (.long q2), .second, iv p3, iv p4, iv p5, iv nn, .unset, .unset, .unset, .unset, .unset, .unset, .unset]) rfl ?_
    show Steps _ _ _ (s₁.setTop (mkF m 14 _ [])) _
    refine XS.iload X0.here hx rfl (hb hby at_14) rfl ?_
    show Steps _ _ _ (s₁.setTop (mkF m 16 _ [.int p5])) _
    refine XS.iconst X0.here hx rfl (hb hby at_16) ?_
    show Steps _ _ _ (s₁.setTop (mkF m 17 _ [.int 1, .int p5])) _
    refine XS.iushr X0.here hx rfl (hb hby at_17) rfl ?_
    show Steps _ _ _ (s₁.setTop (mkF m 18 _ [.int (own_ushr p5 (1 : Int32))])) _
    refine XS.iconst X0.here hx rfl (hb hby at_18) ?_
    show Steps _ _ _ (s₁.setTop (mkF m 19 _ [.int 3, .int (own_ushr p5 (1 : Int32))])) _
    refine XS.iand X0.here hx rfl (hb hby at_19) rfl ?_
    show Steps _ _ _ (s₁.setTop (mkF m 20 _ [.int ((own_ushr p5 (1 : Int32)) &&& (3 : Int32))])) _
    refine XS.istore X0.here hx rfl (hb hby at_20) rfl (l' := #[iv p1, .val (.long q2), .second, iv p3, iv p4, iv p5, iv nn, iv ((own_ushr p5 (1 : Int32)) &&& (3 : Int32)), .unset, .unset, .unset, .unset, .unset, .unset]) rfl ?_
    show Steps _ _ _ (s₁.setTop (mkF m 22 _ [])) _
    refine XS.iconst X0.here hx rfl (hb hby at_22) ?_
    show Steps p.tables e below (s₁.setTop (mkF m 23 #[iv p1, .val (.long q2), .second, iv p3, iv p4, iv p5, iv nn, iv ((own_ushr p5 (1 : Int32)) &&& (3 : Int32)), .unset, .unset, .unset, .unset, .unset, .unset] [.int 2])) _
    refine st193 _ ?_
    show Steps p.tables e below (T193.setTop (mkF m 25 #[iv p1, .val (.long q2), .second, iv p3, iv p4, iv p5, iv nn, iv ((own_ushr p5 (1 : Int32)) &&& (3 : Int32)), .unset, .unset, .unset, .unset, .unset, .unset] [.ref b193])) _
    refine XS.astore X193.here hx rfl (hb hby at_25) rfl rfl (l' := #[iv p1, .val (.long q2), .second, iv p3, iv p4, iv p5, iv nn, iv ((own_ushr p5 (1 : Int32)) &&& (3 : Int32)), rv b193, .unset, .unset, .unset, .unset, .unset]) rfl ?_
    show Steps _ _ _ (T193.setTop (mkF m 27 _ [])) _
    refine XS.aload X193.here hx rfl (hb hby at_27) rfl rfl ?_
    show Steps _ _ _ (T193.setTop (mkF m 29 _ [.ref b193])) _
    refine XS.iconst X193.here hx rfl (hb hby at_29) ?_
    show Steps _ _ _ (T193.setTop (mkF m 30 _ [.int 0, .ref b193])) _
    refine XS.iloadN X193.here hx rfl (hb hby at_30) rfl ?_
    show Steps _ _ _ (T193.setTop (mkF m 31 _ [.int p3, .int 0, .ref b193])) _
    refine XS.sipush X193.here hx rfl (hb hby at_31) ?_
    show Steps _ _ _ (T193.setTop (mkF m 34 _ [.int 255, .int p3, .int 0, .ref b193])) _
    refine XS.iand X193.here hx rfl (hb hby at_34) rfl ?_
    show Steps _ _ _ (T193.setTop (mkF m 35 _ [.int (p3 &&& (255 : Int32)), .int 0, .ref b193])) _
    refine XS.i2c X193.here hx rfl (hb hby at_35) rfl ?_
    show Steps _ _ _ (T193.setTop (mkF m 36 _ [.int ((p3 &&& (255 : Int32)).toUInt32.toUInt16.toUInt32.toInt32), .int 0, .ref b193])) _
    refine st200 _ ?_
    show Steps p.tables e below (T200.setTop (mkF m 37 #[iv p1, .val (.long q2), .second, iv p3, iv p4, iv p5, iv nn, iv ((own_ushr p5 (1 : Int32)) &&& (3 : Int32)), rv b193, .unset, .unset, .unset, .unset, .unset] [])) _
    refine XS.aload X200.here hx rfl (hb hby at_37) rfl rfl ?_
    show Steps _ _ _ (T200.setTop (mkF m 39 _ [.ref b193])) _
    refine XS.iconst X200.here hx rfl (hb hby at_39) ?_
    show Steps _ _ _ (T200.setTop (mkF m 40 _ [.int 1, .ref b193])) _
    refine XS.iload X200.here hx rfl (hb hby at_40) rfl ?_
    show Steps _ _ _ (T200.setTop (mkF m 42 _ [.int p4, .int 1, .ref b193])) _
    refine XS.sipush X200.here hx rfl (hb hby at_42) ?_
    show Steps _ _ _ (T200.setTop (mkF m 45 _ [.int 255, .int p4, .int 1, .ref b193])) _
    refine XS.iand X200.here hx rfl (hb hby at_45) rfl ?_
    show Steps _ _ _ (T200.setTop (mkF m 46 _ [.int (p4 &&& (255 : Int32)), .int 1, .ref b193])) _
    refine XS.i2c X200.here hx rfl (hb hby at_46) rfl ?_
    show Steps _ _ _ (T200.setTop (mkF m 47 _ [.int ((p4 &&& (255 : Int32)).toUInt32.toUInt16.toUInt32.toInt32), .int 1, .ref b193])) _
    refine st207 _ ?_
    show Steps p.tables e below (T207.setTop (mkF m 48 #[iv p1, .val (.long q2), .second, iv p3, iv p4, iv p5, iv nn, iv ((own_ushr p5 (1 : Int32)) &&& (3 : Int32)), rv b193, .unset, .unset, .unset, .unset, .unset] [])) _
    refine XS.iconst X207.here hx rfl (hb hby at_48) ?_
    show Steps _ _ _ (T207.setTop (mkF m 49 _ [.int 0])) _
    refine st213 _ ?_
    show Steps p.tables e below (T213.setTop (mkF m 51 #[iv p1, .val (.long q2), .second, iv p3, iv p4, iv p5, iv nn, iv ((own_ushr p5 (1 : Int32)) &&& (3 : Int32)), rv b193, .unset, .unset, .unset, .unset, .unset] [.ref b213])) _
    refine XS.astore X213.here hx rfl (hb hby at_51) rfl rfl (l' := #[iv p1, .val (.long q2), .second, iv p3, iv p4, iv p5, iv nn, iv ((own_ushr p5 (1 : Int32)) &&& (3 : Int32)), rv b193, rv b213, .unset, .unset, .unset, .unset]) rfl ?_
    show Steps _ _ _ (T213.setTop (mkF m 53 _ [])) _
    refine XS.iload X213.here hx rfl (hb hby at_53) rfl ?_
    exact kk
  have hp0 := own_and255 p3
  have hp1 := own_and255 p4
  by_cases hN : nn = (0 : Int32)
  · have G220 : ∀ tq, Steps p.tables e below (T213.setTop (mkF m 64 #[iv p1, .val (.long q2), .second, iv p3, iv p4, iv p5, iv nn, iv ((own_ushr p5 (1 : Int32)) &&& (3 : Int32)), rv b193, rv b213, .unset, .unset, .unset, .unset] [])) tq → Steps p.tables e below (T213.setTop (mkF m 55 #[iv p1, .val (.long q2), .second, iv p3, iv p4, iv p5, iv nn, iv ((own_ushr p5 (1 : Int32)) &&& (3 : Int32)), rv b193, rv b213, .unset, .unset, .unset, .unset] [.int nn])) tq := by
      intro tq kk
      show Steps p.tables e below (T213.setTop (mkF m 55 #[iv p1, .val (.long q2), .second, iv p3, iv p4, iv p5, iv nn, iv ((own_ushr p5 (1 : Int32)) &&& (3 : Int32)), rv b193, rv b213, .unset, .unset, .unset, .unset] [.int nn])) _
      refine XS.ifYes X213.here hx rfl (pc0 := 55) (pc' := 64) rfl (hb hby at_55) rfl ((if0 _ _).trans (teq (hN : nn = (0 : Int32))).1) (by decide) (by decide) ?_
      exact kk
    have tail : ∀ (vm9 : Vm) (T9 : State) (h9 : Heap) (locs9 : List Loc) (k9 : Nat) (x9 : Addr) (cs : List Int32), Stand p l e room_1 (s.setVm vm9) m #[(.int p1), (.long q2), (.int p3), (.int p4), (.int p5)] below meth c T9 locs9 12 40 → T9.heap = h9 → Fr n0 locs9 → n0 ≤ h9.size → Old Z n0 h9 → s.Since vm9 k9 → k9 ≤ h9.size → Z.Warmed39 (s.setVm vm9).vm → (s.setVm vm9).vm.findClass "com/example/kalip/kalip/recordshop/api/ArtistDtoItemPinLaw" = some m.cls → CHr Z own_EL s.vm h0 vm9 h9 → StrB Z h9 h9.size x9 cs → ∃ s₂ o, Steps p.tables e below (T9.setTop (mkF m 112 #[iv p1, .val (.long q2), .second, iv p3, iv p4, iv p5, iv nn, iv ((own_ushr p5 (1 : Int32)) &&& (3 : Int32)), rv b193, rv b213, rv x9, .unset, .unset, .unset] [])) s₂ ∧ s₂.status = .running ∧ Ended s₂ below o ∧ (∃ v L, o = .returned v ∧ Q_law Z p1 q2 p3 p4 p5 G1 em h0 n0 v s₂.heap L ∧ CHr Z own_EL s.vm s.heap s₂.vm s₂.heap ∧ ReturnedEndW s o s₂ L 24 1152) := by
      intro vm9 T9 h9 locs9 k9 x9 cs X9 e9 N9 Z9 O9 hS9 hk9 hZ9 hown9 CR9 SB9
      obtain ⟨T221, h221, X221, e221, E221, A221, D221, -, st221⟩ := newO X9 hx hZ9 hown9 (W 1 rfl) (W 2 rfl) (W 3 rfl) e9 (g := (mkF m 112 #[iv p1, .val (.long q2), .second, iv p3, iv p4, iv p5, iv nn, iv ((own_ushr p5 (1 : Int32)) &&& (3 : Int32)), rv b193, rv b213, rv x9, .unset, .unset, .unset] [])) rfl (hb hby at_112) (by decide) (by decide)
      obtain ⟨b221, g221⟩ : ∃ z, z = h9.size := ⟨_, rfl⟩
      rw [← g221] at A221 D221 st221
      have g222 : n0 ≤ b221 := Nat.le_trans Z9 (Nat.le_of_eq g221.symm)
      have CR223 := CR9.trans (CHr.ext E221 CR9.1)
      have Z224 : n0 ≤ h221.size := Nat.le_trans Z9 E221.1
      have O225 : Old Z n0 h221 := O9.ext E221
      have hk226 := Nat.le_trans hk9 E221.1
      have F227 : Fld Z h221 b221 "com/example/kalip/kalip/recordshop/domain/Artist" "albums" "Ljava/util/List;" .null := D221 (Or.inl (W 17 rfl)) (ty := (.object "java/util/List")) (by decide)
      have F228 : Fld Z h221 b221 "com/example/kalip/kalip/recordshop/domain/Artist" "id" "I" (.int (0 : Int32)) := D221 (Or.inl (W 24 rfl)) (ty := .int) (by decide)
      have F229 : Fld Z h221 b221 "com/example/kalip/kalip/recordshop/domain/Artist" "version" "J" (.long (0 : Int64)) := D221 (Or.inl (W 31 rfl)) (ty := .long) (by decide)
      have F230 : Fld Z h221 b221 "com/example/kalip/kalip/recordshop/domain/Artist" "name" "Ljava/lang/String;" .null := D221 (Or.inl (W 38 rfl)) (ty := (.object "java/lang/String")) (by decide)
      obtain ⟨_, _, ⟨T231, L231, k231, n231⟩, -, X231, ⟨Lc231, hQ231, l231, y231, z231⟩, st231⟩ := X221.specialBack hx (y := (⟨"com/example/kalip/kalip/recordshop/domain/Artist", "<init>", "()V"⟩ : MethodName)) rfl hown9 (mvT hZ9 (W 4 rfl)) (mvT hZ9 (W 5 rfl)) (mvT hZ9 (W 6 rfl)) (by decide) (backOf (W := 1) (rm_ainit l Z a0 hw [] b221 em h221 n0 Z224 O225 A221 g222 F228 F229 F230 F227 OE) hZ9 (W 6 rfl) (W 3 rfl) (by decide) (by decide)) (g := (mkF m 116 #[iv p1, .val (.long q2), .second, iv p3, iv p4, iv p5, iv nn, iv ((own_ushr p5 (1 : Int32)) &&& (3 : Int32)), rv b193, rv b213, rv x9, .unset, .unset, .unset] [.ref b221, .ref b221])) rfl (by rw [hml]; rfl) (Steps.refl _) (a := b221) (argsL := []) (rest := [.ref b221]) (lenOf own_pd_0 rfl) rfl (by show 2 * 0 + _ ≤ _; exact Nat.le_of_eq rfl) (hb hby at_116) (fun _ _ => ⟨rfl, e221, (by decide : 13 + 0 ≤ _), (by decide : 44 + 0 ≤ _)⟩)
      dsimp only [Pt.U, Pt.locs, Pt.cells, Pt.slots] at X231 l231 y231 z231 st231 hQ231
      subst l231 y231 z231
      obtain ⟨rfl, Nq231, K231, gE231, gI231, gV231, gN231⟩ := hQ231
      have N231 := Fr.app N9 Nq231
      have f233 := (Safe.ext E221 CR9.1 (Safe.new (Nat.le_of_eq g221.symm)))
      have CR232 := CR223.trans (CHr.keep K231 (allS f233 all0) CR223.1)
      have Z234 : n0 ≤ T231.heap.size := Nat.le_trans Z224 K231.1
      have O235 : Old Z n0 T231.heap := O225.keep K231 (allS g222 all0)
      have hk236 := Nat.le_trans hk226 K231.1
      obtain ⟨cq237, kq237, q237a, q237b, q237c⟩ := isOf hZ9 rfl gE231
      obtain ⟨_, _, ⟨T237, L237, k237, n237⟩, -, X237, ⟨Lc237, hQ237, l237, y237, z237⟩, st237⟩ := X231.virtualBack hx (y := (⟨"com/example/kalip/kalip/recordshop/domain/Artist", "setId", "(I)V"⟩ : MethodName)) (z := (⟨"com/example/kalip/kalip/recordshop/domain/Artist", "setId", "(I)V"⟩ : MethodName)) hown9 (mvT hZ9 (W 18 rfl)) (mvT hZ9 (W 19 rfl)) (notFace_of_selects (args := #[]) (mvT hZ9 (W 21 rfl))) (mvT hZ9 (W 21 rfl)) (mvT hZ9 (W 20 rfl)) (by decide) (backOf (W := 0) (rm_setid l Z a0 hw [] b221 p1 T231.heap n0 Z234 gE231 g222 gI231 gV231 gN231) hZ9 (W 22 rfl) (W 3 rfl) (by decide) (by decide)) q237a q237c (g := (mkF m 124 #[iv p1, .val (.long q2), .second, iv p3, iv p4, iv p5, iv nn, iv ((own_ushr p5 (1 : Int32)) &&& (3 : Int32)), rv b193, rv b213, rv x9, rv b221, .unset, .unset] [.int p1, .ref b221])) rfl (by rw [hml]; rfl) (Steps.refl _) (argsL := [.int p1]) (rest := []) (lenOf own_pd_2 rfl) rfl (by show 2 * 0 + _ ≤ _; exact Nat.le_of_eq rfl) (hb hby at_124) (fun _ _ => ⟨rfl, rfl, (by decide : 13 + 0 ≤ _), (by decide : 44 + 0 ≤ _)⟩)
      dsimp only [Pt.U, Pt.locs, Pt.cells, Pt.slots] at X237 l237 y237 z237 st237 hQ237
      subst l237 y237 z237
      obtain ⟨rfl, Nq237, K237, gE237, gI237, gV237, gN237⟩ := hQ237
      have N237 := Fr.app N231 Nq237
      have f239 := ((CHr.keep K231 (allS f233 all0) CR223.1).safe A221.lt f233)
      have CR238 := CR232.trans (CHr.keep K237 (allS f239 all0) CR232.1)
      have Z240 : n0 ≤ T237.heap.size := Nat.le_trans Z234 K237.1
      have O241 : Old Z n0 T237.heap := O235.keep K237 (allS g222 all0)
      have hk242 := Nat.le_trans hk236 K237.1
      obtain ⟨cq243, kq243, q243a, q243b, q243c⟩ := isOf hZ9 rfl gE237
      obtain ⟨_, _, ⟨T243, L243, k243, n243⟩, -, X243, ⟨Lc243, hQ243, l243, y243, z243⟩, st243⟩ := X237.virtualBack hx (y := (⟨"com/example/kalip/kalip/recordshop/domain/Artist", "setVersion", "(J)V"⟩ : MethodName)) (z := (⟨"com/example/kalip/kalip/recordshop/domain/Artist", "setVersion", "(J)V"⟩ : MethodName)) hown9 (mvT hZ9 (W 25 rfl)) (mvT hZ9 (W 26 rfl)) (notFace_of_selects (args := #[]) (mvT hZ9 (W 28 rfl))) (mvT hZ9 (W 28 rfl)) (mvT hZ9 (W 27 rfl)) (by decide) (backOf (W := 0) (rm_setver l Z a0 hw [] b221 p1 q2 T237.heap n0 Z240 gE237 g222 gI237 gV237 gN237) hZ9 (W 29 rfl) (W 3 rfl) (by decide) (by decide)) q243a q243c (g := (mkF m 130 #[iv p1, .val (.long q2), .second, iv p3, iv p4, iv p5, iv nn, iv ((own_ushr p5 (1 : Int32)) &&& (3 : Int32)), rv b193, rv b213, rv x9, rv b221, .unset, .unset] [.long q2, .ref b221])) rfl (by rw [hml]; rfl) (Steps.refl _) (argsL := [.long q2]) (rest := []) (lenOf own_pd_3 rfl) rfl (by show 2 * 0 + _ ≤ _; exact Nat.le_of_eq rfl) (hb hby at_130) (fun _ _ => ⟨rfl, rfl, (by decide : 13 + 0 ≤ _), (by decide : 44 + 0 ≤ _)⟩)
      dsimp only [Pt.U, Pt.locs, Pt.cells, Pt.slots] at X243 l243 y243 z243 st243 hQ243
      subst l243 y243 z243
      obtain ⟨rfl, Nq243, K243, gE243, gI243, gV243, gN243⟩ := hQ243
      have N243 := Fr.app N237 Nq243
      have f245 := (Nat.lt_of_lt_of_le A221.lt K231.1)
      have f246 := ((CHr.keep K237 (allS f239 all0) CR232.1).safe f245 f239)
      have CR244 := CR238.trans (CHr.keep K243 (allS f246 all0) CR238.1)
      have Z247 : n0 ≤ T243.heap.size := Nat.le_trans Z240 K243.1
      have O248 : Old Z n0 T243.heap := O241.keep K243 (allS g222 all0)
      have hk249 := Nat.le_trans hk242 K243.1
      obtain ⟨cq250, kq250, q250a, q250b, q250c⟩ := isOf hZ9 rfl gE243
      obtain ⟨_, _, ⟨T250, L250, k250, n250⟩, -, X250, ⟨Lc250, hQ250, l250, y250, z250⟩, st250⟩ := X243.virtualBack hx (y := (⟨"com/example/kalip/kalip/recordshop/domain/Artist", "setName", "(Ljava/lang/String;)V"⟩ : MethodName)) (z := (⟨"com/example/kalip/kalip/recordshop/domain/Artist", "setName", "(Ljava/lang/String;)V"⟩ : MethodName)) hown9 (mvT hZ9 (W 32 rfl)) (mvT hZ9 (W 33 rfl)) (notFace_of_selects (args := #[]) (mvT hZ9 (W 35 rfl))) (mvT hZ9 (W 35 rfl)) (mvT hZ9 (W 34 rfl)) (by decide) (backOf (W := 0) (rm_setnmR l Z a0 hw [] b221 p1 q2 x9 T243.heap n0 Z247 gE243 g222 gI243 gV243 gN243) hZ9 (W 36 rfl) (W 3 rfl) (by decide) (by decide)) q250a q250c (g := (mkF m 137 #[iv p1, .val (.long q2), .second, iv p3, iv p4, iv p5, iv nn, iv ((own_ushr p5 (1 : Int32)) &&& (3 : Int32)), rv b193, rv b213, rv x9, rv b221, .unset, .unset] [.ref x9, .ref b221])) rfl (by rw [hml]; rfl) (Steps.refl _) (argsL := [.ref x9]) (rest := []) (lenOf own_pd_4 rfl) rfl (by show 2 * 0 + _ ≤ _; exact Nat.le_of_eq rfl) (hb hby at_137) (fun _ _ => ⟨rfl, rfl, (by decide : 13 + 0 ≤ _), (by decide : 44 + 0 ≤ _)⟩)
      dsimp only [Pt.U, Pt.locs, Pt.cells, Pt.slots] at X250 l250 y250 z250 st250 hQ250
      subst l250 y250 z250
      obtain ⟨rfl, Nq250, K250, gE250, gI250, gV250, gN250⟩ := hQ250
      have N250 := Fr.app N243 Nq250
      have f252 := (Nat.lt_of_lt_of_le f245 K237.1)
      have f253 := ((CHr.keep K243 (allS f246 all0) CR238.1).safe f252 f246)
      have CR251 := CR244.trans (CHr.keep K250 (allS f253 all0) CR244.1)
      have Z254 : n0 ≤ T250.heap.size := Nat.le_trans Z247 K250.1
      have O255 : Old Z n0 T250.heap := O248.keep K250 (allS g222 all0)
      have hk256 := Nat.le_trans hk249 K250.1
      have G257 : ∀ tq, Steps p.tables e below (T250.setTop (mkF m 140 #[iv p1, .val (.long q2), .second, iv p3, iv p4, iv p5, iv nn, iv ((own_ushr p5 (1 : Int32)) &&& (3 : Int32)), rv b193, rv b213, rv x9, rv b221, .unset, .unset] [])) tq → Steps p.tables e below (T9.setTop (mkF m 112 #[iv p1, .val (.long q2), .second, iv p3, iv p4, iv p5, iv nn, iv ((own_ushr p5 (1 : Int32)) &&& (3 : Int32)), rv b193, rv b213, rv x9, .unset, .unset, .unset] [])) tq := by
        intro tq kk
        show Steps p.tables e below (T9.setTop (mkF m 112 #[iv p1, .val (.long q2), .second, iv p3, iv p4, iv p5, iv nn, iv ((own_ushr p5 (1 : Int32)) &&& (3 : Int32)), rv b193, rv b213, rv x9, .unset, .unset, .unset] [])) _
        refine st221 _ ?_
        show Steps p.tables e below (T221.setTop (mkF m 115 #[iv p1, .val (.long q2), .second, iv p3, iv p4, iv p5, iv nn, iv ((own_ushr p5 (1 : Int32)) &&& (3 : Int32)), rv b193, rv b213, rv x9, .unset, .unset, .unset] [.ref b221])) _
        refine XS.dup X221.here hx rfl (hb hby at_115) rfl rfl ?_
        show Steps _ _ _ (T221.setTop (mkF m 116 _ [.ref b221, .ref b221])) _
        refine st231.trans ?_
        show Steps p.tables e below (T231.setTop (mkF m 119 #[iv p1, .val (.long q2), .second, iv p3, iv p4, iv p5, iv nn, iv ((own_ushr p5 (1 : Int32)) &&& (3 : Int32)), rv b193, rv b213, rv x9, .unset, .unset, .unset] [.ref b221])) _
        refine XS.astore X231.here hx rfl (hb hby at_119) rfl rfl (l' := #[iv p1, .val (.long q2), .second, iv p3, iv p4, iv p5, iv nn, iv ((own_ushr p5 (1 : Int32)) &&& (3 : Int32)), rv b193, rv b213, rv x9, rv b221, .unset, .unset]) rfl ?_
        show Steps _ _ _ (T231.setTop (mkF m 121 _ [])) _
        refine XS.aload X231.here hx rfl (hb hby at_121) rfl rfl ?_
        show Steps _ _ _ (T231.setTop (mkF m 123 _ [.ref b221])) _
        refine XS.iloadN X231.here hx rfl (hb hby at_123) rfl ?_
        show Steps _ _ _ (T231.setTop (mkF m 124 _ [.int p1, .ref b221])) _
        refine st237.trans ?_
        show Steps p.tables e below (T237.setTop (mkF m 127 #[iv p1, .val (.long q2), .second, iv p3, iv p4, iv p5, iv nn, iv ((own_ushr p5 (1 : Int32)) &&& (3 : Int32)), rv b193, rv b213, rv x9, rv b221, .unset, .unset] [])) _
        refine XS.aload X237.here hx rfl (hb hby at_127) rfl rfl ?_
        show Steps _ _ _ (T237.setTop (mkF m 129 _ [.ref b221])) _
        refine XS.lloadN X237.here hx rfl (hb hby at_129) rfl ?_
        show Steps _ _ _ (T237.setTop (mkF m 130 _ [.long q2, .ref b221])) _
        refine st243.trans ?_
        show Steps p.tables e below (T243.setTop (mkF m 133 #[iv p1, .val (.long q2), .second, iv p3, iv p4, iv p5, iv nn, iv ((own_ushr p5 (1 : Int32)) &&& (3 : Int32)), rv b193, rv b213, rv x9, rv b221, .unset, .unset] [])) _
        refine XS.aload X243.here hx rfl (hb hby at_133) rfl rfl ?_
        show Steps _ _ _ (T243.setTop (mkF m 135 _ [.ref b221])) _
        refine XS.aload X243.here hx rfl (hb hby at_135) rfl rfl ?_
        show Steps _ _ _ (T243.setTop (mkF m 137 _ [.ref x9, .ref b221])) _
        refine st250.trans ?_
        exact kk
      obtain ⟨_, _, ⟨T258, L258, k258, n258⟩, -, X258, ⟨Lc258, hQ258, l258, y258, z258⟩, st258⟩ := Jvm.LawKit.callS X250 hx (y := (⟨"com/example/kalip/kalip/recordshop/api/ArtistDto", "item", "(Lcom/example/kalip/kalip/recordshop/domain/Artist;)Lcom/example/kalip/kalip/recordshop/api/ArtistDto$Item;"⟩ : MethodName)) hown9 (mvT hZ9 (W 39 rfl)) (mvT hZ9 (W 40 rfl)) (mvT hZ9 (W 41 rfl)) (mvT hZ9 (W 42 rfl)) (by decide) (backOf (W := 0) (rm_itemR l Z a0 hw [] b221 p1 x9 T250.heap n0 Z254 gE250 gI250 gN250) hZ9 (W 42 rfl) (W 41 rfl) (by decide) (by decide)) (g := (mkF m 142 #[iv p1, .val (.long q2), .second, iv p3, iv p4, iv p5, iv nn, iv ((own_ushr p5 (1 : Int32)) &&& (3 : Int32)), rv b193, rv b213, rv x9, rv b221, .unset, .unset] [.ref b221])) rfl (by rw [hml]; rfl) (argsL := [.ref b221]) (rest := []) (lenOf own_pd_5 rfl) rfl (by show 2 * 0 + _ ≤ _; exact Nat.le_of_eq rfl) (hb hby at_142) (fun _ _ => ⟨rfl, rfl, (by decide : 13 + 1 ≤ _), (by decide : 44 + 2 ≤ _)⟩)
      dsimp only [Pt.U, Pt.locs, Pt.cells, Pt.slots] at X258 l258 y258 z258 st258 hQ258
      subst l258 y258 z258
      obtain ⟨b258, hv258, Nq258, K258, sb258, gE258, gI258, gN258⟩ := hQ258
      subst hv258
      have N258 := Fr.app N250 Nq258
      have g259 : n0 ≤ b258 := Nat.le_trans Z254 sb258
      have CR260 := CR251.trans (CHr.keep K258 all0 CR251.1)
      have Z261 : n0 ≤ T258.heap.size := Nat.le_trans Z254 K258.1
      have O262 : Old Z n0 T258.heap := O255.keep K258 all0
      have hk263 := Nat.le_trans hk256 K258.1
      obtain ⟨cq264, kq264, q264a, q264b, q264c⟩ := isOf hZ9 rfl gE258
      obtain ⟨_, _, ⟨T264, L264, k264, n264⟩, -, X264, ⟨Lc264, hQ264, l264, y264, z264⟩, st264⟩ := X258.virtualBack hx (y := (⟨"com/example/kalip/kalip/recordshop/api/ArtistDto$Item", "id", "()I"⟩ : MethodName)) (z := (⟨"com/example/kalip/kalip/recordshop/api/ArtistDto$Item", "id", "()I"⟩ : MethodName)) hown9 (mvT hZ9 (W 69 rfl)) (mvT hZ9 (W 70 rfl)) (notFace_of_selects (args := #[]) (mvT hZ9 (W 72 rfl))) (mvT hZ9 (W 72 rfl)) (mvT hZ9 (W 71 rfl)) (by decide) (backOf (W := 0) (rm_itid l Z a0 hw [] b258 p1 T258.heap n0 Z261 gI258) hZ9 (W 73 rfl) (W 45 rfl) (by decide) (by decide)) q264a q264c (g := (mkF m 156 #[iv p1, .val (.long q2), .second, iv p3, iv p4, iv p5, iv nn, iv ((own_ushr p5 (1 : Int32)) &&& (3 : Int32)), rv b193, rv b213, rv x9, rv b221, rv b258, .unset] [.ref b258])) rfl (by rw [hml]; rfl) (Steps.refl _) (argsL := []) (rest := []) (lenOf own_pd_6 rfl) rfl (by show 2 * 0 + _ ≤ _; exact Nat.le_of_eq rfl) (hb hby at_156) (fun _ _ => ⟨rfl, rfl, (by decide : 14 + 0 ≤ _), (by decide : 46 + 0 ≤ _)⟩)
      dsimp only [Pt.U, Pt.locs, Pt.cells, Pt.slots] at X264 l264 y264 z264 st264 hQ264
      subst l264 y264 z264
      obtain ⟨rfl, Nq264, e264⟩ := hQ264
      have N264 := Fr.app N258 Nq264
      have f265 := (gI250.keep K258 nin0)
      have f267 := (gE250.keep K258)
      obtain ⟨cq266, kq266, q266a, q266b, q266c⟩ := isOf hZ9 e264 f267
      obtain ⟨_, _, ⟨T266, L266, k266, n266⟩, -, X266, ⟨Lc266, hQ266, l266, y266, z266⟩, st266⟩ := X264.virtualBack hx (y := (⟨"com/example/kalip/kalip/recordshop/domain/Artist", "getId", "()I"⟩ : MethodName)) (z := (⟨"com/example/kalip/kalip/recordshop/domain/Artist", "getId", "()I"⟩ : MethodName)) hown9 (mvT hZ9 (W 74 rfl)) (mvT hZ9 (W 47 rfl)) (notFace_of_selects (args := #[]) (mvT hZ9 (W 49 rfl))) (mvT hZ9 (W 49 rfl)) (mvT hZ9 (W 48 rfl)) (by decide) (backOf (W := 0) (rm_getid l Z a0 hw [] b221 p1 T258.heap n0 Z261 f265) hZ9 (W 50 rfl) (W 3 rfl) (by decide) (by decide)) q266a q266c (g := (mkF m 167 #[iv p1, .val (.long q2), .second, iv p3, iv p4, iv p5, iv nn, iv ((own_ushr p5 (1 : Int32)) &&& (3 : Int32)), rv b193, rv b213, rv x9, rv b221, rv b258, .unset] [.ref b221])) rfl (by rw [hml]; rfl) (Steps.refl _) (argsL := []) (rest := []) (lenOf own_pd_6 rfl) rfl (by show 2 * 0 + _ ≤ _; exact Nat.le_of_eq rfl) (hb hby at_167) (fun _ _ => ⟨rfl, e264, (by decide : 14 + 0 ≤ _), (by decide : 46 + 0 ≤ _)⟩)
      dsimp only [Pt.U, Pt.locs, Pt.cells, Pt.slots] at X266 l266 y266 z266 st266 hQ266
      subst l266 y266 z266
      obtain ⟨rfl, Nq266, e266⟩ := hQ266
      have N266 := Fr.app N264 Nq266
      have f268 := (gN250.keep K258 nin0)
      obtain ⟨cq269, kq269, q269a, q269b, q269c⟩ := isOf hZ9 e266 f267
      obtain ⟨_, _, ⟨T269, L269, k269, n269⟩, -, X269, ⟨Lc269, hQ269, l269, y269, z269⟩, st269⟩ := X266.virtualBack hx (y := (⟨"com/example/kalip/kalip/recordshop/domain/Artist", "getName", "()Ljava/lang/String;"⟩ : MethodName)) (z := (⟨"com/example/kalip/kalip/recordshop/domain/Artist", "getName", "()Ljava/lang/String;"⟩ : MethodName)) hown9 (mvT hZ9 (W 75 rfl)) (mvT hZ9 (W 52 rfl)) (notFace_of_selects (args := #[]) (mvT hZ9 (W 54 rfl))) (mvT hZ9 (W 54 rfl)) (mvT hZ9 (W 53 rfl)) (by decide) (backOf (W := 0) (rm_getnmR l Z a0 hw [] b221 x9 T258.heap n0 Z261 f268) hZ9 (W 55 rfl) (W 3 rfl) (by decide) (by decide)) q269a q269c (g := (mkF m 176 #[iv p1, .val (.long q2), .second, iv p3, iv p4, iv p5, iv nn, iv ((own_ushr p5 (1 : Int32)) &&& (3 : Int32)), rv b193, rv b213, rv x9, rv b221, rv b258, .unset] [.ref b221])) rfl (by rw [hml]; rfl) (Steps.refl _) (argsL := []) (rest := []) (lenOf own_pd_7 rfl) rfl (by show 2 * 0 + _ ≤ _; exact Nat.le_of_eq rfl) (hb hby at_176) (fun _ _ => ⟨rfl, e266, (by decide : 14 + 0 ≤ _), (by decide : 46 + 0 ≤ _)⟩)
      dsimp only [Pt.U, Pt.locs, Pt.cells, Pt.slots] at X269 l269 y269 z269 st269 hQ269
      subst l269 y269 z269
      obtain ⟨rfl, Nq269, e269⟩ := hQ269
      have N269 := Fr.app N266 Nq269
      obtain ⟨cq270, kq270, q270a, q270b, q270c⟩ := isOf hZ9 e269 gE258
      obtain ⟨_, _, ⟨T270, L270, k270, n270⟩, -, X270, ⟨Lc270, hQ270, l270, y270, z270⟩, st270⟩ := X269.virtualBack hx (y := (⟨"com/example/kalip/kalip/recordshop/api/ArtistDto$Item", "name", "()Ljava/lang/String;"⟩ : MethodName)) (z := (⟨"com/example/kalip/kalip/recordshop/api/ArtistDto$Item", "name", "()Ljava/lang/String;"⟩ : MethodName)) hown9 (mvT hZ9 (W 76 rfl)) (mvT hZ9 (W 77 rfl)) (notFace_of_selects (args := #[]) (mvT hZ9 (W 79 rfl))) (mvT hZ9 (W 79 rfl)) (mvT hZ9 (W 78 rfl)) (by decide) (backOf (W := 0) (rm_itnmR l Z a0 hw [] b258 x9 T258.heap n0 Z261 gN258) hZ9 (W 80 rfl) (W 45 rfl) (by decide) (by decide)) q270a q270c (g := (mkF m 188 #[iv p1, .val (.long q2), .second, iv p3, iv p4, iv p5, iv nn, iv ((own_ushr p5 (1 : Int32)) &&& (3 : Int32)), rv b193, rv b213, rv x9, rv b221, rv b258, .unset] [.ref b258])) rfl (by rw [hml]; rfl) (Steps.refl _) (argsL := []) (rest := []) (lenOf own_pd_7 rfl) rfl (by show 2 * 0 + _ ≤ _; exact Nat.le_of_eq rfl) (hb hby at_188) (fun _ _ => ⟨rfl, e269, (by decide : 14 + 0 ≤ _), (by decide : 46 + 0 ≤ _)⟩)
      dsimp only [Pt.U, Pt.locs, Pt.cells, Pt.slots] at X270 l270 y270 z270 st270 hQ270
      subst l270 y270 z270
      obtain ⟨rfl, Nq270, e270⟩ := hQ270
      have N270 := Fr.app N269 Nq270
      have f271 := ((((((SB9.ext E221).keep K231 (allS (Nat.le_of_eq g221.symm) all0)).keep K237 (allS (Nat.le_of_eq g221.symm) all0)).keep K243 (allS (Nat.le_of_eq g221.symm) all0)).keep K250 (allS (Nat.le_of_eq g221.symm) all0)).keep K258 all0)
      obtain ⟨cq272, kq272, q272a, q272b, q272c⟩ := isOf hZ9 e270 f271.exa
      obtain ⟨_, _, ⟨T272, L272, k272, n272⟩, -, X272, ⟨Lc272, hQ272, l272, y272, z272⟩, st272⟩ := X270.virtualBack hx (y := (⟨"java/lang/String", "length", "()I"⟩ : MethodName)) (z := (⟨"java/lang/String", "length", "()I"⟩ : MethodName)) hown9 (mvT hZ9 (W 105 rfl)) (mvT hZ9 (W 106 rfl)) (notFace_of_selects (args := #[]) (mvT hZ9 (W 108 rfl))) (mvT hZ9 (W 108 rfl)) (mvT hZ9 (W 107 rfl)) (by decide) (own_lenS (W := 0) hZ9 hln (kI := 4) (W 91 rfl) f271 (O2.ext O262.2) P5 (by decide) (by decide)) q272a q272c (g := (mkF m 218 #[iv p1, .val (.long q2), .second, iv p3, iv p4, iv p5, iv nn, iv ((own_ushr p5 (1 : Int32)) &&& (3 : Int32)), rv b193, rv b213, rv x9, rv b221, rv b258, rv x9] [.ref x9])) rfl (by rw [hml]; rfl) (Steps.refl _) (argsL := []) (rest := []) (lenOf own_pd_6 rfl) rfl (by show 2 * 0 + _ ≤ _; exact Nat.le_of_eq rfl) (hb hby at_218) (fun _ _ => ⟨rfl, e270, (by decide : 14 + 0 ≤ _), (by decide : 46 + 0 ≤ _)⟩)
      dsimp only [Pt.U, Pt.locs, Pt.cells, Pt.slots] at X272 l272 y272 z272 st272 hQ272
      subst l272 y272 z272
      obtain ⟨rfl, rfl, e272⟩ := hQ272
      have N272 := Fr.app N270 (Fr.nil n0)
      obtain ⟨cq273, kq273, q273a, q273b, q273c⟩ := isOf hZ9 e272 f271.exa
      obtain ⟨_, _, ⟨T273, L273, k273, n273⟩, -, X273, ⟨Lc273, hQ273, l273, y273, z273⟩, st273⟩ := X272.virtualBack hx (y := (⟨"java/lang/String", "length", "()I"⟩ : MethodName)) (z := (⟨"java/lang/String", "length", "()I"⟩ : MethodName)) hown9 (mvT hZ9 (W 105 rfl)) (mvT hZ9 (W 106 rfl)) (notFace_of_selects (args := #[]) (mvT hZ9 (W 108 rfl))) (mvT hZ9 (W 108 rfl)) (mvT hZ9 (W 107 rfl)) (by decide) (own_lenS (W := 1) hZ9 hln (kI := 4) (W 91 rfl) f271 (O2.ext O262.2) P5 (by decide) (by decide)) q273a q273c (g := (mkF m 223 #[iv p1, .val (.long q2), .second, iv p3, iv p4, iv p5, iv nn, iv ((own_ushr p5 (1 : Int32)) &&& (3 : Int32)), rv b193, rv b213, rv x9, rv b221, rv b258, rv x9] [.ref x9, .int (Int32.ofNat cs.length)])) rfl (by rw [hml]; rfl) (Steps.refl _) (argsL := []) (rest := [.int (Int32.ofNat cs.length)]) (lenOf own_pd_6 rfl) rfl (by show 2 * 0 + _ ≤ _; exact Nat.le_of_eq rfl) (hb hby at_223) (fun _ _ => ⟨rfl, e272, (by decide : 14 + 0 ≤ _), (by decide : 46 + 0 ≤ _)⟩)
      dsimp only [Pt.U, Pt.locs, Pt.cells, Pt.slots] at X273 l273 y273 z273 st273 hQ273
      subst l273 y273 z273
      obtain ⟨rfl, rfl, e273⟩ := hQ273
      have N273 := Fr.app N272 (Fr.nil n0)
      obtain ⟨cq274, kq274, q274a, q274b, q274c⟩ := isOf hZ9 e273 f271.exa
      obtain ⟨_, _, ⟨T274, L274, k274, n274⟩, -, X274, ⟨Lc274, hQ274, l274, y274, z274⟩, st274⟩ := X273.virtualBack hx (y := (⟨"java/lang/String", "equals", "(Ljava/lang/Object;)Z"⟩ : MethodName)) (z := (⟨"java/lang/String", "equals", "(Ljava/lang/Object;)Z"⟩ : MethodName)) hown9 (mvT hZ9 (W 115 rfl)) (mvT hZ9 (W 116 rfl)) (notFace_of_selects (args := #[]) (mvT hZ9 (W 118 rfl))) (mvT hZ9 (W 118 rfl)) (mvT hZ9 (W 117 rfl)) (by decide) (backOf (W := 0) (rm_eqs l Z a0 hw [] x9 T258.heap n0 Z261 ) hZ9 (W 119 rfl) (W 83 rfl) (by decide) (by decide)) q274a q274c (g := (mkF m 233 #[iv p1, .val (.long q2), .second, iv p3, iv p4, iv p5, iv nn, iv ((own_ushr p5 (1 : Int32)) &&& (3 : Int32)), rv b193, rv b213, rv x9, rv b221, rv b258, rv x9] [.ref x9, .ref x9])) rfl (by rw [hml]; rfl) (Steps.refl _) (argsL := [.ref x9]) (rest := []) (lenOf own_pd_14 rfl) rfl (by show 2 * 0 + _ ≤ _; exact Nat.le_of_eq rfl) (hb hby at_233) (fun _ _ => ⟨rfl, e273, (by decide : 14 + 0 ≤ _), (by decide : 46 + 0 ≤ _)⟩)
      dsimp only [Pt.U, Pt.locs, Pt.cells, Pt.slots] at X274 l274 y274 z274 st274 hQ274
      subst l274 y274 z274
      obtain ⟨rfl, Nq274, e274⟩ := hQ274
      have N274 := Fr.app N273 Nq274
      have CRe := CR260.trans (CHv.at X274 hZ9 hEL CR260.1)
      obtain ⟨fs, hr, hrun, hended, hRW⟩ := X274.leaveW hS9 (by rw [e274]; exact hk263) (v := some (.int (1 : Int32))) (fun h => by rw [Bd.returns] at h; cases h)
      refine ⟨_, _, G257 _ (?_), hrun, hended, _, _, rfl, ?_, (by rw [hh]; show CHr Z _ s.vm h0 T274.vm T274.heap; rw [e274]; exact CRe), hRW.1, hRW.2.1, hRW.2.2.1, hRW.2.2.2.mono (by decide) (by decide)⟩
      · show Steps p.tables e below (T250.setTop (mkF m 140 #[iv p1, .val (.long q2), .second, iv p3, iv p4, iv p5, iv nn, iv ((own_ushr p5 (1 : Int32)) &&& (3 : Int32)), rv b193, rv b213, rv x9, rv b221, .unset, .unset] [])) _
        refine XS.aload X250.here hx rfl (hb hby at_140) rfl rfl ?_
        show Steps _ _ _ (T250.setTop (mkF m 142 _ [.ref b221])) _
        refine st258 _ ?_
        show Steps p.tables e below (T258.setTop (mkF m 145 #[iv p1, .val (.long q2), .second, iv p3, iv p4, iv p5, iv nn, iv ((own_ushr p5 (1 : Int32)) &&& (3 : Int32)), rv b193, rv b213, rv x9, rv b221, .unset, .unset] [.ref b258])) _
        refine XS.astore X258.here hx rfl (hb hby at_145) rfl rfl (l' := #[iv p1, .val (.long q2), .second, iv p3, iv p4, iv p5, iv nn, iv ((own_ushr p5 (1 : Int32)) &&& (3 : Int32)), rv b193, rv b213, rv x9, rv b221, rv b258, .unset]) rfl ?_
        show Steps _ _ _ (T258.setTop (mkF m 147 _ [])) _
        refine XS.aload X258.here hx rfl (hb hby at_147) rfl rfl ?_
        show Steps _ _ _ (T258.setTop (mkF m 149 _ [.ref b258])) _
        refine XS.ifnonnullYes X258.here hx rfl (pc0 := 149) (pc' := 154) rfl (hb hby at_149) rfl (by decide) (by decide) ?_
        show Steps _ _ _ (T258.setTop (mkF m 154 _ [])) _
        refine XS.aload X258.here hx rfl (hb hby at_154) rfl rfl ?_
        show Steps _ _ _ (T258.setTop (mkF m 156 _ [.ref b258])) _
        refine st264.trans ?_
        show Steps p.tables e below (T264.setTop (mkF m 159 #[iv p1, .val (.long q2), .second, iv p3, iv p4, iv p5, iv nn, iv ((own_ushr p5 (1 : Int32)) &&& (3 : Int32)), rv b193, rv b213, rv x9, rv b221, rv b258, .unset] [.int p1])) _
        refine XS.iloadN X264.here hx rfl (hb hby at_159) rfl ?_
        show Steps _ _ _ (T264.setTop (mkF m 160 _ [.int p1, .int p1])) _
        refine XS.icmpYes X264.here hx rfl (pc0 := 160) (pc' := 165) rfl (hb hby at_160) rfl (teq (rfl : p1 = p1)).1 (by decide) (by decide) ?_
        show Steps _ _ _ (T264.setTop (mkF m 165 _ [])) _
        refine XS.aload X264.here hx rfl (hb hby at_165) rfl rfl ?_
        show Steps _ _ _ (T264.setTop (mkF m 167 _ [.ref b221])) _
        refine st266.trans ?_
        show Steps p.tables e below (T266.setTop (mkF m 170 #[iv p1, .val (.long q2), .second, iv p3, iv p4, iv p5, iv nn, iv ((own_ushr p5 (1 : Int32)) &&& (3 : Int32)), rv b193, rv b213, rv x9, rv b221, rv b258, .unset] [.int p1])) _
        refine XS.iloadN X266.here hx rfl (hb hby at_170) rfl ?_
        show Steps _ _ _ (T266.setTop (mkF m 171 _ [.int p1, .int p1])) _
        refine XS.icmpNo X266.here hx rfl (hb hby at_171) rfl (teq (rfl : p1 = p1)).2 ?_
        show Steps _ _ _ (T266.setTop (mkF m 174 _ [])) _
        refine XS.aload X266.here hx rfl (hb hby at_174) rfl rfl ?_
        show Steps _ _ _ (T266.setTop (mkF m 176 _ [.ref b221])) _
        refine st269.trans ?_
        show Steps p.tables e below (T269.setTop (mkF m 179 #[iv p1, .val (.long q2), .second, iv p3, iv p4, iv p5, iv nn, iv ((own_ushr p5 (1 : Int32)) &&& (3 : Int32)), rv b193, rv b213, rv x9, rv b221, rv b258, .unset] [.ref x9])) _
        refine XS.aload X269.here hx rfl (hb hby at_179) rfl rfl ?_
        show Steps _ _ _ (T269.setTop (mkF m 181 _ [.ref x9, .ref x9])) _
        refine Jvm.RoadKit.acmp (g := (mkF m 181 #[iv p1, .val (.long q2), .second, iv p3, iv p4, iv p5, iv nn, iv ((own_ushr p5 (1 : Int32)) &&& (3 : Int32)), rv b193, rv b213, rv x9, rv b221, rv b258, .unset] [.ref x9, .ref x9])) X269 hx rfl rfl rfl (pc0 := 181) (pc' := 186) (same := true) rfl (hb hby at_181) rfl (decide_eq_true rfl) (by decide) (by decide) ?_
        show Steps p.tables e below (T269.setTop (mkF m 186 #[iv p1, .val (.long q2), .second, iv p3, iv p4, iv p5, iv nn, iv ((own_ushr p5 (1 : Int32)) &&& (3 : Int32)), rv b193, rv b213, rv x9, rv b221, rv b258, .unset] [])) _
        refine XS.aload X269.here hx rfl (hb hby at_186) rfl rfl ?_
        show Steps _ _ _ (T269.setTop (mkF m 188 _ [.ref b258])) _
        refine st270.trans ?_
        show Steps p.tables e below (T270.setTop (mkF m 191 #[iv p1, .val (.long q2), .second, iv p3, iv p4, iv p5, iv nn, iv ((own_ushr p5 (1 : Int32)) &&& (3 : Int32)), rv b193, rv b213, rv x9, rv b221, rv b258, .unset] [.ref x9])) _
        refine XS.astore X270.here hx rfl (hb hby at_191) rfl rfl (l' := #[iv p1, .val (.long q2), .second, iv p3, iv p4, iv p5, iv nn, iv ((own_ushr p5 (1 : Int32)) &&& (3 : Int32)), rv b193, rv b213, rv x9, rv b221, rv b258, rv x9]) rfl ?_
        show Steps _ _ _ (T270.setTop (mkF m 193 _ [])) _
        refine XS.aload X270.here hx rfl (hb hby at_193) rfl rfl ?_
        show Steps _ _ _ (T270.setTop (mkF m 195 _ [.ref x9])) _
        refine XS.ifnonnullYes X270.here hx rfl (pc0 := 195) (pc' := 209) rfl (hb hby at_195) rfl (by decide) (by decide) ?_
        show Steps _ _ _ (T270.setTop (mkF m 209 _ [])) _
        refine XS.aload X270.here hx rfl (hb hby at_209) rfl rfl ?_
        show Steps _ _ _ (T270.setTop (mkF m 211 _ [.ref x9])) _
        refine XS.ifnonnullYes X270.here hx rfl (pc0 := 211) (pc' := 216) rfl (hb hby at_211) rfl (by decide) (by decide) ?_
        show Steps _ _ _ (T270.setTop (mkF m 216 _ [])) _
        refine XS.aload X270.here hx rfl (hb hby at_216) rfl rfl ?_
        show Steps _ _ _ (T270.setTop (mkF m 218 _ [.ref x9])) _
        refine st272.trans ?_
        show Steps p.tables e below (T272.setTop (mkF m 221 #[iv p1, .val (.long q2), .second, iv p3, iv p4, iv p5, iv nn, iv ((own_ushr p5 (1 : Int32)) &&& (3 : Int32)), rv b193, rv b213, rv x9, rv b221, rv b258, rv x9] [.int (Int32.ofNat cs.length)])) _
        refine XS.aload X272.here hx rfl (hb hby at_221) rfl rfl ?_
        show Steps _ _ _ (T272.setTop (mkF m 223 _ [.ref x9, .int (Int32.ofNat cs.length)])) _
        refine st273.trans ?_
        show Steps p.tables e below (T273.setTop (mkF m 226 #[iv p1, .val (.long q2), .second, iv p3, iv p4, iv p5, iv nn, iv ((own_ushr p5 (1 : Int32)) &&& (3 : Int32)), rv b193, rv b213, rv x9, rv b221, rv b258, rv x9] [.int (Int32.ofNat cs.length), .int (Int32.ofNat cs.length)])) _
        refine XS.icmpNo X273.here hx rfl (hb hby at_226) rfl (teq (rfl : (Int32.ofNat cs.length) = (Int32.ofNat cs.length))).2 ?_
        show Steps _ _ _ (T273.setTop (mkF m 229 _ [])) _
        refine XS.aload X273.here hx rfl (hb hby at_229) rfl rfl ?_
        show Steps _ _ _ (T273.setTop (mkF m 231 _ [.ref x9])) _
        refine XS.aload X273.here hx rfl (hb hby at_231) rfl rfl ?_
        show Steps _ _ _ (T273.setTop (mkF m 233 _ [.ref x9, .ref x9])) _
        refine st274.trans ?_
        show Steps p.tables e below (T274.setTop (mkF m 236 #[iv p1, .val (.long q2), .second, iv p3, iv p4, iv p5, iv nn, iv ((own_ushr p5 (1 : Int32)) &&& (3 : Int32)), rv b193, rv b213, rv x9, rv b221, rv b258, rv x9] [.int 1])) _
        refine XS.ifNo X274.here hx rfl (hb hby at_236) rfl ((if0 _ _).trans (feq ((by decide) : ¬ ((1 : Int32) = (0 : Int32)))).1) ?_
        show Steps _ _ _ (T274.setTop (mkF m 239 _ [])) _
        refine XS.iconst X274.here hx rfl (hb hby at_239) ?_
        show Steps _ _ _ (T274.setTop (mkF m 240 _ [.int 1])) _
        refine XS.goto X274.here hx rfl (pc0 := 240) (pc' := 244) rfl (hb hby at_240) (by decide) (by decide) ?_
        show Steps _ _ _ (T274.setTop (mkF m 244 _ [.int 1])) _
        exact retN X274 hx (t := .boolean) Bd.returns (by simp) (hb hby at_244) hr
      · show Q_law Z p1 q2 p3 p4 p5 G1 em h0 n0 _ T274.heap _
        rw [e274]
        exact ⟨rfl, N274⟩
    by_cases h0' : ((own_ushr p5 (1 : Int32)) &&& (3 : Int32)) = (0 : Int32)
    · obtain ⟨T275, h275, X275, e275, E275, A275, D275, -, st275⟩ := newO X213 hx hZ hown (W 120 rfl) (W 91 rfl) (W 83 rfl) e213 (g := (mkF m 69 #[iv p1, .val (.long q2), .second, iv p3, iv p4, iv p5, iv nn, iv ((own_ushr p5 (1 : Int32)) &&& (3 : Int32)), rv b193, rv b213, .unset, .unset, .unset, .unset] [])) rfl (hb hby at_69) (by decide) (by decide)
      obtain ⟨b275, g275⟩ : ∃ z, z = h213.size := ⟨_, rfl⟩
      rw [← g275] at A275 D275 st275
      have g276 : n0 ≤ b275 := Nat.le_trans Z216 (Nat.le_of_eq g275.symm)
      have CR277 := CR215.trans (CHr.ext E275 CR215.1)
      have Z278 : n0 ≤ h275.size := Nat.le_trans Z216 E275.1
      have O279 : Old Z n0 h275 := O217.ext E275
      have hk280 := Nat.le_trans hk218 E275.1
      have F281 : Fld Z h275 b275 "java/lang/String" "value" "[B" .null := D275 (Or.inr (W 102 rfl)) (ty := (.array .byte)) (by decide)
      have F282 : Fld Z h275 b275 "java/lang/String" "coder" "B" (.int (0 : Int32)) := D275 (Or.inr (W 104 rfl)) (ty := .byte) (by decide)
      have f283 := (V213.ext E275)
      have f285 := (Safe.ext E275 CR215.1 (Safe.new (Nat.le_of_eq g275.symm)))
      obtain ⟨_, _, ⟨T284, L284, k284, n284⟩, -, Xw284, hSw284, hgw284, ⟨Lc284, hQ284, l284, y284, z284, A284⟩, st284⟩ := X275.specialBackS hx (y := (⟨"java/lang/String", "<init>", "([C)V"⟩ : MethodName)) rfl hown (mvT hZ (W 121 rfl)) (mvT hZ (W 122 rfl)) (mvT hZ (W 123 rfl)) (by decide) (own_backX (s := s) (W := 1) (rm_snew0 l Z a0 hw [] b275 b213 k213 h275 n0 Z278 f283 A275 g276 F281 F282) hZ (W 123 rfl) (W 83 rfl) (by decide) (by decide) hEL (xs := [b275]) ⟨CR277.1, (allS f285 all0)⟩ (allS A275.lt all0)) (g := (mkF m 75 #[iv p1, .val (.long q2), .second, iv p3, iv p4, iv p5, iv nn, iv ((own_ushr p5 (1 : Int32)) &&& (3 : Int32)), rv b193, rv b213, .unset, .unset, .unset, .unset] [.ref b213, .ref b275, .ref b275])) rfl (by rw [hml]; rfl) (Steps.refl _) (a := b275) (argsL := [.ref b213]) (rest := [.ref b275]) (lenOf own_pd_15 rfl) rfl (by show 2 * 0 + _ ≤ _; exact Nat.le_of_eq rfl) (hb hby at_75) (fun _ _ => ⟨rfl, e275, (by decide : 3 + 4 ≤ _), (by decide : 6 + 8 ≤ _)⟩)
      dsimp only [Pt.U, Pt.locs, Pt.cells, Pt.slots] at Xw284 hSw284 hgw284 l284 y284 z284 A284 st284 hQ284
      subst l284 y284 z284
      obtain ⟨X284, hS284, hZ284, hown284⟩ := rebS (s := s) (T := T284) hS0 hk280 Xw284 hSw284 (by rw [← e275]; exact hgw284) hZ hown
      have hk284 : T284.heap.size ≤ T284.heap.size := Nat.le_refl _
      obtain ⟨rfl, Nq284, K284, hSB⟩ := hQ284
      have N284 := Fr.app N207 Nq284
      have CR286 := CR277.trans A284
      have Z287 : n0 ≤ T284.heap.size := Nat.le_trans Z278 K284.1
      have O288 : Old Z n0 T284.heap := O279.keep K284 (allS g276 all0)
      have G289 : ∀ tq, Steps p.tables e below (T284.setTop (mkF m 112 #[iv p1, .val (.long q2), .second, iv p3, iv p4, iv p5, iv nn, iv ((own_ushr p5 (1 : Int32)) &&& (3 : Int32)), rv b193, rv b213, rv b275, .unset, .unset, .unset] [])) tq → Steps p.tables e below (T213.setTop (mkF m 64 #[iv p1, .val (.long q2), .second, iv p3, iv p4, iv p5, iv nn, iv ((own_ushr p5 (1 : Int32)) &&& (3 : Int32)), rv b193, rv b213, .unset, .unset, .unset, .unset] [])) tq := by
        intro tq kk
        show Steps p.tables e below (T213.setTop (mkF m 64 #[iv p1, .val (.long q2), .second, iv p3, iv p4, iv p5, iv nn, iv ((own_ushr p5 (1 : Int32)) &&& (3 : Int32)), rv b193, rv b213, .unset, .unset, .unset, .unset] [])) _
        refine XS.iload X213.here hx rfl (hb hby at_64) rfl ?_
        show Steps _ _ _ (T213.setTop (mkF m 66 _ [.int ((own_ushr p5 (1 : Int32)) &&& (3 : Int32))])) _
        refine XS.ifNo X213.here hx rfl (hb hby at_66) rfl ((if0 _ _).trans (teq (h0' : ((own_ushr p5 (1 : Int32)) &&& (3 : Int32)) = (0 : Int32))).2) ?_
        show Steps _ _ _ (T213.setTop (mkF m 69 _ [])) _
        refine st275 _ ?_
        show Steps p.tables e below (T275.setTop (mkF m 72 #[iv p1, .val (.long q2), .second, iv p3, iv p4, iv p5, iv nn, iv ((own_ushr p5 (1 : Int32)) &&& (3 : Int32)), rv b193, rv b213, .unset, .unset, .unset, .unset] [.ref b275])) _
        refine XS.dup X275.here hx rfl (hb hby at_72) rfl rfl ?_
        show Steps _ _ _ (T275.setTop (mkF m 73 _ [.ref b275, .ref b275])) _
        refine XS.aload X275.here hx rfl (hb hby at_73) rfl rfl ?_
        show Steps _ _ _ (T275.setTop (mkF m 75 _ [.ref b213, .ref b275, .ref b275])) _
        refine st284.trans ?_
        show Steps p.tables e below (T284.setTop (mkF m 78 #[iv p1, .val (.long q2), .second, iv p3, iv p4, iv p5, iv nn, iv ((own_ushr p5 (1 : Int32)) &&& (3 : Int32)), rv b193, rv b213, .unset, .unset, .unset, .unset] [.ref b275])) _
        refine XS.astore X284.here hx rfl (hb hby at_78) rfl rfl (l' := #[iv p1, .val (.long q2), .second, iv p3, iv p4, iv p5, iv nn, iv ((own_ushr p5 (1 : Int32)) &&& (3 : Int32)), rv b193, rv b213, rv b275, .unset, .unset, .unset]) rfl ?_
        show Steps _ _ _ (T284.setTop (mkF m 80 _ [])) _
        refine XS.goto X284.here hx rfl (pc0 := 80) (pc' := 112) rfl (hb hby at_80) (by decide) (by decide) ?_
        exact kk
      obtain ⟨s₂, o, t1, t2, t3, t4⟩ := tail T284.vm T284 T284.heap _ _ b275 [] (X284.more (by decide) (by decide)) rfl N284 Z287 O288 hS284 hk284 hZ284 hown284 CR286 hSB
      exact ⟨s₂, o, pre0 _ (G190 _ (G6 _ (G219 _ (G220 _ (G289 _ (t1)))))), t2, t3, t4⟩
    · by_cases h1' : ((own_ushr p5 (1 : Int32)) &&& (3 : Int32)) = (1 : Int32)
      · have f291 := (V207.ext E213)
        obtain ⟨cl290, Ar290, aq290, aS290, aN290, aH290, aG290⟩ := id f291
        obtain ⟨_, _, ⟨T292, L292, k292, n292⟩, -, X292, ⟨Lc292, hQ292, l292, y292, z292⟩, st292⟩ := Jvm.LawKit.callS X213 hx (y := (⟨"java/lang/String", "valueOf", "(C)Ljava/lang/String;"⟩ : MethodName)) hown (mvT hZ (W 81 rfl)) (mvT hZ (W 82 rfl)) (mvT hZ (W 83 rfl)) (mvT hZ (W 84 rfl)) (by decide) (backOf (W := 0) (rm_svo l Z a0 hw [] (nar .char ((p3 &&& (255 : Int32)).toUInt32.toUInt16.toUInt32.toInt32)) G1 h213 n0 Z216 O217 hp0.1 hp0.2 O2 P5) hZ (W 84 rfl) (W 83 rfl) (by decide) (by decide)) (g := (mkF m 93 #[iv p1, .val (.long q2), .second, iv p3, iv p4, iv p5, iv nn, iv ((own_ushr p5 (1 : Int32)) &&& (3 : Int32)), rv b193, rv b213, .unset, .unset, .unset, .unset] [.int (nar .char ((p3 &&& (255 : Int32)).toUInt32.toUInt16.toUInt32.toInt32))])) rfl (by rw [hml]; rfl) (argsL := [.int (nar .char ((p3 &&& (255 : Int32)).toUInt32.toUInt16.toUInt32.toInt32))]) (rest := []) (lenOf own_pd_9 rfl) rfl (by show 2 * 0 + _ ≤ _; exact Nat.le_of_eq rfl) (hb hby at_93) (fun _ _ => ⟨rfl, e213, (by decide : 2 + 2 ≤ _), (by decide : 2 + 5 ≤ _)⟩)
        dsimp only [Pt.U, Pt.locs, Pt.cells, Pt.slots] at X292 l292 y292 z292 st292 hQ292
        subst l292 y292 z292
        obtain ⟨a292, hv292, Nq292, K292, hSB⟩ := hQ292
        subst hv292
        have N292 := Fr.app N207 Nq292
        have CR293 := CR215.trans (CHr.keep K292 all0 CR215.1)
        have Z294 : n0 ≤ T292.heap.size := Nat.le_trans Z216 K292.1
        have O295 : Old Z n0 T292.heap := O217.keep K292 all0
        have hk296 := Nat.le_trans hk218 K292.1
        have G297 : ∀ tq, Steps p.tables e below (T292.setTop (mkF m 112 #[iv p1, .val (.long q2), .second, iv p3, iv p4, iv p5, iv nn, iv ((own_ushr p5 (1 : Int32)) &&& (3 : Int32)), rv b193, rv b213, rv a292, .unset, .unset, .unset] [])) tq → Steps p.tables e below (T213.setTop (mkF m 64 #[iv p1, .val (.long q2), .second, iv p3, iv p4, iv p5, iv nn, iv ((own_ushr p5 (1 : Int32)) &&& (3 : Int32)), rv b193, rv b213, .unset, .unset, .unset, .unset] [])) tq := by
          intro tq kk
          show Steps p.tables e below (T213.setTop (mkF m 64 #[iv p1, .val (.long q2), .second, iv p3, iv p4, iv p5, iv nn, iv ((own_ushr p5 (1 : Int32)) &&& (3 : Int32)), rv b193, rv b213, .unset, .unset, .unset, .unset] [])) _
          refine XS.iload X213.here hx rfl (hb hby at_64) rfl ?_
          show Steps _ _ _ (T213.setTop (mkF m 66 _ [.int ((own_ushr p5 (1 : Int32)) &&& (3 : Int32))])) _
          refine XS.ifYes X213.here hx rfl (pc0 := 66) (pc' := 83) rfl (hb hby at_66) rfl ((if0 _ _).trans (feq (h0' : ¬ (((own_ushr p5 (1 : Int32)) &&& (3 : Int32)) = (0 : Int32)))).2) (by decide) (by decide) ?_
          show Steps _ _ _ (T213.setTop (mkF m 83 _ [])) _
          refine XS.iload X213.here hx rfl (hb hby at_83) rfl ?_
          show Steps _ _ _ (T213.setTop (mkF m 85 _ [.int ((own_ushr p5 (1 : Int32)) &&& (3 : Int32))])) _
          refine XS.iconst X213.here hx rfl (hb hby at_85) ?_
          show Steps _ _ _ (T213.setTop (mkF m 86 _ [.int 1, .int ((own_ushr p5 (1 : Int32)) &&& (3 : Int32))])) _
          refine XS.icmpNo X213.here hx rfl (hb hby at_86) rfl (teq (h1' : ((own_ushr p5 (1 : Int32)) &&& (3 : Int32)) = (1 : Int32))).2 ?_
          show Steps _ _ _ (T213.setTop (mkF m 89 _ [])) _
          refine XS.aload X213.here hx rfl (hb hby at_89) rfl rfl ?_
          show Steps _ _ _ (T213.setTop (mkF m 91 _ [.ref b193])) _
          refine XS.iconst X213.here hx rfl (hb hby at_91) ?_
          show Steps _ _ _ (T213.setTop (mkF m 92 _ [.int 0, .ref b193])) _
          refine X213.caload hx (j := (0 : Int32)) (v := (.int (nar .char ((p3 &&& (255 : Int32)).toUInt32.toUInt16.toUInt32.toInt32)))) (by rw [e213]; exact Ar290.1) (State.isArrayOf_alike hZ.alike Ar290.2.1) Ar290.2.2 (inb_of aS290 ⟨(by decide), (by decide)⟩) (Has.at aH290 (inb_of aS290 ⟨(by decide), (by decide)⟩) rfl) (g := (mkF m 92 #[iv p1, .val (.long q2), .second, iv p3, iv p4, iv p5, iv nn, iv ((own_ushr p5 (1 : Int32)) &&& (3 : Int32)), rv b193, rv b213, .unset, .unset, .unset, .unset] [.int 0, .ref b193])) rfl rfl (hb hby at_92) _ ?_
          show Steps p.tables e below (T213.setTop (mkF m 93 #[iv p1, .val (.long q2), .second, iv p3, iv p4, iv p5, iv nn, iv ((own_ushr p5 (1 : Int32)) &&& (3 : Int32)), rv b193, rv b213, .unset, .unset, .unset, .unset] [.int (nar .char ((p3 &&& (255 : Int32)).toUInt32.toUInt16.toUInt32.toInt32))])) _
          refine st292 _ ?_
          show Steps p.tables e below (T292.setTop (mkF m 96 #[iv p1, .val (.long q2), .second, iv p3, iv p4, iv p5, iv nn, iv ((own_ushr p5 (1 : Int32)) &&& (3 : Int32)), rv b193, rv b213, .unset, .unset, .unset, .unset] [.ref a292])) _
          refine XS.astore X292.here hx rfl (hb hby at_96) rfl rfl (l' := #[iv p1, .val (.long q2), .second, iv p3, iv p4, iv p5, iv nn, iv ((own_ushr p5 (1 : Int32)) &&& (3 : Int32)), rv b193, rv b213, rv a292, .unset, .unset, .unset]) rfl ?_
          show Steps _ _ _ (T292.setTop (mkF m 98 _ [])) _
          refine XS.goto X292.here hx rfl (pc0 := 98) (pc' := 112) rfl (hb hby at_98) (by decide) (by decide) ?_
          exact kk
        obtain ⟨s₂, o, t1, t2, t3, t4⟩ := tail s.vm T292 T292.heap _ _ a292 [(nar .char ((p3 &&& (255 : Int32)).toUInt32.toUInt16.toUInt32.toInt32))] (X292.more (by decide) (by decide)) rfl N292 Z294 O295 hS0 hk296 hZ hown CR293 hSB
        exact ⟨s₂, o, pre0 _ (G190 _ (G6 _ (G219 _ (G220 _ (G297 _ (t1)))))), t2, t3, t4⟩
      · obtain ⟨T298, h298, X298, e298, E298, A298, D298, -, st298⟩ := newO X213 hx hZ hown (W 120 rfl) (W 91 rfl) (W 83 rfl) e213 (g := (mkF m 101 #[iv p1, .val (.long q2), .second, iv p3, iv p4, iv p5, iv nn, iv ((own_ushr p5 (1 : Int32)) &&& (3 : Int32)), rv b193, rv b213, .unset, .unset, .unset, .unset] [])) rfl (hb hby at_101) (by decide) (by decide)
        obtain ⟨b298, g298⟩ : ∃ z, z = h213.size := ⟨_, rfl⟩
        rw [← g298] at A298 D298 st298
        have g299 : n0 ≤ b298 := Nat.le_trans Z216 (Nat.le_of_eq g298.symm)
        have CR300 := CR215.trans (CHr.ext E298 CR215.1)
        have Z301 : n0 ≤ h298.size := Nat.le_trans Z216 E298.1
        have O302 : Old Z n0 h298 := O217.ext E298
        have hk303 := Nat.le_trans hk218 E298.1
        have F304 : Fld Z h298 b298 "java/lang/String" "value" "[B" .null := D298 (Or.inr (W 102 rfl)) (ty := (.array .byte)) (by decide)
        have F305 : Fld Z h298 b298 "java/lang/String" "coder" "B" (.int (0 : Int32)) := D298 (Or.inr (W 104 rfl)) (ty := .byte) (by decide)
        have hp : ∀ c ∈ ([(nar .char ((p3 &&& (255 : Int32)).toUInt32.toUInt16.toUInt32.toInt32)), (nar .char ((p4 &&& (255 : Int32)).toUInt32.toUInt16.toUInt32.toInt32))] : List Int32), ¬ c < 0 ∧ ¬ (255 : Int32) < c := by
          intro c hc
          simp only [List.mem_cons, List.not_mem_nil, or_false] at hc
          rcases hc with rfl | rfl
          · exact hp0
          · exact hp1
        have f306 := ((V207.ext E213).ext E298)
        obtain ⟨_, _, ⟨T307, L307, k307, n307⟩, -, X307, ⟨Lc307, hQ307, l307, y307, z307⟩, st307⟩ := X298.specialBack hx (y := (⟨"java/lang/String", "<init>", "([C)V"⟩ : MethodName)) rfl hown (mvT hZ (W 121 rfl)) (mvT hZ (W 122 rfl)) (mvT hZ (W 123 rfl)) (by decide) (StrChars.Road.backV (W := 1) hZ hws (kI := 4) (W 91 rfl) (cs := ([(nar .char ((p3 &&& (255 : Int32)).toUInt32.toUInt16.toUInt32.toInt32)), (nar .char ((p4 &&& (255 : Int32)).toUInt32.toUInt16.toUInt32.toInt32))] : List Int32)) (bs := ([(nar .char ((p3 &&& (255 : Int32)).toUInt32.toUInt16.toUInt32.toInt32)), (nar .char ((p4 &&& (255 : Int32)).toUInt32.toUInt16.toUInt32.toInt32))] : List Int32).map (fun c => c.toInt8.toInt32)) (n := 2) g299 Z301 A298 F304 F305 f306 (O2.ext O302.2) P5 rfl rfl (by decide) (by decide) hp rfl (by decide) (by decide)) (g := (mkF m 107 #[iv p1, .val (.long q2), .second, iv p3, iv p4, iv p5, iv nn, iv ((own_ushr p5 (1 : Int32)) &&& (3 : Int32)), rv b193, rv b213, .unset, .unset, .unset, .unset] [.ref b193, .ref b298, .ref b298])) rfl (by rw [hml]; rfl) (Steps.refl _) (a := b298) (argsL := [.ref b193]) (rest := [.ref b298]) (lenOf own_pd_15 rfl) rfl (by show 2 * 0 + _ ≤ _; exact Nat.le_of_eq rfl) (hb hby at_107) (fun _ _ => ⟨rfl, e298, (by decide : 3 + 1 ≤ _), (by decide : 6 + 2 ≤ _)⟩)
        dsimp only [Pt.U, Pt.locs, Pt.cells, Pt.slots] at X307 l307 y307 z307 st307 hQ307
        subst l307 y307 z307
        obtain ⟨rfl, Nq307, K307, gE307, gC307, t307, kb307, tu307, tv307, tw307, gV307, gA307⟩ := hQ307
        have N307 := Fr.app N207 Nq307
        have f309 := (Safe.ext E298 CR215.1 (Safe.new (Nat.le_of_eq g298.symm)))
        have CR308 := CR300.trans (CHr.keep K307 (allS f309 all0) CR300.1)
        have Z310 : n0 ≤ T307.heap.size := Nat.le_trans Z301 K307.1
        have O311 : Old Z n0 T307.heap := O302.keep K307 (allS g299 all0)
        have hk312 := Nat.le_trans hk303 K307.1
        have hSB : StrB Z T307.heap T307.heap.size b298 ([(nar .char ((p3 &&& (255 : Int32)).toUInt32.toUInt16.toUInt32.toInt32)), (nar .char ((p4 &&& (255 : Int32)).toUInt32.toUInt16.toUInt32.toInt32))] : List Int32) := ⟨gE307.lt, gE307, t307, kb307, 0, 2, _, gA307.lt, gV307, gC307, gA307, StrChars.Road.codOf (n := 2) rfl (fun c hc => (hp c hc).2), own_up _ hp, (Nat.le_of_ble_eq_true rfl)⟩
        have G313 : ∀ tq, Steps p.tables e below (T307.setTop (mkF m 112 #[iv p1, .val (.long q2), .second, iv p3, iv p4, iv p5, iv nn, iv ((own_ushr p5 (1 : Int32)) &&& (3 : Int32)), rv b193, rv b213, rv b298, .unset, .unset, .unset] [])) tq → Steps p.tables e below (T213.setTop (mkF m 64 #[iv p1, .val (.long q2), .second, iv p3, iv p4, iv p5, iv nn, iv ((own_ushr p5 (1 : Int32)) &&& (3 : Int32)), rv b193, rv b213, .unset, .unset, .unset, .unset] [])) tq := by
          intro tq kk
          show Steps p.tables e below (T213.setTop (mkF m 64 #[iv p1, .val (.long q2), .second, iv p3, iv p4, iv p5, iv nn, iv ((own_ushr p5 (1 : Int32)) &&& (3 : Int32)), rv b193, rv b213, .unset, .unset, .unset, .unset] [])) _
          refine XS.iload X213.here hx rfl (hb hby at_64) rfl ?_
          show Steps _ _ _ (T213.setTop (mkF m 66 _ [.int ((own_ushr p5 (1 : Int32)) &&& (3 : Int32))])) _
          refine XS.ifYes X213.here hx rfl (pc0 := 66) (pc' := 83) rfl (hb hby at_66) rfl ((if0 _ _).trans (feq (h0' : ¬ (((own_ushr p5 (1 : Int32)) &&& (3 : Int32)) = (0 : Int32)))).2) (by decide) (by decide) ?_
          show Steps _ _ _ (T213.setTop (mkF m 83 _ [])) _
          refine XS.iload X213.here hx rfl (hb hby at_83) rfl ?_
          show Steps _ _ _ (T213.setTop (mkF m 85 _ [.int ((own_ushr p5 (1 : Int32)) &&& (3 : Int32))])) _
          refine XS.iconst X213.here hx rfl (hb hby at_85) ?_
          show Steps _ _ _ (T213.setTop (mkF m 86 _ [.int 1, .int ((own_ushr p5 (1 : Int32)) &&& (3 : Int32))])) _
          refine XS.icmpYes X213.here hx rfl (pc0 := 86) (pc' := 101) rfl (hb hby at_86) rfl (feq (h1' : ¬ (((own_ushr p5 (1 : Int32)) &&& (3 : Int32)) = (1 : Int32)))).2 (by decide) (by decide) ?_
          show Steps _ _ _ (T213.setTop (mkF m 101 _ [])) _
          refine st298 _ ?_
          show Steps p.tables e below (T298.setTop (mkF m 104 #[iv p1, .val (.long q2), .second, iv p3, iv p4, iv p5, iv nn, iv ((own_ushr p5 (1 : Int32)) &&& (3 : Int32)), rv b193, rv b213, .unset, .unset, .unset, .unset] [.ref b298])) _
          refine XS.dup X298.here hx rfl (hb hby at_104) rfl rfl ?_
          show Steps _ _ _ (T298.setTop (mkF m 105 _ [.ref b298, .ref b298])) _
          refine XS.aload X298.here hx rfl (hb hby at_105) rfl rfl ?_
          show Steps _ _ _ (T298.setTop (mkF m 107 _ [.ref b193, .ref b298, .ref b298])) _
          refine st307.trans ?_
          show Steps p.tables e below (T307.setTop (mkF m 110 #[iv p1, .val (.long q2), .second, iv p3, iv p4, iv p5, iv nn, iv ((own_ushr p5 (1 : Int32)) &&& (3 : Int32)), rv b193, rv b213, .unset, .unset, .unset, .unset] [.ref b298])) _
          refine XS.astore X307.here hx rfl (hb hby at_110) rfl rfl (l' := #[iv p1, .val (.long q2), .second, iv p3, iv p4, iv p5, iv nn, iv ((own_ushr p5 (1 : Int32)) &&& (3 : Int32)), rv b193, rv b213, rv b298, .unset, .unset, .unset]) rfl ?_
          exact kk
        obtain ⟨s₂, o, t1, t2, t3, t4⟩ := tail s.vm T307 T307.heap _ _ b298 ([(nar .char ((p3 &&& (255 : Int32)).toUInt32.toUInt16.toUInt32.toInt32)), (nar .char ((p4 &&& (255 : Int32)).toUInt32.toUInt16.toUInt32.toInt32))] : List Int32) (X307.more (by decide) (by decide)) rfl N307 Z310 O311 hS0 hk312 hZ hown CR308 hSB
        exact ⟨s₂, o, pre0 _ (G190 _ (G6 _ (G219 _ (G220 _ (G313 _ (t1)))))), t2, t3, t4⟩
  · have G314 : ∀ tq, Steps p.tables e below (T213.setTop (mkF m 112 #[iv p1, .val (.long q2), .second, iv p3, iv p4, iv p5, iv nn, iv ((own_ushr p5 (1 : Int32)) &&& (3 : Int32)), rv b193, rv b213, .val .null, .unset, .unset, .unset] [])) tq → Steps p.tables e below (T213.setTop (mkF m 55 #[iv p1, .val (.long q2), .second, iv p3, iv p4, iv p5, iv nn, iv ((own_ushr p5 (1 : Int32)) &&& (3 : Int32)), rv b193, rv b213, .unset, .unset, .unset, .unset] [.int nn])) tq := by
      intro tq kk
      show Steps p.tables e below (T213.setTop (mkF m 55 #[iv p1, .val (.long q2), .second, iv p3, iv p4, iv p5, iv nn, iv ((own_ushr p5 (1 : Int32)) &&& (3 : Int32)), rv b193, rv b213, .unset, .unset, .unset, .unset] [.int nn])) _
      refine XS.ifNo X213.here hx rfl (hb hby at_55) rfl ((if0 _ _).trans (feq (hN : ¬ (nn = (0 : Int32)))).1) ?_
      show Steps _ _ _ (T213.setTop (mkF m 58 _ [])) _
      refine XS.aconstNull X213.here hx rfl (hb hby at_58) ?_
      show Steps _ _ _ (T213.setTop (mkF m 59 _ [.null])) _
      refine XS.astore X213.here hx rfl (hb hby at_59) rfl rfl (l' := #[iv p1, .val (.long q2), .second, iv p3, iv p4, iv p5, iv nn, iv ((own_ushr p5 (1 : Int32)) &&& (3 : Int32)), rv b193, rv b213, .val .null, .unset, .unset, .unset]) rfl ?_
      show Steps _ _ _ (T213.setTop (mkF m 61 _ [])) _
      refine XS.goto X213.here hx rfl (pc0 := 61) (pc' := 112) rfl (hb hby at_61) (by decide) (by decide) ?_
      exact kk
    obtain ⟨T315, h315, X315, e315, E315, A315, D315, -, st315⟩ := newO X213 hx hZ hown (W 1 rfl) (W 2 rfl) (W 3 rfl) e213 (g := (mkF m 112 #[iv p1, .val (.long q2), .second, iv p3, iv p4, iv p5, iv nn, iv ((own_ushr p5 (1 : Int32)) &&& (3 : Int32)), rv b193, rv b213, .val .null, .unset, .unset, .unset] [])) rfl (hb hby at_112) (by decide) (by decide)
    obtain ⟨b315, g315⟩ : ∃ z, z = h213.size := ⟨_, rfl⟩
    rw [← g315] at A315 D315 st315
    have g316 : n0 ≤ b315 := Nat.le_trans Z216 (Nat.le_of_eq g315.symm)
    have CR317 := CR215.trans (CHr.ext E315 CR215.1)
    have Z318 : n0 ≤ h315.size := Nat.le_trans Z216 E315.1
    have O319 : Old Z n0 h315 := O217.ext E315
    have hk320 := Nat.le_trans hk218 E315.1
    have F321 : Fld Z h315 b315 "com/example/kalip/kalip/recordshop/domain/Artist" "albums" "Ljava/util/List;" .null := D315 (Or.inl (W 17 rfl)) (ty := (.object "java/util/List")) (by decide)
    have F322 : Fld Z h315 b315 "com/example/kalip/kalip/recordshop/domain/Artist" "id" "I" (.int (0 : Int32)) := D315 (Or.inl (W 24 rfl)) (ty := .int) (by decide)
    have F323 : Fld Z h315 b315 "com/example/kalip/kalip/recordshop/domain/Artist" "version" "J" (.long (0 : Int64)) := D315 (Or.inl (W 31 rfl)) (ty := .long) (by decide)
    have F324 : Fld Z h315 b315 "com/example/kalip/kalip/recordshop/domain/Artist" "name" "Ljava/lang/String;" .null := D315 (Or.inl (W 38 rfl)) (ty := (.object "java/lang/String")) (by decide)
    obtain ⟨_, _, ⟨T325, L325, k325, n325⟩, -, X325, ⟨Lc325, hQ325, l325, y325, z325⟩, st325⟩ := X315.specialBack hx (y := (⟨"com/example/kalip/kalip/recordshop/domain/Artist", "<init>", "()V"⟩ : MethodName)) rfl hown (mvT hZ (W 4 rfl)) (mvT hZ (W 5 rfl)) (mvT hZ (W 6 rfl)) (by decide) (backOf (W := 1) (rm_ainit l Z a0 hw [] b315 em h315 n0 Z318 O319 A315 g316 F322 F323 F324 F321 OE) hZ (W 6 rfl) (W 3 rfl) (by decide) (by decide)) (g := (mkF m 116 #[iv p1, .val (.long q2), .second, iv p3, iv p4, iv p5, iv nn, iv ((own_ushr p5 (1 : Int32)) &&& (3 : Int32)), rv b193, rv b213, .val .null, .unset, .unset, .unset] [.ref b315, .ref b315])) rfl (by rw [hml]; rfl) (Steps.refl _) (a := b315) (argsL := []) (rest := [.ref b315]) (lenOf own_pd_0 rfl) rfl (by show 2 * 0 + _ ≤ _; exact Nat.le_of_eq rfl) (hb hby at_116) (fun _ _ => ⟨rfl, e315, (by decide : 3 + 0 ≤ _), (by decide : 6 + 0 ≤ _)⟩)
    dsimp only [Pt.U, Pt.locs, Pt.cells, Pt.slots] at X325 l325 y325 z325 st325 hQ325
    subst l325 y325 z325
    obtain ⟨rfl, Nq325, K325, gE325, gI325, gV325, gN325⟩ := hQ325
    have N325 := Fr.app N207 Nq325
    have f327 := (Safe.ext E315 CR215.1 (Safe.new (Nat.le_of_eq g315.symm)))
    have CR326 := CR317.trans (CHr.keep K325 (allS f327 all0) CR317.1)
    have Z328 : n0 ≤ T325.heap.size := Nat.le_trans Z318 K325.1
    have O329 : Old Z n0 T325.heap := O319.keep K325 (allS g316 all0)
    have hk330 := Nat.le_trans hk320 K325.1
    obtain ⟨cq331, kq331, q331a, q331b, q331c⟩ := isOf hZ rfl gE325
    obtain ⟨_, _, ⟨T331, L331, k331, n331⟩, -, X331, ⟨Lc331, hQ331, l331, y331, z331⟩, st331⟩ := X325.virtualBack hx (y := (⟨"com/example/kalip/kalip/recordshop/domain/Artist", "setId", "(I)V"⟩ : MethodName)) (z := (⟨"com/example/kalip/kalip/recordshop/domain/Artist", "setId", "(I)V"⟩ : MethodName)) hown (mvT hZ (W 18 rfl)) (mvT hZ (W 19 rfl)) (notFace_of_selects (args := #[]) (mvT hZ (W 21 rfl))) (mvT hZ (W 21 rfl)) (mvT hZ (W 20 rfl)) (by decide) (backOf (W := 0) (rm_setid l Z a0 hw [] b315 p1 T325.heap n0 Z328 gE325 g316 gI325 gV325 gN325) hZ (W 22 rfl) (W 3 rfl) (by decide) (by decide)) q331a q331c (g := (mkF m 124 #[iv p1, .val (.long q2), .second, iv p3, iv p4, iv p5, iv nn, iv ((own_ushr p5 (1 : Int32)) &&& (3 : Int32)), rv b193, rv b213, .val .null, rv b315, .unset, .unset] [.int p1, .ref b315])) rfl (by rw [hml]; rfl) (Steps.refl _) (argsL := [.int p1]) (rest := []) (lenOf own_pd_2 rfl) rfl (by show 2 * 0 + _ ≤ _; exact Nat.le_of_eq rfl) (hb hby at_124) (fun _ _ => ⟨rfl, rfl, (by decide : 3 + 0 ≤ _), (by decide : 6 + 0 ≤ _)⟩)
    dsimp only [Pt.U, Pt.locs, Pt.cells, Pt.slots] at X331 l331 y331 z331 st331 hQ331
    subst l331 y331 z331
    obtain ⟨rfl, Nq331, K331, gE331, gI331, gV331, gN331⟩ := hQ331
    have N331 := Fr.app N325 Nq331
    have f333 := ((CHr.keep K325 (allS f327 all0) CR317.1).safe A315.lt f327)
    have CR332 := CR326.trans (CHr.keep K331 (allS f333 all0) CR326.1)
    have Z334 : n0 ≤ T331.heap.size := Nat.le_trans Z328 K331.1
    have O335 : Old Z n0 T331.heap := O329.keep K331 (allS g316 all0)
    have hk336 := Nat.le_trans hk330 K331.1
    obtain ⟨cq337, kq337, q337a, q337b, q337c⟩ := isOf hZ rfl gE331
    obtain ⟨_, _, ⟨T337, L337, k337, n337⟩, -, X337, ⟨Lc337, hQ337, l337, y337, z337⟩, st337⟩ := X331.virtualBack hx (y := (⟨"com/example/kalip/kalip/recordshop/domain/Artist", "setVersion", "(J)V"⟩ : MethodName)) (z := (⟨"com/example/kalip/kalip/recordshop/domain/Artist", "setVersion", "(J)V"⟩ : MethodName)) hown (mvT hZ (W 25 rfl)) (mvT hZ (W 26 rfl)) (notFace_of_selects (args := #[]) (mvT hZ (W 28 rfl))) (mvT hZ (W 28 rfl)) (mvT hZ (W 27 rfl)) (by decide) (backOf (W := 0) (rm_setver l Z a0 hw [] b315 p1 q2 T331.heap n0 Z334 gE331 g316 gI331 gV331 gN331) hZ (W 29 rfl) (W 3 rfl) (by decide) (by decide)) q337a q337c (g := (mkF m 130 #[iv p1, .val (.long q2), .second, iv p3, iv p4, iv p5, iv nn, iv ((own_ushr p5 (1 : Int32)) &&& (3 : Int32)), rv b193, rv b213, .val .null, rv b315, .unset, .unset] [.long q2, .ref b315])) rfl (by rw [hml]; rfl) (Steps.refl _) (argsL := [.long q2]) (rest := []) (lenOf own_pd_3 rfl) rfl (by show 2 * 0 + _ ≤ _; exact Nat.le_of_eq rfl) (hb hby at_130) (fun _ _ => ⟨rfl, rfl, (by decide : 3 + 0 ≤ _), (by decide : 6 + 0 ≤ _)⟩)
    dsimp only [Pt.U, Pt.locs, Pt.cells, Pt.slots] at X337 l337 y337 z337 st337 hQ337
    subst l337 y337 z337
    obtain ⟨rfl, Nq337, K337, gE337, gI337, gV337, gN337⟩ := hQ337
    have N337 := Fr.app N331 Nq337
    have f339 := (Nat.lt_of_lt_of_le A315.lt K325.1)
    have f340 := ((CHr.keep K331 (allS f333 all0) CR326.1).safe f339 f333)
    have CR338 := CR332.trans (CHr.keep K337 (allS f340 all0) CR332.1)
    have Z341 : n0 ≤ T337.heap.size := Nat.le_trans Z334 K337.1
    have O342 : Old Z n0 T337.heap := O335.keep K337 (allS g316 all0)
    have hk343 := Nat.le_trans hk336 K337.1
    obtain ⟨cq344, kq344, q344a, q344b, q344c⟩ := isOf hZ rfl gE337
    obtain ⟨_, _, ⟨T344, L344, k344, n344⟩, -, X344, ⟨Lc344, hQ344, l344, y344, z344⟩, st344⟩ := X337.virtualBack hx (y := (⟨"com/example/kalip/kalip/recordshop/domain/Artist", "setName", "(Ljava/lang/String;)V"⟩ : MethodName)) (z := (⟨"com/example/kalip/kalip/recordshop/domain/Artist", "setName", "(Ljava/lang/String;)V"⟩ : MethodName)) hown (mvT hZ (W 32 rfl)) (mvT hZ (W 33 rfl)) (notFace_of_selects (args := #[]) (mvT hZ (W 35 rfl))) (mvT hZ (W 35 rfl)) (mvT hZ (W 34 rfl)) (by decide) (backOf (W := 0) (rm_setnmN l Z a0 hw [] b315 p1 q2 T337.heap n0 Z341 gE337 g316 gI337 gV337 gN337) hZ (W 36 rfl) (W 3 rfl) (by decide) (by decide)) q344a q344c (g := (mkF m 137 #[iv p1, .val (.long q2), .second, iv p3, iv p4, iv p5, iv nn, iv ((own_ushr p5 (1 : Int32)) &&& (3 : Int32)), rv b193, rv b213, .val .null, rv b315, .unset, .unset] [.null, .ref b315])) rfl (by rw [hml]; rfl) (Steps.refl _) (argsL := [.null]) (rest := []) (lenOf own_pd_4 rfl) rfl (by show 2 * 0 + _ ≤ _; exact Nat.le_of_eq rfl) (hb hby at_137) (fun _ _ => ⟨rfl, rfl, (by decide : 3 + 0 ≤ _), (by decide : 6 + 0 ≤ _)⟩)
    dsimp only [Pt.U, Pt.locs, Pt.cells, Pt.slots] at X344 l344 y344 z344 st344 hQ344
    subst l344 y344 z344
    obtain ⟨rfl, Nq344, K344, gE344, gI344, gV344, gN344⟩ := hQ344
    have N344 := Fr.app N337 Nq344
    have f346 := (Nat.lt_of_lt_of_le f339 K331.1)
    have f347 := ((CHr.keep K337 (allS f340 all0) CR332.1).safe f346 f340)
    have CR345 := CR338.trans (CHr.keep K344 (allS f347 all0) CR338.1)
    have Z348 : n0 ≤ T344.heap.size := Nat.le_trans Z341 K344.1
    have O349 : Old Z n0 T344.heap := O342.keep K344 (allS g316 all0)
    have hk350 := Nat.le_trans hk343 K344.1
    have G351 : ∀ tq, Steps p.tables e below (T344.setTop (mkF m 140 #[iv p1, .val (.long q2), .second, iv p3, iv p4, iv p5, iv nn, iv ((own_ushr p5 (1 : Int32)) &&& (3 : Int32)), rv b193, rv b213, .val .null, rv b315, .unset, .unset] [])) tq → Steps p.tables e below (T213.setTop (mkF m 112 #[iv p1, .val (.long q2), .second, iv p3, iv p4, iv p5, iv nn, iv ((own_ushr p5 (1 : Int32)) &&& (3 : Int32)), rv b193, rv b213, .val .null, .unset, .unset, .unset] [])) tq := by
      intro tq kk
      show Steps p.tables e below (T213.setTop (mkF m 112 #[iv p1, .val (.long q2), .second, iv p3, iv p4, iv p5, iv nn, iv ((own_ushr p5 (1 : Int32)) &&& (3 : Int32)), rv b193, rv b213, .val .null, .unset, .unset, .unset] [])) _
      refine st315 _ ?_
      show Steps p.tables e below (T315.setTop (mkF m 115 #[iv p1, .val (.long q2), .second, iv p3, iv p4, iv p5, iv nn, iv ((own_ushr p5 (1 : Int32)) &&& (3 : Int32)), rv b193, rv b213, .val .null, .unset, .unset, .unset] [.ref b315])) _
      refine XS.dup X315.here hx rfl (hb hby at_115) rfl rfl ?_
      show Steps _ _ _ (T315.setTop (mkF m 116 _ [.ref b315, .ref b315])) _
      refine st325.trans ?_
      show Steps p.tables e below (T325.setTop (mkF m 119 #[iv p1, .val (.long q2), .second, iv p3, iv p4, iv p5, iv nn, iv ((own_ushr p5 (1 : Int32)) &&& (3 : Int32)), rv b193, rv b213, .val .null, .unset, .unset, .unset] [.ref b315])) _
      refine XS.astore X325.here hx rfl (hb hby at_119) rfl rfl (l' := #[iv p1, .val (.long q2), .second, iv p3, iv p4, iv p5, iv nn, iv ((own_ushr p5 (1 : Int32)) &&& (3 : Int32)), rv b193, rv b213, .val .null, rv b315, .unset, .unset]) rfl ?_
      show Steps _ _ _ (T325.setTop (mkF m 121 _ [])) _
      refine XS.aload X325.here hx rfl (hb hby at_121) rfl rfl ?_
      show Steps _ _ _ (T325.setTop (mkF m 123 _ [.ref b315])) _
      refine XS.iloadN X325.here hx rfl (hb hby at_123) rfl ?_
      show Steps _ _ _ (T325.setTop (mkF m 124 _ [.int p1, .ref b315])) _
      refine st331.trans ?_
      show Steps p.tables e below (T331.setTop (mkF m 127 #[iv p1, .val (.long q2), .second, iv p3, iv p4, iv p5, iv nn, iv ((own_ushr p5 (1 : Int32)) &&& (3 : Int32)), rv b193, rv b213, .val .null, rv b315, .unset, .unset] [])) _
      refine XS.aload X331.here hx rfl (hb hby at_127) rfl rfl ?_
      show Steps _ _ _ (T331.setTop (mkF m 129 _ [.ref b315])) _
      refine XS.lloadN X331.here hx rfl (hb hby at_129) rfl ?_
      show Steps _ _ _ (T331.setTop (mkF m 130 _ [.long q2, .ref b315])) _
      refine st337.trans ?_
      show Steps p.tables e below (T337.setTop (mkF m 133 #[iv p1, .val (.long q2), .second, iv p3, iv p4, iv p5, iv nn, iv ((own_ushr p5 (1 : Int32)) &&& (3 : Int32)), rv b193, rv b213, .val .null, rv b315, .unset, .unset] [])) _
      refine XS.aload X337.here hx rfl (hb hby at_133) rfl rfl ?_
      show Steps _ _ _ (T337.setTop (mkF m 135 _ [.ref b315])) _
      refine XS.aload X337.here hx rfl (hb hby at_135) rfl rfl ?_
      show Steps _ _ _ (T337.setTop (mkF m 137 _ [.null, .ref b315])) _
      refine st344.trans ?_
      exact kk
    obtain ⟨_, _, ⟨T352, L352, k352, n352⟩, -, X352, ⟨Lc352, hQ352, l352, y352, z352⟩, st352⟩ := Jvm.LawKit.callS X344 hx (y := (⟨"com/example/kalip/kalip/recordshop/api/ArtistDto", "item", "(Lcom/example/kalip/kalip/recordshop/domain/Artist;)Lcom/example/kalip/kalip/recordshop/api/ArtistDto$Item;"⟩ : MethodName)) hown (mvT hZ (W 39 rfl)) (mvT hZ (W 40 rfl)) (mvT hZ (W 41 rfl)) (mvT hZ (W 42 rfl)) (by decide) (backOf (W := 0) (rm_itemN l Z a0 hw [] b315 p1 T344.heap n0 Z348 gE344 gI344 gN344) hZ (W 42 rfl) (W 41 rfl) (by decide) (by decide)) (g := (mkF m 142 #[iv p1, .val (.long q2), .second, iv p3, iv p4, iv p5, iv nn, iv ((own_ushr p5 (1 : Int32)) &&& (3 : Int32)), rv b193, rv b213, .val .null, rv b315, .unset, .unset] [.ref b315])) rfl (by rw [hml]; rfl) (argsL := [.ref b315]) (rest := []) (lenOf own_pd_5 rfl) rfl (by show 2 * 0 + _ ≤ _; exact Nat.le_of_eq rfl) (hb hby at_142) (fun _ _ => ⟨rfl, rfl, (by decide : 3 + 1 ≤ _), (by decide : 6 + 2 ≤ _)⟩)
    dsimp only [Pt.U, Pt.locs, Pt.cells, Pt.slots] at X352 l352 y352 z352 st352 hQ352
    subst l352 y352 z352
    obtain ⟨b352, hv352, Nq352, K352, sb352, gE352, gI352, gN352⟩ := hQ352
    subst hv352
    have N352 := Fr.app N344 Nq352
    have g353 : n0 ≤ b352 := Nat.le_trans Z348 sb352
    have CR354 := CR345.trans (CHr.keep K352 all0 CR345.1)
    have Z355 : n0 ≤ T352.heap.size := Nat.le_trans Z348 K352.1
    have O356 : Old Z n0 T352.heap := O349.keep K352 all0
    have hk357 := Nat.le_trans hk350 K352.1
    obtain ⟨cq358, kq358, q358a, q358b, q358c⟩ := isOf hZ rfl gE352
    obtain ⟨_, _, ⟨T358, L358, k358, n358⟩, -, X358, ⟨Lc358, hQ358, l358, y358, z358⟩, st358⟩ := X352.virtualBack hx (y := (⟨"com/example/kalip/kalip/recordshop/api/ArtistDto$Item", "id", "()I"⟩ : MethodName)) (z := (⟨"com/example/kalip/kalip/recordshop/api/ArtistDto$Item", "id", "()I"⟩ : MethodName)) hown (mvT hZ (W 69 rfl)) (mvT hZ (W 70 rfl)) (notFace_of_selects (args := #[]) (mvT hZ (W 72 rfl))) (mvT hZ (W 72 rfl)) (mvT hZ (W 71 rfl)) (by decide) (backOf (W := 0) (rm_itid l Z a0 hw [] b352 p1 T352.heap n0 Z355 gI352) hZ (W 73 rfl) (W 45 rfl) (by decide) (by decide)) q358a q358c (g := (mkF m 156 #[iv p1, .val (.long q2), .second, iv p3, iv p4, iv p5, iv nn, iv ((own_ushr p5 (1 : Int32)) &&& (3 : Int32)), rv b193, rv b213, .val .null, rv b315, rv b352, .unset] [.ref b352])) rfl (by rw [hml]; rfl) (Steps.refl _) (argsL := []) (rest := []) (lenOf own_pd_6 rfl) rfl (by show 2 * 0 + _ ≤ _; exact Nat.le_of_eq rfl) (hb hby at_156) (fun _ _ => ⟨rfl, rfl, (by decide : 4 + 0 ≤ _), (by decide : 8 + 0 ≤ _)⟩)
    dsimp only [Pt.U, Pt.locs, Pt.cells, Pt.slots] at X358 l358 y358 z358 st358 hQ358
    subst l358 y358 z358
    obtain ⟨rfl, Nq358, e358⟩ := hQ358
    have N358 := Fr.app N352 Nq358
    have f359 := (gI344.keep K352 nin0)
    have f361 := (gE344.keep K352)
    obtain ⟨cq360, kq360, q360a, q360b, q360c⟩ := isOf hZ e358 f361
    obtain ⟨_, _, ⟨T360, L360, k360, n360⟩, -, X360, ⟨Lc360, hQ360, l360, y360, z360⟩, st360⟩ := X358.virtualBack hx (y := (⟨"com/example/kalip/kalip/recordshop/domain/Artist", "getId", "()I"⟩ : MethodName)) (z := (⟨"com/example/kalip/kalip/recordshop/domain/Artist", "getId", "()I"⟩ : MethodName)) hown (mvT hZ (W 74 rfl)) (mvT hZ (W 47 rfl)) (notFace_of_selects (args := #[]) (mvT hZ (W 49 rfl))) (mvT hZ (W 49 rfl)) (mvT hZ (W 48 rfl)) (by decide) (backOf (W := 0) (rm_getid l Z a0 hw [] b315 p1 T352.heap n0 Z355 f359) hZ (W 50 rfl) (W 3 rfl) (by decide) (by decide)) q360a q360c (g := (mkF m 167 #[iv p1, .val (.long q2), .second, iv p3, iv p4, iv p5, iv nn, iv ((own_ushr p5 (1 : Int32)) &&& (3 : Int32)), rv b193, rv b213, .val .null, rv b315, rv b352, .unset] [.ref b315])) rfl (by rw [hml]; rfl) (Steps.refl _) (argsL := []) (rest := []) (lenOf own_pd_6 rfl) rfl (by show 2 * 0 + _ ≤ _; exact Nat.le_of_eq rfl) (hb hby at_167) (fun _ _ => ⟨rfl, e358, (by decide : 4 + 0 ≤ _), (by decide : 8 + 0 ≤ _)⟩)
    dsimp only [Pt.U, Pt.locs, Pt.cells, Pt.slots] at X360 l360 y360 z360 st360 hQ360
    subst l360 y360 z360
    obtain ⟨rfl, Nq360, e360⟩ := hQ360
    have N360 := Fr.app N358 Nq360
    have f362 := (gN344.keep K352 nin0)
    obtain ⟨cq363, kq363, q363a, q363b, q363c⟩ := isOf hZ e360 f361
    obtain ⟨_, _, ⟨T363, L363, k363, n363⟩, -, X363, ⟨Lc363, hQ363, l363, y363, z363⟩, st363⟩ := X360.virtualBack hx (y := (⟨"com/example/kalip/kalip/recordshop/domain/Artist", "getName", "()Ljava/lang/String;"⟩ : MethodName)) (z := (⟨"com/example/kalip/kalip/recordshop/domain/Artist", "getName", "()Ljava/lang/String;"⟩ : MethodName)) hown (mvT hZ (W 75 rfl)) (mvT hZ (W 52 rfl)) (notFace_of_selects (args := #[]) (mvT hZ (W 54 rfl))) (mvT hZ (W 54 rfl)) (mvT hZ (W 53 rfl)) (by decide) (backOf (W := 0) (rm_getnmN l Z a0 hw [] b315 T352.heap n0 Z355 f362) hZ (W 55 rfl) (W 3 rfl) (by decide) (by decide)) q363a q363c (g := (mkF m 176 #[iv p1, .val (.long q2), .second, iv p3, iv p4, iv p5, iv nn, iv ((own_ushr p5 (1 : Int32)) &&& (3 : Int32)), rv b193, rv b213, .val .null, rv b315, rv b352, .unset] [.ref b315])) rfl (by rw [hml]; rfl) (Steps.refl _) (argsL := []) (rest := []) (lenOf own_pd_7 rfl) rfl (by show 2 * 0 + _ ≤ _; exact Nat.le_of_eq rfl) (hb hby at_176) (fun _ _ => ⟨rfl, e360, (by decide : 4 + 0 ≤ _), (by decide : 8 + 0 ≤ _)⟩)
    dsimp only [Pt.U, Pt.locs, Pt.cells, Pt.slots] at X363 l363 y363 z363 st363 hQ363
    subst l363 y363 z363
    obtain ⟨rfl, Nq363, e363⟩ := hQ363
    have N363 := Fr.app N360 Nq363
    obtain ⟨cq364, kq364, q364a, q364b, q364c⟩ := isOf hZ e363 gE352
    obtain ⟨_, _, ⟨T364, L364, k364, n364⟩, -, X364, ⟨Lc364, hQ364, l364, y364, z364⟩, st364⟩ := X363.virtualBack hx (y := (⟨"com/example/kalip/kalip/recordshop/api/ArtistDto$Item", "name", "()Ljava/lang/String;"⟩ : MethodName)) (z := (⟨"com/example/kalip/kalip/recordshop/api/ArtistDto$Item", "name", "()Ljava/lang/String;"⟩ : MethodName)) hown (mvT hZ (W 76 rfl)) (mvT hZ (W 77 rfl)) (notFace_of_selects (args := #[]) (mvT hZ (W 79 rfl))) (mvT hZ (W 79 rfl)) (mvT hZ (W 78 rfl)) (by decide) (backOf (W := 0) (rm_itnmN l Z a0 hw [] b352 T352.heap n0 Z355 gN352) hZ (W 80 rfl) (W 45 rfl) (by decide) (by decide)) q364a q364c (g := (mkF m 188 #[iv p1, .val (.long q2), .second, iv p3, iv p4, iv p5, iv nn, iv ((own_ushr p5 (1 : Int32)) &&& (3 : Int32)), rv b193, rv b213, .val .null, rv b315, rv b352, .unset] [.ref b352])) rfl (by rw [hml]; rfl) (Steps.refl _) (argsL := []) (rest := []) (lenOf own_pd_7 rfl) rfl (by show 2 * 0 + _ ≤ _; exact Nat.le_of_eq rfl) (hb hby at_188) (fun _ _ => ⟨rfl, e363, (by decide : 4 + 0 ≤ _), (by decide : 8 + 0 ≤ _)⟩)
    dsimp only [Pt.U, Pt.locs, Pt.cells, Pt.slots] at X364 l364 y364 z364 st364 hQ364
    subst l364 y364 z364
    obtain ⟨rfl, Nq364, e364⟩ := hQ364
    have N364 := Fr.app N363 Nq364
    have CRe := CR354.trans (CHv.at X364 hZ hEL CR354.1)
    obtain ⟨fs, hr, hrun, hended, hRW⟩ := X364.leaveW hS0 (by rw [e364]; exact hk357) (v := some (.int (1 : Int32))) (fun h => by rw [Bd.returns] at h; cases h)
    refine ⟨_, _, pre0 _ (G190 _ (G6 _ (G219 _ (G314 _ (G351 _ (?_)))))), hrun, hended, _, _, rfl, ?_, (by rw [hh]; show CHr Z _ s.vm h0 T364.vm T364.heap; rw [e364]; exact CRe), hRW.1, hRW.2.1, hRW.2.2.1, hRW.2.2.2.mono (by decide) (by decide)⟩
    · show Steps p.tables e below (T344.setTop (mkF m 140 #[iv p1, .val (.long q2), .second, iv p3, iv p4, iv p5, iv nn, iv ((own_ushr p5 (1 : Int32)) &&& (3 : Int32)), rv b193, rv b213, .val .null, rv b315, .unset, .unset] [])) _
      refine XS.aload X344.here hx rfl (hb hby at_140) rfl rfl ?_
      show Steps _ _ _ (T344.setTop (mkF m 142 _ [.ref b315])) _
      refine st352 _ ?_
      show Steps p.tables e below (T352.setTop (mkF m 145 #[iv p1, .val (.long q2), .second, iv p3, iv p4, iv p5, iv nn, iv ((own_ushr p5 (1 : Int32)) &&& (3 : Int32)), rv b193, rv b213, .val .null, rv b315, .unset, .unset] [.ref b352])) _
      refine XS.astore X352.here hx rfl (hb hby at_145) rfl rfl (l' := #[iv p1, .val (.long q2), .second, iv p3, iv p4, iv p5, iv nn, iv ((own_ushr p5 (1 : Int32)) &&& (3 : Int32)), rv b193, rv b213, .val .null, rv b315, rv b352, .unset]) rfl ?_
      show Steps _ _ _ (T352.setTop (mkF m 147 _ [])) _
      refine XS.aload X352.here hx rfl (hb hby at_147) rfl rfl ?_
      show Steps _ _ _ (T352.setTop (mkF m 149 _ [.ref b352])) _
      refine XS.ifnonnullYes X352.here hx rfl (pc0 := 149) (pc' := 154) rfl (hb hby at_149) rfl (by decide) (by decide) ?_
      show Steps _ _ _ (T352.setTop (mkF m 154 _ [])) _
      refine XS.aload X352.here hx rfl (hb hby at_154) rfl rfl ?_
      show Steps _ _ _ (T352.setTop (mkF m 156 _ [.ref b352])) _
      refine st358.trans ?_
      show Steps p.tables e below (T358.setTop (mkF m 159 #[iv p1, .val (.long q2), .second, iv p3, iv p4, iv p5, iv nn, iv ((own_ushr p5 (1 : Int32)) &&& (3 : Int32)), rv b193, rv b213, .val .null, rv b315, rv b352, .unset] [.int p1])) _
      refine XS.iloadN X358.here hx rfl (hb hby at_159) rfl ?_
      show Steps _ _ _ (T358.setTop (mkF m 160 _ [.int p1, .int p1])) _
      refine XS.icmpYes X358.here hx rfl (pc0 := 160) (pc' := 165) rfl (hb hby at_160) rfl (teq (rfl : p1 = p1)).1 (by decide) (by decide) ?_
      show Steps _ _ _ (T358.setTop (mkF m 165 _ [])) _
      refine XS.aload X358.here hx rfl (hb hby at_165) rfl rfl ?_
      show Steps _ _ _ (T358.setTop (mkF m 167 _ [.ref b315])) _
      refine st360.trans ?_
      show Steps p.tables e below (T360.setTop (mkF m 170 #[iv p1, .val (.long q2), .second, iv p3, iv p4, iv p5, iv nn, iv ((own_ushr p5 (1 : Int32)) &&& (3 : Int32)), rv b193, rv b213, .val .null, rv b315, rv b352, .unset] [.int p1])) _
      refine XS.iloadN X360.here hx rfl (hb hby at_170) rfl ?_
      show Steps _ _ _ (T360.setTop (mkF m 171 _ [.int p1, .int p1])) _
      refine XS.icmpNo X360.here hx rfl (hb hby at_171) rfl (teq (rfl : p1 = p1)).2 ?_
      show Steps _ _ _ (T360.setTop (mkF m 174 _ [])) _
      refine XS.aload X360.here hx rfl (hb hby at_174) rfl rfl ?_
      show Steps _ _ _ (T360.setTop (mkF m 176 _ [.ref b315])) _
      refine st363.trans ?_
      show Steps p.tables e below (T363.setTop (mkF m 179 #[iv p1, .val (.long q2), .second, iv p3, iv p4, iv p5, iv nn, iv ((own_ushr p5 (1 : Int32)) &&& (3 : Int32)), rv b193, rv b213, .val .null, rv b315, rv b352, .unset] [.null])) _
      refine XS.aload X363.here hx rfl (hb hby at_179) rfl rfl ?_
      show Steps _ _ _ (T363.setTop (mkF m 181 _ [.null, .null])) _
      refine Jvm.RoadKit.acmp (g := (mkF m 181 #[iv p1, .val (.long q2), .second, iv p3, iv p4, iv p5, iv nn, iv ((own_ushr p5 (1 : Int32)) &&& (3 : Int32)), rv b193, rv b213, .val .null, rv b315, rv b352, .unset] [.null, .null])) X363 hx rfl rfl rfl (pc0 := 181) (pc' := 186) (same := true) rfl (hb hby at_181) rfl (decide_eq_true rfl) (by decide) (by decide) ?_
      show Steps p.tables e below (T363.setTop (mkF m 186 #[iv p1, .val (.long q2), .second, iv p3, iv p4, iv p5, iv nn, iv ((own_ushr p5 (1 : Int32)) &&& (3 : Int32)), rv b193, rv b213, .val .null, rv b315, rv b352, .unset] [])) _
      refine XS.aload X363.here hx rfl (hb hby at_186) rfl rfl ?_
      show Steps _ _ _ (T363.setTop (mkF m 188 _ [.ref b352])) _
      refine st364.trans ?_
      show Steps p.tables e below (T364.setTop (mkF m 191 #[iv p1, .val (.long q2), .second, iv p3, iv p4, iv p5, iv nn, iv ((own_ushr p5 (1 : Int32)) &&& (3 : Int32)), rv b193, rv b213, .val .null, rv b315, rv b352, .unset] [.null])) _
      refine XS.astore X364.here hx rfl (hb hby at_191) rfl rfl (l' := #[iv p1, .val (.long q2), .second, iv p3, iv p4, iv p5, iv nn, iv ((own_ushr p5 (1 : Int32)) &&& (3 : Int32)), rv b193, rv b213, .val .null, rv b315, rv b352, .val .null]) rfl ?_
      show Steps _ _ _ (T364.setTop (mkF m 193 _ [])) _
      refine XS.aload X364.here hx rfl (hb hby at_193) rfl rfl ?_
      show Steps _ _ _ (T364.setTop (mkF m 195 _ [.null])) _
      refine XS.ifnonnullNo X364.here hx rfl (hb hby at_195) rfl ?_
      show Steps _ _ _ (T364.setTop (mkF m 198 _ [])) _
      refine XS.aload X364.here hx rfl (hb hby at_198) rfl rfl ?_
      show Steps _ _ _ (T364.setTop (mkF m 200 _ [.null])) _
      refine XS.ifnonnullNo X364.here hx rfl (hb hby at_200) rfl ?_
      show Steps _ _ _ (T364.setTop (mkF m 203 _ [])) _
      refine XS.iconst X364.here hx rfl (hb hby at_203) ?_
      show Steps _ _ _ (T364.setTop (mkF m 204 _ [.int 1])) _
      refine XS.goto X364.here hx rfl (pc0 := 204) (pc' := 208) rfl (hb hby at_204) (by decide) (by decide) ?_
      show Steps _ _ _ (T364.setTop (mkF m 208 _ [.int 1])) _
      exact retN X364 hx (t := .boolean) Bd.returns (by simp) (hb hby at_208) hr
    · show Q_law Z p1 q2 p3 p4 p5 G1 em h0 n0 _ T364.heap _
      rw [e364]
      exact ⟨rfl, N364⟩
set_option maxRecDepth 65536 in
set_option maxHeartbeats 40000000 in
theorem comes_1 {Post : Tables → Env → Array Value → State → Outcome → State → Prop} (hpost : ∀ tb e args s v u, (limb_1_1.after args s (.returned v) u = true ∧ limb_1_2.after args s (.returned v) u = true ∧ True) → ReturnedEndW s (.returned v) u (Jvm.fieldLocs frame_1_writes args s ++ Jvm.arrayLocs frame_1_arrays args s ++ Jvm.staticLocs frame_1_statics s) 24 1152 → Post tb e args s (.returned v) u) :
    ArmFor flags0 classFile x code maxLocals ret World_1 tables_1 room_1 Calls_1 rest_1 Pre_1 Post := by
  intro l hfl _ _ p e ha hc hk s m args below hf hA hF happ hP
  obtain ⟨hcalls, hrest, hpre⟩ := hP
  obtain ⟨-, -, -, hnamed, -, -, -, hat⟩ := (Spec.applies_iff hf).mp happ
  obtain ⟨hg, hn⟩ := and_e (Cond.before_iff.mp (show (Jvm.Cond.and given_1 narrow_1).before args s = true from hpre))
  obtain ⟨hcount, hg0⟩ := and_e hg
  obtain ⟨hi0, hg1⟩ := and_e hg0
  obtain ⟨hi1, hg2⟩ := and_e hg1
  obtain ⟨hi2, hg3⟩ := and_e hg2
  obtain ⟨hi3, hg4⟩ := and_e hg3
  have hi4 := hg4
  obtain ⟨w0, w1, w2, w3, w4, rfl⟩ : ∃ w0 w1 w2 w3 w4 : Value, args = #[w0, w1, w2, w3, w4] := by
    have hs : args.size = 5 := by simpa [Cond.value, given_1] using hcount
    obtain ⟨L⟩ := args
    match L, hs with
    | [w0, w1, w2, w3, w4], _ => exact ⟨w0, w1, w2, w3, w4, rfl⟩
  have hw := fun d (hd : d ∈ tables_1) => atoms_spec (ws := Jvm.Cond.code x code maxLocals ret :: tables_1) hat d (List.mem_cons_of_mem _ hd)
  obtain ⟨hsets, hown0⟩ := atoms_of _ (rest_1_c_eq ▸ (show rest_1_c.before _ s = true from hrest))
  obtain ⟨i0, ei0⟩ := is_v hi0
  obtain rfl : w0 = (.int i0) := Option.some.inj ei0
  obtain ⟨i1, ei1⟩ := isL_v hi1
  obtain rfl : w1 = (.long i1) := Option.some.inj ei1
  obtain ⟨i2, ei2⟩ := is_v hi2
  obtain rfl : w2 = (.int i2) := Option.some.inj ei2
  obtain ⟨i3, ei3⟩ := is_v hi3
  obtain rfl : w3 = (.int i3) := Option.some.inj ei3
  obtain ⟨i4, ei4⟩ := is_v hi4
  obtain rfl : w4 = (.int i4) := Option.some.inj ei4
  have n3 := not_v (Cond.before_iff.mp (hsets _ (List.mem_of_getElem? (i := 9) rfl)))
  obtain ⟨iC, eC⟩ := is_v (Cond.before_iff.mp (hsets _ (List.mem_of_getElem? (i := 8) rfl)))
  have SC : Sta s s.heap "java/lang/String" "COMPACT_STRINGS" "Z" (.int iC) := Sta.start eC (Or.inl (hsets _ (List.mem_of_getElem? (i := 7) rfl)))
  have nC : ¬ (iC = (0 : Int32)) := gotF (Cond.eq_ints eC (Term.int_eval (0))) n3
  obtain ⟨em, eE⟩ : ∃ em, (Jvm.Term.static "java/util/ImmutableCollections" "EMPTY_LIST" "Ljava/util/ImmutableCollections$ListN;").eval #[.int i0, .long i1, .int i2, .int i3, .int i4] s none [] s = some (.ref em) := by
    obtain ⟨a', c', cell, k, e1, -⟩ := Cond.exactly_spec (hsets _ (List.mem_of_getElem? (i := 2) rfl))
    exact ⟨a', e1⟩
  have SE : Sta s s.heap "java/util/ImmutableCollections" "EMPTY_LIST" "Ljava/util/ImmutableCollections$ListN;" (.ref em) := Sta.start eE (Or.inl (hsets _ (List.mem_of_getElem? (i := 1) rfl)))
  have hcw : Jvm.Lit.compactW.before _ s = true := hsets _ (List.mem_of_getElem? (i := 9) rfl)
  have hCH : CHv s own_EL s.vm s.heap := CHv.start (own_EW hw) (fun p hp => hcalls.1 p hp) hcw (own_W hw 95 rfl) (own_W hw 91 rfl)
  obtain ⟨n, o, h1, h2, h3, _, L, rfl, ⟨rfl, N⟩, -, hq⟩ := rm_law l s _ hw tables_1 i0 i1 i2 i3 i4 iC em s.heap s.heap.size (Nat.le_refl _) (Old.start s) SC nC SE p e ha hc hk s m _ below hf ((Spec.applies_iff_loose hf).mp happ).1 ⟨rfl, State.Warmed39.refl s, rfl, hCH, fun x hx => by cases hx⟩ trivial
  refine ⟨n, _, h1, h2, h3, hpost _ _ _ _ _ _ ⟨Cond.after_iff.mpr rfl, Cond.after_iff.mpr (eq_i res_at (Term.int_eval (1)) rfl), trivial⟩ ⟨hq.1, hq.2.1, hq.2.2.1, (hq.2.2.2.sift fun y hy => Or.inr (N y hy)).mono (by decide) (by decide)⟩⟩
theorem main_1_1 : Claimed_1_1 := comes_1 fun _ _ _ _ _ _ h hF => ⟨h.1, hF⟩
theorem main_1_2 : Claimed_1_2 := comes_1 fun _ _ _ _ _ _ h hF => ⟨h.2.1, hF⟩
end Jvm.Pilot.@@N@@
namespace Jvm.Pilot.@@N@@
open Jvm Jvm.ClassFile Sem Op Lib Jvm.Free Jvm.Stand Jvm.Pilot.@@N@@.Jvm.D
/-! MADE BY PROGRAM (witnessworld.py) out of the Statement's table words and the real class files: 34 classes; the members and pool entries that the words name. The judged class is class 1, her method 1. -/
namespace start1
open Jvm.ClassFile
def u (s : String) : CpInfo := .utf8 (stringToUtf16 s)
/-- a pool by its gaps: so many unusable entries, then the entry; so many at the end -/
def gap : Nat → List CpInfo → List CpInfo
  | 0, r => r
  | n + 1, r => .unusable :: gap n r
def poolList (es : List (Nat × CpInfo)) (last : Nat) : List CpInfo := es.foldr (fun e r => gap e.1 (e.2 :: r)) (gap last [])
def pool (es : List (Nat × CpInfo)) (last : Nat) : Array CpInfo := ⟨poolList es last⟩
def fileOf (pool : Array CpInfo) (this : Nat) (attrs : Array Attribute := #[]) (ms : Array MethodInfo := #[]) (fl : Nat := 33) (sup : Nat := 0) (ifs : Array Nat := #[]) (fds : Array FieldInfo := #[]) : ClassFile where
  minorVersion := 0
  majorVersion := 65
  constantPool := pool
  accessFlags := fl
  thisClass := this
  superClass := sup
  interfaces := ifs
  fields := fds
  methods := ms
  attributes := attrs
def plain (name : String) (sup : Option ClassId) : Class where
  name := name
  kind := .ordinary
  loader := none
  accessFlags := 33
  super := sup
  interfaces := #[]
  cf := none
  fields := #[]
  methods := #[]
  instanceTypes := #[]
  staticTypes := #[]
  resolved := #[]
  callSites := []
  init := .initialized
  statics := none
  mirror := none

def pool0 : Array CpInfo := pool [(5, u "<init>"), (0, u "()V"), (1, .class_ 10), (1, u "java/lang/Object")] 113

def k0c0 : Code := { maxStack := 0, maxLocals := 1, code := object_method_1_code, exceptionTable := #[], attributes := #[] }
def k0m0 : Method := { name := "<init>", desc := "()V", sig := { parameters := [], returnType := none }, accessFlags := 1, code := some k0c0 }
/-- java/lang/Object -/
def k0 : Class := { plain "java/lang/Object" none with
  accessFlags := 33
  interfaces := #[]
  cf := some (fileOf pool0 8 #[] #[{ accessFlags := 1, nameIndex := 5, descriptorIndex := 6, attributes := #[] }] 33 0 #[] #[])
  fields := #[]
  methods := #[k0m0]
  instanceTypes := #[]
  staticTypes := #[]
  resolved := Array.replicate 124 none
  statics := none }

def pool1 : Array CpInfo := pool [(2, .class_ 4), (0, .nameAndType 5 6), (0, u "java/lang/Object"), (0, u "<init>"), (0, u "()V"), (0, .class_ 8), (0, u "java/lang/String"), (0, .methodref 7 10), (0, .nameAndType 5 11), (0, u "([C)V"), (0, .methodref 7 13), (0, .nameAndType 14 15), (0, u "valueOf"), (0, u "(C)Ljava/lang/String;"), (0, .class_ 17), (0, u "com/example/kalip/kalip/recordshop/domain/Artist"), (0, .methodref 16 3), (0, .methodref 16 20), (0, .nameAndType 21 22), (0, u "setId"), (0, u "(I)V"), (0, .methodref 16 24), (0, .nameAndType 25 26), (0, u "setVersion"), (0, u "(J)V"), (0, .methodref 16 28), (0, .nameAndType 29 30), (0, u "setName"), (0, u "(Ljava/lang/String;)V"), (0, .methodref 32 33), (0, .class_ 34), (0, .nameAndType 35 36), (0, u "com/example/kalip/kalip/recordshop/api/ArtistDto"), (0, u "item"), (0, u "(Lcom/example/kalip/kalip/recordshop/domain/Artist;)Lcom/example/kalip/kalip/recordshop/api/ArtistDto$Item;"), (0, .methodref 38 39), (0, .class_ 40), (0, .nameAndType 41 42), (0, u "com/example/kalip/kalip/recordshop/api/ArtistDto$Item"), (0, u "id"), (0, u "()I"), (0, .methodref 16 44), (0, .nameAndType 45 42), (0, u "getId"), (0, .methodref 16 47), (0, .nameAndType 48 49), (0, u "getName"), (0, u "()Ljava/lang/String;"), (0, .methodref 38 51), (0, .nameAndType 52 49), (0, u "name"), (0, .methodref 7 54), (0, .nameAndType 55 42), (0, u "length"), (0, .methodref 7 57), (0, .nameAndType 58 59), (0, u "equals"), (0, u "(Ljava/lang/Object;)Z"), (0, .class_ 61), (0, u "com/example/kalip/kalip/recordshop/api/ArtistDtoItemPinLaw"), (2, u "law"), (0, u "(IJIII)Z")] 7

def k1m0 : Method := { name := "<init>", desc := "()V", sig := { parameters := [], returnType := none }, accessFlags := 1, code := none }
def k1c1 : Code := { maxStack := 4, maxLocals := 14, code := code, exceptionTable := #[], attributes := #[] }
def k1m1 : Method := { name := "law", desc := "(IJIII)Z", sig := { parameters := [.int, .long, .int, .int, .int], returnType := some .boolean }, accessFlags := 9, code := some k1c1 }
/-- com/example/kalip/kalip/recordshop/api/ArtistDtoItemPinLaw -/
def k1 : Class := { plain "com/example/kalip/kalip/recordshop/api/ArtistDtoItemPinLaw" (some 0) with
  accessFlags := 49
  interfaces := #[]
  cf := some (fileOf pool1 60 #[] #[{ accessFlags := 1, nameIndex := 5, descriptorIndex := 6, attributes := #[] }, { accessFlags := 9, nameIndex := 64, descriptorIndex := 65, attributes := #[] }] 49 2 #[] #[])
  fields := #[]
  methods := #[k1m0, k1m1]
  instanceTypes := #[]
  staticTypes := #[]
  resolved := Array.replicate 73 none
  statics := none }

def pool2 : Array CpInfo := pool [(1, .methodref 2 3), (0, .class_ 4), (0, .nameAndType 5 6), (0, u "java/lang/Object"), (0, u "<init>"), (0, u "()V"), (0, .interfaceMethodref 8 9), (0, .class_ 10), (0, .nameAndType 11 12), (0, u "java/util/List"), (0, u "of"), (0, u "()Ljava/util/List;"), (0, .fieldref 14 15), (0, .class_ 16), (0, .nameAndType 17 18), (0, u "com/example/kalip/kalip/recordshop/domain/Artist"), (0, u "albums"), (0, u "Ljava/util/List;"), (0, .fieldref 14 20), (0, .nameAndType 21 22), (0, u "id"), (0, u "I"), (0, .fieldref 14 24), (0, .nameAndType 25 26), (0, u "name"), (0, u "Ljava/lang/String;"), (0, .fieldref 14 28), (0, .nameAndType 29 30), (0, u "version"), (0, u "J"), (4, u "getId"), (0, u "()I"), (0, u "setId"), (0, u "(I)V"), (0, u "getName"), (0, u "()Ljava/lang/String;"), (0, u "setName"), (0, u "(Ljava/lang/String;)V"), (2, u "setVersion"), (0, u "(J)V")] 7

def k2c0 : Code := { maxStack := 2, maxLocals := 1, code := prog_67_method_1_code, exceptionTable := #[], attributes := #[] }
def k2m0 : Method := { name := "<init>", desc := "()V", sig := { parameters := [], returnType := none }, accessFlags := 1, code := some k2c0 }
def k2c1 : Code := { maxStack := 1, maxLocals := 1, code := prog_67_method_2_code, exceptionTable := #[], attributes := #[] }
def k2m1 : Method := { name := "getId", desc := "()I", sig := { parameters := [], returnType := some .int }, accessFlags := 1, code := some k2c1 }
def k2c2 : Code := { maxStack := 2, maxLocals := 2, code := prog_67_method_3_code, exceptionTable := #[], attributes := #[] }
def k2m2 : Method := { name := "setId", desc := "(I)V", sig := { parameters := [.int], returnType := none }, accessFlags := 1, code := some k2c2 }
def k2c3 : Code := { maxStack := 1, maxLocals := 1, code := prog_67_method_4_code, exceptionTable := #[], attributes := #[] }
def k2m3 : Method := { name := "getName", desc := "()Ljava/lang/String;", sig := { parameters := [], returnType := some (.object "java/lang/String") }, accessFlags := 1, code := some k2c3 }
def k2c4 : Code := { maxStack := 2, maxLocals := 2, code := prog_67_method_5_code, exceptionTable := #[], attributes := #[] }
def k2m4 : Method := { name := "setName", desc := "(Ljava/lang/String;)V", sig := { parameters := [(.object "java/lang/String")], returnType := none }, accessFlags := 1, code := some k2c4 }
def k2c5 : Code := { maxStack := 3, maxLocals := 3, code := prog_67_method_7_code, exceptionTable := #[], attributes := #[] }
def k2m5 : Method := { name := "setVersion", desc := "(J)V", sig := { parameters := [.long], returnType := none }, accessFlags := 1, code := some k2c5 }
/-- com/example/kalip/kalip/recordshop/domain/Artist -/
def k2 : Class := { plain "com/example/kalip/kalip/recordshop/domain/Artist" (some 0) with
  accessFlags := 49
  interfaces := #[]
  cf := some (fileOf pool2 14 #[] #[{ accessFlags := 1, nameIndex := 5, descriptorIndex := 6, attributes := #[] }, { accessFlags := 1, nameIndex := 35, descriptorIndex := 36, attributes := #[] }, { accessFlags := 1, nameIndex := 37, descriptorIndex := 38, attributes := #[] }, { accessFlags := 1, nameIndex := 39, descriptorIndex := 40, attributes := #[] }, { accessFlags := 1, nameIndex := 41, descriptorIndex := 42, attributes := #[] }, { accessFlags := 1, nameIndex := 45, descriptorIndex := 46, attributes := #[] }] 49 2 #[] #[{ accessFlags := 2, nameIndex := 21, descriptorIndex := 22, attributes := #[] }, { accessFlags := 2, nameIndex := 25, descriptorIndex := 26, attributes := #[] }, { accessFlags := 2, nameIndex := 29, descriptorIndex := 30, attributes := #[] }, { accessFlags := 2, nameIndex := 17, descriptorIndex := 18, attributes := #[] }])
  fields := #[{ name := "id", type := .int, accessFlags := 2, slot := 0, constantValue := 0 }, { name := "name", type := (.object "java/lang/String"), accessFlags := 2, slot := 1, constantValue := 0 }, { name := "version", type := .long, accessFlags := 2, slot := 2, constantValue := 0 }, { name := "albums", type := (.object "java/util/List"), accessFlags := 2, slot := 3, constantValue := 0 }]
  methods := #[k2m0, k2m1, k2m2, k2m3, k2m4, k2m5]
  instanceTypes := #[.int, (.object "java/lang/String"), .long, (.object "java/util/List")]
  staticTypes := #[]
  resolved := Array.replicate 54 none
  statics := none }

def pool3 : Array CpInfo := pool [(8, .class_ 10), (1, u "java/lang/Iterable"), (24, .class_ 36), (0, u "java/lang/Object")] 25

/-- java/lang/Iterable -/
def k3 : Class := { plain "java/lang/Iterable" (some 0) with
  accessFlags := 1537
  interfaces := #[]
  cf := some (fileOf pool3 8 #[] #[] 1537 35 #[] #[])
  fields := #[]
  methods := #[]
  instanceTypes := #[]
  staticTypes := #[]
  resolved := Array.replicate 62 none
  statics := none }

def pool4 : Array CpInfo := pool [(10, .class_ 12), (1, u "java/util/Collection"), (47, .class_ 61), (0, u "java/lang/Object"), (0, .class_ 63), (0, u "java/lang/Iterable")] 51

/-- java/util/Collection -/
def k4 : Class := { plain "java/util/Collection" (some 0) with
  accessFlags := 1537
  interfaces := #[3]
  cf := some (fileOf pool4 10 #[] #[] 1537 60 #[62] #[])
  fields := #[]
  methods := #[]
  instanceTypes := #[]
  staticTypes := #[]
  resolved := Array.replicate 115 none
  statics := none }

def pool5 : Array CpInfo := pool [(8, .class_ 10), (1, u "java/util/SequencedCollection"), (15, .class_ 27), (0, u "java/lang/Object"), (0, .class_ 29), (0, u "java/util/Collection")] 27

/-- java/util/SequencedCollection -/
def k5 : Class := { plain "java/util/SequencedCollection" (some 0) with
  accessFlags := 1537
  interfaces := #[4]
  cf := some (fileOf pool5 8 #[] #[] 1537 26 #[28] #[])
  fields := #[]
  methods := #[]
  instanceTypes := #[]
  staticTypes := #[]
  resolved := Array.replicate 57 none
  statics := none }

def pool6 : Array CpInfo := pool [(8, .class_ 10), (1, u "java/util/List"), (77, u "of"), (1, .fieldref 91 92), (0, .class_ 93), (0, .nameAndType 94 95), (0, u "java/util/ImmutableCollections"), (0, u "EMPTY_LIST"), (0, u "Ljava/util/ImmutableCollections$ListN;"), (7, .class_ 104), (0, u "java/lang/Object"), (14, u "()Ljava/util/List;"), (0, .class_ 121), (0, u "java/util/SequencedCollection")] 129

def k6c0 : Code := { maxStack := 1, maxLocals := 0, code := jdk_40_method_36_code, exceptionTable := #[], attributes := #[] }
def k6m0 : Method := { name := "of", desc := "()Ljava/util/List;", sig := { parameters := [], returnType := some (.object "java/util/List") }, accessFlags := 9, code := some k6c0 }
/-- java/util/List -/
def k6 : Class := { plain "java/util/List" (some 0) with
  accessFlags := 1537
  interfaces := #[5]
  cf := some (fileOf pool6 8 #[] #[{ accessFlags := 9, nameIndex := 88, descriptorIndex := 119, attributes := #[] }] 1537 103 #[120] #[])
  fields := #[]
  methods := #[k6m0]
  instanceTypes := #[]
  staticTypes := #[]
  resolved := Array.replicate 251 none
  statics := none }

def pool7 : Array CpInfo := pool [(2, .class_ 4), (1, u "java/lang/Object"), (0, u "<init>"), (0, u "()V"), (3, .class_ 11), (0, u "java/util/ImmutableCollections$List12"), (0, .class_ 13), (0, u "java/util/ImmutableCollections$ListN"), (3, u "Z"), (29, .class_ 49), (1, u "java/util/ImmutableCollections"), (0, u "$assertionsDisabled"), (5, u "[Ljava/lang/Object;"), (5, u "EMPTY_LIST"), (0, u "Ljava/util/ImmutableCollections$ListN;"), (8, u "EMPTY_LIST_NULLS"), (22, u "SALT32L"), (0, u "J"), (2, u "REVERSE"), (6, u "archivedObjects"), (2, u "EMPTY"), (0, u "Ljava/lang/Object;"), (0, .class_ 112), (0, u "java/util/ImmutableCollections$SetN"), (5, u "EMPTY_SET"), (0, u "Ljava/util/ImmutableCollections$SetN;"), (0, .class_ 121), (0, u "java/util/ImmutableCollections$MapN"), (3, u "EMPTY_MAP"), (0, u "Ljava/util/ImmutableCollections$MapN;"), (4, u "EXPAND_FACTOR"), (0, u "I"), (36, .class_ 170), (0, u "java/util/ImmutableCollections$MapN$MapNIterator"), (0, .class_ 172), (0, u "java/util/ImmutableCollections$MapN$1"), (0, .class_ 174), (0, u "java/util/ImmutableCollections$Map1"), (0, .class_ 176), (0, u "java/util/ImmutableCollections$AbstractImmutableMap"), (0, .class_ 178), (0, u "java/util/ImmutableCollections$SetN$SetNIterator"), (0, .class_ 180), (0, u "java/util/ImmutableCollections$Set12"), (0, .class_ 182), (0, u "java/util/ImmutableCollections$Set12$1"), (0, .class_ 184), (0, u "java/util/ImmutableCollections$AbstractImmutableSet"), (0, .class_ 186), (0, u "java/util/ImmutableCollections$SubList"), (0, .class_ 188), (0, u "java/util/ImmutableCollections$ListItr"), (0, .class_ 190), (0, u "java/util/ImmutableCollections$AbstractImmutableList"), (0, .class_ 192), (0, u "java/util/ImmutableCollections$AbstractImmutableCollection"), (0, .class_ 194), (0, u "java/util/ImmutableCollections$Access"), (0, .class_ 196), (0, u "java/util/ImmutableCollections$Access$1")] 16

def k7m0 : Method := { name := "<init>", desc := "()V", sig := { parameters := [], returnType := none }, accessFlags := 2, code := none }
/-- java/util/ImmutableCollections -/
def k7 : Class := { plain "java/util/ImmutableCollections" (some 0) with
  accessFlags := 32
  interfaces := #[]
  cf := some (fileOf pool7 47 #[.nestMembers #[120, 169, 171, 173, 175, 111, 177, 179, 181, 183, 12, 10, 185, 187, 189, 191, 193, 195]] #[{ accessFlags := 2, nameIndex := 5, descriptorIndex := 6, attributes := #[] }] 32 2 #[] #[{ accessFlags := 26, nameIndex := 95, descriptorIndex := 96, attributes := #[] }, { accessFlags := 26, nameIndex := 99, descriptorIndex := 17, attributes := #[] }, { accessFlags := 10, nameIndex := 106, descriptorIndex := 56, attributes := #[] }, { accessFlags := 26, nameIndex := 109, descriptorIndex := 110, attributes := #[] }, { accessFlags := 24, nameIndex := 62, descriptorIndex := 63, attributes := #[] }, { accessFlags := 24, nameIndex := 72, descriptorIndex := 63, attributes := #[] }, { accessFlags := 24, nameIndex := 118, descriptorIndex := 119, attributes := #[] }, { accessFlags := 24, nameIndex := 125, descriptorIndex := 126, attributes := #[] }, { accessFlags := 24, nameIndex := 131, descriptorIndex := 132, attributes := #[] }, { accessFlags := 4120, nameIndex := 50, descriptorIndex := 17, attributes := #[] }])
  fields := #[{ name := "SALT32L", type := .long, accessFlags := 26, slot := 0, constantValue := 0 }, { name := "REVERSE", type := .boolean, accessFlags := 26, slot := 1, constantValue := 0 }, { name := "archivedObjects", type := (.array (.object "java/lang/Object")), accessFlags := 10, slot := 2, constantValue := 0 }, { name := "EMPTY", type := (.object "java/lang/Object"), accessFlags := 26, slot := 3, constantValue := 0 }, { name := "EMPTY_LIST", type := (.object "java/util/ImmutableCollections$ListN"), accessFlags := 24, slot := 4, constantValue := 0 }, { name := "EMPTY_LIST_NULLS", type := (.object "java/util/ImmutableCollections$ListN"), accessFlags := 24, slot := 5, constantValue := 0 }, { name := "EMPTY_SET", type := (.object "java/util/ImmutableCollections$SetN"), accessFlags := 24, slot := 6, constantValue := 0 }, { name := "EMPTY_MAP", type := (.object "java/util/ImmutableCollections$MapN"), accessFlags := 24, slot := 7, constantValue := 0 }, { name := "EXPAND_FACTOR", type := .int, accessFlags := 24, slot := 8, constantValue := 0 }, { name := "$assertionsDisabled", type := .boolean, accessFlags := 4120, slot := 9, constantValue := 0 }]
  methods := #[k7m0]
  instanceTypes := #[]
  staticTypes := #[.long, .boolean, (.array (.object "java/lang/Object")), (.object "java/lang/Object"), (.object "java/util/ImmutableCollections$ListN"), (.object "java/util/ImmutableCollections$ListN"), (.object "java/util/ImmutableCollections$SetN"), (.object "java/util/ImmutableCollections$MapN"), .int, .boolean]
  resolved := Array.replicate 213 none
  statics := some 0 }

def pool8 : Array CpInfo := pool [(1, .methodref 2 3), (0, .class_ 4), (0, .nameAndType 5 6), (0, u "java/lang/Object"), (0, u "<init>"), (0, u "()V"), (0, .class_ 8), (0, u "java/lang/Record")] 13

def k8c0 : Code := { maxStack := 1, maxLocals := 1, code := jdk_30_method_1_code, exceptionTable := #[], attributes := #[] }
def k8m0 : Method := { name := "<init>", desc := "()V", sig := { parameters := [], returnType := none }, accessFlags := 4, code := some k8c0 }
/-- java/lang/Record -/
def k8 : Class := { plain "java/lang/Record" (some 0) with
  accessFlags := 1057
  interfaces := #[]
  cf := some (fileOf pool8 7 #[] #[{ accessFlags := 4, nameIndex := 5, descriptorIndex := 6, attributes := #[] }] 1057 2 #[] #[])
  fields := #[]
  methods := #[k8m0]
  instanceTypes := #[]
  staticTypes := #[]
  resolved := Array.replicate 22 none
  statics := none }

def pool9 : Array CpInfo := pool [(2, .class_ 4), (1, u "java/lang/Record"), (0, u "<init>"), (2, .class_ 10), (1, u "com/example/kalip/kalip/recordshop/api/ArtistDto"), (0, u "id"), (0, u "I"), (2, u "name"), (0, u "Ljava/lang/String;"), (2, u "albums"), (0, u "Ljava/util/List;"), (4, .class_ 27), (1, u "com/example/kalip/kalip/recordshop/domain/Artist"), (25, .class_ 54), (0, u "com/example/kalip/kalip/recordshop/api/ArtistDto$TrackItem"), (1, .nameAndType 57 58), (0, u "getId"), (0, u "()I"), (1, .nameAndType 61 62), (0, u "getName"), (0, u "()Ljava/lang/String;"), (20, .class_ 84), (0, u "com/example/kalip/kalip/recordshop/api/ArtistDto$AlbumWithTracks"), (7, .methodref 25 56), (0, .methodref 25 60), (1, .class_ 96), (0, u "com/example/kalip/kalip/recordshop/api/ArtistDto$Item"), (0, .methodref 95 98), (0, .nameAndType 5 99), (0, u "(ILjava/lang/String;)V"), (0, .class_ 101), (0, u "com/example/kalip/kalip/recordshop/api/ArtistDto$AlbumItem"), (22, u "item"), (0, u "(Lcom/example/kalip/kalip/recordshop/domain/Artist;)Lcom/example/kalip/kalip/recordshop/api/ArtistDto$Item;")] 30

def k9c0 : Code := { maxStack := 4, maxLocals := 1, code := prog_54_method_3_code, exceptionTable := #[], attributes := #[] }
def k9m0 : Method := { name := "item", desc := "(Lcom/example/kalip/kalip/recordshop/domain/Artist;)Lcom/example/kalip/kalip/recordshop/api/ArtistDto$Item;", sig := { parameters := [(.object "com/example/kalip/kalip/recordshop/domain/Artist")], returnType := some (.object "com/example/kalip/kalip/recordshop/api/ArtistDto$Item") }, accessFlags := 8, code := some k9c0 }
/-- com/example/kalip/kalip/recordshop/api/ArtistDto -/
def k9 : Class := { plain "com/example/kalip/kalip/recordshop/api/ArtistDto" (some 8) with
  accessFlags := 48
  interfaces := #[]
  cf := some (fileOf pool9 8 #[.nestMembers #[100, 53, 83, 95]] #[{ accessFlags := 8, nameIndex := 124, descriptorIndex := 125, attributes := #[] }] 48 2 #[] #[{ accessFlags := 18, nameIndex := 11, descriptorIndex := 12, attributes := #[] }, { accessFlags := 18, nameIndex := 15, descriptorIndex := 16, attributes := #[] }, { accessFlags := 18, nameIndex := 19, descriptorIndex := 20, attributes := #[] }])
  fields := #[{ name := "id", type := .int, accessFlags := 18, slot := 0, constantValue := 0 }, { name := "name", type := (.object "java/lang/String"), accessFlags := 18, slot := 1, constantValue := 0 }, { name := "albums", type := (.object "java/util/List"), accessFlags := 18, slot := 2, constantValue := 0 }]
  methods := #[k9m0]
  instanceTypes := #[.int, (.object "java/lang/String"), (.object "java/util/List")]
  staticTypes := #[]
  resolved := Array.replicate 156 none
  statics := none }

def pool10 : Array CpInfo := pool [(1, .methodref 2 3), (0, .class_ 4), (0, .nameAndType 5 6), (0, u "java/lang/Record"), (0, u "<init>"), (0, u "()V"), (0, .fieldref 8 9), (0, .class_ 10), (0, .nameAndType 11 12), (0, u "com/example/kalip/kalip/recordshop/api/ArtistDto$Item"), (0, u "id"), (0, u "I"), (0, .fieldref 8 14), (0, .nameAndType 15 16), (0, u "name"), (0, u "Ljava/lang/String;"), (12, u "(ILjava/lang/String;)V"), (3, u "()Ljava/lang/String;"), (0, u "()I"), (4, .class_ 40), (0, u "com/example/kalip/kalip/recordshop/api/ArtistDto")] 20

def k10c0 : Code := { maxStack := 2, maxLocals := 3, code := prog_57_method_1_code, exceptionTable := #[], attributes := #[] }
def k10m0 : Method := { name := "<init>", desc := "(ILjava/lang/String;)V", sig := { parameters := [.int, (.object "java/lang/String")], returnType := none }, accessFlags := 0, code := some k10c0 }
def k10c1 : Code := { maxStack := 1, maxLocals := 1, code := prog_57_method_5_code, exceptionTable := #[], attributes := #[] }
def k10m1 : Method := { name := "id", desc := "()I", sig := { parameters := [], returnType := some .int }, accessFlags := 1, code := some k10c1 }
def k10c2 : Code := { maxStack := 1, maxLocals := 1, code := prog_57_method_6_code, exceptionTable := #[], attributes := #[] }
def k10m2 : Method := { name := "name", desc := "()Ljava/lang/String;", sig := { parameters := [], returnType := some (.object "java/lang/String") }, accessFlags := 1, code := some k10c2 }
/-- com/example/kalip/kalip/recordshop/api/ArtistDto$Item -/
def k10 : Class := { plain "com/example/kalip/kalip/recordshop/api/ArtistDto$Item" (some 8) with
  accessFlags := 48
  interfaces := #[]
  cf := some (fileOf pool10 8 #[.nestHost 39] #[{ accessFlags := 0, nameIndex := 5, descriptorIndex := 29, attributes := #[] }, { accessFlags := 1, nameIndex := 11, descriptorIndex := 34, attributes := #[] }, { accessFlags := 1, nameIndex := 15, descriptorIndex := 33, attributes := #[] }] 48 2 #[] #[{ accessFlags := 18, nameIndex := 11, descriptorIndex := 12, attributes := #[] }, { accessFlags := 18, nameIndex := 15, descriptorIndex := 16, attributes := #[] }])
  fields := #[{ name := "id", type := .int, accessFlags := 18, slot := 0, constantValue := 0 }, { name := "name", type := (.object "java/lang/String"), accessFlags := 18, slot := 1, constantValue := 0 }]
  methods := #[k10m0, k10m1, k10m2]
  instanceTypes := #[.int, (.object "java/lang/String")]
  staticTypes := #[]
  resolved := Array.replicate 61 none
  statics := none }

def pool11 : Array CpInfo := pool [(1, .class_ 2), (0, u "java/io/Serializable"), (0, .class_ 4), (0, u "java/lang/Object")] 2

/-- java/io/Serializable -/
def k11 : Class := { plain "java/io/Serializable" (some 0) with
  accessFlags := 1537
  interfaces := #[]
  cf := some (fileOf pool11 1 #[] #[] 1537 3 #[] #[])
  fields := #[]
  methods := #[]
  instanceTypes := #[]
  staticTypes := #[]
  resolved := Array.replicate 7 none
  statics := none }

def pool12 : Array CpInfo := pool [(1, .class_ 2), (0, u "java/lang/Comparable"), (0, .class_ 4), (0, u "java/lang/Object")] 7

/-- java/lang/Comparable -/
def k12 : Class := { plain "java/lang/Comparable" (some 0) with
  accessFlags := 1537
  interfaces := #[]
  cf := some (fileOf pool12 1 #[] #[] 1537 3 #[] #[])
  fields := #[]
  methods := #[]
  instanceTypes := #[]
  staticTypes := #[]
  resolved := Array.replicate 12 none
  statics := none }

def pool13 : Array CpInfo := pool [(2, .class_ 4), (1, u "java/lang/CharSequence"), (42, .class_ 48), (0, u "java/lang/CharSequence$1CodePointIterator"), (10, .class_ 60), (0, u "java/lang/CharSequence$1CharIterator"), (5, .class_ 67), (0, u "java/lang/Object")] 63

/-- java/lang/CharSequence -/
def k13 : Class := { plain "java/lang/CharSequence" (some 0) with
  accessFlags := 1537
  interfaces := #[]
  cf := some (fileOf pool13 2 #[.nestMembers #[47, 59]] #[] 1537 66 #[] #[])
  fields := #[]
  methods := #[]
  instanceTypes := #[]
  staticTypes := #[]
  resolved := Array.replicate 131 none
  statics := none }

def pool14 : Array CpInfo := pool [(1, .class_ 2), (0, u "java/lang/constant/Constable"), (0, .class_ 4), (0, u "java/lang/Object")] 6

/-- java/lang/constant/Constable -/
def k14 : Class := { plain "java/lang/constant/Constable" (some 0) with
  accessFlags := 1537
  interfaces := #[]
  cf := some (fileOf pool14 1 #[] #[] 1537 3 #[] #[])
  fields := #[]
  methods := #[]
  instanceTypes := #[]
  staticTypes := #[]
  resolved := Array.replicate 11 none
  statics := none }

def pool15 : Array CpInfo := pool [(1, .class_ 2), (0, u "java/lang/constant/ConstantDesc"), (0, .class_ 4), (0, u "java/lang/Object")] 32

/-- java/lang/constant/ConstantDesc -/
def k15 : Class := { plain "java/lang/constant/ConstantDesc" (some 0) with
  accessFlags := 1537
  interfaces := #[]
  cf := some (fileOf pool15 1 #[] #[] 1537 3 #[] #[])
  fields := #[]
  methods := #[]
  instanceTypes := #[]
  staticTypes := #[]
  resolved := Array.replicate 37 none
  statics := none }

def pool16 : Array CpInfo := pool [(1, .methodref 2 3), (0, .class_ 4), (0, .nameAndType 5 6), (0, u "java/lang/Object"), (0, u "<init>"), (0, u "()V"), (0, .string 8), (0, u ""), (0, .fieldref 10 11), (0, .class_ 12), (0, .nameAndType 13 14), (0, u "java/lang/String"), (0, u "value"), (0, u "[B"), (0, .fieldref 10 16), (0, .nameAndType 17 18), (0, u "coder"), (0, u "B"), (2, u "hash"), (0, u "I"), (2, u "hashIsZero"), (0, u "Z"), (0, .methodref 10 28), (0, .nameAndType 5 29), (0, u "([CIILjava/lang/Void;)V"), (8, .fieldref 10 39), (0, .nameAndType 40 26), (0, u "COMPACT_STRINGS"), (1, .class_ 44), (1, u "java/lang/StringUTF16"), (0, u "compress"), (1, .methodref 42 48), (0, .nameAndType 49 50), (0, u "coderFromArrayLen"), (0, u "([BI)B"), (2, u "toBytes"), (53, .class_ 109), (1, u "java/lang/StringLatin1"), (67, .methodref 42 178), (0, .nameAndType 45 179), (0, u "([CII)[B"), (29, .methodref 10 210), (0, .nameAndType 5 211), (0, u "([BB)V"), (122, u "()I"), (0, .methodref 10 336), (0, .nameAndType 17 337), (0, u "()B"), (31, u "(C)Z"), (137, u "length"), (35, u "equals"), (29, u "(Ljava/lang/Object;)Z"), (1, .class_ 576), (0, u "java/lang/CharSequence"), (22, u "CASE_INSENSITIVE_ORDER"), (0, u "Ljava/util/Comparator;"), (181, u "valueOf"), (0, u "(C)Ljava/lang/String;"), (226, u "([C)V"), (4, .methodref 107 1016), (0, .nameAndType 1017 369), (0, u "canEncode"), (0, .methodref 107 1019), (0, .nameAndType 53 1020), (0, u "(C)[B"), (80, u "serialPersistentFields"), (0, u "[Ljava/io/ObjectStreamField;"), (0, .class_ 1104), (0, u "java/lang/String$CaseInsensitiveComparator"), (1, .class_ 1107), (0, u "java/io/Serializable"), (0, .class_ 1109), (0, u "java/lang/Comparable"), (0, .class_ 1111), (0, u "java/lang/constant/Constable"), (0, .class_ 1113), (0, u "java/lang/constant/ConstantDesc"), (2, u "serialVersionUID"), (0, u "J"), (3, u "REPL"), (0, u "C"), (2, u "LATIN1"), (1, u "UTF16")] 323

def k16m0 : Method := { name := "<init>", desc := "()V", sig := { parameters := [], returnType := none }, accessFlags := 1, code := none }
def k16c1 : Code := { maxStack := 5, maxLocals := 2, code := jdk_42_method_3_code, exceptionTable := #[], attributes := #[] }
def k16m1 : Method := { name := "<init>", desc := "([C)V", sig := { parameters := [(.array .char)], returnType := none }, accessFlags := 1, code := some k16c1 }
def k16c2 : Code := { maxStack := 2, maxLocals := 1, code := jdk_42_method_54_code, exceptionTable := #[], attributes := #[] }
def k16m2 : Method := { name := "length", desc := "()I", sig := { parameters := [], returnType := some .int }, accessFlags := 1, code := some k16c2 }
def k16c3 : Code := { maxStack := 2, maxLocals := 3, code := jdk_42_method_66_code, exceptionTable := #[], attributes := #[] }
def k16m3 : Method := { name := "equals", desc := "(Ljava/lang/Object;)Z", sig := { parameters := [(.object "java/lang/Object")], returnType := some .boolean }, accessFlags := 1, code := some k16c3 }
def k16c4 : Code := { maxStack := 4, maxLocals := 1, code := jdk_42_method_139_code, exceptionTable := #[], attributes := #[] }
def k16m4 : Method := { name := "valueOf", desc := "(C)Ljava/lang/String;", sig := { parameters := [.char], returnType := some (.object "java/lang/String") }, accessFlags := 9, code := some k16c4 }
def k16c5 : Code := { maxStack := 4, maxLocals := 6, code := jdk_42_method_149_code, exceptionTable := #[], attributes := #[] }
def k16m5 : Method := { name := "<init>", desc := "([CIILjava/lang/Void;)V", sig := { parameters := [(.array .char), .int, .int, (.object "java/lang/Void")], returnType := none }, accessFlags := 2, code := some k16c5 }
def k16c6 : Code := { maxStack := 2, maxLocals := 3, code := jdk_42_method_151_code, exceptionTable := #[], attributes := #[] }
def k16m6 : Method := { name := "<init>", desc := "([BB)V", sig := { parameters := [(.array .byte), .byte], returnType := none }, accessFlags := 0, code := some k16c6 }
def k16c7 : Code := { maxStack := 1, maxLocals := 1, code := jdk_42_method_152_code, exceptionTable := #[], attributes := #[] }
def k16m7 : Method := { name := "coder", desc := "()B", sig := { parameters := [], returnType := some .byte }, accessFlags := 0, code := some k16c7 }
/-- java/lang/String -/
def k16 : Class := { plain "java/lang/String" (some 0) with
  accessFlags := 49
  interfaces := #[11, 12, 13, 14, 15]
  cf := some (fileOf pool16 10 #[.nestMembers #[1103]] #[{ accessFlags := 1, nameIndex := 5, descriptorIndex := 6, attributes := #[] }, { accessFlags := 1, nameIndex := 5, descriptorIndex := 1010, attributes := #[] }, { accessFlags := 1, nameIndex := 507, descriptorIndex := 334, attributes := #[] }, { accessFlags := 1, nameIndex := 543, descriptorIndex := 573, attributes := #[] }, { accessFlags := 9, nameIndex := 782, descriptorIndex := 783, attributes := #[] }, { accessFlags := 2, nameIndex := 5, descriptorIndex := 29, attributes := #[] }, { accessFlags := 0, nameIndex := 5, descriptorIndex := 211, attributes := #[] }, { accessFlags := 0, nameIndex := 17, descriptorIndex := 337, attributes := #[] }] 49 2 #[1106, 1108, 575, 1110, 1112] #[{ accessFlags := 18, nameIndex := 13, descriptorIndex := 14, attributes := #[] }, { accessFlags := 18, nameIndex := 17, descriptorIndex := 18, attributes := #[] }, { accessFlags := 2, nameIndex := 21, descriptorIndex := 22, attributes := #[] }, { accessFlags := 2, nameIndex := 25, descriptorIndex := 26, attributes := #[] }, { accessFlags := 26, nameIndex := 1116, descriptorIndex := 1117, attributes := #[] }, { accessFlags := 24, nameIndex := 40, descriptorIndex := 26, attributes := #[] }, { accessFlags := 26, nameIndex := 1101, descriptorIndex := 1102, attributes := #[] }, { accessFlags := 26, nameIndex := 1121, descriptorIndex := 1122, attributes := #[] }, { accessFlags := 25, nameIndex := 599, descriptorIndex := 600, attributes := #[] }, { accessFlags := 24, nameIndex := 1125, descriptorIndex := 18, attributes := #[] }, { accessFlags := 24, nameIndex := 1127, descriptorIndex := 18, attributes := #[] }])
  fields := #[{ name := "value", type := (.array .byte), accessFlags := 18, slot := 0, constantValue := 0 }, { name := "coder", type := .byte, accessFlags := 18, slot := 1, constantValue := 0 }, { name := "hash", type := .int, accessFlags := 2, slot := 2, constantValue := 0 }, { name := "hashIsZero", type := .boolean, accessFlags := 2, slot := 3, constantValue := 0 }, { name := "serialVersionUID", type := .long, accessFlags := 26, slot := 0, constantValue := 0 }, { name := "COMPACT_STRINGS", type := .boolean, accessFlags := 24, slot := 1, constantValue := 0 }, { name := "serialPersistentFields", type := (.array (.object "java/io/ObjectStreamField")), accessFlags := 26, slot := 2, constantValue := 0 }, { name := "REPL", type := .char, accessFlags := 26, slot := 3, constantValue := 0 }, { name := "CASE_INSENSITIVE_ORDER", type := (.object "java/util/Comparator"), accessFlags := 25, slot := 4, constantValue := 0 }, { name := "LATIN1", type := .byte, accessFlags := 24, slot := 5, constantValue := 0 }, { name := "UTF16", type := .byte, accessFlags := 24, slot := 6, constantValue := 0 }]
  methods := #[k16m0, k16m1, k16m2, k16m3, k16m4, k16m5, k16m6, k16m7]
  instanceTypes := #[(.array .byte), .byte, .int, .boolean]
  staticTypes := #[.long, .boolean, (.array (.object "java/io/ObjectStreamField")), .char, (.object "java/util/Comparator"), .byte, .byte]
  resolved := Array.replicate 1451 none
  statics := some 1 }

def pool17 : Array CpInfo := pool [(4, .class_ 6), (1, u "java/lang/Object"), (0, u "<init>"), (0, u "()V"), (5, .class_ 16), (1, u "java/lang/StringLatin1"), (73, u "canEncode"), (14, u "(C)Z"), (15, u "$assertionsDisabled"), (0, u "Z"), (98, .class_ 223), (1, u "java/lang/StringLatin1$LinesSpliterator"), (156, u "toBytes"), (1, u "(C)[B"), (7, .class_ 391), (0, u "java/lang/StringLatin1$CharsSpliterator")] 3

def k17m0 : Method := { name := "<init>", desc := "()V", sig := { parameters := [], returnType := none }, accessFlags := 0, code := none }
def k17c1 : Code := { maxStack := 2, maxLocals := 1, code := jdk_43_method_3_code, exceptionTable := #[], attributes := #[] }
def k17m1 : Method := { name := "canEncode", desc := "(C)Z", sig := { parameters := [.char], returnType := some .boolean }, accessFlags := 9, code := some k17c1 }
def k17c2 : Code := { maxStack := 4, maxLocals := 1, code := jdk_43_method_46_code, exceptionTable := #[], attributes := #[] }
def k17m2 : Method := { name := "toBytes", desc := "(C)[B", sig := { parameters := [.char], returnType := some (.array .byte) }, accessFlags := 9, code := some k17c2 }
/-- java/lang/StringLatin1 -/
def k17 : Class := { plain "java/lang/StringLatin1" (some 0) with
  accessFlags := 48
  interfaces := #[]
  cf := some (fileOf pool17 14 #[.nestMembers #[390, 221]] #[{ accessFlags := 0, nameIndex := 7, descriptorIndex := 8, attributes := #[] }, { accessFlags := 9, nameIndex := 90, descriptorIndex := 105, attributes := #[] }, { accessFlags := 9, nameIndex := 380, descriptorIndex := 382, attributes := #[] }] 48 4 #[] #[{ accessFlags := 4120, nameIndex := 121, descriptorIndex := 122, attributes := #[] }])
  fields := #[{ name := "$assertionsDisabled", type := .boolean, accessFlags := 4120, slot := 0, constantValue := 0 }]
  methods := #[k17m0, k17m1, k17m2]
  instanceTypes := #[]
  staticTypes := #[.boolean]
  resolved := Array.replicate 395 none
  statics := none }

def pool18 : Array CpInfo := pool [(6, .class_ 8), (1, u "java/lang/Object"), (0, u "<init>"), (0, u "()V"), (1, .class_ 14), (1, u "java/lang/StringUTF16"), (31, u "$assertionsDisabled"), (0, u "Z"), (13, u "HI_BYTE_SHIFT"), (0, u "I"), (2, u "LO_BYTE_SHIFT"), (49, .methodref 12 116), (0, .nameAndType 117 118), (0, u "compress"), (0, u "([CI[BII)I"), (3, u "([CII)[B"), (138, u "coderFromArrayLen"), (0, u "([BI)B"), (106, .class_ 371), (1, u "java/lang/StringUTF16$LinesSpliterator"), (58, u "MAX_LENGTH"), (196, .class_ 628), (0, u "java/lang/StringUTF16$CodePointsSpliterator"), (0, .class_ 630), (0, u "java/lang/StringUTF16$CharsSpliterator")] 4

def k18m0 : Method := { name := "<init>", desc := "()V", sig := { parameters := [], returnType := none }, accessFlags := 0, code := none }
def k18c1 : Code := { maxStack := 2, maxLocals := 2, code := jdk_52_method_15_code, exceptionTable := #[], attributes := #[] }
def k18m1 : Method := { name := "coderFromArrayLen", desc := "([BI)B", sig := { parameters := [(.array .byte), .int], returnType := some .byte }, accessFlags := 8, code := some k18c1 }
def k18c2 : Code := { maxStack := 5, maxLocals := 6, code := jdk_52_method_16_code, exceptionTable := #[], attributes := #[] }
def k18m2 : Method := { name := "compress", desc := "([CII)[B", sig := { parameters := [(.array .char), .int, .int], returnType := some (.array .byte) }, accessFlags := 9, code := some k18c2 }
def k18c3 : Code := { maxStack := 3, maxLocals := 7, code := jdk_52_method_21_code, exceptionTable := #[], attributes := #[] }
def k18m3 : Method := { name := "compress", desc := "([CI[BII)I", sig := { parameters := [(.array .char), .int, (.array .byte), .int, .int], returnType := some .int }, accessFlags := 9, code := some k18c3 }
/-- java/lang/StringUTF16 -/
def k18 : Class := { plain "java/lang/StringUTF16" (some 0) with
  accessFlags := 48
  interfaces := #[]
  cf := some (fileOf pool18 12 #[.nestMembers #[627, 629, 369]] #[{ accessFlags := 0, nameIndex := 9, descriptorIndex := 10, attributes := #[] }, { accessFlags := 8, nameIndex := 261, descriptorIndex := 262, attributes := #[] }, { accessFlags := 9, nameIndex := 117, descriptorIndex := 122, attributes := #[] }, { accessFlags := 9, nameIndex := 117, descriptorIndex := 118, attributes := #[] }] 48 6 #[] #[{ accessFlags := 26, nameIndex := 61, descriptorIndex := 62, attributes := #[] }, { accessFlags := 26, nameIndex := 65, descriptorIndex := 62, attributes := #[] }, { accessFlags := 24, nameIndex := 430, descriptorIndex := 62, attributes := #[] }, { accessFlags := 4120, nameIndex := 46, descriptorIndex := 47, attributes := #[] }])
  fields := #[{ name := "HI_BYTE_SHIFT", type := .int, accessFlags := 26, slot := 0, constantValue := 0 }, { name := "LO_BYTE_SHIFT", type := .int, accessFlags := 26, slot := 1, constantValue := 0 }, { name := "MAX_LENGTH", type := .int, accessFlags := 24, slot := 2, constantValue := 0 }, { name := "$assertionsDisabled", type := .boolean, accessFlags := 4120, slot := 3, constantValue := 0 }]
  methods := #[k18m0, k18m1, k18m2, k18m3]
  instanceTypes := #[]
  staticTypes := #[.int, .int, .int, .boolean]
  resolved := Array.replicate 635 none
  statics := none }

def pool19 : Array CpInfo := pool [(2, .class_ 4), (1, u "java/lang/Object"), (0, u "<init>"), (0, u "()V"), (17, .class_ 26), (1, u "jdk/internal/util/Preconditions"), (28, .class_ 56), (0, u "jdk/internal/util/Preconditions$4"), (57, .class_ 115), (0, u "jdk/internal/util/Preconditions$1"), (7, u "SIOOBE_FORMATTER"), (0, u "Ljava/util/function/BiFunction;"), (0, .class_ 126), (0, u "jdk/internal/util/Preconditions$2"), (3, u "AIOOBE_FORMATTER"), (0, .class_ 132), (0, u "jdk/internal/util/Preconditions$3"), (3, u "IOOBE_FORMATTER")] 57

def k19m0 : Method := { name := "<init>", desc := "()V", sig := { parameters := [], returnType := none }, accessFlags := 1, code := none }
/-- jdk/internal/util/Preconditions -/
def k19 : Class := { plain "jdk/internal/util/Preconditions" (some 0) with
  accessFlags := 33
  interfaces := #[]
  cf := some (fileOf pool19 24 #[.nestMembers #[55, 131, 125, 114]] #[{ accessFlags := 1, nameIndex := 5, descriptorIndex := 6, attributes := #[] }] 33 2 #[] #[{ accessFlags := 25, nameIndex := 123, descriptorIndex := 124, attributes := #[] }, { accessFlags := 25, nameIndex := 130, descriptorIndex := 124, attributes := #[] }, { accessFlags := 25, nameIndex := 136, descriptorIndex := 124, attributes := #[] }])
  fields := #[{ name := "SIOOBE_FORMATTER", type := (.object "java/util/function/BiFunction"), accessFlags := 25, slot := 0, constantValue := 0 }, { name := "AIOOBE_FORMATTER", type := (.object "java/util/function/BiFunction"), accessFlags := 25, slot := 1, constantValue := 0 }, { name := "IOOBE_FORMATTER", type := (.object "java/util/function/BiFunction"), accessFlags := 25, slot := 2, constantValue := 0 }]
  methods := #[k19m0]
  instanceTypes := #[]
  staticTypes := #[(.object "java/util/function/BiFunction"), (.object "java/util/function/BiFunction"), (.object "java/util/function/BiFunction")]
  resolved := Array.replicate 194 none
  statics := some 2 }

def pool20 : Array CpInfo := pool [(9, u "<init>"), (6, .class_ 18), (1, u "java/lang/Object"), (0, u "()V"), (1, .class_ 23), (1, u "jdk/internal/util/ArraysSupport"), (0, u "LOG2_ARRAY_LONG_INDEX_SCALE"), (0, u "I"), (2, u "U"), (0, u "Ljdk/internal/misc/Unsafe;"), (8, u "BIG_ENDIAN"), (0, u "Z"), (8, u "LOG2_BYTE_BIT_SIZE"), (4, u "LOG2_ARRAY_INT_INDEX_SCALE"), (54, u "JLA"), (0, u "Ljdk/internal/access/JavaLangAccess;"), (11, u "LOG2_ARRAY_BOOLEAN_INDEX_SCALE"), (9, u "LOG2_ARRAY_BYTE_INDEX_SCALE"), (5, u "LOG2_ARRAY_CHAR_INDEX_SCALE"), (5, u "LOG2_ARRAY_SHORT_INDEX_SCALE"), (18, u "LOG2_ARRAY_FLOAT_INDEX_SCALE"), (24, u "LOG2_ARRAY_DOUBLE_INDEX_SCALE"), (89, u "T_BOOLEAN"), (2, u "T_CHAR"), (1, u "T_FLOAT"), (1, u "T_DOUBLE"), (1, u "T_BYTE"), (1, u "T_SHORT"), (1, u "T_INT"), (1, u "T_LONG"), (1, u "SOFT_MAX_ARRAY_LENGTH")] 83

def k20m0 : Method := { name := "<init>", desc := "()V", sig := { parameters := [], returnType := none }, accessFlags := 2, code := none }
/-- jdk/internal/util/ArraysSupport -/
def k20 : Class := { plain "jdk/internal/util/ArraysSupport" (some 0) with
  accessFlags := 33
  interfaces := #[]
  cf := some (fileOf pool20 21 #[] #[{ accessFlags := 2, nameIndex := 9, descriptorIndex := 19, attributes := #[] }] 33 16 #[] #[{ accessFlags := 24, nameIndex := 28, descriptorIndex := 29, attributes := #[] }, { accessFlags := 26, nameIndex := 38, descriptorIndex := 39, attributes := #[] }, { accessFlags := 25, nameIndex := 121, descriptorIndex := 25, attributes := #[] }, { accessFlags := 25, nameIndex := 131, descriptorIndex := 25, attributes := #[] }, { accessFlags := 25, nameIndex := 137, descriptorIndex := 25, attributes := #[] }, { accessFlags := 25, nameIndex := 143, descriptorIndex := 25, attributes := #[] }, { accessFlags := 25, nameIndex := 53, descriptorIndex := 25, attributes := #[] }, { accessFlags := 25, nameIndex := 24, descriptorIndex := 25, attributes := #[] }, { accessFlags := 25, nameIndex := 162, descriptorIndex := 25, attributes := #[] }, { accessFlags := 25, nameIndex := 187, descriptorIndex := 25, attributes := #[] }, { accessFlags := 26, nameIndex := 48, descriptorIndex := 25, attributes := #[] }, { accessFlags := 25, nameIndex := 277, descriptorIndex := 25, attributes := #[] }, { accessFlags := 25, nameIndex := 280, descriptorIndex := 25, attributes := #[] }, { accessFlags := 25, nameIndex := 282, descriptorIndex := 25, attributes := #[] }, { accessFlags := 25, nameIndex := 284, descriptorIndex := 25, attributes := #[] }, { accessFlags := 25, nameIndex := 286, descriptorIndex := 25, attributes := #[] }, { accessFlags := 25, nameIndex := 288, descriptorIndex := 25, attributes := #[] }, { accessFlags := 25, nameIndex := 290, descriptorIndex := 25, attributes := #[] }, { accessFlags := 25, nameIndex := 292, descriptorIndex := 25, attributes := #[] }, { accessFlags := 26, nameIndex := 108, descriptorIndex := 109, attributes := #[] }, { accessFlags := 25, nameIndex := 294, descriptorIndex := 25, attributes := #[] }])
  fields := #[{ name := "U", type := (.object "jdk/internal/misc/Unsafe"), accessFlags := 24, slot := 0, constantValue := 0 }, { name := "BIG_ENDIAN", type := .boolean, accessFlags := 26, slot := 1, constantValue := 0 }, { name := "LOG2_ARRAY_BOOLEAN_INDEX_SCALE", type := .int, accessFlags := 25, slot := 2, constantValue := 0 }, { name := "LOG2_ARRAY_BYTE_INDEX_SCALE", type := .int, accessFlags := 25, slot := 3, constantValue := 0 }, { name := "LOG2_ARRAY_CHAR_INDEX_SCALE", type := .int, accessFlags := 25, slot := 4, constantValue := 0 }, { name := "LOG2_ARRAY_SHORT_INDEX_SCALE", type := .int, accessFlags := 25, slot := 5, constantValue := 0 }, { name := "LOG2_ARRAY_INT_INDEX_SCALE", type := .int, accessFlags := 25, slot := 6, constantValue := 0 }, { name := "LOG2_ARRAY_LONG_INDEX_SCALE", type := .int, accessFlags := 25, slot := 7, constantValue := 0 }, { name := "LOG2_ARRAY_FLOAT_INDEX_SCALE", type := .int, accessFlags := 25, slot := 8, constantValue := 0 }, { name := "LOG2_ARRAY_DOUBLE_INDEX_SCALE", type := .int, accessFlags := 25, slot := 9, constantValue := 0 }, { name := "LOG2_BYTE_BIT_SIZE", type := .int, accessFlags := 26, slot := 10, constantValue := 0 }, { name := "T_BOOLEAN", type := .int, accessFlags := 25, slot := 11, constantValue := 0 }, { name := "T_CHAR", type := .int, accessFlags := 25, slot := 12, constantValue := 0 }, { name := "T_FLOAT", type := .int, accessFlags := 25, slot := 13, constantValue := 0 }, { name := "T_DOUBLE", type := .int, accessFlags := 25, slot := 14, constantValue := 0 }, { name := "T_BYTE", type := .int, accessFlags := 25, slot := 15, constantValue := 0 }, { name := "T_SHORT", type := .int, accessFlags := 25, slot := 16, constantValue := 0 }, { name := "T_INT", type := .int, accessFlags := 25, slot := 17, constantValue := 0 }, { name := "T_LONG", type := .int, accessFlags := 25, slot := 18, constantValue := 0 }, { name := "JLA", type := (.object "jdk/internal/access/JavaLangAccess"), accessFlags := 26, slot := 19, constantValue := 0 }, { name := "SOFT_MAX_ARRAY_LENGTH", type := .int, accessFlags := 25, slot := 20, constantValue := 0 }]
  methods := #[k20m0]
  instanceTypes := #[]
  staticTypes := #[(.object "jdk/internal/misc/Unsafe"), .boolean, .int, .int, .int, .int, .int, .int, .int, .int, .int, .int, .int, .int, .int, .int, .int, .int, .int, (.object "jdk/internal/access/JavaLangAccess"), .int]
  resolved := Array.replicate 378 none
  statics := none }

def pool21 : Array CpInfo := pool [(2, .class_ 4), (1, u "java/lang/Object"), (0, u "<init>"), (0, u "()V"), (1, .class_ 10), (1, u "java/util/AbstractCollection"), (66, .class_ 78), (0, u "java/util/Collection")] 81

def k21m0 : Method := { name := "<init>", desc := "()V", sig := { parameters := [], returnType := none }, accessFlags := 4, code := none }
/-- java/util/AbstractCollection -/
def k21 : Class := { plain "java/util/AbstractCollection" (some 0) with
  accessFlags := 1057
  interfaces := #[4]
  cf := some (fileOf pool21 8 #[] #[{ accessFlags := 4, nameIndex := 5, descriptorIndex := 6, attributes := #[] }] 1057 2 #[77] #[])
  fields := #[]
  methods := #[k21m0]
  instanceTypes := #[]
  staticTypes := #[]
  resolved := Array.replicate 160 none
  statics := none }

def pool22 : Array CpInfo := pool [(2, .class_ 4), (1, u "java/util/AbstractCollection"), (0, u "<init>"), (0, u "()V"), (1, .class_ 10), (1, u "java/util/ImmutableCollections"), (2, .class_ 14), (0, u "java/util/ImmutableCollections$AbstractImmutableCollection")] 41

def k22m0 : Method := { name := "<init>", desc := "()V", sig := { parameters := [], returnType := none }, accessFlags := 0, code := none }
/-- java/util/ImmutableCollections$AbstractImmutableCollection -/
def k22 : Class := { plain "java/util/ImmutableCollections$AbstractImmutableCollection" (some 21) with
  accessFlags := 1056
  interfaces := #[]
  cf := some (fileOf pool22 13 #[.nestHost 8] #[{ accessFlags := 0, nameIndex := 5, descriptorIndex := 6, attributes := #[] }] 1056 2 #[] #[])
  fields := #[]
  methods := #[k22m0]
  instanceTypes := #[]
  staticTypes := #[]
  resolved := Array.replicate 56 none
  statics := none }

def pool23 : Array CpInfo := pool [(1, .class_ 2), (0, u "java/util/RandomAccess"), (0, .class_ 4), (0, u "java/lang/Object")] 2

/-- java/util/RandomAccess -/
def k23 : Class := { plain "java/util/RandomAccess" (some 0) with
  accessFlags := 1537
  interfaces := #[]
  cf := some (fileOf pool23 1 #[] #[] 1537 3 #[] #[])
  fields := #[]
  methods := #[]
  instanceTypes := #[]
  staticTypes := #[]
  resolved := Array.replicate 7 none
  statics := none }

def pool24 : Array CpInfo := pool [(2, .class_ 4), (1, u "java/util/ImmutableCollections$AbstractImmutableCollection"), (0, u "<init>"), (0, u "()V"), (1, .class_ 10), (1, u "java/util/ImmutableCollections"), (3, .class_ 16), (1, u "java/util/ImmutableCollections$AbstractImmutableList"), (60, .class_ 78), (0, u "java/util/List"), (45, .class_ 125), (0, u "java/util/RandomAccess")] 70

def k24m0 : Method := { name := "<init>", desc := "()V", sig := { parameters := [], returnType := none }, accessFlags := 0, code := none }
/-- java/util/ImmutableCollections$AbstractImmutableList -/
def k24 : Class := { plain "java/util/ImmutableCollections$AbstractImmutableList" (some 22) with
  accessFlags := 1056
  interfaces := #[6, 23]
  cf := some (fileOf pool24 14 #[.nestHost 8] #[{ accessFlags := 0, nameIndex := 5, descriptorIndex := 6, attributes := #[] }] 1056 2 #[77, 124] #[])
  fields := #[]
  methods := #[k24m0]
  instanceTypes := #[]
  staticTypes := #[]
  resolved := Array.replicate 196 none
  statics := none }

def pool25 : Array CpInfo := pool [(2, .class_ 4), (1, u "java/util/ImmutableCollections$AbstractImmutableList"), (3, .class_ 10), (1, u "java/util/ImmutableCollections$ListN"), (0, u "elements"), (0, u "[Ljava/lang/Object;"), (2, u "allowNulls"), (0, u "Z"), (42, .class_ 60), (0, u "java/io/Serializable"), (53, .class_ 115), (0, u "java/util/ImmutableCollections")] 3

/-- java/util/ImmutableCollections$ListN -/
def k25 : Class := { plain "java/util/ImmutableCollections$ListN" (some 24) with
  accessFlags := 48
  interfaces := #[11]
  cf := some (fileOf pool25 8 #[.nestHost 114] #[] 48 2 #[59] #[{ accessFlags := 18, nameIndex := 11, descriptorIndex := 12, attributes := #[] }, { accessFlags := 18, nameIndex := 15, descriptorIndex := 16, attributes := #[] }])
  fields := #[{ name := "elements", type := (.array (.object "java/lang/Object")), accessFlags := 18, slot := 0, constantValue := 0 }, { name := "allowNulls", type := .boolean, accessFlags := 18, slot := 1, constantValue := 0 }]
  methods := #[]
  instanceTypes := #[(.array (.object "java/lang/Object")), .boolean]
  staticTypes := #[]
  resolved := Array.replicate 119 none
  statics := none }

def pool26 : Array CpInfo := pool [(1, u "java/lang/Cloneable"), (0, .class_ 1), (0, u "java/lang/Object"), (0, .class_ 3)] 3

/-- java/lang/Cloneable -/
def k26 : Class := { plain "java/lang/Cloneable" (some 0) with
  accessFlags := 1537
  interfaces := #[]
  cf := some (fileOf pool26 2 #[] #[] 1537 4 #[] #[])
  fields := #[]
  methods := #[]
  instanceTypes := #[]
  staticTypes := #[]
  resolved := Array.replicate 8 none
  statics := none }

/-- the primitive byte -/
def k27 : Class := { plain "byte" none with kind := .primitive 'B', accessFlags := 0x411 }
/-- [B -/
def k28 : Class := { plain "[B" (some 0) with kind := .array 27 .byte, interfaces := #[26, 11], accessFlags := 1041 }

/-- the primitive char -/
def k29 : Class := { plain "char" none with kind := .primitive 'C', accessFlags := 0x411 }
/-- [C -/
def k30 : Class := { plain "[C" (some 0) with kind := .array 29 .char, interfaces := #[26, 11], accessFlags := 1041 }

/-- the primitive int -/
def k31 : Class := { plain "int" none with kind := .primitive 'I', accessFlags := 0x411 }
/-- [I -/
def k32 : Class := { plain "[I" (some 0) with kind := .array 31 .int, interfaces := #[26, 11], accessFlags := 1041 }

/-- [Ljava/lang/Object; -/
def k33 : Class := { plain "[Ljava/lang/Object;" (some 0) with kind := .array 0 (.object "java/lang/Object"), interfaces := #[26, 11], accessFlags := 1041 }

def heap : Heap := #[{ cls := 7, slots := #[.long 0, .int 0, .null, .null, .ref 4, .null, .null, .null, .int 0, .int 0], vm := .statics 7 },
  { cls := 16, slots := #[.long 0, .int 1, .null, .int 0, .null, .int 0, .int 0], vm := .statics 16 },
  { cls := 19, slots := #[.null, .null, .null], vm := .statics 19 },
  { cls := 33, slots := #[], vm := .none },
  { cls := 25, slots := #[.ref 3, .int 0], vm := .none }]
def classes : Array Class := #[k0, k1, k2, k3, k4, k5, k6, k7, k8, k9, k10, k11, k12, k13, k14, k15, k16, k17, k18, k19, k20, k21, k22, k23, k24, k25, k26, k27, k28, k29, k30, k31, k32, k33]
def interned : List (Array UInt16 × Addr) := []
def slotsUsed : Nat := 22
def theMethod : MethodId := ⟨1, 1⟩
def args0 : Array Value := #[.int 5, .long 7, .int 1, .int 9, .int 2]
def aboutOver (below : List Frame) : State where
  vm := { classes := classes, interned := interned.toArray }
  heap := heap
  slotsUsed := slotsUsed
  threads := #[{ frames := .invoking theMethod args0 :: below }]
def below0 : List Frame := [.native { method := ⟨0, 0⟩, args := #[] }]
def about1 : State := aboutOver below0
def p0 : Program := .bare "" "" ""
def e0 : Env := launch0.env 0 0 0
theorem w_frames : about1.frames = Frame.invoking theMethod args0 :: below0 := rfl
set_option maxRecDepth 65536 in
theorem w_args : argsFit about1.vm theMethod args0 = true := by decide +kernel
set_option maxRecDepth 65536 in
theorem w_heap : heapFits about1 = true := by decide +kernel
set_option maxRecDepth 65536 in
theorem w_runnable : about1.curStatus? = some .runnable := by decide +kernel
set_option maxRecDepth 65536 in
theorem w_alone : about1.alone = true := by decide +kernel
set_option maxRecDepth 65536 in
theorem w_named : about1.methodNamed? x = some theMethod := by decide +kernel
set_option maxRecDepth 65536 in
theorem w_hears : about1.hears theMethod below0 = true := by decide +kernel
set_option maxRecDepth 65536 in
theorem w_ripe : about1.ripe theMethod args0 below0 = true := by decide +kernel
theorem w_running : about1.status = .running := rfl
set_option maxRecDepth 65536 in
theorem w_room : about1.hasRoom e0.platform room_1 = true :=
  launch0.hasRoom_least _ room_1 (by decide +kernel) (by decide +kernel) (by decide +kernel) (by decide +kernel) (by decide +kernel) (by decide +kernel)
theorem allAtoms_all (ts : List Jvm.Cond) (a : Array Jvm.Value) (st : Jvm.State) : (allAtoms ts).before a st = ts.all (fun c => c.before a st) := by
  induction ts with
  | nil => rfl
  | cons c t ih =>
    show (Jvm.Cond.and c (allAtoms t)).before a st = _
    rw [Jvm.Cond.before_and, ih, List.all_cons]
def words1 : List Jvm.Cond := Jvm.Cond.code x code maxLocals ret :: tables_1
/-- a 'code' word, met by the world's own term for the bytes: nothing is compared byte by byte -/
theorem code_word {y : MethodName} {bytes : ByteArray} {mx : Nat} {rt : Option FieldType} {a : Array Value} {s : State} {m : MethodId} {meth : Method} {c : Code} (h1 : s.methodNamed? y = some m) (h2 : s.vm.method? m = some meth) (h3 : meth.code = some c) (h4 : c.code = bytes)
    (h5 : (c.maxLocals == mx && c.exceptionTable.isEmpty && decide (c.maxStack ≤ mostOperands) && decide (meth.sig.returnType = rt) && !meth.locks && decide (parseMethodDescriptor y.desc = some meth.sig)) = true) : (Jvm.Cond.code y bytes mx rt).before a s = true := by
  simp only [Bool.and_eq_true, beq_iff_eq, Bool.not_eq_true', decide_eq_true_eq] at h5
  obtain ⟨⟨⟨⟨⟨g1, g2⟩, g3⟩, g4⟩, g5⟩, g6⟩ := h5
  simp [Cond.before, Cond.holds, Cond.value, h1, h2, h3, h4, g1, g2, g3, g4, g5, g6]
def isCode : Jvm.Cond → Bool
  | .code _ _ _ _ => true
  | _ => false
theorem all_split {L : List Jvm.Cond} {P : Jvm.Cond → Bool} (h1 : L.all (fun c => isCode c || P c) = true) (h2 : ∀ c ∈ L.filter isCode, P c = true) : L.all P = true := by
  refine List.all_eq_true.mpr fun c hc => ?_
  have h := List.all_eq_true.mp h1 c hc
  rcases Bool.eq_false_or_eq_true (isCode c) with hi | hi
  · exact h2 c (List.mem_filter.mpr ⟨hc, hi⟩)
  · simpa [hi] using h
set_option maxRecDepth 65536 in
theorem w_c0 : (Jvm.Cond.code x code maxLocals ret).before args0 about1 = true := code_word (m := ⟨1, 1⟩) (meth := k1m1) (c := k1c1) (by decide +kernel) rfl rfl rfl (by decide +kernel)
set_option maxRecDepth 65536 in
theorem w_c1 : (Jvm.Cond.code ({ cls := "com/example/kalip/kalip/recordshop/domain/Artist", name := "<init>", desc := "()V" } : Jvm.MethodName) prog_67_method_1_code (1 : Nat) (Option.none : Option Jvm.ClassFile.FieldType)).before args0 about1 = true := code_word (m := ⟨2, 0⟩) (meth := k2m0) (c := k2c0) (by decide +kernel) rfl rfl rfl (by decide +kernel)
set_option maxRecDepth 65536 in
theorem w_c2 : (Jvm.Cond.code ({ cls := "java/lang/Object", name := "<init>", desc := "()V" } : Jvm.MethodName) object_method_1_code (1 : Nat) (Option.none : Option Jvm.ClassFile.FieldType)).before args0 about1 = true := code_word (m := ⟨0, 0⟩) (meth := k0m0) (c := k0c0) (by decide +kernel) rfl rfl rfl (by decide +kernel)
set_option maxRecDepth 65536 in
theorem w_c3 : (Jvm.Cond.code ({ cls := "java/util/List", name := "of", desc := "()Ljava/util/List;" } : Jvm.MethodName) jdk_40_method_36_code (0 : Nat) (Option.some (Jvm.ClassFile.FieldType.object "java/util/List"))).before args0 about1 = true := code_word (m := ⟨6, 0⟩) (meth := k6m0) (c := k6c0) (by decide +kernel) rfl rfl rfl (by decide +kernel)
set_option maxRecDepth 65536 in
theorem w_c4 : (Jvm.Cond.code ({ cls := "com/example/kalip/kalip/recordshop/domain/Artist", name := "setId", desc := "(I)V" } : Jvm.MethodName) prog_67_method_3_code (2 : Nat) (Option.none : Option Jvm.ClassFile.FieldType)).before args0 about1 = true := code_word (m := ⟨2, 2⟩) (meth := k2m2) (c := k2c2) (by decide +kernel) rfl rfl rfl (by decide +kernel)
set_option maxRecDepth 65536 in
theorem w_c5 : (Jvm.Cond.code ({ cls := "com/example/kalip/kalip/recordshop/domain/Artist", name := "setVersion", desc := "(J)V" } : Jvm.MethodName) prog_67_method_7_code (3 : Nat) (Option.none : Option Jvm.ClassFile.FieldType)).before args0 about1 = true := code_word (m := ⟨2, 5⟩) (meth := k2m5) (c := k2c5) (by decide +kernel) rfl rfl rfl (by decide +kernel)
set_option maxRecDepth 65536 in
theorem w_c6 : (Jvm.Cond.code ({ cls := "com/example/kalip/kalip/recordshop/domain/Artist", name := "setName", desc := "(Ljava/lang/String;)V" } : Jvm.MethodName) prog_67_method_5_code (2 : Nat) (Option.none : Option Jvm.ClassFile.FieldType)).before args0 about1 = true := code_word (m := ⟨2, 4⟩) (meth := k2m4) (c := k2c4) (by decide +kernel) rfl rfl rfl (by decide +kernel)
set_option maxRecDepth 65536 in
theorem w_c7 : (Jvm.Cond.code ({ cls := "com/example/kalip/kalip/recordshop/api/ArtistDto", name := "item", desc := "(Lcom/example/kalip/kalip/recordshop/domain/Artist;)Lcom/example/kalip/kalip/recordshop/api/ArtistDto$Item;" } : Jvm.MethodName) prog_54_method_3_code (1 : Nat) (Option.some (Jvm.ClassFile.FieldType.object "com/example/kalip/kalip/recordshop/api/ArtistDto$Item"))).before args0 about1 = true := code_word (m := ⟨9, 0⟩) (meth := k9m0) (c := k9c0) (by decide +kernel) rfl rfl rfl (by decide +kernel)
set_option maxRecDepth 65536 in
theorem w_c8 : (Jvm.Cond.code ({ cls := "com/example/kalip/kalip/recordshop/domain/Artist", name := "getId", desc := "()I" } : Jvm.MethodName) prog_67_method_2_code (1 : Nat) (Option.some Jvm.ClassFile.FieldType.int)).before args0 about1 = true := code_word (m := ⟨2, 1⟩) (meth := k2m1) (c := k2c1) (by decide +kernel) rfl rfl rfl (by decide +kernel)
set_option maxRecDepth 65536 in
theorem w_c9 : (Jvm.Cond.code ({ cls := "com/example/kalip/kalip/recordshop/domain/Artist", name := "getName", desc := "()Ljava/lang/String;" } : Jvm.MethodName) prog_67_method_4_code (1 : Nat) (Option.some (Jvm.ClassFile.FieldType.object "java/lang/String"))).before args0 about1 = true := code_word (m := ⟨2, 3⟩) (meth := k2m3) (c := k2c3) (by decide +kernel) rfl rfl rfl (by decide +kernel)
set_option maxRecDepth 65536 in
theorem w_c10 : (Jvm.Cond.code ({ cls := "com/example/kalip/kalip/recordshop/api/ArtistDto$Item", name := "<init>", desc := "(ILjava/lang/String;)V" } : Jvm.MethodName) prog_57_method_1_code (3 : Nat) (Option.none : Option Jvm.ClassFile.FieldType)).before args0 about1 = true := code_word (m := ⟨10, 0⟩) (meth := k10m0) (c := k10c0) (by decide +kernel) rfl rfl rfl (by decide +kernel)
set_option maxRecDepth 65536 in
theorem w_c11 : (Jvm.Cond.code ({ cls := "java/lang/Record", name := "<init>", desc := "()V" } : Jvm.MethodName) jdk_30_method_1_code (1 : Nat) (Option.none : Option Jvm.ClassFile.FieldType)).before args0 about1 = true := code_word (m := ⟨8, 0⟩) (meth := k8m0) (c := k8c0) (by decide +kernel) rfl rfl rfl (by decide +kernel)
set_option maxRecDepth 65536 in
theorem w_c12 : (Jvm.Cond.code ({ cls := "com/example/kalip/kalip/recordshop/api/ArtistDto$Item", name := "id", desc := "()I" } : Jvm.MethodName) prog_57_method_5_code (1 : Nat) (Option.some Jvm.ClassFile.FieldType.int)).before args0 about1 = true := code_word (m := ⟨10, 1⟩) (meth := k10m1) (c := k10c1) (by decide +kernel) rfl rfl rfl (by decide +kernel)
set_option maxRecDepth 65536 in
theorem w_c13 : (Jvm.Cond.code ({ cls := "com/example/kalip/kalip/recordshop/api/ArtistDto$Item", name := "name", desc := "()Ljava/lang/String;" } : Jvm.MethodName) prog_57_method_6_code (1 : Nat) (Option.some (Jvm.ClassFile.FieldType.object "java/lang/String"))).before args0 about1 = true := code_word (m := ⟨10, 2⟩) (meth := k10m2) (c := k10c2) (by decide +kernel) rfl rfl rfl (by decide +kernel)
set_option maxRecDepth 65536 in
theorem w_c14 : (Jvm.Cond.code ({ cls := "java/lang/String", name := "valueOf", desc := "(C)Ljava/lang/String;" } : Jvm.MethodName) jdk_42_method_139_code (1 : Nat) (Option.some (Jvm.ClassFile.FieldType.object "java/lang/String"))).before args0 about1 = true := code_word (m := ⟨16, 4⟩) (meth := k16m4) (c := k16c4) (by decide +kernel) rfl rfl rfl (by decide +kernel)
set_option maxRecDepth 65536 in
theorem w_c15 : (Jvm.Cond.code ({ cls := "java/lang/StringLatin1", name := "canEncode", desc := "(C)Z" } : Jvm.MethodName) jdk_43_method_3_code (1 : Nat) (Option.some Jvm.ClassFile.FieldType.boolean)).before args0 about1 = true := code_word (m := ⟨17, 1⟩) (meth := k17m1) (c := k17c1) (by decide +kernel) rfl rfl rfl (by decide +kernel)
set_option maxRecDepth 65536 in
theorem w_c16 : (Jvm.Cond.code ({ cls := "java/lang/StringLatin1", name := "toBytes", desc := "(C)[B" } : Jvm.MethodName) jdk_43_method_46_code (1 : Nat) (Option.some (Jvm.ClassFile.FieldType.array Jvm.ClassFile.FieldType.byte))).before args0 about1 = true := code_word (m := ⟨17, 2⟩) (meth := k17m2) (c := k17c2) (by decide +kernel) rfl rfl rfl (by decide +kernel)
set_option maxRecDepth 65536 in
theorem w_c17 : (Jvm.Cond.code ({ cls := "java/lang/String", name := "<init>", desc := "([BB)V" } : Jvm.MethodName) jdk_42_method_151_code (3 : Nat) (Option.none : Option Jvm.ClassFile.FieldType)).before args0 about1 = true := code_word (m := ⟨16, 6⟩) (meth := k16m6) (c := k16c6) (by decide +kernel) rfl rfl rfl (by decide +kernel)
set_option maxRecDepth 65536 in
theorem w_c18 : (Jvm.Cond.code ({ cls := "java/lang/String", name := "length", desc := "()I" } : Jvm.MethodName) jdk_42_method_54_code (1 : Nat) (Option.some Jvm.ClassFile.FieldType.int)).before args0 about1 = true := code_word (m := ⟨16, 2⟩) (meth := k16m2) (c := k16c2) (by decide +kernel) rfl rfl rfl (by decide +kernel)
set_option maxRecDepth 65536 in
theorem w_c19 : (Jvm.Cond.code ({ cls := "java/lang/String", name := "coder", desc := "()B" } : Jvm.MethodName) jdk_42_method_152_code (1 : Nat) (Option.some Jvm.ClassFile.FieldType.byte)).before args0 about1 = true := code_word (m := ⟨16, 7⟩) (meth := k16m7) (c := k16c7) (by decide +kernel) rfl rfl rfl (by decide +kernel)
set_option maxRecDepth 65536 in
theorem w_c20 : (Jvm.Cond.code ({ cls := "java/lang/String", name := "equals", desc := "(Ljava/lang/Object;)Z" } : Jvm.MethodName) jdk_42_method_66_code (3 : Nat) (Option.some Jvm.ClassFile.FieldType.boolean)).before args0 about1 = true := code_word (m := ⟨16, 3⟩) (meth := k16m3) (c := k16c3) (by decide +kernel) rfl rfl rfl (by decide +kernel)
set_option maxRecDepth 65536 in
theorem w_c21 : (Jvm.Cond.code ({ cls := "java/lang/String", name := "<init>", desc := "([C)V" } : Jvm.MethodName) jdk_42_method_3_code (2 : Nat) (Option.none : Option Jvm.ClassFile.FieldType)).before args0 about1 = true := code_word (m := ⟨16, 1⟩) (meth := k16m1) (c := k16c1) (by decide +kernel) rfl rfl rfl (by decide +kernel)
set_option maxRecDepth 65536 in
theorem w_c22 : (Jvm.Cond.code ({ cls := "java/lang/String", name := "<init>", desc := "([CIILjava/lang/Void;)V" } : Jvm.MethodName) jdk_42_method_149_code (6 : Nat) (Option.none : Option Jvm.ClassFile.FieldType)).before args0 about1 = true := code_word (m := ⟨16, 5⟩) (meth := k16m5) (c := k16c5) (by decide +kernel) rfl rfl rfl (by decide +kernel)
set_option maxRecDepth 65536 in
theorem w_c23 : (Jvm.Cond.code ({ cls := "java/lang/StringUTF16", name := "compress", desc := "([CII)[B" } : Jvm.MethodName) jdk_52_method_16_code (6 : Nat) (Option.some (Jvm.ClassFile.FieldType.array Jvm.ClassFile.FieldType.byte))).before args0 about1 = true := code_word (m := ⟨18, 2⟩) (meth := k18m2) (c := k18c2) (by decide +kernel) rfl rfl rfl (by decide +kernel)
set_option maxRecDepth 65536 in
theorem w_c24 : (Jvm.Cond.code ({ cls := "java/lang/StringUTF16", name := "compress", desc := "([CI[BII)I" } : Jvm.MethodName) jdk_52_method_21_code (7 : Nat) (Option.some Jvm.ClassFile.FieldType.int)).before args0 about1 = true := code_word (m := ⟨18, 3⟩) (meth := k18m3) (c := k18c3) (by decide +kernel) rfl rfl rfl (by decide +kernel)
set_option maxRecDepth 65536 in
theorem w_c25 : (Jvm.Cond.code ({ cls := "java/lang/StringUTF16", name := "coderFromArrayLen", desc := "([BI)B" } : Jvm.MethodName) jdk_52_method_15_code (2 : Nat) (Option.some Jvm.ClassFile.FieldType.byte)).before args0 about1 = true := code_word (m := ⟨18, 1⟩) (meth := k18m1) (c := k18c1) (by decide +kernel) rfl rfl rfl (by decide +kernel)
def codes1 : List Jvm.Cond := [Jvm.Cond.code x code maxLocals ret, Jvm.Cond.code ({ cls := "com/example/kalip/kalip/recordshop/domain/Artist", name := "<init>", desc := "()V" } : Jvm.MethodName) prog_67_method_1_code (1 : Nat) (Option.none : Option Jvm.ClassFile.FieldType), Jvm.Cond.code ({ cls := "java/lang/Object", name := "<init>", desc := "()V" } : Jvm.MethodName) object_method_1_code (1 : Nat) (Option.none : Option Jvm.ClassFile.FieldType), Jvm.Cond.code ({ cls := "java/util/List", name := "of", desc := "()Ljava/util/List;" } : Jvm.MethodName) jdk_40_method_36_code (0 : Nat) (Option.some (Jvm.ClassFile.FieldType.object "java/util/List")), Jvm.Cond.code ({ cls := "com/example/kalip/kalip/recordshop/domain/Artist", name := "setId", desc := "(I)V" } : Jvm.MethodName) prog_67_method_3_code (2 : Nat) (Option.none : Option Jvm.ClassFile.FieldType), Jvm.Cond.code ({ cls := "com/example/kalip/kalip/recordshop/domain/Artist", name := "setVersion", desc := "(J)V" } : Jvm.MethodName) prog_67_method_7_code (3 : Nat) (Option.none : Option Jvm.ClassFile.FieldType), Jvm.Cond.code ({ cls := "com/example/kalip/kalip/recordshop/domain/Artist", name := "setName", desc := "(Ljava/lang/String;)V" } : Jvm.MethodName) prog_67_method_5_code (2 : Nat) (Option.none : Option Jvm.ClassFile.FieldType), Jvm.Cond.code ({ cls := "com/example/kalip/kalip/recordshop/api/ArtistDto", name := "item", desc := "(Lcom/example/kalip/kalip/recordshop/domain/Artist;)Lcom/example/kalip/kalip/recordshop/api/ArtistDto$Item;" } : Jvm.MethodName) prog_54_method_3_code (1 : Nat) (Option.some (Jvm.ClassFile.FieldType.object "com/example/kalip/kalip/recordshop/api/ArtistDto$Item")), Jvm.Cond.code ({ cls := "com/example/kalip/kalip/recordshop/domain/Artist", name := "getId", desc := "()I" } : Jvm.MethodName) prog_67_method_2_code (1 : Nat) (Option.some Jvm.ClassFile.FieldType.int), Jvm.Cond.code ({ cls := "com/example/kalip/kalip/recordshop/domain/Artist", name := "getName", desc := "()Ljava/lang/String;" } : Jvm.MethodName) prog_67_method_4_code (1 : Nat) (Option.some (Jvm.ClassFile.FieldType.object "java/lang/String")), Jvm.Cond.code ({ cls := "com/example/kalip/kalip/recordshop/api/ArtistDto$Item", name := "<init>", desc := "(ILjava/lang/String;)V" } : Jvm.MethodName) prog_57_method_1_code (3 : Nat) (Option.none : Option Jvm.ClassFile.FieldType), Jvm.Cond.code ({ cls := "java/lang/Record", name := "<init>", desc := "()V" } : Jvm.MethodName) jdk_30_method_1_code (1 : Nat) (Option.none : Option Jvm.ClassFile.FieldType), Jvm.Cond.code ({ cls := "com/example/kalip/kalip/recordshop/api/ArtistDto$Item", name := "id", desc := "()I" } : Jvm.MethodName) prog_57_method_5_code (1 : Nat) (Option.some Jvm.ClassFile.FieldType.int), Jvm.Cond.code ({ cls := "com/example/kalip/kalip/recordshop/api/ArtistDto$Item", name := "name", desc := "()Ljava/lang/String;" } : Jvm.MethodName) prog_57_method_6_code (1 : Nat) (Option.some (Jvm.ClassFile.FieldType.object "java/lang/String")), Jvm.Cond.code ({ cls := "java/lang/String", name := "valueOf", desc := "(C)Ljava/lang/String;" } : Jvm.MethodName) jdk_42_method_139_code (1 : Nat) (Option.some (Jvm.ClassFile.FieldType.object "java/lang/String")), Jvm.Cond.code ({ cls := "java/lang/StringLatin1", name := "canEncode", desc := "(C)Z" } : Jvm.MethodName) jdk_43_method_3_code (1 : Nat) (Option.some Jvm.ClassFile.FieldType.boolean), Jvm.Cond.code ({ cls := "java/lang/StringLatin1", name := "toBytes", desc := "(C)[B" } : Jvm.MethodName) jdk_43_method_46_code (1 : Nat) (Option.some (Jvm.ClassFile.FieldType.array Jvm.ClassFile.FieldType.byte)), Jvm.Cond.code ({ cls := "java/lang/String", name := "<init>", desc := "([BB)V" } : Jvm.MethodName) jdk_42_method_151_code (3 : Nat) (Option.none : Option Jvm.ClassFile.FieldType), Jvm.Cond.code ({ cls := "java/lang/String", name := "length", desc := "()I" } : Jvm.MethodName) jdk_42_method_54_code (1 : Nat) (Option.some Jvm.ClassFile.FieldType.int), Jvm.Cond.code ({ cls := "java/lang/String", name := "coder", desc := "()B" } : Jvm.MethodName) jdk_42_method_152_code (1 : Nat) (Option.some Jvm.ClassFile.FieldType.byte), Jvm.Cond.code ({ cls := "java/lang/String", name := "equals", desc := "(Ljava/lang/Object;)Z" } : Jvm.MethodName) jdk_42_method_66_code (3 : Nat) (Option.some Jvm.ClassFile.FieldType.boolean), Jvm.Cond.code ({ cls := "java/lang/String", name := "<init>", desc := "([C)V" } : Jvm.MethodName) jdk_42_method_3_code (2 : Nat) (Option.none : Option Jvm.ClassFile.FieldType), Jvm.Cond.code ({ cls := "java/lang/String", name := "<init>", desc := "([CIILjava/lang/Void;)V" } : Jvm.MethodName) jdk_42_method_149_code (6 : Nat) (Option.none : Option Jvm.ClassFile.FieldType), Jvm.Cond.code ({ cls := "java/lang/StringUTF16", name := "compress", desc := "([CII)[B" } : Jvm.MethodName) jdk_52_method_16_code (6 : Nat) (Option.some (Jvm.ClassFile.FieldType.array Jvm.ClassFile.FieldType.byte)), Jvm.Cond.code ({ cls := "java/lang/StringUTF16", name := "compress", desc := "([CI[BII)I" } : Jvm.MethodName) jdk_52_method_21_code (7 : Nat) (Option.some Jvm.ClassFile.FieldType.int), Jvm.Cond.code ({ cls := "java/lang/StringUTF16", name := "coderFromArrayLen", desc := "([BI)B" } : Jvm.MethodName) jdk_52_method_15_code (2 : Nat) (Option.some Jvm.ClassFile.FieldType.byte)]
set_option maxRecDepth 65536 in
theorem codes_eq : words1.filter isCode = codes1 := rfl
theorem w_codes : ∀ c ∈ words1.filter isCode, c.before args0 about1 = true := by
  rw [codes_eq]
  intro c hc
  simp only [codes1, List.mem_cons, List.not_mem_nil, or_false] at hc
  rcases hc with rfl | rfl | rfl | rfl | rfl | rfl | rfl | rfl | rfl | rfl | rfl | rfl | rfl | rfl | rfl | rfl | rfl | rfl | rfl | rfl | rfl | rfl | rfl | rfl | rfl | rfl
  · exact w_c0
  · exact w_c1
  · exact w_c2
  · exact w_c3
  · exact w_c4
  · exact w_c5
  · exact w_c6
  · exact w_c7
  · exact w_c8
  · exact w_c9
  · exact w_c10
  · exact w_c11
  · exact w_c12
  · exact w_c13
  · exact w_c14
  · exact w_c15
  · exact w_c16
  · exact w_c17
  · exact w_c18
  · exact w_c19
  · exact w_c20
  · exact w_c21
  · exact w_c22
  · exact w_c23
  · exact w_c24
  · exact w_c25
set_option maxRecDepth 65536 in
theorem w_t1 : (words1.take 24).all (fun c => isCode c || c.before args0 about1) = true := by decide +kernel
set_option maxRecDepth 65536 in
theorem w_t2 : ((words1.drop 24).take 24).all (fun c => isCode c || c.before args0 about1) = true := by decide +kernel
set_option maxRecDepth 65536 in
theorem w_t3 : (((words1.drop 24).drop 24).take 24).all (fun c => isCode c || c.before args0 about1) = true := by decide +kernel
set_option maxRecDepth 65536 in
theorem w_t4 : ((((words1.drop 24).drop 24).drop 24).take 24).all (fun c => isCode c || c.before args0 about1) = true := by decide +kernel
set_option maxRecDepth 65536 in
theorem w_t5 : (((((words1.drop 24).drop 24).drop 24).drop 24).take 24).all (fun c => isCode c || c.before args0 about1) = true := by decide +kernel
set_option maxRecDepth 65536 in
theorem w_t6 : (((((words1.drop 24).drop 24).drop 24).drop 24).drop 24).all (fun c => isCode c || c.before args0 about1) = true := by decide +kernel
theorem w_tables : (allAtoms (Jvm.Cond.code x code maxLocals ret :: tables_1)).before args0 about1 = true := by
  rw [allAtoms_all]
  show words1.all (fun c => c.before args0 about1) = true
  refine all_split ?_ w_codes
  rw [← List.take_append_drop 24 words1, List.all_append, w_t1, ← List.take_append_drop 24 (words1.drop 24), List.all_append, w_t2, ← List.take_append_drop 24 ((words1.drop 24).drop 24), List.all_append, w_t3, ← List.take_append_drop 24 (((words1.drop 24).drop 24).drop 24), List.all_append, w_t4, ← List.take_append_drop 24 ((((words1.drop 24).drop 24).drop 24).drop 24), List.all_append, w_t5, w_t6]
  rfl
set_option maxRecDepth 65536 in
theorem w_rest : rest_1_c.before args0 about1 = true := by decide +kernel
set_option maxRecDepth 65536 in
theorem w_case : (Jvm.Cond.and given_1 narrow_1).before args0 about1 = true := by decide +kernel
set_option maxRecDepth 65536 in
theorem w_consts : constsHeld consts_1 about1 := Jvm.Lit.constsHeldB_iff.mp (by decide +kernel)
theorem w_applies : (headSpec (Jvm.Cond.code x code maxLocals ret :: tables_1) room_1).applies x e0.platform about1 = true :=
  (Spec.applies_iff w_frames).mpr ⟨w_running, w_runnable, w_alone, w_named, w_hears, w_ripe, w_room, w_tables⟩
theorem atStart : AtStart classFile x code maxLocals ret World_1 tables_1 room_1 Calls_1 rest_1 Pre_1 launch0 p0 e0 about1 theMethod args0 below0 :=
  ⟨lists_1, trivial, launch0.admits_env _ _ _, launch0.least_env, fairChoices_fair.cas, fairChoices_fair.clock, w_frames, w_args, w_heap, w_applies, ⟨w_consts, trivial⟩, w_rest, w_case⟩
end start1
theorem witness_1 : WitnessClaimed_1 := ⟨start1.p0, start1.e0, start1.about1, start1.theMethod, start1.args0, start1.below0, start1.atStart⟩
end Jvm.Pilot.@@N@@
