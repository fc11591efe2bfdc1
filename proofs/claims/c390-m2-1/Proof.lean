import JvmDerived
import JvmDerived.Pilot.@@N@@Statement
import JvmDerived.Pilot.@@N@@Code
set_option linter.unusedVariables false
set_option linter.unusedSimpArgs false
namespace Jvm.RoadKit
open Sem ClassFile Op Lib Jvm.Stand Jvm.Free Jvm.LawKit
section New
variable {p : Program} {l : Launch} {e : Env} {R : Room} {s : State} {m : MethodId} {args : Array Value} {below : List Frame} {meth : Method} {c : Code} {T : State} {locs : List Loc} {cells slots : Nat}
theorem retI (X : Stand p l e R s m args below meth c T locs cells slots) (hx : p.tables.exec = Jvm.exec) {pc : Nat} {Ls : Array Slot} {z : Int32} {rest : List Value} (hret : meth.sig.returnType = some .int) (hd : decode c.code pc = .ok (.ireturn, 1)) {fs : List Frame}
    (hl : ∀ (f : JFrame) (acts : List Action), f.method = m → f.locked = none → f.entered = [] → (doReturn e (T.setTop f) acts (some (.int z))).1 = T.setFrames fs) : Steps p.tables e below (T.setTop (mkF m pc Ls (.int z :: rest))) (T.setFrames fs) :=
  retOut X hx hret rfl (Or.inl ⟨rfl, Or.inl rfl, z, rfl⟩) hd hl
end New
end Jvm.RoadKit
namespace Jvm.Pilot.@@N@@
def own_ushr (x y : Int32) : Int32 := (x.toUInt32 >>> (y &&& 31).toUInt32).toInt32
def own_ushrL (x : Int64) (y : Int32) : Int64 := (x.toUInt64 >>> (y &&& 0x3f).toInt64.toUInt64).toInt64
def own_cmpL (x y : Int64) : Int32 := if x > y then 1 else if x = y then 0 else -1
open Jvm Jvm.ClassFile Sem Op Lib Jvm.Free Jvm.Stand Jvm.LawKit Jvm.RoadKit Bundle Jvm.Pilot.@@N@@.Jvm.D
abbrev uu : Slot := .unset
theorem own_wt {w : Nat} : 2 * 0 + w ≤ w := Nat.le_of_eq (Nat.zero_add w)
theorem own_rem_eq (x y : Int32) : x - x / y * y = x % y := by
  apply Int32.toInt_inj.mp
  have h := Int.tmod_add_mul_tdiv x.toInt y.toInt
  have e : (x % y).toInt = (x % y).toInt.bmod (2 ^ 32) := (Int.bmod_eq_of_le (Int32.le_toInt _) (Int32.toInt_lt _)).symm
  rw [e, Int32.toInt_sub, Int32.toInt_mul, Int32.toInt_div, Int32.toInt_mod, Int.sub_bmod_bmod, Int.sub_bmod, Int.bmod_mul_bmod, ← Int.sub_bmod]
  congr 1
  rw [Int.mul_comm (x.toInt.tdiv y.toInt)]
  omega
theorem own_W {a0 : Array Value} {Z : State} (hw : ∀ d ∈ tables_1, d.before a0 Z = true) (i : Nat) {d : Jvm.Cond} (h : tables_1[i]? = some d) : d.before a0 Z = true := hw d (List.mem_of_getElem? h)
theorem own_ofNat2 {n : Nat} (h : 2 * n < 2147483648) : Int32.ofNat n <<< ((1 : Int32) &&& 31) = Int32.ofNat (2 * n) := by
  rw [show ((1 : Int32) &&& 31) = 1 from rfl]
  apply Int32.toBitVec_inj.mp
  rw [Int32.toBitVec_shiftLeft]
  show (BitVec.ofNat 32 n) <<< (((1 : Int32).toBitVec).smod 32) = BitVec.ofNat 32 (2 * n)
  rw [show ((1 : Int32).toBitVec).smod 32 = 1#32 from by decide]
  apply BitVec.eq_of_toNat_eq
  simp [BitVec.toNat_shiftLeft, Nat.shiftLeft_eq, Nat.mul_comm]
theorem own_n32 {n : Nat} (hn : n < 2147483648) : (Int32.ofNat n).toNatClampNeg = n := by
  rw [Int32.toNatClampNeg, Int32.toInt_ofNat_of_lt (by omega)]; rfl
theorem own_nn {n : Nat} (hn : n < 2147483648) : ¬ Int32.ofNat n < 0 := by
  rw [Int32.lt_iff_toInt_lt, Int32.toInt_ofNat_of_lt (by omega), show (0 : Int32).toInt = 0 from rfl]; omega
theorem own_ltI {i n : Nat} (hi : i < 2147483648) (hn : n < 2147483648) : Int32.ofNat i < Int32.ofNat n ↔ i < n := by
  rw [Int32.lt_iff_toInt_lt, Int32.toInt_ofNat_of_lt (by omega), Int32.toInt_ofNat_of_lt (by omega)]; omega
theorem own_one (i : Nat) : Int32.ofNat i + (1 : Int32) = Int32.ofNat (i + 1) := (Int32.ofNat_add i 1).symm

open Jvm.FP Jvm.Free.Fl
theorem own_selP {args : Array Value} {s : State} {y : MethodName} {n : Nat} (w1 : (Cond.instantiable y.cls n).before args s = true) (w2 : (Cond.instanceMethod y).before args s = true) (w3 : (Cond.privateMethod y).before args s = true)
    (hy : y.cls ≠ "java/lang/invoke/MethodHandle" ∧ y.cls ≠ "java/lang/invoke/VarHandle") : (Cond.selects y.cls y y).before args s = true := by
  obtain ⟨c, k, h1, h2, h3, h4, -⟩ := Cond.instantiable_spec w1
  obtain ⟨m, meth, g1, g2, -, -⟩ := Cond.instanceMethod_spec w2
  have hp := Cond.privateMethod_at w3 m meth g1 g2
  have hf := State.methodFound?_of_named g1 hy
  have hc := findClass_of_methodNamed g1
  cases h1.symm.trans hc
  have hi : k.isInterface = false := by simp only [Bool.or_eq_false_iff] at h4; exact h4.1
  simp [Cond.before, Cond.holds, Cond.value, hc, hf, g1, selectMethod, g2, hp, h2, hi]
/-- a rate that the table takes: a number in [0, 1] -/
def own_ok (q : UInt64) : Prop := ¬ cmpValue (FP.dcmp q 0) .l < 0 ∧ ¬ (0 : Int32) < cmpValue (FP.dcmp q 4607182418800017408) .g ∧ cmpValue (FP.dcmp q q) .l = 0 ∧ Mag64 1024 q
theorem own_and7 (x : Int32) : ∃ k : Fin 8, x &&& (7 : Int32) = Int32.ofNat k.val := by
  have h : (x &&& 7).toBitVec.toNat < 8 := by
    rw [Int32.toBitVec_and, BitVec.toNat_and]
    exact Nat.lt_of_le_of_lt Nat.and_le_right (by decide)
  refine ⟨⟨_, h⟩, ?_⟩
  apply Int32.toBitVec_inj.mp
  show _ = BitVec.ofNat 32 _
  rw [BitVec.ofNat_toNat]; simp
def own_okB (q : UInt64) : Bool := decide (¬ cmpValue (FP.dcmp q 0) .l < 0) && decide (¬ (0 : Int32) < cmpValue (FP.dcmp q 4607182418800017408) .g) && decide (cmpValue (FP.dcmp q q) .l = 0) && decide (q.toNat % 9223372036854775808 < 1024 * 4503599627370496) && decide (q &&& 9223372036854775807 ≤ 9218868437227405312)
theorem own_okB_ok {q : UInt64} (h : own_okB q = true) : NoNaN64 q ∧ own_ok q := by
  unfold own_okB at h
  simp only [Bool.and_eq_true, decide_eq_true_eq] at h
  exact ⟨h.2, h.1.1.1.1, h.1.1.1.2, h.1.1.2, h.1.2⟩
theorem own_r8 (x : Int32) : ∃ q, FP.ddiv (FP.i2d (x &&& (7 : Int32))) 4620693217682128896 = q ∧ NoNaN64 (FP.ddiv (FP.i2d (x &&& (7 : Int32))) 4620693217682128896) ∧ own_ok q ∧ ¬ cmpValue (FP.dcmp q 4607182418800017408) .l = 0 := by
  obtain ⟨k, e⟩ := own_and7 x
  have t : ∀ k : Fin 8, own_okB (FP.ddiv (FP.i2d (Int32.ofNat k.val)) 4620693217682128896) = true ∧ ¬ cmpValue (FP.dcmp (FP.ddiv (FP.i2d (Int32.ofNat k.val)) 4620693217682128896) 4607182418800017408) .l = 0 := by decide +kernel
  rw [e]
  exact ⟨_, rfl, (own_okB_ok (t k).1).1, (own_okB_ok (t k).1).2, (t k).2⟩
theorem own_r7 (x : Int32) : ∃ q, FP.ddiv (FP.i2d (x &&& (7 : Int32))) 4619567317775286272 = q ∧ NoNaN64 (FP.ddiv (FP.i2d (x &&& (7 : Int32))) 4619567317775286272) ∧ own_ok q := by
  obtain ⟨k, e⟩ := own_and7 x
  have t : ∀ k : Fin 8, own_okB (FP.ddiv (FP.i2d (Int32.ofNat k.val)) 4619567317775286272) = true := by decide +kernel
  rw [e]
  exact ⟨_, rfl, (own_okB_ok (t k)).1, (own_okB_ok (t k)).2⟩
theorem own_num {K : Nat} {x : UInt64} (h : Mag64 K x) (hK : K ≤ 2047) : NoNaN64 x := (h.fin hK).noNaN
theorem own_big12 : Big64 1026 4622945017495814144 := by unfold Big64; decide +kernel
theorem own_one1 : Mag64 1024 4607182418800017408 := by unfold Mag64; decide +kernel
theorem own_m1 {q : UInt64} (h : Mag64 1024 q) (t : Int32) : Mag64 1058 (FP.dmul q (FP.i2d t)) := (dmul_mag h (i2d_mag t) (by decide) (by decide)).mono (by decide)
theorem own_m2 {q : UInt64} (h : Mag64 1024 q) (t : Int32) : Mag64 1056 (FP.ddiv (FP.dmul q (FP.i2d t)) 4622945017495814144) := (ddiv_mag (own_m1 h t) own_big12 (by decide) (by decide)).mono (by decide)
theorem own_m3 {q : UInt64} (h : Mag64 1024 q) (t : Int32) : Mag64 1058 (FP.dsub 4607182418800017408 (FP.ddiv (FP.dmul q (FP.i2d t)) 4622945017495814144)) := (dsub_mag (K := 1056) (own_one1.mono (by decide)) (own_m2 h t) (by decide)).mono (by decide)
theorem own_m4 {sv q : UInt64} (hs : Mag64 1040 sv) (h : Mag64 1024 q) (t : Int32) : Mag64 1076 (FP.dmul sv (FP.dsub 4607182418800017408 (FP.ddiv (FP.dmul q (FP.i2d t)) 4622945017495814144))) := (dmul_mag hs (own_m3 h t) (by decide) (by decide)).mono (by decide)
theorem own_m5 {q : UInt64} (h : Mag64 1024 q) : Mag64 1026 (FP.dsub 4607182418800017408 q) := (dsub_mag own_one1 h (by decide)).mono (by decide)
theorem own_m6 {K : Nat} {sv q : UInt64} (hs : Mag64 K sv) (hK : K ≤ 2000) (h : Mag64 1024 q) : Mag64 (K + 4) (FP.dmul sv (FP.dsub 4607182418800017408 q)) := (dmul_mag hs (own_m5 h) (by omega) (by decide)).mono (by omega)
theorem own_ix (j t : Nat) : (12 : Int32) * Int32.ofNat j + Int32.ofNat t = Int32.ofNat (12 * j + t) := by
  rw [show (12 : Int32) = Int32.ofNat 12 from rfl, ← Int32.ofNat_mul, ← Int32.ofNat_add]
theorem own_dif {i n : Nat} (h : i ≤ n) (hn : n < 2147483648) : Int32.ofNat n - Int32.ofNat i = Int32.ofNat (n - i) := by
  apply Int32.toInt_inj.mp
  rw [Int32.toInt_sub, Int32.toInt_ofNat_of_lt (by omega), Int32.toInt_ofNat_of_lt (by omega), Int32.toInt_ofNat_of_lt (by omega), Int.bmod_eq_of_le (Int.le_trans (by decide) (show (0 : Int) ≤ (n : Int) - i by omega)) (Int.lt_of_lt_of_le (show (n : Int) - i < 2147483648 by omega) (by decide))]
  omega
theorem own_len {i n : Nat} (h : i ≤ n) (hn : n < 2147483648) : (12 : Int32) * (Int32.ofNat n - Int32.ofNat i) = Int32.ofNat (12 * (n - i)) := by
  rw [own_dif h hn, show (12 : Int32) = Int32.ofNat 12 from rfl, ← Int32.ofNat_mul]
theorem own_sum (i j : Nat) : Int32.ofNat i + Int32.ofNat j = Int32.ofNat (i + j) := (Int32.ofNat_add i j).symm
theorem own_cmp0 (x y : Int64) (h : x = y) : own_cmpL x y = 0 := by
  subst h; unfold own_cmpL; rw [if_neg (Int64.lt_irrefl), if_pos rfl]
theorem own_back (x y : Int32) : x + y - x = y := by rw [Int32.add_comm, Int32.add_sub_cancel]
theorem own_pn_3 : plainName "java/util/Arrays" = true := by decide +kernel
theorem own_d1_0 : decode jdk_65_method_127_code 0 = .ok (.iload_n 1, 1) := by decide +kernel
theorem own_d1_1 : decode jdk_65_method_127_code 1 = .ok (.aload_n 0, 1) := by decide +kernel
theorem own_d1_2 : decode jdk_65_method_127_code 2 = .ok (.arraylength, 1) := by decide +kernel
theorem own_d1_3 : decode jdk_65_method_127_code 3 = .ok (.if_icmp .ne 11, 3) := by decide +kernel
theorem own_d1_6 : decode jdk_65_method_127_code 6 = .ok (.aload_n 0, 1) := by decide +kernel
theorem own_d1_7 : decode jdk_65_method_127_code 7 = .ok (.invokevirtual 328, 3) := by decide +kernel
theorem own_d1_10 : decode jdk_65_method_127_code 10 = .ok (.checkcast 329, 3) := by decide +kernel
theorem own_d1_13 : decode jdk_65_method_127_code 13 = .ok (.areturn, 1) := by decide +kernel
theorem own_ef_cpy (m : MethodId) (x0 : Addr) (x1 : Int32) : entryFrame m #[(.ref x0), (.int x1)] 3 = mkF m 0 #[rv x0, iv x1, uu] [] := by first | (simp [entryFrame, mkF, argsToLocals, Value.category]; done) | rfl
def Q_cpy (Z : State) (r1 : Addr) (n1 : Int32) (kr : ClassId) (vs : List Value) (h0 : Heap) (n0 : Nat) (v : Option Value) (h : Heap) (L : List Loc) : Prop := ∃ b, v = some (.ref b) ∧ Fr n0 L ∧ Keep h0 h [] ∧ h0.size ≤ b ∧ Arv Z h b kr .double n1 vs (.double 0) ∧ Exa Z h b "[D"
set_option maxRecDepth 65536 in
set_option maxHeartbeats 40000000 in
theorem rm_cpy (l : Launch) (Z : State) (a0 : Array Value) (hw : ∀ d ∈ tables_1, d.before a0 Z = true) (ws : List Jvm.Cond) (r1 : Addr) (n1 : Int32) (kr : ClassId) (vs : List Value) (h0 : Heap) (n0 : Nat) (Z0 : n0 ≤ h0.size) (V1 : Arv Z h0 r1 kr .double n1 vs (.double 0)) (E1 : Exa Z h0 r1 "[D") (hcap : n1.toNatClampNeg ≤ 3) :
    MetFree l (⟨"java/util/Arrays", "copyOf", "([DI)[D"⟩ : MethodName) (head1 (Jvm.Cond.code (⟨"java/util/Arrays", "copyOf", "([DI)[D"⟩ : MethodName) jdk_65_method_127_code 3 (some (.array .double)) :: ws) ({ frames := 1, cells := 1, slots := 3, locals := 14 } : Room)) (fun a U => a = #[(.ref r1), (.int n1)] ∧ Z.Warmed39 U.vm ∧ U.heap = h0) (fun _ _ _ _ _ => True) (fun _ U o U' => ∃ v L, o = .returned v ∧ Q_cpy Z r1 n1 kr vs h0 n0 v U'.heap L ∧ FrameEnd U o U' L ({ frames := 1, cells := 1, slots := 3, locals := 14 } : Room).cells ({ frames := 1, cells := 1, slots := 3, locals := 14 } : Room).slots) := by
  refine MetFree.of_bodySF (plainFor_of_name own_pn_3) hisR ?_
  intro p e s m args below meth c s₁ Bd hml0 hP hK
  obtain ⟨rfl, hZ, hh⟩ := hP
  have hx := Bd.exec
  have hby := Bd.bytes
  have hml : c.maxLocals = 3 := hml0
  have hown : s.vm.findClass "java/util/Arrays" = some m.cls := findClass_of_methodNamed Bd.named
  have hnm := (name_of_methodNamed Bd.named Bd.method).1
  have W := own_W hw
  have X0 : Stand p l e ({ frames := 1, cells := 1, slots := 3, locals := 14 } : Room) s m #[(.ref r1), (.int n1)] below meth c s₁ [] 0 0 := Stand.of_body Bd
  have e0 : s₁.heap = h0 := by rw [← hh, Bd.state]; rfl
  have N0 := Fr.nil n0
  have pre0 : ∀ tq, Steps p.tables e below (s₁.setTop (mkF m 0 #[rv r1, iv n1, uu] [])) tq → Steps p.tables e below (s₁.setTop (entryFrame m #[(.ref r1), (.int n1)] 3)) tq := fun tq k => castTop (own_ef_cpy m r1 n1) k
  have K1 : Keep h0 h0 [] := Keep.refl h0 []
  obtain ⟨cl2, Ar2, aq2, aS2, aN2, aH2, aG2⟩ := id V1
  obtain ⟨T3, h3, X3, e3, E3, V3, ex3, st3⟩ := cloneH X0 hx hZ hown (W 20 rfl) (W 21 rfl) (W 25 rfl) (W 23 rfl) (W 24 rfl) (W 26 rfl) e0 (Arv.arh V1) E1 (g := (mkF m 7 #[rv r1, iv n1, uu] [.ref r1])) rfl (by rw [hml]; rfl) rfl (hb hby own_d1_7) (by decide) (W := 0) own_wt (by decide) (cap := 3) hcap (by decide) (by decide)
  obtain ⟨b3, g3⟩ : ∃ z, z = h0.size := ⟨_, rfl⟩
  rw [← g3] at V3 ex3 st3
  have g4 : n0 ≤ b3 := Nat.le_trans Z0 (Nat.le_of_eq g3.symm)
  have g5 : h0.size ≤ b3 := Nat.le_trans K1.1 (Nat.le_of_eq g3.symm)
  have Z6 : n0 ≤ h3.size := Nat.le_trans Z0 E3.1
  have K7 : Keep h0 h3 [] := K1.ext E3
  have VC : Arv Z h3 b3 kr .double n1 vs (.double 0) := V3
  obtain ⟨T8, X8, e8, st8⟩ := castY X3 hx hZ hown (W 27 rfl) e3 (Ins.self ex3) (g := (mkF m 10 #[rv r1, iv n1, uu] [.ref b3])) rfl rfl (hb hby own_d1_10)
  obtain ⟨fs, hr, hrun, hended, hW, hsame⟩ := X8.leave (v := some (.ref b3)) (fun h => by rw [Bd.returns] at h; cases h)
  refine ⟨_, _, pre0 _ (?_), hrun, hended, _, _, rfl, ?_, ⟨_, rfl⟩, hW, hsame.mono (by decide) (by decide)⟩
  · show Steps _ _ _ (s₁.setTop (mkF m 0 #[rv r1, iv n1, uu] [])) _
    refine XS.iloadN X0.here hx rfl (hb hby own_d1_0) rfl ?_
    show Steps _ _ _ (s₁.setTop (mkF m 1 _ [.int n1])) _
    refine XS.aloadN X0.here hx rfl (hb hby own_d1_1) rfl rfl ?_
    show Steps _ _ _ (s₁.setTop (mkF m 2 _ [.ref r1, .int n1])) _
    refine X0.arraylength hx (by rw [e0]; exact Ar2.1) (State.isArrayOf_alike hZ.alike Ar2.2.1) (g := (mkF m 2 #[rv r1, iv n1, uu] [.ref r1, .int n1])) rfl rfl (hb hby own_d1_2) _ ?_
    rw [len_of aS2 aN2]
    show Steps _ _ _ (s₁.setTop (mkF m 3 #[rv r1, iv n1, uu] [.int n1, .int n1])) _
    refine XS.icmpNo X0.here hx rfl (hb hby own_d1_3) rfl (teq (rfl : n1 = n1)).2 ?_
    show Steps _ _ _ (s₁.setTop (mkF m 6 _ [])) _
    refine XS.aloadN X0.here hx rfl (hb hby own_d1_6) rfl rfl ?_
    show Steps _ _ _ (s₁.setTop (mkF m 7 _ [.ref r1])) _
    refine st3 _ ?_
    show Steps _ _ _ (T3.setTop (mkF m 10 #[rv r1, iv n1, uu] [.ref b3])) _
    refine st8 _ ?_
    show Steps _ _ _ (T8.setTop (mkF m 13 #[rv r1, iv n1, uu] [.ref b3])) _
    exact retOut X8 hx Bd.returns rfl (Or.inr (Or.inr (Or.inr (Or.inr ⟨rfl, rfl, rfl⟩)))) (hb hby own_d1_13) hr
  · show Q_cpy Z r1 n1 kr vs h0 n0 _ T8.heap _
    rw [e8]
    exact ⟨b3, rfl, N0, K7, g5, VC, ex3⟩
theorem own_pn_0 : plainName "com/example/pensionwright/pensionwright/actuarial/MortalityTable" = true := by decide +kernel
theorem own_d6_0 : decode prog_3_method_8_code 0 = .ok (.iload_n 1, 1) := by decide +kernel
theorem own_d6_1 : decode prog_3_method_8_code 1 = .ok (.aload_n 0, 1) := by decide +kernel
theorem own_d6_2 : decode prog_3_method_8_code 2 = .ok (.getfield 34, 3) := by decide +kernel
theorem own_d6_5 : decode prog_3_method_8_code 5 = .ok (.isub, 1) := by decide +kernel
theorem own_d6_6 : decode prog_3_method_8_code 6 = .ok (.istore_n 2, 1) := by decide +kernel
theorem own_d6_7 : decode prog_3_method_8_code 7 = .ok (.bipush 12, 2) := by decide +kernel
theorem own_d6_9 : decode prog_3_method_8_code 9 = .ok (.aload_n 0, 1) := by decide +kernel
theorem own_d6_10 : decode prog_3_method_8_code 10 = .ok (.getfield 44, 3) := by decide +kernel
theorem own_d6_13 : decode prog_3_method_8_code 13 = .ok (.arraylength, 1) := by decide +kernel
theorem own_d6_14 : decode prog_3_method_8_code 14 = .ok (.iload_n 2, 1) := by decide +kernel
theorem own_d6_15 : decode prog_3_method_8_code 15 = .ok (.isub, 1) := by decide +kernel
theorem own_d6_16 : decode prog_3_method_8_code 16 = .ok (.imul, 1) := by decide +kernel
theorem own_d6_17 : decode prog_3_method_8_code 17 = .ok (.newarray .double, 2) := by decide +kernel
theorem own_d6_19 : decode prog_3_method_8_code 19 = .ok (.astore_n 3, 1) := by decide +kernel
theorem own_d6_20 : decode prog_3_method_8_code 20 = .ok (.dconst 1, 1) := by decide +kernel
theorem own_d6_21 : decode prog_3_method_8_code 21 = .ok (.dstore 4, 2) := by decide +kernel
theorem own_d6_23 : decode prog_3_method_8_code 23 = .ok (.iconst 0, 1) := by decide +kernel
theorem own_d6_24 : decode prog_3_method_8_code 24 = .ok (.istore 6, 2) := by decide +kernel
theorem own_d6_52 : decode prog_3_method_8_code 52 = .ok (.iload 9, 2) := by decide +kernel
theorem own_d6_54 : decode prog_3_method_8_code 54 = .ok (.bipush 12, 2) := by decide +kernel
theorem own_d6_56 : decode prog_3_method_8_code 56 = .ok (.if_icmp .ge 34, 3) := by decide +kernel
theorem own_d6_59 : decode prog_3_method_8_code 59 = .ok (.aload_n 3, 1) := by decide +kernel
theorem own_d6_60 : decode prog_3_method_8_code 60 = .ok (.bipush 12, 2) := by decide +kernel
theorem own_d6_62 : decode prog_3_method_8_code 62 = .ok (.iload 6, 2) := by decide +kernel
theorem own_d6_64 : decode prog_3_method_8_code 64 = .ok (.imul, 1) := by decide +kernel
theorem own_d6_65 : decode prog_3_method_8_code 65 = .ok (.iload 9, 2) := by decide +kernel
theorem own_d6_67 : decode prog_3_method_8_code 67 = .ok (.iadd, 1) := by decide +kernel
theorem own_d6_68 : decode prog_3_method_8_code 68 = .ok (.dload 4, 2) := by decide +kernel
theorem own_d6_70 : decode prog_3_method_8_code 70 = .ok (.dconst 1, 1) := by decide +kernel
theorem own_d6_71 : decode prog_3_method_8_code 71 = .ok (.dload 7, 2) := by decide +kernel
theorem own_d6_73 : decode prog_3_method_8_code 73 = .ok (.iload 9, 2) := by decide +kernel
theorem own_d6_75 : decode prog_3_method_8_code 75 = .ok (.i2d, 1) := by decide +kernel
theorem own_d6_76 : decode prog_3_method_8_code 76 = .ok (.dmul, 1) := by decide +kernel
theorem own_d6_77 : decode prog_3_method_8_code 77 = .ok (.ldc2_w 72, 3) := by decide +kernel
theorem own_d6_80 : decode prog_3_method_8_code 80 = .ok (.ddiv, 1) := by decide +kernel
theorem own_d6_81 : decode prog_3_method_8_code 81 = .ok (.dsub, 1) := by decide +kernel
theorem own_d6_82 : decode prog_3_method_8_code 82 = .ok (.dmul, 1) := by decide +kernel
theorem own_d6_83 : decode prog_3_method_8_code 83 = .ok (.dastore, 1) := by decide +kernel
theorem own_d6_84 : decode prog_3_method_8_code 84 = .ok (.iinc 9 1, 3) := by decide +kernel
theorem own_d6_87 : decode prog_3_method_8_code 87 = .ok (.goto (-35), 3) := by decide +kernel
theorem own_d6_26 : decode prog_3_method_8_code 26 = .ok (.iload_n 2, 1) := by decide +kernel
theorem own_d6_27 : decode prog_3_method_8_code 27 = .ok (.iload 6, 2) := by decide +kernel
theorem own_d6_29 : decode prog_3_method_8_code 29 = .ok (.iadd, 1) := by decide +kernel
theorem own_d6_30 : decode prog_3_method_8_code 30 = .ok (.aload_n 0, 1) := by decide +kernel
theorem own_d6_31 : decode prog_3_method_8_code 31 = .ok (.getfield 44, 3) := by decide +kernel
theorem own_d6_34 : decode prog_3_method_8_code 34 = .ok (.arraylength, 1) := by decide +kernel
theorem own_d6_35 : decode prog_3_method_8_code 35 = .ok (.if_icmp .ge 70, 3) := by decide +kernel
theorem own_d6_38 : decode prog_3_method_8_code 38 = .ok (.aload_n 0, 1) := by decide +kernel
theorem own_d6_39 : decode prog_3_method_8_code 39 = .ok (.getfield 44, 3) := by decide +kernel
theorem own_d6_42 : decode prog_3_method_8_code 42 = .ok (.iload_n 2, 1) := by decide +kernel
theorem own_d6_43 : decode prog_3_method_8_code 43 = .ok (.iload 6, 2) := by decide +kernel
theorem own_d6_45 : decode prog_3_method_8_code 45 = .ok (.iadd, 1) := by decide +kernel
theorem own_d6_46 : decode prog_3_method_8_code 46 = .ok (.daload, 1) := by decide +kernel
theorem own_d6_47 : decode prog_3_method_8_code 47 = .ok (.dstore 7, 2) := by decide +kernel
theorem own_d6_49 : decode prog_3_method_8_code 49 = .ok (.iconst 0, 1) := by decide +kernel
theorem own_d6_50 : decode prog_3_method_8_code 50 = .ok (.istore 9, 2) := by decide +kernel
theorem own_d6_90 : decode prog_3_method_8_code 90 = .ok (.dload 4, 2) := by decide +kernel
theorem own_d6_92 : decode prog_3_method_8_code 92 = .ok (.dconst 1, 1) := by decide +kernel
theorem own_d6_93 : decode prog_3_method_8_code 93 = .ok (.dload 7, 2) := by decide +kernel
theorem own_d6_95 : decode prog_3_method_8_code 95 = .ok (.dsub, 1) := by decide +kernel
theorem own_d6_96 : decode prog_3_method_8_code 96 = .ok (.dmul, 1) := by decide +kernel
theorem own_d6_97 : decode prog_3_method_8_code 97 = .ok (.dstore 4, 2) := by decide +kernel
theorem own_d6_99 : decode prog_3_method_8_code 99 = .ok (.iinc 6 1, 3) := by decide +kernel
theorem own_d6_102 : decode prog_3_method_8_code 102 = .ok (.goto (-76), 3) := by decide +kernel
theorem own_d6_105 : decode prog_3_method_8_code 105 = .ok (.aload_n 3, 1) := by decide +kernel
theorem own_d6_106 : decode prog_3_method_8_code 106 = .ok (.areturn, 1) := by decide +kernel
theorem own_ef_alv (m : MethodId) (x0 : Addr) (x1 : Int32) : entryFrame m #[(.ref x0), (.int x1)] 10 = mkF m 0 #[rv x0, iv x1, uu, uu, uu, uu, uu, uu, uu, uu] [] := by first | (simp [entryFrame, mkF, argsToLocals, Value.category]; done) | rfl
def Q_alv (Z : State) (a1 r1 : Addr) (p1 f1 : Int32) (kr : ClassId) (vs : List Value) (n i : Nat) (h0 : Heap) (n0 : Nat) (v : Option Value) (h : Heap) (L : List Loc) : Prop := ∃ b, v = some (.ref b) ∧ Fr n0 L ∧ Keep h0 h [] ∧ h0.size ≤ b ∧ Exa Z h b "[D"
set_option maxRecDepth 65536 in
set_option maxHeartbeats 40000000 in
theorem rm_alv (l : Launch) (Z : State) (a0 : Array Value) (hw : ∀ d ∈ tables_1, d.before a0 Z = true) (ws : List Jvm.Cond) (a1 r1 : Addr) (p1 f1 : Int32) (kr : ClassId) (vs : List Value) (n i : Nat) (h0 : Heap) (n0 : Nat) (Z0 : n0 ≤ h0.size) (F1 : Fld Z h0 a1 "com/example/pensionwright/pensionwright/actuarial/MortalityTable" "firstAge" "I" (.int f1)) (F2 : Fld Z h0 a1 "com/example/pensionwright/pensionwright/actuarial/MortalityTable" "rates" "[D" (.ref r1)) (V1 : Arv Z h0 r1 kr .double (Int32.ofNat n) vs (.double 0)) (hi : p1 - f1 = Int32.ofNat i) (hin : i < n) (hn3 : n ≤ 3) (hq : ∀ j, j < n → ∃ q, vs.getD j (.double 0) = .double q ∧ Mag64 1024 q) :
    MetFree l (⟨"com/example/pensionwright/pensionwright/actuarial/MortalityTable", "aliveByMonth", "(I)[D"⟩ : MethodName) (head1 (Jvm.Cond.code (⟨"com/example/pensionwright/pensionwright/actuarial/MortalityTable", "aliveByMonth", "(I)[D"⟩ : MethodName) prog_3_method_8_code 10 (some (.array .double)) :: ws) ({ frames := 0, cells := 1, slots := 36, locals := 0 } : Room)) (fun a U => a = #[(.ref a1), (.int p1)] ∧ Z.Warmed39 U.vm ∧ U.heap = h0) (fun _ _ _ _ _ => True) (fun _ U o U' => ∃ v L, o = .returned v ∧ Q_alv Z a1 r1 p1 f1 kr vs n i h0 n0 v U'.heap L ∧ FrameEnd U o U' L ({ frames := 0, cells := 1, slots := 36, locals := 0 } : Room).cells ({ frames := 0, cells := 1, slots := 36, locals := 0 } : Room).slots) := by
  refine MetFree.of_bodySF (plainFor_of_name own_pn_0) hisR ?_
  intro p e s m args below meth c s₁ Bd hml0 hP hK
  obtain ⟨rfl, hZ, hh⟩ := hP
  have hx := Bd.exec
  have hby := Bd.bytes
  have hml : c.maxLocals = 10 := hml0
  have hown : s.vm.findClass "com/example/pensionwright/pensionwright/actuarial/MortalityTable" = some m.cls := findClass_of_methodNamed Bd.named
  have hnm := (name_of_methodNamed Bd.named Bd.method).1
  have W := own_W hw
  have X0 : Stand p l e ({ frames := 0, cells := 1, slots := 36, locals := 0 } : Room) s m #[(.ref a1), (.int p1)] below meth c s₁ [] 0 0 := Stand.of_body Bd
  have e0 : s₁.heap = h0 := by rw [← hh, Bd.state]; rfl
  have N0 := Fr.nil n0
  have pre0 : ∀ tq, Steps p.tables e below (s₁.setTop (mkF m 0 #[rv a1, iv p1, uu, uu, uu, uu, uu, uu, uu, uu] [])) tq → Steps p.tables e below (s₁.setTop (entryFrame m #[(.ref a1), (.int p1)] 10)) tq := fun tq k => castTop (own_ef_alv m a1 p1) k
  have K9 : Keep h0 h0 [] := Keep.refl h0 []
  obtain ⟨T10, X10, e10, st10⟩ := getF X0 hx hZ hown (host := "") (Or.inl (W 14 rfl)) Via.refl e0 F1 (g := (mkF m 2 #[rv a1, iv p1, uu, uu, uu, uu, uu, uu, uu, uu] [.ref a1, .int p1])) rfl rfl (hb hby own_d6_2)
  obtain ⟨T11, X11, e11, st11⟩ := getF X10 hx hZ hown (host := "") (Or.inl (W 29 rfl)) Via.refl e10 F2 (g := (mkF m 10 #[rv a1, iv p1, iv (Int32.ofNat i), uu, uu, uu, uu, uu, uu, uu] [.ref a1, .int 12])) rfl rfl (hb hby own_d6_10)
  obtain ⟨cl12, Ar12, aq12, aS12, aN12, aH12, aG12⟩ := id V1
  obtain ⟨T13, h13, k13, X13, e13, E13, A13, ex13, st13⟩ := newPE X11 hx hZ (W 3 rfl) e11 (g := (mkF m 17 #[rv a1, iv p1, iv (Int32.ofNat i), uu, uu, uu, uu, uu, uu, uu] [.int (Int32.ofNat (12 * (n - i)))])) rfl (hb hby own_d6_17) rfl (own_nn (by omega)) (cap := 36) (by rw [own_n32 (by omega)]; omega) (by decide) (by decide) (by decide) (ad := "[D") (by decide)
  obtain ⟨b13, g13⟩ : ∃ z, z = h0.size := ⟨_, rfl⟩
  rw [← g13] at A13 ex13 st13
  have g14 : n0 ≤ b13 := Nat.le_trans Z0 (Nat.le_of_eq g13.symm)
  have g15 : h0.size ≤ b13 := Nat.le_trans K9.1 (Nat.le_of_eq g13.symm)
  have Z16 : n0 ≤ h13.size := Nat.le_trans Z0 E13.1
  have K17 : Keep h0 h13 [] := K9.ext E13
  have V13 : Arv Z h13 b13 k13 .double (Int32.ofNat (12 * (n - i))) [] (.double 0) := Arv.new A13 (own_nn (by omega))
  have G18 : ∀ tq, Steps p.tables e below (T13.setTop (mkF m 26 #[rv a1, iv p1, iv (Int32.ofNat i), rv b13, .val (.double 4607182418800017408), .second, iv 0, uu, uu, uu] [])) tq → Steps p.tables e below (s₁.setTop (mkF m 0 #[rv a1, iv p1, uu, uu, uu, uu, uu, uu, uu, uu] [])) tq := by
    intro tq kk
    show Steps _ _ _ (s₁.setTop (mkF m 0 #[rv a1, iv p1, uu, uu, uu, uu, uu, uu, uu, uu] [])) _
    refine XS.iloadN X0.here hx rfl (hb hby own_d6_0) rfl ?_
    show Steps _ _ _ (s₁.setTop (mkF m 1 _ [.int p1])) _
    refine XS.aloadN X0.here hx rfl (hb hby own_d6_1) rfl rfl ?_
    show Steps _ _ _ (s₁.setTop (mkF m 2 _ [.ref a1, .int p1])) _
    refine st10 _ ?_
    show Steps _ _ _ (T10.setTop (mkF m 5 #[rv a1, iv p1, uu, uu, uu, uu, uu, uu, uu, uu] [.int f1, .int p1])) _
    refine XS.isub X10.here hx rfl (hb hby own_d6_5) rfl ?_
    rw [hi]
    show Steps _ _ _ (T10.setTop (mkF m 6 #[rv a1, iv p1, uu, uu, uu, uu, uu, uu, uu, uu] [.int (Int32.ofNat i)])) _
    refine XS.istoreN X10.here hx rfl (hb hby own_d6_6) rfl (l' := #[rv a1, iv p1, iv (Int32.ofNat i), uu, uu, uu, uu, uu, uu, uu]) rfl ?_
    show Steps _ _ _ (T10.setTop (mkF m 7 _ [])) _
    refine XS.bipush X10.here hx rfl (hb hby own_d6_7) ?_
    show Steps _ _ _ (T10.setTop (mkF m 9 _ [.int 12])) _
    refine XS.aloadN X10.here hx rfl (hb hby own_d6_9) rfl rfl ?_
    show Steps _ _ _ (T10.setTop (mkF m 10 _ [.ref a1, .int 12])) _
    refine st11 _ ?_
    show Steps _ _ _ (T11.setTop (mkF m 13 #[rv a1, iv p1, iv (Int32.ofNat i), uu, uu, uu, uu, uu, uu, uu] [.ref r1, .int 12])) _
    refine X11.arraylength hx (by rw [e11]; exact Ar12.1) (State.isArrayOf_alike hZ.alike Ar12.2.1) (g := (mkF m 13 #[rv a1, iv p1, iv (Int32.ofNat i), uu, uu, uu, uu, uu, uu, uu] [.ref r1, .int 12])) rfl rfl (hb hby own_d6_13) _ ?_
    rw [len_of aS12 aN12]
    show Steps _ _ _ (T11.setTop (mkF m 14 #[rv a1, iv p1, iv (Int32.ofNat i), uu, uu, uu, uu, uu, uu, uu] [.int (Int32.ofNat n), .int 12])) _
    refine XS.iloadN X11.here hx rfl (hb hby own_d6_14) rfl ?_
    show Steps _ _ _ (T11.setTop (mkF m 15 _ [.int (Int32.ofNat i), .int (Int32.ofNat n), .int 12])) _
    refine XS.isub X11.here hx rfl (hb hby own_d6_15) rfl ?_
    show Steps _ _ _ (T11.setTop (mkF m 16 _ [.int ((Int32.ofNat n) - (Int32.ofNat i)), .int 12])) _
    refine XS.imul X11.here hx rfl (hb hby own_d6_16) rfl ?_
    rw [own_len (i := i) (n := n) (by omega) (by omega)]
    show Steps _ _ _ (T11.setTop (mkF m 17 #[rv a1, iv p1, iv (Int32.ofNat i), uu, uu, uu, uu, uu, uu, uu] [.int (Int32.ofNat (12 * (n - i)))])) _
    refine st13 _ ?_
    show Steps _ _ _ (T13.setTop (mkF m 19 #[rv a1, iv p1, iv (Int32.ofNat i), uu, uu, uu, uu, uu, uu, uu] [.ref b13])) _
    refine XS.astoreN X13.here hx rfl (hb hby own_d6_19) rfl rfl (l' := #[rv a1, iv p1, iv (Int32.ofNat i), rv b13, uu, uu, uu, uu, uu, uu]) rfl ?_
    show Steps _ _ _ (T13.setTop (mkF m 20 _ [])) _
    refine XS.dconst1 X13.here hx rfl (hb hby own_d6_20) (v := 4607182418800017408) rfl ?_
    show Steps _ _ _ (T13.setTop (mkF m 21 _ [.double 4607182418800017408])) _
    refine XS.dstore X13.here hx rfl (hb hby own_d6_21) rfl (l' := #[rv a1, iv p1, iv (Int32.ofNat i), rv b13, .val (.double 4607182418800017408), .second, uu, uu, uu, uu]) rfl ?_
    show Steps _ _ _ (T13.setTop (mkF m 23 _ [])) _
    refine XS.iconst X13.here hx rfl (hb hby own_d6_23) ?_
    show Steps _ _ _ (T13.setTop (mkF m 24 _ [.int 0])) _
    refine XS.istore X13.here hx rfl (hb hby own_d6_24) rfl (l' := #[rv a1, iv p1, iv (Int32.ofNat i), rv b13, .val (.double 4607182418800017408), .second, iv 0, uu, uu, uu]) rfl ?_
    exact kk
  have f19 := (F2.ext E13)
  have f20 := (V1.ext E13)
  have hna : a1 ≠ b13 := (Nat.ne_of_lt (Nat.lt_of_lt_of_le F1.lt (Nat.le_of_eq g13.symm)))
  have hnr : r1 ≠ b13 := (Nat.ne_of_lt (Nat.lt_of_lt_of_le V1.lt (Nat.le_of_eq g13.symm)))
  have inner : ∀ (j : Nat) (sv q : UInt64) (d t : Nat) (T : State) (locs : List Loc) (h : Heap), i + j < n → Mag64 1040 sv → Mag64 1024 q → t + d = 12 → Stand p l e ({ frames := 0, cells := 1, slots := 36, locals := 0 } : Room) s m #[(.ref a1), (.int p1)] below meth c T locs 1 36 → T.heap = h → Fr n0 locs → n0 ≤ h.size → Keep h13 h [b13] → (∃ ws, Arv Z h b13 k13 .double (Int32.ofNat (12 * (n - i))) ws (.double 0)) →
      ∃ (T' : State) (locs' : List Loc) (h' : Heap), Stand p l e ({ frames := 0, cells := 1, slots := 36, locals := 0 } : Room) s m #[(.ref a1), (.int p1)] below meth c T' locs' 1 36 ∧ T'.heap = h' ∧ Fr n0 locs' ∧ n0 ≤ h'.size ∧ Keep h13 h' [b13] ∧ (∃ ws, Arv Z h' b13 k13 .double (Int32.ofNat (12 * (n - i))) ws (.double 0)) ∧ (∀ tgt, Steps p.tables e below (T'.setTop (mkF m 90 #[rv a1, iv p1, iv (Int32.ofNat i), rv b13, .val (.double sv), .second, iv (Int32.ofNat j), .val (.double q), .second, iv (Int32.ofNat 12)] [])) tgt → Steps p.tables e below (T.setTop (mkF m 52 #[rv a1, iv p1, iv (Int32.ofNat i), rv b13, .val (.double sv), .second, iv (Int32.ofNat j), .val (.double q), .second, iv (Int32.ofNat t)] [])) tgt) := by
    intro j sv q d
    induction d with
    | zero =>
      intro t T locs h hj hs hq1 ht XT eT NT ZT KT VT
      have htt : t = 12 := by omega
      subst htt
      have G21 : ∀ tq, Steps p.tables e below (T.setTop (mkF m 90 #[rv a1, iv p1, iv (Int32.ofNat i), rv b13, .val (.double sv), .second, iv (Int32.ofNat j), .val (.double q), .second, iv (Int32.ofNat 12)] [])) tq → Steps p.tables e below (T.setTop (mkF m 52 #[rv a1, iv p1, iv (Int32.ofNat i), rv b13, .val (.double sv), .second, iv (Int32.ofNat j), .val (.double q), .second, iv (Int32.ofNat 12)] [])) tq := by
        intro tq kk
        show Steps _ _ _ (T.setTop (mkF m 52 #[rv a1, iv p1, iv (Int32.ofNat i), rv b13, .val (.double sv), .second, iv (Int32.ofNat j), .val (.double q), .second, iv (Int32.ofNat 12)] [])) _
        refine XS.iload XT.here hx rfl (hb hby own_d6_52) rfl ?_
        show Steps _ _ _ (T.setTop (mkF m 54 _ [.int (Int32.ofNat 12)])) _
        refine XS.bipush XT.here hx rfl (hb hby own_d6_54) ?_
        show Steps _ _ _ (T.setTop (mkF m 56 _ [.int 12, .int (Int32.ofNat 12)])) _
        refine XS.icmpYes XT.here hx rfl (pc0 := 56) (pc' := 90) rfl (hb hby own_d6_56) rfl (flt ((by decide) : ¬ ((Int32.ofNat 12) < (12 : Int32)))).2.1 (by decide) (by decide) ?_
        exact kk
      exact ⟨T, locs, h, XT, eT, NT, ZT, KT, VT, fun tgt kk => G21 _ kk⟩
    | succ d ih =>
      intro t T locs h hj hs hq1 ht XT eT NT ZT KT VT
      have htt : Int32.ofNat t < (12 : Int32) := (own_ltI (n := 12) (by omega) (by omega)).mpr (by omega)
      have hix : Int32.ofNat (12 * j + t) < (Int32.ofNat (12 * (n - i))) := (own_ltI (by omega) (by omega)).mpr (by omega)
      obtain ⟨ws, VW⟩ := VT
      have VP := VW.pad (pad_rep _ (.double 0) 36)
      obtain ⟨clD, ArD, aqD, aSD, aND, aHD, aGD⟩ := id VP
      obtain ⟨T22, h22, X22, e22, W22, st22⟩ := stD XT hx hZ eT ArD (j := Int32.ofNat (12 * j + t)) (inb_of aSD ⟨own_nn (by omega), hix⟩) (g := (mkF m 83 #[rv a1, iv p1, iv (Int32.ofNat i), rv b13, .val (.double sv), .second, iv (Int32.ofNat j), .val (.double q), .second, iv (Int32.ofNat t)] [.double (FP.dmul sv (FP.dsub 4607182418800017408 (FP.ddiv (FP.dmul q (FP.i2d (Int32.ofNat t))) 4622945017495814144))), .int (Int32.ofNat (12 * j + t)), .ref b13])) rfl rfl (hb hby own_d6_83)
      have N22 := Fr.snoc X22 NT g14
      have Vx := Arv.set ArD aqD aSD aND aHD aGD rfl W22 (12 * j + t) (own_n32 (by omega)) (by rw [List.length_append, List.length_replicate]; omega)
      have KT2 := KT.wr W22 (Or.inl (by simp))
      have Z23 : n0 ≤ h22.size := Nat.le_trans ZT (Keep.of_wr W22).1
      have G24 : ∀ tq, Steps p.tables e below (T22.setTop (mkF m 52 #[rv a1, iv p1, iv (Int32.ofNat i), rv b13, .val (.double sv), .second, iv (Int32.ofNat j), .val (.double q), .second, iv (Int32.ofNat (t + 1))] [])) tq → Steps p.tables e below (T.setTop (mkF m 52 #[rv a1, iv p1, iv (Int32.ofNat i), rv b13, .val (.double sv), .second, iv (Int32.ofNat j), .val (.double q), .second, iv (Int32.ofNat t)] [])) tq := by
        intro tq kk
        show Steps _ _ _ (T.setTop (mkF m 52 #[rv a1, iv p1, iv (Int32.ofNat i), rv b13, .val (.double sv), .second, iv (Int32.ofNat j), .val (.double q), .second, iv (Int32.ofNat t)] [])) _
        refine XS.iload XT.here hx rfl (hb hby own_d6_52) rfl ?_
        show Steps _ _ _ (T.setTop (mkF m 54 _ [.int (Int32.ofNat t)])) _
        refine XS.bipush XT.here hx rfl (hb hby own_d6_54) ?_
        show Steps _ _ _ (T.setTop (mkF m 56 _ [.int 12, .int (Int32.ofNat t)])) _
        refine XS.icmpNo XT.here hx rfl (hb hby own_d6_56) rfl (tlt (htt : (Int32.ofNat t) < (12 : Int32))).2.1 ?_
        show Steps _ _ _ (T.setTop (mkF m 59 _ [])) _
        refine XS.aloadN XT.here hx rfl (hb hby own_d6_59) rfl rfl ?_
        show Steps _ _ _ (T.setTop (mkF m 60 _ [.ref b13])) _
        refine XS.bipush XT.here hx rfl (hb hby own_d6_60) ?_
        show Steps _ _ _ (T.setTop (mkF m 62 _ [.int 12, .ref b13])) _
        refine XS.iload XT.here hx rfl (hb hby own_d6_62) rfl ?_
        show Steps _ _ _ (T.setTop (mkF m 64 _ [.int (Int32.ofNat j), .int 12, .ref b13])) _
        refine XS.imul XT.here hx rfl (hb hby own_d6_64) rfl ?_
        show Steps _ _ _ (T.setTop (mkF m 65 _ [.int ((12 : Int32) * (Int32.ofNat j)), .ref b13])) _
        refine XS.iload XT.here hx rfl (hb hby own_d6_65) rfl ?_
        show Steps _ _ _ (T.setTop (mkF m 67 #[rv a1, iv p1, iv (Int32.ofNat i), rv b13, .val (.double sv), .second, iv (Int32.ofNat j), .val (.double q), .second, iv (Int32.ofNat t)] [.int (Int32.ofNat t), .int ((12 : Int32) * (Int32.ofNat j)), .ref b13])) _
        refine XS.iadd XT.here hx rfl (hb hby own_d6_67) rfl ?_
        rw [own_ix j t]
        show Steps _ _ _ (T.setTop (mkF m 68 #[rv a1, iv p1, iv (Int32.ofNat i), rv b13, .val (.double sv), .second, iv (Int32.ofNat j), .val (.double q), .second, iv (Int32.ofNat t)] [.int (Int32.ofNat (12 * j + t)), .ref b13])) _
        refine XS.dload XT.here hx rfl (hb hby own_d6_68) rfl ?_
        show Steps _ _ _ (T.setTop (mkF m 70 _ [.double sv, .int (Int32.ofNat (12 * j + t)), .ref b13])) _
        refine XS.dconst1 XT.here hx rfl (hb hby own_d6_70) (v := 4607182418800017408) rfl ?_
        show Steps _ _ _ (T.setTop (mkF m 71 _ [.double 4607182418800017408, .double sv, .int (Int32.ofNat (12 * j + t)), .ref b13])) _
        refine XS.dload XT.here hx rfl (hb hby own_d6_71) rfl ?_
        show Steps _ _ _ (T.setTop (mkF m 73 _ [.double q, .double 4607182418800017408, .double sv, .int (Int32.ofNat (12 * j + t)), .ref b13])) _
        refine XS.iload XT.here hx rfl (hb hby own_d6_73) rfl ?_
        show Steps _ _ _ (T.setTop (mkF m 75 _ [.int (Int32.ofNat t), .double q, .double 4607182418800017408, .double sv, .int (Int32.ofNat (12 * j + t)), .ref b13])) _
        refine XS.i2dS XT.here hx rfl (hb hby own_d6_75) rfl rfl ?_
        show Steps _ _ _ (T.setTop (mkF m 76 _ [.double (FP.i2d (Int32.ofNat t)), .double q, .double 4607182418800017408, .double sv, .int (Int32.ofNat (12 * j + t)), .ref b13])) _
        refine XS.dmulS XT.here hx rfl (hb hby own_d6_76) rfl (own_num (own_m1 hq1 _) (by decide)) rfl ?_
        show Steps _ _ _ (T.setTop (mkF m 77 _ [.double (FP.dmul q (FP.i2d (Int32.ofNat t))), .double 4607182418800017408, .double sv, .int (Int32.ofNat (12 * j + t)), .ref b13])) _
        refine XT.ldc2DoubleC hx hown (mvT hZ (W 39 rfl)) (g := (mkF m 77 #[rv a1, iv p1, iv (Int32.ofNat i), rv b13, .val (.double sv), .second, iv (Int32.ofNat j), .val (.double q), .second, iv (Int32.ofNat t)] [.double (FP.dmul q (FP.i2d (Int32.ofNat t))), .double 4607182418800017408, .double sv, .int (Int32.ofNat (12 * j + t)), .ref b13])) rfl (hb hby own_d6_77) _ ?_
        show Steps _ _ _ (T.setTop (mkF m 80 #[rv a1, iv p1, iv (Int32.ofNat i), rv b13, .val (.double sv), .second, iv (Int32.ofNat j), .val (.double q), .second, iv (Int32.ofNat t)] [.double 4622945017495814144, .double (FP.dmul q (FP.i2d (Int32.ofNat t))), .double 4607182418800017408, .double sv, .int (Int32.ofNat (12 * j + t)), .ref b13])) _
        refine XS.ddivS XT.here hx rfl (hb hby own_d6_80) rfl (own_num (own_m2 hq1 _) (by decide)) rfl ?_
        show Steps _ _ _ (T.setTop (mkF m 81 _ [.double (FP.ddiv (FP.dmul q (FP.i2d (Int32.ofNat t))) 4622945017495814144), .double 4607182418800017408, .double sv, .int (Int32.ofNat (12 * j + t)), .ref b13])) _
        refine XS.dsubS XT.here hx rfl (hb hby own_d6_81) rfl (own_num (own_m3 hq1 _) (by decide)) rfl ?_
        show Steps _ _ _ (T.setTop (mkF m 82 _ [.double (FP.dsub 4607182418800017408 (FP.ddiv (FP.dmul q (FP.i2d (Int32.ofNat t))) 4622945017495814144)), .double sv, .int (Int32.ofNat (12 * j + t)), .ref b13])) _
        refine XS.dmulS XT.here hx rfl (hb hby own_d6_82) rfl (own_num (own_m4 hs hq1 _) (by decide)) rfl ?_
        show Steps _ _ _ (T.setTop (mkF m 83 _ [.double (FP.dmul sv (FP.dsub 4607182418800017408 (FP.ddiv (FP.dmul q (FP.i2d (Int32.ofNat t))) 4622945017495814144))), .int (Int32.ofNat (12 * j + t)), .ref b13])) _
        refine st22 _ ?_
        show Steps _ _ _ (T22.setTop (mkF m 84 #[rv a1, iv p1, iv (Int32.ofNat i), rv b13, .val (.double sv), .second, iv (Int32.ofNat j), .val (.double q), .second, iv (Int32.ofNat t)] [])) _
        refine XS.iinc X22.here hx rfl (hb hby own_d6_84) rfl (l' := #[rv a1, iv p1, iv (Int32.ofNat i), rv b13, .val (.double sv), .second, iv (Int32.ofNat j), .val (.double q), .second, iv (Int32.ofNat (t + 1))]) (by rw [show Int32.ofNat t + Int32.ofInt 1 = Int32.ofNat (t + 1) from own_one t]; rfl) ?_
        show Steps _ _ _ (T22.setTop (mkF m 87 _ [])) _
        refine XS.goto X22.here hx rfl (pc0 := 87) (pc' := 52) rfl (hb hby own_d6_87) (by decide) (by decide) ?_
        exact kk
      obtain ⟨T', locs', h', XA, eA, NA, ZA, KA, VA, GA⟩ := ih (t + 1) T22 _ h22 hj hs hq1 (by omega) X22 e22 N22 Z23 KT2 ⟨_, Vx⟩
      exact ⟨T', locs', h', XA, eA, NA, ZA, KA, VA, fun tgt kk => G24 _ (GA _ kk)⟩
  have hj0 : i + 0 < n := hin
  have hjt0 : Int32.ofNat i + (0 : Int32) < (Int32.ofNat n) := by rw [show (0 : Int32) = Int32.ofNat 0 from rfl, own_sum]; exact (own_ltI (by omega) (by omega)).mpr hj0
  have FR0 := f19.keep (Keep.refl h13 [b13]) (ninS hna nin0)
  have VR0 := f20.keep (Keep.refl h13 [b13]) (ninS hnr nin0)
  obtain ⟨q0, eq0, mq0⟩ := hq (i + 0) hj0
  obtain ⟨cl25, Ar25, aq25, aS25, aN25, aH25, aG25⟩ := id VR0
  have hin0 := inb_of aS25 ⟨(by rw [show (0 : Int32) = Int32.ofNat 0 from rfl, own_sum]; exact own_nn (by omega)), hjt0⟩
  have hat0 := Has.at aH25 hin0 (show vs.getD (Int32.ofNat i + (0 : Int32)).toNatClampNeg (.double 0) = .double q0 by rw [show (0 : Int32) = Int32.ofNat 0 from rfl, own_sum, own_n32 (by omega)]; exact eq0)
  obtain ⟨T26, X26, e26, st26⟩ := getF X13 hx hZ hown (host := "") (Or.inl (W 29 rfl)) Via.refl e13 FR0 (g := (mkF m 31 #[rv a1, iv p1, iv (Int32.ofNat i), rv b13, .val (.double 4607182418800017408), .second, iv 0, uu, uu, uu] [.ref a1, .int ((Int32.ofNat i) + (0 : Int32))])) rfl rfl (hb hby own_d6_31)
  obtain ⟨T27, X27, e27, st27⟩ := getF X26 hx hZ hown (host := "") (Or.inl (W 29 rfl)) Via.refl e26 FR0 (g := (mkF m 39 #[rv a1, iv p1, iv (Int32.ofNat i), rv b13, .val (.double 4607182418800017408), .second, iv 0, uu, uu, uu] [.ref a1])) rfl rfl (hb hby own_d6_39)
  have G28 : ∀ tq, Steps p.tables e below (T27.setTop (mkF m 52 #[rv a1, iv p1, iv (Int32.ofNat i), rv b13, .val (.double 4607182418800017408), .second, iv 0, .val (.double q0), .second, iv 0] [])) tq → Steps p.tables e below (T13.setTop (mkF m 26 #[rv a1, iv p1, iv (Int32.ofNat i), rv b13, .val (.double 4607182418800017408), .second, iv 0, uu, uu, uu] [])) tq := by
    intro tq kk
    show Steps _ _ _ (T13.setTop (mkF m 26 #[rv a1, iv p1, iv (Int32.ofNat i), rv b13, .val (.double 4607182418800017408), .second, iv 0, uu, uu, uu] [])) _
    refine XS.iloadN X13.here hx rfl (hb hby own_d6_26) rfl ?_
    show Steps _ _ _ (T13.setTop (mkF m 27 _ [.int (Int32.ofNat i)])) _
    refine XS.iload X13.here hx rfl (hb hby own_d6_27) rfl ?_
    show Steps _ _ _ (T13.setTop (mkF m 29 _ [.int 0, .int (Int32.ofNat i)])) _
    refine XS.iadd X13.here hx rfl (hb hby own_d6_29) rfl ?_
    show Steps _ _ _ (T13.setTop (mkF m 30 _ [.int ((Int32.ofNat i) + (0 : Int32))])) _
    refine XS.aloadN X13.here hx rfl (hb hby own_d6_30) rfl rfl ?_
    show Steps _ _ _ (T13.setTop (mkF m 31 _ [.ref a1, .int ((Int32.ofNat i) + (0 : Int32))])) _
    refine st26 _ ?_
    show Steps _ _ _ (T26.setTop (mkF m 34 #[rv a1, iv p1, iv (Int32.ofNat i), rv b13, .val (.double 4607182418800017408), .second, iv 0, uu, uu, uu] [.ref r1, .int ((Int32.ofNat i) + (0 : Int32))])) _
    refine X26.arraylength hx (by rw [e26]; exact Ar25.1) (State.isArrayOf_alike hZ.alike Ar25.2.1) (g := (mkF m 34 #[rv a1, iv p1, iv (Int32.ofNat i), rv b13, .val (.double 4607182418800017408), .second, iv 0, uu, uu, uu] [.ref r1, .int ((Int32.ofNat i) + (0 : Int32))])) rfl rfl (hb hby own_d6_34) _ ?_
    rw [len_of aS25 aN25]
    show Steps _ _ _ (T26.setTop (mkF m 35 #[rv a1, iv p1, iv (Int32.ofNat i), rv b13, .val (.double 4607182418800017408), .second, iv 0, uu, uu, uu] [.int (Int32.ofNat n), .int ((Int32.ofNat i) + (0 : Int32))])) _
    refine XS.icmpNo X26.here hx rfl (hb hby own_d6_35) rfl (tlt (hjt0 : ((Int32.ofNat i) + (0 : Int32)) < (Int32.ofNat n))).2.1 ?_
    show Steps _ _ _ (T26.setTop (mkF m 38 _ [])) _
    refine XS.aloadN X26.here hx rfl (hb hby own_d6_38) rfl rfl ?_
    show Steps _ _ _ (T26.setTop (mkF m 39 _ [.ref a1])) _
    refine st27 _ ?_
    show Steps _ _ _ (T27.setTop (mkF m 42 #[rv a1, iv p1, iv (Int32.ofNat i), rv b13, .val (.double 4607182418800017408), .second, iv 0, uu, uu, uu] [.ref r1])) _
    refine XS.iloadN X27.here hx rfl (hb hby own_d6_42) rfl ?_
    show Steps _ _ _ (T27.setTop (mkF m 43 _ [.int (Int32.ofNat i), .ref r1])) _
    refine XS.iload X27.here hx rfl (hb hby own_d6_43) rfl ?_
    show Steps _ _ _ (T27.setTop (mkF m 45 _ [.int 0, .int (Int32.ofNat i), .ref r1])) _
    refine XS.iadd X27.here hx rfl (hb hby own_d6_45) rfl ?_
    show Steps _ _ _ (T27.setTop (mkF m 46 _ [.int ((Int32.ofNat i) + (0 : Int32)), .ref r1])) _
    refine X27.daload hx (j := ((Int32.ofNat i) + (0 : Int32))) (v := (.double q0)) (by rw [e27]; exact Ar25.1) (State.isArrayOf_alike hZ.alike Ar25.2.1) Ar25.2.2 hin0 hat0 (g := (mkF m 46 #[rv a1, iv p1, iv (Int32.ofNat i), rv b13, .val (.double 4607182418800017408), .second, iv 0, uu, uu, uu] [.int ((Int32.ofNat i) + (0 : Int32)), .ref r1])) rfl rfl (hb hby own_d6_46) _ ?_
    show Steps _ _ _ (T27.setTop (mkF m 47 #[rv a1, iv p1, iv (Int32.ofNat i), rv b13, .val (.double 4607182418800017408), .second, iv 0, uu, uu, uu] [.double q0])) _
    refine XS.dstore X27.here hx rfl (hb hby own_d6_47) rfl (l' := #[rv a1, iv p1, iv (Int32.ofNat i), rv b13, .val (.double 4607182418800017408), .second, iv 0, .val (.double q0), .second, uu]) rfl ?_
    show Steps _ _ _ (T27.setTop (mkF m 49 _ [])) _
    refine XS.iconst X27.here hx rfl (hb hby own_d6_49) ?_
    show Steps _ _ _ (T27.setTop (mkF m 50 _ [.int 0])) _
    refine XS.istore X27.here hx rfl (hb hby own_d6_50) rfl (l' := #[rv a1, iv p1, iv (Int32.ofNat i), rv b13, .val (.double 4607182418800017408), .second, iv 0, .val (.double q0), .second, iv 0]) rfl ?_
    exact kk
  obtain ⟨Ti0, li0, hi0, Xi0, ei0, Ni0, Zi0, Ki0, Vi0, Gi0⟩ := inner 0 4607182418800017408 q0 12 0 T27 _ h13 hj0 (own_one1.mono (by decide)) mq0 (by omega) X27 e27 N0 Z16 (Keep.refl h13 [b13]) ⟨_, V13⟩
  have G29 : ∀ tq, Steps p.tables e below (Ti0.setTop (mkF m 26 #[rv a1, iv p1, iv (Int32.ofNat i), rv b13, .val (.double (FP.dmul 4607182418800017408 (FP.dsub 4607182418800017408 q0))), .second, iv 1, .val (.double q0), .second, iv 12] [])) tq → Steps p.tables e below (Ti0.setTop (mkF m 90 #[rv a1, iv p1, iv (Int32.ofNat i), rv b13, .val (.double 4607182418800017408), .second, iv 0, .val (.double q0), .second, iv 12] [])) tq := by
    intro tq kk
    show Steps _ _ _ (Ti0.setTop (mkF m 90 #[rv a1, iv p1, iv (Int32.ofNat i), rv b13, .val (.double 4607182418800017408), .second, iv 0, .val (.double q0), .second, iv 12] [])) _
    refine XS.dload Xi0.here hx rfl (hb hby own_d6_90) rfl ?_
    show Steps _ _ _ (Ti0.setTop (mkF m 92 _ [.double 4607182418800017408])) _
    refine XS.dconst1 Xi0.here hx rfl (hb hby own_d6_92) (v := 4607182418800017408) rfl ?_
    show Steps _ _ _ (Ti0.setTop (mkF m 93 _ [.double 4607182418800017408, .double 4607182418800017408])) _
    refine XS.dload Xi0.here hx rfl (hb hby own_d6_93) rfl ?_
    show Steps _ _ _ (Ti0.setTop (mkF m 95 _ [.double q0, .double 4607182418800017408, .double 4607182418800017408])) _
    refine XS.dsubS Xi0.here hx rfl (hb hby own_d6_95) rfl (own_num (own_m5 mq0) (by decide)) rfl ?_
    show Steps _ _ _ (Ti0.setTop (mkF m 96 _ [.double (FP.dsub 4607182418800017408 q0), .double 4607182418800017408])) _
    refine XS.dmulS Xi0.here hx rfl (hb hby own_d6_96) rfl (own_num (own_m6 own_one1 (by decide) mq0) (by decide)) rfl ?_
    show Steps _ _ _ (Ti0.setTop (mkF m 97 _ [.double (FP.dmul 4607182418800017408 (FP.dsub 4607182418800017408 q0))])) _
    refine XS.dstore Xi0.here hx rfl (hb hby own_d6_97) rfl (l' := #[rv a1, iv p1, iv (Int32.ofNat i), rv b13, .val (.double (FP.dmul 4607182418800017408 (FP.dsub 4607182418800017408 q0))), .second, iv 0, .val (.double q0), .second, iv 12]) rfl ?_
    show Steps _ _ _ (Ti0.setTop (mkF m 99 _ [])) _
    refine XS.iinc Xi0.here hx rfl (hb hby own_d6_99) rfl (l' := #[rv a1, iv p1, iv (Int32.ofNat i), rv b13, .val (.double (FP.dmul 4607182418800017408 (FP.dsub 4607182418800017408 q0))), .second, iv 1, .val (.double q0), .second, iv 12]) rfl ?_
    show Steps _ _ _ (Ti0.setTop (mkF m 102 _ [])) _
    refine XS.goto Xi0.here hx rfl (pc0 := 102) (pc' := 26) rfl (hb hby own_d6_102) (by decide) (by decide) ?_
    exact kk
  by_cases hj1 : i + 1 < n
  · have hjt1 : Int32.ofNat i + (1 : Int32) < (Int32.ofNat n) := by rw [show (1 : Int32) = Int32.ofNat 1 from rfl, own_sum]; exact (own_ltI (by omega) (by omega)).mpr hj1
    have FR1 := f19.keep Ki0 (ninS hna nin0)
    have VR1 := f20.keep Ki0 (ninS hnr nin0)
    obtain ⟨q1, eq1, mq1⟩ := hq (i + 1) hj1
    obtain ⟨cl30, Ar30, aq30, aS30, aN30, aH30, aG30⟩ := id VR1
    have hin1 := inb_of aS30 ⟨(by rw [show (1 : Int32) = Int32.ofNat 1 from rfl, own_sum]; exact own_nn (by omega)), hjt1⟩
    have hat1 := Has.at aH30 hin1 (show vs.getD (Int32.ofNat i + (1 : Int32)).toNatClampNeg (.double 0) = .double q1 by rw [show (1 : Int32) = Int32.ofNat 1 from rfl, own_sum, own_n32 (by omega)]; exact eq1)
    obtain ⟨T31, X31, e31, st31⟩ := getF Xi0 hx hZ hown (host := "") (Or.inl (W 29 rfl)) Via.refl ei0 FR1 (g := (mkF m 31 #[rv a1, iv p1, iv (Int32.ofNat i), rv b13, .val (.double (FP.dmul 4607182418800017408 (FP.dsub 4607182418800017408 q0))), .second, iv 1, .val (.double q0), .second, iv 12] [.ref a1, .int ((Int32.ofNat i) + (1 : Int32))])) rfl rfl (hb hby own_d6_31)
    obtain ⟨T32, X32, e32, st32⟩ := getF X31 hx hZ hown (host := "") (Or.inl (W 29 rfl)) Via.refl e31 FR1 (g := (mkF m 39 #[rv a1, iv p1, iv (Int32.ofNat i), rv b13, .val (.double (FP.dmul 4607182418800017408 (FP.dsub 4607182418800017408 q0))), .second, iv 1, .val (.double q0), .second, iv 12] [.ref a1])) rfl rfl (hb hby own_d6_39)
    have G33 : ∀ tq, Steps p.tables e below (T32.setTop (mkF m 52 #[rv a1, iv p1, iv (Int32.ofNat i), rv b13, .val (.double (FP.dmul 4607182418800017408 (FP.dsub 4607182418800017408 q0))), .second, iv 1, .val (.double q1), .second, iv 0] [])) tq → Steps p.tables e below (Ti0.setTop (mkF m 26 #[rv a1, iv p1, iv (Int32.ofNat i), rv b13, .val (.double (FP.dmul 4607182418800017408 (FP.dsub 4607182418800017408 q0))), .second, iv 1, .val (.double q0), .second, iv 12] [])) tq := by
      intro tq kk
      show Steps _ _ _ (Ti0.setTop (mkF m 26 #[rv a1, iv p1, iv (Int32.ofNat i), rv b13, .val (.double (FP.dmul 4607182418800017408 (FP.dsub 4607182418800017408 q0))), .second, iv 1, .val (.double q0), .second, iv 12] [])) _
      refine XS.iloadN Xi0.here hx rfl (hb hby own_d6_26) rfl ?_
      show Steps _ _ _ (Ti0.setTop (mkF m 27 _ [.int (Int32.ofNat i)])) _
      refine XS.iload Xi0.here hx rfl (hb hby own_d6_27) rfl ?_
      show Steps _ _ _ (Ti0.setTop (mkF m 29 _ [.int 1, .int (Int32.ofNat i)])) _
      refine XS.iadd Xi0.here hx rfl (hb hby own_d6_29) rfl ?_
      show Steps _ _ _ (Ti0.setTop (mkF m 30 _ [.int ((Int32.ofNat i) + (1 : Int32))])) _
      refine XS.aloadN Xi0.here hx rfl (hb hby own_d6_30) rfl rfl ?_
      show Steps _ _ _ (Ti0.setTop (mkF m 31 _ [.ref a1, .int ((Int32.ofNat i) + (1 : Int32))])) _
      refine st31 _ ?_
      show Steps _ _ _ (T31.setTop (mkF m 34 #[rv a1, iv p1, iv (Int32.ofNat i), rv b13, .val (.double (FP.dmul 4607182418800017408 (FP.dsub 4607182418800017408 q0))), .second, iv 1, .val (.double q0), .second, iv 12] [.ref r1, .int ((Int32.ofNat i) + (1 : Int32))])) _
      refine X31.arraylength hx (by rw [e31]; exact Ar30.1) (State.isArrayOf_alike hZ.alike Ar30.2.1) (g := (mkF m 34 #[rv a1, iv p1, iv (Int32.ofNat i), rv b13, .val (.double (FP.dmul 4607182418800017408 (FP.dsub 4607182418800017408 q0))), .second, iv 1, .val (.double q0), .second, iv 12] [.ref r1, .int ((Int32.ofNat i) + (1 : Int32))])) rfl rfl (hb hby own_d6_34) _ ?_
      rw [len_of aS30 aN30]
      show Steps _ _ _ (T31.setTop (mkF m 35 #[rv a1, iv p1, iv (Int32.ofNat i), rv b13, .val (.double (FP.dmul 4607182418800017408 (FP.dsub 4607182418800017408 q0))), .second, iv 1, .val (.double q0), .second, iv 12] [.int (Int32.ofNat n), .int ((Int32.ofNat i) + (1 : Int32))])) _
      refine XS.icmpNo X31.here hx rfl (hb hby own_d6_35) rfl (tlt (hjt1 : ((Int32.ofNat i) + (1 : Int32)) < (Int32.ofNat n))).2.1 ?_
      show Steps _ _ _ (T31.setTop (mkF m 38 _ [])) _
      refine XS.aloadN X31.here hx rfl (hb hby own_d6_38) rfl rfl ?_
      show Steps _ _ _ (T31.setTop (mkF m 39 _ [.ref a1])) _
      refine st32 _ ?_
      show Steps _ _ _ (T32.setTop (mkF m 42 #[rv a1, iv p1, iv (Int32.ofNat i), rv b13, .val (.double (FP.dmul 4607182418800017408 (FP.dsub 4607182418800017408 q0))), .second, iv 1, .val (.double q0), .second, iv 12] [.ref r1])) _
      refine XS.iloadN X32.here hx rfl (hb hby own_d6_42) rfl ?_
      show Steps _ _ _ (T32.setTop (mkF m 43 _ [.int (Int32.ofNat i), .ref r1])) _
      refine XS.iload X32.here hx rfl (hb hby own_d6_43) rfl ?_
      show Steps _ _ _ (T32.setTop (mkF m 45 _ [.int 1, .int (Int32.ofNat i), .ref r1])) _
      refine XS.iadd X32.here hx rfl (hb hby own_d6_45) rfl ?_
      show Steps _ _ _ (T32.setTop (mkF m 46 _ [.int ((Int32.ofNat i) + (1 : Int32)), .ref r1])) _
      refine X32.daload hx (j := ((Int32.ofNat i) + (1 : Int32))) (v := (.double q1)) (by rw [e32]; exact Ar30.1) (State.isArrayOf_alike hZ.alike Ar30.2.1) Ar30.2.2 hin1 hat1 (g := (mkF m 46 #[rv a1, iv p1, iv (Int32.ofNat i), rv b13, .val (.double (FP.dmul 4607182418800017408 (FP.dsub 4607182418800017408 q0))), .second, iv 1, .val (.double q0), .second, iv 12] [.int ((Int32.ofNat i) + (1 : Int32)), .ref r1])) rfl rfl (hb hby own_d6_46) _ ?_
      show Steps _ _ _ (T32.setTop (mkF m 47 #[rv a1, iv p1, iv (Int32.ofNat i), rv b13, .val (.double (FP.dmul 4607182418800017408 (FP.dsub 4607182418800017408 q0))), .second, iv 1, .val (.double q0), .second, iv 12] [.double q1])) _
      refine XS.dstore X32.here hx rfl (hb hby own_d6_47) rfl (l' := #[rv a1, iv p1, iv (Int32.ofNat i), rv b13, .val (.double (FP.dmul 4607182418800017408 (FP.dsub 4607182418800017408 q0))), .second, iv 1, .val (.double q1), .second, iv 12]) rfl ?_
      show Steps _ _ _ (T32.setTop (mkF m 49 _ [])) _
      refine XS.iconst X32.here hx rfl (hb hby own_d6_49) ?_
      show Steps _ _ _ (T32.setTop (mkF m 50 _ [.int 0])) _
      refine XS.istore X32.here hx rfl (hb hby own_d6_50) rfl (l' := #[rv a1, iv p1, iv (Int32.ofNat i), rv b13, .val (.double (FP.dmul 4607182418800017408 (FP.dsub 4607182418800017408 q0))), .second, iv 1, .val (.double q1), .second, iv 0]) rfl ?_
      exact kk
    obtain ⟨Ti1, li1, hi1, Xi1, ei1, Ni1, Zi1, Ki1, Vi1, Gi1⟩ := inner 1 (FP.dmul 4607182418800017408 (FP.dsub 4607182418800017408 q0)) q1 12 0 T32 _ hi0 hj1 ((own_m6 own_one1 (by decide) mq0).mono (by decide)) mq1 (by omega) X32 e32 Ni0 Zi0 Ki0 Vi0
    have G34 : ∀ tq, Steps p.tables e below (Ti1.setTop (mkF m 26 #[rv a1, iv p1, iv (Int32.ofNat i), rv b13, .val (.double (FP.dmul (FP.dmul 4607182418800017408 (FP.dsub 4607182418800017408 q0)) (FP.dsub 4607182418800017408 q1))), .second, iv 2, .val (.double q1), .second, iv 12] [])) tq → Steps p.tables e below (Ti1.setTop (mkF m 90 #[rv a1, iv p1, iv (Int32.ofNat i), rv b13, .val (.double (FP.dmul 4607182418800017408 (FP.dsub 4607182418800017408 q0))), .second, iv 1, .val (.double q1), .second, iv 12] [])) tq := by
      intro tq kk
      show Steps _ _ _ (Ti1.setTop (mkF m 90 #[rv a1, iv p1, iv (Int32.ofNat i), rv b13, .val (.double (FP.dmul 4607182418800017408 (FP.dsub 4607182418800017408 q0))), .second, iv 1, .val (.double q1), .second, iv 12] [])) _
      refine XS.dload Xi1.here hx rfl (hb hby own_d6_90) rfl ?_
      show Steps _ _ _ (Ti1.setTop (mkF m 92 _ [.double (FP.dmul 4607182418800017408 (FP.dsub 4607182418800017408 q0))])) _
      refine XS.dconst1 Xi1.here hx rfl (hb hby own_d6_92) (v := 4607182418800017408) rfl ?_
      show Steps _ _ _ (Ti1.setTop (mkF m 93 _ [.double 4607182418800017408, .double (FP.dmul 4607182418800017408 (FP.dsub 4607182418800017408 q0))])) _
      refine XS.dload Xi1.here hx rfl (hb hby own_d6_93) rfl ?_
      show Steps _ _ _ (Ti1.setTop (mkF m 95 _ [.double q1, .double 4607182418800017408, .double (FP.dmul 4607182418800017408 (FP.dsub 4607182418800017408 q0))])) _
      refine XS.dsubS Xi1.here hx rfl (hb hby own_d6_95) rfl (own_num (own_m5 mq1) (by decide)) rfl ?_
      show Steps _ _ _ (Ti1.setTop (mkF m 96 _ [.double (FP.dsub 4607182418800017408 q1), .double (FP.dmul 4607182418800017408 (FP.dsub 4607182418800017408 q0))])) _
      refine XS.dmulS Xi1.here hx rfl (hb hby own_d6_96) rfl (own_num (own_m6 (own_m6 own_one1 (by decide) mq0) (by decide) mq1) (by decide)) rfl ?_
      show Steps _ _ _ (Ti1.setTop (mkF m 97 _ [.double (FP.dmul (FP.dmul 4607182418800017408 (FP.dsub 4607182418800017408 q0)) (FP.dsub 4607182418800017408 q1))])) _
      refine XS.dstore Xi1.here hx rfl (hb hby own_d6_97) rfl (l' := #[rv a1, iv p1, iv (Int32.ofNat i), rv b13, .val (.double (FP.dmul (FP.dmul 4607182418800017408 (FP.dsub 4607182418800017408 q0)) (FP.dsub 4607182418800017408 q1))), .second, iv 1, .val (.double q1), .second, iv 12]) rfl ?_
      show Steps _ _ _ (Ti1.setTop (mkF m 99 _ [])) _
      refine XS.iinc Xi1.here hx rfl (hb hby own_d6_99) rfl (l' := #[rv a1, iv p1, iv (Int32.ofNat i), rv b13, .val (.double (FP.dmul (FP.dmul 4607182418800017408 (FP.dsub 4607182418800017408 q0)) (FP.dsub 4607182418800017408 q1))), .second, iv 2, .val (.double q1), .second, iv 12]) rfl ?_
      show Steps _ _ _ (Ti1.setTop (mkF m 102 _ [])) _
      refine XS.goto Xi1.here hx rfl (pc0 := 102) (pc' := 26) rfl (hb hby own_d6_102) (by decide) (by decide) ?_
      exact kk
    by_cases hj2 : i + 2 < n
    · have hjt2 : Int32.ofNat i + (2 : Int32) < (Int32.ofNat n) := by rw [show (2 : Int32) = Int32.ofNat 2 from rfl, own_sum]; exact (own_ltI (by omega) (by omega)).mpr hj2
      have FR2 := f19.keep Ki1 (ninS hna nin0)
      have VR2 := f20.keep Ki1 (ninS hnr nin0)
      obtain ⟨q2, eq2, mq2⟩ := hq (i + 2) hj2
      obtain ⟨cl35, Ar35, aq35, aS35, aN35, aH35, aG35⟩ := id VR2
      have hin2 := inb_of aS35 ⟨(by rw [show (2 : Int32) = Int32.ofNat 2 from rfl, own_sum]; exact own_nn (by omega)), hjt2⟩
      have hat2 := Has.at aH35 hin2 (show vs.getD (Int32.ofNat i + (2 : Int32)).toNatClampNeg (.double 0) = .double q2 by rw [show (2 : Int32) = Int32.ofNat 2 from rfl, own_sum, own_n32 (by omega)]; exact eq2)
      obtain ⟨T36, X36, e36, st36⟩ := getF Xi1 hx hZ hown (host := "") (Or.inl (W 29 rfl)) Via.refl ei1 FR2 (g := (mkF m 31 #[rv a1, iv p1, iv (Int32.ofNat i), rv b13, .val (.double (FP.dmul (FP.dmul 4607182418800017408 (FP.dsub 4607182418800017408 q0)) (FP.dsub 4607182418800017408 q1))), .second, iv 2, .val (.double q1), .second, iv 12] [.ref a1, .int ((Int32.ofNat i) + (2 : Int32))])) rfl rfl (hb hby own_d6_31)
      obtain ⟨T37, X37, e37, st37⟩ := getF X36 hx hZ hown (host := "") (Or.inl (W 29 rfl)) Via.refl e36 FR2 (g := (mkF m 39 #[rv a1, iv p1, iv (Int32.ofNat i), rv b13, .val (.double (FP.dmul (FP.dmul 4607182418800017408 (FP.dsub 4607182418800017408 q0)) (FP.dsub 4607182418800017408 q1))), .second, iv 2, .val (.double q1), .second, iv 12] [.ref a1])) rfl rfl (hb hby own_d6_39)
      have G38 : ∀ tq, Steps p.tables e below (T37.setTop (mkF m 52 #[rv a1, iv p1, iv (Int32.ofNat i), rv b13, .val (.double (FP.dmul (FP.dmul 4607182418800017408 (FP.dsub 4607182418800017408 q0)) (FP.dsub 4607182418800017408 q1))), .second, iv 2, .val (.double q2), .second, iv 0] [])) tq → Steps p.tables e below (Ti1.setTop (mkF m 26 #[rv a1, iv p1, iv (Int32.ofNat i), rv b13, .val (.double (FP.dmul (FP.dmul 4607182418800017408 (FP.dsub 4607182418800017408 q0)) (FP.dsub 4607182418800017408 q1))), .second, iv 2, .val (.double q1), .second, iv 12] [])) tq := by
        intro tq kk
        show Steps _ _ _ (Ti1.setTop (mkF m 26 #[rv a1, iv p1, iv (Int32.ofNat i), rv b13, .val (.double (FP.dmul (FP.dmul 4607182418800017408 (FP.dsub 4607182418800017408 q0)) (FP.dsub 4607182418800017408 q1))), .second, iv 2, .val (.double q1), .second, iv 12] [])) _
        refine XS.iloadN Xi1.here hx rfl (hb hby own_d6_26) rfl ?_
        show Steps _ _ _ (Ti1.setTop (mkF m 27 _ [.int (Int32.ofNat i)])) _
        refine XS.iload Xi1.here hx rfl (hb hby own_d6_27) rfl ?_
        show Steps _ _ _ (Ti1.setTop (mkF m 29 _ [.int 2, .int (Int32.ofNat i)])) _
        refine XS.iadd Xi1.here hx rfl (hb hby own_d6_29) rfl ?_
        show Steps _ _ _ (Ti1.setTop (mkF m 30 _ [.int ((Int32.ofNat i) + (2 : Int32))])) _
        refine XS.aloadN Xi1.here hx rfl (hb hby own_d6_30) rfl rfl ?_
        show Steps _ _ _ (Ti1.setTop (mkF m 31 _ [.ref a1, .int ((Int32.ofNat i) + (2 : Int32))])) _
        refine st36 _ ?_
        show Steps _ _ _ (T36.setTop (mkF m 34 #[rv a1, iv p1, iv (Int32.ofNat i), rv b13, .val (.double (FP.dmul (FP.dmul 4607182418800017408 (FP.dsub 4607182418800017408 q0)) (FP.dsub 4607182418800017408 q1))), .second, iv 2, .val (.double q1), .second, iv 12] [.ref r1, .int ((Int32.ofNat i) + (2 : Int32))])) _
        refine X36.arraylength hx (by rw [e36]; exact Ar35.1) (State.isArrayOf_alike hZ.alike Ar35.2.1) (g := (mkF m 34 #[rv a1, iv p1, iv (Int32.ofNat i), rv b13, .val (.double (FP.dmul (FP.dmul 4607182418800017408 (FP.dsub 4607182418800017408 q0)) (FP.dsub 4607182418800017408 q1))), .second, iv 2, .val (.double q1), .second, iv 12] [.ref r1, .int ((Int32.ofNat i) + (2 : Int32))])) rfl rfl (hb hby own_d6_34) _ ?_
        rw [len_of aS35 aN35]
        show Steps _ _ _ (T36.setTop (mkF m 35 #[rv a1, iv p1, iv (Int32.ofNat i), rv b13, .val (.double (FP.dmul (FP.dmul 4607182418800017408 (FP.dsub 4607182418800017408 q0)) (FP.dsub 4607182418800017408 q1))), .second, iv 2, .val (.double q1), .second, iv 12] [.int (Int32.ofNat n), .int ((Int32.ofNat i) + (2 : Int32))])) _
        refine XS.icmpNo X36.here hx rfl (hb hby own_d6_35) rfl (tlt (hjt2 : ((Int32.ofNat i) + (2 : Int32)) < (Int32.ofNat n))).2.1 ?_
        show Steps _ _ _ (T36.setTop (mkF m 38 _ [])) _
        refine XS.aloadN X36.here hx rfl (hb hby own_d6_38) rfl rfl ?_
        show Steps _ _ _ (T36.setTop (mkF m 39 _ [.ref a1])) _
        refine st37 _ ?_
        show Steps _ _ _ (T37.setTop (mkF m 42 #[rv a1, iv p1, iv (Int32.ofNat i), rv b13, .val (.double (FP.dmul (FP.dmul 4607182418800017408 (FP.dsub 4607182418800017408 q0)) (FP.dsub 4607182418800017408 q1))), .second, iv 2, .val (.double q1), .second, iv 12] [.ref r1])) _
        refine XS.iloadN X37.here hx rfl (hb hby own_d6_42) rfl ?_
        show Steps _ _ _ (T37.setTop (mkF m 43 _ [.int (Int32.ofNat i), .ref r1])) _
        refine XS.iload X37.here hx rfl (hb hby own_d6_43) rfl ?_
        show Steps _ _ _ (T37.setTop (mkF m 45 _ [.int 2, .int (Int32.ofNat i), .ref r1])) _
        refine XS.iadd X37.here hx rfl (hb hby own_d6_45) rfl ?_
        show Steps _ _ _ (T37.setTop (mkF m 46 _ [.int ((Int32.ofNat i) + (2 : Int32)), .ref r1])) _
        refine X37.daload hx (j := ((Int32.ofNat i) + (2 : Int32))) (v := (.double q2)) (by rw [e37]; exact Ar35.1) (State.isArrayOf_alike hZ.alike Ar35.2.1) Ar35.2.2 hin2 hat2 (g := (mkF m 46 #[rv a1, iv p1, iv (Int32.ofNat i), rv b13, .val (.double (FP.dmul (FP.dmul 4607182418800017408 (FP.dsub 4607182418800017408 q0)) (FP.dsub 4607182418800017408 q1))), .second, iv 2, .val (.double q1), .second, iv 12] [.int ((Int32.ofNat i) + (2 : Int32)), .ref r1])) rfl rfl (hb hby own_d6_46) _ ?_
        show Steps _ _ _ (T37.setTop (mkF m 47 #[rv a1, iv p1, iv (Int32.ofNat i), rv b13, .val (.double (FP.dmul (FP.dmul 4607182418800017408 (FP.dsub 4607182418800017408 q0)) (FP.dsub 4607182418800017408 q1))), .second, iv 2, .val (.double q1), .second, iv 12] [.double q2])) _
        refine XS.dstore X37.here hx rfl (hb hby own_d6_47) rfl (l' := #[rv a1, iv p1, iv (Int32.ofNat i), rv b13, .val (.double (FP.dmul (FP.dmul 4607182418800017408 (FP.dsub 4607182418800017408 q0)) (FP.dsub 4607182418800017408 q1))), .second, iv 2, .val (.double q2), .second, iv 12]) rfl ?_
        show Steps _ _ _ (T37.setTop (mkF m 49 _ [])) _
        refine XS.iconst X37.here hx rfl (hb hby own_d6_49) ?_
        show Steps _ _ _ (T37.setTop (mkF m 50 _ [.int 0])) _
        refine XS.istore X37.here hx rfl (hb hby own_d6_50) rfl (l' := #[rv a1, iv p1, iv (Int32.ofNat i), rv b13, .val (.double (FP.dmul (FP.dmul 4607182418800017408 (FP.dsub 4607182418800017408 q0)) (FP.dsub 4607182418800017408 q1))), .second, iv 2, .val (.double q2), .second, iv 0]) rfl ?_
        exact kk
      obtain ⟨Ti2, li2, hi2, Xi2, ei2, Ni2, Zi2, Ki2, Vi2, Gi2⟩ := inner 2 (FP.dmul (FP.dmul 4607182418800017408 (FP.dsub 4607182418800017408 q0)) (FP.dsub 4607182418800017408 q1)) q2 12 0 T37 _ hi1 hj2 ((own_m6 (own_m6 own_one1 (by decide) mq0) (by decide) mq1).mono (by decide)) mq2 (by omega) X37 e37 Ni1 Zi1 Ki1 Vi1
      have G39 : ∀ tq, Steps p.tables e below (Ti2.setTop (mkF m 26 #[rv a1, iv p1, iv (Int32.ofNat i), rv b13, .val (.double (FP.dmul (FP.dmul (FP.dmul 4607182418800017408 (FP.dsub 4607182418800017408 q0)) (FP.dsub 4607182418800017408 q1)) (FP.dsub 4607182418800017408 q2))), .second, iv 3, .val (.double q2), .second, iv 12] [])) tq → Steps p.tables e below (Ti2.setTop (mkF m 90 #[rv a1, iv p1, iv (Int32.ofNat i), rv b13, .val (.double (FP.dmul (FP.dmul 4607182418800017408 (FP.dsub 4607182418800017408 q0)) (FP.dsub 4607182418800017408 q1))), .second, iv 2, .val (.double q2), .second, iv 12] [])) tq := by
        intro tq kk
        show Steps _ _ _ (Ti2.setTop (mkF m 90 #[rv a1, iv p1, iv (Int32.ofNat i), rv b13, .val (.double (FP.dmul (FP.dmul 4607182418800017408 (FP.dsub 4607182418800017408 q0)) (FP.dsub 4607182418800017408 q1))), .second, iv 2, .val (.double q2), .second, iv 12] [])) _
        refine XS.dload Xi2.here hx rfl (hb hby own_d6_90) rfl ?_
        show Steps _ _ _ (Ti2.setTop (mkF m 92 _ [.double (FP.dmul (FP.dmul 4607182418800017408 (FP.dsub 4607182418800017408 q0)) (FP.dsub 4607182418800017408 q1))])) _
        refine XS.dconst1 Xi2.here hx rfl (hb hby own_d6_92) (v := 4607182418800017408) rfl ?_
        show Steps _ _ _ (Ti2.setTop (mkF m 93 _ [.double 4607182418800017408, .double (FP.dmul (FP.dmul 4607182418800017408 (FP.dsub 4607182418800017408 q0)) (FP.dsub 4607182418800017408 q1))])) _
        refine XS.dload Xi2.here hx rfl (hb hby own_d6_93) rfl ?_
        show Steps _ _ _ (Ti2.setTop (mkF m 95 _ [.double q2, .double 4607182418800017408, .double (FP.dmul (FP.dmul 4607182418800017408 (FP.dsub 4607182418800017408 q0)) (FP.dsub 4607182418800017408 q1))])) _
        refine XS.dsubS Xi2.here hx rfl (hb hby own_d6_95) rfl (own_num (own_m5 mq2) (by decide)) rfl ?_
        show Steps _ _ _ (Ti2.setTop (mkF m 96 _ [.double (FP.dsub 4607182418800017408 q2), .double (FP.dmul (FP.dmul 4607182418800017408 (FP.dsub 4607182418800017408 q0)) (FP.dsub 4607182418800017408 q1))])) _
        refine XS.dmulS Xi2.here hx rfl (hb hby own_d6_96) rfl (own_num (own_m6 (own_m6 (own_m6 own_one1 (by decide) mq0) (by decide) mq1) (by decide) mq2) (by decide)) rfl ?_
        show Steps _ _ _ (Ti2.setTop (mkF m 97 _ [.double (FP.dmul (FP.dmul (FP.dmul 4607182418800017408 (FP.dsub 4607182418800017408 q0)) (FP.dsub 4607182418800017408 q1)) (FP.dsub 4607182418800017408 q2))])) _
        refine XS.dstore Xi2.here hx rfl (hb hby own_d6_97) rfl (l' := #[rv a1, iv p1, iv (Int32.ofNat i), rv b13, .val (.double (FP.dmul (FP.dmul (FP.dmul 4607182418800017408 (FP.dsub 4607182418800017408 q0)) (FP.dsub 4607182418800017408 q1)) (FP.dsub 4607182418800017408 q2))), .second, iv 2, .val (.double q2), .second, iv 12]) rfl ?_
        show Steps _ _ _ (Ti2.setTop (mkF m 99 _ [])) _
        refine XS.iinc Xi2.here hx rfl (hb hby own_d6_99) rfl (l' := #[rv a1, iv p1, iv (Int32.ofNat i), rv b13, .val (.double (FP.dmul (FP.dmul (FP.dmul 4607182418800017408 (FP.dsub 4607182418800017408 q0)) (FP.dsub 4607182418800017408 q1)) (FP.dsub 4607182418800017408 q2))), .second, iv 3, .val (.double q2), .second, iv 12]) rfl ?_
        show Steps _ _ _ (Ti2.setTop (mkF m 102 _ [])) _
        refine XS.goto Xi2.here hx rfl (pc0 := 102) (pc' := 26) rfl (hb hby own_d6_102) (by decide) (by decide) ?_
        exact kk
      have hj3 : ¬ i + 3 < n := by omega
      have hjt3 : ¬ Int32.ofNat i + (3 : Int32) < (Int32.ofNat n) := fun q => hj3 ((own_ltI (by omega) (by omega)).mp (by rw [← own_sum]; exact q))
      have FRe := f19.keep Ki2 (ninS hna nin0)
      have VRe := f20.keep Ki2 (ninS hnr nin0)
      obtain ⟨T40, X40, e40, st40⟩ := getF Xi2 hx hZ hown (host := "") (Or.inl (W 29 rfl)) Via.refl ei2 FRe (g := (mkF m 31 #[rv a1, iv p1, iv (Int32.ofNat i), rv b13, .val (.double (FP.dmul (FP.dmul (FP.dmul 4607182418800017408 (FP.dsub 4607182418800017408 q0)) (FP.dsub 4607182418800017408 q1)) (FP.dsub 4607182418800017408 q2))), .second, iv 3, .val (.double q2), .second, iv 12] [.ref a1, .int ((Int32.ofNat i) + (3 : Int32))])) rfl rfl (hb hby own_d6_31)
      obtain ⟨cl41, Ar41, aq41, aS41, aN41, aH41, aG41⟩ := id VRe
      have G42 : ∀ tq, Steps p.tables e below (T40.setTop (mkF m 105 #[rv a1, iv p1, iv (Int32.ofNat i), rv b13, .val (.double (FP.dmul (FP.dmul (FP.dmul 4607182418800017408 (FP.dsub 4607182418800017408 q0)) (FP.dsub 4607182418800017408 q1)) (FP.dsub 4607182418800017408 q2))), .second, iv 3, .val (.double q2), .second, iv 12] [])) tq → Steps p.tables e below (Ti2.setTop (mkF m 26 #[rv a1, iv p1, iv (Int32.ofNat i), rv b13, .val (.double (FP.dmul (FP.dmul (FP.dmul 4607182418800017408 (FP.dsub 4607182418800017408 q0)) (FP.dsub 4607182418800017408 q1)) (FP.dsub 4607182418800017408 q2))), .second, iv 3, .val (.double q2), .second, iv 12] [])) tq := by
        intro tq kk
        show Steps _ _ _ (Ti2.setTop (mkF m 26 #[rv a1, iv p1, iv (Int32.ofNat i), rv b13, .val (.double (FP.dmul (FP.dmul (FP.dmul 4607182418800017408 (FP.dsub 4607182418800017408 q0)) (FP.dsub 4607182418800017408 q1)) (FP.dsub 4607182418800017408 q2))), .second, iv 3, .val (.double q2), .second, iv 12] [])) _
        refine XS.iloadN Xi2.here hx rfl (hb hby own_d6_26) rfl ?_
        show Steps _ _ _ (Ti2.setTop (mkF m 27 _ [.int (Int32.ofNat i)])) _
        refine XS.iload Xi2.here hx rfl (hb hby own_d6_27) rfl ?_
        show Steps _ _ _ (Ti2.setTop (mkF m 29 _ [.int 3, .int (Int32.ofNat i)])) _
        refine XS.iadd Xi2.here hx rfl (hb hby own_d6_29) rfl ?_
        show Steps _ _ _ (Ti2.setTop (mkF m 30 _ [.int ((Int32.ofNat i) + (3 : Int32))])) _
        refine XS.aloadN Xi2.here hx rfl (hb hby own_d6_30) rfl rfl ?_
        show Steps _ _ _ (Ti2.setTop (mkF m 31 _ [.ref a1, .int ((Int32.ofNat i) + (3 : Int32))])) _
        refine st40 _ ?_
        show Steps _ _ _ (T40.setTop (mkF m 34 #[rv a1, iv p1, iv (Int32.ofNat i), rv b13, .val (.double (FP.dmul (FP.dmul (FP.dmul 4607182418800017408 (FP.dsub 4607182418800017408 q0)) (FP.dsub 4607182418800017408 q1)) (FP.dsub 4607182418800017408 q2))), .second, iv 3, .val (.double q2), .second, iv 12] [.ref r1, .int ((Int32.ofNat i) + (3 : Int32))])) _
        refine X40.arraylength hx (by rw [e40]; exact Ar41.1) (State.isArrayOf_alike hZ.alike Ar41.2.1) (g := (mkF m 34 #[rv a1, iv p1, iv (Int32.ofNat i), rv b13, .val (.double (FP.dmul (FP.dmul (FP.dmul 4607182418800017408 (FP.dsub 4607182418800017408 q0)) (FP.dsub 4607182418800017408 q1)) (FP.dsub 4607182418800017408 q2))), .second, iv 3, .val (.double q2), .second, iv 12] [.ref r1, .int ((Int32.ofNat i) + (3 : Int32))])) rfl rfl (hb hby own_d6_34) _ ?_
        rw [len_of aS41 aN41]
        show Steps _ _ _ (T40.setTop (mkF m 35 #[rv a1, iv p1, iv (Int32.ofNat i), rv b13, .val (.double (FP.dmul (FP.dmul (FP.dmul 4607182418800017408 (FP.dsub 4607182418800017408 q0)) (FP.dsub 4607182418800017408 q1)) (FP.dsub 4607182418800017408 q2))), .second, iv 3, .val (.double q2), .second, iv 12] [.int (Int32.ofNat n), .int ((Int32.ofNat i) + (3 : Int32))])) _
        refine XS.icmpYes X40.here hx rfl (pc0 := 35) (pc' := 105) rfl (hb hby own_d6_35) rfl (flt (hjt3 : ¬ (((Int32.ofNat i) + (3 : Int32)) < (Int32.ofNat n)))).2.1 (by decide) (by decide) ?_
        exact kk
      have KF : Keep h0 hi2 [] := K17.trans Ki2 (allS (Or.inr g15) all0)
      obtain ⟨fs, hr, hrun, hended, hW, hsame⟩ := X40.leave (v := some (.ref b13)) (fun h => by rw [Bd.returns] at h; cases h)
      refine ⟨_, _, pre0 _ (G18 _ (G28 _ (Gi0 _ (G29 _ (G33 _ (Gi1 _ (G34 _ (G38 _ (Gi2 _ (G39 _ (G42 _ (?_)))))))))))), hrun, hended, _, _, rfl, ?_, ⟨_, rfl⟩, hW, hsame.mono (by decide) (by decide)⟩
      · show Steps _ _ _ (T40.setTop (mkF m 105 #[rv a1, iv p1, iv (Int32.ofNat i), rv b13, .val (.double (FP.dmul (FP.dmul (FP.dmul 4607182418800017408 (FP.dsub 4607182418800017408 q0)) (FP.dsub 4607182418800017408 q1)) (FP.dsub 4607182418800017408 q2))), .second, iv 3, .val (.double q2), .second, iv 12] [])) _
        refine XS.aloadN X40.here hx rfl (hb hby own_d6_105) rfl rfl ?_
        show Steps _ _ _ (T40.setTop (mkF m 106 _ [.ref b13])) _
        exact retOut X40 hx Bd.returns rfl (Or.inr (Or.inr (Or.inr (Or.inr ⟨rfl, rfl, rfl⟩)))) (hb hby own_d6_106) hr
      · show Q_alv Z a1 r1 p1 f1 kr vs n i h0 n0 _ T40.heap _
        rw [e40]
        exact ⟨b13, rfl, Ni2, KF, g15, ex13.keep Ki2⟩
    · have hjt2 : ¬ Int32.ofNat i + (2 : Int32) < (Int32.ofNat n) := fun q => hj2 ((own_ltI (by omega) (by omega)).mp (by rw [← own_sum]; exact q))
      have FRe := f19.keep Ki1 (ninS hna nin0)
      have VRe := f20.keep Ki1 (ninS hnr nin0)
      obtain ⟨T43, X43, e43, st43⟩ := getF Xi1 hx hZ hown (host := "") (Or.inl (W 29 rfl)) Via.refl ei1 FRe (g := (mkF m 31 #[rv a1, iv p1, iv (Int32.ofNat i), rv b13, .val (.double (FP.dmul (FP.dmul 4607182418800017408 (FP.dsub 4607182418800017408 q0)) (FP.dsub 4607182418800017408 q1))), .second, iv 2, .val (.double q1), .second, iv 12] [.ref a1, .int ((Int32.ofNat i) + (2 : Int32))])) rfl rfl (hb hby own_d6_31)
      obtain ⟨cl44, Ar44, aq44, aS44, aN44, aH44, aG44⟩ := id VRe
      have G45 : ∀ tq, Steps p.tables e below (T43.setTop (mkF m 105 #[rv a1, iv p1, iv (Int32.ofNat i), rv b13, .val (.double (FP.dmul (FP.dmul 4607182418800017408 (FP.dsub 4607182418800017408 q0)) (FP.dsub 4607182418800017408 q1))), .second, iv 2, .val (.double q1), .second, iv 12] [])) tq → Steps p.tables e below (Ti1.setTop (mkF m 26 #[rv a1, iv p1, iv (Int32.ofNat i), rv b13, .val (.double (FP.dmul (FP.dmul 4607182418800017408 (FP.dsub 4607182418800017408 q0)) (FP.dsub 4607182418800017408 q1))), .second, iv 2, .val (.double q1), .second, iv 12] [])) tq := by
        intro tq kk
        show Steps _ _ _ (Ti1.setTop (mkF m 26 #[rv a1, iv p1, iv (Int32.ofNat i), rv b13, .val (.double (FP.dmul (FP.dmul 4607182418800017408 (FP.dsub 4607182418800017408 q0)) (FP.dsub 4607182418800017408 q1))), .second, iv 2, .val (.double q1), .second, iv 12] [])) _
        refine XS.iloadN Xi1.here hx rfl (hb hby own_d6_26) rfl ?_
        show Steps _ _ _ (Ti1.setTop (mkF m 27 _ [.int (Int32.ofNat i)])) _
        refine XS.iload Xi1.here hx rfl (hb hby own_d6_27) rfl ?_
        show Steps _ _ _ (Ti1.setTop (mkF m 29 _ [.int 2, .int (Int32.ofNat i)])) _
        refine XS.iadd Xi1.here hx rfl (hb hby own_d6_29) rfl ?_
        show Steps _ _ _ (Ti1.setTop (mkF m 30 _ [.int ((Int32.ofNat i) + (2 : Int32))])) _
        refine XS.aloadN Xi1.here hx rfl (hb hby own_d6_30) rfl rfl ?_
        show Steps _ _ _ (Ti1.setTop (mkF m 31 _ [.ref a1, .int ((Int32.ofNat i) + (2 : Int32))])) _
        refine st43 _ ?_
        show Steps _ _ _ (T43.setTop (mkF m 34 #[rv a1, iv p1, iv (Int32.ofNat i), rv b13, .val (.double (FP.dmul (FP.dmul 4607182418800017408 (FP.dsub 4607182418800017408 q0)) (FP.dsub 4607182418800017408 q1))), .second, iv 2, .val (.double q1), .second, iv 12] [.ref r1, .int ((Int32.ofNat i) + (2 : Int32))])) _
        refine X43.arraylength hx (by rw [e43]; exact Ar44.1) (State.isArrayOf_alike hZ.alike Ar44.2.1) (g := (mkF m 34 #[rv a1, iv p1, iv (Int32.ofNat i), rv b13, .val (.double (FP.dmul (FP.dmul 4607182418800017408 (FP.dsub 4607182418800017408 q0)) (FP.dsub 4607182418800017408 q1))), .second, iv 2, .val (.double q1), .second, iv 12] [.ref r1, .int ((Int32.ofNat i) + (2 : Int32))])) rfl rfl (hb hby own_d6_34) _ ?_
        rw [len_of aS44 aN44]
        show Steps _ _ _ (T43.setTop (mkF m 35 #[rv a1, iv p1, iv (Int32.ofNat i), rv b13, .val (.double (FP.dmul (FP.dmul 4607182418800017408 (FP.dsub 4607182418800017408 q0)) (FP.dsub 4607182418800017408 q1))), .second, iv 2, .val (.double q1), .second, iv 12] [.int (Int32.ofNat n), .int ((Int32.ofNat i) + (2 : Int32))])) _
        refine XS.icmpYes X43.here hx rfl (pc0 := 35) (pc' := 105) rfl (hb hby own_d6_35) rfl (flt (hjt2 : ¬ (((Int32.ofNat i) + (2 : Int32)) < (Int32.ofNat n)))).2.1 (by decide) (by decide) ?_
        exact kk
      have KF : Keep h0 hi1 [] := K17.trans Ki1 (allS (Or.inr g15) all0)
      obtain ⟨fs, hr, hrun, hended, hW, hsame⟩ := X43.leave (v := some (.ref b13)) (fun h => by rw [Bd.returns] at h; cases h)
      refine ⟨_, _, pre0 _ (G18 _ (G28 _ (Gi0 _ (G29 _ (G33 _ (Gi1 _ (G34 _ (G45 _ (?_))))))))), hrun, hended, _, _, rfl, ?_, ⟨_, rfl⟩, hW, hsame.mono (by decide) (by decide)⟩
      · show Steps _ _ _ (T43.setTop (mkF m 105 #[rv a1, iv p1, iv (Int32.ofNat i), rv b13, .val (.double (FP.dmul (FP.dmul 4607182418800017408 (FP.dsub 4607182418800017408 q0)) (FP.dsub 4607182418800017408 q1))), .second, iv 2, .val (.double q1), .second, iv 12] [])) _
        refine XS.aloadN X43.here hx rfl (hb hby own_d6_105) rfl rfl ?_
        show Steps _ _ _ (T43.setTop (mkF m 106 _ [.ref b13])) _
        exact retOut X43 hx Bd.returns rfl (Or.inr (Or.inr (Or.inr (Or.inr ⟨rfl, rfl, rfl⟩)))) (hb hby own_d6_106) hr
      · show Q_alv Z a1 r1 p1 f1 kr vs n i h0 n0 _ T43.heap _
        rw [e43]
        exact ⟨b13, rfl, Ni1, KF, g15, ex13.keep Ki1⟩
  · have hjt1 : ¬ Int32.ofNat i + (1 : Int32) < (Int32.ofNat n) := fun q => hj1 ((own_ltI (by omega) (by omega)).mp (by rw [← own_sum]; exact q))
    have FRe := f19.keep Ki0 (ninS hna nin0)
    have VRe := f20.keep Ki0 (ninS hnr nin0)
    obtain ⟨T46, X46, e46, st46⟩ := getF Xi0 hx hZ hown (host := "") (Or.inl (W 29 rfl)) Via.refl ei0 FRe (g := (mkF m 31 #[rv a1, iv p1, iv (Int32.ofNat i), rv b13, .val (.double (FP.dmul 4607182418800017408 (FP.dsub 4607182418800017408 q0))), .second, iv 1, .val (.double q0), .second, iv 12] [.ref a1, .int ((Int32.ofNat i) + (1 : Int32))])) rfl rfl (hb hby own_d6_31)
    obtain ⟨cl47, Ar47, aq47, aS47, aN47, aH47, aG47⟩ := id VRe
    have G48 : ∀ tq, Steps p.tables e below (T46.setTop (mkF m 105 #[rv a1, iv p1, iv (Int32.ofNat i), rv b13, .val (.double (FP.dmul 4607182418800017408 (FP.dsub 4607182418800017408 q0))), .second, iv 1, .val (.double q0), .second, iv 12] [])) tq → Steps p.tables e below (Ti0.setTop (mkF m 26 #[rv a1, iv p1, iv (Int32.ofNat i), rv b13, .val (.double (FP.dmul 4607182418800017408 (FP.dsub 4607182418800017408 q0))), .second, iv 1, .val (.double q0), .second, iv 12] [])) tq := by
      intro tq kk
      show Steps _ _ _ (Ti0.setTop (mkF m 26 #[rv a1, iv p1, iv (Int32.ofNat i), rv b13, .val (.double (FP.dmul 4607182418800017408 (FP.dsub 4607182418800017408 q0))), .second, iv 1, .val (.double q0), .second, iv 12] [])) _
      refine XS.iloadN Xi0.here hx rfl (hb hby own_d6_26) rfl ?_
      show Steps _ _ _ (Ti0.setTop (mkF m 27 _ [.int (Int32.ofNat i)])) _
      refine XS.iload Xi0.here hx rfl (hb hby own_d6_27) rfl ?_
      show Steps _ _ _ (Ti0.setTop (mkF m 29 _ [.int 1, .int (Int32.ofNat i)])) _
      refine XS.iadd Xi0.here hx rfl (hb hby own_d6_29) rfl ?_
      show Steps _ _ _ (Ti0.setTop (mkF m 30 _ [.int ((Int32.ofNat i) + (1 : Int32))])) _
      refine XS.aloadN Xi0.here hx rfl (hb hby own_d6_30) rfl rfl ?_
      show Steps _ _ _ (Ti0.setTop (mkF m 31 _ [.ref a1, .int ((Int32.ofNat i) + (1 : Int32))])) _
      refine st46 _ ?_
      show Steps _ _ _ (T46.setTop (mkF m 34 #[rv a1, iv p1, iv (Int32.ofNat i), rv b13, .val (.double (FP.dmul 4607182418800017408 (FP.dsub 4607182418800017408 q0))), .second, iv 1, .val (.double q0), .second, iv 12] [.ref r1, .int ((Int32.ofNat i) + (1 : Int32))])) _
      refine X46.arraylength hx (by rw [e46]; exact Ar47.1) (State.isArrayOf_alike hZ.alike Ar47.2.1) (g := (mkF m 34 #[rv a1, iv p1, iv (Int32.ofNat i), rv b13, .val (.double (FP.dmul 4607182418800017408 (FP.dsub 4607182418800017408 q0))), .second, iv 1, .val (.double q0), .second, iv 12] [.ref r1, .int ((Int32.ofNat i) + (1 : Int32))])) rfl rfl (hb hby own_d6_34) _ ?_
      rw [len_of aS47 aN47]
      show Steps _ _ _ (T46.setTop (mkF m 35 #[rv a1, iv p1, iv (Int32.ofNat i), rv b13, .val (.double (FP.dmul 4607182418800017408 (FP.dsub 4607182418800017408 q0))), .second, iv 1, .val (.double q0), .second, iv 12] [.int (Int32.ofNat n), .int ((Int32.ofNat i) + (1 : Int32))])) _
      refine XS.icmpYes X46.here hx rfl (pc0 := 35) (pc' := 105) rfl (hb hby own_d6_35) rfl (flt (hjt1 : ¬ (((Int32.ofNat i) + (1 : Int32)) < (Int32.ofNat n)))).2.1 (by decide) (by decide) ?_
      exact kk
    have KF : Keep h0 hi0 [] := K17.trans Ki0 (allS (Or.inr g15) all0)
    obtain ⟨fs, hr, hrun, hended, hW, hsame⟩ := X46.leave (v := some (.ref b13)) (fun h => by rw [Bd.returns] at h; cases h)
    refine ⟨_, _, pre0 _ (G18 _ (G28 _ (Gi0 _ (G29 _ (G48 _ (?_)))))), hrun, hended, _, _, rfl, ?_, ⟨_, rfl⟩, hW, hsame.mono (by decide) (by decide)⟩
    · show Steps _ _ _ (T46.setTop (mkF m 105 #[rv a1, iv p1, iv (Int32.ofNat i), rv b13, .val (.double (FP.dmul 4607182418800017408 (FP.dsub 4607182418800017408 q0))), .second, iv 1, .val (.double q0), .second, iv 12] [])) _
      refine XS.aloadN X46.here hx rfl (hb hby own_d6_105) rfl rfl ?_
      show Steps _ _ _ (T46.setTop (mkF m 106 _ [.ref b13])) _
      exact retOut X46 hx Bd.returns rfl (Or.inr (Or.inr (Or.inr (Or.inr ⟨rfl, rfl, rfl⟩)))) (hb hby own_d6_106) hr
    · show Q_alv Z a1 r1 p1 f1 kr vs n i h0 n0 _ T46.heap _
      rw [e46]
      exact ⟨b13, rfl, Ni0, KF, g15, ex13.keep Ki0⟩
theorem own_d4_0 : decode prog_3_method_3_code 0 = .ok (.aload_n 0, 1) := by decide +kernel
theorem own_d4_1 : decode prog_3_method_3_code 1 = .ok (.getfield 34, 3) := by decide +kernel
theorem own_d4_4 : decode prog_3_method_3_code 4 = .ok (.aload_n 0, 1) := by decide +kernel
theorem own_d4_5 : decode prog_3_method_3_code 5 = .ok (.getfield 44, 3) := by decide +kernel
theorem own_d4_8 : decode prog_3_method_3_code 8 = .ok (.arraylength, 1) := by decide +kernel
theorem own_d4_9 : decode prog_3_method_3_code 9 = .ok (.iadd, 1) := by decide +kernel
theorem own_d4_10 : decode prog_3_method_3_code 10 = .ok (.iconst 1, 1) := by decide +kernel
theorem own_d4_11 : decode prog_3_method_3_code 11 = .ok (.isub, 1) := by decide +kernel
theorem own_d4_12 : decode prog_3_method_3_code 12 = .ok (.ireturn, 1) := by decide +kernel
theorem own_ef_la1 (m : MethodId) (x0 : Addr) : entryFrame m #[(.ref x0)] 1 = mkF m 0 #[rv x0] [] := by first | (simp [entryFrame, mkF, argsToLocals, Value.category]; done) | rfl
def Q_la1 (Z : State) (a1 r1 : Addr) (f1 : Int32) (kr : ClassId) (vs : List Value) (h0 : Heap) (n0 : Nat) (v : Option Value) (h : Heap) (L : List Loc) : Prop := v = some (.int ((f1 + (1 : Int32)) - (1 : Int32))) ∧ Fr n0 L ∧ h = h0
set_option maxRecDepth 65536 in
set_option maxHeartbeats 40000000 in
theorem rm_la1 (l : Launch) (Z : State) (a0 : Array Value) (hw : ∀ d ∈ tables_1, d.before a0 Z = true) (ws : List Jvm.Cond) (a1 r1 : Addr) (f1 : Int32) (kr : ClassId) (vs : List Value) (h0 : Heap) (n0 : Nat) (Z0 : n0 ≤ h0.size) (F1 : Fld Z h0 a1 "com/example/pensionwright/pensionwright/actuarial/MortalityTable" "firstAge" "I" (.int f1)) (F2 : Fld Z h0 a1 "com/example/pensionwright/pensionwright/actuarial/MortalityTable" "rates" "[D" (.ref r1)) (V1 : Arv Z h0 r1 kr .double (1 : Int32) vs (.double 0)) :
    MetFree l (⟨"com/example/pensionwright/pensionwright/actuarial/MortalityTable", "lastAge", "()I"⟩ : MethodName) (head1 (Jvm.Cond.code (⟨"com/example/pensionwright/pensionwright/actuarial/MortalityTable", "lastAge", "()I"⟩ : MethodName) prog_3_method_3_code 1 (some .int) :: ws) ({ frames := 0, cells := 0, slots := 0, locals := 0 } : Room)) (fun a U => a = #[(.ref a1)] ∧ Z.Warmed39 U.vm ∧ U.heap = h0) (fun _ _ _ _ _ => True) (fun _ U o U' => ∃ v L, o = .returned v ∧ Q_la1 Z a1 r1 f1 kr vs h0 n0 v U'.heap L ∧ FrameEnd U o U' L ({ frames := 0, cells := 0, slots := 0, locals := 0 } : Room).cells ({ frames := 0, cells := 0, slots := 0, locals := 0 } : Room).slots) := by
  refine MetFree.of_bodySF (plainFor_of_name own_pn_0) hisR ?_
  intro p e s m args below meth c s₁ Bd hml0 hP hK
  obtain ⟨rfl, hZ, hh⟩ := hP
  have hx := Bd.exec
  have hby := Bd.bytes
  have hml : c.maxLocals = 1 := hml0
  have hown : s.vm.findClass "com/example/pensionwright/pensionwright/actuarial/MortalityTable" = some m.cls := findClass_of_methodNamed Bd.named
  have hnm := (name_of_methodNamed Bd.named Bd.method).1
  have W := own_W hw
  have X0 : Stand p l e ({ frames := 0, cells := 0, slots := 0, locals := 0 } : Room) s m #[(.ref a1)] below meth c s₁ [] 0 0 := Stand.of_body Bd
  have e0 : s₁.heap = h0 := by rw [← hh, Bd.state]; rfl
  have N0 := Fr.nil n0
  have pre0 : ∀ tq, Steps p.tables e below (s₁.setTop (mkF m 0 #[rv a1] [])) tq → Steps p.tables e below (s₁.setTop (entryFrame m #[(.ref a1)] 1)) tq := fun tq k => castTop (own_ef_la1 m a1) k
  obtain ⟨T49, X49, e49, st49⟩ := getF X0 hx hZ hown (host := "") (Or.inl (W 14 rfl)) Via.refl e0 F1 (g := (mkF m 1 #[rv a1] [.ref a1])) rfl rfl (hb hby own_d4_1)
  obtain ⟨T50, X50, e50, st50⟩ := getF X49 hx hZ hown (host := "") (Or.inl (W 29 rfl)) Via.refl e49 F2 (g := (mkF m 5 #[rv a1] [.ref a1, .int f1])) rfl rfl (hb hby own_d4_5)
  obtain ⟨cl51, Ar51, aq51, aS51, aN51, aH51, aG51⟩ := id V1
  obtain ⟨fs, hr, hrun, hended, hW, hsame⟩ := X50.leave (v := some (.int ((f1 + (1 : Int32)) - (1 : Int32)))) (fun h => by rw [Bd.returns] at h; cases h)
  refine ⟨_, _, pre0 _ (?_), hrun, hended, _, _, rfl, ?_, ⟨_, rfl⟩, hW, hsame.mono (by decide) (by decide)⟩
  · show Steps _ _ _ (s₁.setTop (mkF m 0 #[rv a1] [])) _
    refine XS.aloadN X0.here hx rfl (hb hby own_d4_0) rfl rfl ?_
    show Steps _ _ _ (s₁.setTop (mkF m 1 _ [.ref a1])) _
    refine st49 _ ?_
    show Steps _ _ _ (T49.setTop (mkF m 4 #[rv a1] [.int f1])) _
    refine XS.aloadN X49.here hx rfl (hb hby own_d4_4) rfl rfl ?_
    show Steps _ _ _ (T49.setTop (mkF m 5 _ [.ref a1, .int f1])) _
    refine st50 _ ?_
    show Steps _ _ _ (T50.setTop (mkF m 8 #[rv a1] [.ref r1, .int f1])) _
    refine X50.arraylength hx (by rw [e50]; exact Ar51.1) (State.isArrayOf_alike hZ.alike Ar51.2.1) (g := (mkF m 8 #[rv a1] [.ref r1, .int f1])) rfl rfl (hb hby own_d4_8) _ ?_
    rw [len_of aS51 aN51]
    show Steps _ _ _ (T50.setTop (mkF m 9 #[rv a1] [.int 1, .int f1])) _
    refine XS.iadd X50.here hx rfl (hb hby own_d4_9) rfl ?_
    show Steps _ _ _ (T50.setTop (mkF m 10 _ [.int (f1 + (1 : Int32))])) _
    refine XS.iconst X50.here hx rfl (hb hby own_d4_10) ?_
    show Steps _ _ _ (T50.setTop (mkF m 11 _ [.int 1, .int (f1 + (1 : Int32))])) _
    refine XS.isub X50.here hx rfl (hb hby own_d4_11) rfl ?_
    show Steps _ _ _ (T50.setTop (mkF m 12 _ [.int ((f1 + (1 : Int32)) - (1 : Int32))])) _
    exact retI X50 hx Bd.returns (hb hby own_d4_12) hr
  · show Q_la1 Z a1 r1 f1 kr vs h0 n0 _ T50.heap _
    rw [e50]
    exact ⟨rfl, N0, rfl⟩
theorem own_d5_0 : decode prog_3_method_4_code 0 = .ok (.iload_n 1, 1) := by decide +kernel
theorem own_d5_1 : decode prog_3_method_4_code 1 = .ok (.aload_n 0, 1) := by decide +kernel
theorem own_d5_2 : decode prog_3_method_4_code 2 = .ok (.getfield 34, 3) := by decide +kernel
theorem own_d5_5 : decode prog_3_method_4_code 5 = .ok (.if_icmp .lt 11, 3) := by decide +kernel
theorem own_d5_8 : decode prog_3_method_4_code 8 = .ok (.iload_n 1, 1) := by decide +kernel
theorem own_d5_9 : decode prog_3_method_4_code 9 = .ok (.aload_n 0, 1) := by decide +kernel
theorem own_d5_10 : decode prog_3_method_4_code 10 = .ok (.invokevirtual 57, 3) := by decide +kernel
theorem own_pd_5 : parseMethodDescriptor "()I" = some ⟨[], some .int⟩ := by decide +kernel
theorem own_d5_13 : decode prog_3_method_4_code 13 = .ok (.if_icmp .le 25, 3) := by decide +kernel
theorem own_d5_38 : decode prog_3_method_4_code 38 = .ok (.aload_n 0, 1) := by decide +kernel
theorem own_d5_39 : decode prog_3_method_4_code 39 = .ok (.getfield 44, 3) := by decide +kernel
theorem own_d5_42 : decode prog_3_method_4_code 42 = .ok (.iload_n 1, 1) := by decide +kernel
theorem own_d5_43 : decode prog_3_method_4_code 43 = .ok (.aload_n 0, 1) := by decide +kernel
theorem own_d5_44 : decode prog_3_method_4_code 44 = .ok (.getfield 34, 3) := by decide +kernel
theorem own_d5_47 : decode prog_3_method_4_code 47 = .ok (.isub, 1) := by decide +kernel
theorem own_d5_48 : decode prog_3_method_4_code 48 = .ok (.daload, 1) := by decide +kernel
theorem own_d5_49 : decode prog_3_method_4_code 49 = .ok (.dreturn, 1) := by decide +kernel
theorem own_ef_qx1 (m : MethodId) (x0 : Addr) (x1 : Int32) : entryFrame m #[(.ref x0), (.int x1)] 2 = mkF m 0 #[rv x0, iv x1] [] := by first | (simp [entryFrame, mkF, argsToLocals, Value.category]; done) | rfl
def Q_qx1 (Z : State) (a1 r1 : Addr) (f1 : Int32) (kr : ClassId) (q0 : UInt64) (h0 : Heap) (n0 : Nat) (v : Option Value) (h : Heap) (L : List Loc) : Prop := v = some (.double q0) ∧ Fr n0 L ∧ h = h0
set_option maxRecDepth 65536 in
set_option maxHeartbeats 40000000 in
theorem rm_qx1 (l : Launch) (Z : State) (a0 : Array Value) (hw : ∀ d ∈ tables_1, d.before a0 Z = true) (ws : List Jvm.Cond) (a1 r1 : Addr) (f1 : Int32) (kr : ClassId) (q0 : UInt64) (h0 : Heap) (n0 : Nat) (Z0 : n0 ≤ h0.size) (E1 : Exa Z h0 a1 "com/example/pensionwright/pensionwright/actuarial/MortalityTable") (F1 : Fld Z h0 a1 "com/example/pensionwright/pensionwright/actuarial/MortalityTable" "firstAge" "I" (.int f1)) (F2 : Fld Z h0 a1 "com/example/pensionwright/pensionwright/actuarial/MortalityTable" "rates" "[D" (.ref r1)) (V1 : Arv Z h0 r1 kr .double (1 : Int32) [(.double q0)] (.double 0)) (hlt : ¬ ((f1 + (1 : Int32)) - (1 : Int32)) < f1) (hdf : ((f1 + (1 : Int32)) - (1 : Int32)) - f1 = (0 : Int32)) :
    MetFree l (⟨"com/example/pensionwright/pensionwright/actuarial/MortalityTable", "qx", "(I)D"⟩ : MethodName) (head1 (Jvm.Cond.code (⟨"com/example/pensionwright/pensionwright/actuarial/MortalityTable", "qx", "(I)D"⟩ : MethodName) prog_3_method_4_code 2 (some .double) :: ws) ({ frames := 1, cells := 0, slots := 0, locals := 16 } : Room)) (fun a U => a = #[(.ref a1), (.int ((f1 + (1 : Int32)) - (1 : Int32)))] ∧ Z.Warmed39 U.vm ∧ U.heap = h0) (fun _ _ _ _ _ => True) (fun _ U o U' => ∃ v L, o = .returned v ∧ Q_qx1 Z a1 r1 f1 kr q0 h0 n0 v U'.heap L ∧ FrameEnd U o U' L ({ frames := 1, cells := 0, slots := 0, locals := 16 } : Room).cells ({ frames := 1, cells := 0, slots := 0, locals := 16 } : Room).slots) := by
  refine MetFree.of_bodySF (plainFor_of_name own_pn_0) hisR ?_
  intro p e s m args below meth c s₁ Bd hml0 hP hK
  obtain ⟨rfl, hZ, hh⟩ := hP
  have hx := Bd.exec
  have hby := Bd.bytes
  have hml : c.maxLocals = 2 := hml0
  have hown : s.vm.findClass "com/example/pensionwright/pensionwright/actuarial/MortalityTable" = some m.cls := findClass_of_methodNamed Bd.named
  have hnm := (name_of_methodNamed Bd.named Bd.method).1
  have W := own_W hw
  have X0 : Stand p l e ({ frames := 1, cells := 0, slots := 0, locals := 16 } : Room) s m #[(.ref a1), (.int ((f1 + (1 : Int32)) - (1 : Int32)))] below meth c s₁ [] 0 0 := Stand.of_body Bd
  have e0 : s₁.heap = h0 := by rw [← hh, Bd.state]; rfl
  have N0 := Fr.nil n0
  have pre0 : ∀ tq, Steps p.tables e below (s₁.setTop (mkF m 0 #[rv a1, iv ((f1 + (1 : Int32)) - (1 : Int32))] [])) tq → Steps p.tables e below (s₁.setTop (entryFrame m #[(.ref a1), (.int ((f1 + (1 : Int32)) - (1 : Int32)))] 2)) tq := fun tq k => castTop (own_ef_qx1 m a1 ((f1 + (1 : Int32)) - (1 : Int32))) k
  obtain ⟨T52, X52, e52, st52⟩ := getF X0 hx hZ hown (host := "") (Or.inl (W 14 rfl)) Via.refl e0 F1 (g := (mkF m 2 #[rv a1, iv ((f1 + (1 : Int32)) - (1 : Int32))] [.ref a1, .int ((f1 + (1 : Int32)) - (1 : Int32))])) rfl rfl (hb hby own_d5_2)
  obtain ⟨cq53, kq53, q53a, q53b, q53c⟩ := isOf hZ e52 E1
  obtain ⟨_, _, ⟨T53, L53, k53, n53⟩, -, X53, ⟨Lc53, hQ53, l53, y53, z53⟩, st53⟩ := X52.virtualBack hx (y := (⟨"com/example/pensionwright/pensionwright/actuarial/MortalityTable", "lastAge", "()I"⟩ : MethodName)) (z := (⟨"com/example/pensionwright/pensionwright/actuarial/MortalityTable", "lastAge", "()I"⟩ : MethodName)) hown (mvT hZ (W 50 rfl)) (mvT hZ (W 41 rfl)) (notFace_of_selects (args := #[]) (mvT hZ (W 43 rfl))) (mvT hZ (W 43 rfl)) (mvT hZ (W 42 rfl)) (by decide) (backOf (W := 1) (rm_la1 l Z a0 hw [] a1 r1 f1 kr [(.double q0)] h0 n0 Z0 F1 F2 V1) hZ (W 44 rfl) (W 6 rfl) (by decide) (by decide)) q53a q53c (g := (mkF m 10 #[rv a1, iv ((f1 + (1 : Int32)) - (1 : Int32))] [.ref a1, .int ((f1 + (1 : Int32)) - (1 : Int32))])) rfl (by rw [hml]; rfl) (Steps.refl _) (argsL := []) (rest := [.int ((f1 + (1 : Int32)) - (1 : Int32))]) (lenOf own_pd_5 rfl) rfl own_wt (hb hby own_d5_10) (fun _ _ => ⟨rfl, e52, (by decide : 0 + 0 ≤ _), (by decide : 0 + 0 ≤ _)⟩)
  dsimp only [Pt.U, Pt.locs, Pt.cells, Pt.slots] at X53 l53 y53 z53 st53 hQ53
  subst l53 y53 z53
  obtain ⟨rfl, Nq53, e53⟩ := hQ53
  have N53 := Fr.app N0 Nq53
  obtain ⟨T54, X54, e54, st54⟩ := getF X53 hx hZ hown (host := "") (Or.inl (W 29 rfl)) Via.refl e53 F2 (g := (mkF m 39 #[rv a1, iv ((f1 + (1 : Int32)) - (1 : Int32))] [.ref a1])) rfl rfl (hb hby own_d5_39)
  obtain ⟨T55, X55, e55, st55⟩ := getF X54 hx hZ hown (host := "") (Or.inl (W 14 rfl)) Via.refl e54 F1 (g := (mkF m 44 #[rv a1, iv ((f1 + (1 : Int32)) - (1 : Int32))] [.ref a1, .int ((f1 + (1 : Int32)) - (1 : Int32)), .ref r1])) rfl rfl (hb hby own_d5_44)
  obtain ⟨cl56, Ar56, aq56, aS56, aN56, aH56, aG56⟩ := id V1
  obtain ⟨fs, hr, hrun, hended, hW, hsame⟩ := X55.leave (v := some (.double q0)) (fun h => by rw [Bd.returns] at h; cases h)
  refine ⟨_, _, pre0 _ (?_), hrun, hended, _, _, rfl, ?_, ⟨_, rfl⟩, hW, hsame.mono (by decide) (by decide)⟩
  · show Steps _ _ _ (s₁.setTop (mkF m 0 #[rv a1, iv ((f1 + (1 : Int32)) - (1 : Int32))] [])) _
    refine XS.iloadN X0.here hx rfl (hb hby own_d5_0) rfl ?_
    show Steps _ _ _ (s₁.setTop (mkF m 1 _ [.int ((f1 + (1 : Int32)) - (1 : Int32))])) _
    refine XS.aloadN X0.here hx rfl (hb hby own_d5_1) rfl rfl ?_
    show Steps _ _ _ (s₁.setTop (mkF m 2 _ [.ref a1, .int ((f1 + (1 : Int32)) - (1 : Int32))])) _
    refine st52 _ ?_
    show Steps _ _ _ (T52.setTop (mkF m 5 #[rv a1, iv ((f1 + (1 : Int32)) - (1 : Int32))] [.int f1, .int ((f1 + (1 : Int32)) - (1 : Int32))])) _
    refine XS.icmpNo X52.here hx rfl (hb hby own_d5_5) rfl (flt (hlt : ¬ (((f1 + (1 : Int32)) - (1 : Int32)) < f1))).1 ?_
    show Steps _ _ _ (T52.setTop (mkF m 8 _ [])) _
    refine XS.iloadN X52.here hx rfl (hb hby own_d5_8) rfl ?_
    show Steps _ _ _ (T52.setTop (mkF m 9 _ [.int ((f1 + (1 : Int32)) - (1 : Int32))])) _
    refine XS.aloadN X52.here hx rfl (hb hby own_d5_9) rfl rfl ?_
    show Steps _ _ _ (T52.setTop (mkF m 10 _ [.ref a1, .int ((f1 + (1 : Int32)) - (1 : Int32))])) _
    refine st53.trans ?_
    show Steps _ _ _ (T53.setTop (mkF m 13 #[rv a1, iv ((f1 + (1 : Int32)) - (1 : Int32))] [.int ((f1 + (1 : Int32)) - (1 : Int32)), .int ((f1 + (1 : Int32)) - (1 : Int32))])) _
    refine XS.icmpYes X53.here hx rfl (pc0 := 13) (pc' := 38) rfl (hb hby own_d5_13) rfl (flt (Int32.lt_irrefl : ¬ (((f1 + (1 : Int32)) - (1 : Int32)) < ((f1 + (1 : Int32)) - (1 : Int32))))).2.2.2 (by decide) (by decide) ?_
    show Steps _ _ _ (T53.setTop (mkF m 38 _ [])) _
    refine XS.aloadN X53.here hx rfl (hb hby own_d5_38) rfl rfl ?_
    show Steps _ _ _ (T53.setTop (mkF m 39 _ [.ref a1])) _
    refine st54 _ ?_
    show Steps _ _ _ (T54.setTop (mkF m 42 #[rv a1, iv ((f1 + (1 : Int32)) - (1 : Int32))] [.ref r1])) _
    refine XS.iloadN X54.here hx rfl (hb hby own_d5_42) rfl ?_
    show Steps _ _ _ (T54.setTop (mkF m 43 _ [.int ((f1 + (1 : Int32)) - (1 : Int32)), .ref r1])) _
    refine XS.aloadN X54.here hx rfl (hb hby own_d5_43) rfl rfl ?_
    show Steps _ _ _ (T54.setTop (mkF m 44 _ [.ref a1, .int ((f1 + (1 : Int32)) - (1 : Int32)), .ref r1])) _
    refine st55 _ ?_
    show Steps _ _ _ (T55.setTop (mkF m 47 #[rv a1, iv ((f1 + (1 : Int32)) - (1 : Int32))] [.int f1, .int ((f1 + (1 : Int32)) - (1 : Int32)), .ref r1])) _
    refine XS.isub X55.here hx rfl (hb hby own_d5_47) rfl ?_
    rw [hdf]
    show Steps _ _ _ (T55.setTop (mkF m 48 #[rv a1, iv ((f1 + (1 : Int32)) - (1 : Int32))] [.int 0, .ref r1])) _
    refine X55.daload hx (j := (0 : Int32)) (v := (.double q0)) (by rw [e55]; exact Ar56.1) (State.isArrayOf_alike hZ.alike Ar56.2.1) Ar56.2.2 (inb_of aS56 ⟨(by decide), (by decide)⟩) (Has.at aH56 (inb_of aS56 ⟨(by decide), (by decide)⟩) rfl) (g := (mkF m 48 #[rv a1, iv ((f1 + (1 : Int32)) - (1 : Int32))] [.int 0, .ref r1])) rfl rfl (hb hby own_d5_48) _ ?_
    show Steps _ _ _ (T55.setTop (mkF m 49 #[rv a1, iv ((f1 + (1 : Int32)) - (1 : Int32))] [.double q0])) _
    exact retOut X55 hx Bd.returns rfl (Or.inr (Or.inr (Or.inl ⟨rfl, rfl, _, rfl⟩))) (hb hby own_d5_49) hr
  · show Q_qx1 Z a1 r1 f1 kr q0 h0 n0 _ T55.heap _
    rw [e55]
    exact ⟨rfl, N53, rfl⟩
theorem own_d3_0 : decode prog_3_method_1_code 0 = .ok (.aload_n 0, 1) := by decide +kernel
theorem own_d3_1 : decode prog_3_method_1_code 1 = .ok (.invokespecial 1, 3) := by decide +kernel
theorem own_d3_4 : decode prog_3_method_1_code 4 = .ok (.iload_n 1, 1) := by decide +kernel
theorem own_d3_5 : decode prog_3_method_1_code 5 = .ok (.ifCond .ge 17, 3) := by decide +kernel
theorem own_d3_22 : decode prog_3_method_1_code 22 = .ok (.aload_n 2, 1) := by decide +kernel
theorem own_d3_23 : decode prog_3_method_1_code 23 = .ok (.arraylength, 1) := by decide +kernel
theorem own_d3_24 : decode prog_3_method_1_code 24 = .ok (.ifCond .ne 13, 3) := by decide +kernel
theorem own_d3_37 : decode prog_3_method_1_code 37 = .ok (.aload_n 2, 1) := by decide +kernel
theorem own_d3_38 : decode prog_3_method_1_code 38 = .ok (.arraylength, 1) := by decide +kernel
theorem own_d3_39 : decode prog_3_method_1_code 39 = .ok (.sipush 200, 3) := by decide +kernel
theorem own_d3_42 : decode prog_3_method_1_code 42 = .ok (.if_icmp .le 18, 3) := by decide +kernel
theorem own_d3_60 : decode prog_3_method_1_code 60 = .ok (.iload_n 1, 1) := by decide +kernel
theorem own_d3_61 : decode prog_3_method_1_code 61 = .ok (.i2l, 1) := by decide +kernel
theorem own_d3_62 : decode prog_3_method_1_code 62 = .ok (.aload_n 2, 1) := by decide +kernel
theorem own_d3_63 : decode prog_3_method_1_code 63 = .ok (.arraylength, 1) := by decide +kernel
theorem own_d3_64 : decode prog_3_method_1_code 64 = .ok (.i2l, 1) := by decide +kernel
theorem own_d3_65 : decode prog_3_method_1_code 65 = .ok (.ladd, 1) := by decide +kernel
theorem own_d3_66 : decode prog_3_method_1_code 66 = .ok (.lconst 1, 1) := by decide +kernel
theorem own_d3_67 : decode prog_3_method_1_code 67 = .ok (.lsub, 1) := by decide +kernel
theorem own_d3_68 : decode prog_3_method_1_code 68 = .ok (.lstore_n 3, 1) := by decide +kernel
theorem own_d3_69 : decode prog_3_method_1_code 69 = .ok (.lload_n 3, 1) := by decide +kernel
theorem own_d3_70 : decode prog_3_method_1_code 70 = .ok (.ldc2_w 23, 3) := by decide +kernel
theorem own_d3_73 : decode prog_3_method_1_code 73 = .ok (.lcmp, 1) := by decide +kernel
theorem own_d3_74 : decode prog_3_method_1_code 74 = .ok (.ifCond .le 17, 3) := by decide +kernel
theorem own_d3_91 : decode prog_3_method_1_code 91 = .ok (.iconst 0, 1) := by decide +kernel
theorem own_d3_92 : decode prog_3_method_1_code 92 = .ok (.istore 5, 2) := by decide +kernel
theorem own_d3_94 : decode prog_3_method_1_code 94 = .ok (.iload 5, 2) := by decide +kernel
theorem own_d3_96 : decode prog_3_method_1_code 96 = .ok (.aload_n 2, 1) := by decide +kernel
theorem own_d3_97 : decode prog_3_method_1_code 97 = .ok (.arraylength, 1) := by decide +kernel
theorem own_d3_98 : decode prog_3_method_1_code 98 = .ok (.if_icmp .ge 81, 3) := by decide +kernel
theorem own_d3_101 : decode prog_3_method_1_code 101 = .ok (.aload_n 2, 1) := by decide +kernel
theorem own_d3_102 : decode prog_3_method_1_code 102 = .ok (.iload 5, 2) := by decide +kernel
theorem own_d3_104 : decode prog_3_method_1_code 104 = .ok (.daload, 1) := by decide +kernel
theorem own_d3_105 : decode prog_3_method_1_code 105 = .ok (.dconst 0, 1) := by decide +kernel
theorem own_d3_106 : decode prog_3_method_1_code 106 = .ok (.dcmp .l, 1) := by decide +kernel
theorem own_d3_107 : decode prog_3_method_1_code 107 = .ok (.ifCond .lt 12, 3) := by decide +kernel
theorem own_d3_110 : decode prog_3_method_1_code 110 = .ok (.aload_n 2, 1) := by decide +kernel
theorem own_d3_111 : decode prog_3_method_1_code 111 = .ok (.iload 5, 2) := by decide +kernel
theorem own_d3_113 : decode prog_3_method_1_code 113 = .ok (.daload, 1) := by decide +kernel
theorem own_d3_114 : decode prog_3_method_1_code 114 = .ok (.dconst 1, 1) := by decide +kernel
theorem own_d3_115 : decode prog_3_method_1_code 115 = .ok (.dcmp .g, 1) := by decide +kernel
theorem own_d3_116 : decode prog_3_method_1_code 116 = .ok (.ifCond .le 24, 3) := by decide +kernel
theorem own_d3_140 : decode prog_3_method_1_code 140 = .ok (.aload_n 2, 1) := by decide +kernel
theorem own_d3_141 : decode prog_3_method_1_code 141 = .ok (.iload 5, 2) := by decide +kernel
theorem own_d3_143 : decode prog_3_method_1_code 143 = .ok (.daload, 1) := by decide +kernel
theorem own_d3_144 : decode prog_3_method_1_code 144 = .ok (.dconst 1, 1) := by decide +kernel
theorem own_d3_145 : decode prog_3_method_1_code 145 = .ok (.dcmp .l, 1) := by decide +kernel
theorem own_d3_146 : decode prog_3_method_1_code 146 = .ok (.ifCond .ne 27, 3) := by decide +kernel
theorem own_d3_149 : decode prog_3_method_1_code 149 = .ok (.iload 5, 2) := by decide +kernel
theorem own_d3_151 : decode prog_3_method_1_code 151 = .ok (.aload_n 2, 1) := by decide +kernel
theorem own_d3_152 : decode prog_3_method_1_code 152 = .ok (.arraylength, 1) := by decide +kernel
theorem own_d3_153 : decode prog_3_method_1_code 153 = .ok (.iconst 1, 1) := by decide +kernel
theorem own_d3_154 : decode prog_3_method_1_code 154 = .ok (.isub, 1) := by decide +kernel
theorem own_d3_155 : decode prog_3_method_1_code 155 = .ok (.if_icmp .ge 18, 3) := by decide +kernel
theorem own_d3_173 : decode prog_3_method_1_code 173 = .ok (.iinc 5 1, 3) := by decide +kernel
theorem own_d3_176 : decode prog_3_method_1_code 176 = .ok (.goto (-82), 3) := by decide +kernel
theorem own_d3_179 : decode prog_3_method_1_code 179 = .ok (.aload_n 0, 1) := by decide +kernel
theorem own_d3_180 : decode prog_3_method_1_code 180 = .ok (.iload_n 1, 1) := by decide +kernel
theorem own_d3_181 : decode prog_3_method_1_code 181 = .ok (.putfield 34, 3) := by decide +kernel
theorem own_d3_184 : decode prog_3_method_1_code 184 = .ok (.aload_n 0, 1) := by decide +kernel
theorem own_d3_185 : decode prog_3_method_1_code 185 = .ok (.aload_n 2, 1) := by decide +kernel
theorem own_d3_186 : decode prog_3_method_1_code 186 = .ok (.aload_n 2, 1) := by decide +kernel
theorem own_d3_187 : decode prog_3_method_1_code 187 = .ok (.arraylength, 1) := by decide +kernel
theorem own_d3_188 : decode prog_3_method_1_code 188 = .ok (.invokestatic 38, 3) := by decide +kernel
theorem own_pd_2 : parseMethodDescriptor "([DI)[D" = some ⟨[(.array .double), .int], some (.array .double)⟩ := by decide +kernel
theorem own_d3_191 : decode prog_3_method_1_code 191 = .ok (.putfield 44, 3) := by decide +kernel
theorem own_d3_194 : decode prog_3_method_1_code 194 = .ok (.aload_n 0, 1) := by decide +kernel
theorem own_d3_195 : decode prog_3_method_1_code 195 = .ok (.aload_n 2, 1) := by decide +kernel
theorem own_d3_196 : decode prog_3_method_1_code 196 = .ok (.arraylength, 1) := by decide +kernel
theorem own_d3_197 : decode prog_3_method_1_code 197 = .ok (.anewarray 48, 3) := by decide +kernel
theorem own_d3_200 : decode prog_3_method_1_code 200 = .ok (.putfield 49, 3) := by decide +kernel
theorem own_d3_203 : decode prog_3_method_1_code 203 = .ok (.iconst 0, 1) := by decide +kernel
theorem own_d3_204 : decode prog_3_method_1_code 204 = .ok (.istore 5, 2) := by decide +kernel
theorem own_d3_206 : decode prog_3_method_1_code 206 = .ok (.iload 5, 2) := by decide +kernel
theorem own_d3_208 : decode prog_3_method_1_code 208 = .ok (.aload_n 2, 1) := by decide +kernel
theorem own_d3_209 : decode prog_3_method_1_code 209 = .ok (.arraylength, 1) := by decide +kernel
theorem own_d3_210 : decode prog_3_method_1_code 210 = .ok (.if_icmp .ge 24, 3) := by decide +kernel
theorem own_d3_213 : decode prog_3_method_1_code 213 = .ok (.aload_n 0, 1) := by decide +kernel
theorem own_d3_214 : decode prog_3_method_1_code 214 = .ok (.getfield 49, 3) := by decide +kernel
theorem own_d3_217 : decode prog_3_method_1_code 217 = .ok (.iload 5, 2) := by decide +kernel
theorem own_d3_219 : decode prog_3_method_1_code 219 = .ok (.aload_n 0, 1) := by decide +kernel
theorem own_d3_220 : decode prog_3_method_1_code 220 = .ok (.iload_n 1, 1) := by decide +kernel
theorem own_d3_221 : decode prog_3_method_1_code 221 = .ok (.iload 5, 2) := by decide +kernel
theorem own_d3_223 : decode prog_3_method_1_code 223 = .ok (.iadd, 1) := by decide +kernel
theorem own_d3_224 : decode prog_3_method_1_code 224 = .ok (.invokevirtual 53, 3) := by decide +kernel
theorem own_pd_4 : parseMethodDescriptor "(I)[D" = some ⟨[.int], some (.array .double)⟩ := by decide +kernel
theorem own_d3_227 : decode prog_3_method_1_code 227 = .ok (.aastore, 1) := by decide +kernel
theorem own_d3_228 : decode prog_3_method_1_code 228 = .ok (.iinc 5 1, 3) := by decide +kernel
theorem own_d3_231 : decode prog_3_method_1_code 231 = .ok (.goto (-25), 3) := by decide +kernel
theorem own_d3_234 : decode prog_3_method_1_code 234 = .ok (.return_, 1) := by decide +kernel
theorem own_ef_mi1 (m : MethodId) (x0 : Addr) (x1 : Int32) (x2 : Addr) : entryFrame m #[(.ref x0), (.int x1), (.ref x2)] 6 = mkF m 0 #[rv x0, iv x1, rv x2, uu, uu, uu] [] := by first | (simp [entryFrame, mkF, argsToLocals, Value.category]; done) | rfl
def Q_mi1 (Z : State) (a1 r0 : Addr) (p1 : Int32) (kr : ClassId) (q0 : UInt64) (h0 : Heap) (n0 : Nat) (v : Option Value) (h : Heap) (L : List Loc) : Prop := v = none ∧ Fr n0 L ∧ Keep h0 h [a1] ∧ Exa Z h a1 "com/example/pensionwright/pensionwright/actuarial/MortalityTable" ∧ Fld Z h a1 "com/example/pensionwright/pensionwright/actuarial/MortalityTable" "firstAge" "I" (.int p1) ∧ ∃ r, Fld Z h a1 "com/example/pensionwright/pensionwright/actuarial/MortalityTable" "rates" "[D" (.ref r) ∧ Arv Z h r kr .double (1 : Int32) [(.double q0)] (.double 0)
set_option maxRecDepth 65536 in
set_option maxHeartbeats 40000000 in
theorem rm_mi1 (l : Launch) (Z : State) (a0 : Array Value) (hw : ∀ d ∈ tables_1, d.before a0 Z = true) (ws : List Jvm.Cond) (a1 r0 : Addr) (p1 : Int32) (kr : ClassId) (q0 : UInt64) (h0 : Heap) (n0 : Nat) (Z0 : n0 ≤ h0.size) (E1 : Exa Z h0 a1 "com/example/pensionwright/pensionwright/actuarial/MortalityTable") (g1 : n0 ≤ a1) (F1 : Fld Z h0 a1 "com/example/pensionwright/pensionwright/actuarial/MortalityTable" "firstAge" "I" (.int (0 : Int32))) (F2 : Fld Z h0 a1 "com/example/pensionwright/pensionwright/actuarial/MortalityTable" "rates" "[D" .null) (F3 : Fld Z h0 a1 "com/example/pensionwright/pensionwright/actuarial/MortalityTable" "monthlySurvival" "[[D" .null) (V1 : Arv Z h0 r0 kr .double (1 : Int32) [(.double q0)] (.double 0)) (ER : Exa Z h0 r0 "[D") (hra : r0 ≠ a1) (hp : ¬ p1 < (0 : Int32)) (hL : ¬ (0 : Int32) < own_cmpL ((p1.toInt64 + ((1 : Int32).toInt64)) - (1 : Int64)) (2147483647 : Int64)) (ok0 : own_ok q0)  :
    MetFree l (⟨"com/example/pensionwright/pensionwright/actuarial/MortalityTable", "<init>", "(I[D)V"⟩ : MethodName) (head1 (Jvm.Cond.code (⟨"com/example/pensionwright/pensionwright/actuarial/MortalityTable", "<init>", "(I[D)V"⟩ : MethodName) prog_3_method_1_code 6 none :: ws) ({ frames := 2, cells := 5, slots := 114, locals := 32 } : Room)) (fun a U => a = #[(.ref a1), (.int p1), (.ref r0)] ∧ Z.Warmed39 U.vm ∧ U.heap = h0) (fun _ _ _ _ _ => True) (fun _ U o U' => ∃ v L, o = .returned v ∧ Q_mi1 Z a1 r0 p1 kr q0 h0 n0 v U'.heap L ∧ FrameEnd U o U' L ({ frames := 2, cells := 5, slots := 114, locals := 32 } : Room).cells ({ frames := 2, cells := 5, slots := 114, locals := 32 } : Room).slots) := by
  refine MetFree.of_bodySF (plainFor_of_name own_pn_0) hisR ?_
  intro p e s m args below meth c s₁ Bd hml0 hP hK
  obtain ⟨rfl, hZ, hh⟩ := hP
  have hx := Bd.exec
  have hby := Bd.bytes
  have hml : c.maxLocals = 6 := hml0
  have hown : s.vm.findClass "com/example/pensionwright/pensionwright/actuarial/MortalityTable" = some m.cls := findClass_of_methodNamed Bd.named
  have hnm := (name_of_methodNamed Bd.named Bd.method).1
  have W := own_W hw
  have X0 : Stand p l e ({ frames := 2, cells := 5, slots := 114, locals := 32 } : Room) s m #[(.ref a1), (.int p1), (.ref r0)] below meth c s₁ [] 0 0 := Stand.of_body Bd
  have e0 : s₁.heap = h0 := by rw [← hh, Bd.state]; rfl
  have N0 := Fr.nil n0
  have pre0 : ∀ tq, Steps p.tables e below (s₁.setTop (mkF m 0 #[rv a1, iv p1, rv r0, uu, uu, uu] [])) tq → Steps p.tables e below (s₁.setTop (entryFrame m #[(.ref a1), (.int p1), (.ref r0)] 6)) tq := fun tq k => castTop (own_ef_mi1 m a1 p1 r0) k
  have K57 : Keep h0 h0 [a1] := Keep.refl h0 [a1]
  obtain ⟨T58, X58, e58, st58⟩ := initO X0 hx hZ hown (W 10 rfl) (W 11 rfl) (W 12 rfl) e0 (g := (mkF m 1 #[rv a1, iv p1, rv r0, uu, uu, uu] [.ref a1])) rfl (by rw [hml]; rfl) rfl (hb hby own_d3_1) (by decide) (W := 0) own_wt (by decide)
  obtain ⟨cl59, Ar59, aq59, aS59, aN59, aH59, aG59⟩ := id V1
  have G60 : ∀ tq, Steps p.tables e below (T58.setTop (mkF m 94 #[rv a1, iv p1, rv r0, .val (.long (((p1.toInt64) + ((1 : Int32).toInt64)) - (1 : Int64))), .second, iv 0] [])) tq → Steps p.tables e below (s₁.setTop (mkF m 0 #[rv a1, iv p1, rv r0, uu, uu, uu] [])) tq := by
    intro tq kk
    show Steps _ _ _ (s₁.setTop (mkF m 0 #[rv a1, iv p1, rv r0, uu, uu, uu] [])) _
    refine XS.aloadN X0.here hx rfl (hb hby own_d3_0) rfl rfl ?_
    show Steps _ _ _ (s₁.setTop (mkF m 1 _ [.ref a1])) _
    refine st58 _ ?_
    show Steps _ _ _ (T58.setTop (mkF m 4 #[rv a1, iv p1, rv r0, uu, uu, uu] [])) _
    refine XS.iloadN X58.here hx rfl (hb hby own_d3_4) rfl ?_
    show Steps _ _ _ (T58.setTop (mkF m 5 _ [.int p1])) _
    refine XS.ifYes X58.here hx rfl (pc0 := 5) (pc' := 22) rfl (hb hby own_d3_5) rfl ((if0 _ _).trans (flt (hp : ¬ (p1 < (0 : Int32)))).2.1) (by decide) (by decide) ?_
    show Steps _ _ _ (T58.setTop (mkF m 22 _ [])) _
    refine XS.aloadN X58.here hx rfl (hb hby own_d3_22) rfl rfl ?_
    show Steps _ _ _ (T58.setTop (mkF m 23 _ [.ref r0])) _
    refine X58.arraylength hx (by rw [e58]; exact Ar59.1) (State.isArrayOf_alike hZ.alike Ar59.2.1) (g := (mkF m 23 #[rv a1, iv p1, rv r0, uu, uu, uu] [.ref r0])) rfl rfl (hb hby own_d3_23) _ ?_
    rw [len_of aS59 aN59]
    show Steps _ _ _ (T58.setTop (mkF m 24 #[rv a1, iv p1, rv r0, uu, uu, uu] [.int 1])) _
    refine XS.ifYes X58.here hx rfl (pc0 := 24) (pc' := 37) rfl (hb hby own_d3_24) rfl ((if0 _ _).trans (feq ((by decide) : ¬ ((1 : Int32) = (0 : Int32)))).2) (by decide) (by decide) ?_
    show Steps _ _ _ (T58.setTop (mkF m 37 _ [])) _
    refine XS.aloadN X58.here hx rfl (hb hby own_d3_37) rfl rfl ?_
    show Steps _ _ _ (T58.setTop (mkF m 38 _ [.ref r0])) _
    refine X58.arraylength hx (by rw [e58]; exact Ar59.1) (State.isArrayOf_alike hZ.alike Ar59.2.1) (g := (mkF m 38 #[rv a1, iv p1, rv r0, uu, uu, uu] [.ref r0])) rfl rfl (hb hby own_d3_38) _ ?_
    rw [len_of aS59 aN59]
    show Steps _ _ _ (T58.setTop (mkF m 39 #[rv a1, iv p1, rv r0, uu, uu, uu] [.int 1])) _
    refine XS.sipush X58.here hx rfl (hb hby own_d3_39) ?_
    show Steps _ _ _ (T58.setTop (mkF m 42 _ [.int 200, .int 1])) _
    refine XS.icmpYes X58.here hx rfl (pc0 := 42) (pc' := 60) rfl (hb hby own_d3_42) rfl (flt ((by decide) : ¬ ((200 : Int32) < (1 : Int32)))).2.2.2 (by decide) (by decide) ?_
    show Steps _ _ _ (T58.setTop (mkF m 60 _ [])) _
    refine XS.iloadN X58.here hx rfl (hb hby own_d3_60) rfl ?_
    show Steps _ _ _ (T58.setTop (mkF m 61 _ [.int p1])) _
    refine XS.i2l X58.here hx rfl (hb hby own_d3_61) rfl ?_
    show Steps _ _ _ (T58.setTop (mkF m 62 _ [.long (p1.toInt64)])) _
    refine XS.aloadN X58.here hx rfl (hb hby own_d3_62) rfl rfl ?_
    show Steps _ _ _ (T58.setTop (mkF m 63 _ [.ref r0, .long (p1.toInt64)])) _
    refine X58.arraylength hx (by rw [e58]; exact Ar59.1) (State.isArrayOf_alike hZ.alike Ar59.2.1) (g := (mkF m 63 #[rv a1, iv p1, rv r0, uu, uu, uu] [.ref r0, .long (p1.toInt64)])) rfl rfl (hb hby own_d3_63) _ ?_
    rw [len_of aS59 aN59]
    show Steps _ _ _ (T58.setTop (mkF m 64 #[rv a1, iv p1, rv r0, uu, uu, uu] [.int 1, .long (p1.toInt64)])) _
    refine XS.i2l X58.here hx rfl (hb hby own_d3_64) rfl ?_
    show Steps _ _ _ (T58.setTop (mkF m 65 _ [.long ((1 : Int32).toInt64), .long (p1.toInt64)])) _
    refine XS.ladd X58.here hx rfl (hb hby own_d3_65) rfl ?_
    show Steps _ _ _ (T58.setTop (mkF m 66 _ [.long ((p1.toInt64) + ((1 : Int32).toInt64))])) _
    refine XS.lconst X58.here hx rfl (hb hby own_d3_66) ?_
    show Steps _ _ _ (T58.setTop (mkF m 67 _ [.long 1, .long ((p1.toInt64) + ((1 : Int32).toInt64))])) _
    refine XS.lsub X58.here hx rfl (hb hby own_d3_67) rfl ?_
    show Steps _ _ _ (T58.setTop (mkF m 68 _ [.long (((p1.toInt64) + ((1 : Int32).toInt64)) - (1 : Int64))])) _
    refine XS.lstoreN X58.here hx rfl (hb hby own_d3_68) rfl (l' := #[rv a1, iv p1, rv r0, .val (.long (((p1.toInt64) + ((1 : Int32).toInt64)) - (1 : Int64))), .second, uu]) rfl ?_
    show Steps _ _ _ (T58.setTop (mkF m 69 _ [])) _
    refine XS.lloadN X58.here hx rfl (hb hby own_d3_69) rfl ?_
    show Steps _ _ _ (T58.setTop (mkF m 70 _ [.long (((p1.toInt64) + ((1 : Int32).toInt64)) - (1 : Int64))])) _
    refine Jvm.Stand.ldc2J X58 hx hown (mvT hZ (W 13 rfl)) rfl (hb hby own_d3_70) ?_
    show Steps _ _ _ (T58.setTop (mkF m 73 _ [.long 2147483647, .long (((p1.toInt64) + ((1 : Int32).toInt64)) - (1 : Int64))])) _
    refine XS.lcmp X58.here hx rfl (hb hby own_d3_73) rfl ?_
    show Steps _ _ _ (T58.setTop (mkF m 74 #[rv a1, iv p1, rv r0, .val (.long (((p1.toInt64) + ((1 : Int32).toInt64)) - (1 : Int64))), .second, uu] [.int (own_cmpL (((p1.toInt64) + ((1 : Int32).toInt64)) - (1 : Int64)) (2147483647 : Int64))])) _
    refine XS.ifYes X58.here hx rfl (pc0 := 74) (pc' := 91) rfl (hb hby own_d3_74) rfl ((if0 _ _).trans (flt (hL : ¬ ((0 : Int32) < (own_cmpL (((p1.toInt64) + ((1 : Int32).toInt64)) - (1 : Int64)) (2147483647 : Int64))))).2.2.2) (by decide) (by decide) ?_
    show Steps _ _ _ (T58.setTop (mkF m 91 _ [])) _
    refine XS.iconst X58.here hx rfl (hb hby own_d3_91) ?_
    show Steps _ _ _ (T58.setTop (mkF m 92 _ [.int 0])) _
    refine XS.istore X58.here hx rfl (hb hby own_d3_92) rfl (l' := #[rv a1, iv p1, rv r0, .val (.long (((p1.toInt64) + ((1 : Int32).toInt64)) - (1 : Int64))), .second, iv 0]) rfl ?_
    exact kk
  have G61 : ∀ tq, Steps p.tables e below (T58.setTop (mkF m 146 #[rv a1, iv p1, rv r0, .val (.long (((p1.toInt64) + ((1 : Int32).toInt64)) - (1 : Int64))), .second, iv 0] [.int (cmpValue (FP.dcmp q0 4607182418800017408) .l)])) tq → Steps p.tables e below (T58.setTop (mkF m 94 #[rv a1, iv p1, rv r0, .val (.long (((p1.toInt64) + ((1 : Int32).toInt64)) - (1 : Int64))), .second, iv 0] [])) tq := by
    intro tq kk
    show Steps _ _ _ (T58.setTop (mkF m 94 #[rv a1, iv p1, rv r0, .val (.long (((p1.toInt64) + ((1 : Int32).toInt64)) - (1 : Int64))), .second, iv 0] [])) _
    refine XS.iload X58.here hx rfl (hb hby own_d3_94) rfl ?_
    show Steps _ _ _ (T58.setTop (mkF m 96 _ [.int 0])) _
    refine XS.aloadN X58.here hx rfl (hb hby own_d3_96) rfl rfl ?_
    show Steps _ _ _ (T58.setTop (mkF m 97 _ [.ref r0, .int 0])) _
    refine X58.arraylength hx (by rw [e58]; exact Ar59.1) (State.isArrayOf_alike hZ.alike Ar59.2.1) (g := (mkF m 97 #[rv a1, iv p1, rv r0, .val (.long (((p1.toInt64) + ((1 : Int32).toInt64)) - (1 : Int64))), .second, iv 0] [.ref r0, .int 0])) rfl rfl (hb hby own_d3_97) _ ?_
    rw [len_of aS59 aN59]
    show Steps _ _ _ (T58.setTop (mkF m 98 #[rv a1, iv p1, rv r0, .val (.long (((p1.toInt64) + ((1 : Int32).toInt64)) - (1 : Int64))), .second, iv 0] [.int 1, .int 0])) _
    refine XS.icmpNo X58.here hx rfl (hb hby own_d3_98) rfl (tlt ((by decide) : (0 : Int32) < (1 : Int32))).2.1 ?_
    show Steps _ _ _ (T58.setTop (mkF m 101 _ [])) _
    refine XS.aloadN X58.here hx rfl (hb hby own_d3_101) rfl rfl ?_
    show Steps _ _ _ (T58.setTop (mkF m 102 _ [.ref r0])) _
    refine XS.iload X58.here hx rfl (hb hby own_d3_102) rfl ?_
    show Steps _ _ _ (T58.setTop (mkF m 104 _ [.int 0, .ref r0])) _
    refine X58.daload hx (j := (0 : Int32)) (v := (.double q0)) (by rw [e58]; exact Ar59.1) (State.isArrayOf_alike hZ.alike Ar59.2.1) Ar59.2.2 (inb_of aS59 ⟨(by decide), (by decide)⟩) (Has.at aH59 (inb_of aS59 ⟨(by decide), (by decide)⟩) rfl) (g := (mkF m 104 #[rv a1, iv p1, rv r0, .val (.long (((p1.toInt64) + ((1 : Int32).toInt64)) - (1 : Int64))), .second, iv 0] [.int 0, .ref r0])) rfl rfl (hb hby own_d3_104) _ ?_
    show Steps _ _ _ (T58.setTop (mkF m 105 #[rv a1, iv p1, rv r0, .val (.long (((p1.toInt64) + ((1 : Int32).toInt64)) - (1 : Int64))), .second, iv 0] [.double q0])) _
    refine XS.dconst0 X58.here hx rfl (hb hby own_d3_105) (v := 0) rfl ?_
    show Steps _ _ _ (T58.setTop (mkF m 106 _ [.double 0, .double q0])) _
    refine XS.dcmpS X58.here hx rfl (hb hby own_d3_106) rfl rfl ?_
    show Steps _ _ _ (T58.setTop (mkF m 107 _ [.int (cmpValue (FP.dcmp q0 0) .l)])) _
    refine XS.ifNo X58.here hx rfl (hb hby own_d3_107) rfl ((if0 _ _).trans (flt (ok0.1 : ¬ ((cmpValue (FP.dcmp q0 0) .l) < (0 : Int32)))).1) ?_
    show Steps _ _ _ (T58.setTop (mkF m 110 _ [])) _
    refine XS.aloadN X58.here hx rfl (hb hby own_d3_110) rfl rfl ?_
    show Steps _ _ _ (T58.setTop (mkF m 111 _ [.ref r0])) _
    refine XS.iload X58.here hx rfl (hb hby own_d3_111) rfl ?_
    show Steps _ _ _ (T58.setTop (mkF m 113 _ [.int 0, .ref r0])) _
    refine X58.daload hx (j := (0 : Int32)) (v := (.double q0)) (by rw [e58]; exact Ar59.1) (State.isArrayOf_alike hZ.alike Ar59.2.1) Ar59.2.2 (inb_of aS59 ⟨(by decide), (by decide)⟩) (Has.at aH59 (inb_of aS59 ⟨(by decide), (by decide)⟩) rfl) (g := (mkF m 113 #[rv a1, iv p1, rv r0, .val (.long (((p1.toInt64) + ((1 : Int32).toInt64)) - (1 : Int64))), .second, iv 0] [.int 0, .ref r0])) rfl rfl (hb hby own_d3_113) _ ?_
    show Steps _ _ _ (T58.setTop (mkF m 114 #[rv a1, iv p1, rv r0, .val (.long (((p1.toInt64) + ((1 : Int32).toInt64)) - (1 : Int64))), .second, iv 0] [.double q0])) _
    refine XS.dconst1 X58.here hx rfl (hb hby own_d3_114) (v := 4607182418800017408) rfl ?_
    show Steps _ _ _ (T58.setTop (mkF m 115 _ [.double 4607182418800017408, .double q0])) _
    refine XS.dcmpS X58.here hx rfl (hb hby own_d3_115) rfl rfl ?_
    show Steps _ _ _ (T58.setTop (mkF m 116 _ [.int (cmpValue (FP.dcmp q0 4607182418800017408) .g)])) _
    refine XS.ifYes X58.here hx rfl (pc0 := 116) (pc' := 140) rfl (hb hby own_d3_116) rfl ((if0 _ _).trans (flt (ok0.2.1 : ¬ ((0 : Int32) < (cmpValue (FP.dcmp q0 4607182418800017408) .g)))).2.2.2) (by decide) (by decide) ?_
    show Steps _ _ _ (T58.setTop (mkF m 140 _ [])) _
    refine XS.aloadN X58.here hx rfl (hb hby own_d3_140) rfl rfl ?_
    show Steps _ _ _ (T58.setTop (mkF m 141 _ [.ref r0])) _
    refine XS.iload X58.here hx rfl (hb hby own_d3_141) rfl ?_
    show Steps _ _ _ (T58.setTop (mkF m 143 _ [.int 0, .ref r0])) _
    refine X58.daload hx (j := (0 : Int32)) (v := (.double q0)) (by rw [e58]; exact Ar59.1) (State.isArrayOf_alike hZ.alike Ar59.2.1) Ar59.2.2 (inb_of aS59 ⟨(by decide), (by decide)⟩) (Has.at aH59 (inb_of aS59 ⟨(by decide), (by decide)⟩) rfl) (g := (mkF m 143 #[rv a1, iv p1, rv r0, .val (.long (((p1.toInt64) + ((1 : Int32).toInt64)) - (1 : Int64))), .second, iv 0] [.int 0, .ref r0])) rfl rfl (hb hby own_d3_143) _ ?_
    show Steps _ _ _ (T58.setTop (mkF m 144 #[rv a1, iv p1, rv r0, .val (.long (((p1.toInt64) + ((1 : Int32).toInt64)) - (1 : Int64))), .second, iv 0] [.double q0])) _
    refine XS.dconst1 X58.here hx rfl (hb hby own_d3_144) (v := 4607182418800017408) rfl ?_
    show Steps _ _ _ (T58.setTop (mkF m 145 _ [.double 4607182418800017408, .double q0])) _
    refine XS.dcmpS X58.here hx rfl (hb hby own_d3_145) rfl rfl ?_
    exact kk
  have GL : ∀ tq, Steps p.tables e below (T58.setTop (mkF m 94 #[rv a1, iv p1, rv r0, .val (.long (((p1.toInt64) + ((1 : Int32).toInt64)) - (1 : Int64))), .second, iv 1] [])) tq → Steps p.tables e below (T58.setTop (mkF m 146 #[rv a1, iv p1, rv r0, .val (.long (((p1.toInt64) + ((1 : Int32).toInt64)) - (1 : Int64))), .second, iv 0] [.int (cmpValue (FP.dcmp q0 4607182418800017408) .l)])) tq := by
    by_cases hl : cmpValue (FP.dcmp q0 4607182418800017408) .l = 0
    · have G62 : ∀ tq, Steps p.tables e below (T58.setTop (mkF m 94 #[rv a1, iv p1, rv r0, .val (.long (((p1.toInt64) + ((1 : Int32).toInt64)) - (1 : Int64))), .second, iv 1] [])) tq → Steps p.tables e below (T58.setTop (mkF m 146 #[rv a1, iv p1, rv r0, .val (.long (((p1.toInt64) + ((1 : Int32).toInt64)) - (1 : Int64))), .second, iv 0] [.int (cmpValue (FP.dcmp q0 4607182418800017408) .l)])) tq := by
        intro tq kk
        show Steps _ _ _ (T58.setTop (mkF m 146 #[rv a1, iv p1, rv r0, .val (.long (((p1.toInt64) + ((1 : Int32).toInt64)) - (1 : Int64))), .second, iv 0] [.int (cmpValue (FP.dcmp q0 4607182418800017408) .l)])) _
        refine XS.ifNo X58.here hx rfl (hb hby own_d3_146) rfl ((if0 _ _).trans (teq (hl : (cmpValue (FP.dcmp q0 4607182418800017408) .l) = (0 : Int32))).2) ?_
        show Steps _ _ _ (T58.setTop (mkF m 149 _ [])) _
        refine XS.iload X58.here hx rfl (hb hby own_d3_149) rfl ?_
        show Steps _ _ _ (T58.setTop (mkF m 151 _ [.int 0])) _
        refine XS.aloadN X58.here hx rfl (hb hby own_d3_151) rfl rfl ?_
        show Steps _ _ _ (T58.setTop (mkF m 152 _ [.ref r0, .int 0])) _
        refine X58.arraylength hx (by rw [e58]; exact Ar59.1) (State.isArrayOf_alike hZ.alike Ar59.2.1) (g := (mkF m 152 #[rv a1, iv p1, rv r0, .val (.long (((p1.toInt64) + ((1 : Int32).toInt64)) - (1 : Int64))), .second, iv 0] [.ref r0, .int 0])) rfl rfl (hb hby own_d3_152) _ ?_
        rw [len_of aS59 aN59]
        show Steps _ _ _ (T58.setTop (mkF m 153 #[rv a1, iv p1, rv r0, .val (.long (((p1.toInt64) + ((1 : Int32).toInt64)) - (1 : Int64))), .second, iv 0] [.int 1, .int 0])) _
        refine XS.iconst X58.here hx rfl (hb hby own_d3_153) ?_
        show Steps _ _ _ (T58.setTop (mkF m 154 _ [.int 1, .int 1, .int 0])) _
        refine XS.isub X58.here hx rfl (hb hby own_d3_154) rfl ?_
        show Steps _ _ _ (T58.setTop (mkF m 155 _ [.int 0, .int 0])) _
        refine XS.icmpYes X58.here hx rfl (pc0 := 155) (pc' := 173) rfl (hb hby own_d3_155) rfl (flt ((by decide) : ¬ ((0 : Int32) < (0 : Int32)))).2.1 (by decide) (by decide) ?_
        show Steps _ _ _ (T58.setTop (mkF m 173 _ [])) _
        refine XS.iinc X58.here hx rfl (hb hby own_d3_173) rfl (l' := #[rv a1, iv p1, rv r0, .val (.long (((p1.toInt64) + ((1 : Int32).toInt64)) - (1 : Int64))), .second, iv 1]) rfl ?_
        show Steps _ _ _ (T58.setTop (mkF m 176 _ [])) _
        refine XS.goto X58.here hx rfl (pc0 := 176) (pc' := 94) rfl (hb hby own_d3_176) (by decide) (by decide) ?_
        exact kk
      exact fun tgt kk => G62 _ kk
    · have G63 : ∀ tq, Steps p.tables e below (T58.setTop (mkF m 94 #[rv a1, iv p1, rv r0, .val (.long (((p1.toInt64) + ((1 : Int32).toInt64)) - (1 : Int64))), .second, iv 1] [])) tq → Steps p.tables e below (T58.setTop (mkF m 146 #[rv a1, iv p1, rv r0, .val (.long (((p1.toInt64) + ((1 : Int32).toInt64)) - (1 : Int64))), .second, iv 0] [.int (cmpValue (FP.dcmp q0 4607182418800017408) .l)])) tq := by
        intro tq kk
        show Steps _ _ _ (T58.setTop (mkF m 146 #[rv a1, iv p1, rv r0, .val (.long (((p1.toInt64) + ((1 : Int32).toInt64)) - (1 : Int64))), .second, iv 0] [.int (cmpValue (FP.dcmp q0 4607182418800017408) .l)])) _
        refine XS.ifYes X58.here hx rfl (pc0 := 146) (pc' := 173) rfl (hb hby own_d3_146) rfl ((if0 _ _).trans (feq (hl : ¬ ((cmpValue (FP.dcmp q0 4607182418800017408) .l) = (0 : Int32)))).2) (by decide) (by decide) ?_
        show Steps _ _ _ (T58.setTop (mkF m 173 _ [])) _
        refine XS.iinc X58.here hx rfl (hb hby own_d3_173) rfl (l' := #[rv a1, iv p1, rv r0, .val (.long (((p1.toInt64) + ((1 : Int32).toInt64)) - (1 : Int64))), .second, iv 1]) rfl ?_
        show Steps _ _ _ (T58.setTop (mkF m 176 _ [])) _
        refine XS.goto X58.here hx rfl (pc0 := 176) (pc' := 94) rfl (hb hby own_d3_176) (by decide) (by decide) ?_
        exact kk
      exact fun tgt kk => G63 _ kk
  obtain ⟨T64, h64, X64, e64, W64, st64⟩ := putF X58 hx hZ hown (host := "") (Or.inl (W 14 rfl)) Via.refl e58 F1 E1 (Or.inr ⟨(W 15 rfl), rfl, hnm⟩) (W 5 rfl) (ty := .int) (by decide) rfl rfl (g := (mkF m 181 #[rv a1, iv p1, rv r0, .val (.long (((p1.toInt64) + ((1 : Int32).toInt64)) - (1 : Int64))), .second, iv 1] [.int p1, .ref a1])) rfl rfl (hb hby own_d3_181)
  have N64 := Fr.snoc X64 N0 g1
  have Fw64 := F1.same W64
  have Z65 : n0 ≤ h64.size := Nat.le_trans Z0 (Keep.of_wr W64).1
  have K66 : Keep h0 h64 [a1] := K57.wr W64 (Or.inl (List.mem_of_getElem? (i := 0) rfl))
  have f68 := (V1.other W64 hra)
  obtain ⟨cl67, Ar67, aq67, aS67, aN67, aH67, aG67⟩ := id f68
  have f69 := (ER.wr W64)
  obtain ⟨_, _, ⟨T70, L70, k70, n70⟩, -, X70, ⟨Lc70, hQ70, l70, y70, z70⟩, st70⟩ := Jvm.LawKit.callS X64 hx (y := (⟨"java/util/Arrays", "copyOf", "([DI)[D"⟩ : MethodName)) hown (mvT hZ (W 16 rfl)) (mvT hZ (W 17 rfl)) (mvT hZ (W 18 rfl)) (mvT hZ (W 19 rfl)) (by decide) (backOf (W := 1) (rm_cpy l Z a0 hw [] r0 (1 : Int32) kr [(.double q0)] h64 n0 Z65 f68 f69 (by decide)) hZ (W 19 rfl) (W 18 rfl) (by decide) (by decide)) (g := (mkF m 188 #[rv a1, iv p1, rv r0, .val (.long (((p1.toInt64) + ((1 : Int32).toInt64)) - (1 : Int64))), .second, iv 1] [.int 1, .ref r0, .ref a1])) rfl (by rw [hml]; rfl) (argsL := [.ref r0, .int 1]) (rest := [.ref a1]) (lenOf own_pd_2 rfl) rfl own_wt (hb hby own_d3_188) (fun _ _ => ⟨rfl, e64, (by decide : 0 + 1 ≤ _), (by decide : 0 + 3 ≤ _)⟩)
  dsimp only [Pt.U, Pt.locs, Pt.cells, Pt.slots] at X70 l70 y70 z70 st70 hQ70
  subst l70 y70 z70
  obtain ⟨b70, hv70, Nq70, K70, sb70, V70, ex70⟩ := hQ70
  subst hv70
  have N70 := Fr.app N64 Nq70
  have g71 : n0 ≤ b70 := Nat.le_trans Z65 sb70
  have g72 : h0.size ≤ b70 := Nat.le_trans K66.1 sb70
  have Z73 : n0 ≤ T70.heap.size := Nat.le_trans Z65 K70.1
  have K74 : Keep h0 T70.heap [a1] := K66.trans K70 all0
  have f76 := ((F2.other W64 (Or.inr (slot_ne (Or.inr (W 30 rfl)) (Or.inr (W 15 rfl)) (by decide) (t := (.array .double)) (t' := .int) (by decide) (by decide)))).keep K70 nin0)
  have f77 := ((E1.wr W64).keep K70)
  obtain ⟨T75, h75, X75, e75, W75, st75⟩ := putF X70 hx hZ hown (host := "") (Or.inl (W 29 rfl)) Via.refl rfl f76 f77 (Or.inr ⟨(W 30 rfl), rfl, hnm⟩) (W 5 rfl) (ty := (.array .double)) (by decide) rfl rfl (g := (mkF m 191 #[rv a1, iv p1, rv r0, .val (.long (((p1.toInt64) + ((1 : Int32).toInt64)) - (1 : Int64))), .second, iv 1] [.ref b70, .ref a1])) rfl rfl (hb hby own_d3_191)
  have N75 := Fr.snoc X75 N70 g1
  have Fw75 := f76.same W75
  have Z78 : n0 ≤ h75.size := Nat.le_trans Z73 (Keep.of_wr W75).1
  have K79 : Keep h0 h75 [a1] := K74.wr W75 (Or.inl (List.mem_of_getElem? (i := 0) rfl))
  have f81 := ((f68.keep K70 nin0).other W75 hra)
  obtain ⟨cl80, Ar80, aq80, aS80, aN80, aH80, aG80⟩ := id f81
  obtain ⟨T82, h82, k82, X82, e82, E82, A82, ex82, ov82, st82⟩ := newRA X75 hx hZ hown (ty := .double) (C := "[D") (by decide) (W 31 rfl) (W 32 rfl) e75 (g := (mkF m 197 #[rv a1, iv p1, rv r0, .val (.long (((p1.toInt64) + ((1 : Int32).toInt64)) - (1 : Int64))), .second, iv 1] [.int 1, .ref a1])) rfl (hb hby own_d3_197) rfl (by decide : ¬ ((1 : Int32) < (0 : Int32))) (cap := 3) (by decide) (by decide) (by decide) (by decide) (ad := "[[D") (by decide)
  obtain ⟨b82, g82⟩ : ∃ z, z = h75.size := ⟨_, rfl⟩
  rw [← g82] at A82 ex82 st82
  have g83 : n0 ≤ b82 := Nat.le_trans Z78 (Nat.le_of_eq g82.symm)
  have g84 : h0.size ≤ b82 := Nat.le_trans K79.1 (Nat.le_of_eq g82.symm)
  have Z85 : n0 ≤ h82.size := Nat.le_trans Z78 E82.1
  have K86 : Keep h0 h82 [a1] := K79.ext E82
  have V82 : Arv Z h82 b82 k82 (.array .double) (1 : Int32) [.null] .null := (Arv.new A82 (by decide)).pad (pad_rep [] .null 1)
  have f88 := ((((F3.other W64 (Or.inr (slot_ne (Or.inr (W 34 rfl)) (Or.inr (W 15 rfl)) (by decide) (t := (.array (.array .double))) (t' := .int) (by decide) (by decide)))).keep K70 nin0).other W75 (Or.inr (slot_ne (Or.inr (W 34 rfl)) (Or.inr (W 30 rfl)) (by decide) (t := (.array (.array .double))) (t' := (.array .double)) (by decide) (by decide)))).ext E82)
  have f89 := ((f77.wr W75).ext E82)
  obtain ⟨T87, h87, X87, e87, W87, st87⟩ := putF X82 hx hZ hown (host := "") (Or.inl (W 33 rfl)) Via.refl e82 f88 f89 (Or.inr ⟨(W 34 rfl), rfl, hnm⟩) (W 5 rfl) (ty := (.array (.array .double))) (by decide) rfl rfl (g := (mkF m 200 #[rv a1, iv p1, rv r0, .val (.long (((p1.toInt64) + ((1 : Int32).toInt64)) - (1 : Int64))), .second, iv 1] [.ref b82, .ref a1])) rfl rfl (hb hby own_d3_200)
  have N87 := Fr.snoc X87 N75 g1
  have Fw87 := f88.same W87
  have Z90 : n0 ≤ h87.size := Nat.le_trans Z85 (Keep.of_wr W87).1
  have K91 : Keep h0 h87 [a1] := K86.wr W87 (Or.inl (List.mem_of_getElem? (i := 0) rfl))
  have G92 : ∀ tq, Steps p.tables e below (T87.setTop (mkF m 206 #[rv a1, iv p1, rv r0, .val (.long (((p1.toInt64) + ((1 : Int32).toInt64)) - (1 : Int64))), .second, iv 0] [])) tq → Steps p.tables e below (T58.setTop (mkF m 94 #[rv a1, iv p1, rv r0, .val (.long (((p1.toInt64) + ((1 : Int32).toInt64)) - (1 : Int64))), .second, iv 1] [])) tq := by
    intro tq kk
    show Steps _ _ _ (T58.setTop (mkF m 94 #[rv a1, iv p1, rv r0, .val (.long (((p1.toInt64) + ((1 : Int32).toInt64)) - (1 : Int64))), .second, iv 1] [])) _
    refine XS.iload X58.here hx rfl (hb hby own_d3_94) rfl ?_
    show Steps _ _ _ (T58.setTop (mkF m 96 _ [.int 1])) _
    refine XS.aloadN X58.here hx rfl (hb hby own_d3_96) rfl rfl ?_
    show Steps _ _ _ (T58.setTop (mkF m 97 _ [.ref r0, .int 1])) _
    refine X58.arraylength hx (by rw [e58]; exact Ar59.1) (State.isArrayOf_alike hZ.alike Ar59.2.1) (g := (mkF m 97 #[rv a1, iv p1, rv r0, .val (.long (((p1.toInt64) + ((1 : Int32).toInt64)) - (1 : Int64))), .second, iv 1] [.ref r0, .int 1])) rfl rfl (hb hby own_d3_97) _ ?_
    rw [len_of aS59 aN59]
    show Steps _ _ _ (T58.setTop (mkF m 98 #[rv a1, iv p1, rv r0, .val (.long (((p1.toInt64) + ((1 : Int32).toInt64)) - (1 : Int64))), .second, iv 1] [.int 1, .int 1])) _
    refine XS.icmpYes X58.here hx rfl (pc0 := 98) (pc' := 179) rfl (hb hby own_d3_98) rfl (flt ((by decide) : ¬ ((1 : Int32) < (1 : Int32)))).2.1 (by decide) (by decide) ?_
    show Steps _ _ _ (T58.setTop (mkF m 179 _ [])) _
    refine XS.aloadN X58.here hx rfl (hb hby own_d3_179) rfl rfl ?_
    show Steps _ _ _ (T58.setTop (mkF m 180 _ [.ref a1])) _
    refine XS.iloadN X58.here hx rfl (hb hby own_d3_180) rfl ?_
    show Steps _ _ _ (T58.setTop (mkF m 181 _ [.int p1, .ref a1])) _
    refine st64 _ ?_
    show Steps _ _ _ (T64.setTop (mkF m 184 #[rv a1, iv p1, rv r0, .val (.long (((p1.toInt64) + ((1 : Int32).toInt64)) - (1 : Int64))), .second, iv 1] [])) _
    refine XS.aloadN X64.here hx rfl (hb hby own_d3_184) rfl rfl ?_
    show Steps _ _ _ (T64.setTop (mkF m 185 _ [.ref a1])) _
    refine XS.aloadN X64.here hx rfl (hb hby own_d3_185) rfl rfl ?_
    show Steps _ _ _ (T64.setTop (mkF m 186 _ [.ref r0, .ref a1])) _
    refine XS.aloadN X64.here hx rfl (hb hby own_d3_186) rfl rfl ?_
    show Steps _ _ _ (T64.setTop (mkF m 187 _ [.ref r0, .ref r0, .ref a1])) _
    refine X64.arraylength hx (by rw [e64]; exact Ar67.1) (State.isArrayOf_alike hZ.alike Ar67.2.1) (g := (mkF m 187 #[rv a1, iv p1, rv r0, .val (.long (((p1.toInt64) + ((1 : Int32).toInt64)) - (1 : Int64))), .second, iv 1] [.ref r0, .ref r0, .ref a1])) rfl rfl (hb hby own_d3_187) _ ?_
    rw [len_of aS67 aN67]
    show Steps _ _ _ (T64.setTop (mkF m 188 #[rv a1, iv p1, rv r0, .val (.long (((p1.toInt64) + ((1 : Int32).toInt64)) - (1 : Int64))), .second, iv 1] [.int 1, .ref r0, .ref a1])) _
    refine st70 _ ?_
    show Steps _ _ _ (T70.setTop (mkF m 191 #[rv a1, iv p1, rv r0, .val (.long (((p1.toInt64) + ((1 : Int32).toInt64)) - (1 : Int64))), .second, iv 1] [.ref b70, .ref a1])) _
    refine st75 _ ?_
    show Steps _ _ _ (T75.setTop (mkF m 194 #[rv a1, iv p1, rv r0, .val (.long (((p1.toInt64) + ((1 : Int32).toInt64)) - (1 : Int64))), .second, iv 1] [])) _
    refine XS.aloadN X75.here hx rfl (hb hby own_d3_194) rfl rfl ?_
    show Steps _ _ _ (T75.setTop (mkF m 195 _ [.ref a1])) _
    refine XS.aloadN X75.here hx rfl (hb hby own_d3_195) rfl rfl ?_
    show Steps _ _ _ (T75.setTop (mkF m 196 _ [.ref r0, .ref a1])) _
    refine X75.arraylength hx (by rw [e75]; exact Ar80.1) (State.isArrayOf_alike hZ.alike Ar80.2.1) (g := (mkF m 196 #[rv a1, iv p1, rv r0, .val (.long (((p1.toInt64) + ((1 : Int32).toInt64)) - (1 : Int64))), .second, iv 1] [.ref r0, .ref a1])) rfl rfl (hb hby own_d3_196) _ ?_
    rw [len_of aS80 aN80]
    show Steps _ _ _ (T75.setTop (mkF m 197 #[rv a1, iv p1, rv r0, .val (.long (((p1.toInt64) + ((1 : Int32).toInt64)) - (1 : Int64))), .second, iv 1] [.int 1, .ref a1])) _
    refine st82 _ ?_
    show Steps _ _ _ (T82.setTop (mkF m 200 #[rv a1, iv p1, rv r0, .val (.long (((p1.toInt64) + ((1 : Int32).toInt64)) - (1 : Int64))), .second, iv 1] [.ref b82, .ref a1])) _
    refine st87 _ ?_
    show Steps _ _ _ (T87.setTop (mkF m 203 #[rv a1, iv p1, rv r0, .val (.long (((p1.toInt64) + ((1 : Int32).toInt64)) - (1 : Int64))), .second, iv 1] [])) _
    refine XS.iconst X87.here hx rfl (hb hby own_d3_203) ?_
    show Steps _ _ _ (T87.setTop (mkF m 204 _ [.int 0])) _
    refine XS.istore X87.here hx rfl (hb hby own_d3_204) rfl (l' := #[rv a1, iv p1, rv r0, .val (.long (((p1.toInt64) + ((1 : Int32).toInt64)) - (1 : Int64))), .second, iv 0]) rfl ?_
    exact kk
  have hq : ∀ j, j < 1 → ∃ q, ([(.double q0)] : List Value).getD j (.double 0) = .double q ∧ Mag64 1024 q := by
    intro j hj
    rcases (show j = 0 by omega) with rfl
    · exact ⟨q0, rfl, ok0.2.2.2⟩
  have f94 := ((f81.ext E82).other W87 hra)
  obtain ⟨cl93, Ar93, aq93, aS93, aN93, aH93, aG93⟩ := id f94
  obtain ⟨T95, X95, e95, st95⟩ := getF X87 hx hZ hown (host := "") (Or.inl (W 33 rfl)) Via.refl e87 Fw87 (g := (mkF m 214 #[rv a1, iv p1, rv r0, .val (.long (((p1.toInt64) + ((1 : Int32).toInt64)) - (1 : Int64))), .second, iv 0] [.ref a1])) rfl rfl (hb hby own_d3_214)
  have f96 := ((((Fw64.keep K70 nin0).other W75 (Or.inr (slot_ne (Or.inr (W 15 rfl)) (Or.inr (W 30 rfl)) (by decide) (t := .int) (t' := (.array .double)) (by decide) (by decide)))).ext E82).other W87 (Or.inr (slot_ne (Or.inr (W 15 rfl)) (Or.inr (W 34 rfl)) (by decide) (t := .int) (t' := (.array (.array .double))) (by decide) (by decide))))
  have f97 := ((Fw75.ext E82).other W87 (Or.inr (slot_ne (Or.inr (W 30 rfl)) (Or.inr (W 34 rfl)) (by decide) (t := (.array .double)) (t' := (.array (.array .double))) (by decide) (by decide))))
  have f98 := (Nat.lt_of_lt_of_le E1.lt (Keep.of_wr W64).1)
  have f99 := (((V70.other W75 (Ne.symm (Nat.ne_of_lt (Nat.lt_of_lt_of_le f98 sb70)))).ext E82).other W87 (Ne.symm (Nat.ne_of_lt (Nat.lt_of_lt_of_le f98 sb70))))
  have f101 := (f89.wr W87)
  obtain ⟨cq100, q100, q100'⟩ := f101.cell
  obtain ⟨_, _, ⟨T100, L100, k100, n100⟩, -, X100, ⟨Lc100, hQ100, l100, y100, z100⟩, st100⟩ := X95.privateBack hx (y := (⟨"com/example/pensionwright/pensionwright/actuarial/MortalityTable", "aliveByMonth", "(I)[D"⟩ : MethodName)) hown (mvT hZ (W 35 rfl)) (mvT hZ (W 36 rfl)) (mvT hZ (own_selP (W 5 rfl) (W 36 rfl) (W 37 rfl) (by decide))) (Cond.privateMethod_at (mvP hZ (W 37 rfl) (args := #[]))) (mvT hZ (W 38 rfl)) (by decide) (backOf (W := 2) (rm_alv l Z a0 hw [] a1 b70 (p1 + (0 : Int32)) p1 kr [(.double q0)] 1 0 h87 n0 Z90 f96 f97 f99 (own_back _ _) (by decide) (by decide) hq) hZ (W 38 rfl) (W 6 rfl) (by decide) (by decide)) (g := (mkF m 224 #[rv a1, iv p1, rv r0, .val (.long (((p1.toInt64) + ((1 : Int32).toInt64)) - (1 : Int64))), .second, iv 0] [.int (p1 + (0 : Int32)), .ref a1, .int 0, .ref b82])) rfl (by rw [hml]; rfl) (Steps.refl _) (a := a1) (by rw [e95]; exact q100) q100' (argsL := [.int (p1 + (0 : Int32))]) (rest := [.int 0, .ref b82]) (lenOf own_pd_4 rfl) rfl own_wt (hb hby own_d3_224) (fun _ _ => ⟨rfl, e95, (by decide : 2 + 1 ≤ _), (by decide : 6 + 36 ≤ _)⟩)
  dsimp only [Pt.U, Pt.locs, Pt.cells, Pt.slots] at X100 l100 y100 z100 st100 hQ100
  subst l100 y100 z100
  obtain ⟨b100, hv100, Nq100, K100, sb100, ex100⟩ := hQ100
  subst hv100
  have N100 := Fr.app N87 Nq100
  have g102 : n0 ≤ b100 := Nat.le_trans Z90 sb100
  have g103 : h0.size ≤ b100 := Nat.le_trans K91.1 sb100
  have Z104 : n0 ≤ T100.heap.size := Nat.le_trans Z90 K100.1
  have K105 : Keep h0 T100.heap [a1] := K91.trans K100 all0
  have f107 := (Nat.lt_of_lt_of_le (Nat.lt_of_lt_of_le f98 K70.1) (Keep.of_wr W75).1)
  have f108 := ((V82.other W87 (Ne.symm (Nat.ne_of_lt (Nat.lt_of_lt_of_le f107 (Nat.le_of_eq g82.symm))))).keep K100 nin0)
  obtain ⟨cl106, Ar106, aq106, aS106, aN106, aH106, aG106⟩ := id f108
  obtain ⟨T109, h109, X109, e109, W109, st109⟩ := stR X100 hx hZ rfl Ar106 (j := (0 : Int32)) (inb_of aS106 ⟨(by decide), (by decide)⟩) rfl (Sto.ofVA Ar106 aq106 ov82 (Ins.self ex100)) (g := (mkF m 227 #[rv a1, iv p1, rv r0, .val (.long (((p1.toInt64) + ((1 : Int32).toInt64)) - (1 : Int64))), .second, iv 0] [.ref b100, .int 0, .ref b82])) rfl rfl (hb hby own_d3_227)
  have N109 := Fr.snoc X109 N100 g83
  have V109 : Arv Z h109 b82 k82 (.array .double) (1 : Int32) [(.ref b100)] .null := Arv.set Ar106 aq106 aS106 aN106 aH106 aG106 rfl W109 0 rfl (Nat.le_of_ble_eq_true rfl)
  have Z110 : n0 ≤ h109.size := Nat.le_trans Z104 (Keep.of_wr W109).1
  have K111 : Keep h0 h109 [a1] := K105.wr W109 (Or.inr g84)
  have G112 : ∀ tq, Steps p.tables e below (T109.setTop (mkF m 206 #[rv a1, iv p1, rv r0, .val (.long (((p1.toInt64) + ((1 : Int32).toInt64)) - (1 : Int64))), .second, iv 1] [])) tq → Steps p.tables e below (T87.setTop (mkF m 206 #[rv a1, iv p1, rv r0, .val (.long (((p1.toInt64) + ((1 : Int32).toInt64)) - (1 : Int64))), .second, iv 0] [])) tq := by
    intro tq kk
    show Steps _ _ _ (T87.setTop (mkF m 206 #[rv a1, iv p1, rv r0, .val (.long (((p1.toInt64) + ((1 : Int32).toInt64)) - (1 : Int64))), .second, iv 0] [])) _
    refine XS.iload X87.here hx rfl (hb hby own_d3_206) rfl ?_
    show Steps _ _ _ (T87.setTop (mkF m 208 _ [.int 0])) _
    refine XS.aloadN X87.here hx rfl (hb hby own_d3_208) rfl rfl ?_
    show Steps _ _ _ (T87.setTop (mkF m 209 _ [.ref r0, .int 0])) _
    refine X87.arraylength hx (by rw [e87]; exact Ar93.1) (State.isArrayOf_alike hZ.alike Ar93.2.1) (g := (mkF m 209 #[rv a1, iv p1, rv r0, .val (.long (((p1.toInt64) + ((1 : Int32).toInt64)) - (1 : Int64))), .second, iv 0] [.ref r0, .int 0])) rfl rfl (hb hby own_d3_209) _ ?_
    rw [len_of aS93 aN93]
    show Steps _ _ _ (T87.setTop (mkF m 210 #[rv a1, iv p1, rv r0, .val (.long (((p1.toInt64) + ((1 : Int32).toInt64)) - (1 : Int64))), .second, iv 0] [.int 1, .int 0])) _
    refine XS.icmpNo X87.here hx rfl (hb hby own_d3_210) rfl (tlt ((by decide) : (0 : Int32) < (1 : Int32))).2.1 ?_
    show Steps _ _ _ (T87.setTop (mkF m 213 _ [])) _
    refine XS.aloadN X87.here hx rfl (hb hby own_d3_213) rfl rfl ?_
    show Steps _ _ _ (T87.setTop (mkF m 214 _ [.ref a1])) _
    refine st95 _ ?_
    show Steps _ _ _ (T95.setTop (mkF m 217 #[rv a1, iv p1, rv r0, .val (.long (((p1.toInt64) + ((1 : Int32).toInt64)) - (1 : Int64))), .second, iv 0] [.ref b82])) _
    refine XS.iload X95.here hx rfl (hb hby own_d3_217) rfl ?_
    show Steps _ _ _ (T95.setTop (mkF m 219 _ [.int 0, .ref b82])) _
    refine XS.aloadN X95.here hx rfl (hb hby own_d3_219) rfl rfl ?_
    show Steps _ _ _ (T95.setTop (mkF m 220 _ [.ref a1, .int 0, .ref b82])) _
    refine XS.iloadN X95.here hx rfl (hb hby own_d3_220) rfl ?_
    show Steps _ _ _ (T95.setTop (mkF m 221 _ [.int p1, .ref a1, .int 0, .ref b82])) _
    refine XS.iload X95.here hx rfl (hb hby own_d3_221) rfl ?_
    show Steps _ _ _ (T95.setTop (mkF m 223 _ [.int 0, .int p1, .ref a1, .int 0, .ref b82])) _
    refine XS.iadd X95.here hx rfl (hb hby own_d3_223) rfl ?_
    show Steps _ _ _ (T95.setTop (mkF m 224 _ [.int (p1 + (0 : Int32)), .ref a1, .int 0, .ref b82])) _
    refine st100.trans ?_
    show Steps _ _ _ (T100.setTop (mkF m 227 #[rv a1, iv p1, rv r0, .val (.long (((p1.toInt64) + ((1 : Int32).toInt64)) - (1 : Int64))), .second, iv 0] [.ref b100, .int 0, .ref b82])) _
    refine st109 _ ?_
    show Steps _ _ _ (T109.setTop (mkF m 228 #[rv a1, iv p1, rv r0, .val (.long (((p1.toInt64) + ((1 : Int32).toInt64)) - (1 : Int64))), .second, iv 0] [])) _
    refine XS.iinc X109.here hx rfl (hb hby own_d3_228) rfl (l' := #[rv a1, iv p1, rv r0, .val (.long (((p1.toInt64) + ((1 : Int32).toInt64)) - (1 : Int64))), .second, iv 1]) rfl ?_
    show Steps _ _ _ (T109.setTop (mkF m 231 _ [])) _
    refine XS.goto X109.here hx rfl (pc0 := 231) (pc' := 206) rfl (hb hby own_d3_231) (by decide) (by decide) ?_
    exact kk
  have f114 := (Nat.lt_of_lt_of_le (Nat.lt_of_lt_of_le (Nat.lt_of_lt_of_le ER.lt (Keep.of_wr W64).1) K70.1) (Keep.of_wr W75).1)
  have f115 := ((f94.keep K100 nin0).other W109 (Nat.ne_of_lt (Nat.lt_of_lt_of_le f114 (Nat.le_of_eq g82.symm))))
  obtain ⟨cl113, Ar113, aq113, aS113, aN113, aH113, aG113⟩ := id f115
  have f116 := ((f101.keep K100).wr W109)
  have f117 := ((f96.keep K100 nin0).other W109 (Or.inl (Nat.ne_of_lt (Nat.lt_of_lt_of_le f107 (Nat.le_of_eq g82.symm)))))
  have f118 := ((f97.keep K100 nin0).other W109 (Or.inl (Nat.ne_of_lt (Nat.lt_of_lt_of_le f107 (Nat.le_of_eq g82.symm)))))
  have f119 := (Nat.lt_of_lt_of_le V70.lt (Keep.of_wr W75).1)
  have f120 := ((f99.keep K100 nin0).other W109 (Nat.ne_of_lt (Nat.lt_of_lt_of_le f119 (Nat.le_of_eq g82.symm))))
  obtain ⟨fs, hr, hrun, hended, hW, hsame⟩ := X109.leave (v := none) (fun _ => rfl)
  refine ⟨_, _, pre0 _ (G60 _ (G61 _ (GL _ (G92 _ (G112 _ (?_)))))), hrun, hended, _, _, rfl, ?_, ⟨_, rfl⟩, hW, hsame.mono (by decide) (by decide)⟩
  · show Steps _ _ _ (T109.setTop (mkF m 206 #[rv a1, iv p1, rv r0, .val (.long (((p1.toInt64) + ((1 : Int32).toInt64)) - (1 : Int64))), .second, iv 1] [])) _
    refine XS.iload X109.here hx rfl (hb hby own_d3_206) rfl ?_
    show Steps _ _ _ (T109.setTop (mkF m 208 _ [.int 1])) _
    refine XS.aloadN X109.here hx rfl (hb hby own_d3_208) rfl rfl ?_
    show Steps _ _ _ (T109.setTop (mkF m 209 _ [.ref r0, .int 1])) _
    refine X109.arraylength hx (by rw [e109]; exact Ar113.1) (State.isArrayOf_alike hZ.alike Ar113.2.1) (g := (mkF m 209 #[rv a1, iv p1, rv r0, .val (.long (((p1.toInt64) + ((1 : Int32).toInt64)) - (1 : Int64))), .second, iv 1] [.ref r0, .int 1])) rfl rfl (hb hby own_d3_209) _ ?_
    rw [len_of aS113 aN113]
    show Steps _ _ _ (T109.setTop (mkF m 210 #[rv a1, iv p1, rv r0, .val (.long (((p1.toInt64) + ((1 : Int32).toInt64)) - (1 : Int64))), .second, iv 1] [.int 1, .int 1])) _
    refine XS.icmpYes X109.here hx rfl (pc0 := 210) (pc' := 234) rfl (hb hby own_d3_210) rfl (flt ((by decide) : ¬ ((1 : Int32) < (1 : Int32)))).2.1 (by decide) (by decide) ?_
    show Steps _ _ _ (T109.setTop (mkF m 234 _ [])) _
    exact X109.returnOut hx Bd.returns (hb hby own_d3_234) hr
  · show Q_mi1 Z a1 r0 p1 kr q0 h0 n0 _ T109.heap _
    rw [e109]
    exact ⟨rfl, N109, K111, f116, f117, b70, f118, f120⟩
theorem own_ef_la2 (m : MethodId) (x0 : Addr) : entryFrame m #[(.ref x0)] 1 = mkF m 0 #[rv x0] [] := by first | (simp [entryFrame, mkF, argsToLocals, Value.category]; done) | rfl
def Q_la2 (Z : State) (a1 r1 : Addr) (f1 : Int32) (kr : ClassId) (vs : List Value) (h0 : Heap) (n0 : Nat) (v : Option Value) (h : Heap) (L : List Loc) : Prop := v = some (.int ((f1 + (2 : Int32)) - (1 : Int32))) ∧ Fr n0 L ∧ h = h0
set_option maxRecDepth 65536 in
set_option maxHeartbeats 40000000 in
theorem rm_la2 (l : Launch) (Z : State) (a0 : Array Value) (hw : ∀ d ∈ tables_1, d.before a0 Z = true) (ws : List Jvm.Cond) (a1 r1 : Addr) (f1 : Int32) (kr : ClassId) (vs : List Value) (h0 : Heap) (n0 : Nat) (Z0 : n0 ≤ h0.size) (F1 : Fld Z h0 a1 "com/example/pensionwright/pensionwright/actuarial/MortalityTable" "firstAge" "I" (.int f1)) (F2 : Fld Z h0 a1 "com/example/pensionwright/pensionwright/actuarial/MortalityTable" "rates" "[D" (.ref r1)) (V1 : Arv Z h0 r1 kr .double (2 : Int32) vs (.double 0)) :
    MetFree l (⟨"com/example/pensionwright/pensionwright/actuarial/MortalityTable", "lastAge", "()I"⟩ : MethodName) (head1 (Jvm.Cond.code (⟨"com/example/pensionwright/pensionwright/actuarial/MortalityTable", "lastAge", "()I"⟩ : MethodName) prog_3_method_3_code 1 (some .int) :: ws) ({ frames := 0, cells := 0, slots := 0, locals := 0 } : Room)) (fun a U => a = #[(.ref a1)] ∧ Z.Warmed39 U.vm ∧ U.heap = h0) (fun _ _ _ _ _ => True) (fun _ U o U' => ∃ v L, o = .returned v ∧ Q_la2 Z a1 r1 f1 kr vs h0 n0 v U'.heap L ∧ FrameEnd U o U' L ({ frames := 0, cells := 0, slots := 0, locals := 0 } : Room).cells ({ frames := 0, cells := 0, slots := 0, locals := 0 } : Room).slots) := by
  refine MetFree.of_bodySF (plainFor_of_name own_pn_0) hisR ?_
  intro p e s m args below meth c s₁ Bd hml0 hP hK
  obtain ⟨rfl, hZ, hh⟩ := hP
  have hx := Bd.exec
  have hby := Bd.bytes
  have hml : c.maxLocals = 1 := hml0
  have hown : s.vm.findClass "com/example/pensionwright/pensionwright/actuarial/MortalityTable" = some m.cls := findClass_of_methodNamed Bd.named
  have hnm := (name_of_methodNamed Bd.named Bd.method).1
  have W := own_W hw
  have X0 : Stand p l e ({ frames := 0, cells := 0, slots := 0, locals := 0 } : Room) s m #[(.ref a1)] below meth c s₁ [] 0 0 := Stand.of_body Bd
  have e0 : s₁.heap = h0 := by rw [← hh, Bd.state]; rfl
  have N0 := Fr.nil n0
  have pre0 : ∀ tq, Steps p.tables e below (s₁.setTop (mkF m 0 #[rv a1] [])) tq → Steps p.tables e below (s₁.setTop (entryFrame m #[(.ref a1)] 1)) tq := fun tq k => castTop (own_ef_la2 m a1) k
  obtain ⟨T121, X121, e121, st121⟩ := getF X0 hx hZ hown (host := "") (Or.inl (W 14 rfl)) Via.refl e0 F1 (g := (mkF m 1 #[rv a1] [.ref a1])) rfl rfl (hb hby own_d4_1)
  obtain ⟨T122, X122, e122, st122⟩ := getF X121 hx hZ hown (host := "") (Or.inl (W 29 rfl)) Via.refl e121 F2 (g := (mkF m 5 #[rv a1] [.ref a1, .int f1])) rfl rfl (hb hby own_d4_5)
  obtain ⟨cl123, Ar123, aq123, aS123, aN123, aH123, aG123⟩ := id V1
  obtain ⟨fs, hr, hrun, hended, hW, hsame⟩ := X122.leave (v := some (.int ((f1 + (2 : Int32)) - (1 : Int32)))) (fun h => by rw [Bd.returns] at h; cases h)
  refine ⟨_, _, pre0 _ (?_), hrun, hended, _, _, rfl, ?_, ⟨_, rfl⟩, hW, hsame.mono (by decide) (by decide)⟩
  · show Steps _ _ _ (s₁.setTop (mkF m 0 #[rv a1] [])) _
    refine XS.aloadN X0.here hx rfl (hb hby own_d4_0) rfl rfl ?_
    show Steps _ _ _ (s₁.setTop (mkF m 1 _ [.ref a1])) _
    refine st121 _ ?_
    show Steps _ _ _ (T121.setTop (mkF m 4 #[rv a1] [.int f1])) _
    refine XS.aloadN X121.here hx rfl (hb hby own_d4_4) rfl rfl ?_
    show Steps _ _ _ (T121.setTop (mkF m 5 _ [.ref a1, .int f1])) _
    refine st122 _ ?_
    show Steps _ _ _ (T122.setTop (mkF m 8 #[rv a1] [.ref r1, .int f1])) _
    refine X122.arraylength hx (by rw [e122]; exact Ar123.1) (State.isArrayOf_alike hZ.alike Ar123.2.1) (g := (mkF m 8 #[rv a1] [.ref r1, .int f1])) rfl rfl (hb hby own_d4_8) _ ?_
    rw [len_of aS123 aN123]
    show Steps _ _ _ (T122.setTop (mkF m 9 #[rv a1] [.int 2, .int f1])) _
    refine XS.iadd X122.here hx rfl (hb hby own_d4_9) rfl ?_
    show Steps _ _ _ (T122.setTop (mkF m 10 _ [.int (f1 + (2 : Int32))])) _
    refine XS.iconst X122.here hx rfl (hb hby own_d4_10) ?_
    show Steps _ _ _ (T122.setTop (mkF m 11 _ [.int 1, .int (f1 + (2 : Int32))])) _
    refine XS.isub X122.here hx rfl (hb hby own_d4_11) rfl ?_
    show Steps _ _ _ (T122.setTop (mkF m 12 _ [.int ((f1 + (2 : Int32)) - (1 : Int32))])) _
    exact retI X122 hx Bd.returns (hb hby own_d4_12) hr
  · show Q_la2 Z a1 r1 f1 kr vs h0 n0 _ T122.heap _
    rw [e122]
    exact ⟨rfl, N0, rfl⟩
theorem own_ef_qx2 (m : MethodId) (x0 : Addr) (x1 : Int32) : entryFrame m #[(.ref x0), (.int x1)] 2 = mkF m 0 #[rv x0, iv x1] [] := by first | (simp [entryFrame, mkF, argsToLocals, Value.category]; done) | rfl
def Q_qx2 (Z : State) (a1 r1 : Addr) (f1 : Int32) (kr : ClassId) (q0 q1 : UInt64) (h0 : Heap) (n0 : Nat) (v : Option Value) (h : Heap) (L : List Loc) : Prop := v = some (.double q1) ∧ Fr n0 L ∧ h = h0
set_option maxRecDepth 65536 in
set_option maxHeartbeats 40000000 in
theorem rm_qx2 (l : Launch) (Z : State) (a0 : Array Value) (hw : ∀ d ∈ tables_1, d.before a0 Z = true) (ws : List Jvm.Cond) (a1 r1 : Addr) (f1 : Int32) (kr : ClassId) (q0 q1 : UInt64) (h0 : Heap) (n0 : Nat) (Z0 : n0 ≤ h0.size) (E1 : Exa Z h0 a1 "com/example/pensionwright/pensionwright/actuarial/MortalityTable") (F1 : Fld Z h0 a1 "com/example/pensionwright/pensionwright/actuarial/MortalityTable" "firstAge" "I" (.int f1)) (F2 : Fld Z h0 a1 "com/example/pensionwright/pensionwright/actuarial/MortalityTable" "rates" "[D" (.ref r1)) (V1 : Arv Z h0 r1 kr .double (2 : Int32) [(.double q0), (.double q1)] (.double 0)) (hlt : ¬ ((f1 + (2 : Int32)) - (1 : Int32)) < f1) (hdf : ((f1 + (2 : Int32)) - (1 : Int32)) - f1 = (1 : Int32)) :
    MetFree l (⟨"com/example/pensionwright/pensionwright/actuarial/MortalityTable", "qx", "(I)D"⟩ : MethodName) (head1 (Jvm.Cond.code (⟨"com/example/pensionwright/pensionwright/actuarial/MortalityTable", "qx", "(I)D"⟩ : MethodName) prog_3_method_4_code 2 (some .double) :: ws) ({ frames := 1, cells := 0, slots := 0, locals := 16 } : Room)) (fun a U => a = #[(.ref a1), (.int ((f1 + (2 : Int32)) - (1 : Int32)))] ∧ Z.Warmed39 U.vm ∧ U.heap = h0) (fun _ _ _ _ _ => True) (fun _ U o U' => ∃ v L, o = .returned v ∧ Q_qx2 Z a1 r1 f1 kr q0 q1 h0 n0 v U'.heap L ∧ FrameEnd U o U' L ({ frames := 1, cells := 0, slots := 0, locals := 16 } : Room).cells ({ frames := 1, cells := 0, slots := 0, locals := 16 } : Room).slots) := by
  refine MetFree.of_bodySF (plainFor_of_name own_pn_0) hisR ?_
  intro p e s m args below meth c s₁ Bd hml0 hP hK
  obtain ⟨rfl, hZ, hh⟩ := hP
  have hx := Bd.exec
  have hby := Bd.bytes
  have hml : c.maxLocals = 2 := hml0
  have hown : s.vm.findClass "com/example/pensionwright/pensionwright/actuarial/MortalityTable" = some m.cls := findClass_of_methodNamed Bd.named
  have hnm := (name_of_methodNamed Bd.named Bd.method).1
  have W := own_W hw
  have X0 : Stand p l e ({ frames := 1, cells := 0, slots := 0, locals := 16 } : Room) s m #[(.ref a1), (.int ((f1 + (2 : Int32)) - (1 : Int32)))] below meth c s₁ [] 0 0 := Stand.of_body Bd
  have e0 : s₁.heap = h0 := by rw [← hh, Bd.state]; rfl
  have N0 := Fr.nil n0
  have pre0 : ∀ tq, Steps p.tables e below (s₁.setTop (mkF m 0 #[rv a1, iv ((f1 + (2 : Int32)) - (1 : Int32))] [])) tq → Steps p.tables e below (s₁.setTop (entryFrame m #[(.ref a1), (.int ((f1 + (2 : Int32)) - (1 : Int32)))] 2)) tq := fun tq k => castTop (own_ef_qx2 m a1 ((f1 + (2 : Int32)) - (1 : Int32))) k
  obtain ⟨T124, X124, e124, st124⟩ := getF X0 hx hZ hown (host := "") (Or.inl (W 14 rfl)) Via.refl e0 F1 (g := (mkF m 2 #[rv a1, iv ((f1 + (2 : Int32)) - (1 : Int32))] [.ref a1, .int ((f1 + (2 : Int32)) - (1 : Int32))])) rfl rfl (hb hby own_d5_2)
  obtain ⟨cq125, kq125, q125a, q125b, q125c⟩ := isOf hZ e124 E1
  obtain ⟨_, _, ⟨T125, L125, k125, n125⟩, -, X125, ⟨Lc125, hQ125, l125, y125, z125⟩, st125⟩ := X124.virtualBack hx (y := (⟨"com/example/pensionwright/pensionwright/actuarial/MortalityTable", "lastAge", "()I"⟩ : MethodName)) (z := (⟨"com/example/pensionwright/pensionwright/actuarial/MortalityTable", "lastAge", "()I"⟩ : MethodName)) hown (mvT hZ (W 50 rfl)) (mvT hZ (W 41 rfl)) (notFace_of_selects (args := #[]) (mvT hZ (W 43 rfl))) (mvT hZ (W 43 rfl)) (mvT hZ (W 42 rfl)) (by decide) (backOf (W := 1) (rm_la2 l Z a0 hw [] a1 r1 f1 kr [(.double q0), (.double q1)] h0 n0 Z0 F1 F2 V1) hZ (W 44 rfl) (W 6 rfl) (by decide) (by decide)) q125a q125c (g := (mkF m 10 #[rv a1, iv ((f1 + (2 : Int32)) - (1 : Int32))] [.ref a1, .int ((f1 + (2 : Int32)) - (1 : Int32))])) rfl (by rw [hml]; rfl) (Steps.refl _) (argsL := []) (rest := [.int ((f1 + (2 : Int32)) - (1 : Int32))]) (lenOf own_pd_5 rfl) rfl own_wt (hb hby own_d5_10) (fun _ _ => ⟨rfl, e124, (by decide : 0 + 0 ≤ _), (by decide : 0 + 0 ≤ _)⟩)
  dsimp only [Pt.U, Pt.locs, Pt.cells, Pt.slots] at X125 l125 y125 z125 st125 hQ125
  subst l125 y125 z125
  obtain ⟨rfl, Nq125, e125⟩ := hQ125
  have N125 := Fr.app N0 Nq125
  obtain ⟨T126, X126, e126, st126⟩ := getF X125 hx hZ hown (host := "") (Or.inl (W 29 rfl)) Via.refl e125 F2 (g := (mkF m 39 #[rv a1, iv ((f1 + (2 : Int32)) - (1 : Int32))] [.ref a1])) rfl rfl (hb hby own_d5_39)
  obtain ⟨T127, X127, e127, st127⟩ := getF X126 hx hZ hown (host := "") (Or.inl (W 14 rfl)) Via.refl e126 F1 (g := (mkF m 44 #[rv a1, iv ((f1 + (2 : Int32)) - (1 : Int32))] [.ref a1, .int ((f1 + (2 : Int32)) - (1 : Int32)), .ref r1])) rfl rfl (hb hby own_d5_44)
  obtain ⟨cl128, Ar128, aq128, aS128, aN128, aH128, aG128⟩ := id V1
  obtain ⟨fs, hr, hrun, hended, hW, hsame⟩ := X127.leave (v := some (.double q1)) (fun h => by rw [Bd.returns] at h; cases h)
  refine ⟨_, _, pre0 _ (?_), hrun, hended, _, _, rfl, ?_, ⟨_, rfl⟩, hW, hsame.mono (by decide) (by decide)⟩
  · show Steps _ _ _ (s₁.setTop (mkF m 0 #[rv a1, iv ((f1 + (2 : Int32)) - (1 : Int32))] [])) _
    refine XS.iloadN X0.here hx rfl (hb hby own_d5_0) rfl ?_
    show Steps _ _ _ (s₁.setTop (mkF m 1 _ [.int ((f1 + (2 : Int32)) - (1 : Int32))])) _
    refine XS.aloadN X0.here hx rfl (hb hby own_d5_1) rfl rfl ?_
    show Steps _ _ _ (s₁.setTop (mkF m 2 _ [.ref a1, .int ((f1 + (2 : Int32)) - (1 : Int32))])) _
    refine st124 _ ?_
    show Steps _ _ _ (T124.setTop (mkF m 5 #[rv a1, iv ((f1 + (2 : Int32)) - (1 : Int32))] [.int f1, .int ((f1 + (2 : Int32)) - (1 : Int32))])) _
    refine XS.icmpNo X124.here hx rfl (hb hby own_d5_5) rfl (flt (hlt : ¬ (((f1 + (2 : Int32)) - (1 : Int32)) < f1))).1 ?_
    show Steps _ _ _ (T124.setTop (mkF m 8 _ [])) _
    refine XS.iloadN X124.here hx rfl (hb hby own_d5_8) rfl ?_
    show Steps _ _ _ (T124.setTop (mkF m 9 _ [.int ((f1 + (2 : Int32)) - (1 : Int32))])) _
    refine XS.aloadN X124.here hx rfl (hb hby own_d5_9) rfl rfl ?_
    show Steps _ _ _ (T124.setTop (mkF m 10 _ [.ref a1, .int ((f1 + (2 : Int32)) - (1 : Int32))])) _
    refine st125.trans ?_
    show Steps _ _ _ (T125.setTop (mkF m 13 #[rv a1, iv ((f1 + (2 : Int32)) - (1 : Int32))] [.int ((f1 + (2 : Int32)) - (1 : Int32)), .int ((f1 + (2 : Int32)) - (1 : Int32))])) _
    refine XS.icmpYes X125.here hx rfl (pc0 := 13) (pc' := 38) rfl (hb hby own_d5_13) rfl (flt (Int32.lt_irrefl : ¬ (((f1 + (2 : Int32)) - (1 : Int32)) < ((f1 + (2 : Int32)) - (1 : Int32))))).2.2.2 (by decide) (by decide) ?_
    show Steps _ _ _ (T125.setTop (mkF m 38 _ [])) _
    refine XS.aloadN X125.here hx rfl (hb hby own_d5_38) rfl rfl ?_
    show Steps _ _ _ (T125.setTop (mkF m 39 _ [.ref a1])) _
    refine st126 _ ?_
    show Steps _ _ _ (T126.setTop (mkF m 42 #[rv a1, iv ((f1 + (2 : Int32)) - (1 : Int32))] [.ref r1])) _
    refine XS.iloadN X126.here hx rfl (hb hby own_d5_42) rfl ?_
    show Steps _ _ _ (T126.setTop (mkF m 43 _ [.int ((f1 + (2 : Int32)) - (1 : Int32)), .ref r1])) _
    refine XS.aloadN X126.here hx rfl (hb hby own_d5_43) rfl rfl ?_
    show Steps _ _ _ (T126.setTop (mkF m 44 _ [.ref a1, .int ((f1 + (2 : Int32)) - (1 : Int32)), .ref r1])) _
    refine st127 _ ?_
    show Steps _ _ _ (T127.setTop (mkF m 47 #[rv a1, iv ((f1 + (2 : Int32)) - (1 : Int32))] [.int f1, .int ((f1 + (2 : Int32)) - (1 : Int32)), .ref r1])) _
    refine XS.isub X127.here hx rfl (hb hby own_d5_47) rfl ?_
    rw [hdf]
    show Steps _ _ _ (T127.setTop (mkF m 48 #[rv a1, iv ((f1 + (2 : Int32)) - (1 : Int32))] [.int 1, .ref r1])) _
    refine X127.daload hx (j := (1 : Int32)) (v := (.double q1)) (by rw [e127]; exact Ar128.1) (State.isArrayOf_alike hZ.alike Ar128.2.1) Ar128.2.2 (inb_of aS128 ⟨(by decide), (by decide)⟩) (Has.at aH128 (inb_of aS128 ⟨(by decide), (by decide)⟩) rfl) (g := (mkF m 48 #[rv a1, iv ((f1 + (2 : Int32)) - (1 : Int32))] [.int 1, .ref r1])) rfl rfl (hb hby own_d5_48) _ ?_
    show Steps _ _ _ (T127.setTop (mkF m 49 #[rv a1, iv ((f1 + (2 : Int32)) - (1 : Int32))] [.double q1])) _
    exact retOut X127 hx Bd.returns rfl (Or.inr (Or.inr (Or.inl ⟨rfl, rfl, _, rfl⟩))) (hb hby own_d5_49) hr
  · show Q_qx2 Z a1 r1 f1 kr q0 q1 h0 n0 _ T127.heap _
    rw [e127]
    exact ⟨rfl, N125, rfl⟩
theorem own_ef_mi2 (m : MethodId) (x0 : Addr) (x1 : Int32) (x2 : Addr) : entryFrame m #[(.ref x0), (.int x1), (.ref x2)] 6 = mkF m 0 #[rv x0, iv x1, rv x2, uu, uu, uu] [] := by first | (simp [entryFrame, mkF, argsToLocals, Value.category]; done) | rfl
def Q_mi2 (Z : State) (a1 r0 : Addr) (p1 : Int32) (kr : ClassId) (q0 q1 : UInt64) (h0 : Heap) (n0 : Nat) (v : Option Value) (h : Heap) (L : List Loc) : Prop := v = none ∧ Fr n0 L ∧ Keep h0 h [a1] ∧ Exa Z h a1 "com/example/pensionwright/pensionwright/actuarial/MortalityTable" ∧ Fld Z h a1 "com/example/pensionwright/pensionwright/actuarial/MortalityTable" "firstAge" "I" (.int p1) ∧ ∃ r, Fld Z h a1 "com/example/pensionwright/pensionwright/actuarial/MortalityTable" "rates" "[D" (.ref r) ∧ Arv Z h r kr .double (2 : Int32) [(.double q0), (.double q1)] (.double 0)
set_option maxRecDepth 65536 in
set_option maxHeartbeats 40000000 in
theorem rm_mi2 (l : Launch) (Z : State) (a0 : Array Value) (hw : ∀ d ∈ tables_1, d.before a0 Z = true) (ws : List Jvm.Cond) (a1 r0 : Addr) (p1 : Int32) (kr : ClassId) (q0 q1 : UInt64) (h0 : Heap) (n0 : Nat) (Z0 : n0 ≤ h0.size) (E1 : Exa Z h0 a1 "com/example/pensionwright/pensionwright/actuarial/MortalityTable") (g1 : n0 ≤ a1) (F1 : Fld Z h0 a1 "com/example/pensionwright/pensionwright/actuarial/MortalityTable" "firstAge" "I" (.int (0 : Int32))) (F2 : Fld Z h0 a1 "com/example/pensionwright/pensionwright/actuarial/MortalityTable" "rates" "[D" .null) (F3 : Fld Z h0 a1 "com/example/pensionwright/pensionwright/actuarial/MortalityTable" "monthlySurvival" "[[D" .null) (V1 : Arv Z h0 r0 kr .double (2 : Int32) [(.double q0), (.double q1)] (.double 0)) (ER : Exa Z h0 r0 "[D") (hra : r0 ≠ a1) (hp : ¬ p1 < (0 : Int32)) (hL : ¬ (0 : Int32) < own_cmpL ((p1.toInt64 + ((2 : Int32).toInt64)) - (1 : Int64)) (2147483647 : Int64)) (ok0 : own_ok q0) (ok1 : own_ok q1) (ne0 : ¬ cmpValue (FP.dcmp q0 4607182418800017408) .l = 0) :
    MetFree l (⟨"com/example/pensionwright/pensionwright/actuarial/MortalityTable", "<init>", "(I[D)V"⟩ : MethodName) (head1 (Jvm.Cond.code (⟨"com/example/pensionwright/pensionwright/actuarial/MortalityTable", "<init>", "(I[D)V"⟩ : MethodName) prog_3_method_1_code 6 none :: ws) ({ frames := 2, cells := 5, slots := 114, locals := 32 } : Room)) (fun a U => a = #[(.ref a1), (.int p1), (.ref r0)] ∧ Z.Warmed39 U.vm ∧ U.heap = h0) (fun _ _ _ _ _ => True) (fun _ U o U' => ∃ v L, o = .returned v ∧ Q_mi2 Z a1 r0 p1 kr q0 q1 h0 n0 v U'.heap L ∧ FrameEnd U o U' L ({ frames := 2, cells := 5, slots := 114, locals := 32 } : Room).cells ({ frames := 2, cells := 5, slots := 114, locals := 32 } : Room).slots) := by
  refine MetFree.of_bodySF (plainFor_of_name own_pn_0) hisR ?_
  intro p e s m args below meth c s₁ Bd hml0 hP hK
  obtain ⟨rfl, hZ, hh⟩ := hP
  have hx := Bd.exec
  have hby := Bd.bytes
  have hml : c.maxLocals = 6 := hml0
  have hown : s.vm.findClass "com/example/pensionwright/pensionwright/actuarial/MortalityTable" = some m.cls := findClass_of_methodNamed Bd.named
  have hnm := (name_of_methodNamed Bd.named Bd.method).1
  have W := own_W hw
  have X0 : Stand p l e ({ frames := 2, cells := 5, slots := 114, locals := 32 } : Room) s m #[(.ref a1), (.int p1), (.ref r0)] below meth c s₁ [] 0 0 := Stand.of_body Bd
  have e0 : s₁.heap = h0 := by rw [← hh, Bd.state]; rfl
  have N0 := Fr.nil n0
  have pre0 : ∀ tq, Steps p.tables e below (s₁.setTop (mkF m 0 #[rv a1, iv p1, rv r0, uu, uu, uu] [])) tq → Steps p.tables e below (s₁.setTop (entryFrame m #[(.ref a1), (.int p1), (.ref r0)] 6)) tq := fun tq k => castTop (own_ef_mi2 m a1 p1 r0) k
  have K129 : Keep h0 h0 [a1] := Keep.refl h0 [a1]
  obtain ⟨T130, X130, e130, st130⟩ := initO X0 hx hZ hown (W 10 rfl) (W 11 rfl) (W 12 rfl) e0 (g := (mkF m 1 #[rv a1, iv p1, rv r0, uu, uu, uu] [.ref a1])) rfl (by rw [hml]; rfl) rfl (hb hby own_d3_1) (by decide) (W := 0) own_wt (by decide)
  obtain ⟨cl131, Ar131, aq131, aS131, aN131, aH131, aG131⟩ := id V1
  have G132 : ∀ tq, Steps p.tables e below (T130.setTop (mkF m 94 #[rv a1, iv p1, rv r0, .val (.long (((p1.toInt64) + ((2 : Int32).toInt64)) - (1 : Int64))), .second, iv 0] [])) tq → Steps p.tables e below (s₁.setTop (mkF m 0 #[rv a1, iv p1, rv r0, uu, uu, uu] [])) tq := by
    intro tq kk
    show Steps _ _ _ (s₁.setTop (mkF m 0 #[rv a1, iv p1, rv r0, uu, uu, uu] [])) _
    refine XS.aloadN X0.here hx rfl (hb hby own_d3_0) rfl rfl ?_
    show Steps _ _ _ (s₁.setTop (mkF m 1 _ [.ref a1])) _
    refine st130 _ ?_
    show Steps _ _ _ (T130.setTop (mkF m 4 #[rv a1, iv p1, rv r0, uu, uu, uu] [])) _
    refine XS.iloadN X130.here hx rfl (hb hby own_d3_4) rfl ?_
    show Steps _ _ _ (T130.setTop (mkF m 5 _ [.int p1])) _
    refine XS.ifYes X130.here hx rfl (pc0 := 5) (pc' := 22) rfl (hb hby own_d3_5) rfl ((if0 _ _).trans (flt (hp : ¬ (p1 < (0 : Int32)))).2.1) (by decide) (by decide) ?_
    show Steps _ _ _ (T130.setTop (mkF m 22 _ [])) _
    refine XS.aloadN X130.here hx rfl (hb hby own_d3_22) rfl rfl ?_
    show Steps _ _ _ (T130.setTop (mkF m 23 _ [.ref r0])) _
    refine X130.arraylength hx (by rw [e130]; exact Ar131.1) (State.isArrayOf_alike hZ.alike Ar131.2.1) (g := (mkF m 23 #[rv a1, iv p1, rv r0, uu, uu, uu] [.ref r0])) rfl rfl (hb hby own_d3_23) _ ?_
    rw [len_of aS131 aN131]
    show Steps _ _ _ (T130.setTop (mkF m 24 #[rv a1, iv p1, rv r0, uu, uu, uu] [.int 2])) _
    refine XS.ifYes X130.here hx rfl (pc0 := 24) (pc' := 37) rfl (hb hby own_d3_24) rfl ((if0 _ _).trans (feq ((by decide) : ¬ ((2 : Int32) = (0 : Int32)))).2) (by decide) (by decide) ?_
    show Steps _ _ _ (T130.setTop (mkF m 37 _ [])) _
    refine XS.aloadN X130.here hx rfl (hb hby own_d3_37) rfl rfl ?_
    show Steps _ _ _ (T130.setTop (mkF m 38 _ [.ref r0])) _
    refine X130.arraylength hx (by rw [e130]; exact Ar131.1) (State.isArrayOf_alike hZ.alike Ar131.2.1) (g := (mkF m 38 #[rv a1, iv p1, rv r0, uu, uu, uu] [.ref r0])) rfl rfl (hb hby own_d3_38) _ ?_
    rw [len_of aS131 aN131]
    show Steps _ _ _ (T130.setTop (mkF m 39 #[rv a1, iv p1, rv r0, uu, uu, uu] [.int 2])) _
    refine XS.sipush X130.here hx rfl (hb hby own_d3_39) ?_
    show Steps _ _ _ (T130.setTop (mkF m 42 _ [.int 200, .int 2])) _
    refine XS.icmpYes X130.here hx rfl (pc0 := 42) (pc' := 60) rfl (hb hby own_d3_42) rfl (flt ((by decide) : ¬ ((200 : Int32) < (2 : Int32)))).2.2.2 (by decide) (by decide) ?_
    show Steps _ _ _ (T130.setTop (mkF m 60 _ [])) _
    refine XS.iloadN X130.here hx rfl (hb hby own_d3_60) rfl ?_
    show Steps _ _ _ (T130.setTop (mkF m 61 _ [.int p1])) _
    refine XS.i2l X130.here hx rfl (hb hby own_d3_61) rfl ?_
    show Steps _ _ _ (T130.setTop (mkF m 62 _ [.long (p1.toInt64)])) _
    refine XS.aloadN X130.here hx rfl (hb hby own_d3_62) rfl rfl ?_
    show Steps _ _ _ (T130.setTop (mkF m 63 _ [.ref r0, .long (p1.toInt64)])) _
    refine X130.arraylength hx (by rw [e130]; exact Ar131.1) (State.isArrayOf_alike hZ.alike Ar131.2.1) (g := (mkF m 63 #[rv a1, iv p1, rv r0, uu, uu, uu] [.ref r0, .long (p1.toInt64)])) rfl rfl (hb hby own_d3_63) _ ?_
    rw [len_of aS131 aN131]
    show Steps _ _ _ (T130.setTop (mkF m 64 #[rv a1, iv p1, rv r0, uu, uu, uu] [.int 2, .long (p1.toInt64)])) _
    refine XS.i2l X130.here hx rfl (hb hby own_d3_64) rfl ?_
    show Steps _ _ _ (T130.setTop (mkF m 65 _ [.long ((2 : Int32).toInt64), .long (p1.toInt64)])) _
    refine XS.ladd X130.here hx rfl (hb hby own_d3_65) rfl ?_
    show Steps _ _ _ (T130.setTop (mkF m 66 _ [.long ((p1.toInt64) + ((2 : Int32).toInt64))])) _
    refine XS.lconst X130.here hx rfl (hb hby own_d3_66) ?_
    show Steps _ _ _ (T130.setTop (mkF m 67 _ [.long 1, .long ((p1.toInt64) + ((2 : Int32).toInt64))])) _
    refine XS.lsub X130.here hx rfl (hb hby own_d3_67) rfl ?_
    show Steps _ _ _ (T130.setTop (mkF m 68 _ [.long (((p1.toInt64) + ((2 : Int32).toInt64)) - (1 : Int64))])) _
    refine XS.lstoreN X130.here hx rfl (hb hby own_d3_68) rfl (l' := #[rv a1, iv p1, rv r0, .val (.long (((p1.toInt64) + ((2 : Int32).toInt64)) - (1 : Int64))), .second, uu]) rfl ?_
    show Steps _ _ _ (T130.setTop (mkF m 69 _ [])) _
    refine XS.lloadN X130.here hx rfl (hb hby own_d3_69) rfl ?_
    show Steps _ _ _ (T130.setTop (mkF m 70 _ [.long (((p1.toInt64) + ((2 : Int32).toInt64)) - (1 : Int64))])) _
    refine Jvm.Stand.ldc2J X130 hx hown (mvT hZ (W 13 rfl)) rfl (hb hby own_d3_70) ?_
    show Steps _ _ _ (T130.setTop (mkF m 73 _ [.long 2147483647, .long (((p1.toInt64) + ((2 : Int32).toInt64)) - (1 : Int64))])) _
    refine XS.lcmp X130.here hx rfl (hb hby own_d3_73) rfl ?_
    show Steps _ _ _ (T130.setTop (mkF m 74 #[rv a1, iv p1, rv r0, .val (.long (((p1.toInt64) + ((2 : Int32).toInt64)) - (1 : Int64))), .second, uu] [.int (own_cmpL (((p1.toInt64) + ((2 : Int32).toInt64)) - (1 : Int64)) (2147483647 : Int64))])) _
    refine XS.ifYes X130.here hx rfl (pc0 := 74) (pc' := 91) rfl (hb hby own_d3_74) rfl ((if0 _ _).trans (flt (hL : ¬ ((0 : Int32) < (own_cmpL (((p1.toInt64) + ((2 : Int32).toInt64)) - (1 : Int64)) (2147483647 : Int64))))).2.2.2) (by decide) (by decide) ?_
    show Steps _ _ _ (T130.setTop (mkF m 91 _ [])) _
    refine XS.iconst X130.here hx rfl (hb hby own_d3_91) ?_
    show Steps _ _ _ (T130.setTop (mkF m 92 _ [.int 0])) _
    refine XS.istore X130.here hx rfl (hb hby own_d3_92) rfl (l' := #[rv a1, iv p1, rv r0, .val (.long (((p1.toInt64) + ((2 : Int32).toInt64)) - (1 : Int64))), .second, iv 0]) rfl ?_
    exact kk
  have G133 : ∀ tq, Steps p.tables e below (T130.setTop (mkF m 94 #[rv a1, iv p1, rv r0, .val (.long (((p1.toInt64) + ((2 : Int32).toInt64)) - (1 : Int64))), .second, iv 1] [])) tq → Steps p.tables e below (T130.setTop (mkF m 94 #[rv a1, iv p1, rv r0, .val (.long (((p1.toInt64) + ((2 : Int32).toInt64)) - (1 : Int64))), .second, iv 0] [])) tq := by
    intro tq kk
    show Steps _ _ _ (T130.setTop (mkF m 94 #[rv a1, iv p1, rv r0, .val (.long (((p1.toInt64) + ((2 : Int32).toInt64)) - (1 : Int64))), .second, iv 0] [])) _
    refine XS.iload X130.here hx rfl (hb hby own_d3_94) rfl ?_
    show Steps _ _ _ (T130.setTop (mkF m 96 _ [.int 0])) _
    refine XS.aloadN X130.here hx rfl (hb hby own_d3_96) rfl rfl ?_
    show Steps _ _ _ (T130.setTop (mkF m 97 _ [.ref r0, .int 0])) _
    refine X130.arraylength hx (by rw [e130]; exact Ar131.1) (State.isArrayOf_alike hZ.alike Ar131.2.1) (g := (mkF m 97 #[rv a1, iv p1, rv r0, .val (.long (((p1.toInt64) + ((2 : Int32).toInt64)) - (1 : Int64))), .second, iv 0] [.ref r0, .int 0])) rfl rfl (hb hby own_d3_97) _ ?_
    rw [len_of aS131 aN131]
    show Steps _ _ _ (T130.setTop (mkF m 98 #[rv a1, iv p1, rv r0, .val (.long (((p1.toInt64) + ((2 : Int32).toInt64)) - (1 : Int64))), .second, iv 0] [.int 2, .int 0])) _
    refine XS.icmpNo X130.here hx rfl (hb hby own_d3_98) rfl (tlt ((by decide) : (0 : Int32) < (2 : Int32))).2.1 ?_
    show Steps _ _ _ (T130.setTop (mkF m 101 _ [])) _
    refine XS.aloadN X130.here hx rfl (hb hby own_d3_101) rfl rfl ?_
    show Steps _ _ _ (T130.setTop (mkF m 102 _ [.ref r0])) _
    refine XS.iload X130.here hx rfl (hb hby own_d3_102) rfl ?_
    show Steps _ _ _ (T130.setTop (mkF m 104 _ [.int 0, .ref r0])) _
    refine X130.daload hx (j := (0 : Int32)) (v := (.double q0)) (by rw [e130]; exact Ar131.1) (State.isArrayOf_alike hZ.alike Ar131.2.1) Ar131.2.2 (inb_of aS131 ⟨(by decide), (by decide)⟩) (Has.at aH131 (inb_of aS131 ⟨(by decide), (by decide)⟩) rfl) (g := (mkF m 104 #[rv a1, iv p1, rv r0, .val (.long (((p1.toInt64) + ((2 : Int32).toInt64)) - (1 : Int64))), .second, iv 0] [.int 0, .ref r0])) rfl rfl (hb hby own_d3_104) _ ?_
    show Steps _ _ _ (T130.setTop (mkF m 105 #[rv a1, iv p1, rv r0, .val (.long (((p1.toInt64) + ((2 : Int32).toInt64)) - (1 : Int64))), .second, iv 0] [.double q0])) _
    refine XS.dconst0 X130.here hx rfl (hb hby own_d3_105) (v := 0) rfl ?_
    show Steps _ _ _ (T130.setTop (mkF m 106 _ [.double 0, .double q0])) _
    refine XS.dcmpS X130.here hx rfl (hb hby own_d3_106) rfl rfl ?_
    show Steps _ _ _ (T130.setTop (mkF m 107 _ [.int (cmpValue (FP.dcmp q0 0) .l)])) _
    refine XS.ifNo X130.here hx rfl (hb hby own_d3_107) rfl ((if0 _ _).trans (flt (ok0.1 : ¬ ((cmpValue (FP.dcmp q0 0) .l) < (0 : Int32)))).1) ?_
    show Steps _ _ _ (T130.setTop (mkF m 110 _ [])) _
    refine XS.aloadN X130.here hx rfl (hb hby own_d3_110) rfl rfl ?_
    show Steps _ _ _ (T130.setTop (mkF m 111 _ [.ref r0])) _
    refine XS.iload X130.here hx rfl (hb hby own_d3_111) rfl ?_
    show Steps _ _ _ (T130.setTop (mkF m 113 _ [.int 0, .ref r0])) _
    refine X130.daload hx (j := (0 : Int32)) (v := (.double q0)) (by rw [e130]; exact Ar131.1) (State.isArrayOf_alike hZ.alike Ar131.2.1) Ar131.2.2 (inb_of aS131 ⟨(by decide), (by decide)⟩) (Has.at aH131 (inb_of aS131 ⟨(by decide), (by decide)⟩) rfl) (g := (mkF m 113 #[rv a1, iv p1, rv r0, .val (.long (((p1.toInt64) + ((2 : Int32).toInt64)) - (1 : Int64))), .second, iv 0] [.int 0, .ref r0])) rfl rfl (hb hby own_d3_113) _ ?_
    show Steps _ _ _ (T130.setTop (mkF m 114 #[rv a1, iv p1, rv r0, .val (.long (((p1.toInt64) + ((2 : Int32).toInt64)) - (1 : Int64))), .second, iv 0] [.double q0])) _
    refine XS.dconst1 X130.here hx rfl (hb hby own_d3_114) (v := 4607182418800017408) rfl ?_
    show Steps _ _ _ (T130.setTop (mkF m 115 _ [.double 4607182418800017408, .double q0])) _
    refine XS.dcmpS X130.here hx rfl (hb hby own_d3_115) rfl rfl ?_
    show Steps _ _ _ (T130.setTop (mkF m 116 _ [.int (cmpValue (FP.dcmp q0 4607182418800017408) .g)])) _
    refine XS.ifYes X130.here hx rfl (pc0 := 116) (pc' := 140) rfl (hb hby own_d3_116) rfl ((if0 _ _).trans (flt (ok0.2.1 : ¬ ((0 : Int32) < (cmpValue (FP.dcmp q0 4607182418800017408) .g)))).2.2.2) (by decide) (by decide) ?_
    show Steps _ _ _ (T130.setTop (mkF m 140 _ [])) _
    refine XS.aloadN X130.here hx rfl (hb hby own_d3_140) rfl rfl ?_
    show Steps _ _ _ (T130.setTop (mkF m 141 _ [.ref r0])) _
    refine XS.iload X130.here hx rfl (hb hby own_d3_141) rfl ?_
    show Steps _ _ _ (T130.setTop (mkF m 143 _ [.int 0, .ref r0])) _
    refine X130.daload hx (j := (0 : Int32)) (v := (.double q0)) (by rw [e130]; exact Ar131.1) (State.isArrayOf_alike hZ.alike Ar131.2.1) Ar131.2.2 (inb_of aS131 ⟨(by decide), (by decide)⟩) (Has.at aH131 (inb_of aS131 ⟨(by decide), (by decide)⟩) rfl) (g := (mkF m 143 #[rv a1, iv p1, rv r0, .val (.long (((p1.toInt64) + ((2 : Int32).toInt64)) - (1 : Int64))), .second, iv 0] [.int 0, .ref r0])) rfl rfl (hb hby own_d3_143) _ ?_
    show Steps _ _ _ (T130.setTop (mkF m 144 #[rv a1, iv p1, rv r0, .val (.long (((p1.toInt64) + ((2 : Int32).toInt64)) - (1 : Int64))), .second, iv 0] [.double q0])) _
    refine XS.dconst1 X130.here hx rfl (hb hby own_d3_144) (v := 4607182418800017408) rfl ?_
    show Steps _ _ _ (T130.setTop (mkF m 145 _ [.double 4607182418800017408, .double q0])) _
    refine XS.dcmpS X130.here hx rfl (hb hby own_d3_145) rfl rfl ?_
    show Steps _ _ _ (T130.setTop (mkF m 146 _ [.int (cmpValue (FP.dcmp q0 4607182418800017408) .l)])) _
    refine XS.ifYes X130.here hx rfl (pc0 := 146) (pc' := 173) rfl (hb hby own_d3_146) rfl ((if0 _ _).trans (feq (ne0 : ¬ ((cmpValue (FP.dcmp q0 4607182418800017408) .l) = (0 : Int32)))).2) (by decide) (by decide) ?_
    show Steps _ _ _ (T130.setTop (mkF m 173 _ [])) _
    refine XS.iinc X130.here hx rfl (hb hby own_d3_173) rfl (l' := #[rv a1, iv p1, rv r0, .val (.long (((p1.toInt64) + ((2 : Int32).toInt64)) - (1 : Int64))), .second, iv 1]) rfl ?_
    show Steps _ _ _ (T130.setTop (mkF m 176 _ [])) _
    refine XS.goto X130.here hx rfl (pc0 := 176) (pc' := 94) rfl (hb hby own_d3_176) (by decide) (by decide) ?_
    exact kk
  have G134 : ∀ tq, Steps p.tables e below (T130.setTop (mkF m 146 #[rv a1, iv p1, rv r0, .val (.long (((p1.toInt64) + ((2 : Int32).toInt64)) - (1 : Int64))), .second, iv 1] [.int (cmpValue (FP.dcmp q1 4607182418800017408) .l)])) tq → Steps p.tables e below (T130.setTop (mkF m 94 #[rv a1, iv p1, rv r0, .val (.long (((p1.toInt64) + ((2 : Int32).toInt64)) - (1 : Int64))), .second, iv 1] [])) tq := by
    intro tq kk
    show Steps _ _ _ (T130.setTop (mkF m 94 #[rv a1, iv p1, rv r0, .val (.long (((p1.toInt64) + ((2 : Int32).toInt64)) - (1 : Int64))), .second, iv 1] [])) _
    refine XS.iload X130.here hx rfl (hb hby own_d3_94) rfl ?_
    show Steps _ _ _ (T130.setTop (mkF m 96 _ [.int 1])) _
    refine XS.aloadN X130.here hx rfl (hb hby own_d3_96) rfl rfl ?_
    show Steps _ _ _ (T130.setTop (mkF m 97 _ [.ref r0, .int 1])) _
    refine X130.arraylength hx (by rw [e130]; exact Ar131.1) (State.isArrayOf_alike hZ.alike Ar131.2.1) (g := (mkF m 97 #[rv a1, iv p1, rv r0, .val (.long (((p1.toInt64) + ((2 : Int32).toInt64)) - (1 : Int64))), .second, iv 1] [.ref r0, .int 1])) rfl rfl (hb hby own_d3_97) _ ?_
    rw [len_of aS131 aN131]
    show Steps _ _ _ (T130.setTop (mkF m 98 #[rv a1, iv p1, rv r0, .val (.long (((p1.toInt64) + ((2 : Int32).toInt64)) - (1 : Int64))), .second, iv 1] [.int 2, .int 1])) _
    refine XS.icmpNo X130.here hx rfl (hb hby own_d3_98) rfl (tlt ((by decide) : (1 : Int32) < (2 : Int32))).2.1 ?_
    show Steps _ _ _ (T130.setTop (mkF m 101 _ [])) _
    refine XS.aloadN X130.here hx rfl (hb hby own_d3_101) rfl rfl ?_
    show Steps _ _ _ (T130.setTop (mkF m 102 _ [.ref r0])) _
    refine XS.iload X130.here hx rfl (hb hby own_d3_102) rfl ?_
    show Steps _ _ _ (T130.setTop (mkF m 104 _ [.int 1, .ref r0])) _
    refine X130.daload hx (j := (1 : Int32)) (v := (.double q1)) (by rw [e130]; exact Ar131.1) (State.isArrayOf_alike hZ.alike Ar131.2.1) Ar131.2.2 (inb_of aS131 ⟨(by decide), (by decide)⟩) (Has.at aH131 (inb_of aS131 ⟨(by decide), (by decide)⟩) rfl) (g := (mkF m 104 #[rv a1, iv p1, rv r0, .val (.long (((p1.toInt64) + ((2 : Int32).toInt64)) - (1 : Int64))), .second, iv 1] [.int 1, .ref r0])) rfl rfl (hb hby own_d3_104) _ ?_
    show Steps _ _ _ (T130.setTop (mkF m 105 #[rv a1, iv p1, rv r0, .val (.long (((p1.toInt64) + ((2 : Int32).toInt64)) - (1 : Int64))), .second, iv 1] [.double q1])) _
    refine XS.dconst0 X130.here hx rfl (hb hby own_d3_105) (v := 0) rfl ?_
    show Steps _ _ _ (T130.setTop (mkF m 106 _ [.double 0, .double q1])) _
    refine XS.dcmpS X130.here hx rfl (hb hby own_d3_106) rfl rfl ?_
    show Steps _ _ _ (T130.setTop (mkF m 107 _ [.int (cmpValue (FP.dcmp q1 0) .l)])) _
    refine XS.ifNo X130.here hx rfl (hb hby own_d3_107) rfl ((if0 _ _).trans (flt (ok1.1 : ¬ ((cmpValue (FP.dcmp q1 0) .l) < (0 : Int32)))).1) ?_
    show Steps _ _ _ (T130.setTop (mkF m 110 _ [])) _
    refine XS.aloadN X130.here hx rfl (hb hby own_d3_110) rfl rfl ?_
    show Steps _ _ _ (T130.setTop (mkF m 111 _ [.ref r0])) _
    refine XS.iload X130.here hx rfl (hb hby own_d3_111) rfl ?_
    show Steps _ _ _ (T130.setTop (mkF m 113 _ [.int 1, .ref r0])) _
    refine X130.daload hx (j := (1 : Int32)) (v := (.double q1)) (by rw [e130]; exact Ar131.1) (State.isArrayOf_alike hZ.alike Ar131.2.1) Ar131.2.2 (inb_of aS131 ⟨(by decide), (by decide)⟩) (Has.at aH131 (inb_of aS131 ⟨(by decide), (by decide)⟩) rfl) (g := (mkF m 113 #[rv a1, iv p1, rv r0, .val (.long (((p1.toInt64) + ((2 : Int32).toInt64)) - (1 : Int64))), .second, iv 1] [.int 1, .ref r0])) rfl rfl (hb hby own_d3_113) _ ?_
    show Steps _ _ _ (T130.setTop (mkF m 114 #[rv a1, iv p1, rv r0, .val (.long (((p1.toInt64) + ((2 : Int32).toInt64)) - (1 : Int64))), .second, iv 1] [.double q1])) _
    refine XS.dconst1 X130.here hx rfl (hb hby own_d3_114) (v := 4607182418800017408) rfl ?_
    show Steps _ _ _ (T130.setTop (mkF m 115 _ [.double 4607182418800017408, .double q1])) _
    refine XS.dcmpS X130.here hx rfl (hb hby own_d3_115) rfl rfl ?_
    show Steps _ _ _ (T130.setTop (mkF m 116 _ [.int (cmpValue (FP.dcmp q1 4607182418800017408) .g)])) _
    refine XS.ifYes X130.here hx rfl (pc0 := 116) (pc' := 140) rfl (hb hby own_d3_116) rfl ((if0 _ _).trans (flt (ok1.2.1 : ¬ ((0 : Int32) < (cmpValue (FP.dcmp q1 4607182418800017408) .g)))).2.2.2) (by decide) (by decide) ?_
    show Steps _ _ _ (T130.setTop (mkF m 140 _ [])) _
    refine XS.aloadN X130.here hx rfl (hb hby own_d3_140) rfl rfl ?_
    show Steps _ _ _ (T130.setTop (mkF m 141 _ [.ref r0])) _
    refine XS.iload X130.here hx rfl (hb hby own_d3_141) rfl ?_
    show Steps _ _ _ (T130.setTop (mkF m 143 _ [.int 1, .ref r0])) _
    refine X130.daload hx (j := (1 : Int32)) (v := (.double q1)) (by rw [e130]; exact Ar131.1) (State.isArrayOf_alike hZ.alike Ar131.2.1) Ar131.2.2 (inb_of aS131 ⟨(by decide), (by decide)⟩) (Has.at aH131 (inb_of aS131 ⟨(by decide), (by decide)⟩) rfl) (g := (mkF m 143 #[rv a1, iv p1, rv r0, .val (.long (((p1.toInt64) + ((2 : Int32).toInt64)) - (1 : Int64))), .second, iv 1] [.int 1, .ref r0])) rfl rfl (hb hby own_d3_143) _ ?_
    show Steps _ _ _ (T130.setTop (mkF m 144 #[rv a1, iv p1, rv r0, .val (.long (((p1.toInt64) + ((2 : Int32).toInt64)) - (1 : Int64))), .second, iv 1] [.double q1])) _
    refine XS.dconst1 X130.here hx rfl (hb hby own_d3_144) (v := 4607182418800017408) rfl ?_
    show Steps _ _ _ (T130.setTop (mkF m 145 _ [.double 4607182418800017408, .double q1])) _
    refine XS.dcmpS X130.here hx rfl (hb hby own_d3_145) rfl rfl ?_
    exact kk
  have GL : ∀ tq, Steps p.tables e below (T130.setTop (mkF m 94 #[rv a1, iv p1, rv r0, .val (.long (((p1.toInt64) + ((2 : Int32).toInt64)) - (1 : Int64))), .second, iv 2] [])) tq → Steps p.tables e below (T130.setTop (mkF m 146 #[rv a1, iv p1, rv r0, .val (.long (((p1.toInt64) + ((2 : Int32).toInt64)) - (1 : Int64))), .second, iv 1] [.int (cmpValue (FP.dcmp q1 4607182418800017408) .l)])) tq := by
    by_cases hl : cmpValue (FP.dcmp q1 4607182418800017408) .l = 0
    · have G135 : ∀ tq, Steps p.tables e below (T130.setTop (mkF m 94 #[rv a1, iv p1, rv r0, .val (.long (((p1.toInt64) + ((2 : Int32).toInt64)) - (1 : Int64))), .second, iv 2] [])) tq → Steps p.tables e below (T130.setTop (mkF m 146 #[rv a1, iv p1, rv r0, .val (.long (((p1.toInt64) + ((2 : Int32).toInt64)) - (1 : Int64))), .second, iv 1] [.int (cmpValue (FP.dcmp q1 4607182418800017408) .l)])) tq := by
        intro tq kk
        show Steps _ _ _ (T130.setTop (mkF m 146 #[rv a1, iv p1, rv r0, .val (.long (((p1.toInt64) + ((2 : Int32).toInt64)) - (1 : Int64))), .second, iv 1] [.int (cmpValue (FP.dcmp q1 4607182418800017408) .l)])) _
        refine XS.ifNo X130.here hx rfl (hb hby own_d3_146) rfl ((if0 _ _).trans (teq (hl : (cmpValue (FP.dcmp q1 4607182418800017408) .l) = (0 : Int32))).2) ?_
        show Steps _ _ _ (T130.setTop (mkF m 149 _ [])) _
        refine XS.iload X130.here hx rfl (hb hby own_d3_149) rfl ?_
        show Steps _ _ _ (T130.setTop (mkF m 151 _ [.int 1])) _
        refine XS.aloadN X130.here hx rfl (hb hby own_d3_151) rfl rfl ?_
        show Steps _ _ _ (T130.setTop (mkF m 152 _ [.ref r0, .int 1])) _
        refine X130.arraylength hx (by rw [e130]; exact Ar131.1) (State.isArrayOf_alike hZ.alike Ar131.2.1) (g := (mkF m 152 #[rv a1, iv p1, rv r0, .val (.long (((p1.toInt64) + ((2 : Int32).toInt64)) - (1 : Int64))), .second, iv 1] [.ref r0, .int 1])) rfl rfl (hb hby own_d3_152) _ ?_
        rw [len_of aS131 aN131]
        show Steps _ _ _ (T130.setTop (mkF m 153 #[rv a1, iv p1, rv r0, .val (.long (((p1.toInt64) + ((2 : Int32).toInt64)) - (1 : Int64))), .second, iv 1] [.int 2, .int 1])) _
        refine XS.iconst X130.here hx rfl (hb hby own_d3_153) ?_
        show Steps _ _ _ (T130.setTop (mkF m 154 _ [.int 1, .int 2, .int 1])) _
        refine XS.isub X130.here hx rfl (hb hby own_d3_154) rfl ?_
        show Steps _ _ _ (T130.setTop (mkF m 155 _ [.int 1, .int 1])) _
        refine XS.icmpYes X130.here hx rfl (pc0 := 155) (pc' := 173) rfl (hb hby own_d3_155) rfl (flt ((by decide) : ¬ ((1 : Int32) < (1 : Int32)))).2.1 (by decide) (by decide) ?_
        show Steps _ _ _ (T130.setTop (mkF m 173 _ [])) _
        refine XS.iinc X130.here hx rfl (hb hby own_d3_173) rfl (l' := #[rv a1, iv p1, rv r0, .val (.long (((p1.toInt64) + ((2 : Int32).toInt64)) - (1 : Int64))), .second, iv 2]) rfl ?_
        show Steps _ _ _ (T130.setTop (mkF m 176 _ [])) _
        refine XS.goto X130.here hx rfl (pc0 := 176) (pc' := 94) rfl (hb hby own_d3_176) (by decide) (by decide) ?_
        exact kk
      exact fun tgt kk => G135 _ kk
    · have G136 : ∀ tq, Steps p.tables e below (T130.setTop (mkF m 94 #[rv a1, iv p1, rv r0, .val (.long (((p1.toInt64) + ((2 : Int32).toInt64)) - (1 : Int64))), .second, iv 2] [])) tq → Steps p.tables e below (T130.setTop (mkF m 146 #[rv a1, iv p1, rv r0, .val (.long (((p1.toInt64) + ((2 : Int32).toInt64)) - (1 : Int64))), .second, iv 1] [.int (cmpValue (FP.dcmp q1 4607182418800017408) .l)])) tq := by
        intro tq kk
        show Steps _ _ _ (T130.setTop (mkF m 146 #[rv a1, iv p1, rv r0, .val (.long (((p1.toInt64) + ((2 : Int32).toInt64)) - (1 : Int64))), .second, iv 1] [.int (cmpValue (FP.dcmp q1 4607182418800017408) .l)])) _
        refine XS.ifYes X130.here hx rfl (pc0 := 146) (pc' := 173) rfl (hb hby own_d3_146) rfl ((if0 _ _).trans (feq (hl : ¬ ((cmpValue (FP.dcmp q1 4607182418800017408) .l) = (0 : Int32)))).2) (by decide) (by decide) ?_
        show Steps _ _ _ (T130.setTop (mkF m 173 _ [])) _
        refine XS.iinc X130.here hx rfl (hb hby own_d3_173) rfl (l' := #[rv a1, iv p1, rv r0, .val (.long (((p1.toInt64) + ((2 : Int32).toInt64)) - (1 : Int64))), .second, iv 2]) rfl ?_
        show Steps _ _ _ (T130.setTop (mkF m 176 _ [])) _
        refine XS.goto X130.here hx rfl (pc0 := 176) (pc' := 94) rfl (hb hby own_d3_176) (by decide) (by decide) ?_
        exact kk
      exact fun tgt kk => G136 _ kk
  obtain ⟨T137, h137, X137, e137, W137, st137⟩ := putF X130 hx hZ hown (host := "") (Or.inl (W 14 rfl)) Via.refl e130 F1 E1 (Or.inr ⟨(W 15 rfl), rfl, hnm⟩) (W 5 rfl) (ty := .int) (by decide) rfl rfl (g := (mkF m 181 #[rv a1, iv p1, rv r0, .val (.long (((p1.toInt64) + ((2 : Int32).toInt64)) - (1 : Int64))), .second, iv 2] [.int p1, .ref a1])) rfl rfl (hb hby own_d3_181)
  have N137 := Fr.snoc X137 N0 g1
  have Fw137 := F1.same W137
  have Z138 : n0 ≤ h137.size := Nat.le_trans Z0 (Keep.of_wr W137).1
  have K139 : Keep h0 h137 [a1] := K129.wr W137 (Or.inl (List.mem_of_getElem? (i := 0) rfl))
  have f141 := (V1.other W137 hra)
  obtain ⟨cl140, Ar140, aq140, aS140, aN140, aH140, aG140⟩ := id f141
  have f142 := (ER.wr W137)
  obtain ⟨_, _, ⟨T143, L143, k143, n143⟩, -, X143, ⟨Lc143, hQ143, l143, y143, z143⟩, st143⟩ := Jvm.LawKit.callS X137 hx (y := (⟨"java/util/Arrays", "copyOf", "([DI)[D"⟩ : MethodName)) hown (mvT hZ (W 16 rfl)) (mvT hZ (W 17 rfl)) (mvT hZ (W 18 rfl)) (mvT hZ (W 19 rfl)) (by decide) (backOf (W := 1) (rm_cpy l Z a0 hw [] r0 (2 : Int32) kr [(.double q0), (.double q1)] h137 n0 Z138 f141 f142 (by decide)) hZ (W 19 rfl) (W 18 rfl) (by decide) (by decide)) (g := (mkF m 188 #[rv a1, iv p1, rv r0, .val (.long (((p1.toInt64) + ((2 : Int32).toInt64)) - (1 : Int64))), .second, iv 2] [.int 2, .ref r0, .ref a1])) rfl (by rw [hml]; rfl) (argsL := [.ref r0, .int 2]) (rest := [.ref a1]) (lenOf own_pd_2 rfl) rfl own_wt (hb hby own_d3_188) (fun _ _ => ⟨rfl, e137, (by decide : 0 + 1 ≤ _), (by decide : 0 + 3 ≤ _)⟩)
  dsimp only [Pt.U, Pt.locs, Pt.cells, Pt.slots] at X143 l143 y143 z143 st143 hQ143
  subst l143 y143 z143
  obtain ⟨b143, hv143, Nq143, K143, sb143, V143, ex143⟩ := hQ143
  subst hv143
  have N143 := Fr.app N137 Nq143
  have g144 : n0 ≤ b143 := Nat.le_trans Z138 sb143
  have g145 : h0.size ≤ b143 := Nat.le_trans K139.1 sb143
  have Z146 : n0 ≤ T143.heap.size := Nat.le_trans Z138 K143.1
  have K147 : Keep h0 T143.heap [a1] := K139.trans K143 all0
  have f149 := ((F2.other W137 (Or.inr (slot_ne (Or.inr (W 30 rfl)) (Or.inr (W 15 rfl)) (by decide) (t := (.array .double)) (t' := .int) (by decide) (by decide)))).keep K143 nin0)
  have f150 := ((E1.wr W137).keep K143)
  obtain ⟨T148, h148, X148, e148, W148, st148⟩ := putF X143 hx hZ hown (host := "") (Or.inl (W 29 rfl)) Via.refl rfl f149 f150 (Or.inr ⟨(W 30 rfl), rfl, hnm⟩) (W 5 rfl) (ty := (.array .double)) (by decide) rfl rfl (g := (mkF m 191 #[rv a1, iv p1, rv r0, .val (.long (((p1.toInt64) + ((2 : Int32).toInt64)) - (1 : Int64))), .second, iv 2] [.ref b143, .ref a1])) rfl rfl (hb hby own_d3_191)
  have N148 := Fr.snoc X148 N143 g1
  have Fw148 := f149.same W148
  have Z151 : n0 ≤ h148.size := Nat.le_trans Z146 (Keep.of_wr W148).1
  have K152 : Keep h0 h148 [a1] := K147.wr W148 (Or.inl (List.mem_of_getElem? (i := 0) rfl))
  have f154 := ((f141.keep K143 nin0).other W148 hra)
  obtain ⟨cl153, Ar153, aq153, aS153, aN153, aH153, aG153⟩ := id f154
  obtain ⟨T155, h155, k155, X155, e155, E155, A155, ex155, ov155, st155⟩ := newRA X148 hx hZ hown (ty := .double) (C := "[D") (by decide) (W 31 rfl) (W 32 rfl) e148 (g := (mkF m 197 #[rv a1, iv p1, rv r0, .val (.long (((p1.toInt64) + ((2 : Int32).toInt64)) - (1 : Int64))), .second, iv 2] [.int 2, .ref a1])) rfl (hb hby own_d3_197) rfl (by decide : ¬ ((2 : Int32) < (0 : Int32))) (cap := 3) (by decide) (by decide) (by decide) (by decide) (ad := "[[D") (by decide)
  obtain ⟨b155, g155⟩ : ∃ z, z = h148.size := ⟨_, rfl⟩
  rw [← g155] at A155 ex155 st155
  have g156 : n0 ≤ b155 := Nat.le_trans Z151 (Nat.le_of_eq g155.symm)
  have g157 : h0.size ≤ b155 := Nat.le_trans K152.1 (Nat.le_of_eq g155.symm)
  have Z158 : n0 ≤ h155.size := Nat.le_trans Z151 E155.1
  have K159 : Keep h0 h155 [a1] := K152.ext E155
  have V155 : Arv Z h155 b155 k155 (.array .double) (2 : Int32) [.null, .null] .null := (Arv.new A155 (by decide)).pad (pad_rep [] .null 2)
  have f161 := ((((F3.other W137 (Or.inr (slot_ne (Or.inr (W 34 rfl)) (Or.inr (W 15 rfl)) (by decide) (t := (.array (.array .double))) (t' := .int) (by decide) (by decide)))).keep K143 nin0).other W148 (Or.inr (slot_ne (Or.inr (W 34 rfl)) (Or.inr (W 30 rfl)) (by decide) (t := (.array (.array .double))) (t' := (.array .double)) (by decide) (by decide)))).ext E155)
  have f162 := ((f150.wr W148).ext E155)
  obtain ⟨T160, h160, X160, e160, W160, st160⟩ := putF X155 hx hZ hown (host := "") (Or.inl (W 33 rfl)) Via.refl e155 f161 f162 (Or.inr ⟨(W 34 rfl), rfl, hnm⟩) (W 5 rfl) (ty := (.array (.array .double))) (by decide) rfl rfl (g := (mkF m 200 #[rv a1, iv p1, rv r0, .val (.long (((p1.toInt64) + ((2 : Int32).toInt64)) - (1 : Int64))), .second, iv 2] [.ref b155, .ref a1])) rfl rfl (hb hby own_d3_200)
  have N160 := Fr.snoc X160 N148 g1
  have Fw160 := f161.same W160
  have Z163 : n0 ≤ h160.size := Nat.le_trans Z158 (Keep.of_wr W160).1
  have K164 : Keep h0 h160 [a1] := K159.wr W160 (Or.inl (List.mem_of_getElem? (i := 0) rfl))
  have G165 : ∀ tq, Steps p.tables e below (T160.setTop (mkF m 206 #[rv a1, iv p1, rv r0, .val (.long (((p1.toInt64) + ((2 : Int32).toInt64)) - (1 : Int64))), .second, iv 0] [])) tq → Steps p.tables e below (T130.setTop (mkF m 94 #[rv a1, iv p1, rv r0, .val (.long (((p1.toInt64) + ((2 : Int32).toInt64)) - (1 : Int64))), .second, iv 2] [])) tq := by
    intro tq kk
    show Steps _ _ _ (T130.setTop (mkF m 94 #[rv a1, iv p1, rv r0, .val (.long (((p1.toInt64) + ((2 : Int32).toInt64)) - (1 : Int64))), .second, iv 2] [])) _
    refine XS.iload X130.here hx rfl (hb hby own_d3_94) rfl ?_
    show Steps _ _ _ (T130.setTop (mkF m 96 _ [.int 2])) _
    refine XS.aloadN X130.here hx rfl (hb hby own_d3_96) rfl rfl ?_
    show Steps _ _ _ (T130.setTop (mkF m 97 _ [.ref r0, .int 2])) _
    refine X130.arraylength hx (by rw [e130]; exact Ar131.1) (State.isArrayOf_alike hZ.alike Ar131.2.1) (g := (mkF m 97 #[rv a1, iv p1, rv r0, .val (.long (((p1.toInt64) + ((2 : Int32).toInt64)) - (1 : Int64))), .second, iv 2] [.ref r0, .int 2])) rfl rfl (hb hby own_d3_97) _ ?_
    rw [len_of aS131 aN131]
    show Steps _ _ _ (T130.setTop (mkF m 98 #[rv a1, iv p1, rv r0, .val (.long (((p1.toInt64) + ((2 : Int32).toInt64)) - (1 : Int64))), .second, iv 2] [.int 2, .int 2])) _
    refine XS.icmpYes X130.here hx rfl (pc0 := 98) (pc' := 179) rfl (hb hby own_d3_98) rfl (flt ((by decide) : ¬ ((2 : Int32) < (2 : Int32)))).2.1 (by decide) (by decide) ?_
    show Steps _ _ _ (T130.setTop (mkF m 179 _ [])) _
    refine XS.aloadN X130.here hx rfl (hb hby own_d3_179) rfl rfl ?_
    show Steps _ _ _ (T130.setTop (mkF m 180 _ [.ref a1])) _
    refine XS.iloadN X130.here hx rfl (hb hby own_d3_180) rfl ?_
    show Steps _ _ _ (T130.setTop (mkF m 181 _ [.int p1, .ref a1])) _
    refine st137 _ ?_
    show Steps _ _ _ (T137.setTop (mkF m 184 #[rv a1, iv p1, rv r0, .val (.long (((p1.toInt64) + ((2 : Int32).toInt64)) - (1 : Int64))), .second, iv 2] [])) _
    refine XS.aloadN X137.here hx rfl (hb hby own_d3_184) rfl rfl ?_
    show Steps _ _ _ (T137.setTop (mkF m 185 _ [.ref a1])) _
    refine XS.aloadN X137.here hx rfl (hb hby own_d3_185) rfl rfl ?_
    show Steps _ _ _ (T137.setTop (mkF m 186 _ [.ref r0, .ref a1])) _
    refine XS.aloadN X137.here hx rfl (hb hby own_d3_186) rfl rfl ?_
    show Steps _ _ _ (T137.setTop (mkF m 187 _ [.ref r0, .ref r0, .ref a1])) _
    refine X137.arraylength hx (by rw [e137]; exact Ar140.1) (State.isArrayOf_alike hZ.alike Ar140.2.1) (g := (mkF m 187 #[rv a1, iv p1, rv r0, .val (.long (((p1.toInt64) + ((2 : Int32).toInt64)) - (1 : Int64))), .second, iv 2] [.ref r0, .ref r0, .ref a1])) rfl rfl (hb hby own_d3_187) _ ?_
    rw [len_of aS140 aN140]
    show Steps _ _ _ (T137.setTop (mkF m 188 #[rv a1, iv p1, rv r0, .val (.long (((p1.toInt64) + ((2 : Int32).toInt64)) - (1 : Int64))), .second, iv 2] [.int 2, .ref r0, .ref a1])) _
    refine st143 _ ?_
    show Steps _ _ _ (T143.setTop (mkF m 191 #[rv a1, iv p1, rv r0, .val (.long (((p1.toInt64) + ((2 : Int32).toInt64)) - (1 : Int64))), .second, iv 2] [.ref b143, .ref a1])) _
    refine st148 _ ?_
    show Steps _ _ _ (T148.setTop (mkF m 194 #[rv a1, iv p1, rv r0, .val (.long (((p1.toInt64) + ((2 : Int32).toInt64)) - (1 : Int64))), .second, iv 2] [])) _
    refine XS.aloadN X148.here hx rfl (hb hby own_d3_194) rfl rfl ?_
    show Steps _ _ _ (T148.setTop (mkF m 195 _ [.ref a1])) _
    refine XS.aloadN X148.here hx rfl (hb hby own_d3_195) rfl rfl ?_
    show Steps _ _ _ (T148.setTop (mkF m 196 _ [.ref r0, .ref a1])) _
    refine X148.arraylength hx (by rw [e148]; exact Ar153.1) (State.isArrayOf_alike hZ.alike Ar153.2.1) (g := (mkF m 196 #[rv a1, iv p1, rv r0, .val (.long (((p1.toInt64) + ((2 : Int32).toInt64)) - (1 : Int64))), .second, iv 2] [.ref r0, .ref a1])) rfl rfl (hb hby own_d3_196) _ ?_
    rw [len_of aS153 aN153]
    show Steps _ _ _ (T148.setTop (mkF m 197 #[rv a1, iv p1, rv r0, .val (.long (((p1.toInt64) + ((2 : Int32).toInt64)) - (1 : Int64))), .second, iv 2] [.int 2, .ref a1])) _
    refine st155 _ ?_
    show Steps _ _ _ (T155.setTop (mkF m 200 #[rv a1, iv p1, rv r0, .val (.long (((p1.toInt64) + ((2 : Int32).toInt64)) - (1 : Int64))), .second, iv 2] [.ref b155, .ref a1])) _
    refine st160 _ ?_
    show Steps _ _ _ (T160.setTop (mkF m 203 #[rv a1, iv p1, rv r0, .val (.long (((p1.toInt64) + ((2 : Int32).toInt64)) - (1 : Int64))), .second, iv 2] [])) _
    refine XS.iconst X160.here hx rfl (hb hby own_d3_203) ?_
    show Steps _ _ _ (T160.setTop (mkF m 204 _ [.int 0])) _
    refine XS.istore X160.here hx rfl (hb hby own_d3_204) rfl (l' := #[rv a1, iv p1, rv r0, .val (.long (((p1.toInt64) + ((2 : Int32).toInt64)) - (1 : Int64))), .second, iv 0]) rfl ?_
    exact kk
  have hq : ∀ j, j < 2 → ∃ q, ([(.double q0), (.double q1)] : List Value).getD j (.double 0) = .double q ∧ Mag64 1024 q := by
    intro j hj
    rcases (show j = 0 ∨ j = 1 by omega) with rfl | rfl
    · exact ⟨q0, rfl, ok0.2.2.2⟩
    · exact ⟨q1, rfl, ok1.2.2.2⟩
  have f167 := ((f154.ext E155).other W160 hra)
  obtain ⟨cl166, Ar166, aq166, aS166, aN166, aH166, aG166⟩ := id f167
  obtain ⟨T168, X168, e168, st168⟩ := getF X160 hx hZ hown (host := "") (Or.inl (W 33 rfl)) Via.refl e160 Fw160 (g := (mkF m 214 #[rv a1, iv p1, rv r0, .val (.long (((p1.toInt64) + ((2 : Int32).toInt64)) - (1 : Int64))), .second, iv 0] [.ref a1])) rfl rfl (hb hby own_d3_214)
  have f169 := ((((Fw137.keep K143 nin0).other W148 (Or.inr (slot_ne (Or.inr (W 15 rfl)) (Or.inr (W 30 rfl)) (by decide) (t := .int) (t' := (.array .double)) (by decide) (by decide)))).ext E155).other W160 (Or.inr (slot_ne (Or.inr (W 15 rfl)) (Or.inr (W 34 rfl)) (by decide) (t := .int) (t' := (.array (.array .double))) (by decide) (by decide))))
  have f170 := ((Fw148.ext E155).other W160 (Or.inr (slot_ne (Or.inr (W 30 rfl)) (Or.inr (W 34 rfl)) (by decide) (t := (.array .double)) (t' := (.array (.array .double))) (by decide) (by decide))))
  have f171 := (Nat.lt_of_lt_of_le E1.lt (Keep.of_wr W137).1)
  have f172 := (((V143.other W148 (Ne.symm (Nat.ne_of_lt (Nat.lt_of_lt_of_le f171 sb143)))).ext E155).other W160 (Ne.symm (Nat.ne_of_lt (Nat.lt_of_lt_of_le f171 sb143))))
  have f174 := (f162.wr W160)
  obtain ⟨cq173, q173, q173'⟩ := f174.cell
  obtain ⟨_, _, ⟨T173, L173, k173, n173⟩, -, X173, ⟨Lc173, hQ173, l173, y173, z173⟩, st173⟩ := X168.privateBack hx (y := (⟨"com/example/pensionwright/pensionwright/actuarial/MortalityTable", "aliveByMonth", "(I)[D"⟩ : MethodName)) hown (mvT hZ (W 35 rfl)) (mvT hZ (W 36 rfl)) (mvT hZ (own_selP (W 5 rfl) (W 36 rfl) (W 37 rfl) (by decide))) (Cond.privateMethod_at (mvP hZ (W 37 rfl) (args := #[]))) (mvT hZ (W 38 rfl)) (by decide) (backOf (W := 2) (rm_alv l Z a0 hw [] a1 b143 (p1 + (0 : Int32)) p1 kr [(.double q0), (.double q1)] 2 0 h160 n0 Z163 f169 f170 f172 (own_back _ _) (by decide) (by decide) hq) hZ (W 38 rfl) (W 6 rfl) (by decide) (by decide)) (g := (mkF m 224 #[rv a1, iv p1, rv r0, .val (.long (((p1.toInt64) + ((2 : Int32).toInt64)) - (1 : Int64))), .second, iv 0] [.int (p1 + (0 : Int32)), .ref a1, .int 0, .ref b155])) rfl (by rw [hml]; rfl) (Steps.refl _) (a := a1) (by rw [e168]; exact q173) q173' (argsL := [.int (p1 + (0 : Int32))]) (rest := [.int 0, .ref b155]) (lenOf own_pd_4 rfl) rfl own_wt (hb hby own_d3_224) (fun _ _ => ⟨rfl, e168, (by decide : 2 + 1 ≤ _), (by decide : 6 + 36 ≤ _)⟩)
  dsimp only [Pt.U, Pt.locs, Pt.cells, Pt.slots] at X173 l173 y173 z173 st173 hQ173
  subst l173 y173 z173
  obtain ⟨b173, hv173, Nq173, K173, sb173, ex173⟩ := hQ173
  subst hv173
  have N173 := Fr.app N160 Nq173
  have g175 : n0 ≤ b173 := Nat.le_trans Z163 sb173
  have g176 : h0.size ≤ b173 := Nat.le_trans K164.1 sb173
  have Z177 : n0 ≤ T173.heap.size := Nat.le_trans Z163 K173.1
  have K178 : Keep h0 T173.heap [a1] := K164.trans K173 all0
  have f180 := (Nat.lt_of_lt_of_le (Nat.lt_of_lt_of_le f171 K143.1) (Keep.of_wr W148).1)
  have f181 := ((V155.other W160 (Ne.symm (Nat.ne_of_lt (Nat.lt_of_lt_of_le f180 (Nat.le_of_eq g155.symm))))).keep K173 nin0)
  obtain ⟨cl179, Ar179, aq179, aS179, aN179, aH179, aG179⟩ := id f181
  obtain ⟨T182, h182, X182, e182, W182, st182⟩ := stR X173 hx hZ rfl Ar179 (j := (0 : Int32)) (inb_of aS179 ⟨(by decide), (by decide)⟩) rfl (Sto.ofVA Ar179 aq179 ov155 (Ins.self ex173)) (g := (mkF m 227 #[rv a1, iv p1, rv r0, .val (.long (((p1.toInt64) + ((2 : Int32).toInt64)) - (1 : Int64))), .second, iv 0] [.ref b173, .int 0, .ref b155])) rfl rfl (hb hby own_d3_227)
  have N182 := Fr.snoc X182 N173 g156
  have V182 : Arv Z h182 b155 k155 (.array .double) (2 : Int32) [(.ref b173), .null] .null := Arv.set Ar179 aq179 aS179 aN179 aH179 aG179 rfl W182 0 rfl (Nat.le_of_ble_eq_true rfl)
  have Z183 : n0 ≤ h182.size := Nat.le_trans Z177 (Keep.of_wr W182).1
  have K184 : Keep h0 h182 [a1] := K178.wr W182 (Or.inr g157)
  have G185 : ∀ tq, Steps p.tables e below (T182.setTop (mkF m 206 #[rv a1, iv p1, rv r0, .val (.long (((p1.toInt64) + ((2 : Int32).toInt64)) - (1 : Int64))), .second, iv 1] [])) tq → Steps p.tables e below (T160.setTop (mkF m 206 #[rv a1, iv p1, rv r0, .val (.long (((p1.toInt64) + ((2 : Int32).toInt64)) - (1 : Int64))), .second, iv 0] [])) tq := by
    intro tq kk
    show Steps _ _ _ (T160.setTop (mkF m 206 #[rv a1, iv p1, rv r0, .val (.long (((p1.toInt64) + ((2 : Int32).toInt64)) - (1 : Int64))), .second, iv 0] [])) _
    refine XS.iload X160.here hx rfl (hb hby own_d3_206) rfl ?_
    show Steps _ _ _ (T160.setTop (mkF m 208 _ [.int 0])) _
    refine XS.aloadN X160.here hx rfl (hb hby own_d3_208) rfl rfl ?_
    show Steps _ _ _ (T160.setTop (mkF m 209 _ [.ref r0, .int 0])) _
    refine X160.arraylength hx (by rw [e160]; exact Ar166.1) (State.isArrayOf_alike hZ.alike Ar166.2.1) (g := (mkF m 209 #[rv a1, iv p1, rv r0, .val (.long (((p1.toInt64) + ((2 : Int32).toInt64)) - (1 : Int64))), .second, iv 0] [.ref r0, .int 0])) rfl rfl (hb hby own_d3_209) _ ?_
    rw [len_of aS166 aN166]
    show Steps _ _ _ (T160.setTop (mkF m 210 #[rv a1, iv p1, rv r0, .val (.long (((p1.toInt64) + ((2 : Int32).toInt64)) - (1 : Int64))), .second, iv 0] [.int 2, .int 0])) _
    refine XS.icmpNo X160.here hx rfl (hb hby own_d3_210) rfl (tlt ((by decide) : (0 : Int32) < (2 : Int32))).2.1 ?_
    show Steps _ _ _ (T160.setTop (mkF m 213 _ [])) _
    refine XS.aloadN X160.here hx rfl (hb hby own_d3_213) rfl rfl ?_
    show Steps _ _ _ (T160.setTop (mkF m 214 _ [.ref a1])) _
    refine st168 _ ?_
    show Steps _ _ _ (T168.setTop (mkF m 217 #[rv a1, iv p1, rv r0, .val (.long (((p1.toInt64) + ((2 : Int32).toInt64)) - (1 : Int64))), .second, iv 0] [.ref b155])) _
    refine XS.iload X168.here hx rfl (hb hby own_d3_217) rfl ?_
    show Steps _ _ _ (T168.setTop (mkF m 219 _ [.int 0, .ref b155])) _
    refine XS.aloadN X168.here hx rfl (hb hby own_d3_219) rfl rfl ?_
    show Steps _ _ _ (T168.setTop (mkF m 220 _ [.ref a1, .int 0, .ref b155])) _
    refine XS.iloadN X168.here hx rfl (hb hby own_d3_220) rfl ?_
    show Steps _ _ _ (T168.setTop (mkF m 221 _ [.int p1, .ref a1, .int 0, .ref b155])) _
    refine XS.iload X168.here hx rfl (hb hby own_d3_221) rfl ?_
    show Steps _ _ _ (T168.setTop (mkF m 223 _ [.int 0, .int p1, .ref a1, .int 0, .ref b155])) _
    refine XS.iadd X168.here hx rfl (hb hby own_d3_223) rfl ?_
    show Steps _ _ _ (T168.setTop (mkF m 224 _ [.int (p1 + (0 : Int32)), .ref a1, .int 0, .ref b155])) _
    refine st173.trans ?_
    show Steps _ _ _ (T173.setTop (mkF m 227 #[rv a1, iv p1, rv r0, .val (.long (((p1.toInt64) + ((2 : Int32).toInt64)) - (1 : Int64))), .second, iv 0] [.ref b173, .int 0, .ref b155])) _
    refine st182 _ ?_
    show Steps _ _ _ (T182.setTop (mkF m 228 #[rv a1, iv p1, rv r0, .val (.long (((p1.toInt64) + ((2 : Int32).toInt64)) - (1 : Int64))), .second, iv 0] [])) _
    refine XS.iinc X182.here hx rfl (hb hby own_d3_228) rfl (l' := #[rv a1, iv p1, rv r0, .val (.long (((p1.toInt64) + ((2 : Int32).toInt64)) - (1 : Int64))), .second, iv 1]) rfl ?_
    show Steps _ _ _ (T182.setTop (mkF m 231 _ [])) _
    refine XS.goto X182.here hx rfl (pc0 := 231) (pc' := 206) rfl (hb hby own_d3_231) (by decide) (by decide) ?_
    exact kk
  have f187 := (Nat.lt_of_lt_of_le (Nat.lt_of_lt_of_le (Nat.lt_of_lt_of_le ER.lt (Keep.of_wr W137).1) K143.1) (Keep.of_wr W148).1)
  have f188 := ((f167.keep K173 nin0).other W182 (Nat.ne_of_lt (Nat.lt_of_lt_of_le f187 (Nat.le_of_eq g155.symm))))
  obtain ⟨cl186, Ar186, aq186, aS186, aN186, aH186, aG186⟩ := id f188
  have f189 := ((Fw160.keep K173 nin0).other W182 (Or.inl (Nat.ne_of_lt (Nat.lt_of_lt_of_le f180 (Nat.le_of_eq g155.symm)))))
  obtain ⟨T190, X190, e190, st190⟩ := getF X182 hx hZ hown (host := "") (Or.inl (W 33 rfl)) Via.refl e182 f189 (g := (mkF m 214 #[rv a1, iv p1, rv r0, .val (.long (((p1.toInt64) + ((2 : Int32).toInt64)) - (1 : Int64))), .second, iv 1] [.ref a1])) rfl rfl (hb hby own_d3_214)
  have f191 := ((f169.keep K173 nin0).other W182 (Or.inl (Nat.ne_of_lt (Nat.lt_of_lt_of_le f180 (Nat.le_of_eq g155.symm)))))
  have f192 := ((f170.keep K173 nin0).other W182 (Or.inl (Nat.ne_of_lt (Nat.lt_of_lt_of_le f180 (Nat.le_of_eq g155.symm)))))
  have f193 := (Nat.lt_of_lt_of_le V143.lt (Keep.of_wr W148).1)
  have f194 := ((f172.keep K173 nin0).other W182 (Nat.ne_of_lt (Nat.lt_of_lt_of_le f193 (Nat.le_of_eq g155.symm))))
  have f196 := ((f174.keep K173).wr W182)
  obtain ⟨cq195, q195, q195'⟩ := f196.cell
  obtain ⟨_, _, ⟨T195, L195, k195, n195⟩, -, X195, ⟨Lc195, hQ195, l195, y195, z195⟩, st195⟩ := X190.privateBack hx (y := (⟨"com/example/pensionwright/pensionwright/actuarial/MortalityTable", "aliveByMonth", "(I)[D"⟩ : MethodName)) hown (mvT hZ (W 35 rfl)) (mvT hZ (W 36 rfl)) (mvT hZ (own_selP (W 5 rfl) (W 36 rfl) (W 37 rfl) (by decide))) (Cond.privateMethod_at (mvP hZ (W 37 rfl) (args := #[]))) (mvT hZ (W 38 rfl)) (by decide) (backOf (W := 2) (rm_alv l Z a0 hw [] a1 b143 (p1 + (1 : Int32)) p1 kr [(.double q0), (.double q1)] 2 1 h182 n0 Z183 f191 f192 f194 (own_back _ _) (by decide) (by decide) hq) hZ (W 38 rfl) (W 6 rfl) (by decide) (by decide)) (g := (mkF m 224 #[rv a1, iv p1, rv r0, .val (.long (((p1.toInt64) + ((2 : Int32).toInt64)) - (1 : Int64))), .second, iv 1] [.int (p1 + (1 : Int32)), .ref a1, .int 1, .ref b155])) rfl (by rw [hml]; rfl) (Steps.refl _) (a := a1) (by rw [e190]; exact q195) q195' (argsL := [.int (p1 + (1 : Int32))]) (rest := [.int 1, .ref b155]) (lenOf own_pd_4 rfl) rfl own_wt (hb hby own_d3_224) (fun _ _ => ⟨rfl, e190, (by decide : 3 + 1 ≤ _), (by decide : 42 + 36 ≤ _)⟩)
  dsimp only [Pt.U, Pt.locs, Pt.cells, Pt.slots] at X195 l195 y195 z195 st195 hQ195
  subst l195 y195 z195
  obtain ⟨b195, hv195, Nq195, K195, sb195, ex195⟩ := hQ195
  subst hv195
  have N195 := Fr.app N182 Nq195
  have g197 : n0 ≤ b195 := Nat.le_trans Z183 sb195
  have g198 : h0.size ≤ b195 := Nat.le_trans K184.1 sb195
  have Z199 : n0 ≤ T195.heap.size := Nat.le_trans Z183 K195.1
  have K200 : Keep h0 T195.heap [a1] := K184.trans K195 all0
  have f202 := (V182.keep K195 nin0)
  obtain ⟨cl201, Ar201, aq201, aS201, aN201, aH201, aG201⟩ := id f202
  obtain ⟨T203, h203, X203, e203, W203, st203⟩ := stR X195 hx hZ rfl Ar201 (j := (1 : Int32)) (inb_of aS201 ⟨(by decide), (by decide)⟩) rfl (Sto.ofVA Ar201 aq201 ov155 (Ins.self ex195)) (g := (mkF m 227 #[rv a1, iv p1, rv r0, .val (.long (((p1.toInt64) + ((2 : Int32).toInt64)) - (1 : Int64))), .second, iv 1] [.ref b195, .int 1, .ref b155])) rfl rfl (hb hby own_d3_227)
  have N203 := Fr.snoc X203 N195 g156
  have V203 : Arv Z h203 b155 k155 (.array .double) (2 : Int32) [(.ref b173), (.ref b195)] .null := Arv.set Ar201 aq201 aS201 aN201 aH201 aG201 rfl W203 1 rfl (Nat.le_of_ble_eq_true rfl)
  have Z204 : n0 ≤ h203.size := Nat.le_trans Z199 (Keep.of_wr W203).1
  have K205 : Keep h0 h203 [a1] := K200.wr W203 (Or.inr g157)
  have G206 : ∀ tq, Steps p.tables e below (T203.setTop (mkF m 206 #[rv a1, iv p1, rv r0, .val (.long (((p1.toInt64) + ((2 : Int32).toInt64)) - (1 : Int64))), .second, iv 2] [])) tq → Steps p.tables e below (T182.setTop (mkF m 206 #[rv a1, iv p1, rv r0, .val (.long (((p1.toInt64) + ((2 : Int32).toInt64)) - (1 : Int64))), .second, iv 1] [])) tq := by
    intro tq kk
    show Steps _ _ _ (T182.setTop (mkF m 206 #[rv a1, iv p1, rv r0, .val (.long (((p1.toInt64) + ((2 : Int32).toInt64)) - (1 : Int64))), .second, iv 1] [])) _
    refine XS.iload X182.here hx rfl (hb hby own_d3_206) rfl ?_
    show Steps _ _ _ (T182.setTop (mkF m 208 _ [.int 1])) _
    refine XS.aloadN X182.here hx rfl (hb hby own_d3_208) rfl rfl ?_
    show Steps _ _ _ (T182.setTop (mkF m 209 _ [.ref r0, .int 1])) _
    refine X182.arraylength hx (by rw [e182]; exact Ar186.1) (State.isArrayOf_alike hZ.alike Ar186.2.1) (g := (mkF m 209 #[rv a1, iv p1, rv r0, .val (.long (((p1.toInt64) + ((2 : Int32).toInt64)) - (1 : Int64))), .second, iv 1] [.ref r0, .int 1])) rfl rfl (hb hby own_d3_209) _ ?_
    rw [len_of aS186 aN186]
    show Steps _ _ _ (T182.setTop (mkF m 210 #[rv a1, iv p1, rv r0, .val (.long (((p1.toInt64) + ((2 : Int32).toInt64)) - (1 : Int64))), .second, iv 1] [.int 2, .int 1])) _
    refine XS.icmpNo X182.here hx rfl (hb hby own_d3_210) rfl (tlt ((by decide) : (1 : Int32) < (2 : Int32))).2.1 ?_
    show Steps _ _ _ (T182.setTop (mkF m 213 _ [])) _
    refine XS.aloadN X182.here hx rfl (hb hby own_d3_213) rfl rfl ?_
    show Steps _ _ _ (T182.setTop (mkF m 214 _ [.ref a1])) _
    refine st190 _ ?_
    show Steps _ _ _ (T190.setTop (mkF m 217 #[rv a1, iv p1, rv r0, .val (.long (((p1.toInt64) + ((2 : Int32).toInt64)) - (1 : Int64))), .second, iv 1] [.ref b155])) _
    refine XS.iload X190.here hx rfl (hb hby own_d3_217) rfl ?_
    show Steps _ _ _ (T190.setTop (mkF m 219 _ [.int 1, .ref b155])) _
    refine XS.aloadN X190.here hx rfl (hb hby own_d3_219) rfl rfl ?_
    show Steps _ _ _ (T190.setTop (mkF m 220 _ [.ref a1, .int 1, .ref b155])) _
    refine XS.iloadN X190.here hx rfl (hb hby own_d3_220) rfl ?_
    show Steps _ _ _ (T190.setTop (mkF m 221 _ [.int p1, .ref a1, .int 1, .ref b155])) _
    refine XS.iload X190.here hx rfl (hb hby own_d3_221) rfl ?_
    show Steps _ _ _ (T190.setTop (mkF m 223 _ [.int 1, .int p1, .ref a1, .int 1, .ref b155])) _
    refine XS.iadd X190.here hx rfl (hb hby own_d3_223) rfl ?_
    show Steps _ _ _ (T190.setTop (mkF m 224 _ [.int (p1 + (1 : Int32)), .ref a1, .int 1, .ref b155])) _
    refine st195.trans ?_
    show Steps _ _ _ (T195.setTop (mkF m 227 #[rv a1, iv p1, rv r0, .val (.long (((p1.toInt64) + ((2 : Int32).toInt64)) - (1 : Int64))), .second, iv 1] [.ref b195, .int 1, .ref b155])) _
    refine st203 _ ?_
    show Steps _ _ _ (T203.setTop (mkF m 228 #[rv a1, iv p1, rv r0, .val (.long (((p1.toInt64) + ((2 : Int32).toInt64)) - (1 : Int64))), .second, iv 1] [])) _
    refine XS.iinc X203.here hx rfl (hb hby own_d3_228) rfl (l' := #[rv a1, iv p1, rv r0, .val (.long (((p1.toInt64) + ((2 : Int32).toInt64)) - (1 : Int64))), .second, iv 2]) rfl ?_
    show Steps _ _ _ (T203.setTop (mkF m 231 _ [])) _
    refine XS.goto X203.here hx rfl (pc0 := 231) (pc' := 206) rfl (hb hby own_d3_231) (by decide) (by decide) ?_
    exact kk
  have f208 := ((f188.keep K195 nin0).other W203 (Nat.ne_of_lt (Nat.lt_of_lt_of_le f187 (Nat.le_of_eq g155.symm))))
  obtain ⟨cl207, Ar207, aq207, aS207, aN207, aH207, aG207⟩ := id f208
  have f209 := ((f196.keep K195).wr W203)
  have f210 := ((f191.keep K195 nin0).other W203 (Or.inl (Nat.ne_of_lt (Nat.lt_of_lt_of_le f180 (Nat.le_of_eq g155.symm)))))
  have f211 := ((f192.keep K195 nin0).other W203 (Or.inl (Nat.ne_of_lt (Nat.lt_of_lt_of_le f180 (Nat.le_of_eq g155.symm)))))
  have f212 := ((f194.keep K195 nin0).other W203 (Nat.ne_of_lt (Nat.lt_of_lt_of_le f193 (Nat.le_of_eq g155.symm))))
  obtain ⟨fs, hr, hrun, hended, hW, hsame⟩ := X203.leave (v := none) (fun _ => rfl)
  refine ⟨_, _, pre0 _ (G132 _ (G133 _ (G134 _ (GL _ (G165 _ (G185 _ (G206 _ (?_)))))))), hrun, hended, _, _, rfl, ?_, ⟨_, rfl⟩, hW, hsame.mono (by decide) (by decide)⟩
  · show Steps _ _ _ (T203.setTop (mkF m 206 #[rv a1, iv p1, rv r0, .val (.long (((p1.toInt64) + ((2 : Int32).toInt64)) - (1 : Int64))), .second, iv 2] [])) _
    refine XS.iload X203.here hx rfl (hb hby own_d3_206) rfl ?_
    show Steps _ _ _ (T203.setTop (mkF m 208 _ [.int 2])) _
    refine XS.aloadN X203.here hx rfl (hb hby own_d3_208) rfl rfl ?_
    show Steps _ _ _ (T203.setTop (mkF m 209 _ [.ref r0, .int 2])) _
    refine X203.arraylength hx (by rw [e203]; exact Ar207.1) (State.isArrayOf_alike hZ.alike Ar207.2.1) (g := (mkF m 209 #[rv a1, iv p1, rv r0, .val (.long (((p1.toInt64) + ((2 : Int32).toInt64)) - (1 : Int64))), .second, iv 2] [.ref r0, .int 2])) rfl rfl (hb hby own_d3_209) _ ?_
    rw [len_of aS207 aN207]
    show Steps _ _ _ (T203.setTop (mkF m 210 #[rv a1, iv p1, rv r0, .val (.long (((p1.toInt64) + ((2 : Int32).toInt64)) - (1 : Int64))), .second, iv 2] [.int 2, .int 2])) _
    refine XS.icmpYes X203.here hx rfl (pc0 := 210) (pc' := 234) rfl (hb hby own_d3_210) rfl (flt ((by decide) : ¬ ((2 : Int32) < (2 : Int32)))).2.1 (by decide) (by decide) ?_
    show Steps _ _ _ (T203.setTop (mkF m 234 _ [])) _
    exact X203.returnOut hx Bd.returns (hb hby own_d3_234) hr
  · show Q_mi2 Z a1 r0 p1 kr q0 q1 h0 n0 _ T203.heap _
    rw [e203]
    exact ⟨rfl, N203, K205, f209, f210, b143, f211, f212⟩
theorem own_ef_la3 (m : MethodId) (x0 : Addr) : entryFrame m #[(.ref x0)] 1 = mkF m 0 #[rv x0] [] := by first | (simp [entryFrame, mkF, argsToLocals, Value.category]; done) | rfl
def Q_la3 (Z : State) (a1 r1 : Addr) (f1 : Int32) (kr : ClassId) (vs : List Value) (h0 : Heap) (n0 : Nat) (v : Option Value) (h : Heap) (L : List Loc) : Prop := v = some (.int ((f1 + (3 : Int32)) - (1 : Int32))) ∧ Fr n0 L ∧ h = h0
set_option maxRecDepth 65536 in
set_option maxHeartbeats 40000000 in
theorem rm_la3 (l : Launch) (Z : State) (a0 : Array Value) (hw : ∀ d ∈ tables_1, d.before a0 Z = true) (ws : List Jvm.Cond) (a1 r1 : Addr) (f1 : Int32) (kr : ClassId) (vs : List Value) (h0 : Heap) (n0 : Nat) (Z0 : n0 ≤ h0.size) (F1 : Fld Z h0 a1 "com/example/pensionwright/pensionwright/actuarial/MortalityTable" "firstAge" "I" (.int f1)) (F2 : Fld Z h0 a1 "com/example/pensionwright/pensionwright/actuarial/MortalityTable" "rates" "[D" (.ref r1)) (V1 : Arv Z h0 r1 kr .double (3 : Int32) vs (.double 0)) :
    MetFree l (⟨"com/example/pensionwright/pensionwright/actuarial/MortalityTable", "lastAge", "()I"⟩ : MethodName) (head1 (Jvm.Cond.code (⟨"com/example/pensionwright/pensionwright/actuarial/MortalityTable", "lastAge", "()I"⟩ : MethodName) prog_3_method_3_code 1 (some .int) :: ws) ({ frames := 0, cells := 0, slots := 0, locals := 0 } : Room)) (fun a U => a = #[(.ref a1)] ∧ Z.Warmed39 U.vm ∧ U.heap = h0) (fun _ _ _ _ _ => True) (fun _ U o U' => ∃ v L, o = .returned v ∧ Q_la3 Z a1 r1 f1 kr vs h0 n0 v U'.heap L ∧ FrameEnd U o U' L ({ frames := 0, cells := 0, slots := 0, locals := 0 } : Room).cells ({ frames := 0, cells := 0, slots := 0, locals := 0 } : Room).slots) := by
  refine MetFree.of_bodySF (plainFor_of_name own_pn_0) hisR ?_
  intro p e s m args below meth c s₁ Bd hml0 hP hK
  obtain ⟨rfl, hZ, hh⟩ := hP
  have hx := Bd.exec
  have hby := Bd.bytes
  have hml : c.maxLocals = 1 := hml0
  have hown : s.vm.findClass "com/example/pensionwright/pensionwright/actuarial/MortalityTable" = some m.cls := findClass_of_methodNamed Bd.named
  have hnm := (name_of_methodNamed Bd.named Bd.method).1
  have W := own_W hw
  have X0 : Stand p l e ({ frames := 0, cells := 0, slots := 0, locals := 0 } : Room) s m #[(.ref a1)] below meth c s₁ [] 0 0 := Stand.of_body Bd
  have e0 : s₁.heap = h0 := by rw [← hh, Bd.state]; rfl
  have N0 := Fr.nil n0
  have pre0 : ∀ tq, Steps p.tables e below (s₁.setTop (mkF m 0 #[rv a1] [])) tq → Steps p.tables e below (s₁.setTop (entryFrame m #[(.ref a1)] 1)) tq := fun tq k => castTop (own_ef_la3 m a1) k
  obtain ⟨T213, X213, e213, st213⟩ := getF X0 hx hZ hown (host := "") (Or.inl (W 14 rfl)) Via.refl e0 F1 (g := (mkF m 1 #[rv a1] [.ref a1])) rfl rfl (hb hby own_d4_1)
  obtain ⟨T214, X214, e214, st214⟩ := getF X213 hx hZ hown (host := "") (Or.inl (W 29 rfl)) Via.refl e213 F2 (g := (mkF m 5 #[rv a1] [.ref a1, .int f1])) rfl rfl (hb hby own_d4_5)
  obtain ⟨cl215, Ar215, aq215, aS215, aN215, aH215, aG215⟩ := id V1
  obtain ⟨fs, hr, hrun, hended, hW, hsame⟩ := X214.leave (v := some (.int ((f1 + (3 : Int32)) - (1 : Int32)))) (fun h => by rw [Bd.returns] at h; cases h)
  refine ⟨_, _, pre0 _ (?_), hrun, hended, _, _, rfl, ?_, ⟨_, rfl⟩, hW, hsame.mono (by decide) (by decide)⟩
  · show Steps _ _ _ (s₁.setTop (mkF m 0 #[rv a1] [])) _
    refine XS.aloadN X0.here hx rfl (hb hby own_d4_0) rfl rfl ?_
    show Steps _ _ _ (s₁.setTop (mkF m 1 _ [.ref a1])) _
    refine st213 _ ?_
    show Steps _ _ _ (T213.setTop (mkF m 4 #[rv a1] [.int f1])) _
    refine XS.aloadN X213.here hx rfl (hb hby own_d4_4) rfl rfl ?_
    show Steps _ _ _ (T213.setTop (mkF m 5 _ [.ref a1, .int f1])) _
    refine st214 _ ?_
    show Steps _ _ _ (T214.setTop (mkF m 8 #[rv a1] [.ref r1, .int f1])) _
    refine X214.arraylength hx (by rw [e214]; exact Ar215.1) (State.isArrayOf_alike hZ.alike Ar215.2.1) (g := (mkF m 8 #[rv a1] [.ref r1, .int f1])) rfl rfl (hb hby own_d4_8) _ ?_
    rw [len_of aS215 aN215]
    show Steps _ _ _ (T214.setTop (mkF m 9 #[rv a1] [.int 3, .int f1])) _
    refine XS.iadd X214.here hx rfl (hb hby own_d4_9) rfl ?_
    show Steps _ _ _ (T214.setTop (mkF m 10 _ [.int (f1 + (3 : Int32))])) _
    refine XS.iconst X214.here hx rfl (hb hby own_d4_10) ?_
    show Steps _ _ _ (T214.setTop (mkF m 11 _ [.int 1, .int (f1 + (3 : Int32))])) _
    refine XS.isub X214.here hx rfl (hb hby own_d4_11) rfl ?_
    show Steps _ _ _ (T214.setTop (mkF m 12 _ [.int ((f1 + (3 : Int32)) - (1 : Int32))])) _
    exact retI X214 hx Bd.returns (hb hby own_d4_12) hr
  · show Q_la3 Z a1 r1 f1 kr vs h0 n0 _ T214.heap _
    rw [e214]
    exact ⟨rfl, N0, rfl⟩
theorem own_ef_qx3 (m : MethodId) (x0 : Addr) (x1 : Int32) : entryFrame m #[(.ref x0), (.int x1)] 2 = mkF m 0 #[rv x0, iv x1] [] := by first | (simp [entryFrame, mkF, argsToLocals, Value.category]; done) | rfl
def Q_qx3 (Z : State) (a1 r1 : Addr) (f1 : Int32) (kr : ClassId) (q0 q1 q2 : UInt64) (h0 : Heap) (n0 : Nat) (v : Option Value) (h : Heap) (L : List Loc) : Prop := v = some (.double q2) ∧ Fr n0 L ∧ h = h0
set_option maxRecDepth 65536 in
set_option maxHeartbeats 40000000 in
theorem rm_qx3 (l : Launch) (Z : State) (a0 : Array Value) (hw : ∀ d ∈ tables_1, d.before a0 Z = true) (ws : List Jvm.Cond) (a1 r1 : Addr) (f1 : Int32) (kr : ClassId) (q0 q1 q2 : UInt64) (h0 : Heap) (n0 : Nat) (Z0 : n0 ≤ h0.size) (E1 : Exa Z h0 a1 "com/example/pensionwright/pensionwright/actuarial/MortalityTable") (F1 : Fld Z h0 a1 "com/example/pensionwright/pensionwright/actuarial/MortalityTable" "firstAge" "I" (.int f1)) (F2 : Fld Z h0 a1 "com/example/pensionwright/pensionwright/actuarial/MortalityTable" "rates" "[D" (.ref r1)) (V1 : Arv Z h0 r1 kr .double (3 : Int32) [(.double q0), (.double q1), (.double q2)] (.double 0)) (hlt : ¬ ((f1 + (3 : Int32)) - (1 : Int32)) < f1) (hdf : ((f1 + (3 : Int32)) - (1 : Int32)) - f1 = (2 : Int32)) :
    MetFree l (⟨"com/example/pensionwright/pensionwright/actuarial/MortalityTable", "qx", "(I)D"⟩ : MethodName) (head1 (Jvm.Cond.code (⟨"com/example/pensionwright/pensionwright/actuarial/MortalityTable", "qx", "(I)D"⟩ : MethodName) prog_3_method_4_code 2 (some .double) :: ws) ({ frames := 1, cells := 0, slots := 0, locals := 16 } : Room)) (fun a U => a = #[(.ref a1), (.int ((f1 + (3 : Int32)) - (1 : Int32)))] ∧ Z.Warmed39 U.vm ∧ U.heap = h0) (fun _ _ _ _ _ => True) (fun _ U o U' => ∃ v L, o = .returned v ∧ Q_qx3 Z a1 r1 f1 kr q0 q1 q2 h0 n0 v U'.heap L ∧ FrameEnd U o U' L ({ frames := 1, cells := 0, slots := 0, locals := 16 } : Room).cells ({ frames := 1, cells := 0, slots := 0, locals := 16 } : Room).slots) := by
  refine MetFree.of_bodySF (plainFor_of_name own_pn_0) hisR ?_
  intro p e s m args below meth c s₁ Bd hml0 hP hK
  obtain ⟨rfl, hZ, hh⟩ := hP
  have hx := Bd.exec
  have hby := Bd.bytes
  have hml : c.maxLocals = 2 := hml0
  have hown : s.vm.findClass "com/example/pensionwright/pensionwright/actuarial/MortalityTable" = some m.cls := findClass_of_methodNamed Bd.named
  have hnm := (name_of_methodNamed Bd.named Bd.method).1
  have W := own_W hw
  have X0 : Stand p l e ({ frames := 1, cells := 0, slots := 0, locals := 16 } : Room) s m #[(.ref a1), (.int ((f1 + (3 : Int32)) - (1 : Int32)))] below meth c s₁ [] 0 0 := Stand.of_body Bd
  have e0 : s₁.heap = h0 := by rw [← hh, Bd.state]; rfl
  have N0 := Fr.nil n0
  have pre0 : ∀ tq, Steps p.tables e below (s₁.setTop (mkF m 0 #[rv a1, iv ((f1 + (3 : Int32)) - (1 : Int32))] [])) tq → Steps p.tables e below (s₁.setTop (entryFrame m #[(.ref a1), (.int ((f1 + (3 : Int32)) - (1 : Int32)))] 2)) tq := fun tq k => castTop (own_ef_qx3 m a1 ((f1 + (3 : Int32)) - (1 : Int32))) k
  obtain ⟨T216, X216, e216, st216⟩ := getF X0 hx hZ hown (host := "") (Or.inl (W 14 rfl)) Via.refl e0 F1 (g := (mkF m 2 #[rv a1, iv ((f1 + (3 : Int32)) - (1 : Int32))] [.ref a1, .int ((f1 + (3 : Int32)) - (1 : Int32))])) rfl rfl (hb hby own_d5_2)
  obtain ⟨cq217, kq217, q217a, q217b, q217c⟩ := isOf hZ e216 E1
  obtain ⟨_, _, ⟨T217, L217, k217, n217⟩, -, X217, ⟨Lc217, hQ217, l217, y217, z217⟩, st217⟩ := X216.virtualBack hx (y := (⟨"com/example/pensionwright/pensionwright/actuarial/MortalityTable", "lastAge", "()I"⟩ : MethodName)) (z := (⟨"com/example/pensionwright/pensionwright/actuarial/MortalityTable", "lastAge", "()I"⟩ : MethodName)) hown (mvT hZ (W 50 rfl)) (mvT hZ (W 41 rfl)) (notFace_of_selects (args := #[]) (mvT hZ (W 43 rfl))) (mvT hZ (W 43 rfl)) (mvT hZ (W 42 rfl)) (by decide) (backOf (W := 1) (rm_la3 l Z a0 hw [] a1 r1 f1 kr [(.double q0), (.double q1), (.double q2)] h0 n0 Z0 F1 F2 V1) hZ (W 44 rfl) (W 6 rfl) (by decide) (by decide)) q217a q217c (g := (mkF m 10 #[rv a1, iv ((f1 + (3 : Int32)) - (1 : Int32))] [.ref a1, .int ((f1 + (3 : Int32)) - (1 : Int32))])) rfl (by rw [hml]; rfl) (Steps.refl _) (argsL := []) (rest := [.int ((f1 + (3 : Int32)) - (1 : Int32))]) (lenOf own_pd_5 rfl) rfl own_wt (hb hby own_d5_10) (fun _ _ => ⟨rfl, e216, (by decide : 0 + 0 ≤ _), (by decide : 0 + 0 ≤ _)⟩)
  dsimp only [Pt.U, Pt.locs, Pt.cells, Pt.slots] at X217 l217 y217 z217 st217 hQ217
  subst l217 y217 z217
  obtain ⟨rfl, Nq217, e217⟩ := hQ217
  have N217 := Fr.app N0 Nq217
  obtain ⟨T218, X218, e218, st218⟩ := getF X217 hx hZ hown (host := "") (Or.inl (W 29 rfl)) Via.refl e217 F2 (g := (mkF m 39 #[rv a1, iv ((f1 + (3 : Int32)) - (1 : Int32))] [.ref a1])) rfl rfl (hb hby own_d5_39)
  obtain ⟨T219, X219, e219, st219⟩ := getF X218 hx hZ hown (host := "") (Or.inl (W 14 rfl)) Via.refl e218 F1 (g := (mkF m 44 #[rv a1, iv ((f1 + (3 : Int32)) - (1 : Int32))] [.ref a1, .int ((f1 + (3 : Int32)) - (1 : Int32)), .ref r1])) rfl rfl (hb hby own_d5_44)
  obtain ⟨cl220, Ar220, aq220, aS220, aN220, aH220, aG220⟩ := id V1
  obtain ⟨fs, hr, hrun, hended, hW, hsame⟩ := X219.leave (v := some (.double q2)) (fun h => by rw [Bd.returns] at h; cases h)
  refine ⟨_, _, pre0 _ (?_), hrun, hended, _, _, rfl, ?_, ⟨_, rfl⟩, hW, hsame.mono (by decide) (by decide)⟩
  · show Steps _ _ _ (s₁.setTop (mkF m 0 #[rv a1, iv ((f1 + (3 : Int32)) - (1 : Int32))] [])) _
    refine XS.iloadN X0.here hx rfl (hb hby own_d5_0) rfl ?_
    show Steps _ _ _ (s₁.setTop (mkF m 1 _ [.int ((f1 + (3 : Int32)) - (1 : Int32))])) _
    refine XS.aloadN X0.here hx rfl (hb hby own_d5_1) rfl rfl ?_
    show Steps _ _ _ (s₁.setTop (mkF m 2 _ [.ref a1, .int ((f1 + (3 : Int32)) - (1 : Int32))])) _
    refine st216 _ ?_
    show Steps _ _ _ (T216.setTop (mkF m 5 #[rv a1, iv ((f1 + (3 : Int32)) - (1 : Int32))] [.int f1, .int ((f1 + (3 : Int32)) - (1 : Int32))])) _
    refine XS.icmpNo X216.here hx rfl (hb hby own_d5_5) rfl (flt (hlt : ¬ (((f1 + (3 : Int32)) - (1 : Int32)) < f1))).1 ?_
    show Steps _ _ _ (T216.setTop (mkF m 8 _ [])) _
    refine XS.iloadN X216.here hx rfl (hb hby own_d5_8) rfl ?_
    show Steps _ _ _ (T216.setTop (mkF m 9 _ [.int ((f1 + (3 : Int32)) - (1 : Int32))])) _
    refine XS.aloadN X216.here hx rfl (hb hby own_d5_9) rfl rfl ?_
    show Steps _ _ _ (T216.setTop (mkF m 10 _ [.ref a1, .int ((f1 + (3 : Int32)) - (1 : Int32))])) _
    refine st217.trans ?_
    show Steps _ _ _ (T217.setTop (mkF m 13 #[rv a1, iv ((f1 + (3 : Int32)) - (1 : Int32))] [.int ((f1 + (3 : Int32)) - (1 : Int32)), .int ((f1 + (3 : Int32)) - (1 : Int32))])) _
    refine XS.icmpYes X217.here hx rfl (pc0 := 13) (pc' := 38) rfl (hb hby own_d5_13) rfl (flt (Int32.lt_irrefl : ¬ (((f1 + (3 : Int32)) - (1 : Int32)) < ((f1 + (3 : Int32)) - (1 : Int32))))).2.2.2 (by decide) (by decide) ?_
    show Steps _ _ _ (T217.setTop (mkF m 38 _ [])) _
    refine XS.aloadN X217.here hx rfl (hb hby own_d5_38) rfl rfl ?_
    show Steps _ _ _ (T217.setTop (mkF m 39 _ [.ref a1])) _
    refine st218 _ ?_
    show Steps _ _ _ (T218.setTop (mkF m 42 #[rv a1, iv ((f1 + (3 : Int32)) - (1 : Int32))] [.ref r1])) _
    refine XS.iloadN X218.here hx rfl (hb hby own_d5_42) rfl ?_
    show Steps _ _ _ (T218.setTop (mkF m 43 _ [.int ((f1 + (3 : Int32)) - (1 : Int32)), .ref r1])) _
    refine XS.aloadN X218.here hx rfl (hb hby own_d5_43) rfl rfl ?_
    show Steps _ _ _ (T218.setTop (mkF m 44 _ [.ref a1, .int ((f1 + (3 : Int32)) - (1 : Int32)), .ref r1])) _
    refine st219 _ ?_
    show Steps _ _ _ (T219.setTop (mkF m 47 #[rv a1, iv ((f1 + (3 : Int32)) - (1 : Int32))] [.int f1, .int ((f1 + (3 : Int32)) - (1 : Int32)), .ref r1])) _
    refine XS.isub X219.here hx rfl (hb hby own_d5_47) rfl ?_
    rw [hdf]
    show Steps _ _ _ (T219.setTop (mkF m 48 #[rv a1, iv ((f1 + (3 : Int32)) - (1 : Int32))] [.int 2, .ref r1])) _
    refine X219.daload hx (j := (2 : Int32)) (v := (.double q2)) (by rw [e219]; exact Ar220.1) (State.isArrayOf_alike hZ.alike Ar220.2.1) Ar220.2.2 (inb_of aS220 ⟨(by decide), (by decide)⟩) (Has.at aH220 (inb_of aS220 ⟨(by decide), (by decide)⟩) rfl) (g := (mkF m 48 #[rv a1, iv ((f1 + (3 : Int32)) - (1 : Int32))] [.int 2, .ref r1])) rfl rfl (hb hby own_d5_48) _ ?_
    show Steps _ _ _ (T219.setTop (mkF m 49 #[rv a1, iv ((f1 + (3 : Int32)) - (1 : Int32))] [.double q2])) _
    exact retOut X219 hx Bd.returns rfl (Or.inr (Or.inr (Or.inl ⟨rfl, rfl, _, rfl⟩))) (hb hby own_d5_49) hr
  · show Q_qx3 Z a1 r1 f1 kr q0 q1 q2 h0 n0 _ T219.heap _
    rw [e219]
    exact ⟨rfl, N217, rfl⟩
theorem own_ef_mi3 (m : MethodId) (x0 : Addr) (x1 : Int32) (x2 : Addr) : entryFrame m #[(.ref x0), (.int x1), (.ref x2)] 6 = mkF m 0 #[rv x0, iv x1, rv x2, uu, uu, uu] [] := by first | (simp [entryFrame, mkF, argsToLocals, Value.category]; done) | rfl
def Q_mi3 (Z : State) (a1 r0 : Addr) (p1 : Int32) (kr : ClassId) (q0 q1 q2 : UInt64) (h0 : Heap) (n0 : Nat) (v : Option Value) (h : Heap) (L : List Loc) : Prop := v = none ∧ Fr n0 L ∧ Keep h0 h [a1] ∧ Exa Z h a1 "com/example/pensionwright/pensionwright/actuarial/MortalityTable" ∧ Fld Z h a1 "com/example/pensionwright/pensionwright/actuarial/MortalityTable" "firstAge" "I" (.int p1) ∧ ∃ r, Fld Z h a1 "com/example/pensionwright/pensionwright/actuarial/MortalityTable" "rates" "[D" (.ref r) ∧ Arv Z h r kr .double (3 : Int32) [(.double q0), (.double q1), (.double q2)] (.double 0)
set_option maxRecDepth 65536 in
set_option maxHeartbeats 40000000 in
theorem rm_mi3 (l : Launch) (Z : State) (a0 : Array Value) (hw : ∀ d ∈ tables_1, d.before a0 Z = true) (ws : List Jvm.Cond) (a1 r0 : Addr) (p1 : Int32) (kr : ClassId) (q0 q1 q2 : UInt64) (h0 : Heap) (n0 : Nat) (Z0 : n0 ≤ h0.size) (E1 : Exa Z h0 a1 "com/example/pensionwright/pensionwright/actuarial/MortalityTable") (g1 : n0 ≤ a1) (F1 : Fld Z h0 a1 "com/example/pensionwright/pensionwright/actuarial/MortalityTable" "firstAge" "I" (.int (0 : Int32))) (F2 : Fld Z h0 a1 "com/example/pensionwright/pensionwright/actuarial/MortalityTable" "rates" "[D" .null) (F3 : Fld Z h0 a1 "com/example/pensionwright/pensionwright/actuarial/MortalityTable" "monthlySurvival" "[[D" .null) (V1 : Arv Z h0 r0 kr .double (3 : Int32) [(.double q0), (.double q1), (.double q2)] (.double 0)) (ER : Exa Z h0 r0 "[D") (hra : r0 ≠ a1) (hp : ¬ p1 < (0 : Int32)) (hL : ¬ (0 : Int32) < own_cmpL ((p1.toInt64 + ((3 : Int32).toInt64)) - (1 : Int64)) (2147483647 : Int64)) (ok0 : own_ok q0) (ok1 : own_ok q1) (ok2 : own_ok q2) (ne0 : ¬ cmpValue (FP.dcmp q0 4607182418800017408) .l = 0) (ne1 : ¬ cmpValue (FP.dcmp q1 4607182418800017408) .l = 0) :
    MetFree l (⟨"com/example/pensionwright/pensionwright/actuarial/MortalityTable", "<init>", "(I[D)V"⟩ : MethodName) (head1 (Jvm.Cond.code (⟨"com/example/pensionwright/pensionwright/actuarial/MortalityTable", "<init>", "(I[D)V"⟩ : MethodName) prog_3_method_1_code 6 none :: ws) ({ frames := 2, cells := 5, slots := 114, locals := 32 } : Room)) (fun a U => a = #[(.ref a1), (.int p1), (.ref r0)] ∧ Z.Warmed39 U.vm ∧ U.heap = h0) (fun _ _ _ _ _ => True) (fun _ U o U' => ∃ v L, o = .returned v ∧ Q_mi3 Z a1 r0 p1 kr q0 q1 q2 h0 n0 v U'.heap L ∧ FrameEnd U o U' L ({ frames := 2, cells := 5, slots := 114, locals := 32 } : Room).cells ({ frames := 2, cells := 5, slots := 114, locals := 32 } : Room).slots) := by
  refine MetFree.of_bodySF (plainFor_of_name own_pn_0) hisR ?_
  intro p e s m args below meth c s₁ Bd hml0 hP hK
  obtain ⟨rfl, hZ, hh⟩ := hP
  have hx := Bd.exec
  have hby := Bd.bytes
  have hml : c.maxLocals = 6 := hml0
  have hown : s.vm.findClass "com/example/pensionwright/pensionwright/actuarial/MortalityTable" = some m.cls := findClass_of_methodNamed Bd.named
  have hnm := (name_of_methodNamed Bd.named Bd.method).1
  have W := own_W hw
  have X0 : Stand p l e ({ frames := 2, cells := 5, slots := 114, locals := 32 } : Room) s m #[(.ref a1), (.int p1), (.ref r0)] below meth c s₁ [] 0 0 := Stand.of_body Bd
  have e0 : s₁.heap = h0 := by rw [← hh, Bd.state]; rfl
  have N0 := Fr.nil n0
  have pre0 : ∀ tq, Steps p.tables e below (s₁.setTop (mkF m 0 #[rv a1, iv p1, rv r0, uu, uu, uu] [])) tq → Steps p.tables e below (s₁.setTop (entryFrame m #[(.ref a1), (.int p1), (.ref r0)] 6)) tq := fun tq k => castTop (own_ef_mi3 m a1 p1 r0) k
  have K221 : Keep h0 h0 [a1] := Keep.refl h0 [a1]
  obtain ⟨T222, X222, e222, st222⟩ := initO X0 hx hZ hown (W 10 rfl) (W 11 rfl) (W 12 rfl) e0 (g := (mkF m 1 #[rv a1, iv p1, rv r0, uu, uu, uu] [.ref a1])) rfl (by rw [hml]; rfl) rfl (hb hby own_d3_1) (by decide) (W := 0) own_wt (by decide)
  obtain ⟨cl223, Ar223, aq223, aS223, aN223, aH223, aG223⟩ := id V1
  have G224 : ∀ tq, Steps p.tables e below (T222.setTop (mkF m 94 #[rv a1, iv p1, rv r0, .val (.long (((p1.toInt64) + ((3 : Int32).toInt64)) - (1 : Int64))), .second, iv 0] [])) tq → Steps p.tables e below (s₁.setTop (mkF m 0 #[rv a1, iv p1, rv r0, uu, uu, uu] [])) tq := by
    intro tq kk
    show Steps _ _ _ (s₁.setTop (mkF m 0 #[rv a1, iv p1, rv r0, uu, uu, uu] [])) _
    refine XS.aloadN X0.here hx rfl (hb hby own_d3_0) rfl rfl ?_
    show Steps _ _ _ (s₁.setTop (mkF m 1 _ [.ref a1])) _
    refine st222 _ ?_
    show Steps _ _ _ (T222.setTop (mkF m 4 #[rv a1, iv p1, rv r0, uu, uu, uu] [])) _
    refine XS.iloadN X222.here hx rfl (hb hby own_d3_4) rfl ?_
    show Steps _ _ _ (T222.setTop (mkF m 5 _ [.int p1])) _
    refine XS.ifYes X222.here hx rfl (pc0 := 5) (pc' := 22) rfl (hb hby own_d3_5) rfl ((if0 _ _).trans (flt (hp : ¬ (p1 < (0 : Int32)))).2.1) (by decide) (by decide) ?_
    show Steps _ _ _ (T222.setTop (mkF m 22 _ [])) _
    refine XS.aloadN X222.here hx rfl (hb hby own_d3_22) rfl rfl ?_
    show Steps _ _ _ (T222.setTop (mkF m 23 _ [.ref r0])) _
    refine X222.arraylength hx (by rw [e222]; exact Ar223.1) (State.isArrayOf_alike hZ.alike Ar223.2.1) (g := (mkF m 23 #[rv a1, iv p1, rv r0, uu, uu, uu] [.ref r0])) rfl rfl (hb hby own_d3_23) _ ?_
    rw [len_of aS223 aN223]
    show Steps _ _ _ (T222.setTop (mkF m 24 #[rv a1, iv p1, rv r0, uu, uu, uu] [.int 3])) _
    refine XS.ifYes X222.here hx rfl (pc0 := 24) (pc' := 37) rfl (hb hby own_d3_24) rfl ((if0 _ _).trans (feq ((by decide) : ¬ ((3 : Int32) = (0 : Int32)))).2) (by decide) (by decide) ?_
    show Steps _ _ _ (T222.setTop (mkF m 37 _ [])) _
    refine XS.aloadN X222.here hx rfl (hb hby own_d3_37) rfl rfl ?_
    show Steps _ _ _ (T222.setTop (mkF m 38 _ [.ref r0])) _
    refine X222.arraylength hx (by rw [e222]; exact Ar223.1) (State.isArrayOf_alike hZ.alike Ar223.2.1) (g := (mkF m 38 #[rv a1, iv p1, rv r0, uu, uu, uu] [.ref r0])) rfl rfl (hb hby own_d3_38) _ ?_
    rw [len_of aS223 aN223]
    show Steps _ _ _ (T222.setTop (mkF m 39 #[rv a1, iv p1, rv r0, uu, uu, uu] [.int 3])) _
    refine XS.sipush X222.here hx rfl (hb hby own_d3_39) ?_
    show Steps _ _ _ (T222.setTop (mkF m 42 _ [.int 200, .int 3])) _
    refine XS.icmpYes X222.here hx rfl (pc0 := 42) (pc' := 60) rfl (hb hby own_d3_42) rfl (flt ((by decide) : ¬ ((200 : Int32) < (3 : Int32)))).2.2.2 (by decide) (by decide) ?_
    show Steps _ _ _ (T222.setTop (mkF m 60 _ [])) _
    refine XS.iloadN X222.here hx rfl (hb hby own_d3_60) rfl ?_
    show Steps _ _ _ (T222.setTop (mkF m 61 _ [.int p1])) _
    refine XS.i2l X222.here hx rfl (hb hby own_d3_61) rfl ?_
    show Steps _ _ _ (T222.setTop (mkF m 62 _ [.long (p1.toInt64)])) _
    refine XS.aloadN X222.here hx rfl (hb hby own_d3_62) rfl rfl ?_
    show Steps _ _ _ (T222.setTop (mkF m 63 _ [.ref r0, .long (p1.toInt64)])) _
    refine X222.arraylength hx (by rw [e222]; exact Ar223.1) (State.isArrayOf_alike hZ.alike Ar223.2.1) (g := (mkF m 63 #[rv a1, iv p1, rv r0, uu, uu, uu] [.ref r0, .long (p1.toInt64)])) rfl rfl (hb hby own_d3_63) _ ?_
    rw [len_of aS223 aN223]
    show Steps _ _ _ (T222.setTop (mkF m 64 #[rv a1, iv p1, rv r0, uu, uu, uu] [.int 3, .long (p1.toInt64)])) _
    refine XS.i2l X222.here hx rfl (hb hby own_d3_64) rfl ?_
    show Steps _ _ _ (T222.setTop (mkF m 65 _ [.long ((3 : Int32).toInt64), .long (p1.toInt64)])) _
    refine XS.ladd X222.here hx rfl (hb hby own_d3_65) rfl ?_
    show Steps _ _ _ (T222.setTop (mkF m 66 _ [.long ((p1.toInt64) + ((3 : Int32).toInt64))])) _
    refine XS.lconst X222.here hx rfl (hb hby own_d3_66) ?_
    show Steps _ _ _ (T222.setTop (mkF m 67 _ [.long 1, .long ((p1.toInt64) + ((3 : Int32).toInt64))])) _
    refine XS.lsub X222.here hx rfl (hb hby own_d3_67) rfl ?_
    show Steps _ _ _ (T222.setTop (mkF m 68 _ [.long (((p1.toInt64) + ((3 : Int32).toInt64)) - (1 : Int64))])) _
    refine XS.lstoreN X222.here hx rfl (hb hby own_d3_68) rfl (l' := #[rv a1, iv p1, rv r0, .val (.long (((p1.toInt64) + ((3 : Int32).toInt64)) - (1 : Int64))), .second, uu]) rfl ?_
    show Steps _ _ _ (T222.setTop (mkF m 69 _ [])) _
    refine XS.lloadN X222.here hx rfl (hb hby own_d3_69) rfl ?_
    show Steps _ _ _ (T222.setTop (mkF m 70 _ [.long (((p1.toInt64) + ((3 : Int32).toInt64)) - (1 : Int64))])) _
    refine Jvm.Stand.ldc2J X222 hx hown (mvT hZ (W 13 rfl)) rfl (hb hby own_d3_70) ?_
    show Steps _ _ _ (T222.setTop (mkF m 73 _ [.long 2147483647, .long (((p1.toInt64) + ((3 : Int32).toInt64)) - (1 : Int64))])) _
    refine XS.lcmp X222.here hx rfl (hb hby own_d3_73) rfl ?_
    show Steps _ _ _ (T222.setTop (mkF m 74 #[rv a1, iv p1, rv r0, .val (.long (((p1.toInt64) + ((3 : Int32).toInt64)) - (1 : Int64))), .second, uu] [.int (own_cmpL (((p1.toInt64) + ((3 : Int32).toInt64)) - (1 : Int64)) (2147483647 : Int64))])) _
    refine XS.ifYes X222.here hx rfl (pc0 := 74) (pc' := 91) rfl (hb hby own_d3_74) rfl ((if0 _ _).trans (flt (hL : ¬ ((0 : Int32) < (own_cmpL (((p1.toInt64) + ((3 : Int32).toInt64)) - (1 : Int64)) (2147483647 : Int64))))).2.2.2) (by decide) (by decide) ?_
    show Steps _ _ _ (T222.setTop (mkF m 91 _ [])) _
    refine XS.iconst X222.here hx rfl (hb hby own_d3_91) ?_
    show Steps _ _ _ (T222.setTop (mkF m 92 _ [.int 0])) _
    refine XS.istore X222.here hx rfl (hb hby own_d3_92) rfl (l' := #[rv a1, iv p1, rv r0, .val (.long (((p1.toInt64) + ((3 : Int32).toInt64)) - (1 : Int64))), .second, iv 0]) rfl ?_
    exact kk
  have G225 : ∀ tq, Steps p.tables e below (T222.setTop (mkF m 94 #[rv a1, iv p1, rv r0, .val (.long (((p1.toInt64) + ((3 : Int32).toInt64)) - (1 : Int64))), .second, iv 1] [])) tq → Steps p.tables e below (T222.setTop (mkF m 94 #[rv a1, iv p1, rv r0, .val (.long (((p1.toInt64) + ((3 : Int32).toInt64)) - (1 : Int64))), .second, iv 0] [])) tq := by
    intro tq kk
    show Steps _ _ _ (T222.setTop (mkF m 94 #[rv a1, iv p1, rv r0, .val (.long (((p1.toInt64) + ((3 : Int32).toInt64)) - (1 : Int64))), .second, iv 0] [])) _
    refine XS.iload X222.here hx rfl (hb hby own_d3_94) rfl ?_
    show Steps _ _ _ (T222.setTop (mkF m 96 _ [.int 0])) _
    refine XS.aloadN X222.here hx rfl (hb hby own_d3_96) rfl rfl ?_
    show Steps _ _ _ (T222.setTop (mkF m 97 _ [.ref r0, .int 0])) _
    refine X222.arraylength hx (by rw [e222]; exact Ar223.1) (State.isArrayOf_alike hZ.alike Ar223.2.1) (g := (mkF m 97 #[rv a1, iv p1, rv r0, .val (.long (((p1.toInt64) + ((3 : Int32).toInt64)) - (1 : Int64))), .second, iv 0] [.ref r0, .int 0])) rfl rfl (hb hby own_d3_97) _ ?_
    rw [len_of aS223 aN223]
    show Steps _ _ _ (T222.setTop (mkF m 98 #[rv a1, iv p1, rv r0, .val (.long (((p1.toInt64) + ((3 : Int32).toInt64)) - (1 : Int64))), .second, iv 0] [.int 3, .int 0])) _
    refine XS.icmpNo X222.here hx rfl (hb hby own_d3_98) rfl (tlt ((by decide) : (0 : Int32) < (3 : Int32))).2.1 ?_
    show Steps _ _ _ (T222.setTop (mkF m 101 _ [])) _
    refine XS.aloadN X222.here hx rfl (hb hby own_d3_101) rfl rfl ?_
    show Steps _ _ _ (T222.setTop (mkF m 102 _ [.ref r0])) _
    refine XS.iload X222.here hx rfl (hb hby own_d3_102) rfl ?_
    show Steps _ _ _ (T222.setTop (mkF m 104 _ [.int 0, .ref r0])) _
    refine X222.daload hx (j := (0 : Int32)) (v := (.double q0)) (by rw [e222]; exact Ar223.1) (State.isArrayOf_alike hZ.alike Ar223.2.1) Ar223.2.2 (inb_of aS223 ⟨(by decide), (by decide)⟩) (Has.at aH223 (inb_of aS223 ⟨(by decide), (by decide)⟩) rfl) (g := (mkF m 104 #[rv a1, iv p1, rv r0, .val (.long (((p1.toInt64) + ((3 : Int32).toInt64)) - (1 : Int64))), .second, iv 0] [.int 0, .ref r0])) rfl rfl (hb hby own_d3_104) _ ?_
    show Steps _ _ _ (T222.setTop (mkF m 105 #[rv a1, iv p1, rv r0, .val (.long (((p1.toInt64) + ((3 : Int32).toInt64)) - (1 : Int64))), .second, iv 0] [.double q0])) _
    refine XS.dconst0 X222.here hx rfl (hb hby own_d3_105) (v := 0) rfl ?_
    show Steps _ _ _ (T222.setTop (mkF m 106 _ [.double 0, .double q0])) _
    refine XS.dcmpS X222.here hx rfl (hb hby own_d3_106) rfl rfl ?_
    show Steps _ _ _ (T222.setTop (mkF m 107 _ [.int (cmpValue (FP.dcmp q0 0) .l)])) _
    refine XS.ifNo X222.here hx rfl (hb hby own_d3_107) rfl ((if0 _ _).trans (flt (ok0.1 : ¬ ((cmpValue (FP.dcmp q0 0) .l) < (0 : Int32)))).1) ?_
    show Steps _ _ _ (T222.setTop (mkF m 110 _ [])) _
    refine XS.aloadN X222.here hx rfl (hb hby own_d3_110) rfl rfl ?_
    show Steps _ _ _ (T222.setTop (mkF m 111 _ [.ref r0])) _
    refine XS.iload X222.here hx rfl (hb hby own_d3_111) rfl ?_
    show Steps _ _ _ (T222.setTop (mkF m 113 _ [.int 0, .ref r0])) _
    refine X222.daload hx (j := (0 : Int32)) (v := (.double q0)) (by rw [e222]; exact Ar223.1) (State.isArrayOf_alike hZ.alike Ar223.2.1) Ar223.2.2 (inb_of aS223 ⟨(by decide), (by decide)⟩) (Has.at aH223 (inb_of aS223 ⟨(by decide), (by decide)⟩) rfl) (g := (mkF m 113 #[rv a1, iv p1, rv r0, .val (.long (((p1.toInt64) + ((3 : Int32).toInt64)) - (1 : Int64))), .second, iv 0] [.int 0, .ref r0])) rfl rfl (hb hby own_d3_113) _ ?_
    show Steps _ _ _ (T222.setTop (mkF m 114 #[rv a1, iv p1, rv r0, .val (.long (((p1.toInt64) + ((3 : Int32).toInt64)) - (1 : Int64))), .second, iv 0] [.double q0])) _
    refine XS.dconst1 X222.here hx rfl (hb hby own_d3_114) (v := 4607182418800017408) rfl ?_
    show Steps _ _ _ (T222.setTop (mkF m 115 _ [.double 4607182418800017408, .double q0])) _
    refine XS.dcmpS X222.here hx rfl (hb hby own_d3_115) rfl rfl ?_
    show Steps _ _ _ (T222.setTop (mkF m 116 _ [.int (cmpValue (FP.dcmp q0 4607182418800017408) .g)])) _
    refine XS.ifYes X222.here hx rfl (pc0 := 116) (pc' := 140) rfl (hb hby own_d3_116) rfl ((if0 _ _).trans (flt (ok0.2.1 : ¬ ((0 : Int32) < (cmpValue (FP.dcmp q0 4607182418800017408) .g)))).2.2.2) (by decide) (by decide) ?_
    show Steps _ _ _ (T222.setTop (mkF m 140 _ [])) _
    refine XS.aloadN X222.here hx rfl (hb hby own_d3_140) rfl rfl ?_
    show Steps _ _ _ (T222.setTop (mkF m 141 _ [.ref r0])) _
    refine XS.iload X222.here hx rfl (hb hby own_d3_141) rfl ?_
    show Steps _ _ _ (T222.setTop (mkF m 143 _ [.int 0, .ref r0])) _
    refine X222.daload hx (j := (0 : Int32)) (v := (.double q0)) (by rw [e222]; exact Ar223.1) (State.isArrayOf_alike hZ.alike Ar223.2.1) Ar223.2.2 (inb_of aS223 ⟨(by decide), (by decide)⟩) (Has.at aH223 (inb_of aS223 ⟨(by decide), (by decide)⟩) rfl) (g := (mkF m 143 #[rv a1, iv p1, rv r0, .val (.long (((p1.toInt64) + ((3 : Int32).toInt64)) - (1 : Int64))), .second, iv 0] [.int 0, .ref r0])) rfl rfl (hb hby own_d3_143) _ ?_
    show Steps _ _ _ (T222.setTop (mkF m 144 #[rv a1, iv p1, rv r0, .val (.long (((p1.toInt64) + ((3 : Int32).toInt64)) - (1 : Int64))), .second, iv 0] [.double q0])) _
    refine XS.dconst1 X222.here hx rfl (hb hby own_d3_144) (v := 4607182418800017408) rfl ?_
    show Steps _ _ _ (T222.setTop (mkF m 145 _ [.double 4607182418800017408, .double q0])) _
    refine XS.dcmpS X222.here hx rfl (hb hby own_d3_145) rfl rfl ?_
    show Steps _ _ _ (T222.setTop (mkF m 146 _ [.int (cmpValue (FP.dcmp q0 4607182418800017408) .l)])) _
    refine XS.ifYes X222.here hx rfl (pc0 := 146) (pc' := 173) rfl (hb hby own_d3_146) rfl ((if0 _ _).trans (feq (ne0 : ¬ ((cmpValue (FP.dcmp q0 4607182418800017408) .l) = (0 : Int32)))).2) (by decide) (by decide) ?_
    show Steps _ _ _ (T222.setTop (mkF m 173 _ [])) _
    refine XS.iinc X222.here hx rfl (hb hby own_d3_173) rfl (l' := #[rv a1, iv p1, rv r0, .val (.long (((p1.toInt64) + ((3 : Int32).toInt64)) - (1 : Int64))), .second, iv 1]) rfl ?_
    show Steps _ _ _ (T222.setTop (mkF m 176 _ [])) _
    refine XS.goto X222.here hx rfl (pc0 := 176) (pc' := 94) rfl (hb hby own_d3_176) (by decide) (by decide) ?_
    exact kk
  have G226 : ∀ tq, Steps p.tables e below (T222.setTop (mkF m 94 #[rv a1, iv p1, rv r0, .val (.long (((p1.toInt64) + ((3 : Int32).toInt64)) - (1 : Int64))), .second, iv 2] [])) tq → Steps p.tables e below (T222.setTop (mkF m 94 #[rv a1, iv p1, rv r0, .val (.long (((p1.toInt64) + ((3 : Int32).toInt64)) - (1 : Int64))), .second, iv 1] [])) tq := by
    intro tq kk
    show Steps _ _ _ (T222.setTop (mkF m 94 #[rv a1, iv p1, rv r0, .val (.long (((p1.toInt64) + ((3 : Int32).toInt64)) - (1 : Int64))), .second, iv 1] [])) _
    refine XS.iload X222.here hx rfl (hb hby own_d3_94) rfl ?_
    show Steps _ _ _ (T222.setTop (mkF m 96 _ [.int 1])) _
    refine XS.aloadN X222.here hx rfl (hb hby own_d3_96) rfl rfl ?_
    show Steps _ _ _ (T222.setTop (mkF m 97 _ [.ref r0, .int 1])) _
    refine X222.arraylength hx (by rw [e222]; exact Ar223.1) (State.isArrayOf_alike hZ.alike Ar223.2.1) (g := (mkF m 97 #[rv a1, iv p1, rv r0, .val (.long (((p1.toInt64) + ((3 : Int32).toInt64)) - (1 : Int64))), .second, iv 1] [.ref r0, .int 1])) rfl rfl (hb hby own_d3_97) _ ?_
    rw [len_of aS223 aN223]
    show Steps _ _ _ (T222.setTop (mkF m 98 #[rv a1, iv p1, rv r0, .val (.long (((p1.toInt64) + ((3 : Int32).toInt64)) - (1 : Int64))), .second, iv 1] [.int 3, .int 1])) _
    refine XS.icmpNo X222.here hx rfl (hb hby own_d3_98) rfl (tlt ((by decide) : (1 : Int32) < (3 : Int32))).2.1 ?_
    show Steps _ _ _ (T222.setTop (mkF m 101 _ [])) _
    refine XS.aloadN X222.here hx rfl (hb hby own_d3_101) rfl rfl ?_
    show Steps _ _ _ (T222.setTop (mkF m 102 _ [.ref r0])) _
    refine XS.iload X222.here hx rfl (hb hby own_d3_102) rfl ?_
    show Steps _ _ _ (T222.setTop (mkF m 104 _ [.int 1, .ref r0])) _
    refine X222.daload hx (j := (1 : Int32)) (v := (.double q1)) (by rw [e222]; exact Ar223.1) (State.isArrayOf_alike hZ.alike Ar223.2.1) Ar223.2.2 (inb_of aS223 ⟨(by decide), (by decide)⟩) (Has.at aH223 (inb_of aS223 ⟨(by decide), (by decide)⟩) rfl) (g := (mkF m 104 #[rv a1, iv p1, rv r0, .val (.long (((p1.toInt64) + ((3 : Int32).toInt64)) - (1 : Int64))), .second, iv 1] [.int 1, .ref r0])) rfl rfl (hb hby own_d3_104) _ ?_
    show Steps _ _ _ (T222.setTop (mkF m 105 #[rv a1, iv p1, rv r0, .val (.long (((p1.toInt64) + ((3 : Int32).toInt64)) - (1 : Int64))), .second, iv 1] [.double q1])) _
    refine XS.dconst0 X222.here hx rfl (hb hby own_d3_105) (v := 0) rfl ?_
    show Steps _ _ _ (T222.setTop (mkF m 106 _ [.double 0, .double q1])) _
    refine XS.dcmpS X222.here hx rfl (hb hby own_d3_106) rfl rfl ?_
    show Steps _ _ _ (T222.setTop (mkF m 107 _ [.int (cmpValue (FP.dcmp q1 0) .l)])) _
    refine XS.ifNo X222.here hx rfl (hb hby own_d3_107) rfl ((if0 _ _).trans (flt (ok1.1 : ¬ ((cmpValue (FP.dcmp q1 0) .l) < (0 : Int32)))).1) ?_
    show Steps _ _ _ (T222.setTop (mkF m 110 _ [])) _
    refine XS.aloadN X222.here hx rfl (hb hby own_d3_110) rfl rfl ?_
    show Steps _ _ _ (T222.setTop (mkF m 111 _ [.ref r0])) _
    refine XS.iload X222.here hx rfl (hb hby own_d3_111) rfl ?_
    show Steps _ _ _ (T222.setTop (mkF m 113 _ [.int 1, .ref r0])) _
    refine X222.daload hx (j := (1 : Int32)) (v := (.double q1)) (by rw [e222]; exact Ar223.1) (State.isArrayOf_alike hZ.alike Ar223.2.1) Ar223.2.2 (inb_of aS223 ⟨(by decide), (by decide)⟩) (Has.at aH223 (inb_of aS223 ⟨(by decide), (by decide)⟩) rfl) (g := (mkF m 113 #[rv a1, iv p1, rv r0, .val (.long (((p1.toInt64) + ((3 : Int32).toInt64)) - (1 : Int64))), .second, iv 1] [.int 1, .ref r0])) rfl rfl (hb hby own_d3_113) _ ?_
    show Steps _ _ _ (T222.setTop (mkF m 114 #[rv a1, iv p1, rv r0, .val (.long (((p1.toInt64) + ((3 : Int32).toInt64)) - (1 : Int64))), .second, iv 1] [.double q1])) _
    refine XS.dconst1 X222.here hx rfl (hb hby own_d3_114) (v := 4607182418800017408) rfl ?_
    show Steps _ _ _ (T222.setTop (mkF m 115 _ [.double 4607182418800017408, .double q1])) _
    refine XS.dcmpS X222.here hx rfl (hb hby own_d3_115) rfl rfl ?_
    show Steps _ _ _ (T222.setTop (mkF m 116 _ [.int (cmpValue (FP.dcmp q1 4607182418800017408) .g)])) _
    refine XS.ifYes X222.here hx rfl (pc0 := 116) (pc' := 140) rfl (hb hby own_d3_116) rfl ((if0 _ _).trans (flt (ok1.2.1 : ¬ ((0 : Int32) < (cmpValue (FP.dcmp q1 4607182418800017408) .g)))).2.2.2) (by decide) (by decide) ?_
    show Steps _ _ _ (T222.setTop (mkF m 140 _ [])) _
    refine XS.aloadN X222.here hx rfl (hb hby own_d3_140) rfl rfl ?_
    show Steps _ _ _ (T222.setTop (mkF m 141 _ [.ref r0])) _
    refine XS.iload X222.here hx rfl (hb hby own_d3_141) rfl ?_
    show Steps _ _ _ (T222.setTop (mkF m 143 _ [.int 1, .ref r0])) _
    refine X222.daload hx (j := (1 : Int32)) (v := (.double q1)) (by rw [e222]; exact Ar223.1) (State.isArrayOf_alike hZ.alike Ar223.2.1) Ar223.2.2 (inb_of aS223 ⟨(by decide), (by decide)⟩) (Has.at aH223 (inb_of aS223 ⟨(by decide), (by decide)⟩) rfl) (g := (mkF m 143 #[rv a1, iv p1, rv r0, .val (.long (((p1.toInt64) + ((3 : Int32).toInt64)) - (1 : Int64))), .second, iv 1] [.int 1, .ref r0])) rfl rfl (hb hby own_d3_143) _ ?_
    show Steps _ _ _ (T222.setTop (mkF m 144 #[rv a1, iv p1, rv r0, .val (.long (((p1.toInt64) + ((3 : Int32).toInt64)) - (1 : Int64))), .second, iv 1] [.double q1])) _
    refine XS.dconst1 X222.here hx rfl (hb hby own_d3_144) (v := 4607182418800017408) rfl ?_
    show Steps _ _ _ (T222.setTop (mkF m 145 _ [.double 4607182418800017408, .double q1])) _
    refine XS.dcmpS X222.here hx rfl (hb hby own_d3_145) rfl rfl ?_
    show Steps _ _ _ (T222.setTop (mkF m 146 _ [.int (cmpValue (FP.dcmp q1 4607182418800017408) .l)])) _
    refine XS.ifYes X222.here hx rfl (pc0 := 146) (pc' := 173) rfl (hb hby own_d3_146) rfl ((if0 _ _).trans (feq (ne1 : ¬ ((cmpValue (FP.dcmp q1 4607182418800017408) .l) = (0 : Int32)))).2) (by decide) (by decide) ?_
    show Steps _ _ _ (T222.setTop (mkF m 173 _ [])) _
    refine XS.iinc X222.here hx rfl (hb hby own_d3_173) rfl (l' := #[rv a1, iv p1, rv r0, .val (.long (((p1.toInt64) + ((3 : Int32).toInt64)) - (1 : Int64))), .second, iv 2]) rfl ?_
    show Steps _ _ _ (T222.setTop (mkF m 176 _ [])) _
    refine XS.goto X222.here hx rfl (pc0 := 176) (pc' := 94) rfl (hb hby own_d3_176) (by decide) (by decide) ?_
    exact kk
  have G227 : ∀ tq, Steps p.tables e below (T222.setTop (mkF m 146 #[rv a1, iv p1, rv r0, .val (.long (((p1.toInt64) + ((3 : Int32).toInt64)) - (1 : Int64))), .second, iv 2] [.int (cmpValue (FP.dcmp q2 4607182418800017408) .l)])) tq → Steps p.tables e below (T222.setTop (mkF m 94 #[rv a1, iv p1, rv r0, .val (.long (((p1.toInt64) + ((3 : Int32).toInt64)) - (1 : Int64))), .second, iv 2] [])) tq := by
    intro tq kk
    show Steps _ _ _ (T222.setTop (mkF m 94 #[rv a1, iv p1, rv r0, .val (.long (((p1.toInt64) + ((3 : Int32).toInt64)) - (1 : Int64))), .second, iv 2] [])) _
    refine XS.iload X222.here hx rfl (hb hby own_d3_94) rfl ?_
    show Steps _ _ _ (T222.setTop (mkF m 96 _ [.int 2])) _
    refine XS.aloadN X222.here hx rfl (hb hby own_d3_96) rfl rfl ?_
    show Steps _ _ _ (T222.setTop (mkF m 97 _ [.ref r0, .int 2])) _
    refine X222.arraylength hx (by rw [e222]; exact Ar223.1) (State.isArrayOf_alike hZ.alike Ar223.2.1) (g := (mkF m 97 #[rv a1, iv p1, rv r0, .val (.long (((p1.toInt64) + ((3 : Int32).toInt64)) - (1 : Int64))), .second, iv 2] [.ref r0, .int 2])) rfl rfl (hb hby own_d3_97) _ ?_
    rw [len_of aS223 aN223]
    show Steps _ _ _ (T222.setTop (mkF m 98 #[rv a1, iv p1, rv r0, .val (.long (((p1.toInt64) + ((3 : Int32).toInt64)) - (1 : Int64))), .second, iv 2] [.int 3, .int 2])) _
    refine XS.icmpNo X222.here hx rfl (hb hby own_d3_98) rfl (tlt ((by decide) : (2 : Int32) < (3 : Int32))).2.1 ?_
    show Steps _ _ _ (T222.setTop (mkF m 101 _ [])) _
    refine XS.aloadN X222.here hx rfl (hb hby own_d3_101) rfl rfl ?_
    show Steps _ _ _ (T222.setTop (mkF m 102 _ [.ref r0])) _
    refine XS.iload X222.here hx rfl (hb hby own_d3_102) rfl ?_
    show Steps _ _ _ (T222.setTop (mkF m 104 _ [.int 2, .ref r0])) _
    refine X222.daload hx (j := (2 : Int32)) (v := (.double q2)) (by rw [e222]; exact Ar223.1) (State.isArrayOf_alike hZ.alike Ar223.2.1) Ar223.2.2 (inb_of aS223 ⟨(by decide), (by decide)⟩) (Has.at aH223 (inb_of aS223 ⟨(by decide), (by decide)⟩) rfl) (g := (mkF m 104 #[rv a1, iv p1, rv r0, .val (.long (((p1.toInt64) + ((3 : Int32).toInt64)) - (1 : Int64))), .second, iv 2] [.int 2, .ref r0])) rfl rfl (hb hby own_d3_104) _ ?_
    show Steps _ _ _ (T222.setTop (mkF m 105 #[rv a1, iv p1, rv r0, .val (.long (((p1.toInt64) + ((3 : Int32).toInt64)) - (1 : Int64))), .second, iv 2] [.double q2])) _
    refine XS.dconst0 X222.here hx rfl (hb hby own_d3_105) (v := 0) rfl ?_
    show Steps _ _ _ (T222.setTop (mkF m 106 _ [.double 0, .double q2])) _
    refine XS.dcmpS X222.here hx rfl (hb hby own_d3_106) rfl rfl ?_
    show Steps _ _ _ (T222.setTop (mkF m 107 _ [.int (cmpValue (FP.dcmp q2 0) .l)])) _
    refine XS.ifNo X222.here hx rfl (hb hby own_d3_107) rfl ((if0 _ _).trans (flt (ok2.1 : ¬ ((cmpValue (FP.dcmp q2 0) .l) < (0 : Int32)))).1) ?_
    show Steps _ _ _ (T222.setTop (mkF m 110 _ [])) _
    refine XS.aloadN X222.here hx rfl (hb hby own_d3_110) rfl rfl ?_
    show Steps _ _ _ (T222.setTop (mkF m 111 _ [.ref r0])) _
    refine XS.iload X222.here hx rfl (hb hby own_d3_111) rfl ?_
    show Steps _ _ _ (T222.setTop (mkF m 113 _ [.int 2, .ref r0])) _
    refine X222.daload hx (j := (2 : Int32)) (v := (.double q2)) (by rw [e222]; exact Ar223.1) (State.isArrayOf_alike hZ.alike Ar223.2.1) Ar223.2.2 (inb_of aS223 ⟨(by decide), (by decide)⟩) (Has.at aH223 (inb_of aS223 ⟨(by decide), (by decide)⟩) rfl) (g := (mkF m 113 #[rv a1, iv p1, rv r0, .val (.long (((p1.toInt64) + ((3 : Int32).toInt64)) - (1 : Int64))), .second, iv 2] [.int 2, .ref r0])) rfl rfl (hb hby own_d3_113) _ ?_
    show Steps _ _ _ (T222.setTop (mkF m 114 #[rv a1, iv p1, rv r0, .val (.long (((p1.toInt64) + ((3 : Int32).toInt64)) - (1 : Int64))), .second, iv 2] [.double q2])) _
    refine XS.dconst1 X222.here hx rfl (hb hby own_d3_114) (v := 4607182418800017408) rfl ?_
    show Steps _ _ _ (T222.setTop (mkF m 115 _ [.double 4607182418800017408, .double q2])) _
    refine XS.dcmpS X222.here hx rfl (hb hby own_d3_115) rfl rfl ?_
    show Steps _ _ _ (T222.setTop (mkF m 116 _ [.int (cmpValue (FP.dcmp q2 4607182418800017408) .g)])) _
    refine XS.ifYes X222.here hx rfl (pc0 := 116) (pc' := 140) rfl (hb hby own_d3_116) rfl ((if0 _ _).trans (flt (ok2.2.1 : ¬ ((0 : Int32) < (cmpValue (FP.dcmp q2 4607182418800017408) .g)))).2.2.2) (by decide) (by decide) ?_
    show Steps _ _ _ (T222.setTop (mkF m 140 _ [])) _
    refine XS.aloadN X222.here hx rfl (hb hby own_d3_140) rfl rfl ?_
    show Steps _ _ _ (T222.setTop (mkF m 141 _ [.ref r0])) _
    refine XS.iload X222.here hx rfl (hb hby own_d3_141) rfl ?_
    show Steps _ _ _ (T222.setTop (mkF m 143 _ [.int 2, .ref r0])) _
    refine X222.daload hx (j := (2 : Int32)) (v := (.double q2)) (by rw [e222]; exact Ar223.1) (State.isArrayOf_alike hZ.alike Ar223.2.1) Ar223.2.2 (inb_of aS223 ⟨(by decide), (by decide)⟩) (Has.at aH223 (inb_of aS223 ⟨(by decide), (by decide)⟩) rfl) (g := (mkF m 143 #[rv a1, iv p1, rv r0, .val (.long (((p1.toInt64) + ((3 : Int32).toInt64)) - (1 : Int64))), .second, iv 2] [.int 2, .ref r0])) rfl rfl (hb hby own_d3_143) _ ?_
    show Steps _ _ _ (T222.setTop (mkF m 144 #[rv a1, iv p1, rv r0, .val (.long (((p1.toInt64) + ((3 : Int32).toInt64)) - (1 : Int64))), .second, iv 2] [.double q2])) _
    refine XS.dconst1 X222.here hx rfl (hb hby own_d3_144) (v := 4607182418800017408) rfl ?_
    show Steps _ _ _ (T222.setTop (mkF m 145 _ [.double 4607182418800017408, .double q2])) _
    refine XS.dcmpS X222.here hx rfl (hb hby own_d3_145) rfl rfl ?_
    exact kk
  have GL : ∀ tq, Steps p.tables e below (T222.setTop (mkF m 94 #[rv a1, iv p1, rv r0, .val (.long (((p1.toInt64) + ((3 : Int32).toInt64)) - (1 : Int64))), .second, iv 3] [])) tq → Steps p.tables e below (T222.setTop (mkF m 146 #[rv a1, iv p1, rv r0, .val (.long (((p1.toInt64) + ((3 : Int32).toInt64)) - (1 : Int64))), .second, iv 2] [.int (cmpValue (FP.dcmp q2 4607182418800017408) .l)])) tq := by
    by_cases hl : cmpValue (FP.dcmp q2 4607182418800017408) .l = 0
    · have G228 : ∀ tq, Steps p.tables e below (T222.setTop (mkF m 94 #[rv a1, iv p1, rv r0, .val (.long (((p1.toInt64) + ((3 : Int32).toInt64)) - (1 : Int64))), .second, iv 3] [])) tq → Steps p.tables e below (T222.setTop (mkF m 146 #[rv a1, iv p1, rv r0, .val (.long (((p1.toInt64) + ((3 : Int32).toInt64)) - (1 : Int64))), .second, iv 2] [.int (cmpValue (FP.dcmp q2 4607182418800017408) .l)])) tq := by
        intro tq kk
        show Steps _ _ _ (T222.setTop (mkF m 146 #[rv a1, iv p1, rv r0, .val (.long (((p1.toInt64) + ((3 : Int32).toInt64)) - (1 : Int64))), .second, iv 2] [.int (cmpValue (FP.dcmp q2 4607182418800017408) .l)])) _
        refine XS.ifNo X222.here hx rfl (hb hby own_d3_146) rfl ((if0 _ _).trans (teq (hl : (cmpValue (FP.dcmp q2 4607182418800017408) .l) = (0 : Int32))).2) ?_
        show Steps _ _ _ (T222.setTop (mkF m 149 _ [])) _
        refine XS.iload X222.here hx rfl (hb hby own_d3_149) rfl ?_
        show Steps _ _ _ (T222.setTop (mkF m 151 _ [.int 2])) _
        refine XS.aloadN X222.here hx rfl (hb hby own_d3_151) rfl rfl ?_
        show Steps _ _ _ (T222.setTop (mkF m 152 _ [.ref r0, .int 2])) _
        refine X222.arraylength hx (by rw [e222]; exact Ar223.1) (State.isArrayOf_alike hZ.alike Ar223.2.1) (g := (mkF m 152 #[rv a1, iv p1, rv r0, .val (.long (((p1.toInt64) + ((3 : Int32).toInt64)) - (1 : Int64))), .second, iv 2] [.ref r0, .int 2])) rfl rfl (hb hby own_d3_152) _ ?_
        rw [len_of aS223 aN223]
        show Steps _ _ _ (T222.setTop (mkF m 153 #[rv a1, iv p1, rv r0, .val (.long (((p1.toInt64) + ((3 : Int32).toInt64)) - (1 : Int64))), .second, iv 2] [.int 3, .int 2])) _
        refine XS.iconst X222.here hx rfl (hb hby own_d3_153) ?_
        show Steps _ _ _ (T222.setTop (mkF m 154 _ [.int 1, .int 3, .int 2])) _
        refine XS.isub X222.here hx rfl (hb hby own_d3_154) rfl ?_
        show Steps _ _ _ (T222.setTop (mkF m 155 _ [.int 2, .int 2])) _
        refine XS.icmpYes X222.here hx rfl (pc0 := 155) (pc' := 173) rfl (hb hby own_d3_155) rfl (flt ((by decide) : ¬ ((2 : Int32) < (2 : Int32)))).2.1 (by decide) (by decide) ?_
        show Steps _ _ _ (T222.setTop (mkF m 173 _ [])) _
        refine XS.iinc X222.here hx rfl (hb hby own_d3_173) rfl (l' := #[rv a1, iv p1, rv r0, .val (.long (((p1.toInt64) + ((3 : Int32).toInt64)) - (1 : Int64))), .second, iv 3]) rfl ?_
        show Steps _ _ _ (T222.setTop (mkF m 176 _ [])) _
        refine XS.goto X222.here hx rfl (pc0 := 176) (pc' := 94) rfl (hb hby own_d3_176) (by decide) (by decide) ?_
        exact kk
      exact fun tgt kk => G228 _ kk
    · have G229 : ∀ tq, Steps p.tables e below (T222.setTop (mkF m 94 #[rv a1, iv p1, rv r0, .val (.long (((p1.toInt64) + ((3 : Int32).toInt64)) - (1 : Int64))), .second, iv 3] [])) tq → Steps p.tables e below (T222.setTop (mkF m 146 #[rv a1, iv p1, rv r0, .val (.long (((p1.toInt64) + ((3 : Int32).toInt64)) - (1 : Int64))), .second, iv 2] [.int (cmpValue (FP.dcmp q2 4607182418800017408) .l)])) tq := by
        intro tq kk
        show Steps _ _ _ (T222.setTop (mkF m 146 #[rv a1, iv p1, rv r0, .val (.long (((p1.toInt64) + ((3 : Int32).toInt64)) - (1 : Int64))), .second, iv 2] [.int (cmpValue (FP.dcmp q2 4607182418800017408) .l)])) _
        refine XS.ifYes X222.here hx rfl (pc0 := 146) (pc' := 173) rfl (hb hby own_d3_146) rfl ((if0 _ _).trans (feq (hl : ¬ ((cmpValue (FP.dcmp q2 4607182418800017408) .l) = (0 : Int32)))).2) (by decide) (by decide) ?_
        show Steps _ _ _ (T222.setTop (mkF m 173 _ [])) _
        refine XS.iinc X222.here hx rfl (hb hby own_d3_173) rfl (l' := #[rv a1, iv p1, rv r0, .val (.long (((p1.toInt64) + ((3 : Int32).toInt64)) - (1 : Int64))), .second, iv 3]) rfl ?_
        show Steps _ _ _ (T222.setTop (mkF m 176 _ [])) _
        refine XS.goto X222.here hx rfl (pc0 := 176) (pc' := 94) rfl (hb hby own_d3_176) (by decide) (by decide) ?_
        exact kk
      exact fun tgt kk => G229 _ kk
  obtain ⟨T230, h230, X230, e230, W230, st230⟩ := putF X222 hx hZ hown (host := "") (Or.inl (W 14 rfl)) Via.refl e222 F1 E1 (Or.inr ⟨(W 15 rfl), rfl, hnm⟩) (W 5 rfl) (ty := .int) (by decide) rfl rfl (g := (mkF m 181 #[rv a1, iv p1, rv r0, .val (.long (((p1.toInt64) + ((3 : Int32).toInt64)) - (1 : Int64))), .second, iv 3] [.int p1, .ref a1])) rfl rfl (hb hby own_d3_181)
  have N230 := Fr.snoc X230 N0 g1
  have Fw230 := F1.same W230
  have Z231 : n0 ≤ h230.size := Nat.le_trans Z0 (Keep.of_wr W230).1
  have K232 : Keep h0 h230 [a1] := K221.wr W230 (Or.inl (List.mem_of_getElem? (i := 0) rfl))
  have f234 := (V1.other W230 hra)
  obtain ⟨cl233, Ar233, aq233, aS233, aN233, aH233, aG233⟩ := id f234
  have f235 := (ER.wr W230)
  obtain ⟨_, _, ⟨T236, L236, k236, n236⟩, -, X236, ⟨Lc236, hQ236, l236, y236, z236⟩, st236⟩ := Jvm.LawKit.callS X230 hx (y := (⟨"java/util/Arrays", "copyOf", "([DI)[D"⟩ : MethodName)) hown (mvT hZ (W 16 rfl)) (mvT hZ (W 17 rfl)) (mvT hZ (W 18 rfl)) (mvT hZ (W 19 rfl)) (by decide) (backOf (W := 1) (rm_cpy l Z a0 hw [] r0 (3 : Int32) kr [(.double q0), (.double q1), (.double q2)] h230 n0 Z231 f234 f235 (by decide)) hZ (W 19 rfl) (W 18 rfl) (by decide) (by decide)) (g := (mkF m 188 #[rv a1, iv p1, rv r0, .val (.long (((p1.toInt64) + ((3 : Int32).toInt64)) - (1 : Int64))), .second, iv 3] [.int 3, .ref r0, .ref a1])) rfl (by rw [hml]; rfl) (argsL := [.ref r0, .int 3]) (rest := [.ref a1]) (lenOf own_pd_2 rfl) rfl own_wt (hb hby own_d3_188) (fun _ _ => ⟨rfl, e230, (by decide : 0 + 1 ≤ _), (by decide : 0 + 3 ≤ _)⟩)
  dsimp only [Pt.U, Pt.locs, Pt.cells, Pt.slots] at X236 l236 y236 z236 st236 hQ236
  subst l236 y236 z236
  obtain ⟨b236, hv236, Nq236, K236, sb236, V236, ex236⟩ := hQ236
  subst hv236
  have N236 := Fr.app N230 Nq236
  have g237 : n0 ≤ b236 := Nat.le_trans Z231 sb236
  have g238 : h0.size ≤ b236 := Nat.le_trans K232.1 sb236
  have Z239 : n0 ≤ T236.heap.size := Nat.le_trans Z231 K236.1
  have K240 : Keep h0 T236.heap [a1] := K232.trans K236 all0
  have f242 := ((F2.other W230 (Or.inr (slot_ne (Or.inr (W 30 rfl)) (Or.inr (W 15 rfl)) (by decide) (t := (.array .double)) (t' := .int) (by decide) (by decide)))).keep K236 nin0)
  have f243 := ((E1.wr W230).keep K236)
  obtain ⟨T241, h241, X241, e241, W241, st241⟩ := putF X236 hx hZ hown (host := "") (Or.inl (W 29 rfl)) Via.refl rfl f242 f243 (Or.inr ⟨(W 30 rfl), rfl, hnm⟩) (W 5 rfl) (ty := (.array .double)) (by decide) rfl rfl (g := (mkF m 191 #[rv a1, iv p1, rv r0, .val (.long (((p1.toInt64) + ((3 : Int32).toInt64)) - (1 : Int64))), .second, iv 3] [.ref b236, .ref a1])) rfl rfl (hb hby own_d3_191)
  have N241 := Fr.snoc X241 N236 g1
  have Fw241 := f242.same W241
  have Z244 : n0 ≤ h241.size := Nat.le_trans Z239 (Keep.of_wr W241).1
  have K245 : Keep h0 h241 [a1] := K240.wr W241 (Or.inl (List.mem_of_getElem? (i := 0) rfl))
  have f247 := ((f234.keep K236 nin0).other W241 hra)
  obtain ⟨cl246, Ar246, aq246, aS246, aN246, aH246, aG246⟩ := id f247
  obtain ⟨T248, h248, k248, X248, e248, E248, A248, ex248, ov248, st248⟩ := newRA X241 hx hZ hown (ty := .double) (C := "[D") (by decide) (W 31 rfl) (W 32 rfl) e241 (g := (mkF m 197 #[rv a1, iv p1, rv r0, .val (.long (((p1.toInt64) + ((3 : Int32).toInt64)) - (1 : Int64))), .second, iv 3] [.int 3, .ref a1])) rfl (hb hby own_d3_197) rfl (by decide : ¬ ((3 : Int32) < (0 : Int32))) (cap := 3) (by decide) (by decide) (by decide) (by decide) (ad := "[[D") (by decide)
  obtain ⟨b248, g248⟩ : ∃ z, z = h241.size := ⟨_, rfl⟩
  rw [← g248] at A248 ex248 st248
  have g249 : n0 ≤ b248 := Nat.le_trans Z244 (Nat.le_of_eq g248.symm)
  have g250 : h0.size ≤ b248 := Nat.le_trans K245.1 (Nat.le_of_eq g248.symm)
  have Z251 : n0 ≤ h248.size := Nat.le_trans Z244 E248.1
  have K252 : Keep h0 h248 [a1] := K245.ext E248
  have V248 : Arv Z h248 b248 k248 (.array .double) (3 : Int32) [.null, .null, .null] .null := (Arv.new A248 (by decide)).pad (pad_rep [] .null 3)
  have f254 := ((((F3.other W230 (Or.inr (slot_ne (Or.inr (W 34 rfl)) (Or.inr (W 15 rfl)) (by decide) (t := (.array (.array .double))) (t' := .int) (by decide) (by decide)))).keep K236 nin0).other W241 (Or.inr (slot_ne (Or.inr (W 34 rfl)) (Or.inr (W 30 rfl)) (by decide) (t := (.array (.array .double))) (t' := (.array .double)) (by decide) (by decide)))).ext E248)
  have f255 := ((f243.wr W241).ext E248)
  obtain ⟨T253, h253, X253, e253, W253, st253⟩ := putF X248 hx hZ hown (host := "") (Or.inl (W 33 rfl)) Via.refl e248 f254 f255 (Or.inr ⟨(W 34 rfl), rfl, hnm⟩) (W 5 rfl) (ty := (.array (.array .double))) (by decide) rfl rfl (g := (mkF m 200 #[rv a1, iv p1, rv r0, .val (.long (((p1.toInt64) + ((3 : Int32).toInt64)) - (1 : Int64))), .second, iv 3] [.ref b248, .ref a1])) rfl rfl (hb hby own_d3_200)
  have N253 := Fr.snoc X253 N241 g1
  have Fw253 := f254.same W253
  have Z256 : n0 ≤ h253.size := Nat.le_trans Z251 (Keep.of_wr W253).1
  have K257 : Keep h0 h253 [a1] := K252.wr W253 (Or.inl (List.mem_of_getElem? (i := 0) rfl))
  have G258 : ∀ tq, Steps p.tables e below (T253.setTop (mkF m 206 #[rv a1, iv p1, rv r0, .val (.long (((p1.toInt64) + ((3 : Int32).toInt64)) - (1 : Int64))), .second, iv 0] [])) tq → Steps p.tables e below (T222.setTop (mkF m 94 #[rv a1, iv p1, rv r0, .val (.long (((p1.toInt64) + ((3 : Int32).toInt64)) - (1 : Int64))), .second, iv 3] [])) tq := by
    intro tq kk
    show Steps _ _ _ (T222.setTop (mkF m 94 #[rv a1, iv p1, rv r0, .val (.long (((p1.toInt64) + ((3 : Int32).toInt64)) - (1 : Int64))), .second, iv 3] [])) _
    refine XS.iload X222.here hx rfl (hb hby own_d3_94) rfl ?_
    show Steps _ _ _ (T222.setTop (mkF m 96 _ [.int 3])) _
    refine XS.aloadN X222.here hx rfl (hb hby own_d3_96) rfl rfl ?_
    show Steps _ _ _ (T222.setTop (mkF m 97 _ [.ref r0, .int 3])) _
    refine X222.arraylength hx (by rw [e222]; exact Ar223.1) (State.isArrayOf_alike hZ.alike Ar223.2.1) (g := (mkF m 97 #[rv a1, iv p1, rv r0, .val (.long (((p1.toInt64) + ((3 : Int32).toInt64)) - (1 : Int64))), .second, iv 3] [.ref r0, .int 3])) rfl rfl (hb hby own_d3_97) _ ?_
    rw [len_of aS223 aN223]
    show Steps _ _ _ (T222.setTop (mkF m 98 #[rv a1, iv p1, rv r0, .val (.long (((p1.toInt64) + ((3 : Int32).toInt64)) - (1 : Int64))), .second, iv 3] [.int 3, .int 3])) _
    refine XS.icmpYes X222.here hx rfl (pc0 := 98) (pc' := 179) rfl (hb hby own_d3_98) rfl (flt ((by decide) : ¬ ((3 : Int32) < (3 : Int32)))).2.1 (by decide) (by decide) ?_
    show Steps _ _ _ (T222.setTop (mkF m 179 _ [])) _
    refine XS.aloadN X222.here hx rfl (hb hby own_d3_179) rfl rfl ?_
    show Steps _ _ _ (T222.setTop (mkF m 180 _ [.ref a1])) _
    refine XS.iloadN X222.here hx rfl (hb hby own_d3_180) rfl ?_
    show Steps _ _ _ (T222.setTop (mkF m 181 _ [.int p1, .ref a1])) _
    refine st230 _ ?_
    show Steps _ _ _ (T230.setTop (mkF m 184 #[rv a1, iv p1, rv r0, .val (.long (((p1.toInt64) + ((3 : Int32).toInt64)) - (1 : Int64))), .second, iv 3] [])) _
    refine XS.aloadN X230.here hx rfl (hb hby own_d3_184) rfl rfl ?_
    show Steps _ _ _ (T230.setTop (mkF m 185 _ [.ref a1])) _
    refine XS.aloadN X230.here hx rfl (hb hby own_d3_185) rfl rfl ?_
    show Steps _ _ _ (T230.setTop (mkF m 186 _ [.ref r0, .ref a1])) _
    refine XS.aloadN X230.here hx rfl (hb hby own_d3_186) rfl rfl ?_
    show Steps _ _ _ (T230.setTop (mkF m 187 _ [.ref r0, .ref r0, .ref a1])) _
    refine X230.arraylength hx (by rw [e230]; exact Ar233.1) (State.isArrayOf_alike hZ.alike Ar233.2.1) (g := (mkF m 187 #[rv a1, iv p1, rv r0, .val (.long (((p1.toInt64) + ((3 : Int32).toInt64)) - (1 : Int64))), .second, iv 3] [.ref r0, .ref r0, .ref a1])) rfl rfl (hb hby own_d3_187) _ ?_
    rw [len_of aS233 aN233]
    show Steps _ _ _ (T230.setTop (mkF m 188 #[rv a1, iv p1, rv r0, .val (.long (((p1.toInt64) + ((3 : Int32).toInt64)) - (1 : Int64))), .second, iv 3] [.int 3, .ref r0, .ref a1])) _
    refine st236 _ ?_
    show Steps _ _ _ (T236.setTop (mkF m 191 #[rv a1, iv p1, rv r0, .val (.long (((p1.toInt64) + ((3 : Int32).toInt64)) - (1 : Int64))), .second, iv 3] [.ref b236, .ref a1])) _
    refine st241 _ ?_
    show Steps _ _ _ (T241.setTop (mkF m 194 #[rv a1, iv p1, rv r0, .val (.long (((p1.toInt64) + ((3 : Int32).toInt64)) - (1 : Int64))), .second, iv 3] [])) _
    refine XS.aloadN X241.here hx rfl (hb hby own_d3_194) rfl rfl ?_
    show Steps _ _ _ (T241.setTop (mkF m 195 _ [.ref a1])) _
    refine XS.aloadN X241.here hx rfl (hb hby own_d3_195) rfl rfl ?_
    show Steps _ _ _ (T241.setTop (mkF m 196 _ [.ref r0, .ref a1])) _
    refine X241.arraylength hx (by rw [e241]; exact Ar246.1) (State.isArrayOf_alike hZ.alike Ar246.2.1) (g := (mkF m 196 #[rv a1, iv p1, rv r0, .val (.long (((p1.toInt64) + ((3 : Int32).toInt64)) - (1 : Int64))), .second, iv 3] [.ref r0, .ref a1])) rfl rfl (hb hby own_d3_196) _ ?_
    rw [len_of aS246 aN246]
    show Steps _ _ _ (T241.setTop (mkF m 197 #[rv a1, iv p1, rv r0, .val (.long (((p1.toInt64) + ((3 : Int32).toInt64)) - (1 : Int64))), .second, iv 3] [.int 3, .ref a1])) _
    refine st248 _ ?_
    show Steps _ _ _ (T248.setTop (mkF m 200 #[rv a1, iv p1, rv r0, .val (.long (((p1.toInt64) + ((3 : Int32).toInt64)) - (1 : Int64))), .second, iv 3] [.ref b248, .ref a1])) _
    refine st253 _ ?_
    show Steps _ _ _ (T253.setTop (mkF m 203 #[rv a1, iv p1, rv r0, .val (.long (((p1.toInt64) + ((3 : Int32).toInt64)) - (1 : Int64))), .second, iv 3] [])) _
    refine XS.iconst X253.here hx rfl (hb hby own_d3_203) ?_
    show Steps _ _ _ (T253.setTop (mkF m 204 _ [.int 0])) _
    refine XS.istore X253.here hx rfl (hb hby own_d3_204) rfl (l' := #[rv a1, iv p1, rv r0, .val (.long (((p1.toInt64) + ((3 : Int32).toInt64)) - (1 : Int64))), .second, iv 0]) rfl ?_
    exact kk
  have hq : ∀ j, j < 3 → ∃ q, ([(.double q0), (.double q1), (.double q2)] : List Value).getD j (.double 0) = .double q ∧ Mag64 1024 q := by
    intro j hj
    rcases (show j = 0 ∨ j = 1 ∨ j = 2 by omega) with rfl | rfl | rfl
    · exact ⟨q0, rfl, ok0.2.2.2⟩
    · exact ⟨q1, rfl, ok1.2.2.2⟩
    · exact ⟨q2, rfl, ok2.2.2.2⟩
  have f260 := ((f247.ext E248).other W253 hra)
  obtain ⟨cl259, Ar259, aq259, aS259, aN259, aH259, aG259⟩ := id f260
  obtain ⟨T261, X261, e261, st261⟩ := getF X253 hx hZ hown (host := "") (Or.inl (W 33 rfl)) Via.refl e253 Fw253 (g := (mkF m 214 #[rv a1, iv p1, rv r0, .val (.long (((p1.toInt64) + ((3 : Int32).toInt64)) - (1 : Int64))), .second, iv 0] [.ref a1])) rfl rfl (hb hby own_d3_214)
  have f262 := ((((Fw230.keep K236 nin0).other W241 (Or.inr (slot_ne (Or.inr (W 15 rfl)) (Or.inr (W 30 rfl)) (by decide) (t := .int) (t' := (.array .double)) (by decide) (by decide)))).ext E248).other W253 (Or.inr (slot_ne (Or.inr (W 15 rfl)) (Or.inr (W 34 rfl)) (by decide) (t := .int) (t' := (.array (.array .double))) (by decide) (by decide))))
  have f263 := ((Fw241.ext E248).other W253 (Or.inr (slot_ne (Or.inr (W 30 rfl)) (Or.inr (W 34 rfl)) (by decide) (t := (.array .double)) (t' := (.array (.array .double))) (by decide) (by decide))))
  have f264 := (Nat.lt_of_lt_of_le E1.lt (Keep.of_wr W230).1)
  have f265 := (((V236.other W241 (Ne.symm (Nat.ne_of_lt (Nat.lt_of_lt_of_le f264 sb236)))).ext E248).other W253 (Ne.symm (Nat.ne_of_lt (Nat.lt_of_lt_of_le f264 sb236))))
  have f267 := (f255.wr W253)
  obtain ⟨cq266, q266, q266'⟩ := f267.cell
  obtain ⟨_, _, ⟨T266, L266, k266, n266⟩, -, X266, ⟨Lc266, hQ266, l266, y266, z266⟩, st266⟩ := X261.privateBack hx (y := (⟨"com/example/pensionwright/pensionwright/actuarial/MortalityTable", "aliveByMonth", "(I)[D"⟩ : MethodName)) hown (mvT hZ (W 35 rfl)) (mvT hZ (W 36 rfl)) (mvT hZ (own_selP (W 5 rfl) (W 36 rfl) (W 37 rfl) (by decide))) (Cond.privateMethod_at (mvP hZ (W 37 rfl) (args := #[]))) (mvT hZ (W 38 rfl)) (by decide) (backOf (W := 2) (rm_alv l Z a0 hw [] a1 b236 (p1 + (0 : Int32)) p1 kr [(.double q0), (.double q1), (.double q2)] 3 0 h253 n0 Z256 f262 f263 f265 (own_back _ _) (by decide) (by decide) hq) hZ (W 38 rfl) (W 6 rfl) (by decide) (by decide)) (g := (mkF m 224 #[rv a1, iv p1, rv r0, .val (.long (((p1.toInt64) + ((3 : Int32).toInt64)) - (1 : Int64))), .second, iv 0] [.int (p1 + (0 : Int32)), .ref a1, .int 0, .ref b248])) rfl (by rw [hml]; rfl) (Steps.refl _) (a := a1) (by rw [e261]; exact q266) q266' (argsL := [.int (p1 + (0 : Int32))]) (rest := [.int 0, .ref b248]) (lenOf own_pd_4 rfl) rfl own_wt (hb hby own_d3_224) (fun _ _ => ⟨rfl, e261, (by decide : 2 + 1 ≤ _), (by decide : 6 + 36 ≤ _)⟩)
  dsimp only [Pt.U, Pt.locs, Pt.cells, Pt.slots] at X266 l266 y266 z266 st266 hQ266
  subst l266 y266 z266
  obtain ⟨b266, hv266, Nq266, K266, sb266, ex266⟩ := hQ266
  subst hv266
  have N266 := Fr.app N253 Nq266
  have g268 : n0 ≤ b266 := Nat.le_trans Z256 sb266
  have g269 : h0.size ≤ b266 := Nat.le_trans K257.1 sb266
  have Z270 : n0 ≤ T266.heap.size := Nat.le_trans Z256 K266.1
  have K271 : Keep h0 T266.heap [a1] := K257.trans K266 all0
  have f273 := (Nat.lt_of_lt_of_le (Nat.lt_of_lt_of_le f264 K236.1) (Keep.of_wr W241).1)
  have f274 := ((V248.other W253 (Ne.symm (Nat.ne_of_lt (Nat.lt_of_lt_of_le f273 (Nat.le_of_eq g248.symm))))).keep K266 nin0)
  obtain ⟨cl272, Ar272, aq272, aS272, aN272, aH272, aG272⟩ := id f274
  obtain ⟨T275, h275, X275, e275, W275, st275⟩ := stR X266 hx hZ rfl Ar272 (j := (0 : Int32)) (inb_of aS272 ⟨(by decide), (by decide)⟩) rfl (Sto.ofVA Ar272 aq272 ov248 (Ins.self ex266)) (g := (mkF m 227 #[rv a1, iv p1, rv r0, .val (.long (((p1.toInt64) + ((3 : Int32).toInt64)) - (1 : Int64))), .second, iv 0] [.ref b266, .int 0, .ref b248])) rfl rfl (hb hby own_d3_227)
  have N275 := Fr.snoc X275 N266 g249
  have V275 : Arv Z h275 b248 k248 (.array .double) (3 : Int32) [(.ref b266), .null, .null] .null := Arv.set Ar272 aq272 aS272 aN272 aH272 aG272 rfl W275 0 rfl (Nat.le_of_ble_eq_true rfl)
  have Z276 : n0 ≤ h275.size := Nat.le_trans Z270 (Keep.of_wr W275).1
  have K277 : Keep h0 h275 [a1] := K271.wr W275 (Or.inr g250)
  have G278 : ∀ tq, Steps p.tables e below (T275.setTop (mkF m 206 #[rv a1, iv p1, rv r0, .val (.long (((p1.toInt64) + ((3 : Int32).toInt64)) - (1 : Int64))), .second, iv 1] [])) tq → Steps p.tables e below (T253.setTop (mkF m 206 #[rv a1, iv p1, rv r0, .val (.long (((p1.toInt64) + ((3 : Int32).toInt64)) - (1 : Int64))), .second, iv 0] [])) tq := by
    intro tq kk
    show Steps _ _ _ (T253.setTop (mkF m 206 #[rv a1, iv p1, rv r0, .val (.long (((p1.toInt64) + ((3 : Int32).toInt64)) - (1 : Int64))), .second, iv 0] [])) _
    refine XS.iload X253.here hx rfl (hb hby own_d3_206) rfl ?_
    show Steps _ _ _ (T253.setTop (mkF m 208 _ [.int 0])) _
    refine XS.aloadN X253.here hx rfl (hb hby own_d3_208) rfl rfl ?_
    show Steps _ _ _ (T253.setTop (mkF m 209 _ [.ref r0, .int 0])) _
    refine X253.arraylength hx (by rw [e253]; exact Ar259.1) (State.isArrayOf_alike hZ.alike Ar259.2.1) (g := (mkF m 209 #[rv a1, iv p1, rv r0, .val (.long (((p1.toInt64) + ((3 : Int32).toInt64)) - (1 : Int64))), .second, iv 0] [.ref r0, .int 0])) rfl rfl (hb hby own_d3_209) _ ?_
    rw [len_of aS259 aN259]
    show Steps _ _ _ (T253.setTop (mkF m 210 #[rv a1, iv p1, rv r0, .val (.long (((p1.toInt64) + ((3 : Int32).toInt64)) - (1 : Int64))), .second, iv 0] [.int 3, .int 0])) _
    refine XS.icmpNo X253.here hx rfl (hb hby own_d3_210) rfl (tlt ((by decide) : (0 : Int32) < (3 : Int32))).2.1 ?_
    show Steps _ _ _ (T253.setTop (mkF m 213 _ [])) _
    refine XS.aloadN X253.here hx rfl (hb hby own_d3_213) rfl rfl ?_
    show Steps _ _ _ (T253.setTop (mkF m 214 _ [.ref a1])) _
    refine st261 _ ?_
    show Steps _ _ _ (T261.setTop (mkF m 217 #[rv a1, iv p1, rv r0, .val (.long (((p1.toInt64) + ((3 : Int32).toInt64)) - (1 : Int64))), .second, iv 0] [.ref b248])) _
    refine XS.iload X261.here hx rfl (hb hby own_d3_217) rfl ?_
    show Steps _ _ _ (T261.setTop (mkF m 219 _ [.int 0, .ref b248])) _
    refine XS.aloadN X261.here hx rfl (hb hby own_d3_219) rfl rfl ?_
    show Steps _ _ _ (T261.setTop (mkF m 220 _ [.ref a1, .int 0, .ref b248])) _
    refine XS.iloadN X261.here hx rfl (hb hby own_d3_220) rfl ?_
    show Steps _ _ _ (T261.setTop (mkF m 221 _ [.int p1, .ref a1, .int 0, .ref b248])) _
    refine XS.iload X261.here hx rfl (hb hby own_d3_221) rfl ?_
    show Steps _ _ _ (T261.setTop (mkF m 223 _ [.int 0, .int p1, .ref a1, .int 0, .ref b248])) _
    refine XS.iadd X261.here hx rfl (hb hby own_d3_223) rfl ?_
    show Steps _ _ _ (T261.setTop (mkF m 224 _ [.int (p1 + (0 : Int32)), .ref a1, .int 0, .ref b248])) _
    refine st266.trans ?_
    show Steps _ _ _ (T266.setTop (mkF m 227 #[rv a1, iv p1, rv r0, .val (.long (((p1.toInt64) + ((3 : Int32).toInt64)) - (1 : Int64))), .second, iv 0] [.ref b266, .int 0, .ref b248])) _
    refine st275 _ ?_
    show Steps _ _ _ (T275.setTop (mkF m 228 #[rv a1, iv p1, rv r0, .val (.long (((p1.toInt64) + ((3 : Int32).toInt64)) - (1 : Int64))), .second, iv 0] [])) _
    refine XS.iinc X275.here hx rfl (hb hby own_d3_228) rfl (l' := #[rv a1, iv p1, rv r0, .val (.long (((p1.toInt64) + ((3 : Int32).toInt64)) - (1 : Int64))), .second, iv 1]) rfl ?_
    show Steps _ _ _ (T275.setTop (mkF m 231 _ [])) _
    refine XS.goto X275.here hx rfl (pc0 := 231) (pc' := 206) rfl (hb hby own_d3_231) (by decide) (by decide) ?_
    exact kk
  have f280 := (Nat.lt_of_lt_of_le (Nat.lt_of_lt_of_le (Nat.lt_of_lt_of_le ER.lt (Keep.of_wr W230).1) K236.1) (Keep.of_wr W241).1)
  have f281 := ((f260.keep K266 nin0).other W275 (Nat.ne_of_lt (Nat.lt_of_lt_of_le f280 (Nat.le_of_eq g248.symm))))
  obtain ⟨cl279, Ar279, aq279, aS279, aN279, aH279, aG279⟩ := id f281
  have f282 := ((Fw253.keep K266 nin0).other W275 (Or.inl (Nat.ne_of_lt (Nat.lt_of_lt_of_le f273 (Nat.le_of_eq g248.symm)))))
  obtain ⟨T283, X283, e283, st283⟩ := getF X275 hx hZ hown (host := "") (Or.inl (W 33 rfl)) Via.refl e275 f282 (g := (mkF m 214 #[rv a1, iv p1, rv r0, .val (.long (((p1.toInt64) + ((3 : Int32).toInt64)) - (1 : Int64))), .second, iv 1] [.ref a1])) rfl rfl (hb hby own_d3_214)
  have f284 := ((f262.keep K266 nin0).other W275 (Or.inl (Nat.ne_of_lt (Nat.lt_of_lt_of_le f273 (Nat.le_of_eq g248.symm)))))
  have f285 := ((f263.keep K266 nin0).other W275 (Or.inl (Nat.ne_of_lt (Nat.lt_of_lt_of_le f273 (Nat.le_of_eq g248.symm)))))
  have f286 := (Nat.lt_of_lt_of_le V236.lt (Keep.of_wr W241).1)
  have f287 := ((f265.keep K266 nin0).other W275 (Nat.ne_of_lt (Nat.lt_of_lt_of_le f286 (Nat.le_of_eq g248.symm))))
  have f289 := ((f267.keep K266).wr W275)
  obtain ⟨cq288, q288, q288'⟩ := f289.cell
  obtain ⟨_, _, ⟨T288, L288, k288, n288⟩, -, X288, ⟨Lc288, hQ288, l288, y288, z288⟩, st288⟩ := X283.privateBack hx (y := (⟨"com/example/pensionwright/pensionwright/actuarial/MortalityTable", "aliveByMonth", "(I)[D"⟩ : MethodName)) hown (mvT hZ (W 35 rfl)) (mvT hZ (W 36 rfl)) (mvT hZ (own_selP (W 5 rfl) (W 36 rfl) (W 37 rfl) (by decide))) (Cond.privateMethod_at (mvP hZ (W 37 rfl) (args := #[]))) (mvT hZ (W 38 rfl)) (by decide) (backOf (W := 2) (rm_alv l Z a0 hw [] a1 b236 (p1 + (1 : Int32)) p1 kr [(.double q0), (.double q1), (.double q2)] 3 1 h275 n0 Z276 f284 f285 f287 (own_back _ _) (by decide) (by decide) hq) hZ (W 38 rfl) (W 6 rfl) (by decide) (by decide)) (g := (mkF m 224 #[rv a1, iv p1, rv r0, .val (.long (((p1.toInt64) + ((3 : Int32).toInt64)) - (1 : Int64))), .second, iv 1] [.int (p1 + (1 : Int32)), .ref a1, .int 1, .ref b248])) rfl (by rw [hml]; rfl) (Steps.refl _) (a := a1) (by rw [e283]; exact q288) q288' (argsL := [.int (p1 + (1 : Int32))]) (rest := [.int 1, .ref b248]) (lenOf own_pd_4 rfl) rfl own_wt (hb hby own_d3_224) (fun _ _ => ⟨rfl, e283, (by decide : 3 + 1 ≤ _), (by decide : 42 + 36 ≤ _)⟩)
  dsimp only [Pt.U, Pt.locs, Pt.cells, Pt.slots] at X288 l288 y288 z288 st288 hQ288
  subst l288 y288 z288
  obtain ⟨b288, hv288, Nq288, K288, sb288, ex288⟩ := hQ288
  subst hv288
  have N288 := Fr.app N275 Nq288
  have g290 : n0 ≤ b288 := Nat.le_trans Z276 sb288
  have g291 : h0.size ≤ b288 := Nat.le_trans K277.1 sb288
  have Z292 : n0 ≤ T288.heap.size := Nat.le_trans Z276 K288.1
  have K293 : Keep h0 T288.heap [a1] := K277.trans K288 all0
  have f295 := (V275.keep K288 nin0)
  obtain ⟨cl294, Ar294, aq294, aS294, aN294, aH294, aG294⟩ := id f295
  obtain ⟨T296, h296, X296, e296, W296, st296⟩ := stR X288 hx hZ rfl Ar294 (j := (1 : Int32)) (inb_of aS294 ⟨(by decide), (by decide)⟩) rfl (Sto.ofVA Ar294 aq294 ov248 (Ins.self ex288)) (g := (mkF m 227 #[rv a1, iv p1, rv r0, .val (.long (((p1.toInt64) + ((3 : Int32).toInt64)) - (1 : Int64))), .second, iv 1] [.ref b288, .int 1, .ref b248])) rfl rfl (hb hby own_d3_227)
  have N296 := Fr.snoc X296 N288 g249
  have V296 : Arv Z h296 b248 k248 (.array .double) (3 : Int32) [(.ref b266), (.ref b288), .null] .null := Arv.set Ar294 aq294 aS294 aN294 aH294 aG294 rfl W296 1 rfl (Nat.le_of_ble_eq_true rfl)
  have Z297 : n0 ≤ h296.size := Nat.le_trans Z292 (Keep.of_wr W296).1
  have K298 : Keep h0 h296 [a1] := K293.wr W296 (Or.inr g250)
  have G299 : ∀ tq, Steps p.tables e below (T296.setTop (mkF m 206 #[rv a1, iv p1, rv r0, .val (.long (((p1.toInt64) + ((3 : Int32).toInt64)) - (1 : Int64))), .second, iv 2] [])) tq → Steps p.tables e below (T275.setTop (mkF m 206 #[rv a1, iv p1, rv r0, .val (.long (((p1.toInt64) + ((3 : Int32).toInt64)) - (1 : Int64))), .second, iv 1] [])) tq := by
    intro tq kk
    show Steps _ _ _ (T275.setTop (mkF m 206 #[rv a1, iv p1, rv r0, .val (.long (((p1.toInt64) + ((3 : Int32).toInt64)) - (1 : Int64))), .second, iv 1] [])) _
    refine XS.iload X275.here hx rfl (hb hby own_d3_206) rfl ?_
    show Steps _ _ _ (T275.setTop (mkF m 208 _ [.int 1])) _
    refine XS.aloadN X275.here hx rfl (hb hby own_d3_208) rfl rfl ?_
    show Steps _ _ _ (T275.setTop (mkF m 209 _ [.ref r0, .int 1])) _
    refine X275.arraylength hx (by rw [e275]; exact Ar279.1) (State.isArrayOf_alike hZ.alike Ar279.2.1) (g := (mkF m 209 #[rv a1, iv p1, rv r0, .val (.long (((p1.toInt64) + ((3 : Int32).toInt64)) - (1 : Int64))), .second, iv 1] [.ref r0, .int 1])) rfl rfl (hb hby own_d3_209) _ ?_
    rw [len_of aS279 aN279]
    show Steps _ _ _ (T275.setTop (mkF m 210 #[rv a1, iv p1, rv r0, .val (.long (((p1.toInt64) + ((3 : Int32).toInt64)) - (1 : Int64))), .second, iv 1] [.int 3, .int 1])) _
    refine XS.icmpNo X275.here hx rfl (hb hby own_d3_210) rfl (tlt ((by decide) : (1 : Int32) < (3 : Int32))).2.1 ?_
    show Steps _ _ _ (T275.setTop (mkF m 213 _ [])) _
    refine XS.aloadN X275.here hx rfl (hb hby own_d3_213) rfl rfl ?_
    show Steps _ _ _ (T275.setTop (mkF m 214 _ [.ref a1])) _
    refine st283 _ ?_
    show Steps _ _ _ (T283.setTop (mkF m 217 #[rv a1, iv p1, rv r0, .val (.long (((p1.toInt64) + ((3 : Int32).toInt64)) - (1 : Int64))), .second, iv 1] [.ref b248])) _
    refine XS.iload X283.here hx rfl (hb hby own_d3_217) rfl ?_
    show Steps _ _ _ (T283.setTop (mkF m 219 _ [.int 1, .ref b248])) _
    refine XS.aloadN X283.here hx rfl (hb hby own_d3_219) rfl rfl ?_
    show Steps _ _ _ (T283.setTop (mkF m 220 _ [.ref a1, .int 1, .ref b248])) _
    refine XS.iloadN X283.here hx rfl (hb hby own_d3_220) rfl ?_
    show Steps _ _ _ (T283.setTop (mkF m 221 _ [.int p1, .ref a1, .int 1, .ref b248])) _
    refine XS.iload X283.here hx rfl (hb hby own_d3_221) rfl ?_
    show Steps _ _ _ (T283.setTop (mkF m 223 _ [.int 1, .int p1, .ref a1, .int 1, .ref b248])) _
    refine XS.iadd X283.here hx rfl (hb hby own_d3_223) rfl ?_
    show Steps _ _ _ (T283.setTop (mkF m 224 _ [.int (p1 + (1 : Int32)), .ref a1, .int 1, .ref b248])) _
    refine st288.trans ?_
    show Steps _ _ _ (T288.setTop (mkF m 227 #[rv a1, iv p1, rv r0, .val (.long (((p1.toInt64) + ((3 : Int32).toInt64)) - (1 : Int64))), .second, iv 1] [.ref b288, .int 1, .ref b248])) _
    refine st296 _ ?_
    show Steps _ _ _ (T296.setTop (mkF m 228 #[rv a1, iv p1, rv r0, .val (.long (((p1.toInt64) + ((3 : Int32).toInt64)) - (1 : Int64))), .second, iv 1] [])) _
    refine XS.iinc X296.here hx rfl (hb hby own_d3_228) rfl (l' := #[rv a1, iv p1, rv r0, .val (.long (((p1.toInt64) + ((3 : Int32).toInt64)) - (1 : Int64))), .second, iv 2]) rfl ?_
    show Steps _ _ _ (T296.setTop (mkF m 231 _ [])) _
    refine XS.goto X296.here hx rfl (pc0 := 231) (pc' := 206) rfl (hb hby own_d3_231) (by decide) (by decide) ?_
    exact kk
  have f301 := ((f281.keep K288 nin0).other W296 (Nat.ne_of_lt (Nat.lt_of_lt_of_le f280 (Nat.le_of_eq g248.symm))))
  obtain ⟨cl300, Ar300, aq300, aS300, aN300, aH300, aG300⟩ := id f301
  have f302 := ((f282.keep K288 nin0).other W296 (Or.inl (Nat.ne_of_lt (Nat.lt_of_lt_of_le f273 (Nat.le_of_eq g248.symm)))))
  obtain ⟨T303, X303, e303, st303⟩ := getF X296 hx hZ hown (host := "") (Or.inl (W 33 rfl)) Via.refl e296 f302 (g := (mkF m 214 #[rv a1, iv p1, rv r0, .val (.long (((p1.toInt64) + ((3 : Int32).toInt64)) - (1 : Int64))), .second, iv 2] [.ref a1])) rfl rfl (hb hby own_d3_214)
  have f304 := ((f284.keep K288 nin0).other W296 (Or.inl (Nat.ne_of_lt (Nat.lt_of_lt_of_le f273 (Nat.le_of_eq g248.symm)))))
  have f305 := ((f285.keep K288 nin0).other W296 (Or.inl (Nat.ne_of_lt (Nat.lt_of_lt_of_le f273 (Nat.le_of_eq g248.symm)))))
  have f306 := ((f287.keep K288 nin0).other W296 (Nat.ne_of_lt (Nat.lt_of_lt_of_le f286 (Nat.le_of_eq g248.symm))))
  have f308 := ((f289.keep K288).wr W296)
  obtain ⟨cq307, q307, q307'⟩ := f308.cell
  obtain ⟨_, _, ⟨T307, L307, k307, n307⟩, -, X307, ⟨Lc307, hQ307, l307, y307, z307⟩, st307⟩ := X303.privateBack hx (y := (⟨"com/example/pensionwright/pensionwright/actuarial/MortalityTable", "aliveByMonth", "(I)[D"⟩ : MethodName)) hown (mvT hZ (W 35 rfl)) (mvT hZ (W 36 rfl)) (mvT hZ (own_selP (W 5 rfl) (W 36 rfl) (W 37 rfl) (by decide))) (Cond.privateMethod_at (mvP hZ (W 37 rfl) (args := #[]))) (mvT hZ (W 38 rfl)) (by decide) (backOf (W := 2) (rm_alv l Z a0 hw [] a1 b236 (p1 + (2 : Int32)) p1 kr [(.double q0), (.double q1), (.double q2)] 3 2 h296 n0 Z297 f304 f305 f306 (own_back _ _) (by decide) (by decide) hq) hZ (W 38 rfl) (W 6 rfl) (by decide) (by decide)) (g := (mkF m 224 #[rv a1, iv p1, rv r0, .val (.long (((p1.toInt64) + ((3 : Int32).toInt64)) - (1 : Int64))), .second, iv 2] [.int (p1 + (2 : Int32)), .ref a1, .int 2, .ref b248])) rfl (by rw [hml]; rfl) (Steps.refl _) (a := a1) (by rw [e303]; exact q307) q307' (argsL := [.int (p1 + (2 : Int32))]) (rest := [.int 2, .ref b248]) (lenOf own_pd_4 rfl) rfl own_wt (hb hby own_d3_224) (fun _ _ => ⟨rfl, e303, (by decide : 4 + 1 ≤ _), (by decide : 78 + 36 ≤ _)⟩)
  dsimp only [Pt.U, Pt.locs, Pt.cells, Pt.slots] at X307 l307 y307 z307 st307 hQ307
  subst l307 y307 z307
  obtain ⟨b307, hv307, Nq307, K307, sb307, ex307⟩ := hQ307
  subst hv307
  have N307 := Fr.app N296 Nq307
  have g309 : n0 ≤ b307 := Nat.le_trans Z297 sb307
  have g310 : h0.size ≤ b307 := Nat.le_trans K298.1 sb307
  have Z311 : n0 ≤ T307.heap.size := Nat.le_trans Z297 K307.1
  have K312 : Keep h0 T307.heap [a1] := K298.trans K307 all0
  have f314 := (V296.keep K307 nin0)
  obtain ⟨cl313, Ar313, aq313, aS313, aN313, aH313, aG313⟩ := id f314
  obtain ⟨T315, h315, X315, e315, W315, st315⟩ := stR X307 hx hZ rfl Ar313 (j := (2 : Int32)) (inb_of aS313 ⟨(by decide), (by decide)⟩) rfl (Sto.ofVA Ar313 aq313 ov248 (Ins.self ex307)) (g := (mkF m 227 #[rv a1, iv p1, rv r0, .val (.long (((p1.toInt64) + ((3 : Int32).toInt64)) - (1 : Int64))), .second, iv 2] [.ref b307, .int 2, .ref b248])) rfl rfl (hb hby own_d3_227)
  have N315 := Fr.snoc X315 N307 g249
  have V315 : Arv Z h315 b248 k248 (.array .double) (3 : Int32) [(.ref b266), (.ref b288), (.ref b307)] .null := Arv.set Ar313 aq313 aS313 aN313 aH313 aG313 rfl W315 2 rfl (Nat.le_of_ble_eq_true rfl)
  have Z316 : n0 ≤ h315.size := Nat.le_trans Z311 (Keep.of_wr W315).1
  have K317 : Keep h0 h315 [a1] := K312.wr W315 (Or.inr g250)
  have G318 : ∀ tq, Steps p.tables e below (T315.setTop (mkF m 206 #[rv a1, iv p1, rv r0, .val (.long (((p1.toInt64) + ((3 : Int32).toInt64)) - (1 : Int64))), .second, iv 3] [])) tq → Steps p.tables e below (T296.setTop (mkF m 206 #[rv a1, iv p1, rv r0, .val (.long (((p1.toInt64) + ((3 : Int32).toInt64)) - (1 : Int64))), .second, iv 2] [])) tq := by
    intro tq kk
    show Steps _ _ _ (T296.setTop (mkF m 206 #[rv a1, iv p1, rv r0, .val (.long (((p1.toInt64) + ((3 : Int32).toInt64)) - (1 : Int64))), .second, iv 2] [])) _
    refine XS.iload X296.here hx rfl (hb hby own_d3_206) rfl ?_
    show Steps _ _ _ (T296.setTop (mkF m 208 _ [.int 2])) _
    refine XS.aloadN X296.here hx rfl (hb hby own_d3_208) rfl rfl ?_
    show Steps _ _ _ (T296.setTop (mkF m 209 _ [.ref r0, .int 2])) _
    refine X296.arraylength hx (by rw [e296]; exact Ar300.1) (State.isArrayOf_alike hZ.alike Ar300.2.1) (g := (mkF m 209 #[rv a1, iv p1, rv r0, .val (.long (((p1.toInt64) + ((3 : Int32).toInt64)) - (1 : Int64))), .second, iv 2] [.ref r0, .int 2])) rfl rfl (hb hby own_d3_209) _ ?_
    rw [len_of aS300 aN300]
    show Steps _ _ _ (T296.setTop (mkF m 210 #[rv a1, iv p1, rv r0, .val (.long (((p1.toInt64) + ((3 : Int32).toInt64)) - (1 : Int64))), .second, iv 2] [.int 3, .int 2])) _
    refine XS.icmpNo X296.here hx rfl (hb hby own_d3_210) rfl (tlt ((by decide) : (2 : Int32) < (3 : Int32))).2.1 ?_
    show Steps _ _ _ (T296.setTop (mkF m 213 _ [])) _
    refine XS.aloadN X296.here hx rfl (hb hby own_d3_213) rfl rfl ?_
    show Steps _ _ _ (T296.setTop (mkF m 214 _ [.ref a1])) _
    refine st303 _ ?_
    show Steps _ _ _ (T303.setTop (mkF m 217 #[rv a1, iv p1, rv r0, .val (.long (((p1.toInt64) + ((3 : Int32).toInt64)) - (1 : Int64))), .second, iv 2] [.ref b248])) _
    refine XS.iload X303.here hx rfl (hb hby own_d3_217) rfl ?_
    show Steps _ _ _ (T303.setTop (mkF m 219 _ [.int 2, .ref b248])) _
    refine XS.aloadN X303.here hx rfl (hb hby own_d3_219) rfl rfl ?_
    show Steps _ _ _ (T303.setTop (mkF m 220 _ [.ref a1, .int 2, .ref b248])) _
    refine XS.iloadN X303.here hx rfl (hb hby own_d3_220) rfl ?_
    show Steps _ _ _ (T303.setTop (mkF m 221 _ [.int p1, .ref a1, .int 2, .ref b248])) _
    refine XS.iload X303.here hx rfl (hb hby own_d3_221) rfl ?_
    show Steps _ _ _ (T303.setTop (mkF m 223 _ [.int 2, .int p1, .ref a1, .int 2, .ref b248])) _
    refine XS.iadd X303.here hx rfl (hb hby own_d3_223) rfl ?_
    show Steps _ _ _ (T303.setTop (mkF m 224 _ [.int (p1 + (2 : Int32)), .ref a1, .int 2, .ref b248])) _
    refine st307.trans ?_
    show Steps _ _ _ (T307.setTop (mkF m 227 #[rv a1, iv p1, rv r0, .val (.long (((p1.toInt64) + ((3 : Int32).toInt64)) - (1 : Int64))), .second, iv 2] [.ref b307, .int 2, .ref b248])) _
    refine st315 _ ?_
    show Steps _ _ _ (T315.setTop (mkF m 228 #[rv a1, iv p1, rv r0, .val (.long (((p1.toInt64) + ((3 : Int32).toInt64)) - (1 : Int64))), .second, iv 2] [])) _
    refine XS.iinc X315.here hx rfl (hb hby own_d3_228) rfl (l' := #[rv a1, iv p1, rv r0, .val (.long (((p1.toInt64) + ((3 : Int32).toInt64)) - (1 : Int64))), .second, iv 3]) rfl ?_
    show Steps _ _ _ (T315.setTop (mkF m 231 _ [])) _
    refine XS.goto X315.here hx rfl (pc0 := 231) (pc' := 206) rfl (hb hby own_d3_231) (by decide) (by decide) ?_
    exact kk
  have f320 := ((f301.keep K307 nin0).other W315 (Nat.ne_of_lt (Nat.lt_of_lt_of_le f280 (Nat.le_of_eq g248.symm))))
  obtain ⟨cl319, Ar319, aq319, aS319, aN319, aH319, aG319⟩ := id f320
  have f321 := ((f308.keep K307).wr W315)
  have f322 := ((f304.keep K307 nin0).other W315 (Or.inl (Nat.ne_of_lt (Nat.lt_of_lt_of_le f273 (Nat.le_of_eq g248.symm)))))
  have f323 := ((f305.keep K307 nin0).other W315 (Or.inl (Nat.ne_of_lt (Nat.lt_of_lt_of_le f273 (Nat.le_of_eq g248.symm)))))
  have f324 := ((f306.keep K307 nin0).other W315 (Nat.ne_of_lt (Nat.lt_of_lt_of_le f286 (Nat.le_of_eq g248.symm))))
  obtain ⟨fs, hr, hrun, hended, hW, hsame⟩ := X315.leave (v := none) (fun _ => rfl)
  refine ⟨_, _, pre0 _ (G224 _ (G225 _ (G226 _ (G227 _ (GL _ (G258 _ (G278 _ (G299 _ (G318 _ (?_)))))))))), hrun, hended, _, _, rfl, ?_, ⟨_, rfl⟩, hW, hsame.mono (by decide) (by decide)⟩
  · show Steps _ _ _ (T315.setTop (mkF m 206 #[rv a1, iv p1, rv r0, .val (.long (((p1.toInt64) + ((3 : Int32).toInt64)) - (1 : Int64))), .second, iv 3] [])) _
    refine XS.iload X315.here hx rfl (hb hby own_d3_206) rfl ?_
    show Steps _ _ _ (T315.setTop (mkF m 208 _ [.int 3])) _
    refine XS.aloadN X315.here hx rfl (hb hby own_d3_208) rfl rfl ?_
    show Steps _ _ _ (T315.setTop (mkF m 209 _ [.ref r0, .int 3])) _
    refine X315.arraylength hx (by rw [e315]; exact Ar319.1) (State.isArrayOf_alike hZ.alike Ar319.2.1) (g := (mkF m 209 #[rv a1, iv p1, rv r0, .val (.long (((p1.toInt64) + ((3 : Int32).toInt64)) - (1 : Int64))), .second, iv 3] [.ref r0, .int 3])) rfl rfl (hb hby own_d3_209) _ ?_
    rw [len_of aS319 aN319]
    show Steps _ _ _ (T315.setTop (mkF m 210 #[rv a1, iv p1, rv r0, .val (.long (((p1.toInt64) + ((3 : Int32).toInt64)) - (1 : Int64))), .second, iv 3] [.int 3, .int 3])) _
    refine XS.icmpYes X315.here hx rfl (pc0 := 210) (pc' := 234) rfl (hb hby own_d3_210) rfl (flt ((by decide) : ¬ ((3 : Int32) < (3 : Int32)))).2.1 (by decide) (by decide) ?_
    show Steps _ _ _ (T315.setTop (mkF m 234 _ [])) _
    exact X315.returnOut hx Bd.returns (hb hby own_d3_234) hr
  · show Q_mi3 Z a1 r0 p1 kr q0 q1 q2 h0 n0 _ T315.heap _
    rw [e315]
    exact ⟨rfl, N315, K317, f321, f322, b236, f323, f324⟩
theorem own_mask (x : Int32) : 0 ≤ (x &&& (2147483647 : Int32)).toInt := by
  have h1 : (x &&& (2147483647 : Int32)).toBitVec.toNat < 2147483648 := by
    rw [Int32.toBitVec_and, BitVec.toNat_and]
    exact Nat.lt_of_le_of_lt Nat.and_le_right (by decide)
  show 0 ≤ BitVec.toInt _
  rw [BitVec.toInt_eq_toNat_of_lt (by omega)]; exact Int.natCast_nonneg _
theorem own_mod3 (x : Int32) : (x &&& (2147483647 : Int32)) % (3 : Int32) = 0 ∨ (x &&& (2147483647 : Int32)) % (3 : Int32) = 1 ∨ (x &&& (2147483647 : Int32)) % (3 : Int32) = 2 := by
  have h0 := own_mask x
  generalize x &&& (2147483647 : Int32) = A at *
  have e : (3 : Int32).toInt = 3 := rfl
  have hA : (A % 3).toInt = A.toInt % 3 := by rw [Int32.toInt_mod, e, Int.tmod_eq_emod_of_nonneg h0]
  have a0 := Int.emod_nonneg A.toInt (show (3 : Int) ≠ 0 by decide)
  have a1 := Int.emod_lt_of_pos A.toInt (show (0 : Int) < 3 by decide)
  rcases (show A.toInt % 3 = 0 ∨ A.toInt % 3 = 1 ∨ A.toInt % 3 = 2 by omega) with h | h | h
  · exact Or.inl (Int32.toInt_inj.mp (hA.trans h))
  · exact Or.inr (Or.inl (Int32.toInt_inj.mp (hA.trans h)))
  · exact Or.inr (Or.inr (Int32.toInt_inj.mp (hA.trans h)))
theorem own_bm32 {n : Int} (h1 : 0 ≤ n) (h2 : n < 2147483648) : n.bmod (2 ^ 32) = n := Int.bmod_eq_of_le (Int.le_trans (by decide) h1) (Int.lt_of_lt_of_le h2 (by decide))
theorem own_bm64 {n : Int} (h1 : 0 ≤ n) (h2 : n < 9223372036854775808) : n.bmod (2 ^ 64) = n := Int.bmod_eq_of_le (Int.le_trans (by decide) h1) (Int.lt_of_lt_of_le h2 (by decide))
/-- the numbers of a table of N rates from age f on, f + N - 1 an int -/
theorem own_ages (f N : Int32) (k : Int) (hk : N.toInt = k) (h1 : 1 ≤ k) (h3 : k ≤ 3) (h0 : 0 ≤ f.toInt) (hf : f.toInt + k ≤ 2147483648) :
    ¬ f < (0 : Int32) ∧ ¬ (0 : Int32) < own_cmpL ((f.toInt64 + (N.toInt64)) - (1 : Int64)) (2147483647 : Int64) ∧ ¬ ((f + N) - (1 : Int32)) < f ∧ ((f + N) - (1 : Int32)) - f = N - 1 ∧ ((f + N) - (1 : Int32)).toInt64 = (f.toInt64 + (N.toInt64)) - (1 : Int64) := by
  have e1 : (1 : Int64).toInt = 1 := rfl
  have e2 : (1 : Int32).toInt = 1 := rfl
  have q1 : (f.toInt64 + N.toInt64).toInt = f.toInt + k := by rw [Int64.toInt_add, Int32.toInt_toInt64, Int32.toInt_toInt64, hk, own_bm64 (by omega) (by omega)]
  have q2 : (f.toInt64 + N.toInt64 - 1).toInt = f.toInt + k - 1 := by rw [Int64.toInt_sub, q1, e1, own_bm64 (by omega) (by omega)]
  have q3 : (f + N - 1).toInt = f.toInt + k - 1 := by
    rw [Int32.toInt_sub, Int32.toInt_add, hk, e2, Int.bmod_sub_bmod, own_bm32 (by omega) (by omega)]
  refine ⟨?_, ?_, ?_, ?_, ?_⟩
  · rw [Int32.lt_iff_toInt_lt, show (0 : Int32).toInt = 0 from rfl]; omega
  · unfold own_cmpL
    have : ¬ (f.toInt64 + N.toInt64 - 1 > (2147483647 : Int64)) := by
      show ¬ ((2147483647 : Int64) < f.toInt64 + N.toInt64 - 1)
      rw [Int64.lt_iff_toInt_lt, q2, show (2147483647 : Int64).toInt = 2147483647 from rfl]; omega
    rw [if_neg this]; split <;> decide
  · rw [Int32.lt_iff_toInt_lt, q3]; omega
  · rw [Int32.sub_eq_add_neg, Int32.sub_eq_add_neg, Int32.sub_eq_add_neg]
    rw [Int32.add_assoc, Int32.add_assoc, Int32.add_comm f, Int32.add_assoc, Int32.add_assoc, Int32.add_comm (-f) f, ← Int32.sub_eq_add_neg f f, Int32.sub_self, Int32.add_zero]
  · apply Int64.toInt_inj.mp
    rw [q2, Int32.toInt_toInt64, q3]
theorem own_pn_1 : plainName "com/example/pensionwright/pensionwright/actuarial/MortalityTableLastAgePinLaw" = true := by decide +kernel
theorem own_pd_0 : parseMethodDescriptor "(I[D)V" = some ⟨[.int, (.array .double)], none⟩ := by decide +kernel
theorem own_pd_6 : parseMethodDescriptor "(I)D" = some ⟨[.int], some .double⟩ := by decide +kernel
theorem own_ef_law (m : MethodId) (x0 : Int32) (x1 : Int32) (x2 : Int32) (x3 : Int32) (x4 : Int32) : entryFrame m #[(.int x0), (.int x1), (.int x2), (.int x3), (.int x4)] maxLocals = mkF m 0 #[iv x0, iv x1, iv x2, iv x3, iv x4, uu, uu, uu, uu, uu, uu, uu, uu, uu, uu, uu, uu, uu] [] := by first | (simp [entryFrame, mkF, argsToLocals, Value.category, maxLocals]; done) | rfl
def Q_law (Z : State) (p1 p2 p3 p4 p5 : Int32) (h0 : Heap) (n0 : Nat) (v : Option Value) (h : Heap) (L : List Loc) : Prop := v = some (.int 1) ∧ Fr n0 L
set_option maxRecDepth 65536 in
set_option maxHeartbeats 40000000 in
theorem rm_law (l : Launch) (Z : State) (a0 : Array Value) (hw : ∀ d ∈ tables_1, d.before a0 Z = true) (ws : List Jvm.Cond) (p1 p2 p3 p4 p5 : Int32) (h0 : Heap) (n0 : Nat) (Z0 : n0 ≤ h0.size)  :
    MetFree l x (head1 (Jvm.Cond.code x code maxLocals ret :: ws) room_1) (fun a U => a = #[(.int p1), (.int p2), (.int p3), (.int p4), (.int p5)] ∧ Z.Warmed39 U.vm ∧ U.heap = h0) (fun _ _ _ _ _ => True) (fun _ U o U' => ∃ v L, o = .returned v ∧ Q_law Z p1 p2 p3 p4 p5 h0 n0 v U'.heap L ∧ FrameEnd U o U' L 24 256) := by
  refine MetFree.of_bodySF (plainFor_of_name own_pn_1) hisR ?_
  intro p e s m args below meth c s₁ Bd hml0 hP hK
  obtain ⟨rfl, hZ, hh⟩ := hP
  have hx := Bd.exec
  have hby := Bd.bytes
  have hml : c.maxLocals = 18 := hml0
  have hown : s.vm.findClass "com/example/pensionwright/pensionwright/actuarial/MortalityTableLastAgePinLaw" = some m.cls := findClass_of_methodNamed Bd.named
  have hnm := (name_of_methodNamed Bd.named Bd.method).1
  have W := own_W hw
  have X0 : Stand p l e room_1 s m #[(.int p1), (.int p2), (.int p3), (.int p4), (.int p5)] below meth c s₁ [] 0 0 := Stand.of_body Bd
  have e0 : s₁.heap = h0 := by rw [← hh, Bd.state]; rfl
  have N0 := Fr.nil n0
  have pre0 : ∀ tq, Steps p.tables e below (s₁.setTop (mkF m 0 #[iv p1, iv p2, iv p3, iv p4, iv p5, uu, uu, uu, uu, uu, uu, uu, uu, uu, uu, uu, uu, uu] [])) tq → Steps p.tables e below (s₁.setTop (entryFrame m #[(.int p1), (.int p2), (.int p3), (.int p4), (.int p5)] maxLocals)) tq := fun tq k => castTop (own_ef_law m p1 p2 p3 p4 p5) k
  have hm3 := own_mod3 p2
  obtain ⟨q0, eq0, nq0, ok0, ne0⟩ := own_r8 p3
  obtain ⟨q1, eq1, nq1, ok1, ne1⟩ := own_r8 p4
  obtain ⟨ql, eql, nql, okl⟩ := own_r7 p5
  have Gn : ∀ tq, Steps p.tables e below (s₁.setTop (mkF m 7 #[iv p1, iv p2, iv p3, iv p4, iv p5, uu, uu, uu, uu, uu, uu, uu, uu, uu, uu, uu, uu, uu] [.int ((p2 &&& (2147483647 : Int32)) % (3 : Int32)), .int 1])) tq → Steps p.tables e below (s₁.setTop (mkF m 0 #[iv p1, iv p2, iv p3, iv p4, iv p5, uu, uu, uu, uu, uu, uu, uu, uu, uu, uu, uu, uu, uu] [])) tq := by
    intro tq kk
    show Steps _ _ _ (s₁.setTop (mkF m 0 #[iv p1, iv p2, iv p3, iv p4, iv p5, uu, uu, uu, uu, uu, uu, uu, uu, uu, uu, uu, uu, uu] [])) _
    refine XS.iconst X0.here hx rfl (hb hby at_0) ?_
    show Steps _ _ _ (s₁.setTop (mkF m 1 _ [.int 1])) _
    refine XS.iloadN X0.here hx rfl (hb hby at_1) rfl ?_
    show Steps _ _ _ (s₁.setTop (mkF m 2 _ [.int p2, .int 1])) _
    refine Jvm.Stand.ldcI X0 hx hown (mvT hZ (W 0 rfl)) rfl (hb hby at_2) ?_
    show Steps _ _ _ (s₁.setTop (mkF m 4 _ [.int 2147483647, .int p2, .int 1])) _
    refine XS.iand X0.here hx rfl (hb hby at_4) rfl ?_
    show Steps _ _ _ (s₁.setTop (mkF m 5 _ [.int (p2 &&& (2147483647 : Int32)), .int 1])) _
    refine XS.iconst X0.here hx rfl (hb hby at_5) ?_
    show Steps _ _ _ (s₁.setTop (mkF m 6 _ [.int 3, .int (p2 &&& (2147483647 : Int32)), .int 1])) _
    refine XS.irem X0.here hx rfl (hb hby at_6) rfl (by decide) ?_
    rw [own_rem_eq (p2 &&& (2147483647 : Int32)) (3 : Int32)]
    exact kk
  generalize (p2 &&& (2147483647 : Int32)) % (3 : Int32) = nn at Gn hm3
  rcases hm3 with rfl | rfl | rfl
  · have G325 : ∀ tq, Steps p.tables e below (s₁.setTop (mkF m 25 #[iv p1, iv p2, iv p3, iv p4, iv p5, iv 1, iv (p1 &&& (2147483647 : Int32)), uu, uu, uu, uu, uu, uu, uu, uu, uu, uu, uu] [.int 2147483647, .int (p1 &&& (2147483647 : Int32))])) tq → Steps p.tables e below (s₁.setTop (mkF m 7 #[iv p1, iv p2, iv p3, iv p4, iv p5, uu, uu, uu, uu, uu, uu, uu, uu, uu, uu, uu, uu, uu] [.int 0, .int 1])) tq := by
      intro tq kk
      show Steps _ _ _ (s₁.setTop (mkF m 7 #[iv p1, iv p2, iv p3, iv p4, iv p5, uu, uu, uu, uu, uu, uu, uu, uu, uu, uu, uu, uu, uu] [.int 0, .int 1])) _
      refine XS.iadd X0.here hx rfl (hb hby at_7) rfl ?_
      show Steps _ _ _ (s₁.setTop (mkF m 8 _ [.int 1])) _
      refine XS.istore X0.here hx rfl (hb hby at_8) rfl (l' := #[iv p1, iv p2, iv p3, iv p4, iv p5, iv 1, uu, uu, uu, uu, uu, uu, uu, uu, uu, uu, uu, uu]) rfl ?_
      show Steps _ _ _ (s₁.setTop (mkF m 10 _ [])) _
      refine XS.iloadN X0.here hx rfl (hb hby at_10) rfl ?_
      show Steps _ _ _ (s₁.setTop (mkF m 11 _ [.int p1])) _
      refine Jvm.Stand.ldcI X0 hx hown (mvT hZ (W 0 rfl)) rfl (hb hby at_11) ?_
      show Steps _ _ _ (s₁.setTop (mkF m 13 _ [.int 2147483647, .int p1])) _
      refine XS.iand X0.here hx rfl (hb hby at_13) rfl ?_
      show Steps _ _ _ (s₁.setTop (mkF m 14 _ [.int (p1 &&& (2147483647 : Int32))])) _
      refine XS.istore X0.here hx rfl (hb hby at_14) rfl (l' := #[iv p1, iv p2, iv p3, iv p4, iv p5, iv 1, iv (p1 &&& (2147483647 : Int32)), uu, uu, uu, uu, uu, uu, uu, uu, uu, uu, uu]) rfl ?_
      show Steps _ _ _ (s₁.setTop (mkF m 16 _ [])) _
      refine XS.iload X0.here hx rfl (hb hby at_16) rfl ?_
      show Steps _ _ _ (s₁.setTop (mkF m 18 _ [.int (p1 &&& (2147483647 : Int32))])) _
      refine Jvm.Stand.ldcI X0 hx hown (mvT hZ (W 0 rfl)) rfl (hb hby at_18) ?_
      show Steps _ _ _ (s₁.setTop (mkF m 20 #[iv p1, iv p2, iv p3, iv p4, iv p5, iv 1, iv (p1 &&& (2147483647 : Int32)), uu, uu, uu, uu, uu, uu, uu, uu, uu, uu, uu] [.int 2147483647, .int (p1 &&& (2147483647 : Int32))])) _
      refine XS.iload X0.here hx rfl (hb hby at_20) rfl ?_
      show Steps _ _ _ (s₁.setTop (mkF m 22 _ [.int 1, .int 2147483647, .int (p1 &&& (2147483647 : Int32))])) _
      refine XS.iconst X0.here hx rfl (hb hby at_22) ?_
      show Steps _ _ _ (s₁.setTop (mkF m 23 _ [.int 1, .int 1, .int 2147483647, .int (p1 &&& (2147483647 : Int32))])) _
      refine XS.isub X0.here hx rfl (hb hby at_23) rfl ?_
      show Steps _ _ _ (s₁.setTop (mkF m 24 _ [.int 0, .int 2147483647, .int (p1 &&& (2147483647 : Int32))])) _
      refine XS.isub X0.here hx rfl (hb hby at_24) rfl ?_
      exact kk
    obtain ⟨f9, hf0, hf1, GF⟩ : ∃ f9 : Int32, 0 ≤ f9.toInt ∧ f9.toInt + 1 ≤ 2147483648 ∧ ∀ tq, Steps p.tables e below (s₁.setTop (mkF m 37 #[iv p1, iv p2, iv p3, iv p4, iv p5, iv 1, iv f9, uu, uu, uu, uu, uu, uu, uu, uu, uu, uu, uu] [])) tq → Steps p.tables e below (s₁.setTop (mkF m 25 #[iv p1, iv p2, iv p3, iv p4, iv p5, iv 1, iv (p1 &&& (2147483647 : Int32)), uu, uu, uu, uu, uu, uu, uu, uu, uu, uu, uu] [.int 2147483647, .int (p1 &&& (2147483647 : Int32))])) tq := by
      by_cases hc : (2147483647 : Int32) < (p1 &&& (2147483647 : Int32))
      · have G326 : ∀ tq, Steps p.tables e below (s₁.setTop (mkF m 37 #[iv p1, iv p2, iv p3, iv p4, iv p5, iv 1, iv 2147483647, uu, uu, uu, uu, uu, uu, uu, uu, uu, uu, uu] [])) tq → Steps p.tables e below (s₁.setTop (mkF m 25 #[iv p1, iv p2, iv p3, iv p4, iv p5, iv 1, iv (p1 &&& (2147483647 : Int32)), uu, uu, uu, uu, uu, uu, uu, uu, uu, uu, uu] [.int 2147483647, .int (p1 &&& (2147483647 : Int32))])) tq := by
          intro tq kk
          show Steps _ _ _ (s₁.setTop (mkF m 25 #[iv p1, iv p2, iv p3, iv p4, iv p5, iv 1, iv (p1 &&& (2147483647 : Int32)), uu, uu, uu, uu, uu, uu, uu, uu, uu, uu, uu] [.int 2147483647, .int (p1 &&& (2147483647 : Int32))])) _
          refine XS.icmpNo X0.here hx rfl (hb hby at_25) rfl (tlt (hc : (2147483647 : Int32) < (p1 &&& (2147483647 : Int32)))).2.2.2 ?_
          show Steps _ _ _ (s₁.setTop (mkF m 28 _ [])) _
          refine Jvm.Stand.ldcI X0 hx hown (mvT hZ (W 0 rfl)) rfl (hb hby at_28) ?_
          show Steps _ _ _ (s₁.setTop (mkF m 30 _ [.int 2147483647])) _
          refine XS.iload X0.here hx rfl (hb hby at_30) rfl ?_
          show Steps _ _ _ (s₁.setTop (mkF m 32 _ [.int 1, .int 2147483647])) _
          refine XS.iconst X0.here hx rfl (hb hby at_32) ?_
          show Steps _ _ _ (s₁.setTop (mkF m 33 _ [.int 1, .int 1, .int 2147483647])) _
          refine XS.isub X0.here hx rfl (hb hby at_33) rfl ?_
          show Steps _ _ _ (s₁.setTop (mkF m 34 _ [.int 0, .int 2147483647])) _
          refine XS.isub X0.here hx rfl (hb hby at_34) rfl ?_
          show Steps _ _ _ (s₁.setTop (mkF m 35 _ [.int 2147483647])) _
          refine XS.istore X0.here hx rfl (hb hby at_35) rfl (l' := #[iv p1, iv p2, iv p3, iv p4, iv p5, iv 1, iv 2147483647, uu, uu, uu, uu, uu, uu, uu, uu, uu, uu, uu]) rfl ?_
          exact kk
        exact ⟨(2147483647 : Int32), by decide, by decide, fun tgt kk => G326 _ kk⟩
      · have G327 : ∀ tq, Steps p.tables e below (s₁.setTop (mkF m 37 #[iv p1, iv p2, iv p3, iv p4, iv p5, iv 1, iv (p1 &&& (2147483647 : Int32)), uu, uu, uu, uu, uu, uu, uu, uu, uu, uu, uu] [])) tq → Steps p.tables e below (s₁.setTop (mkF m 25 #[iv p1, iv p2, iv p3, iv p4, iv p5, iv 1, iv (p1 &&& (2147483647 : Int32)), uu, uu, uu, uu, uu, uu, uu, uu, uu, uu, uu] [.int 2147483647, .int (p1 &&& (2147483647 : Int32))])) tq := by
          intro tq kk
          show Steps _ _ _ (s₁.setTop (mkF m 25 #[iv p1, iv p2, iv p3, iv p4, iv p5, iv 1, iv (p1 &&& (2147483647 : Int32)), uu, uu, uu, uu, uu, uu, uu, uu, uu, uu, uu] [.int 2147483647, .int (p1 &&& (2147483647 : Int32))])) _
          refine XS.icmpYes X0.here hx rfl (pc0 := 25) (pc' := 37) rfl (hb hby at_25) rfl (flt (hc : ¬ ((2147483647 : Int32) < (p1 &&& (2147483647 : Int32))))).2.2.2 (by decide) (by decide) ?_
          exact kk
        refine ⟨(p1 &&& (2147483647 : Int32)), own_mask p1, ?_, fun tgt kk => G327 _ kk⟩
        rw [Int32.lt_iff_toInt_lt, show (2147483647 : Int32).toInt = 2147483647 from rfl] at hc; omega
    obtain ⟨a1', a2', a3', a4', a5'⟩ := own_ages f9 (1 : Int32) 1 rfl (by decide) (by decide) hf0 hf1
    obtain ⟨T328, h328, k328, X328, e328, E328, A328, ex328, st328⟩ := newPE X0 hx hZ (W 3 rfl) e0 (g := (mkF m 78 #[iv p1, iv p2, iv p3, iv p4, iv p5, iv 1, iv f9, .val (.double q0), .second, .val (.double q1), .second, .val (.double ql), .second, uu, uu, uu, uu, uu] [.int 1])) rfl (hb hby at_78) rfl (by decide : ¬ ((1 : Int32) < (0 : Int32))) (cap := 1) (by decide) (by decide) (by decide) (by decide) (ad := "[D") (by decide)
    obtain ⟨b328, g328⟩ : ∃ z, z = h0.size := ⟨_, rfl⟩
    rw [← g328] at A328 ex328 st328
    have g329 : n0 ≤ b328 := Nat.le_trans Z0 (Nat.le_of_eq g328.symm)
    have Z330 : n0 ≤ h328.size := Nat.le_trans Z0 E328.1
    have V328 : Arv Z h328 b328 k328 .double (1 : Int32) [(.double 0)] (.double 0) := (Arv.new A328 (by decide : ¬ ((1 : Int32) < (0 : Int32)))).pad (pad_rep [] (.double 0) 1)
    obtain ⟨cl331, Ar331, aq331, aS331, aN331, aH331, aG331⟩ := id V328
    obtain ⟨T332, h332, X332, e332, W332, st332⟩ := stD X328 hx hZ e328 Ar331 (j := (0 : Int32)) (inb_of aS331 ⟨(by decide), (by decide)⟩) (g := (mkF m 84 #[iv p1, iv p2, iv p3, iv p4, iv p5, iv 1, iv f9, .val (.double q0), .second, .val (.double q1), .second, .val (.double ql), .second, uu, uu, uu, uu, uu] [.double ql, .int 0, .ref b328, .ref b328])) rfl rfl (hb hby at_84)
    have N332 := Fr.snoc X332 N0 g329
    have V332 : Arv Z h332 b328 k328 .double (1 : Int32) [(.double ql)] (.double 0) := Arv.set Ar331 aq331 aS331 aN331 aH331 aG331 rfl W332 0 rfl (Nat.le_of_ble_eq_true rfl)
    have Z333 : n0 ≤ h332.size := Nat.le_trans Z330 (Keep.of_wr W332).1
    have G334 : ∀ tq, Steps p.tables e below (T332.setTop (mkF m 134 #[iv p1, iv p2, iv p3, iv p4, iv p5, iv 1, iv f9, .val (.double q0), .second, .val (.double q1), .second, .val (.double ql), .second, rv b328, uu, uu, uu, uu] [])) tq → Steps p.tables e below (s₁.setTop (mkF m 37 #[iv p1, iv p2, iv p3, iv p4, iv p5, iv 1, iv f9, uu, uu, uu, uu, uu, uu, uu, uu, uu, uu, uu] [])) tq := by
      intro tq kk
      show Steps _ _ _ (s₁.setTop (mkF m 37 #[iv p1, iv p2, iv p3, iv p4, iv p5, iv 1, iv f9, uu, uu, uu, uu, uu, uu, uu, uu, uu, uu, uu] [])) _
      refine XS.iloadN X0.here hx rfl (hb hby at_37) rfl ?_
      show Steps _ _ _ (s₁.setTop (mkF m 38 _ [.int p3])) _
      refine XS.bipush X0.here hx rfl (hb hby at_38) ?_
      show Steps _ _ _ (s₁.setTop (mkF m 40 _ [.int 7, .int p3])) _
      refine XS.iand X0.here hx rfl (hb hby at_40) rfl ?_
      show Steps _ _ _ (s₁.setTop (mkF m 41 _ [.int (p3 &&& (7 : Int32))])) _
      refine XS.i2dS X0.here hx rfl (hb hby at_41) rfl rfl ?_
      show Steps _ _ _ (s₁.setTop (mkF m 42 _ [.double (FP.i2d (p3 &&& (7 : Int32)))])) _
      refine X0.ldc2DoubleC hx hown (mvT hZ (W 1 rfl)) (g := (mkF m 42 #[iv p1, iv p2, iv p3, iv p4, iv p5, iv 1, iv f9, uu, uu, uu, uu, uu, uu, uu, uu, uu, uu, uu] [.double (FP.i2d (p3 &&& (7 : Int32)))])) rfl (hb hby at_42) _ ?_
      show Steps _ _ _ (s₁.setTop (mkF m 45 #[iv p1, iv p2, iv p3, iv p4, iv p5, iv 1, iv f9, uu, uu, uu, uu, uu, uu, uu, uu, uu, uu, uu] [.double 4620693217682128896, .double (FP.i2d (p3 &&& (7 : Int32)))])) _
      refine XS.ddivS X0.here hx rfl (hb hby at_45) rfl nq0 eq0 ?_
      show Steps _ _ _ (s₁.setTop (mkF m 46 _ [.double q0])) _
      refine XS.dstore X0.here hx rfl (hb hby at_46) rfl (l' := #[iv p1, iv p2, iv p3, iv p4, iv p5, iv 1, iv f9, .val (.double q0), .second, uu, uu, uu, uu, uu, uu, uu, uu, uu]) rfl ?_
      show Steps _ _ _ (s₁.setTop (mkF m 48 _ [])) _
      refine XS.iloadN X0.here hx rfl (hb hby at_48) rfl ?_
      show Steps _ _ _ (s₁.setTop (mkF m 49 _ [.int p4])) _
      refine XS.bipush X0.here hx rfl (hb hby at_49) ?_
      show Steps _ _ _ (s₁.setTop (mkF m 51 _ [.int 7, .int p4])) _
      refine XS.iand X0.here hx rfl (hb hby at_51) rfl ?_
      show Steps _ _ _ (s₁.setTop (mkF m 52 _ [.int (p4 &&& (7 : Int32))])) _
      refine XS.i2dS X0.here hx rfl (hb hby at_52) rfl rfl ?_
      show Steps _ _ _ (s₁.setTop (mkF m 53 _ [.double (FP.i2d (p4 &&& (7 : Int32)))])) _
      refine X0.ldc2DoubleC hx hown (mvT hZ (W 1 rfl)) (g := (mkF m 53 #[iv p1, iv p2, iv p3, iv p4, iv p5, iv 1, iv f9, .val (.double q0), .second, uu, uu, uu, uu, uu, uu, uu, uu, uu] [.double (FP.i2d (p4 &&& (7 : Int32)))])) rfl (hb hby at_53) _ ?_
      show Steps _ _ _ (s₁.setTop (mkF m 56 #[iv p1, iv p2, iv p3, iv p4, iv p5, iv 1, iv f9, .val (.double q0), .second, uu, uu, uu, uu, uu, uu, uu, uu, uu] [.double 4620693217682128896, .double (FP.i2d (p4 &&& (7 : Int32)))])) _
      refine XS.ddivS X0.here hx rfl (hb hby at_56) rfl nq1 eq1 ?_
      show Steps _ _ _ (s₁.setTop (mkF m 57 _ [.double q1])) _
      refine XS.dstore X0.here hx rfl (hb hby at_57) rfl (l' := #[iv p1, iv p2, iv p3, iv p4, iv p5, iv 1, iv f9, .val (.double q0), .second, .val (.double q1), .second, uu, uu, uu, uu, uu, uu, uu]) rfl ?_
      show Steps _ _ _ (s₁.setTop (mkF m 59 _ [])) _
      refine XS.iload X0.here hx rfl (hb hby at_59) rfl ?_
      show Steps _ _ _ (s₁.setTop (mkF m 61 _ [.int p5])) _
      refine XS.bipush X0.here hx rfl (hb hby at_61) ?_
      show Steps _ _ _ (s₁.setTop (mkF m 63 _ [.int 7, .int p5])) _
      refine XS.iand X0.here hx rfl (hb hby at_63) rfl ?_
      show Steps _ _ _ (s₁.setTop (mkF m 64 _ [.int (p5 &&& (7 : Int32))])) _
      refine XS.i2dS X0.here hx rfl (hb hby at_64) rfl rfl ?_
      show Steps _ _ _ (s₁.setTop (mkF m 65 _ [.double (FP.i2d (p5 &&& (7 : Int32)))])) _
      refine X0.ldc2DoubleC hx hown (mvT hZ (W 2 rfl)) (g := (mkF m 65 #[iv p1, iv p2, iv p3, iv p4, iv p5, iv 1, iv f9, .val (.double q0), .second, .val (.double q1), .second, uu, uu, uu, uu, uu, uu, uu] [.double (FP.i2d (p5 &&& (7 : Int32)))])) rfl (hb hby at_65) _ ?_
      show Steps _ _ _ (s₁.setTop (mkF m 68 #[iv p1, iv p2, iv p3, iv p4, iv p5, iv 1, iv f9, .val (.double q0), .second, .val (.double q1), .second, uu, uu, uu, uu, uu, uu, uu] [.double 4619567317775286272, .double (FP.i2d (p5 &&& (7 : Int32)))])) _
      refine XS.ddivS X0.here hx rfl (hb hby at_68) rfl nql eql ?_
      show Steps _ _ _ (s₁.setTop (mkF m 69 _ [.double ql])) _
      refine XS.dstore X0.here hx rfl (hb hby at_69) rfl (l' := #[iv p1, iv p2, iv p3, iv p4, iv p5, iv 1, iv f9, .val (.double q0), .second, .val (.double q1), .second, .val (.double ql), .second, uu, uu, uu, uu, uu]) rfl ?_
      show Steps _ _ _ (s₁.setTop (mkF m 71 _ [])) _
      refine XS.iload X0.here hx rfl (hb hby at_71) rfl ?_
      show Steps _ _ _ (s₁.setTop (mkF m 73 _ [.int 1])) _
      refine XS.iconst X0.here hx rfl (hb hby at_73) ?_
      show Steps _ _ _ (s₁.setTop (mkF m 74 _ [.int 1, .int 1])) _
      refine XS.icmpNo X0.here hx rfl (hb hby at_74) rfl (teq (rfl : (1 : Int32) = (1 : Int32))).2 ?_
      show Steps _ _ _ (s₁.setTop (mkF m 77 _ [])) _
      refine XS.iconst X0.here hx rfl (hb hby at_77) ?_
      show Steps _ _ _ (s₁.setTop (mkF m 78 _ [.int 1])) _
      refine st328 _ ?_
      show Steps _ _ _ (T328.setTop (mkF m 80 #[iv p1, iv p2, iv p3, iv p4, iv p5, iv 1, iv f9, .val (.double q0), .second, .val (.double q1), .second, .val (.double ql), .second, uu, uu, uu, uu, uu] [.ref b328])) _
      refine XS.dup X328.here hx rfl (hb hby at_80) rfl rfl ?_
      show Steps _ _ _ (T328.setTop (mkF m 81 _ [.ref b328, .ref b328])) _
      refine XS.iconst X328.here hx rfl (hb hby at_81) ?_
      show Steps _ _ _ (T328.setTop (mkF m 82 _ [.int 0, .ref b328, .ref b328])) _
      refine XS.dload X328.here hx rfl (hb hby at_82) rfl ?_
      show Steps _ _ _ (T328.setTop (mkF m 84 _ [.double ql, .int 0, .ref b328, .ref b328])) _
      refine st332 _ ?_
      show Steps _ _ _ (T332.setTop (mkF m 85 #[iv p1, iv p2, iv p3, iv p4, iv p5, iv 1, iv f9, .val (.double q0), .second, .val (.double q1), .second, .val (.double ql), .second, uu, uu, uu, uu, uu] [.ref b328])) _
      refine XS.astore X332.here hx rfl (hb hby at_85) rfl rfl (l' := #[iv p1, iv p2, iv p3, iv p4, iv p5, iv 1, iv f9, .val (.double q0), .second, .val (.double q1), .second, .val (.double ql), .second, rv b328, uu, uu, uu, uu]) rfl ?_
      show Steps _ _ _ (T332.setTop (mkF m 87 _ [])) _
      refine XS.goto X332.here hx rfl (pc0 := 87) (pc' := 134) rfl (hb hby at_87) (by decide) (by decide) ?_
      exact kk
    obtain ⟨T335, h335, X335, e335, E335, A335, D335, -, st335⟩ := newO X332 hx hZ hown (W 4 rfl) (W 5 rfl) (W 6 rfl) e332 (g := (mkF m 134 #[iv p1, iv p2, iv p3, iv p4, iv p5, iv 1, iv f9, .val (.double q0), .second, .val (.double q1), .second, .val (.double ql), .second, rv b328, uu, uu, uu, uu] [])) rfl (hb hby at_134) (by decide) (by decide)
    obtain ⟨b335, g335⟩ : ∃ z, z = h332.size := ⟨_, rfl⟩
    rw [← g335] at A335 D335 st335
    have g336 : n0 ≤ b335 := Nat.le_trans Z333 (Nat.le_of_eq g335.symm)
    have Z337 : n0 ≤ h335.size := Nat.le_trans Z333 E335.1
    have F338 : Fld Z h335 b335 "com/example/pensionwright/pensionwright/actuarial/MortalityTable" "firstAge" "I" (.int (0 : Int32)) := D335 (Or.inr (W 15 rfl)) (ty := .int) (by decide)
    have F339 : Fld Z h335 b335 "com/example/pensionwright/pensionwright/actuarial/MortalityTable" "rates" "[D" .null := D335 (Or.inr (W 30 rfl)) (ty := (.array .double)) (by decide)
    have F340 : Fld Z h335 b335 "com/example/pensionwright/pensionwright/actuarial/MortalityTable" "monthlySurvival" "[[D" .null := D335 (Or.inr (W 34 rfl)) (ty := (.array (.array .double))) (by decide)
    have f341 := (V332.ext E335)
    have f342 := ((ex328.wr W332).ext E335)
    have f343 := (Nat.lt_of_lt_of_le V328.lt (Keep.of_wr W332).1)
    obtain ⟨_, _, ⟨T344, L344, k344, n344⟩, -, X344, ⟨Lc344, hQ344, l344, y344, z344⟩, st344⟩ := X335.specialBack hx (y := (⟨"com/example/pensionwright/pensionwright/actuarial/MortalityTable", "<init>", "(I[D)V"⟩ : MethodName)) rfl hown (mvT hZ (W 7 rfl)) (mvT hZ (W 8 rfl)) (mvT hZ (W 9 rfl)) (by decide) (backOf (W := 1) (rm_mi1 l Z a0 hw [] b335 b328 f9 k328 ql h335 n0 Z337 A335 g336 F338 F339 F340 f341 f342 (Nat.ne_of_lt (Nat.lt_of_lt_of_le f343 (Nat.le_of_eq g335.symm))) a1' a2' okl) hZ (W 9 rfl) (W 6 rfl) (by decide) (by decide)) (g := (mkF m 142 #[iv p1, iv p2, iv p3, iv p4, iv p5, iv 1, iv f9, .val (.double q0), .second, .val (.double q1), .second, .val (.double ql), .second, rv b328, uu, uu, uu, uu] [.ref b328, .int f9, .ref b335, .ref b335])) rfl (by rw [hml]; rfl) (Steps.refl _) (a := b335) (argsL := [.int f9, .ref b328]) (rest := [.ref b335]) (lenOf own_pd_0 rfl) rfl own_wt (hb hby at_142) (fun _ _ => ⟨rfl, e335, (by decide : 2 + 5 ≤ _), (by decide : 4 + 114 ≤ _)⟩)
    dsimp only [Pt.U, Pt.locs, Pt.cells, Pt.slots] at X344 l344 y344 z344 st344 hQ344
    subst l344 y344 z344
    obtain ⟨rfl, Nq344, K344, gE344, gF344, rr344, gR344, gV344⟩ := hQ344
    have N344 := Fr.app N332 Nq344
    have Z345 : n0 ≤ T344.heap.size := Nat.le_trans Z337 K344.1
    have G346 : ∀ tq, Steps p.tables e below (T344.setTop (mkF m 145 #[iv p1, iv p2, iv p3, iv p4, iv p5, iv 1, iv f9, .val (.double q0), .second, .val (.double q1), .second, .val (.double ql), .second, rv b328, uu, uu, uu, uu] [.ref b335])) tq → Steps p.tables e below (T332.setTop (mkF m 134 #[iv p1, iv p2, iv p3, iv p4, iv p5, iv 1, iv f9, .val (.double q0), .second, .val (.double q1), .second, .val (.double ql), .second, rv b328, uu, uu, uu, uu] [])) tq := by
      intro tq kk
      show Steps _ _ _ (T332.setTop (mkF m 134 #[iv p1, iv p2, iv p3, iv p4, iv p5, iv 1, iv f9, .val (.double q0), .second, .val (.double q1), .second, .val (.double ql), .second, rv b328, uu, uu, uu, uu] [])) _
      refine st335 _ ?_
      show Steps _ _ _ (T335.setTop (mkF m 137 #[iv p1, iv p2, iv p3, iv p4, iv p5, iv 1, iv f9, .val (.double q0), .second, .val (.double q1), .second, .val (.double ql), .second, rv b328, uu, uu, uu, uu] [.ref b335])) _
      refine XS.dup X335.here hx rfl (hb hby at_137) rfl rfl ?_
      show Steps _ _ _ (T335.setTop (mkF m 138 _ [.ref b335, .ref b335])) _
      refine XS.iload X335.here hx rfl (hb hby at_138) rfl ?_
      show Steps _ _ _ (T335.setTop (mkF m 140 _ [.int f9, .ref b335, .ref b335])) _
      refine XS.aload X335.here hx rfl (hb hby at_140) rfl rfl ?_
      show Steps _ _ _ (T335.setTop (mkF m 142 _ [.ref b328, .int f9, .ref b335, .ref b335])) _
      refine st344.trans ?_
      exact kk
    obtain ⟨cq347, kq347, q347a, q347b, q347c⟩ := isOf hZ rfl gE344
    obtain ⟨_, _, ⟨T347, L347, k347, n347⟩, -, X347, ⟨Lc347, hQ347, l347, y347, z347⟩, st347⟩ := X344.virtualBack hx (y := (⟨"com/example/pensionwright/pensionwright/actuarial/MortalityTable", "lastAge", "()I"⟩ : MethodName)) (z := (⟨"com/example/pensionwright/pensionwright/actuarial/MortalityTable", "lastAge", "()I"⟩ : MethodName)) hown (mvT hZ (W 40 rfl)) (mvT hZ (W 41 rfl)) (notFace_of_selects (args := #[]) (mvT hZ (W 43 rfl))) (mvT hZ (W 43 rfl)) (mvT hZ (W 42 rfl)) (by decide) (backOf (W := 0) (rm_la1 l Z a0 hw [] b335 rr344 f9 k328 [(.double ql)] T344.heap n0 Z345 gF344 gR344 gV344) hZ (W 44 rfl) (W 6 rfl) (by decide) (by decide)) q347a q347c (g := (mkF m 149 #[iv p1, iv p2, iv p3, iv p4, iv p5, iv 1, iv f9, .val (.double q0), .second, .val (.double q1), .second, .val (.double ql), .second, rv b328, rv b335, uu, uu, uu] [.ref b335])) rfl (by rw [hml]; rfl) (Steps.refl _) (argsL := []) (rest := []) (lenOf own_pd_5 rfl) rfl own_wt (hb hby at_149) (fun _ _ => ⟨rfl, rfl, (by decide : 7 + 0 ≤ _), (by decide : 118 + 0 ≤ _)⟩)
    dsimp only [Pt.U, Pt.locs, Pt.cells, Pt.slots] at X347 l347 y347 z347 st347 hQ347
    subst l347 y347 z347
    obtain ⟨rfl, Nq347, e347⟩ := hQ347
    have N347 := Fr.app N344 Nq347
    have G348 : ∀ tq, Steps p.tables e below (T347.setTop (mkF m 171 #[iv p1, iv p2, iv p3, iv p4, iv p5, iv 1, iv f9, .val (.double q0), .second, .val (.double q1), .second, .val (.double ql), .second, rv b328, rv b335, iv ((f9 + (1 : Int32)) - (1 : Int32)), .val (.long (((f9.toInt64) + ((1 : Int32).toInt64)) - (1 : Int64))), .second] [.int (own_cmpL (((f9 + (1 : Int32)) - (1 : Int32)).toInt64) (((f9.toInt64) + ((1 : Int32).toInt64)) - (1 : Int64)))])) tq → Steps p.tables e below (T344.setTop (mkF m 145 #[iv p1, iv p2, iv p3, iv p4, iv p5, iv 1, iv f9, .val (.double q0), .second, .val (.double q1), .second, .val (.double ql), .second, rv b328, uu, uu, uu, uu] [.ref b335])) tq := by
      intro tq kk
      show Steps _ _ _ (T344.setTop (mkF m 145 #[iv p1, iv p2, iv p3, iv p4, iv p5, iv 1, iv f9, .val (.double q0), .second, .val (.double q1), .second, .val (.double ql), .second, rv b328, uu, uu, uu, uu] [.ref b335])) _
      refine XS.astore X344.here hx rfl (hb hby at_145) rfl rfl (l' := #[iv p1, iv p2, iv p3, iv p4, iv p5, iv 1, iv f9, .val (.double q0), .second, .val (.double q1), .second, .val (.double ql), .second, rv b328, rv b335, uu, uu, uu]) rfl ?_
      show Steps _ _ _ (T344.setTop (mkF m 147 _ [])) _
      refine XS.aload X344.here hx rfl (hb hby at_147) rfl rfl ?_
      show Steps _ _ _ (T344.setTop (mkF m 149 _ [.ref b335])) _
      refine st347.trans ?_
      show Steps _ _ _ (T347.setTop (mkF m 152 #[iv p1, iv p2, iv p3, iv p4, iv p5, iv 1, iv f9, .val (.double q0), .second, .val (.double q1), .second, .val (.double ql), .second, rv b328, rv b335, uu, uu, uu] [.int ((f9 + (1 : Int32)) - (1 : Int32))])) _
      refine XS.istore X347.here hx rfl (hb hby at_152) rfl (l' := #[iv p1, iv p2, iv p3, iv p4, iv p5, iv 1, iv f9, .val (.double q0), .second, .val (.double q1), .second, .val (.double ql), .second, rv b328, rv b335, iv ((f9 + (1 : Int32)) - (1 : Int32)), uu, uu]) rfl ?_
      show Steps _ _ _ (T347.setTop (mkF m 154 _ [])) _
      refine XS.iload X347.here hx rfl (hb hby at_154) rfl ?_
      show Steps _ _ _ (T347.setTop (mkF m 156 _ [.int f9])) _
      refine XS.i2l X347.here hx rfl (hb hby at_156) rfl ?_
      show Steps _ _ _ (T347.setTop (mkF m 157 _ [.long (f9.toInt64)])) _
      refine XS.iload X347.here hx rfl (hb hby at_157) rfl ?_
      show Steps _ _ _ (T347.setTop (mkF m 159 _ [.int 1, .long (f9.toInt64)])) _
      refine XS.i2l X347.here hx rfl (hb hby at_159) rfl ?_
      show Steps _ _ _ (T347.setTop (mkF m 160 _ [.long ((1 : Int32).toInt64), .long (f9.toInt64)])) _
      refine XS.ladd X347.here hx rfl (hb hby at_160) rfl ?_
      show Steps _ _ _ (T347.setTop (mkF m 161 _ [.long ((f9.toInt64) + ((1 : Int32).toInt64))])) _
      refine XS.lconst X347.here hx rfl (hb hby at_161) ?_
      show Steps _ _ _ (T347.setTop (mkF m 162 _ [.long 1, .long ((f9.toInt64) + ((1 : Int32).toInt64))])) _
      refine XS.lsub X347.here hx rfl (hb hby at_162) rfl ?_
      show Steps _ _ _ (T347.setTop (mkF m 163 #[iv p1, iv p2, iv p3, iv p4, iv p5, iv 1, iv f9, .val (.double q0), .second, .val (.double q1), .second, .val (.double ql), .second, rv b328, rv b335, iv ((f9 + (1 : Int32)) - (1 : Int32)), uu, uu] [.long (((f9.toInt64) + ((1 : Int32).toInt64)) - (1 : Int64))])) _
      refine XS.lstore X347.here hx rfl (hb hby at_163) rfl (l' := #[iv p1, iv p2, iv p3, iv p4, iv p5, iv 1, iv f9, .val (.double q0), .second, .val (.double q1), .second, .val (.double ql), .second, rv b328, rv b335, iv ((f9 + (1 : Int32)) - (1 : Int32)), .val (.long (((f9.toInt64) + ((1 : Int32).toInt64)) - (1 : Int64))), .second]) rfl ?_
      show Steps _ _ _ (T347.setTop (mkF m 165 _ [])) _
      refine XS.iload X347.here hx rfl (hb hby at_165) rfl ?_
      show Steps _ _ _ (T347.setTop (mkF m 167 _ [.int ((f9 + (1 : Int32)) - (1 : Int32))])) _
      refine XS.i2l X347.here hx rfl (hb hby at_167) rfl ?_
      show Steps _ _ _ (T347.setTop (mkF m 168 _ [.long (((f9 + (1 : Int32)) - (1 : Int32)).toInt64)])) _
      refine XS.lload X347.here hx rfl (hb hby at_168) rfl ?_
      show Steps _ _ _ (T347.setTop (mkF m 170 _ [.long (((f9.toInt64) + ((1 : Int32).toInt64)) - (1 : Int64)), .long (((f9 + (1 : Int32)) - (1 : Int32)).toInt64)])) _
      refine XS.lcmp X347.here hx rfl (hb hby at_170) rfl ?_
      exact kk
    obtain ⟨cq349, kq349, q349a, q349b, q349c⟩ := isOf hZ e347 gE344
    obtain ⟨_, _, ⟨T349, L349, k349, n349⟩, -, X349, ⟨Lc349, hQ349, l349, y349, z349⟩, st349⟩ := X347.virtualBack hx (y := (⟨"com/example/pensionwright/pensionwright/actuarial/MortalityTable", "qx", "(I)D"⟩ : MethodName)) (z := (⟨"com/example/pensionwright/pensionwright/actuarial/MortalityTable", "qx", "(I)D"⟩ : MethodName)) hown (mvT hZ (W 45 rfl)) (mvT hZ (W 46 rfl)) (notFace_of_selects (args := #[]) (mvT hZ (W 48 rfl))) (mvT hZ (W 48 rfl)) (mvT hZ (W 47 rfl)) (by decide) (backOf (W := 0) (rm_qx1 l Z a0 hw [] b335 rr344 f9 k328 ql T344.heap n0 Z345 gE344 gF344 gR344 gV344 a3' a4') hZ (W 49 rfl) (W 6 rfl) (by decide) (by decide)) q349a q349c (g := (mkF m 178 #[iv p1, iv p2, iv p3, iv p4, iv p5, iv 1, iv f9, .val (.double q0), .second, .val (.double q1), .second, .val (.double ql), .second, rv b328, rv b335, iv ((f9 + (1 : Int32)) - (1 : Int32)), .val (.long (((f9.toInt64) + ((1 : Int32).toInt64)) - (1 : Int64))), .second] [.int ((f9 + (1 : Int32)) - (1 : Int32)), .ref b335])) rfl (by rw [hml]; rfl) (Steps.refl _) (argsL := [.int ((f9 + (1 : Int32)) - (1 : Int32))]) (rest := []) (lenOf own_pd_6 rfl) rfl own_wt (hb hby at_178) (fun _ _ => ⟨rfl, e347, (by decide : 7 + 0 ≤ _), (by decide : 118 + 0 ≤ _)⟩)
    dsimp only [Pt.U, Pt.locs, Pt.cells, Pt.slots] at X349 l349 y349 z349 st349 hQ349
    subst l349 y349 z349
    obtain ⟨rfl, Nq349, e349⟩ := hQ349
    have N349 := Fr.app N347 Nq349
    obtain ⟨fs, hr, hrun, hended, hW, hsame⟩ := X349.leave (v := some (.int (1 : Int32))) (fun h => by rw [Bd.returns] at h; cases h)
    refine ⟨_, _, pre0 _ (Gn _ (G325 _ (GF _ (G334 _ (G346 _ (G348 _ (?_))))))), hrun, hended, _, _, rfl, ?_, ⟨_, rfl⟩, hW, hsame.mono (by decide) (by decide)⟩
    · show Steps _ _ _ (T347.setTop (mkF m 171 #[iv p1, iv p2, iv p3, iv p4, iv p5, iv 1, iv f9, .val (.double q0), .second, .val (.double q1), .second, .val (.double ql), .second, rv b328, rv b335, iv ((f9 + (1 : Int32)) - (1 : Int32)), .val (.long (((f9.toInt64) + ((1 : Int32).toInt64)) - (1 : Int64))), .second] [.int (own_cmpL (((f9 + (1 : Int32)) - (1 : Int32)).toInt64) (((f9.toInt64) + ((1 : Int32).toInt64)) - (1 : Int64)))])) _
      refine XS.ifNo X347.here hx rfl (hb hby at_171) rfl ((if0 _ _).trans (teq (own_cmp0 _ _ a5' : (own_cmpL (((f9 + (1 : Int32)) - (1 : Int32)).toInt64) (((f9.toInt64) + ((1 : Int32).toInt64)) - (1 : Int64))) = (0 : Int32))).2) ?_
      show Steps _ _ _ (T347.setTop (mkF m 174 _ [])) _
      refine XS.aload X347.here hx rfl (hb hby at_174) rfl rfl ?_
      show Steps _ _ _ (T347.setTop (mkF m 176 _ [.ref b335])) _
      refine XS.iload X347.here hx rfl (hb hby at_176) rfl ?_
      show Steps _ _ _ (T347.setTop (mkF m 178 _ [.int ((f9 + (1 : Int32)) - (1 : Int32)), .ref b335])) _
      refine st349.trans ?_
      show Steps _ _ _ (T349.setTop (mkF m 181 #[iv p1, iv p2, iv p3, iv p4, iv p5, iv 1, iv f9, .val (.double q0), .second, .val (.double q1), .second, .val (.double ql), .second, rv b328, rv b335, iv ((f9 + (1 : Int32)) - (1 : Int32)), .val (.long (((f9.toInt64) + ((1 : Int32).toInt64)) - (1 : Int64))), .second] [.double ql])) _
      refine XS.dload X349.here hx rfl (hb hby at_181) rfl ?_
      show Steps _ _ _ (T349.setTop (mkF m 183 _ [.double ql, .double ql])) _
      refine XS.dcmpS X349.here hx rfl (hb hby at_183) rfl rfl ?_
      show Steps _ _ _ (T349.setTop (mkF m 184 _ [.int (cmpValue (FP.dcmp ql ql) .l)])) _
      refine XS.ifNo X349.here hx rfl (hb hby at_184) rfl ((if0 _ _).trans (teq (okl.2.2.1 : (cmpValue (FP.dcmp ql ql) .l) = (0 : Int32))).2) ?_
      show Steps _ _ _ (T349.setTop (mkF m 187 _ [])) _
      refine XS.iconst X349.here hx rfl (hb hby at_187) ?_
      show Steps _ _ _ (T349.setTop (mkF m 188 _ [.int 1])) _
      refine XS.goto X349.here hx rfl (pc0 := 188) (pc' := 192) rfl (hb hby at_188) (by decide) (by decide) ?_
      show Steps _ _ _ (T349.setTop (mkF m 192 _ [.int 1])) _
      exact retN X349 hx (t := .boolean) Bd.returns (by simp) (hb hby at_192) hr
    · show Q_law Z p1 p2 p3 p4 p5 h0 n0 _ T349.heap _
      rw [e349]
      exact ⟨rfl, N349⟩
  · have G350 : ∀ tq, Steps p.tables e below (s₁.setTop (mkF m 25 #[iv p1, iv p2, iv p3, iv p4, iv p5, iv 2, iv (p1 &&& (2147483647 : Int32)), uu, uu, uu, uu, uu, uu, uu, uu, uu, uu, uu] [.int 2147483646, .int (p1 &&& (2147483647 : Int32))])) tq → Steps p.tables e below (s₁.setTop (mkF m 7 #[iv p1, iv p2, iv p3, iv p4, iv p5, uu, uu, uu, uu, uu, uu, uu, uu, uu, uu, uu, uu, uu] [.int 1, .int 1])) tq := by
      intro tq kk
      show Steps _ _ _ (s₁.setTop (mkF m 7 #[iv p1, iv p2, iv p3, iv p4, iv p5, uu, uu, uu, uu, uu, uu, uu, uu, uu, uu, uu, uu, uu] [.int 1, .int 1])) _
      refine XS.iadd X0.here hx rfl (hb hby at_7) rfl ?_
      show Steps _ _ _ (s₁.setTop (mkF m 8 _ [.int 2])) _
      refine XS.istore X0.here hx rfl (hb hby at_8) rfl (l' := #[iv p1, iv p2, iv p3, iv p4, iv p5, iv 2, uu, uu, uu, uu, uu, uu, uu, uu, uu, uu, uu, uu]) rfl ?_
      show Steps _ _ _ (s₁.setTop (mkF m 10 _ [])) _
      refine XS.iloadN X0.here hx rfl (hb hby at_10) rfl ?_
      show Steps _ _ _ (s₁.setTop (mkF m 11 _ [.int p1])) _
      refine Jvm.Stand.ldcI X0 hx hown (mvT hZ (W 0 rfl)) rfl (hb hby at_11) ?_
      show Steps _ _ _ (s₁.setTop (mkF m 13 _ [.int 2147483647, .int p1])) _
      refine XS.iand X0.here hx rfl (hb hby at_13) rfl ?_
      show Steps _ _ _ (s₁.setTop (mkF m 14 _ [.int (p1 &&& (2147483647 : Int32))])) _
      refine XS.istore X0.here hx rfl (hb hby at_14) rfl (l' := #[iv p1, iv p2, iv p3, iv p4, iv p5, iv 2, iv (p1 &&& (2147483647 : Int32)), uu, uu, uu, uu, uu, uu, uu, uu, uu, uu, uu]) rfl ?_
      show Steps _ _ _ (s₁.setTop (mkF m 16 _ [])) _
      refine XS.iload X0.here hx rfl (hb hby at_16) rfl ?_
      show Steps _ _ _ (s₁.setTop (mkF m 18 _ [.int (p1 &&& (2147483647 : Int32))])) _
      refine Jvm.Stand.ldcI X0 hx hown (mvT hZ (W 0 rfl)) rfl (hb hby at_18) ?_
      show Steps _ _ _ (s₁.setTop (mkF m 20 #[iv p1, iv p2, iv p3, iv p4, iv p5, iv 2, iv (p1 &&& (2147483647 : Int32)), uu, uu, uu, uu, uu, uu, uu, uu, uu, uu, uu] [.int 2147483647, .int (p1 &&& (2147483647 : Int32))])) _
      refine XS.iload X0.here hx rfl (hb hby at_20) rfl ?_
      show Steps _ _ _ (s₁.setTop (mkF m 22 _ [.int 2, .int 2147483647, .int (p1 &&& (2147483647 : Int32))])) _
      refine XS.iconst X0.here hx rfl (hb hby at_22) ?_
      show Steps _ _ _ (s₁.setTop (mkF m 23 _ [.int 1, .int 2, .int 2147483647, .int (p1 &&& (2147483647 : Int32))])) _
      refine XS.isub X0.here hx rfl (hb hby at_23) rfl ?_
      show Steps _ _ _ (s₁.setTop (mkF m 24 _ [.int 1, .int 2147483647, .int (p1 &&& (2147483647 : Int32))])) _
      refine XS.isub X0.here hx rfl (hb hby at_24) rfl ?_
      exact kk
    obtain ⟨f9, hf0, hf1, GF⟩ : ∃ f9 : Int32, 0 ≤ f9.toInt ∧ f9.toInt + 2 ≤ 2147483648 ∧ ∀ tq, Steps p.tables e below (s₁.setTop (mkF m 37 #[iv p1, iv p2, iv p3, iv p4, iv p5, iv 2, iv f9, uu, uu, uu, uu, uu, uu, uu, uu, uu, uu, uu] [])) tq → Steps p.tables e below (s₁.setTop (mkF m 25 #[iv p1, iv p2, iv p3, iv p4, iv p5, iv 2, iv (p1 &&& (2147483647 : Int32)), uu, uu, uu, uu, uu, uu, uu, uu, uu, uu, uu] [.int 2147483646, .int (p1 &&& (2147483647 : Int32))])) tq := by
      by_cases hc : (2147483646 : Int32) < (p1 &&& (2147483647 : Int32))
      · have G351 : ∀ tq, Steps p.tables e below (s₁.setTop (mkF m 37 #[iv p1, iv p2, iv p3, iv p4, iv p5, iv 2, iv 2147483646, uu, uu, uu, uu, uu, uu, uu, uu, uu, uu, uu] [])) tq → Steps p.tables e below (s₁.setTop (mkF m 25 #[iv p1, iv p2, iv p3, iv p4, iv p5, iv 2, iv (p1 &&& (2147483647 : Int32)), uu, uu, uu, uu, uu, uu, uu, uu, uu, uu, uu] [.int 2147483646, .int (p1 &&& (2147483647 : Int32))])) tq := by
          intro tq kk
          show Steps _ _ _ (s₁.setTop (mkF m 25 #[iv p1, iv p2, iv p3, iv p4, iv p5, iv 2, iv (p1 &&& (2147483647 : Int32)), uu, uu, uu, uu, uu, uu, uu, uu, uu, uu, uu] [.int 2147483646, .int (p1 &&& (2147483647 : Int32))])) _
          refine XS.icmpNo X0.here hx rfl (hb hby at_25) rfl (tlt (hc : (2147483646 : Int32) < (p1 &&& (2147483647 : Int32)))).2.2.2 ?_
          show Steps _ _ _ (s₁.setTop (mkF m 28 _ [])) _
          refine Jvm.Stand.ldcI X0 hx hown (mvT hZ (W 0 rfl)) rfl (hb hby at_28) ?_
          show Steps _ _ _ (s₁.setTop (mkF m 30 _ [.int 2147483647])) _
          refine XS.iload X0.here hx rfl (hb hby at_30) rfl ?_
          show Steps _ _ _ (s₁.setTop (mkF m 32 _ [.int 2, .int 2147483647])) _
          refine XS.iconst X0.here hx rfl (hb hby at_32) ?_
          show Steps _ _ _ (s₁.setTop (mkF m 33 _ [.int 1, .int 2, .int 2147483647])) _
          refine XS.isub X0.here hx rfl (hb hby at_33) rfl ?_
          show Steps _ _ _ (s₁.setTop (mkF m 34 _ [.int 1, .int 2147483647])) _
          refine XS.isub X0.here hx rfl (hb hby at_34) rfl ?_
          show Steps _ _ _ (s₁.setTop (mkF m 35 _ [.int 2147483646])) _
          refine XS.istore X0.here hx rfl (hb hby at_35) rfl (l' := #[iv p1, iv p2, iv p3, iv p4, iv p5, iv 2, iv 2147483646, uu, uu, uu, uu, uu, uu, uu, uu, uu, uu, uu]) rfl ?_
          exact kk
        exact ⟨(2147483646 : Int32), by decide, by decide, fun tgt kk => G351 _ kk⟩
      · have G352 : ∀ tq, Steps p.tables e below (s₁.setTop (mkF m 37 #[iv p1, iv p2, iv p3, iv p4, iv p5, iv 2, iv (p1 &&& (2147483647 : Int32)), uu, uu, uu, uu, uu, uu, uu, uu, uu, uu, uu] [])) tq → Steps p.tables e below (s₁.setTop (mkF m 25 #[iv p1, iv p2, iv p3, iv p4, iv p5, iv 2, iv (p1 &&& (2147483647 : Int32)), uu, uu, uu, uu, uu, uu, uu, uu, uu, uu, uu] [.int 2147483646, .int (p1 &&& (2147483647 : Int32))])) tq := by
          intro tq kk
          show Steps _ _ _ (s₁.setTop (mkF m 25 #[iv p1, iv p2, iv p3, iv p4, iv p5, iv 2, iv (p1 &&& (2147483647 : Int32)), uu, uu, uu, uu, uu, uu, uu, uu, uu, uu, uu] [.int 2147483646, .int (p1 &&& (2147483647 : Int32))])) _
          refine XS.icmpYes X0.here hx rfl (pc0 := 25) (pc' := 37) rfl (hb hby at_25) rfl (flt (hc : ¬ ((2147483646 : Int32) < (p1 &&& (2147483647 : Int32))))).2.2.2 (by decide) (by decide) ?_
          exact kk
        refine ⟨(p1 &&& (2147483647 : Int32)), own_mask p1, ?_, fun tgt kk => G352 _ kk⟩
        rw [Int32.lt_iff_toInt_lt, show (2147483646 : Int32).toInt = 2147483646 from rfl] at hc; omega
    obtain ⟨a1', a2', a3', a4', a5'⟩ := own_ages f9 (2 : Int32) 2 rfl (by decide) (by decide) hf0 hf1
    obtain ⟨T353, h353, k353, X353, e353, E353, A353, ex353, st353⟩ := newPE X0 hx hZ (W 3 rfl) e0 (g := (mkF m 97 #[iv p1, iv p2, iv p3, iv p4, iv p5, iv 2, iv f9, .val (.double q0), .second, .val (.double q1), .second, .val (.double ql), .second, uu, uu, uu, uu, uu] [.int 2])) rfl (hb hby at_97) rfl (by decide : ¬ ((2 : Int32) < (0 : Int32))) (cap := 2) (by decide) (by decide) (by decide) (by decide) (ad := "[D") (by decide)
    obtain ⟨b353, g353⟩ : ∃ z, z = h0.size := ⟨_, rfl⟩
    rw [← g353] at A353 ex353 st353
    have g354 : n0 ≤ b353 := Nat.le_trans Z0 (Nat.le_of_eq g353.symm)
    have Z355 : n0 ≤ h353.size := Nat.le_trans Z0 E353.1
    have V353 : Arv Z h353 b353 k353 .double (2 : Int32) [(.double 0), (.double 0)] (.double 0) := (Arv.new A353 (by decide : ¬ ((2 : Int32) < (0 : Int32)))).pad (pad_rep [] (.double 0) 2)
    obtain ⟨cl356, Ar356, aq356, aS356, aN356, aH356, aG356⟩ := id V353
    obtain ⟨T357, h357, X357, e357, W357, st357⟩ := stD X353 hx hZ e353 Ar356 (j := (0 : Int32)) (inb_of aS356 ⟨(by decide), (by decide)⟩) (g := (mkF m 103 #[iv p1, iv p2, iv p3, iv p4, iv p5, iv 2, iv f9, .val (.double q0), .second, .val (.double q1), .second, .val (.double ql), .second, uu, uu, uu, uu, uu] [.double q0, .int 0, .ref b353, .ref b353])) rfl rfl (hb hby at_103)
    have N357 := Fr.snoc X357 N0 g354
    have V357 : Arv Z h357 b353 k353 .double (2 : Int32) [(.double q0), (.double 0)] (.double 0) := Arv.set Ar356 aq356 aS356 aN356 aH356 aG356 rfl W357 0 rfl (Nat.le_of_ble_eq_true rfl)
    have Z358 : n0 ≤ h357.size := Nat.le_trans Z355 (Keep.of_wr W357).1
    obtain ⟨cl359, Ar359, aq359, aS359, aN359, aH359, aG359⟩ := id V357
    obtain ⟨T360, h360, X360, e360, W360, st360⟩ := stD X357 hx hZ e357 Ar359 (j := (1 : Int32)) (inb_of aS359 ⟨(by decide), (by decide)⟩) (g := (mkF m 108 #[iv p1, iv p2, iv p3, iv p4, iv p5, iv 2, iv f9, .val (.double q0), .second, .val (.double q1), .second, .val (.double ql), .second, uu, uu, uu, uu, uu] [.double ql, .int 1, .ref b353, .ref b353])) rfl rfl (hb hby at_108)
    have N360 := Fr.snoc X360 N357 g354
    have V360 : Arv Z h360 b353 k353 .double (2 : Int32) [(.double q0), (.double ql)] (.double 0) := Arv.set Ar359 aq359 aS359 aN359 aH359 aG359 rfl W360 1 rfl (Nat.le_of_ble_eq_true rfl)
    have Z361 : n0 ≤ h360.size := Nat.le_trans Z358 (Keep.of_wr W360).1
    have G362 : ∀ tq, Steps p.tables e below (T360.setTop (mkF m 134 #[iv p1, iv p2, iv p3, iv p4, iv p5, iv 2, iv f9, .val (.double q0), .second, .val (.double q1), .second, .val (.double ql), .second, rv b353, uu, uu, uu, uu] [])) tq → Steps p.tables e below (s₁.setTop (mkF m 37 #[iv p1, iv p2, iv p3, iv p4, iv p5, iv 2, iv f9, uu, uu, uu, uu, uu, uu, uu, uu, uu, uu, uu] [])) tq := by
      intro tq kk
      show Steps _ _ _ (s₁.setTop (mkF m 37 #[iv p1, iv p2, iv p3, iv p4, iv p5, iv 2, iv f9, uu, uu, uu, uu, uu, uu, uu, uu, uu, uu, uu] [])) _
      refine XS.iloadN X0.here hx rfl (hb hby at_37) rfl ?_
      show Steps _ _ _ (s₁.setTop (mkF m 38 _ [.int p3])) _
      refine XS.bipush X0.here hx rfl (hb hby at_38) ?_
      show Steps _ _ _ (s₁.setTop (mkF m 40 _ [.int 7, .int p3])) _
      refine XS.iand X0.here hx rfl (hb hby at_40) rfl ?_
      show Steps _ _ _ (s₁.setTop (mkF m 41 _ [.int (p3 &&& (7 : Int32))])) _
      refine XS.i2dS X0.here hx rfl (hb hby at_41) rfl rfl ?_
      show Steps _ _ _ (s₁.setTop (mkF m 42 _ [.double (FP.i2d (p3 &&& (7 : Int32)))])) _
      refine X0.ldc2DoubleC hx hown (mvT hZ (W 1 rfl)) (g := (mkF m 42 #[iv p1, iv p2, iv p3, iv p4, iv p5, iv 2, iv f9, uu, uu, uu, uu, uu, uu, uu, uu, uu, uu, uu] [.double (FP.i2d (p3 &&& (7 : Int32)))])) rfl (hb hby at_42) _ ?_
      show Steps _ _ _ (s₁.setTop (mkF m 45 #[iv p1, iv p2, iv p3, iv p4, iv p5, iv 2, iv f9, uu, uu, uu, uu, uu, uu, uu, uu, uu, uu, uu] [.double 4620693217682128896, .double (FP.i2d (p3 &&& (7 : Int32)))])) _
      refine XS.ddivS X0.here hx rfl (hb hby at_45) rfl nq0 eq0 ?_
      show Steps _ _ _ (s₁.setTop (mkF m 46 _ [.double q0])) _
      refine XS.dstore X0.here hx rfl (hb hby at_46) rfl (l' := #[iv p1, iv p2, iv p3, iv p4, iv p5, iv 2, iv f9, .val (.double q0), .second, uu, uu, uu, uu, uu, uu, uu, uu, uu]) rfl ?_
      show Steps _ _ _ (s₁.setTop (mkF m 48 _ [])) _
      refine XS.iloadN X0.here hx rfl (hb hby at_48) rfl ?_
      show Steps _ _ _ (s₁.setTop (mkF m 49 _ [.int p4])) _
      refine XS.bipush X0.here hx rfl (hb hby at_49) ?_
      show Steps _ _ _ (s₁.setTop (mkF m 51 _ [.int 7, .int p4])) _
      refine XS.iand X0.here hx rfl (hb hby at_51) rfl ?_
      show Steps _ _ _ (s₁.setTop (mkF m 52 _ [.int (p4 &&& (7 : Int32))])) _
      refine XS.i2dS X0.here hx rfl (hb hby at_52) rfl rfl ?_
      show Steps _ _ _ (s₁.setTop (mkF m 53 _ [.double (FP.i2d (p4 &&& (7 : Int32)))])) _
      refine X0.ldc2DoubleC hx hown (mvT hZ (W 1 rfl)) (g := (mkF m 53 #[iv p1, iv p2, iv p3, iv p4, iv p5, iv 2, iv f9, .val (.double q0), .second, uu, uu, uu, uu, uu, uu, uu, uu, uu] [.double (FP.i2d (p4 &&& (7 : Int32)))])) rfl (hb hby at_53) _ ?_
      show Steps _ _ _ (s₁.setTop (mkF m 56 #[iv p1, iv p2, iv p3, iv p4, iv p5, iv 2, iv f9, .val (.double q0), .second, uu, uu, uu, uu, uu, uu, uu, uu, uu] [.double 4620693217682128896, .double (FP.i2d (p4 &&& (7 : Int32)))])) _
      refine XS.ddivS X0.here hx rfl (hb hby at_56) rfl nq1 eq1 ?_
      show Steps _ _ _ (s₁.setTop (mkF m 57 _ [.double q1])) _
      refine XS.dstore X0.here hx rfl (hb hby at_57) rfl (l' := #[iv p1, iv p2, iv p3, iv p4, iv p5, iv 2, iv f9, .val (.double q0), .second, .val (.double q1), .second, uu, uu, uu, uu, uu, uu, uu]) rfl ?_
      show Steps _ _ _ (s₁.setTop (mkF m 59 _ [])) _
      refine XS.iload X0.here hx rfl (hb hby at_59) rfl ?_
      show Steps _ _ _ (s₁.setTop (mkF m 61 _ [.int p5])) _
      refine XS.bipush X0.here hx rfl (hb hby at_61) ?_
      show Steps _ _ _ (s₁.setTop (mkF m 63 _ [.int 7, .int p5])) _
      refine XS.iand X0.here hx rfl (hb hby at_63) rfl ?_
      show Steps _ _ _ (s₁.setTop (mkF m 64 _ [.int (p5 &&& (7 : Int32))])) _
      refine XS.i2dS X0.here hx rfl (hb hby at_64) rfl rfl ?_
      show Steps _ _ _ (s₁.setTop (mkF m 65 _ [.double (FP.i2d (p5 &&& (7 : Int32)))])) _
      refine X0.ldc2DoubleC hx hown (mvT hZ (W 2 rfl)) (g := (mkF m 65 #[iv p1, iv p2, iv p3, iv p4, iv p5, iv 2, iv f9, .val (.double q0), .second, .val (.double q1), .second, uu, uu, uu, uu, uu, uu, uu] [.double (FP.i2d (p5 &&& (7 : Int32)))])) rfl (hb hby at_65) _ ?_
      show Steps _ _ _ (s₁.setTop (mkF m 68 #[iv p1, iv p2, iv p3, iv p4, iv p5, iv 2, iv f9, .val (.double q0), .second, .val (.double q1), .second, uu, uu, uu, uu, uu, uu, uu] [.double 4619567317775286272, .double (FP.i2d (p5 &&& (7 : Int32)))])) _
      refine XS.ddivS X0.here hx rfl (hb hby at_68) rfl nql eql ?_
      show Steps _ _ _ (s₁.setTop (mkF m 69 _ [.double ql])) _
      refine XS.dstore X0.here hx rfl (hb hby at_69) rfl (l' := #[iv p1, iv p2, iv p3, iv p4, iv p5, iv 2, iv f9, .val (.double q0), .second, .val (.double q1), .second, .val (.double ql), .second, uu, uu, uu, uu, uu]) rfl ?_
      show Steps _ _ _ (s₁.setTop (mkF m 71 _ [])) _
      refine XS.iload X0.here hx rfl (hb hby at_71) rfl ?_
      show Steps _ _ _ (s₁.setTop (mkF m 73 _ [.int 2])) _
      refine XS.iconst X0.here hx rfl (hb hby at_73) ?_
      show Steps _ _ _ (s₁.setTop (mkF m 74 _ [.int 1, .int 2])) _
      refine XS.icmpYes X0.here hx rfl (pc0 := 74) (pc' := 90) rfl (hb hby at_74) rfl (feq ((by decide) : ¬ ((2 : Int32) = (1 : Int32)))).2 (by decide) (by decide) ?_
      show Steps _ _ _ (s₁.setTop (mkF m 90 _ [])) _
      refine XS.iload X0.here hx rfl (hb hby at_90) rfl ?_
      show Steps _ _ _ (s₁.setTop (mkF m 92 _ [.int 2])) _
      refine XS.iconst X0.here hx rfl (hb hby at_92) ?_
      show Steps _ _ _ (s₁.setTop (mkF m 93 _ [.int 2, .int 2])) _
      refine XS.icmpNo X0.here hx rfl (hb hby at_93) rfl (teq (rfl : (2 : Int32) = (2 : Int32))).2 ?_
      show Steps _ _ _ (s₁.setTop (mkF m 96 #[iv p1, iv p2, iv p3, iv p4, iv p5, iv 2, iv f9, .val (.double q0), .second, .val (.double q1), .second, .val (.double ql), .second, uu, uu, uu, uu, uu] [])) _
      refine XS.iconst X0.here hx rfl (hb hby at_96) ?_
      show Steps _ _ _ (s₁.setTop (mkF m 97 _ [.int 2])) _
      refine st353 _ ?_
      show Steps _ _ _ (T353.setTop (mkF m 99 #[iv p1, iv p2, iv p3, iv p4, iv p5, iv 2, iv f9, .val (.double q0), .second, .val (.double q1), .second, .val (.double ql), .second, uu, uu, uu, uu, uu] [.ref b353])) _
      refine XS.dup X353.here hx rfl (hb hby at_99) rfl rfl ?_
      show Steps _ _ _ (T353.setTop (mkF m 100 _ [.ref b353, .ref b353])) _
      refine XS.iconst X353.here hx rfl (hb hby at_100) ?_
      show Steps _ _ _ (T353.setTop (mkF m 101 _ [.int 0, .ref b353, .ref b353])) _
      refine XS.dload X353.here hx rfl (hb hby at_101) rfl ?_
      show Steps _ _ _ (T353.setTop (mkF m 103 _ [.double q0, .int 0, .ref b353, .ref b353])) _
      refine st357 _ ?_
      show Steps _ _ _ (T357.setTop (mkF m 104 #[iv p1, iv p2, iv p3, iv p4, iv p5, iv 2, iv f9, .val (.double q0), .second, .val (.double q1), .second, .val (.double ql), .second, uu, uu, uu, uu, uu] [.ref b353])) _
      refine XS.dup X357.here hx rfl (hb hby at_104) rfl rfl ?_
      show Steps _ _ _ (T357.setTop (mkF m 105 _ [.ref b353, .ref b353])) _
      refine XS.iconst X357.here hx rfl (hb hby at_105) ?_
      show Steps _ _ _ (T357.setTop (mkF m 106 _ [.int 1, .ref b353, .ref b353])) _
      refine XS.dload X357.here hx rfl (hb hby at_106) rfl ?_
      show Steps _ _ _ (T357.setTop (mkF m 108 _ [.double ql, .int 1, .ref b353, .ref b353])) _
      refine st360 _ ?_
      show Steps _ _ _ (T360.setTop (mkF m 109 #[iv p1, iv p2, iv p3, iv p4, iv p5, iv 2, iv f9, .val (.double q0), .second, .val (.double q1), .second, .val (.double ql), .second, uu, uu, uu, uu, uu] [.ref b353])) _
      refine XS.astore X360.here hx rfl (hb hby at_109) rfl rfl (l' := #[iv p1, iv p2, iv p3, iv p4, iv p5, iv 2, iv f9, .val (.double q0), .second, .val (.double q1), .second, .val (.double ql), .second, rv b353, uu, uu, uu, uu]) rfl ?_
      show Steps _ _ _ (T360.setTop (mkF m 111 _ [])) _
      refine XS.goto X360.here hx rfl (pc0 := 111) (pc' := 134) rfl (hb hby at_111) (by decide) (by decide) ?_
      exact kk
    obtain ⟨T363, h363, X363, e363, E363, A363, D363, -, st363⟩ := newO X360 hx hZ hown (W 4 rfl) (W 5 rfl) (W 6 rfl) e360 (g := (mkF m 134 #[iv p1, iv p2, iv p3, iv p4, iv p5, iv 2, iv f9, .val (.double q0), .second, .val (.double q1), .second, .val (.double ql), .second, rv b353, uu, uu, uu, uu] [])) rfl (hb hby at_134) (by decide) (by decide)
    obtain ⟨b363, g363⟩ : ∃ z, z = h360.size := ⟨_, rfl⟩
    rw [← g363] at A363 D363 st363
    have g364 : n0 ≤ b363 := Nat.le_trans Z361 (Nat.le_of_eq g363.symm)
    have Z365 : n0 ≤ h363.size := Nat.le_trans Z361 E363.1
    have F366 : Fld Z h363 b363 "com/example/pensionwright/pensionwright/actuarial/MortalityTable" "firstAge" "I" (.int (0 : Int32)) := D363 (Or.inr (W 15 rfl)) (ty := .int) (by decide)
    have F367 : Fld Z h363 b363 "com/example/pensionwright/pensionwright/actuarial/MortalityTable" "rates" "[D" .null := D363 (Or.inr (W 30 rfl)) (ty := (.array .double)) (by decide)
    have F368 : Fld Z h363 b363 "com/example/pensionwright/pensionwright/actuarial/MortalityTable" "monthlySurvival" "[[D" .null := D363 (Or.inr (W 34 rfl)) (ty := (.array (.array .double))) (by decide)
    have f369 := (V360.ext E363)
    have f370 := (((ex353.wr W357).wr W360).ext E363)
    have f371 := (Nat.lt_of_lt_of_le (Nat.lt_of_lt_of_le V353.lt (Keep.of_wr W357).1) (Keep.of_wr W360).1)
    obtain ⟨_, _, ⟨T372, L372, k372, n372⟩, -, X372, ⟨Lc372, hQ372, l372, y372, z372⟩, st372⟩ := X363.specialBack hx (y := (⟨"com/example/pensionwright/pensionwright/actuarial/MortalityTable", "<init>", "(I[D)V"⟩ : MethodName)) rfl hown (mvT hZ (W 7 rfl)) (mvT hZ (W 8 rfl)) (mvT hZ (W 9 rfl)) (by decide) (backOf (W := 1) (rm_mi2 l Z a0 hw [] b363 b353 f9 k353 q0 ql h363 n0 Z365 A363 g364 F366 F367 F368 f369 f370 (Nat.ne_of_lt (Nat.lt_of_lt_of_le f371 (Nat.le_of_eq g363.symm))) a1' a2' ok0 okl ne0) hZ (W 9 rfl) (W 6 rfl) (by decide) (by decide)) (g := (mkF m 142 #[iv p1, iv p2, iv p3, iv p4, iv p5, iv 2, iv f9, .val (.double q0), .second, .val (.double q1), .second, .val (.double ql), .second, rv b353, uu, uu, uu, uu] [.ref b353, .int f9, .ref b363, .ref b363])) rfl (by rw [hml]; rfl) (Steps.refl _) (a := b363) (argsL := [.int f9, .ref b353]) (rest := [.ref b363]) (lenOf own_pd_0 rfl) rfl own_wt (hb hby at_142) (fun _ _ => ⟨rfl, e363, (by decide : 2 + 5 ≤ _), (by decide : 5 + 114 ≤ _)⟩)
    dsimp only [Pt.U, Pt.locs, Pt.cells, Pt.slots] at X372 l372 y372 z372 st372 hQ372
    subst l372 y372 z372
    obtain ⟨rfl, Nq372, K372, gE372, gF372, rr372, gR372, gV372⟩ := hQ372
    have N372 := Fr.app N360 Nq372
    have Z373 : n0 ≤ T372.heap.size := Nat.le_trans Z365 K372.1
    have G374 : ∀ tq, Steps p.tables e below (T372.setTop (mkF m 145 #[iv p1, iv p2, iv p3, iv p4, iv p5, iv 2, iv f9, .val (.double q0), .second, .val (.double q1), .second, .val (.double ql), .second, rv b353, uu, uu, uu, uu] [.ref b363])) tq → Steps p.tables e below (T360.setTop (mkF m 134 #[iv p1, iv p2, iv p3, iv p4, iv p5, iv 2, iv f9, .val (.double q0), .second, .val (.double q1), .second, .val (.double ql), .second, rv b353, uu, uu, uu, uu] [])) tq := by
      intro tq kk
      show Steps _ _ _ (T360.setTop (mkF m 134 #[iv p1, iv p2, iv p3, iv p4, iv p5, iv 2, iv f9, .val (.double q0), .second, .val (.double q1), .second, .val (.double ql), .second, rv b353, uu, uu, uu, uu] [])) _
      refine st363 _ ?_
      show Steps _ _ _ (T363.setTop (mkF m 137 #[iv p1, iv p2, iv p3, iv p4, iv p5, iv 2, iv f9, .val (.double q0), .second, .val (.double q1), .second, .val (.double ql), .second, rv b353, uu, uu, uu, uu] [.ref b363])) _
      refine XS.dup X363.here hx rfl (hb hby at_137) rfl rfl ?_
      show Steps _ _ _ (T363.setTop (mkF m 138 _ [.ref b363, .ref b363])) _
      refine XS.iload X363.here hx rfl (hb hby at_138) rfl ?_
      show Steps _ _ _ (T363.setTop (mkF m 140 _ [.int f9, .ref b363, .ref b363])) _
      refine XS.aload X363.here hx rfl (hb hby at_140) rfl rfl ?_
      show Steps _ _ _ (T363.setTop (mkF m 142 _ [.ref b353, .int f9, .ref b363, .ref b363])) _
      refine st372.trans ?_
      exact kk
    obtain ⟨cq375, kq375, q375a, q375b, q375c⟩ := isOf hZ rfl gE372
    obtain ⟨_, _, ⟨T375, L375, k375, n375⟩, -, X375, ⟨Lc375, hQ375, l375, y375, z375⟩, st375⟩ := X372.virtualBack hx (y := (⟨"com/example/pensionwright/pensionwright/actuarial/MortalityTable", "lastAge", "()I"⟩ : MethodName)) (z := (⟨"com/example/pensionwright/pensionwright/actuarial/MortalityTable", "lastAge", "()I"⟩ : MethodName)) hown (mvT hZ (W 40 rfl)) (mvT hZ (W 41 rfl)) (notFace_of_selects (args := #[]) (mvT hZ (W 43 rfl))) (mvT hZ (W 43 rfl)) (mvT hZ (W 42 rfl)) (by decide) (backOf (W := 0) (rm_la2 l Z a0 hw [] b363 rr372 f9 k353 [(.double q0), (.double ql)] T372.heap n0 Z373 gF372 gR372 gV372) hZ (W 44 rfl) (W 6 rfl) (by decide) (by decide)) q375a q375c (g := (mkF m 149 #[iv p1, iv p2, iv p3, iv p4, iv p5, iv 2, iv f9, .val (.double q0), .second, .val (.double q1), .second, .val (.double ql), .second, rv b353, rv b363, uu, uu, uu] [.ref b363])) rfl (by rw [hml]; rfl) (Steps.refl _) (argsL := []) (rest := []) (lenOf own_pd_5 rfl) rfl own_wt (hb hby at_149) (fun _ _ => ⟨rfl, rfl, (by decide : 7 + 0 ≤ _), (by decide : 119 + 0 ≤ _)⟩)
    dsimp only [Pt.U, Pt.locs, Pt.cells, Pt.slots] at X375 l375 y375 z375 st375 hQ375
    subst l375 y375 z375
    obtain ⟨rfl, Nq375, e375⟩ := hQ375
    have N375 := Fr.app N372 Nq375
    have G376 : ∀ tq, Steps p.tables e below (T375.setTop (mkF m 171 #[iv p1, iv p2, iv p3, iv p4, iv p5, iv 2, iv f9, .val (.double q0), .second, .val (.double q1), .second, .val (.double ql), .second, rv b353, rv b363, iv ((f9 + (2 : Int32)) - (1 : Int32)), .val (.long (((f9.toInt64) + ((2 : Int32).toInt64)) - (1 : Int64))), .second] [.int (own_cmpL (((f9 + (2 : Int32)) - (1 : Int32)).toInt64) (((f9.toInt64) + ((2 : Int32).toInt64)) - (1 : Int64)))])) tq → Steps p.tables e below (T372.setTop (mkF m 145 #[iv p1, iv p2, iv p3, iv p4, iv p5, iv 2, iv f9, .val (.double q0), .second, .val (.double q1), .second, .val (.double ql), .second, rv b353, uu, uu, uu, uu] [.ref b363])) tq := by
      intro tq kk
      show Steps _ _ _ (T372.setTop (mkF m 145 #[iv p1, iv p2, iv p3, iv p4, iv p5, iv 2, iv f9, .val (.double q0), .second, .val (.double q1), .second, .val (.double ql), .second, rv b353, uu, uu, uu, uu] [.ref b363])) _
      refine XS.astore X372.here hx rfl (hb hby at_145) rfl rfl (l' := #[iv p1, iv p2, iv p3, iv p4, iv p5, iv 2, iv f9, .val (.double q0), .second, .val (.double q1), .second, .val (.double ql), .second, rv b353, rv b363, uu, uu, uu]) rfl ?_
      show Steps _ _ _ (T372.setTop (mkF m 147 _ [])) _
      refine XS.aload X372.here hx rfl (hb hby at_147) rfl rfl ?_
      show Steps _ _ _ (T372.setTop (mkF m 149 _ [.ref b363])) _
      refine st375.trans ?_
      show Steps _ _ _ (T375.setTop (mkF m 152 #[iv p1, iv p2, iv p3, iv p4, iv p5, iv 2, iv f9, .val (.double q0), .second, .val (.double q1), .second, .val (.double ql), .second, rv b353, rv b363, uu, uu, uu] [.int ((f9 + (2 : Int32)) - (1 : Int32))])) _
      refine XS.istore X375.here hx rfl (hb hby at_152) rfl (l' := #[iv p1, iv p2, iv p3, iv p4, iv p5, iv 2, iv f9, .val (.double q0), .second, .val (.double q1), .second, .val (.double ql), .second, rv b353, rv b363, iv ((f9 + (2 : Int32)) - (1 : Int32)), uu, uu]) rfl ?_
      show Steps _ _ _ (T375.setTop (mkF m 154 _ [])) _
      refine XS.iload X375.here hx rfl (hb hby at_154) rfl ?_
      show Steps _ _ _ (T375.setTop (mkF m 156 _ [.int f9])) _
      refine XS.i2l X375.here hx rfl (hb hby at_156) rfl ?_
      show Steps _ _ _ (T375.setTop (mkF m 157 _ [.long (f9.toInt64)])) _
      refine XS.iload X375.here hx rfl (hb hby at_157) rfl ?_
      show Steps _ _ _ (T375.setTop (mkF m 159 _ [.int 2, .long (f9.toInt64)])) _
      refine XS.i2l X375.here hx rfl (hb hby at_159) rfl ?_
      show Steps _ _ _ (T375.setTop (mkF m 160 _ [.long ((2 : Int32).toInt64), .long (f9.toInt64)])) _
      refine XS.ladd X375.here hx rfl (hb hby at_160) rfl ?_
      show Steps _ _ _ (T375.setTop (mkF m 161 _ [.long ((f9.toInt64) + ((2 : Int32).toInt64))])) _
      refine XS.lconst X375.here hx rfl (hb hby at_161) ?_
      show Steps _ _ _ (T375.setTop (mkF m 162 _ [.long 1, .long ((f9.toInt64) + ((2 : Int32).toInt64))])) _
      refine XS.lsub X375.here hx rfl (hb hby at_162) rfl ?_
      show Steps _ _ _ (T375.setTop (mkF m 163 #[iv p1, iv p2, iv p3, iv p4, iv p5, iv 2, iv f9, .val (.double q0), .second, .val (.double q1), .second, .val (.double ql), .second, rv b353, rv b363, iv ((f9 + (2 : Int32)) - (1 : Int32)), uu, uu] [.long (((f9.toInt64) + ((2 : Int32).toInt64)) - (1 : Int64))])) _
      refine XS.lstore X375.here hx rfl (hb hby at_163) rfl (l' := #[iv p1, iv p2, iv p3, iv p4, iv p5, iv 2, iv f9, .val (.double q0), .second, .val (.double q1), .second, .val (.double ql), .second, rv b353, rv b363, iv ((f9 + (2 : Int32)) - (1 : Int32)), .val (.long (((f9.toInt64) + ((2 : Int32).toInt64)) - (1 : Int64))), .second]) rfl ?_
      show Steps _ _ _ (T375.setTop (mkF m 165 _ [])) _
      refine XS.iload X375.here hx rfl (hb hby at_165) rfl ?_
      show Steps _ _ _ (T375.setTop (mkF m 167 _ [.int ((f9 + (2 : Int32)) - (1 : Int32))])) _
      refine XS.i2l X375.here hx rfl (hb hby at_167) rfl ?_
      show Steps _ _ _ (T375.setTop (mkF m 168 _ [.long (((f9 + (2 : Int32)) - (1 : Int32)).toInt64)])) _
      refine XS.lload X375.here hx rfl (hb hby at_168) rfl ?_
      show Steps _ _ _ (T375.setTop (mkF m 170 _ [.long (((f9.toInt64) + ((2 : Int32).toInt64)) - (1 : Int64)), .long (((f9 + (2 : Int32)) - (1 : Int32)).toInt64)])) _
      refine XS.lcmp X375.here hx rfl (hb hby at_170) rfl ?_
      exact kk
    obtain ⟨cq377, kq377, q377a, q377b, q377c⟩ := isOf hZ e375 gE372
    obtain ⟨_, _, ⟨T377, L377, k377, n377⟩, -, X377, ⟨Lc377, hQ377, l377, y377, z377⟩, st377⟩ := X375.virtualBack hx (y := (⟨"com/example/pensionwright/pensionwright/actuarial/MortalityTable", "qx", "(I)D"⟩ : MethodName)) (z := (⟨"com/example/pensionwright/pensionwright/actuarial/MortalityTable", "qx", "(I)D"⟩ : MethodName)) hown (mvT hZ (W 45 rfl)) (mvT hZ (W 46 rfl)) (notFace_of_selects (args := #[]) (mvT hZ (W 48 rfl))) (mvT hZ (W 48 rfl)) (mvT hZ (W 47 rfl)) (by decide) (backOf (W := 0) (rm_qx2 l Z a0 hw [] b363 rr372 f9 k353 q0 ql T372.heap n0 Z373 gE372 gF372 gR372 gV372 a3' a4') hZ (W 49 rfl) (W 6 rfl) (by decide) (by decide)) q377a q377c (g := (mkF m 178 #[iv p1, iv p2, iv p3, iv p4, iv p5, iv 2, iv f9, .val (.double q0), .second, .val (.double q1), .second, .val (.double ql), .second, rv b353, rv b363, iv ((f9 + (2 : Int32)) - (1 : Int32)), .val (.long (((f9.toInt64) + ((2 : Int32).toInt64)) - (1 : Int64))), .second] [.int ((f9 + (2 : Int32)) - (1 : Int32)), .ref b363])) rfl (by rw [hml]; rfl) (Steps.refl _) (argsL := [.int ((f9 + (2 : Int32)) - (1 : Int32))]) (rest := []) (lenOf own_pd_6 rfl) rfl own_wt (hb hby at_178) (fun _ _ => ⟨rfl, e375, (by decide : 7 + 0 ≤ _), (by decide : 119 + 0 ≤ _)⟩)
    dsimp only [Pt.U, Pt.locs, Pt.cells, Pt.slots] at X377 l377 y377 z377 st377 hQ377
    subst l377 y377 z377
    obtain ⟨rfl, Nq377, e377⟩ := hQ377
    have N377 := Fr.app N375 Nq377
    obtain ⟨fs, hr, hrun, hended, hW, hsame⟩ := X377.leave (v := some (.int (1 : Int32))) (fun h => by rw [Bd.returns] at h; cases h)
    refine ⟨_, _, pre0 _ (Gn _ (G350 _ (GF _ (G362 _ (G374 _ (G376 _ (?_))))))), hrun, hended, _, _, rfl, ?_, ⟨_, rfl⟩, hW, hsame.mono (by decide) (by decide)⟩
    · show Steps _ _ _ (T375.setTop (mkF m 171 #[iv p1, iv p2, iv p3, iv p4, iv p5, iv 2, iv f9, .val (.double q0), .second, .val (.double q1), .second, .val (.double ql), .second, rv b353, rv b363, iv ((f9 + (2 : Int32)) - (1 : Int32)), .val (.long (((f9.toInt64) + ((2 : Int32).toInt64)) - (1 : Int64))), .second] [.int (own_cmpL (((f9 + (2 : Int32)) - (1 : Int32)).toInt64) (((f9.toInt64) + ((2 : Int32).toInt64)) - (1 : Int64)))])) _
      refine XS.ifNo X375.here hx rfl (hb hby at_171) rfl ((if0 _ _).trans (teq (own_cmp0 _ _ a5' : (own_cmpL (((f9 + (2 : Int32)) - (1 : Int32)).toInt64) (((f9.toInt64) + ((2 : Int32).toInt64)) - (1 : Int64))) = (0 : Int32))).2) ?_
      show Steps _ _ _ (T375.setTop (mkF m 174 _ [])) _
      refine XS.aload X375.here hx rfl (hb hby at_174) rfl rfl ?_
      show Steps _ _ _ (T375.setTop (mkF m 176 _ [.ref b363])) _
      refine XS.iload X375.here hx rfl (hb hby at_176) rfl ?_
      show Steps _ _ _ (T375.setTop (mkF m 178 _ [.int ((f9 + (2 : Int32)) - (1 : Int32)), .ref b363])) _
      refine st377.trans ?_
      show Steps _ _ _ (T377.setTop (mkF m 181 #[iv p1, iv p2, iv p3, iv p4, iv p5, iv 2, iv f9, .val (.double q0), .second, .val (.double q1), .second, .val (.double ql), .second, rv b353, rv b363, iv ((f9 + (2 : Int32)) - (1 : Int32)), .val (.long (((f9.toInt64) + ((2 : Int32).toInt64)) - (1 : Int64))), .second] [.double ql])) _
      refine XS.dload X377.here hx rfl (hb hby at_181) rfl ?_
      show Steps _ _ _ (T377.setTop (mkF m 183 _ [.double ql, .double ql])) _
      refine XS.dcmpS X377.here hx rfl (hb hby at_183) rfl rfl ?_
      show Steps _ _ _ (T377.setTop (mkF m 184 _ [.int (cmpValue (FP.dcmp ql ql) .l)])) _
      refine XS.ifNo X377.here hx rfl (hb hby at_184) rfl ((if0 _ _).trans (teq (okl.2.2.1 : (cmpValue (FP.dcmp ql ql) .l) = (0 : Int32))).2) ?_
      show Steps _ _ _ (T377.setTop (mkF m 187 _ [])) _
      refine XS.iconst X377.here hx rfl (hb hby at_187) ?_
      show Steps _ _ _ (T377.setTop (mkF m 188 _ [.int 1])) _
      refine XS.goto X377.here hx rfl (pc0 := 188) (pc' := 192) rfl (hb hby at_188) (by decide) (by decide) ?_
      show Steps _ _ _ (T377.setTop (mkF m 192 _ [.int 1])) _
      exact retN X377 hx (t := .boolean) Bd.returns (by simp) (hb hby at_192) hr
    · show Q_law Z p1 p2 p3 p4 p5 h0 n0 _ T377.heap _
      rw [e377]
      exact ⟨rfl, N377⟩
  · have G378 : ∀ tq, Steps p.tables e below (s₁.setTop (mkF m 25 #[iv p1, iv p2, iv p3, iv p4, iv p5, iv 3, iv (p1 &&& (2147483647 : Int32)), uu, uu, uu, uu, uu, uu, uu, uu, uu, uu, uu] [.int 2147483645, .int (p1 &&& (2147483647 : Int32))])) tq → Steps p.tables e below (s₁.setTop (mkF m 7 #[iv p1, iv p2, iv p3, iv p4, iv p5, uu, uu, uu, uu, uu, uu, uu, uu, uu, uu, uu, uu, uu] [.int 2, .int 1])) tq := by
      intro tq kk
      show Steps _ _ _ (s₁.setTop (mkF m 7 #[iv p1, iv p2, iv p3, iv p4, iv p5, uu, uu, uu, uu, uu, uu, uu, uu, uu, uu, uu, uu, uu] [.int 2, .int 1])) _
      refine XS.iadd X0.here hx rfl (hb hby at_7) rfl ?_
      show Steps _ _ _ (s₁.setTop (mkF m 8 _ [.int 3])) _
      refine XS.istore X0.here hx rfl (hb hby at_8) rfl (l' := #[iv p1, iv p2, iv p3, iv p4, iv p5, iv 3, uu, uu, uu, uu, uu, uu, uu, uu, uu, uu, uu, uu]) rfl ?_
      show Steps _ _ _ (s₁.setTop (mkF m 10 _ [])) _
      refine XS.iloadN X0.here hx rfl (hb hby at_10) rfl ?_
      show Steps _ _ _ (s₁.setTop (mkF m 11 _ [.int p1])) _
      refine Jvm.Stand.ldcI X0 hx hown (mvT hZ (W 0 rfl)) rfl (hb hby at_11) ?_
      show Steps _ _ _ (s₁.setTop (mkF m 13 _ [.int 2147483647, .int p1])) _
      refine XS.iand X0.here hx rfl (hb hby at_13) rfl ?_
      show Steps _ _ _ (s₁.setTop (mkF m 14 _ [.int (p1 &&& (2147483647 : Int32))])) _
      refine XS.istore X0.here hx rfl (hb hby at_14) rfl (l' := #[iv p1, iv p2, iv p3, iv p4, iv p5, iv 3, iv (p1 &&& (2147483647 : Int32)), uu, uu, uu, uu, uu, uu, uu, uu, uu, uu, uu]) rfl ?_
      show Steps _ _ _ (s₁.setTop (mkF m 16 _ [])) _
      refine XS.iload X0.here hx rfl (hb hby at_16) rfl ?_
      show Steps _ _ _ (s₁.setTop (mkF m 18 _ [.int (p1 &&& (2147483647 : Int32))])) _
      refine Jvm.Stand.ldcI X0 hx hown (mvT hZ (W 0 rfl)) rfl (hb hby at_18) ?_
      show Steps _ _ _ (s₁.setTop (mkF m 20 #[iv p1, iv p2, iv p3, iv p4, iv p5, iv 3, iv (p1 &&& (2147483647 : Int32)), uu, uu, uu, uu, uu, uu, uu, uu, uu, uu, uu] [.int 2147483647, .int (p1 &&& (2147483647 : Int32))])) _
      refine XS.iload X0.here hx rfl (hb hby at_20) rfl ?_
      show Steps _ _ _ (s₁.setTop (mkF m 22 _ [.int 3, .int 2147483647, .int (p1 &&& (2147483647 : Int32))])) _
      refine XS.iconst X0.here hx rfl (hb hby at_22) ?_
      show Steps _ _ _ (s₁.setTop (mkF m 23 _ [.int 1, .int 3, .int 2147483647, .int (p1 &&& (2147483647 : Int32))])) _
      refine XS.isub X0.here hx rfl (hb hby at_23) rfl ?_
      show Steps _ _ _ (s₁.setTop (mkF m 24 _ [.int 2, .int 2147483647, .int (p1 &&& (2147483647 : Int32))])) _
      refine XS.isub X0.here hx rfl (hb hby at_24) rfl ?_
      exact kk
    obtain ⟨f9, hf0, hf1, GF⟩ : ∃ f9 : Int32, 0 ≤ f9.toInt ∧ f9.toInt + 3 ≤ 2147483648 ∧ ∀ tq, Steps p.tables e below (s₁.setTop (mkF m 37 #[iv p1, iv p2, iv p3, iv p4, iv p5, iv 3, iv f9, uu, uu, uu, uu, uu, uu, uu, uu, uu, uu, uu] [])) tq → Steps p.tables e below (s₁.setTop (mkF m 25 #[iv p1, iv p2, iv p3, iv p4, iv p5, iv 3, iv (p1 &&& (2147483647 : Int32)), uu, uu, uu, uu, uu, uu, uu, uu, uu, uu, uu] [.int 2147483645, .int (p1 &&& (2147483647 : Int32))])) tq := by
      by_cases hc : (2147483645 : Int32) < (p1 &&& (2147483647 : Int32))
      · have G379 : ∀ tq, Steps p.tables e below (s₁.setTop (mkF m 37 #[iv p1, iv p2, iv p3, iv p4, iv p5, iv 3, iv 2147483645, uu, uu, uu, uu, uu, uu, uu, uu, uu, uu, uu] [])) tq → Steps p.tables e below (s₁.setTop (mkF m 25 #[iv p1, iv p2, iv p3, iv p4, iv p5, iv 3, iv (p1 &&& (2147483647 : Int32)), uu, uu, uu, uu, uu, uu, uu, uu, uu, uu, uu] [.int 2147483645, .int (p1 &&& (2147483647 : Int32))])) tq := by
          intro tq kk
          show Steps _ _ _ (s₁.setTop (mkF m 25 #[iv p1, iv p2, iv p3, iv p4, iv p5, iv 3, iv (p1 &&& (2147483647 : Int32)), uu, uu, uu, uu, uu, uu, uu, uu, uu, uu, uu] [.int 2147483645, .int (p1 &&& (2147483647 : Int32))])) _
          refine XS.icmpNo X0.here hx rfl (hb hby at_25) rfl (tlt (hc : (2147483645 : Int32) < (p1 &&& (2147483647 : Int32)))).2.2.2 ?_
          show Steps _ _ _ (s₁.setTop (mkF m 28 _ [])) _
          refine Jvm.Stand.ldcI X0 hx hown (mvT hZ (W 0 rfl)) rfl (hb hby at_28) ?_
          show Steps _ _ _ (s₁.setTop (mkF m 30 _ [.int 2147483647])) _
          refine XS.iload X0.here hx rfl (hb hby at_30) rfl ?_
          show Steps _ _ _ (s₁.setTop (mkF m 32 _ [.int 3, .int 2147483647])) _
          refine XS.iconst X0.here hx rfl (hb hby at_32) ?_
          show Steps _ _ _ (s₁.setTop (mkF m 33 _ [.int 1, .int 3, .int 2147483647])) _
          refine XS.isub X0.here hx rfl (hb hby at_33) rfl ?_
          show Steps _ _ _ (s₁.setTop (mkF m 34 _ [.int 2, .int 2147483647])) _
          refine XS.isub X0.here hx rfl (hb hby at_34) rfl ?_
          show Steps _ _ _ (s₁.setTop (mkF m 35 _ [.int 2147483645])) _
          refine XS.istore X0.here hx rfl (hb hby at_35) rfl (l' := #[iv p1, iv p2, iv p3, iv p4, iv p5, iv 3, iv 2147483645, uu, uu, uu, uu, uu, uu, uu, uu, uu, uu, uu]) rfl ?_
          exact kk
        exact ⟨(2147483645 : Int32), by decide, by decide, fun tgt kk => G379 _ kk⟩
      · have G380 : ∀ tq, Steps p.tables e below (s₁.setTop (mkF m 37 #[iv p1, iv p2, iv p3, iv p4, iv p5, iv 3, iv (p1 &&& (2147483647 : Int32)), uu, uu, uu, uu, uu, uu, uu, uu, uu, uu, uu] [])) tq → Steps p.tables e below (s₁.setTop (mkF m 25 #[iv p1, iv p2, iv p3, iv p4, iv p5, iv 3, iv (p1 &&& (2147483647 : Int32)), uu, uu, uu, uu, uu, uu, uu, uu, uu, uu, uu] [.int 2147483645, .int (p1 &&& (2147483647 : Int32))])) tq := by
          intro tq kk
          show Steps _ _ _ (s₁.setTop (mkF m 25 #[iv p1, iv p2, iv p3, iv p4, iv p5, iv 3, iv (p1 &&& (2147483647 : Int32)), uu, uu, uu, uu, uu, uu, uu, uu, uu, uu, uu] [.int 2147483645, .int (p1 &&& (2147483647 : Int32))])) _
          refine XS.icmpYes X0.here hx rfl (pc0 := 25) (pc' := 37) rfl (hb hby at_25) rfl (flt (hc : ¬ ((2147483645 : Int32) < (p1 &&& (2147483647 : Int32))))).2.2.2 (by decide) (by decide) ?_
          exact kk
        refine ⟨(p1 &&& (2147483647 : Int32)), own_mask p1, ?_, fun tgt kk => G380 _ kk⟩
        rw [Int32.lt_iff_toInt_lt, show (2147483645 : Int32).toInt = 2147483645 from rfl] at hc; omega
    obtain ⟨a1', a2', a3', a4', a5'⟩ := own_ages f9 (3 : Int32) 3 rfl (by decide) (by decide) hf0 hf1
    obtain ⟨T381, h381, k381, X381, e381, E381, A381, ex381, st381⟩ := newPE X0 hx hZ (W 3 rfl) e0 (g := (mkF m 115 #[iv p1, iv p2, iv p3, iv p4, iv p5, iv 3, iv f9, .val (.double q0), .second, .val (.double q1), .second, .val (.double ql), .second, uu, uu, uu, uu, uu] [.int 3])) rfl (hb hby at_115) rfl (by decide : ¬ ((3 : Int32) < (0 : Int32))) (cap := 3) (by decide) (by decide) (by decide) (by decide) (ad := "[D") (by decide)
    obtain ⟨b381, g381⟩ : ∃ z, z = h0.size := ⟨_, rfl⟩
    rw [← g381] at A381 ex381 st381
    have g382 : n0 ≤ b381 := Nat.le_trans Z0 (Nat.le_of_eq g381.symm)
    have Z383 : n0 ≤ h381.size := Nat.le_trans Z0 E381.1
    have V381 : Arv Z h381 b381 k381 .double (3 : Int32) [(.double 0), (.double 0), (.double 0)] (.double 0) := (Arv.new A381 (by decide : ¬ ((3 : Int32) < (0 : Int32)))).pad (pad_rep [] (.double 0) 3)
    obtain ⟨cl384, Ar384, aq384, aS384, aN384, aH384, aG384⟩ := id V381
    obtain ⟨T385, h385, X385, e385, W385, st385⟩ := stD X381 hx hZ e381 Ar384 (j := (0 : Int32)) (inb_of aS384 ⟨(by decide), (by decide)⟩) (g := (mkF m 121 #[iv p1, iv p2, iv p3, iv p4, iv p5, iv 3, iv f9, .val (.double q0), .second, .val (.double q1), .second, .val (.double ql), .second, uu, uu, uu, uu, uu] [.double q0, .int 0, .ref b381, .ref b381])) rfl rfl (hb hby at_121)
    have N385 := Fr.snoc X385 N0 g382
    have V385 : Arv Z h385 b381 k381 .double (3 : Int32) [(.double q0), (.double 0), (.double 0)] (.double 0) := Arv.set Ar384 aq384 aS384 aN384 aH384 aG384 rfl W385 0 rfl (Nat.le_of_ble_eq_true rfl)
    have Z386 : n0 ≤ h385.size := Nat.le_trans Z383 (Keep.of_wr W385).1
    obtain ⟨cl387, Ar387, aq387, aS387, aN387, aH387, aG387⟩ := id V385
    obtain ⟨T388, h388, X388, e388, W388, st388⟩ := stD X385 hx hZ e385 Ar387 (j := (1 : Int32)) (inb_of aS387 ⟨(by decide), (by decide)⟩) (g := (mkF m 126 #[iv p1, iv p2, iv p3, iv p4, iv p5, iv 3, iv f9, .val (.double q0), .second, .val (.double q1), .second, .val (.double ql), .second, uu, uu, uu, uu, uu] [.double q1, .int 1, .ref b381, .ref b381])) rfl rfl (hb hby at_126)
    have N388 := Fr.snoc X388 N385 g382
    have V388 : Arv Z h388 b381 k381 .double (3 : Int32) [(.double q0), (.double q1), (.double 0)] (.double 0) := Arv.set Ar387 aq387 aS387 aN387 aH387 aG387 rfl W388 1 rfl (Nat.le_of_ble_eq_true rfl)
    have Z389 : n0 ≤ h388.size := Nat.le_trans Z386 (Keep.of_wr W388).1
    obtain ⟨cl390, Ar390, aq390, aS390, aN390, aH390, aG390⟩ := id V388
    obtain ⟨T391, h391, X391, e391, W391, st391⟩ := stD X388 hx hZ e388 Ar390 (j := (2 : Int32)) (inb_of aS390 ⟨(by decide), (by decide)⟩) (g := (mkF m 131 #[iv p1, iv p2, iv p3, iv p4, iv p5, iv 3, iv f9, .val (.double q0), .second, .val (.double q1), .second, .val (.double ql), .second, uu, uu, uu, uu, uu] [.double ql, .int 2, .ref b381, .ref b381])) rfl rfl (hb hby at_131)
    have N391 := Fr.snoc X391 N388 g382
    have V391 : Arv Z h391 b381 k381 .double (3 : Int32) [(.double q0), (.double q1), (.double ql)] (.double 0) := Arv.set Ar390 aq390 aS390 aN390 aH390 aG390 rfl W391 2 rfl (Nat.le_of_ble_eq_true rfl)
    have Z392 : n0 ≤ h391.size := Nat.le_trans Z389 (Keep.of_wr W391).1
    have G393 : ∀ tq, Steps p.tables e below (T391.setTop (mkF m 134 #[iv p1, iv p2, iv p3, iv p4, iv p5, iv 3, iv f9, .val (.double q0), .second, .val (.double q1), .second, .val (.double ql), .second, rv b381, uu, uu, uu, uu] [])) tq → Steps p.tables e below (s₁.setTop (mkF m 37 #[iv p1, iv p2, iv p3, iv p4, iv p5, iv 3, iv f9, uu, uu, uu, uu, uu, uu, uu, uu, uu, uu, uu] [])) tq := by
      intro tq kk
      show Steps _ _ _ (s₁.setTop (mkF m 37 #[iv p1, iv p2, iv p3, iv p4, iv p5, iv 3, iv f9, uu, uu, uu, uu, uu, uu, uu, uu, uu, uu, uu] [])) _
      refine XS.iloadN X0.here hx rfl (hb hby at_37) rfl ?_
      show Steps _ _ _ (s₁.setTop (mkF m 38 _ [.int p3])) _
      refine XS.bipush X0.here hx rfl (hb hby at_38) ?_
      show Steps _ _ _ (s₁.setTop (mkF m 40 _ [.int 7, .int p3])) _
      refine XS.iand X0.here hx rfl (hb hby at_40) rfl ?_
      show Steps _ _ _ (s₁.setTop (mkF m 41 _ [.int (p3 &&& (7 : Int32))])) _
      refine XS.i2dS X0.here hx rfl (hb hby at_41) rfl rfl ?_
      show Steps _ _ _ (s₁.setTop (mkF m 42 _ [.double (FP.i2d (p3 &&& (7 : Int32)))])) _
      refine X0.ldc2DoubleC hx hown (mvT hZ (W 1 rfl)) (g := (mkF m 42 #[iv p1, iv p2, iv p3, iv p4, iv p5, iv 3, iv f9, uu, uu, uu, uu, uu, uu, uu, uu, uu, uu, uu] [.double (FP.i2d (p3 &&& (7 : Int32)))])) rfl (hb hby at_42) _ ?_
      show Steps _ _ _ (s₁.setTop (mkF m 45 #[iv p1, iv p2, iv p3, iv p4, iv p5, iv 3, iv f9, uu, uu, uu, uu, uu, uu, uu, uu, uu, uu, uu] [.double 4620693217682128896, .double (FP.i2d (p3 &&& (7 : Int32)))])) _
      refine XS.ddivS X0.here hx rfl (hb hby at_45) rfl nq0 eq0 ?_
      show Steps _ _ _ (s₁.setTop (mkF m 46 _ [.double q0])) _
      refine XS.dstore X0.here hx rfl (hb hby at_46) rfl (l' := #[iv p1, iv p2, iv p3, iv p4, iv p5, iv 3, iv f9, .val (.double q0), .second, uu, uu, uu, uu, uu, uu, uu, uu, uu]) rfl ?_
      show Steps _ _ _ (s₁.setTop (mkF m 48 _ [])) _
      refine XS.iloadN X0.here hx rfl (hb hby at_48) rfl ?_
      show Steps _ _ _ (s₁.setTop (mkF m 49 _ [.int p4])) _
      refine XS.bipush X0.here hx rfl (hb hby at_49) ?_
      show Steps _ _ _ (s₁.setTop (mkF m 51 _ [.int 7, .int p4])) _
      refine XS.iand X0.here hx rfl (hb hby at_51) rfl ?_
      show Steps _ _ _ (s₁.setTop (mkF m 52 _ [.int (p4 &&& (7 : Int32))])) _
      refine XS.i2dS X0.here hx rfl (hb hby at_52) rfl rfl ?_
      show Steps _ _ _ (s₁.setTop (mkF m 53 _ [.double (FP.i2d (p4 &&& (7 : Int32)))])) _
      refine X0.ldc2DoubleC hx hown (mvT hZ (W 1 rfl)) (g := (mkF m 53 #[iv p1, iv p2, iv p3, iv p4, iv p5, iv 3, iv f9, .val (.double q0), .second, uu, uu, uu, uu, uu, uu, uu, uu, uu] [.double (FP.i2d (p4 &&& (7 : Int32)))])) rfl (hb hby at_53) _ ?_
      show Steps _ _ _ (s₁.setTop (mkF m 56 #[iv p1, iv p2, iv p3, iv p4, iv p5, iv 3, iv f9, .val (.double q0), .second, uu, uu, uu, uu, uu, uu, uu, uu, uu] [.double 4620693217682128896, .double (FP.i2d (p4 &&& (7 : Int32)))])) _
      refine XS.ddivS X0.here hx rfl (hb hby at_56) rfl nq1 eq1 ?_
      show Steps _ _ _ (s₁.setTop (mkF m 57 _ [.double q1])) _
      refine XS.dstore X0.here hx rfl (hb hby at_57) rfl (l' := #[iv p1, iv p2, iv p3, iv p4, iv p5, iv 3, iv f9, .val (.double q0), .second, .val (.double q1), .second, uu, uu, uu, uu, uu, uu, uu]) rfl ?_
      show Steps _ _ _ (s₁.setTop (mkF m 59 _ [])) _
      refine XS.iload X0.here hx rfl (hb hby at_59) rfl ?_
      show Steps _ _ _ (s₁.setTop (mkF m 61 _ [.int p5])) _
      refine XS.bipush X0.here hx rfl (hb hby at_61) ?_
      show Steps _ _ _ (s₁.setTop (mkF m 63 _ [.int 7, .int p5])) _
      refine XS.iand X0.here hx rfl (hb hby at_63) rfl ?_
      show Steps _ _ _ (s₁.setTop (mkF m 64 _ [.int (p5 &&& (7 : Int32))])) _
      refine XS.i2dS X0.here hx rfl (hb hby at_64) rfl rfl ?_
      show Steps _ _ _ (s₁.setTop (mkF m 65 _ [.double (FP.i2d (p5 &&& (7 : Int32)))])) _
      refine X0.ldc2DoubleC hx hown (mvT hZ (W 2 rfl)) (g := (mkF m 65 #[iv p1, iv p2, iv p3, iv p4, iv p5, iv 3, iv f9, .val (.double q0), .second, .val (.double q1), .second, uu, uu, uu, uu, uu, uu, uu] [.double (FP.i2d (p5 &&& (7 : Int32)))])) rfl (hb hby at_65) _ ?_
      show Steps _ _ _ (s₁.setTop (mkF m 68 #[iv p1, iv p2, iv p3, iv p4, iv p5, iv 3, iv f9, .val (.double q0), .second, .val (.double q1), .second, uu, uu, uu, uu, uu, uu, uu] [.double 4619567317775286272, .double (FP.i2d (p5 &&& (7 : Int32)))])) _
      refine XS.ddivS X0.here hx rfl (hb hby at_68) rfl nql eql ?_
      show Steps _ _ _ (s₁.setTop (mkF m 69 _ [.double ql])) _
      refine XS.dstore X0.here hx rfl (hb hby at_69) rfl (l' := #[iv p1, iv p2, iv p3, iv p4, iv p5, iv 3, iv f9, .val (.double q0), .second, .val (.double q1), .second, .val (.double ql), .second, uu, uu, uu, uu, uu]) rfl ?_
      show Steps _ _ _ (s₁.setTop (mkF m 71 _ [])) _
      refine XS.iload X0.here hx rfl (hb hby at_71) rfl ?_
      show Steps _ _ _ (s₁.setTop (mkF m 73 _ [.int 3])) _
      refine XS.iconst X0.here hx rfl (hb hby at_73) ?_
      show Steps _ _ _ (s₁.setTop (mkF m 74 _ [.int 1, .int 3])) _
      refine XS.icmpYes X0.here hx rfl (pc0 := 74) (pc' := 90) rfl (hb hby at_74) rfl (feq ((by decide) : ¬ ((3 : Int32) = (1 : Int32)))).2 (by decide) (by decide) ?_
      show Steps _ _ _ (s₁.setTop (mkF m 90 _ [])) _
      refine XS.iload X0.here hx rfl (hb hby at_90) rfl ?_
      show Steps _ _ _ (s₁.setTop (mkF m 92 _ [.int 3])) _
      refine XS.iconst X0.here hx rfl (hb hby at_92) ?_
      show Steps _ _ _ (s₁.setTop (mkF m 93 _ [.int 2, .int 3])) _
      refine XS.icmpYes X0.here hx rfl (pc0 := 93) (pc' := 114) rfl (hb hby at_93) rfl (feq ((by decide) : ¬ ((3 : Int32) = (2 : Int32)))).2 (by decide) (by decide) ?_
      show Steps _ _ _ (s₁.setTop (mkF m 114 #[iv p1, iv p2, iv p3, iv p4, iv p5, iv 3, iv f9, .val (.double q0), .second, .val (.double q1), .second, .val (.double ql), .second, uu, uu, uu, uu, uu] [])) _
      refine XS.iconst X0.here hx rfl (hb hby at_114) ?_
      show Steps _ _ _ (s₁.setTop (mkF m 115 _ [.int 3])) _
      refine st381 _ ?_
      show Steps _ _ _ (T381.setTop (mkF m 117 #[iv p1, iv p2, iv p3, iv p4, iv p5, iv 3, iv f9, .val (.double q0), .second, .val (.double q1), .second, .val (.double ql), .second, uu, uu, uu, uu, uu] [.ref b381])) _
      refine XS.dup X381.here hx rfl (hb hby at_117) rfl rfl ?_
      show Steps _ _ _ (T381.setTop (mkF m 118 _ [.ref b381, .ref b381])) _
      refine XS.iconst X381.here hx rfl (hb hby at_118) ?_
      show Steps _ _ _ (T381.setTop (mkF m 119 _ [.int 0, .ref b381, .ref b381])) _
      refine XS.dload X381.here hx rfl (hb hby at_119) rfl ?_
      show Steps _ _ _ (T381.setTop (mkF m 121 _ [.double q0, .int 0, .ref b381, .ref b381])) _
      refine st385 _ ?_
      show Steps _ _ _ (T385.setTop (mkF m 122 #[iv p1, iv p2, iv p3, iv p4, iv p5, iv 3, iv f9, .val (.double q0), .second, .val (.double q1), .second, .val (.double ql), .second, uu, uu, uu, uu, uu] [.ref b381])) _
      refine XS.dup X385.here hx rfl (hb hby at_122) rfl rfl ?_
      show Steps _ _ _ (T385.setTop (mkF m 123 _ [.ref b381, .ref b381])) _
      refine XS.iconst X385.here hx rfl (hb hby at_123) ?_
      show Steps _ _ _ (T385.setTop (mkF m 124 _ [.int 1, .ref b381, .ref b381])) _
      refine XS.dload X385.here hx rfl (hb hby at_124) rfl ?_
      show Steps _ _ _ (T385.setTop (mkF m 126 _ [.double q1, .int 1, .ref b381, .ref b381])) _
      refine st388 _ ?_
      show Steps _ _ _ (T388.setTop (mkF m 127 #[iv p1, iv p2, iv p3, iv p4, iv p5, iv 3, iv f9, .val (.double q0), .second, .val (.double q1), .second, .val (.double ql), .second, uu, uu, uu, uu, uu] [.ref b381])) _
      refine XS.dup X388.here hx rfl (hb hby at_127) rfl rfl ?_
      show Steps _ _ _ (T388.setTop (mkF m 128 _ [.ref b381, .ref b381])) _
      refine XS.iconst X388.here hx rfl (hb hby at_128) ?_
      show Steps _ _ _ (T388.setTop (mkF m 129 _ [.int 2, .ref b381, .ref b381])) _
      refine XS.dload X388.here hx rfl (hb hby at_129) rfl ?_
      show Steps _ _ _ (T388.setTop (mkF m 131 _ [.double ql, .int 2, .ref b381, .ref b381])) _
      refine st391 _ ?_
      show Steps _ _ _ (T391.setTop (mkF m 132 #[iv p1, iv p2, iv p3, iv p4, iv p5, iv 3, iv f9, .val (.double q0), .second, .val (.double q1), .second, .val (.double ql), .second, uu, uu, uu, uu, uu] [.ref b381])) _
      refine XS.astore X391.here hx rfl (hb hby at_132) rfl rfl (l' := #[iv p1, iv p2, iv p3, iv p4, iv p5, iv 3, iv f9, .val (.double q0), .second, .val (.double q1), .second, .val (.double ql), .second, rv b381, uu, uu, uu, uu]) rfl ?_
      exact kk
    obtain ⟨T394, h394, X394, e394, E394, A394, D394, -, st394⟩ := newO X391 hx hZ hown (W 4 rfl) (W 5 rfl) (W 6 rfl) e391 (g := (mkF m 134 #[iv p1, iv p2, iv p3, iv p4, iv p5, iv 3, iv f9, .val (.double q0), .second, .val (.double q1), .second, .val (.double ql), .second, rv b381, uu, uu, uu, uu] [])) rfl (hb hby at_134) (by decide) (by decide)
    obtain ⟨b394, g394⟩ : ∃ z, z = h391.size := ⟨_, rfl⟩
    rw [← g394] at A394 D394 st394
    have g395 : n0 ≤ b394 := Nat.le_trans Z392 (Nat.le_of_eq g394.symm)
    have Z396 : n0 ≤ h394.size := Nat.le_trans Z392 E394.1
    have F397 : Fld Z h394 b394 "com/example/pensionwright/pensionwright/actuarial/MortalityTable" "firstAge" "I" (.int (0 : Int32)) := D394 (Or.inr (W 15 rfl)) (ty := .int) (by decide)
    have F398 : Fld Z h394 b394 "com/example/pensionwright/pensionwright/actuarial/MortalityTable" "rates" "[D" .null := D394 (Or.inr (W 30 rfl)) (ty := (.array .double)) (by decide)
    have F399 : Fld Z h394 b394 "com/example/pensionwright/pensionwright/actuarial/MortalityTable" "monthlySurvival" "[[D" .null := D394 (Or.inr (W 34 rfl)) (ty := (.array (.array .double))) (by decide)
    have f400 := (V391.ext E394)
    have f401 := ((((ex381.wr W385).wr W388).wr W391).ext E394)
    have f402 := (Nat.lt_of_lt_of_le (Nat.lt_of_lt_of_le (Nat.lt_of_lt_of_le V381.lt (Keep.of_wr W385).1) (Keep.of_wr W388).1) (Keep.of_wr W391).1)
    obtain ⟨_, _, ⟨T403, L403, k403, n403⟩, -, X403, ⟨Lc403, hQ403, l403, y403, z403⟩, st403⟩ := X394.specialBack hx (y := (⟨"com/example/pensionwright/pensionwright/actuarial/MortalityTable", "<init>", "(I[D)V"⟩ : MethodName)) rfl hown (mvT hZ (W 7 rfl)) (mvT hZ (W 8 rfl)) (mvT hZ (W 9 rfl)) (by decide) (backOf (W := 1) (rm_mi3 l Z a0 hw [] b394 b381 f9 k381 q0 q1 ql h394 n0 Z396 A394 g395 F397 F398 F399 f400 f401 (Nat.ne_of_lt (Nat.lt_of_lt_of_le f402 (Nat.le_of_eq g394.symm))) a1' a2' ok0 ok1 okl ne0 ne1) hZ (W 9 rfl) (W 6 rfl) (by decide) (by decide)) (g := (mkF m 142 #[iv p1, iv p2, iv p3, iv p4, iv p5, iv 3, iv f9, .val (.double q0), .second, .val (.double q1), .second, .val (.double ql), .second, rv b381, uu, uu, uu, uu] [.ref b381, .int f9, .ref b394, .ref b394])) rfl (by rw [hml]; rfl) (Steps.refl _) (a := b394) (argsL := [.int f9, .ref b381]) (rest := [.ref b394]) (lenOf own_pd_0 rfl) rfl own_wt (hb hby at_142) (fun _ _ => ⟨rfl, e394, (by decide : 2 + 5 ≤ _), (by decide : 6 + 114 ≤ _)⟩)
    dsimp only [Pt.U, Pt.locs, Pt.cells, Pt.slots] at X403 l403 y403 z403 st403 hQ403
    subst l403 y403 z403
    obtain ⟨rfl, Nq403, K403, gE403, gF403, rr403, gR403, gV403⟩ := hQ403
    have N403 := Fr.app N391 Nq403
    have Z404 : n0 ≤ T403.heap.size := Nat.le_trans Z396 K403.1
    have G405 : ∀ tq, Steps p.tables e below (T403.setTop (mkF m 145 #[iv p1, iv p2, iv p3, iv p4, iv p5, iv 3, iv f9, .val (.double q0), .second, .val (.double q1), .second, .val (.double ql), .second, rv b381, uu, uu, uu, uu] [.ref b394])) tq → Steps p.tables e below (T391.setTop (mkF m 134 #[iv p1, iv p2, iv p3, iv p4, iv p5, iv 3, iv f9, .val (.double q0), .second, .val (.double q1), .second, .val (.double ql), .second, rv b381, uu, uu, uu, uu] [])) tq := by
      intro tq kk
      show Steps _ _ _ (T391.setTop (mkF m 134 #[iv p1, iv p2, iv p3, iv p4, iv p5, iv 3, iv f9, .val (.double q0), .second, .val (.double q1), .second, .val (.double ql), .second, rv b381, uu, uu, uu, uu] [])) _
      refine st394 _ ?_
      show Steps _ _ _ (T394.setTop (mkF m 137 #[iv p1, iv p2, iv p3, iv p4, iv p5, iv 3, iv f9, .val (.double q0), .second, .val (.double q1), .second, .val (.double ql), .second, rv b381, uu, uu, uu, uu] [.ref b394])) _
      refine XS.dup X394.here hx rfl (hb hby at_137) rfl rfl ?_
      show Steps _ _ _ (T394.setTop (mkF m 138 _ [.ref b394, .ref b394])) _
      refine XS.iload X394.here hx rfl (hb hby at_138) rfl ?_
      show Steps _ _ _ (T394.setTop (mkF m 140 _ [.int f9, .ref b394, .ref b394])) _
      refine XS.aload X394.here hx rfl (hb hby at_140) rfl rfl ?_
      show Steps _ _ _ (T394.setTop (mkF m 142 _ [.ref b381, .int f9, .ref b394, .ref b394])) _
      refine st403.trans ?_
      exact kk
    obtain ⟨cq406, kq406, q406a, q406b, q406c⟩ := isOf hZ rfl gE403
    obtain ⟨_, _, ⟨T406, L406, k406, n406⟩, -, X406, ⟨Lc406, hQ406, l406, y406, z406⟩, st406⟩ := X403.virtualBack hx (y := (⟨"com/example/pensionwright/pensionwright/actuarial/MortalityTable", "lastAge", "()I"⟩ : MethodName)) (z := (⟨"com/example/pensionwright/pensionwright/actuarial/MortalityTable", "lastAge", "()I"⟩ : MethodName)) hown (mvT hZ (W 40 rfl)) (mvT hZ (W 41 rfl)) (notFace_of_selects (args := #[]) (mvT hZ (W 43 rfl))) (mvT hZ (W 43 rfl)) (mvT hZ (W 42 rfl)) (by decide) (backOf (W := 0) (rm_la3 l Z a0 hw [] b394 rr403 f9 k381 [(.double q0), (.double q1), (.double ql)] T403.heap n0 Z404 gF403 gR403 gV403) hZ (W 44 rfl) (W 6 rfl) (by decide) (by decide)) q406a q406c (g := (mkF m 149 #[iv p1, iv p2, iv p3, iv p4, iv p5, iv 3, iv f9, .val (.double q0), .second, .val (.double q1), .second, .val (.double ql), .second, rv b381, rv b394, uu, uu, uu] [.ref b394])) rfl (by rw [hml]; rfl) (Steps.refl _) (argsL := []) (rest := []) (lenOf own_pd_5 rfl) rfl own_wt (hb hby at_149) (fun _ _ => ⟨rfl, rfl, (by decide : 7 + 0 ≤ _), (by decide : 120 + 0 ≤ _)⟩)
    dsimp only [Pt.U, Pt.locs, Pt.cells, Pt.slots] at X406 l406 y406 z406 st406 hQ406
    subst l406 y406 z406
    obtain ⟨rfl, Nq406, e406⟩ := hQ406
    have N406 := Fr.app N403 Nq406
    have G407 : ∀ tq, Steps p.tables e below (T406.setTop (mkF m 171 #[iv p1, iv p2, iv p3, iv p4, iv p5, iv 3, iv f9, .val (.double q0), .second, .val (.double q1), .second, .val (.double ql), .second, rv b381, rv b394, iv ((f9 + (3 : Int32)) - (1 : Int32)), .val (.long (((f9.toInt64) + ((3 : Int32).toInt64)) - (1 : Int64))), .second] [.int (own_cmpL (((f9 + (3 : Int32)) - (1 : Int32)).toInt64) (((f9.toInt64) + ((3 : Int32).toInt64)) - (1 : Int64)))])) tq → Steps p.tables e below (T403.setTop (mkF m 145 #[iv p1, iv p2, iv p3, iv p4, iv p5, iv 3, iv f9, .val (.double q0), .second, .val (.double q1), .second, .val (.double ql), .second, rv b381, uu, uu, uu, uu] [.ref b394])) tq := by
      intro tq kk
      show Steps _ _ _ (T403.setTop (mkF m 145 #[iv p1, iv p2, iv p3, iv p4, iv p5, iv 3, iv f9, .val (.double q0), .second, .val (.double q1), .second, .val (.double ql), .second, rv b381, uu, uu, uu, uu] [.ref b394])) _
      refine XS.astore X403.here hx rfl (hb hby at_145) rfl rfl (l' := #[iv p1, iv p2, iv p3, iv p4, iv p5, iv 3, iv f9, .val (.double q0), .second, .val (.double q1), .second, .val (.double ql), .second, rv b381, rv b394, uu, uu, uu]) rfl ?_
      show Steps _ _ _ (T403.setTop (mkF m 147 _ [])) _
      refine XS.aload X403.here hx rfl (hb hby at_147) rfl rfl ?_
      show Steps _ _ _ (T403.setTop (mkF m 149 _ [.ref b394])) _
      refine st406.trans ?_
      show Steps _ _ _ (T406.setTop (mkF m 152 #[iv p1, iv p2, iv p3, iv p4, iv p5, iv 3, iv f9, .val (.double q0), .second, .val (.double q1), .second, .val (.double ql), .second, rv b381, rv b394, uu, uu, uu] [.int ((f9 + (3 : Int32)) - (1 : Int32))])) _
      refine XS.istore X406.here hx rfl (hb hby at_152) rfl (l' := #[iv p1, iv p2, iv p3, iv p4, iv p5, iv 3, iv f9, .val (.double q0), .second, .val (.double q1), .second, .val (.double ql), .second, rv b381, rv b394, iv ((f9 + (3 : Int32)) - (1 : Int32)), uu, uu]) rfl ?_
      show Steps _ _ _ (T406.setTop (mkF m 154 _ [])) _
      refine XS.iload X406.here hx rfl (hb hby at_154) rfl ?_
      show Steps _ _ _ (T406.setTop (mkF m 156 _ [.int f9])) _
      refine XS.i2l X406.here hx rfl (hb hby at_156) rfl ?_
      show Steps _ _ _ (T406.setTop (mkF m 157 _ [.long (f9.toInt64)])) _
      refine XS.iload X406.here hx rfl (hb hby at_157) rfl ?_
      show Steps _ _ _ (T406.setTop (mkF m 159 _ [.int 3, .long (f9.toInt64)])) _
      refine XS.i2l X406.here hx rfl (hb hby at_159) rfl ?_
      show Steps _ _ _ (T406.setTop (mkF m 160 _ [.long ((3 : Int32).toInt64), .long (f9.toInt64)])) _
      refine XS.ladd X406.here hx rfl (hb hby at_160) rfl ?_
      show Steps _ _ _ (T406.setTop (mkF m 161 _ [.long ((f9.toInt64) + ((3 : Int32).toInt64))])) _
      refine XS.lconst X406.here hx rfl (hb hby at_161) ?_
      show Steps _ _ _ (T406.setTop (mkF m 162 _ [.long 1, .long ((f9.toInt64) + ((3 : Int32).toInt64))])) _
      refine XS.lsub X406.here hx rfl (hb hby at_162) rfl ?_
      show Steps _ _ _ (T406.setTop (mkF m 163 #[iv p1, iv p2, iv p3, iv p4, iv p5, iv 3, iv f9, .val (.double q0), .second, .val (.double q1), .second, .val (.double ql), .second, rv b381, rv b394, iv ((f9 + (3 : Int32)) - (1 : Int32)), uu, uu] [.long (((f9.toInt64) + ((3 : Int32).toInt64)) - (1 : Int64))])) _
      refine XS.lstore X406.here hx rfl (hb hby at_163) rfl (l' := #[iv p1, iv p2, iv p3, iv p4, iv p5, iv 3, iv f9, .val (.double q0), .second, .val (.double q1), .second, .val (.double ql), .second, rv b381, rv b394, iv ((f9 + (3 : Int32)) - (1 : Int32)), .val (.long (((f9.toInt64) + ((3 : Int32).toInt64)) - (1 : Int64))), .second]) rfl ?_
      show Steps _ _ _ (T406.setTop (mkF m 165 _ [])) _
      refine XS.iload X406.here hx rfl (hb hby at_165) rfl ?_
      show Steps _ _ _ (T406.setTop (mkF m 167 _ [.int ((f9 + (3 : Int32)) - (1 : Int32))])) _
      refine XS.i2l X406.here hx rfl (hb hby at_167) rfl ?_
      show Steps _ _ _ (T406.setTop (mkF m 168 _ [.long (((f9 + (3 : Int32)) - (1 : Int32)).toInt64)])) _
      refine XS.lload X406.here hx rfl (hb hby at_168) rfl ?_
      show Steps _ _ _ (T406.setTop (mkF m 170 _ [.long (((f9.toInt64) + ((3 : Int32).toInt64)) - (1 : Int64)), .long (((f9 + (3 : Int32)) - (1 : Int32)).toInt64)])) _
      refine XS.lcmp X406.here hx rfl (hb hby at_170) rfl ?_
      exact kk
    obtain ⟨cq408, kq408, q408a, q408b, q408c⟩ := isOf hZ e406 gE403
    obtain ⟨_, _, ⟨T408, L408, k408, n408⟩, -, X408, ⟨Lc408, hQ408, l408, y408, z408⟩, st408⟩ := X406.virtualBack hx (y := (⟨"com/example/pensionwright/pensionwright/actuarial/MortalityTable", "qx", "(I)D"⟩ : MethodName)) (z := (⟨"com/example/pensionwright/pensionwright/actuarial/MortalityTable", "qx", "(I)D"⟩ : MethodName)) hown (mvT hZ (W 45 rfl)) (mvT hZ (W 46 rfl)) (notFace_of_selects (args := #[]) (mvT hZ (W 48 rfl))) (mvT hZ (W 48 rfl)) (mvT hZ (W 47 rfl)) (by decide) (backOf (W := 0) (rm_qx3 l Z a0 hw [] b394 rr403 f9 k381 q0 q1 ql T403.heap n0 Z404 gE403 gF403 gR403 gV403 a3' a4') hZ (W 49 rfl) (W 6 rfl) (by decide) (by decide)) q408a q408c (g := (mkF m 178 #[iv p1, iv p2, iv p3, iv p4, iv p5, iv 3, iv f9, .val (.double q0), .second, .val (.double q1), .second, .val (.double ql), .second, rv b381, rv b394, iv ((f9 + (3 : Int32)) - (1 : Int32)), .val (.long (((f9.toInt64) + ((3 : Int32).toInt64)) - (1 : Int64))), .second] [.int ((f9 + (3 : Int32)) - (1 : Int32)), .ref b394])) rfl (by rw [hml]; rfl) (Steps.refl _) (argsL := [.int ((f9 + (3 : Int32)) - (1 : Int32))]) (rest := []) (lenOf own_pd_6 rfl) rfl own_wt (hb hby at_178) (fun _ _ => ⟨rfl, e406, (by decide : 7 + 0 ≤ _), (by decide : 120 + 0 ≤ _)⟩)
    dsimp only [Pt.U, Pt.locs, Pt.cells, Pt.slots] at X408 l408 y408 z408 st408 hQ408
    subst l408 y408 z408
    obtain ⟨rfl, Nq408, e408⟩ := hQ408
    have N408 := Fr.app N406 Nq408
    obtain ⟨fs, hr, hrun, hended, hW, hsame⟩ := X408.leave (v := some (.int (1 : Int32))) (fun h => by rw [Bd.returns] at h; cases h)
    refine ⟨_, _, pre0 _ (Gn _ (G378 _ (GF _ (G393 _ (G405 _ (G407 _ (?_))))))), hrun, hended, _, _, rfl, ?_, ⟨_, rfl⟩, hW, hsame.mono (by decide) (by decide)⟩
    · show Steps _ _ _ (T406.setTop (mkF m 171 #[iv p1, iv p2, iv p3, iv p4, iv p5, iv 3, iv f9, .val (.double q0), .second, .val (.double q1), .second, .val (.double ql), .second, rv b381, rv b394, iv ((f9 + (3 : Int32)) - (1 : Int32)), .val (.long (((f9.toInt64) + ((3 : Int32).toInt64)) - (1 : Int64))), .second] [.int (own_cmpL (((f9 + (3 : Int32)) - (1 : Int32)).toInt64) (((f9.toInt64) + ((3 : Int32).toInt64)) - (1 : Int64)))])) _
      refine XS.ifNo X406.here hx rfl (hb hby at_171) rfl ((if0 _ _).trans (teq (own_cmp0 _ _ a5' : (own_cmpL (((f9 + (3 : Int32)) - (1 : Int32)).toInt64) (((f9.toInt64) + ((3 : Int32).toInt64)) - (1 : Int64))) = (0 : Int32))).2) ?_
      show Steps _ _ _ (T406.setTop (mkF m 174 _ [])) _
      refine XS.aload X406.here hx rfl (hb hby at_174) rfl rfl ?_
      show Steps _ _ _ (T406.setTop (mkF m 176 _ [.ref b394])) _
      refine XS.iload X406.here hx rfl (hb hby at_176) rfl ?_
      show Steps _ _ _ (T406.setTop (mkF m 178 _ [.int ((f9 + (3 : Int32)) - (1 : Int32)), .ref b394])) _
      refine st408.trans ?_
      show Steps _ _ _ (T408.setTop (mkF m 181 #[iv p1, iv p2, iv p3, iv p4, iv p5, iv 3, iv f9, .val (.double q0), .second, .val (.double q1), .second, .val (.double ql), .second, rv b381, rv b394, iv ((f9 + (3 : Int32)) - (1 : Int32)), .val (.long (((f9.toInt64) + ((3 : Int32).toInt64)) - (1 : Int64))), .second] [.double ql])) _
      refine XS.dload X408.here hx rfl (hb hby at_181) rfl ?_
      show Steps _ _ _ (T408.setTop (mkF m 183 _ [.double ql, .double ql])) _
      refine XS.dcmpS X408.here hx rfl (hb hby at_183) rfl rfl ?_
      show Steps _ _ _ (T408.setTop (mkF m 184 _ [.int (cmpValue (FP.dcmp ql ql) .l)])) _
      refine XS.ifNo X408.here hx rfl (hb hby at_184) rfl ((if0 _ _).trans (teq (okl.2.2.1 : (cmpValue (FP.dcmp ql ql) .l) = (0 : Int32))).2) ?_
      show Steps _ _ _ (T408.setTop (mkF m 187 _ [])) _
      refine XS.iconst X408.here hx rfl (hb hby at_187) ?_
      show Steps _ _ _ (T408.setTop (mkF m 188 _ [.int 1])) _
      refine XS.goto X408.here hx rfl (pc0 := 188) (pc' := 192) rfl (hb hby at_188) (by decide) (by decide) ?_
      show Steps _ _ _ (T408.setTop (mkF m 192 _ [.int 1])) _
      exact retN X408 hx (t := .boolean) Bd.returns (by simp) (hb hby at_192) hr
    · show Q_law Z p1 p2 p3 p4 p5 h0 n0 _ T408.heap _
      rw [e408]
      exact ⟨rfl, N408⟩
set_option maxRecDepth 65536 in
set_option maxHeartbeats 40000000 in
theorem comes_1 {Post : Tables → Env → Array Value → State → Outcome → State → Prop} (hpost : ∀ tb e args s v u, (limb_1_1.after args s (.returned v) u = true ∧ limb_1_2.after args s (.returned v) u = true ∧ True) → FrameEnd s (.returned v) u (Jvm.fieldLocs frame_1_writes args s ++ Jvm.arrayLocs frame_1_arrays args s ++ Jvm.staticLocs frame_1_statics s) 24 256 → Post tb e args s (.returned v) u) :
    ArmFor flags0 classFile x code maxLocals ret World_1 tables_1 room_1 Calls_1 rest_1 Pre_1 Post := by
  intro l hfl _ _ p e ha hc hk s m args below hf hA hF happ hP
  obtain ⟨hcalls, hrest, hpre⟩ := hP
  obtain ⟨-, -, -, hnamed, -, -, -, hat⟩ := (Spec.applies_iff hf).mp happ
  obtain ⟨hg, hn⟩ := and_e (Cond.before_iff.mp (show (Jvm.Cond.and given_1 narrow_1).before args s = true from hpre))
  obtain ⟨hcount, hg0⟩ := and_e hg
  obtain ⟨hi0, hg1⟩ := and_e hg0
  obtain ⟨hi1, hg2⟩ := and_e hg1
  obtain ⟨hi2, hg3⟩ := and_e hg2
  obtain ⟨hi3, hg4⟩ := and_e hg3
  have hi4 := hg4
  obtain ⟨w0, w1, w2, w3, w4, rfl⟩ : ∃ w0 w1 w2 w3 w4 : Value, args = #[w0, w1, w2, w3, w4] := by
    have hs : args.size = 5 := by simpa [Cond.value, given_1] using hcount
    obtain ⟨L⟩ := args
    match L, hs with
    | [w0, w1, w2, w3, w4], _ => exact ⟨w0, w1, w2, w3, w4, rfl⟩
  have hw := fun d (hd : d ∈ tables_1) => atoms_spec (ws := Jvm.Cond.code x code maxLocals ret :: tables_1) hat d (List.mem_cons_of_mem _ hd)
  obtain ⟨i0, ei0⟩ := is_v hi0
  obtain rfl : w0 = (.int i0) := Option.some.inj ei0
  obtain ⟨i1, ei1⟩ := is_v hi1
  obtain rfl : w1 = (.int i1) := Option.some.inj ei1
  obtain ⟨i2, ei2⟩ := is_v hi2
  obtain rfl : w2 = (.int i2) := Option.some.inj ei2
  obtain ⟨i3, ei3⟩ := is_v hi3
  obtain rfl : w3 = (.int i3) := Option.some.inj ei3
  obtain ⟨i4, ei4⟩ := is_v hi4
  obtain rfl : w4 = (.int i4) := Option.some.inj ei4
  obtain ⟨n, o, h1, h2, h3, _, L, rfl, ⟨rfl, N⟩, hq⟩ := rm_law l s _ hw tables_1 i0 i1 i2 i3 i4 s.heap s.heap.size (Nat.le_refl _)  p e ha hc hk s m _ below hf ((Spec.applies_iff_loose hf).mp happ).1 ⟨rfl, State.Warmed39.refl s, rfl⟩ trivial
  refine ⟨n, _, h1, h2, h3, hpost _ _ _ _ _ _ ⟨Cond.after_iff.mpr rfl, Cond.after_iff.mpr (eq_i res_at (Term.int_eval (1)) rfl), trivial⟩ ⟨hq.1, hq.2.1, (hq.2.2.sift fun y hy => Or.inr (N y hy)).mono (by decide) (by decide)⟩⟩
theorem main_1_1 : Claimed_1_1 := comes_1 fun _ _ _ _ _ _ h hF => ⟨h.1, hF⟩
theorem main_1_2 : Claimed_1_2 := comes_1 fun _ _ _ _ _ _ h hF => ⟨h.2.1, hF⟩
end Jvm.Pilot.@@N@@
namespace Jvm.Pilot.@@N@@
open Jvm Jvm.ClassFile Sem Op Lib Jvm.Free Jvm.Stand Jvm.Pilot.@@N@@.Jvm.D
/-! MADE BY PROGRAM (witnessworld.py) out of the Statement's table words and the real class files: 10 classes; the members and pool entries that the words name. The judged class is class 1, her method 1. -/
namespace start1
open Jvm.ClassFile
def u (s : String) : CpInfo := .utf8 (stringToUtf16 s)
/-- a pool by its gaps: so many unusable entries, then the entry; so many at the end -/
def gap : Nat → List CpInfo → List CpInfo
  | 0, r => r
  | n + 1, r => .unusable :: gap n r
def poolList (es : List (Nat × CpInfo)) (last : Nat) : List CpInfo := es.foldr (fun e r => gap e.1 (e.2 :: r)) (gap last [])
def pool (es : List (Nat × CpInfo)) (last : Nat) : Array CpInfo := ⟨poolList es last⟩
def fileOf (pool : Array CpInfo) (this : Nat) (attrs : Array Attribute := #[]) (ms : Array MethodInfo := #[]) (fl : Nat := 33) (sup : Nat := 0) (ifs : Array Nat := #[]) (fds : Array FieldInfo := #[]) : ClassFile where
  minorVersion := 0
  majorVersion := 65
  constantPool := pool
  accessFlags := fl
  thisClass := this
  superClass := sup
  interfaces := ifs
  fields := fds
  methods := ms
  attributes := attrs
def plain (name : String) (sup : Option ClassId) : Class where
  name := name
  kind := .ordinary
  loader := none
  accessFlags := 33
  super := sup
  interfaces := #[]
  cf := none
  fields := #[]
  methods := #[]
  instanceTypes := #[]
  staticTypes := #[]
  resolved := #[]
  callSites := []
  init := .initialized
  statics := none
  mirror := none

def pool0 : Array CpInfo := pool [(5, u "<init>"), (0, u "()V"), (1, .class_ 10), (1, u "java/lang/Object"), (85, u "clone"), (0, u "()Ljava/lang/Object;")] 26

def k0c0 : Code := { maxStack := 0, maxLocals := 1, code := object_method_1_code, exceptionTable := #[], attributes := #[] }
def k0m0 : Method := { name := "<init>", desc := "()V", sig := { parameters := [], returnType := none }, accessFlags := 1, code := some k0c0 }
def k0m1 : Method := { name := "clone", desc := "()Ljava/lang/Object;", sig := { parameters := [], returnType := some (.object "java/lang/Object") }, accessFlags := 260, code := none }
/-- java/lang/Object -/
def k0 : Class := { plain "java/lang/Object" none with
  accessFlags := 33
  interfaces := #[]
  cf := some (fileOf pool0 8 #[] #[{ accessFlags := 1, nameIndex := 5, descriptorIndex := 6, attributes := #[] }, { accessFlags := 260, nameIndex := 96, descriptorIndex := 97, attributes := #[] }] 33 0 #[] #[])
  fields := #[]
  methods := #[k0m0, k0m1]
  instanceTypes := #[]
  staticTypes := #[]
  resolved := Array.replicate 124 none
  statics := none }

def pool1 : Array CpInfo := pool [(2, .class_ 4), (1, u "java/lang/Object"), (0, u "<init>"), (0, u "()V"), (0, .integer 2147483647), (2, .double 4620693217682128896), (1, .double 4619567317775286272), (1, .class_ 15), (0, u "com/example/pensionwright/pensionwright/actuarial/MortalityTable"), (0, .methodref 14 17), (0, .nameAndType 5 18), (0, u "(I[D)V"), (0, .methodref 14 20), (0, .nameAndType 21 22), (0, u "lastAge"), (0, u "()I"), (0, .methodref 14 24), (0, .nameAndType 25 26), (0, u "qx"), (0, u "(I)D"), (0, .class_ 28), (0, u "com/example/pensionwright/pensionwright/actuarial/MortalityTableLastAgePinLaw"), (2, u "law"), (0, u "(IIIII)Z")] 5

def k1m0 : Method := { name := "<init>", desc := "()V", sig := { parameters := [], returnType := none }, accessFlags := 1, code := none }
def k1c1 : Code := { maxStack := 5, maxLocals := 18, code := code, exceptionTable := #[], attributes := #[] }
def k1m1 : Method := { name := "law", desc := "(IIIII)Z", sig := { parameters := [.int, .int, .int, .int, .int], returnType := some .boolean }, accessFlags := 9, code := some k1c1 }
/-- com/example/pensionwright/pensionwright/actuarial/MortalityTableLastAgePinLaw -/
def k1 : Class := { plain "com/example/pensionwright/pensionwright/actuarial/MortalityTableLastAgePinLaw" (some 0) with
  accessFlags := 49
  interfaces := #[]
  cf := some (fileOf pool1 27 #[] #[{ accessFlags := 1, nameIndex := 5, descriptorIndex := 6, attributes := #[] }, { accessFlags := 9, nameIndex := 31, descriptorIndex := 32, attributes := #[] }] 49 2 #[] #[])
  fields := #[]
  methods := #[k1m0, k1m1]
  instanceTypes := #[]
  staticTypes := #[]
  resolved := Array.replicate 38 none
  statics := none }

def pool2 : Array CpInfo := pool [(1, .methodref 2 3), (0, .class_ 4), (0, .nameAndType 5 6), (0, u "java/lang/Object"), (0, u "<init>"), (0, u "()V"), (11, .class_ 19), (0, u "com/example/pensionwright/pensionwright/actuarial/MortalityTable"), (3, .long 2147483647), (10, .fieldref 18 35), (0, .nameAndType 36 37), (0, u "firstAge"), (0, u "I"), (0, .methodref 39 40), (0, .class_ 41), (0, .nameAndType 42 43), (0, u "java/util/Arrays"), (0, u "copyOf"), (0, u "([DI)[D"), (0, .fieldref 18 45), (0, .nameAndType 46 47), (0, u "rates"), (0, u "[D"), (0, .class_ 47), (0, .fieldref 18 50), (0, .nameAndType 51 52), (0, u "monthlySurvival"), (0, u "[[D"), (0, .methodref 18 54), (0, .nameAndType 55 56), (0, u "aliveByMonth"), (0, u "(I)[D"), (0, .methodref 18 58), (0, .nameAndType 59 60), (0, u "lastAge"), (0, u "()I"), (5, u "qx"), (0, u "(I)D"), (4, .double 4622945017495814144), (1, u "MONTHS"), (2, u "MOST_AGES"), (1, u "(I[D)V"), (8, .class_ 89), (0, u "com/example/pensionwright/pensionwright/actuarial/MortalityTable$Builder")] 28

def k2c0 : Code := { maxStack := 6, maxLocals := 6, code := prog_3_method_1_code, exceptionTable := #[], attributes := #[] }
def k2m0 : Method := { name := "<init>", desc := "(I[D)V", sig := { parameters := [.int, (.array .double)], returnType := none }, accessFlags := 1, code := some k2c0 }
def k2c1 : Code := { maxStack := 2, maxLocals := 1, code := prog_3_method_3_code, exceptionTable := #[], attributes := #[] }
def k2m1 : Method := { name := "lastAge", desc := "()I", sig := { parameters := [], returnType := some .int }, accessFlags := 1, code := some k2c1 }
def k2c2 : Code := { maxStack := 5, maxLocals := 2, code := prog_3_method_4_code, exceptionTable := #[], attributes := #[] }
def k2m2 : Method := { name := "qx", desc := "(I)D", sig := { parameters := [.int], returnType := some .double }, accessFlags := 1, code := some k2c2 }
def k2c3 : Code := { maxStack := 10, maxLocals := 10, code := prog_3_method_8_code, exceptionTable := #[], attributes := #[] }
def k2m3 : Method := { name := "aliveByMonth", desc := "(I)[D", sig := { parameters := [.int], returnType := some (.array .double) }, accessFlags := 2, code := some k2c3 }
/-- com/example/pensionwright/pensionwright/actuarial/MortalityTable -/
def k2 : Class := { plain "com/example/pensionwright/pensionwright/actuarial/MortalityTable" (some 0) with
  accessFlags := 49
  interfaces := #[]
  cf := some (fileOf pool2 18 #[.nestMembers #[88]] #[{ accessFlags := 1, nameIndex := 5, descriptorIndex := 79, attributes := #[] }, { accessFlags := 1, nameIndex := 59, descriptorIndex := 60, attributes := #[] }, { accessFlags := 1, nameIndex := 66, descriptorIndex := 67, attributes := #[] }, { accessFlags := 2, nameIndex := 55, descriptorIndex := 56, attributes := #[] }] 49 2 #[] #[{ accessFlags := 26, nameIndex := 74, descriptorIndex := 37, attributes := #[] }, { accessFlags := 26, nameIndex := 77, descriptorIndex := 37, attributes := #[] }, { accessFlags := 18, nameIndex := 36, descriptorIndex := 37, attributes := #[] }, { accessFlags := 18, nameIndex := 46, descriptorIndex := 47, attributes := #[] }, { accessFlags := 18, nameIndex := 51, descriptorIndex := 52, attributes := #[] }])
  fields := #[{ name := "MONTHS", type := .int, accessFlags := 26, slot := 0, constantValue := 0 }, { name := "MOST_AGES", type := .int, accessFlags := 26, slot := 1, constantValue := 0 }, { name := "firstAge", type := .int, accessFlags := 18, slot := 0, constantValue := 0 }, { name := "rates", type := (.array .double), accessFlags := 18, slot := 1, constantValue := 0 }, { name := "monthlySurvival", type := (.array (.array .double)), accessFlags := 18, slot := 2, constantValue := 0 }]
  methods := #[k2m0, k2m1, k2m2, k2m3]
  instanceTypes := #[.int, (.array .double), (.array (.array .double))]
  staticTypes := #[.int, .int]
  resolved := Array.replicate 118 none
  statics := none }

def pool3 : Array CpInfo := pool [(2, .class_ 4), (1, u "java/lang/Object"), (0, u "<init>"), (0, u "()V"), (7, .class_ 16), (1, u "java/util/Arrays"), (57, .class_ 76), (1, u "java/util/Arrays$NaturalOrder"), (32, u "()Ljava/lang/Object;"), (3, .class_ 115), (1, u "java/util/Arrays$LegacyMergeSort"), (1, u "Z"), (10, .nameAndType 129 109), (0, u "clone"), (172, u "copyOf"), (25, .methodref 329 128), (0, .class_ 330), (0, u "[D"), (44, .class_ 376), (0, u "java/util/Arrays$ArrayList"), (68, u "$assertionsDisabled"), (269, u "MIN_ARRAY_SORT_GRAN"), (0, u "I"), (2, u "INSERTIONSORT_THRESHOLD"), (155, u "([DI)[D"), (99, .class_ 976), (0, u "java/util/Arrays$ArrayItr")] 52

def k3m0 : Method := { name := "<init>", desc := "()V", sig := { parameters := [], returnType := none }, accessFlags := 2, code := none }
def k3c1 : Code := { maxStack := 6, maxLocals := 3, code := jdk_65_method_127_code, exceptionTable := #[], attributes := #[] }
def k3m1 : Method := { name := "copyOf", desc := "([DI)[D", sig := { parameters := [(.array .double), .int], returnType := some (.array .double) }, accessFlags := 9, code := some k3c1 }
/-- java/util/Arrays -/
def k3 : Class := { plain "java/util/Arrays" (some 0) with
  accessFlags := 49
  interfaces := #[]
  cf := some (fileOf pool3 14 #[.nestMembers #[975, 375, 113, 74]] #[{ accessFlags := 2, nameIndex := 5, descriptorIndex := 6, attributes := #[] }, { accessFlags := 9, nameIndex := 302, descriptorIndex := 875, attributes := #[] }] 49 2 #[] #[{ accessFlags := 26, nameIndex := 715, descriptorIndex := 716, attributes := #[] }, { accessFlags := 26, nameIndex := 719, descriptorIndex := 716, attributes := #[] }, { accessFlags := 4120, nameIndex := 445, descriptorIndex := 117, attributes := #[] }])
  fields := #[{ name := "MIN_ARRAY_SORT_GRAN", type := .int, accessFlags := 26, slot := 0, constantValue := 0 }, { name := "INSERTIONSORT_THRESHOLD", type := .int, accessFlags := 26, slot := 1, constantValue := 0 }, { name := "$assertionsDisabled", type := .boolean, accessFlags := 4120, slot := 2, constantValue := 0 }]
  methods := #[k3m0, k3m1]
  instanceTypes := #[]
  staticTypes := #[.int, .int, .boolean]
  resolved := Array.replicate 1029 none
  statics := none }

def pool4 : Array CpInfo := pool [(1, .class_ 2), (0, u "java/lang/Cloneable"), (0, .class_ 4), (0, u "java/lang/Object")] 2

/-- java/lang/Cloneable -/
def k4 : Class := { plain "java/lang/Cloneable" (some 0) with
  accessFlags := 1537
  interfaces := #[]
  cf := some (fileOf pool4 1 #[] #[] 1537 3 #[] #[])
  fields := #[]
  methods := #[]
  instanceTypes := #[]
  staticTypes := #[]
  resolved := Array.replicate 7 none
  statics := none }

def pool5 : Array CpInfo := pool [(1, u "java/io/Serializable"), (0, .class_ 1), (0, u "java/lang/Object"), (0, .class_ 3)] 3

/-- java/io/Serializable -/
def k5 : Class := { plain "java/io/Serializable" (some 0) with
  accessFlags := 1537
  interfaces := #[]
  cf := some (fileOf pool5 2 #[] #[] 1537 4 #[] #[])
  fields := #[]
  methods := #[]
  instanceTypes := #[]
  staticTypes := #[]
  resolved := Array.replicate 8 none
  statics := none }

/-- the primitive byte -/
def k6 : Class := { plain "byte" none with kind := .primitive 'B', accessFlags := 0x411 }
/-- [B -/
def k7 : Class := { plain "[B" (some 0) with kind := .array 6 .byte, interfaces := #[4, 5], accessFlags := 1041 }

/-- the primitive int -/
def k8 : Class := { plain "int" none with kind := .primitive 'I', accessFlags := 0x411 }
/-- [I -/
def k9 : Class := { plain "[I" (some 0) with kind := .array 8 .int, interfaces := #[4, 5], accessFlags := 1041 }

/-- the primitive double -/
def k10 : Class := { plain "double" none with kind := .primitive 'D', accessFlags := 0x411 }
/-- [D -/
def k11 : Class := { plain "[D" (some 0) with kind := .array 10 .double, interfaces := #[4, 5], accessFlags := 1041 }
/-- [[D -/
def k12 : Class := { plain "[[D" (some 0) with kind := .array 11 (.array .double), interfaces := #[4, 5], accessFlags := 1041 }


def heap : Heap := #[]
def classes : Array Class := #[k0, k1, k2, k3, k4, k5, k6, k7, k8, k9, k10, k11, k12]
def interned : List (Array UInt16 × Addr) := []
def slotsUsed : Nat := 0
def theMethod : MethodId := ⟨1, 1⟩
def args0 : Array Value := #[.int 20, .int 7, .int 1, .int 2, .int 3]
def aboutOver (below : List Frame) : State where
  vm := { classes := classes, interned := interned.toArray }
  heap := heap
  slotsUsed := slotsUsed
  threads := #[{ frames := .invoking theMethod args0 :: below }]
def below0 : List Frame := [.native { method := ⟨0, 0⟩, args := #[] }]
def about1 : State := aboutOver below0
def p0 : Program := .bare "" "" ""
def e0 : Env := launch0.env 0 0 0
theorem w_frames : about1.frames = Frame.invoking theMethod args0 :: below0 := rfl
set_option maxRecDepth 65536 in
theorem w_args : argsFit about1.vm theMethod args0 = true := by decide +kernel
set_option maxRecDepth 65536 in
theorem w_heap : heapFits about1 = true := by decide +kernel
set_option maxRecDepth 65536 in
theorem w_runnable : about1.curStatus? = some .runnable := by decide +kernel
set_option maxRecDepth 65536 in
theorem w_alone : about1.alone = true := by decide +kernel
set_option maxRecDepth 65536 in
theorem w_named : about1.methodNamed? x = some theMethod := by decide +kernel
set_option maxRecDepth 65536 in
theorem w_hears : about1.hears theMethod below0 = true := by decide +kernel
set_option maxRecDepth 65536 in
theorem w_ripe : about1.ripe theMethod args0 below0 = true := by decide +kernel
theorem w_running : about1.status = .running := rfl
set_option maxRecDepth 65536 in
theorem w_room : about1.hasRoom e0.platform room_1 = true :=
  launch0.hasRoom_least _ room_1 (by decide +kernel) (by decide +kernel) (by decide +kernel) (by decide +kernel) (by decide +kernel) (by decide +kernel)
theorem allAtoms_all (ts : List Jvm.Cond) (a : Array Jvm.Value) (st : Jvm.State) : (allAtoms ts).before a st = ts.all (fun c => c.before a st) := by
  induction ts with
  | nil => rfl
  | cons c t ih =>
    show (Jvm.Cond.and c (allAtoms t)).before a st = _
    rw [Jvm.Cond.before_and, ih, List.all_cons]
def words1 : List Jvm.Cond := Jvm.Cond.code x code maxLocals ret :: tables_1
/-- a 'code' word, met by the world's own term for the bytes: nothing is compared byte by byte -/
theorem code_word {y : MethodName} {bytes : ByteArray} {mx : Nat} {rt : Option FieldType} {a : Array Value} {s : State} {m : MethodId} {meth : Method} {c : Code} (h1 : s.methodNamed? y = some m) (h2 : s.vm.method? m = some meth) (h3 : meth.code = some c) (h4 : c.code = bytes)
    (h5 : (c.maxLocals == mx && c.exceptionTable.isEmpty && decide (c.maxStack ≤ mostOperands) && decide (meth.sig.returnType = rt) && !meth.locks && decide (parseMethodDescriptor y.desc = some meth.sig)) = true) : (Jvm.Cond.code y bytes mx rt).before a s = true := by
  simp only [Bool.and_eq_true, beq_iff_eq, Bool.not_eq_true', decide_eq_true_eq] at h5
  obtain ⟨⟨⟨⟨⟨g1, g2⟩, g3⟩, g4⟩, g5⟩, g6⟩ := h5
  simp [Cond.before, Cond.holds, Cond.value, h1, h2, h3, h4, g1, g2, g3, g4, g5, g6]
def isCode : Jvm.Cond → Bool
  | .code _ _ _ _ => true
  | _ => false
theorem all_split {L : List Jvm.Cond} {P : Jvm.Cond → Bool} (h1 : L.all (fun c => isCode c || P c) = true) (h2 : ∀ c ∈ L.filter isCode, P c = true) : L.all P = true := by
  refine List.all_eq_true.mpr fun c hc => ?_
  have h := List.all_eq_true.mp h1 c hc
  rcases Bool.eq_false_or_eq_true (isCode c) with hi | hi
  · exact h2 c (List.mem_filter.mpr ⟨hc, hi⟩)
  · simpa [hi] using h
set_option maxRecDepth 65536 in
theorem w_c0 : (Jvm.Cond.code x code maxLocals ret).before args0 about1 = true := code_word (m := ⟨1, 1⟩) (meth := k1m1) (c := k1c1) (by decide +kernel) rfl rfl rfl (by decide +kernel)
set_option maxRecDepth 65536 in
theorem w_c1 : (Jvm.Cond.code ({ cls := "com/example/pensionwright/pensionwright/actuarial/MortalityTable", name := "<init>", desc := "(I[D)V" } : Jvm.MethodName) prog_3_method_1_code (6 : Nat) (Option.none : Option Jvm.ClassFile.FieldType)).before args0 about1 = true := code_word (m := ⟨2, 0⟩) (meth := k2m0) (c := k2c0) (by decide +kernel) rfl rfl rfl (by decide +kernel)
set_option maxRecDepth 65536 in
theorem w_c2 : (Jvm.Cond.code ({ cls := "java/lang/Object", name := "<init>", desc := "()V" } : Jvm.MethodName) object_method_1_code (1 : Nat) (Option.none : Option Jvm.ClassFile.FieldType)).before args0 about1 = true := code_word (m := ⟨0, 0⟩) (meth := k0m0) (c := k0c0) (by decide +kernel) rfl rfl rfl (by decide +kernel)
set_option maxRecDepth 65536 in
theorem w_c3 : (Jvm.Cond.code ({ cls := "java/util/Arrays", name := "copyOf", desc := "([DI)[D" } : Jvm.MethodName) jdk_65_method_127_code (3 : Nat) (Option.some (Jvm.ClassFile.FieldType.array Jvm.ClassFile.FieldType.double))).before args0 about1 = true := code_word (m := ⟨3, 1⟩) (meth := k3m1) (c := k3c1) (by decide +kernel) rfl rfl rfl (by decide +kernel)
set_option maxRecDepth 65536 in
theorem w_c4 : (Jvm.Cond.code ({ cls := "com/example/pensionwright/pensionwright/actuarial/MortalityTable", name := "aliveByMonth", desc := "(I)[D" } : Jvm.MethodName) prog_3_method_8_code (10 : Nat) (Option.some (Jvm.ClassFile.FieldType.array Jvm.ClassFile.FieldType.double))).before args0 about1 = true := code_word (m := ⟨2, 3⟩) (meth := k2m3) (c := k2c3) (by decide +kernel) rfl rfl rfl (by decide +kernel)
set_option maxRecDepth 65536 in
theorem w_c5 : (Jvm.Cond.code ({ cls := "com/example/pensionwright/pensionwright/actuarial/MortalityTable", name := "lastAge", desc := "()I" } : Jvm.MethodName) prog_3_method_3_code (1 : Nat) (Option.some Jvm.ClassFile.FieldType.int)).before args0 about1 = true := code_word (m := ⟨2, 1⟩) (meth := k2m1) (c := k2c1) (by decide +kernel) rfl rfl rfl (by decide +kernel)
set_option maxRecDepth 65536 in
theorem w_c6 : (Jvm.Cond.code ({ cls := "com/example/pensionwright/pensionwright/actuarial/MortalityTable", name := "qx", desc := "(I)D" } : Jvm.MethodName) prog_3_method_4_code (2 : Nat) (Option.some Jvm.ClassFile.FieldType.double)).before args0 about1 = true := code_word (m := ⟨2, 2⟩) (meth := k2m2) (c := k2c2) (by decide +kernel) rfl rfl rfl (by decide +kernel)
def codes1 : List Jvm.Cond := [Jvm.Cond.code x code maxLocals ret, Jvm.Cond.code ({ cls := "com/example/pensionwright/pensionwright/actuarial/MortalityTable", name := "<init>", desc := "(I[D)V" } : Jvm.MethodName) prog_3_method_1_code (6 : Nat) (Option.none : Option Jvm.ClassFile.FieldType), Jvm.Cond.code ({ cls := "java/lang/Object", name := "<init>", desc := "()V" } : Jvm.MethodName) object_method_1_code (1 : Nat) (Option.none : Option Jvm.ClassFile.FieldType), Jvm.Cond.code ({ cls := "java/util/Arrays", name := "copyOf", desc := "([DI)[D" } : Jvm.MethodName) jdk_65_method_127_code (3 : Nat) (Option.some (Jvm.ClassFile.FieldType.array Jvm.ClassFile.FieldType.double)), Jvm.Cond.code ({ cls := "com/example/pensionwright/pensionwright/actuarial/MortalityTable", name := "aliveByMonth", desc := "(I)[D" } : Jvm.MethodName) prog_3_method_8_code (10 : Nat) (Option.some (Jvm.ClassFile.FieldType.array Jvm.ClassFile.FieldType.double)), Jvm.Cond.code ({ cls := "com/example/pensionwright/pensionwright/actuarial/MortalityTable", name := "lastAge", desc := "()I" } : Jvm.MethodName) prog_3_method_3_code (1 : Nat) (Option.some Jvm.ClassFile.FieldType.int), Jvm.Cond.code ({ cls := "com/example/pensionwright/pensionwright/actuarial/MortalityTable", name := "qx", desc := "(I)D" } : Jvm.MethodName) prog_3_method_4_code (2 : Nat) (Option.some Jvm.ClassFile.FieldType.double)]
set_option maxRecDepth 65536 in
theorem codes_eq : words1.filter isCode = codes1 := rfl
theorem w_codes : ∀ c ∈ words1.filter isCode, c.before args0 about1 = true := by
  rw [codes_eq]
  intro c hc
  simp only [codes1, List.mem_cons, List.not_mem_nil, or_false] at hc
  rcases hc with rfl | rfl | rfl | rfl | rfl | rfl | rfl
  · exact w_c0
  · exact w_c1
  · exact w_c2
  · exact w_c3
  · exact w_c4
  · exact w_c5
  · exact w_c6
set_option maxRecDepth 65536 in
theorem w_t1 : (words1.take 24).all (fun c => isCode c || c.before args0 about1) = true := by decide +kernel
set_option maxRecDepth 65536 in
theorem w_t2 : ((words1.drop 24).take 24).all (fun c => isCode c || c.before args0 about1) = true := by decide +kernel
set_option maxRecDepth 65536 in
theorem w_t3 : ((words1.drop 24).drop 24).all (fun c => isCode c || c.before args0 about1) = true := by decide +kernel
theorem w_tables : (allAtoms (Jvm.Cond.code x code maxLocals ret :: tables_1)).before args0 about1 = true := by
  rw [allAtoms_all]
  show words1.all (fun c => c.before args0 about1) = true
  refine all_split ?_ w_codes
  rw [← List.take_append_drop 24 words1, List.all_append, w_t1, ← List.take_append_drop 24 (words1.drop 24), List.all_append, w_t2, w_t3]
  rfl
set_option maxRecDepth 65536 in
theorem w_case : (Jvm.Cond.and given_1 narrow_1).before args0 about1 = true := by decide +kernel
theorem w_applies : (headSpec (Jvm.Cond.code x code maxLocals ret :: tables_1) room_1).applies x e0.platform about1 = true :=
  (Spec.applies_iff w_frames).mpr ⟨w_running, w_runnable, w_alone, w_named, w_hears, w_ripe, w_room, w_tables⟩
theorem atStart : AtStart classFile x code maxLocals ret World_1 tables_1 room_1 Calls_1 rest_1 Pre_1 launch0 p0 e0 about1 theMethod args0 below0 :=
  ⟨lists_1, trivial, launch0.admits_env _ _ _, launch0.least_env, fairChoices_fair.cas, fairChoices_fair.clock, w_frames, w_args, w_heap, w_applies, trivial, trivial, w_case⟩
end start1
theorem witness_1 : WitnessClaimed_1 := ⟨start1.p0, start1.e0, start1.about1, start1.theMethod, start1.args0, start1.below0, start1.atStart⟩
end Jvm.Pilot.@@N@@
