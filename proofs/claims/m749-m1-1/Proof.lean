import JvmDerived
import JvmDerived.Pilot.@@N@@Statement
import JvmDerived.Pilot.@@N@@Code
set_option linter.unusedVariables false
set_option linter.unusedSimpArgs false
namespace Jvm.Pilot.@@N@@
open Jvm Jvm.ClassFile Sem Op Lib Jvm.Free Jvm.Stand Jvm.LawKit Jvm.RoadKit Bundle Jvm.Pilot.@@N@@.Jvm.D
theorem own_cast {tb : Tables} {e : Env} {below : List Frame} {T t : State} {m : MethodId} {pc : Nat} {Ls : Array Slot} {v v' : Value} {r : List Value} (h : v = v') (k : Steps tb e below (T.setTop (mkF m pc Ls (v' :: r))) t) : Steps tb e below (T.setTop (mkF m pc Ls (v :: r))) t := by rw [h]; exact k
theorem own_and (x : Int64) : 0 ≤ (x &&& (2147483647 : Int64)).toInt ∧ (x &&& (2147483647 : Int64)).toInt ≤ 2147483647 := by
  have h : (x &&& (2147483647 : Int64)).toBitVec.toNat ≤ 2147483647 := by
    rw [Int64.toBitVec_and, BitVec.toNat_and]; exact Nat.and_le_right
  have e : (x &&& (2147483647 : Int64)).toInt = ((x &&& (2147483647 : Int64)).toBitVec.toNat : Int) := BitVec.toInt_eq_toNat_of_lt (by omega)
  omega
def own_m (x : Int32) : Int64 := (x).toInt64 &&& (2147483647 : Int64)
theorem own_m_b (x : Int32) : 0 ≤ (own_m x).toInt ∧ (own_m x).toInt ≤ 2147483647 := own_and _
def own_d (k s x : Int32) : Int64 := if (s &&& k) = (0 : Int32) then own_m x else (0 : Int64)
theorem own_d_b (k s x : Int32) : 0 ≤ (own_d k s x).toInt ∧ (own_d k s x).toInt ≤ 2147483647 := by
  unfold own_d; split
  · exact own_m_b x
  · decide
theorem own_b53 {a : Int64} (h : 0 ≤ a.toInt ∧ a.toInt ≤ 4294967294) : B53 a := ⟨by omega, by omega⟩
theorem own_sum {a b : Int64} (ha : 0 ≤ a.toInt ∧ a.toInt ≤ 2147483647) (hb : 0 ≤ b.toInt ∧ b.toInt ≤ 2147483647) : (a + b).toInt = a.toInt + b.toInt := add64 ⟨by omega, by omega⟩ ⟨by omega, by omega⟩
def own_t (A B D E : Int64) : Int32 := if A = B then (if D = E then (1 : Int32) else (0 : Int32)) else (0 : Int32)
theorem own_t_eq {A dW B dH : Int64} (hA : 0 ≤ A.toInt ∧ A.toInt ≤ 2147483647) (hW : 0 ≤ dW.toInt ∧ dW.toInt ≤ 2147483647) (hB : 0 ≤ B.toInt ∧ B.toInt ≤ 2147483647) (hH : 0 ≤ dH.toInt ∧ dH.toInt ≤ 2147483647) :
    own_t A (A + dW) B (B + dH) = own_t dW 0 dH 0 := by
  have e1 : A = A + dW ↔ dW = 0 := by
    rw [← Int64.toInt_inj, ← Int64.toInt_inj (x := dW), own_sum hA hW, show (0 : Int64).toInt = 0 from by decide]; omega
  have e2 : B = B + dH ↔ dH = 0 := by
    rw [← Int64.toInt_inj, ← Int64.toInt_inj (x := dH), own_sum hB hH, show (0 : Int64).toInt = 0 from by decide]; omega
  unfold own_t; simp only [e1, e2]
theorem own_z : B53 0 := ⟨by decide, by decide⟩
theorem own_inf : (9218868437227405312 : UInt64) = 9218868437227405312 := rfl
theorem drec_0 : decode jdk_30_method_1_code 0 = .ok (.aload_n 0, 1) := by decide +kernel
theorem drec_1 : decode jdk_30_method_1_code 1 = .ok (.invokespecial 1, 3) := by decide +kernel
theorem drec_4 : decode jdk_30_method_1_code 4 = .ok (.return_, 1) := by decide +kernel
theorem drng_0 : decode prog_70_method_19_code 0 = .ok (.dconst 0, 1) := by decide +kernel
theorem drng_1 : decode prog_70_method_19_code 1 = .ok (.dload_n 0, 1) := by decide +kernel
theorem drng_2 : decode prog_70_method_19_code 2 = .ok (.dcmp .g, 1) := by decide +kernel
theorem drng_3 : decode prog_70_method_19_code 3 = .ok (.ifCond .gt 21, 3) := by decide +kernel
theorem drng_6 : decode prog_70_method_19_code 6 = .ok (.dload_n 0, 1) := by decide +kernel
theorem drng_7 : decode prog_70_method_19_code 7 = .ok (.dload_n 2, 1) := by decide +kernel
theorem drng_8 : decode prog_70_method_19_code 8 = .ok (.dcmp .g, 1) := by decide +kernel
theorem drng_9 : decode prog_70_method_19_code 9 = .ok (.ifCond .gt 15, 3) := by decide +kernel
theorem drng_12 : decode prog_70_method_19_code 12 = .ok (.dload_n 0, 1) := by decide +kernel
theorem drng_13 : decode prog_70_method_19_code 13 = .ok (.ldc2_w 52, 3) := by decide +kernel
theorem drng_16 : decode prog_70_method_19_code 16 = .ok (.dcmp .g, 1) := by decide +kernel
theorem drng_17 : decode prog_70_method_19_code 17 = .ok (.ifCond .ge 7, 3) := by decide +kernel
theorem drng_20 : decode prog_70_method_19_code 20 = .ok (.iconst 1, 1) := by decide +kernel
theorem drng_21 : decode prog_70_method_19_code 21 = .ok (.goto 4, 3) := by decide +kernel
theorem drng_24 : decode prog_70_method_19_code 24 = .ok (.iconst 0, 1) := by decide +kernel
theorem drng_25 : decode prog_70_method_19_code 25 = .ok (.ireturn, 1) := by decide +kernel
theorem dini_0 : decode prog_70_method_1_code 0 = .ok (.aload_n 0, 1) := by decide +kernel
theorem dini_1 : decode prog_70_method_1_code 1 = .ok (.invokespecial 1, 3) := by decide +kernel
theorem dini_4 : decode prog_70_method_1_code 4 = .ok (.dload_n 1, 1) := by decide +kernel
theorem dini_5 : decode prog_70_method_1_code 5 = .ok (.dload_n 3, 1) := by decide +kernel
theorem dini_6 : decode prog_70_method_1_code 6 = .ok (.invokestatic 7, 3) := by decide +kernel
theorem dini_9 : decode prog_70_method_1_code 9 = .ok (.ifCond .eq 13, 3) := by decide +kernel
theorem dini_12 : decode prog_70_method_1_code 12 = .ok (.dload 5, 2) := by decide +kernel
theorem dini_14 : decode prog_70_method_1_code 14 = .ok (.dload 7, 2) := by decide +kernel
theorem dini_16 : decode prog_70_method_1_code 16 = .ok (.invokestatic 7, 3) := by decide +kernel
theorem dini_19 : decode prog_70_method_1_code 19 = .ok (.ifCond .ne 22, 3) := by decide +kernel
theorem dini_22 : decode prog_70_method_1_code 22 = .ok (.new 13, 3) := by decide +kernel
theorem dini_25 : decode prog_70_method_1_code 25 = .ok (.dup, 1) := by decide +kernel
theorem dini_26 : decode prog_70_method_1_code 26 = .ok (.dload_n 1, 1) := by decide +kernel
theorem dini_27 : decode prog_70_method_1_code 27 = .ok (.dload_n 3, 1) := by decide +kernel
theorem dini_28 : decode prog_70_method_1_code 28 = .ok (.dload 5, 2) := by decide +kernel
theorem dini_30 : decode prog_70_method_1_code 30 = .ok (.dload 7, 2) := by decide +kernel
theorem dini_37 : decode prog_70_method_1_code 37 = .ok (.invokespecial 19, 3) := by decide +kernel
theorem dini_40 : decode prog_70_method_1_code 40 = .ok (.athrow, 1) := by decide +kernel
theorem dini_41 : decode prog_70_method_1_code 41 = .ok (.aload_n 0, 1) := by decide +kernel
theorem dini_42 : decode prog_70_method_1_code 42 = .ok (.dload_n 1, 1) := by decide +kernel
theorem dini_43 : decode prog_70_method_1_code 43 = .ok (.putfield 22, 3) := by decide +kernel
theorem dini_46 : decode prog_70_method_1_code 46 = .ok (.aload_n 0, 1) := by decide +kernel
theorem dini_47 : decode prog_70_method_1_code 47 = .ok (.dload_n 3, 1) := by decide +kernel
theorem dini_48 : decode prog_70_method_1_code 48 = .ok (.putfield 26, 3) := by decide +kernel
theorem dini_51 : decode prog_70_method_1_code 51 = .ok (.aload_n 0, 1) := by decide +kernel
theorem dini_52 : decode prog_70_method_1_code 52 = .ok (.dload 5, 2) := by decide +kernel
theorem dini_54 : decode prog_70_method_1_code 54 = .ok (.putfield 29, 3) := by decide +kernel
theorem dini_57 : decode prog_70_method_1_code 57 = .ok (.aload_n 0, 1) := by decide +kernel
theorem dini_58 : decode prog_70_method_1_code 58 = .ok (.dload 7, 2) := by decide +kernel
theorem dini_60 : decode prog_70_method_1_code 60 = .ok (.putfield 32, 3) := by decide +kernel
theorem dini_63 : decode prog_70_method_1_code 63 = .ok (.return_, 1) := by decide +kernel
theorem dtgt_0 : decode prog_70_method_3_code 0 = .ok (.aload_n 0, 1) := by decide +kernel
theorem dtgt_1 : decode prog_70_method_3_code 1 = .ok (.getfield 22, 3) := by decide +kernel
theorem dtgt_4 : decode prog_70_method_3_code 4 = .ok (.aload_n 0, 1) := by decide +kernel
theorem dtgt_5 : decode prog_70_method_3_code 5 = .ok (.getfield 26, 3) := by decide +kernel
theorem dtgt_8 : decode prog_70_method_3_code 8 = .ok (.dcmp .l, 1) := by decide +kernel
theorem dtgt_9 : decode prog_70_method_3_code 9 = .ok (.ifCond .ne 19, 3) := by decide +kernel
theorem dtgt_12 : decode prog_70_method_3_code 12 = .ok (.aload_n 0, 1) := by decide +kernel
theorem dtgt_13 : decode prog_70_method_3_code 13 = .ok (.getfield 29, 3) := by decide +kernel
theorem dtgt_16 : decode prog_70_method_3_code 16 = .ok (.aload_n 0, 1) := by decide +kernel
theorem dtgt_17 : decode prog_70_method_3_code 17 = .ok (.getfield 32, 3) := by decide +kernel
theorem dtgt_20 : decode prog_70_method_3_code 20 = .ok (.dcmp .l, 1) := by decide +kernel
theorem dtgt_21 : decode prog_70_method_3_code 21 = .ok (.ifCond .ne 7, 3) := by decide +kernel
theorem dtgt_24 : decode prog_70_method_3_code 24 = .ok (.iconst 1, 1) := by decide +kernel
theorem dtgt_25 : decode prog_70_method_3_code 25 = .ok (.goto 4, 3) := by decide +kernel
theorem dtgt_28 : decode prog_70_method_3_code 28 = .ok (.iconst 0, 1) := by decide +kernel
theorem dtgt_29 : decode prog_70_method_3_code 29 = .ok (.ireturn, 1) := by decide +kernel
theorem pn_box : plainName "com/example/triptych/triptych/rendering/BoxConstraints" = true := by first | (simp [plainName, overriddenIn]; done) | decide +kernel
theorem pn_rec : plainName "java/lang/Record" = true := by first | (simp [plainName, overriddenIn]; done) | decide +kernel
theorem pn_law : plainName "com/example/triptych/triptych/rendering/BoxConstraintsIsTightPinLaw" = true := by first | (simp [plainName, overriddenIn]; done) | decide +kernel
theorem pd_dd : parseMethodDescriptor "(DD)Z" = some ⟨[.double, .double], some .boolean⟩ := by decide +kernel
theorem pd_v : parseMethodDescriptor "()V" = some ⟨[], none⟩ := by decide +kernel
theorem pd_dddd : parseMethodDescriptor "(DDDD)V" = some ⟨[.double, .double, .double, .double], none⟩ := by decide +kernel
theorem pd_z : parseMethodDescriptor "()Z" = some ⟨[], some .boolean⟩ := by decide +kernel
theorem ef_rec (m : MethodId) (x0 : Addr) : entryFrame m #[(.ref x0)] 1 = mkF m 0 #[.val (.ref x0)] [] := by first | (simp [entryFrame, mkF, argsToLocals, Value.category]; done) | rfl
def Qrec (Z : State) (a : Addr) (h0 : Heap) (n0 : Nat) (v : Option Value) (h : Heap) (L : List Loc) : Prop := v = none ∧ Fr n0 L ∧ h = h0
set_option maxRecDepth 65536 in
set_option maxHeartbeats 40000000 in
theorem rmrec (l : Launch) (Z : State) (a0 : Array Value) (hw : ∀ d ∈ tables_1, d.before a0 Z = true) (ws : List Jvm.Cond) (a : Addr) (h0 : Heap) (n0 : Nat) (Z0 : n0 ≤ h0.size) :
    MetFree l (⟨"java/lang/Record", "<init>", "()V"⟩ : MethodName) (head1 (Jvm.Cond.code (⟨"java/lang/Record", "<init>", "()V"⟩ : MethodName) jdk_30_method_1_code 1 none :: ws) ({ frames := 1, cells := 0, slots := 0, locals := 12 } : Room)) (fun aa U => aa = #[(.ref a)] ∧ Z.Warmed39 U.vm ∧ U.heap = h0) (fun _ _ _ _ _ => True) (fun _ U o U' => ∃ v L, o = .returned v ∧ Qrec Z a h0 n0 v U'.heap L ∧ FrameEnd U o U' L ({ frames := 1, cells := 0, slots := 0, locals := 12 } : Room).cells ({ frames := 1, cells := 0, slots := 0, locals := 12 } : Room).slots) := by
  refine MetFree.of_bodySF (plainFor_of_name pn_rec) hisR ?_
  intro p e s m args below meth c s₁ Bd hml0 hP hK
  obtain ⟨rfl, hZ, hh⟩ := hP
  have hx := Bd.exec
  have hby := Bd.bytes
  have hml : c.maxLocals = 1 := hml0
  have hown : s.vm.findClass "java/lang/Record" = some m.cls := findClass_of_methodNamed Bd.named
  have hnm := (name_of_methodNamed Bd.named Bd.method).1
  have X0 : Stand p l e ({ frames := 1, cells := 0, slots := 0, locals := 12 } : Room) s m #[(.ref a)] below meth c s₁ [] 0 0 := Stand.of_body Bd
  have e0 : s₁.heap = h0 := by rw [← hh, Bd.state]; rfl
  have N0 := Fr.nil n0
  have pre0 : ∀ tt, Steps p.tables e below (s₁.setTop (mkF m 0 #[.val (.ref a)] [])) tt → Steps p.tables e below (s₁.setTop (entryFrame m #[(.ref a)] 1)) tt := fun tt k => castTop (ef_rec m a) k
  obtain ⟨T1, X1, e1, st1⟩ := initO X0 hx hZ hown (hw _ (List.mem_of_getElem? (i := 12) rfl)) (hw _ (List.mem_of_getElem? (i := 13) rfl)) (hw _ (List.mem_of_getElem? (i := 14) rfl)) e0 (g := (mkF m 1 #[.val (.ref a)] [(.ref a)])) rfl (by rw [hml]; rfl) rfl (hb hby drec_1) (by decide) (W := 0) (by show 2 * 0 + _ ≤ _; exact Nat.le_of_eq rfl) (by decide)
  obtain ⟨fs, hr, hrun, hended, hW, hsame⟩ := X1.leave (v := none) (fun _ => rfl)
  refine ⟨_, _, pre0 _ ?_, hrun, hended, _, _, rfl, ?_, ⟨_, rfl⟩, hW, hsame.mono (by decide) (by decide)⟩
  · show Steps p.tables e below (s₁.setTop (mkF m 0 #[.val (.ref a)] [])) _
    refine XS.aloadN X0.here hx rfl (hb hby drec_0) rfl rfl ?_
    show Steps p.tables e below (s₁.setTop (mkF m 1 #[.val (.ref a)] [(.ref a)])) _
    refine st1 _ ?_
    show Steps p.tables e below (T1.setTop (mkF m 4 #[.val (.ref a)] [])) _
    exact X1.returnOut hx Bd.returns (hb hby drec_4) hr
  · show Qrec Z a h0 n0 _ T1.heap _
    rw [e1]
    exact ⟨rfl, N0, rfl⟩
theorem ef_rng (m : MethodId) (x0 : UInt64) (x1 : UInt64) : entryFrame m #[(.double x0), (.double x1)] 4 = mkF m 0 #[.val (.double x0), .second, .val (.double x1), .second] [] := by first | (simp [entryFrame, mkF, argsToLocals, Value.category]; done) | rfl
def Qrng (Z : State) (A : Int64) (B : Int64) (h0 : Heap) (n0 : Nat) (v : Option Value) (h : Heap) (L : List Loc) : Prop := v = some (.int (1 : Int32)) ∧ Fr n0 L ∧ h = h0
set_option maxRecDepth 65536 in
set_option maxHeartbeats 40000000 in
theorem rmrng (l : Launch) (Z : State) (a0 : Array Value) (hw : ∀ d ∈ tables_1, d.before a0 Z = true) (ws : List Jvm.Cond) (A : Int64) (B : Int64) (h0 : Heap) (n0 : Nat) (Z0 : n0 ≤ h0.size) (bA : B53 A) (bB : B53 B) (hA : ¬ A < 0) (hAB : ¬ B < A) :
    MetFree l (⟨"com/example/triptych/triptych/rendering/BoxConstraints", "isRange", "(DD)Z"⟩ : MethodName) (head1 (Jvm.Cond.code (⟨"com/example/triptych/triptych/rendering/BoxConstraints", "isRange", "(DD)Z"⟩ : MethodName) prog_70_method_19_code 4 (some .boolean) :: ws) ({ frames := 0, cells := 0, slots := 0, locals := 0 } : Room)) (fun aa U => aa = #[(.double (FP.l2d A)), (.double (FP.l2d B))] ∧ Z.Warmed39 U.vm ∧ U.heap = h0) (fun _ _ _ _ _ => True) (fun _ U o U' => ∃ v L, o = .returned v ∧ Qrng Z A B h0 n0 v U'.heap L ∧ FrameEnd U o U' L ({ frames := 0, cells := 0, slots := 0, locals := 0 } : Room).cells ({ frames := 0, cells := 0, slots := 0, locals := 0 } : Room).slots) := by
  refine MetFree.of_bodySF (plainFor_of_name pn_box) hisR ?_
  intro p e s m args below meth c s₁ Bd hml0 hP hK
  obtain ⟨rfl, hZ, hh⟩ := hP
  have hx := Bd.exec
  have hby := Bd.bytes
  have hml : c.maxLocals = 4 := hml0
  have hown : s.vm.findClass "com/example/triptych/triptych/rendering/BoxConstraints" = some m.cls := findClass_of_methodNamed Bd.named
  have hnm := (name_of_methodNamed Bd.named Bd.method).1
  have X0 : Stand p l e ({ frames := 0, cells := 0, slots := 0, locals := 0 } : Room) s m #[(.double (FP.l2d A)), (.double (FP.l2d B))] below meth c s₁ [] 0 0 := Stand.of_body Bd
  have e0 : s₁.heap = h0 := by rw [← hh, Bd.state]; rfl
  have N0 := Fr.nil n0
  have pre0 : ∀ tt, Steps p.tables e below (s₁.setTop (mkF m 0 #[.val (.double (FP.l2d A)), .second, .val (.double (FP.l2d B)), .second] [])) tt → Steps p.tables e below (s₁.setTop (entryFrame m #[(.double (FP.l2d A)), (.double (FP.l2d B))] 4)) tt := fun tt k => castTop (ef_rng m (FP.l2d A) (FP.l2d B)) k
  obtain ⟨fs, hr, hrun, hended, hW, hsame⟩ := X0.leave (v := some (.int (1 : Int32))) (fun h => by rw [Bd.returns] at h; cases h)
  refine ⟨_, _, pre0 _ ?_, hrun, hended, _, _, rfl, ?_, ⟨_, rfl⟩, hW, hsame.mono (by decide) (by decide)⟩
  · show Steps p.tables e below (s₁.setTop (mkF m 0 #[.val (.double (FP.l2d A)), .second, .val (.double (FP.l2d B)), .second] [])) _
    refine XS.dconst0 X0.here hx rfl (hb hby drng_0) l2d_zero.symm ?_
    show Steps p.tables e below (s₁.setTop (mkF m 1 #[.val (.double (FP.l2d A)), .second, .val (.double (FP.l2d B)), .second] [(.double (FP.l2d 0))])) _
    refine XS.dloadN X0.here hx rfl (hb hby drng_1) rfl ?_
    show Steps p.tables e below (s₁.setTop (mkF m 2 #[.val (.double (FP.l2d A)), .second, .val (.double (FP.l2d B)), .second] [(.double (FP.l2d A)), (.double (FP.l2d 0))])) _
    refine XS.dcmpS X0.here hx rfl (hb hby drng_2) rfl (dcmpV_w own_z bA .g) ?_
    show Steps p.tables e below (s₁.setTop (mkF m 3 #[.val (.double (FP.l2d A)), .second, .val (.double (FP.l2d B)), .second] [(.int (lcmpW 0 A))])) _
    refine XS.ifNo X0.here hx rfl (hb hby drng_3) rfl ((if0 _ _).trans (flt (fun q => hA ((lw_gt 0 A).mp q) : ¬ ((0 : Int32) < (lcmpW 0 A)))).2.2.1) ?_
    show Steps p.tables e below (s₁.setTop (mkF m 6 #[.val (.double (FP.l2d A)), .second, .val (.double (FP.l2d B)), .second] [])) _
    refine XS.dloadN X0.here hx rfl (hb hby drng_6) rfl ?_
    show Steps p.tables e below (s₁.setTop (mkF m 7 #[.val (.double (FP.l2d A)), .second, .val (.double (FP.l2d B)), .second] [(.double (FP.l2d A))])) _
    refine XS.dloadN X0.here hx rfl (hb hby drng_7) rfl ?_
    show Steps p.tables e below (s₁.setTop (mkF m 8 #[.val (.double (FP.l2d A)), .second, .val (.double (FP.l2d B)), .second] [(.double (FP.l2d B)), (.double (FP.l2d A))])) _
    refine XS.dcmpS X0.here hx rfl (hb hby drng_8) rfl (dcmpV_w bA bB .g) ?_
    show Steps p.tables e below (s₁.setTop (mkF m 9 #[.val (.double (FP.l2d A)), .second, .val (.double (FP.l2d B)), .second] [(.int (lcmpW A B))])) _
    refine XS.ifNo X0.here hx rfl (hb hby drng_9) rfl ((if0 _ _).trans (flt (fun q => hAB ((lw_gt A B).mp q) : ¬ ((0 : Int32) < (lcmpW A B)))).2.2.1) ?_
    show Steps p.tables e below (s₁.setTop (mkF m 12 #[.val (.double (FP.l2d A)), .second, .val (.double (FP.l2d B)), .second] [])) _
    refine XS.dloadN X0.here hx rfl (hb hby drng_12) rfl ?_
    show Steps p.tables e below (s₁.setTop (mkF m 13 #[.val (.double (FP.l2d A)), .second, .val (.double (FP.l2d B)), .second] [(.double (FP.l2d A))])) _
    refine X0.ldc2DoubleC hx hown (mvT hZ (hw _ (List.mem_of_getElem? (i := 18) rfl))) (g := (mkF m 13 #[.val (.double (FP.l2d A)), .second, .val (.double (FP.l2d B)), .second] [(.double (FP.l2d A))])) rfl (hb hby drng_13) _ ?_
    show Steps p.tables e below (s₁.setTop (mkF m 16 #[.val (.double (FP.l2d A)), .second, .val (.double (FP.l2d B)), .second] [(.double (9218868437227405312 : UInt64)), (.double (FP.l2d A))])) _
    refine XS.dcmpS X0.here hx rfl (hb hby drng_16) rfl (dcmp_pinf (Jvm.Free.Fl.l2d_fin A) .g) ?_
    show Steps p.tables e below (s₁.setTop (mkF m 17 #[.val (.double (FP.l2d A)), .second, .val (.double (FP.l2d B)), .second] [(.int (-1 : Int32))])) _
    refine XS.ifNo X0.here hx rfl (hb hby drng_17) rfl ((if0 _ _).trans (tlt (by decide : (-1 : Int32) < (0 : Int32))).2.1) ?_
    show Steps p.tables e below (s₁.setTop (mkF m 20 #[.val (.double (FP.l2d A)), .second, .val (.double (FP.l2d B)), .second] [])) _
    refine XS.iconst X0.here hx rfl (hb hby drng_20) ?_
    show Steps p.tables e below (s₁.setTop (mkF m 21 #[.val (.double (FP.l2d A)), .second, .val (.double (FP.l2d B)), .second] [(.int (1 : Int32))])) _
    refine XS.goto X0.here hx rfl (pc0 := 21) (pc' := 25) rfl (hb hby drng_21) (by decide) (by decide) ?_
    show Steps p.tables e below (s₁.setTop (mkF m 25 #[.val (.double (FP.l2d A)), .second, .val (.double (FP.l2d B)), .second] [(.int (1 : Int32))])) _
    exact retN X0 hx (t := .boolean) Bd.returns (by simp) (hb hby drng_25) hr
  · show Qrng Z A B h0 n0 _ s₁.heap _
    rw [e0]
    exact ⟨rfl, N0, rfl⟩
theorem ef_ini (m : MethodId) (x0 : Addr) (x1 : UInt64) (x2 : UInt64) (x3 : UInt64) (x4 : UInt64) : entryFrame m #[(.ref x0), (.double x1), (.double x2), (.double x3), (.double x4)] 9 = mkF m 0 #[.val (.ref x0), .val (.double x1), .second, .val (.double x2), .second, .val (.double x3), .second, .val (.double x4), .second] [] := by first | (simp [entryFrame, mkF, argsToLocals, Value.category]; done) | rfl
def Qini (Z : State) (a : Addr) (A : Int64) (B : Int64) (D : Int64) (E : Int64) (h0 : Heap) (n0 : Nat) (v : Option Value) (h : Heap) (L : List Loc) : Prop := v = none ∧ Fr n0 L ∧ Keep h0 h [a] ∧ Exa Z h a "com/example/triptych/triptych/rendering/BoxConstraints" ∧ Fld Z h a "com/example/triptych/triptych/rendering/BoxConstraints" "minWidth" "D" (.double (FP.l2d A)) ∧ Fld Z h a "com/example/triptych/triptych/rendering/BoxConstraints" "maxWidth" "D" (.double (FP.l2d B)) ∧ Fld Z h a "com/example/triptych/triptych/rendering/BoxConstraints" "minHeight" "D" (.double (FP.l2d D)) ∧ Fld Z h a "com/example/triptych/triptych/rendering/BoxConstraints" "maxHeight" "D" (.double (FP.l2d E))
set_option maxRecDepth 65536 in
set_option maxHeartbeats 40000000 in
theorem rmini (l : Launch) (Z : State) (a0 : Array Value) (hw : ∀ d ∈ tables_1, d.before a0 Z = true) (ws : List Jvm.Cond) (a : Addr) (A : Int64) (B : Int64) (D : Int64) (E : Int64) (h0 : Heap) (n0 : Nat) (Z0 : n0 ≤ h0.size) (F0 : Fld Z h0 a "com/example/triptych/triptych/rendering/BoxConstraints" "minWidth" "D" (.double 0)) (F1 : Fld Z h0 a "com/example/triptych/triptych/rendering/BoxConstraints" "maxWidth" "D" (.double 0)) (F2 : Fld Z h0 a "com/example/triptych/triptych/rendering/BoxConstraints" "minHeight" "D" (.double 0)) (F3 : Fld Z h0 a "com/example/triptych/triptych/rendering/BoxConstraints" "maxHeight" "D" (.double 0)) (E0 : Exa Z h0 a "com/example/triptych/triptych/rendering/BoxConstraints") (ga : n0 ≤ a) (bA : B53 A) (bB : B53 B) (hA : ¬ A < 0) (hAB : ¬ B < A) (bD : B53 D) (bE : B53 E) (hD : ¬ D < 0) (hDE : ¬ E < D) :
    MetFree l (⟨"com/example/triptych/triptych/rendering/BoxConstraints", "<init>", "(DDDD)V"⟩ : MethodName) (head1 (Jvm.Cond.code (⟨"com/example/triptych/triptych/rendering/BoxConstraints", "<init>", "(DDDD)V"⟩ : MethodName) prog_70_method_1_code 9 none :: ws) ({ frames := 2, cells := 0, slots := 0, locals := 24 } : Room)) (fun aa U => aa = #[(.ref a), (.double (FP.l2d A)), (.double (FP.l2d B)), (.double (FP.l2d D)), (.double (FP.l2d E))] ∧ Z.Warmed39 U.vm ∧ U.heap = h0) (fun _ _ _ _ _ => True) (fun _ U o U' => ∃ v L, o = .returned v ∧ Qini Z a A B D E h0 n0 v U'.heap L ∧ FrameEnd U o U' L ({ frames := 2, cells := 0, slots := 0, locals := 24 } : Room).cells ({ frames := 2, cells := 0, slots := 0, locals := 24 } : Room).slots) := by
  refine MetFree.of_bodySF (plainFor_of_name pn_box) hisR ?_
  intro p e s m args below meth c s₁ Bd hml0 hP hK
  obtain ⟨rfl, hZ, hh⟩ := hP
  have hx := Bd.exec
  have hby := Bd.bytes
  have hml : c.maxLocals = 9 := hml0
  have hown : s.vm.findClass "com/example/triptych/triptych/rendering/BoxConstraints" = some m.cls := findClass_of_methodNamed Bd.named
  have hnm := (name_of_methodNamed Bd.named Bd.method).1
  have X0 : Stand p l e ({ frames := 2, cells := 0, slots := 0, locals := 24 } : Room) s m #[(.ref a), (.double (FP.l2d A)), (.double (FP.l2d B)), (.double (FP.l2d D)), (.double (FP.l2d E))] below meth c s₁ [] 0 0 := Stand.of_body Bd
  have e0 : s₁.heap = h0 := by rw [← hh, Bd.state]; rfl
  have N0 := Fr.nil n0
  have pre0 : ∀ tt, Steps p.tables e below (s₁.setTop (mkF m 0 #[.val (.ref a), .val (.double (FP.l2d A)), .second, .val (.double (FP.l2d B)), .second, .val (.double (FP.l2d D)), .second, .val (.double (FP.l2d E)), .second] [])) tt → Steps p.tables e below (s₁.setTop (entryFrame m #[(.ref a), (.double (FP.l2d A)), (.double (FP.l2d B)), (.double (FP.l2d D)), (.double (FP.l2d E))] 9)) tt := fun tt k => castTop (ef_ini m a (FP.l2d A) (FP.l2d B) (FP.l2d D) (FP.l2d E)) k
  obtain ⟨_, _, ⟨T1, L1, k1, n1⟩, -, X1, ⟨Lc1, hQ1, l1, y1, z1⟩, st1⟩ := X0.specialBack hx (y := (⟨"java/lang/Record", "<init>", "()V"⟩ : MethodName)) rfl hown (mvT hZ (hw _ (List.mem_of_getElem? (i := 7) rfl))) (mvT hZ (hw _ (List.mem_of_getElem? (i := 8) rfl))) (mvT hZ (hw _ (List.mem_of_getElem? (i := 11) rfl))) (by decide) (backOf (W := 0) (rmrec l Z a0 hw [] a h0 n0 Z0) hZ (hw _ (List.mem_of_getElem? (i := 11) rfl)) (hw _ (List.mem_of_getElem? (i := 10) rfl)) (by decide) (by decide)) (g := (mkF m 1 #[.val (.ref a), .val (.double (FP.l2d A)), .second, .val (.double (FP.l2d B)), .second, .val (.double (FP.l2d D)), .second, .val (.double (FP.l2d E)), .second] [(.ref a)])) rfl (by rw [hml]; rfl) (Steps.refl _) (a := a) (argsL := []) (rest := []) (lenOf pd_v rfl) rfl (by show 2 * 0 + _ ≤ _; exact Nat.le_of_eq rfl) (hb hby dini_1) (fun _ _ => ⟨rfl, e0, (by decide : 0 + 0 ≤ _), (by decide : 0 + 0 ≤ _)⟩)
  dsimp only [Pt.U, Pt.locs, Pt.cells, Pt.slots] at X1 l1 y1 z1 st1 hQ1
  subst l1 y1 z1
  obtain ⟨rfl, M1, u1⟩ := hQ1
  have N1 := Fr.app N0 M1
  obtain ⟨_, _, ⟨T2, L2, k2, n2⟩, -, X2, ⟨Lc2, hQ2, l2, y2, z2⟩, st2⟩ := Jvm.LawKit.callS X1 hx (y := (⟨"com/example/triptych/triptych/rendering/BoxConstraints", "isRange", "(DD)Z"⟩ : MethodName)) hown (mvT hZ (hw _ (List.mem_of_getElem? (i := 15) rfl))) (mvT hZ (hw _ (List.mem_of_getElem? (i := 16) rfl))) (mvT hZ (hw _ (List.mem_of_getElem? (i := 3) rfl))) (mvT hZ (hw _ (List.mem_of_getElem? (i := 17) rfl))) (by decide) (backOf (W := 0) (rmrng l Z a0 hw [] A B h0 n0 Z0 bA bB hA hAB) hZ (hw _ (List.mem_of_getElem? (i := 17) rfl)) (hw _ (List.mem_of_getElem? (i := 3) rfl)) (by decide) (by decide)) (g := (mkF m 6 #[.val (.ref a), .val (.double (FP.l2d A)), .second, .val (.double (FP.l2d B)), .second, .val (.double (FP.l2d D)), .second, .val (.double (FP.l2d E)), .second] [(.double (FP.l2d B)), (.double (FP.l2d A))])) rfl (by rw [hml]; rfl) (argsL := [(.double (FP.l2d A)), (.double (FP.l2d B))]) (rest := []) (lenOf pd_dd rfl) rfl (by show 2 * 0 + _ ≤ _; exact Nat.le_of_eq rfl) (hb hby dini_6) (fun _ _ => ⟨rfl, u1, (by decide : 0 + 0 ≤ _), (by decide : 0 + 0 ≤ _)⟩)
  dsimp only [Pt.U, Pt.locs, Pt.cells, Pt.slots] at X2 l2 y2 z2 st2 hQ2
  subst l2 y2 z2
  obtain ⟨rfl, M2, u2⟩ := hQ2
  have N2 := Fr.app N1 M2
  have v2 : T2.heap = h0 := u2
  obtain ⟨_, _, ⟨T3, L3, k3, n3⟩, -, X3, ⟨Lc3, hQ3, l3, y3, z3⟩, st3⟩ := Jvm.LawKit.callS X2 hx (y := (⟨"com/example/triptych/triptych/rendering/BoxConstraints", "isRange", "(DD)Z"⟩ : MethodName)) hown (mvT hZ (hw _ (List.mem_of_getElem? (i := 15) rfl))) (mvT hZ (hw _ (List.mem_of_getElem? (i := 16) rfl))) (mvT hZ (hw _ (List.mem_of_getElem? (i := 3) rfl))) (mvT hZ (hw _ (List.mem_of_getElem? (i := 17) rfl))) (by decide) (backOf (W := 0) (rmrng l Z a0 hw [] D E h0 n0 Z0 bD bE hD hDE) hZ (hw _ (List.mem_of_getElem? (i := 17) rfl)) (hw _ (List.mem_of_getElem? (i := 3) rfl)) (by decide) (by decide)) (g := (mkF m 16 #[.val (.ref a), .val (.double (FP.l2d A)), .second, .val (.double (FP.l2d B)), .second, .val (.double (FP.l2d D)), .second, .val (.double (FP.l2d E)), .second] [(.double (FP.l2d E)), (.double (FP.l2d D))])) rfl (by rw [hml]; rfl) (argsL := [(.double (FP.l2d D)), (.double (FP.l2d E))]) (rest := []) (lenOf pd_dd rfl) rfl (by show 2 * 0 + _ ≤ _; exact Nat.le_of_eq rfl) (hb hby dini_16) (fun _ _ => ⟨rfl, v2, (by decide : 0 + 0 ≤ _), (by decide : 0 + 0 ≤ _)⟩)
  dsimp only [Pt.U, Pt.locs, Pt.cells, Pt.slots] at X3 l3 y3 z3 st3 hQ3
  subst l3 y3 z3
  obtain ⟨rfl, M3, u3⟩ := hQ3
  have N3 := Fr.app N2 M3
  obtain ⟨T4, h4, X4, e4, W4, st4⟩ := putF X3 hx hZ hown (host := "") (Or.inl (hw _ (List.mem_of_getElem? (i := 19) rfl))) Via.refl u3 F0 E0 (Or.inr ⟨(hw _ (List.mem_of_getElem? (i := 20) rfl)), rfl, hnm⟩) (hw _ (List.mem_of_getElem? (i := 2) rfl)) (ty := .double) (by decide) rfl rfl (g := (mkF m 43 #[.val (.ref a), .val (.double (FP.l2d A)), .second, .val (.double (FP.l2d B)), .second, .val (.double (FP.l2d D)), .second, .val (.double (FP.l2d E)), .second] [(.double (FP.l2d A)), (.ref a)])) rfl rfl (hb hby dini_43)
  have N4 := Fr.snoc X4 N3 ga
  have F0_0 : Fld Z h4 a "com/example/triptych/triptych/rendering/BoxConstraints" "minWidth" "D" (.double (FP.l2d A)) := (F0.same W4)
  have F0_1 : Fld Z h4 a "com/example/triptych/triptych/rendering/BoxConstraints" "maxWidth" "D" (.double 0) := (F1.other W4 (Or.inr (slot_ne (Or.inr (hw _ (List.mem_of_getElem? (i := 22) rfl))) (Or.inr (hw _ (List.mem_of_getElem? (i := 20) rfl))) (by decide) (t := .double) (t' := .double) (by decide) (by decide))))
  have F0_2 : Fld Z h4 a "com/example/triptych/triptych/rendering/BoxConstraints" "minHeight" "D" (.double 0) := (F2.other W4 (Or.inr (slot_ne (Or.inr (hw _ (List.mem_of_getElem? (i := 24) rfl))) (Or.inr (hw _ (List.mem_of_getElem? (i := 20) rfl))) (by decide) (t := .double) (t' := .double) (by decide) (by decide))))
  have F0_3 : Fld Z h4 a "com/example/triptych/triptych/rendering/BoxConstraints" "maxHeight" "D" (.double 0) := (F3.other W4 (Or.inr (slot_ne (Or.inr (hw _ (List.mem_of_getElem? (i := 26) rfl))) (Or.inr (hw _ (List.mem_of_getElem? (i := 20) rfl))) (by decide) (t := .double) (t' := .double) (by decide) (by decide))))
  have E1 : Exa Z h4 a "com/example/triptych/triptych/rendering/BoxConstraints" := E0.wr W4
  have K1 : Keep h0 h4 [a] := (Keep.refl h0 [a]).wr W4 (Or.inl (List.mem_of_getElem? (i := 0) rfl))
  obtain ⟨T5, h5, X5, e5, W5, st5⟩ := putF X4 hx hZ hown (host := "") (Or.inl (hw _ (List.mem_of_getElem? (i := 21) rfl))) Via.refl e4 F0_1 E1 (Or.inr ⟨(hw _ (List.mem_of_getElem? (i := 22) rfl)), rfl, hnm⟩) (hw _ (List.mem_of_getElem? (i := 2) rfl)) (ty := .double) (by decide) rfl rfl (g := (mkF m 48 #[.val (.ref a), .val (.double (FP.l2d A)), .second, .val (.double (FP.l2d B)), .second, .val (.double (FP.l2d D)), .second, .val (.double (FP.l2d E)), .second] [(.double (FP.l2d B)), (.ref a)])) rfl rfl (hb hby dini_48)
  have N5 := Fr.snoc X5 N4 ga
  have F1_0 : Fld Z h5 a "com/example/triptych/triptych/rendering/BoxConstraints" "minWidth" "D" (.double (FP.l2d A)) := (F0_0.other W5 (Or.inr (slot_ne (Or.inr (hw _ (List.mem_of_getElem? (i := 20) rfl))) (Or.inr (hw _ (List.mem_of_getElem? (i := 22) rfl))) (by decide) (t := .double) (t' := .double) (by decide) (by decide))))
  have F1_1 : Fld Z h5 a "com/example/triptych/triptych/rendering/BoxConstraints" "maxWidth" "D" (.double (FP.l2d B)) := (F0_1.same W5)
  have F1_2 : Fld Z h5 a "com/example/triptych/triptych/rendering/BoxConstraints" "minHeight" "D" (.double 0) := (F0_2.other W5 (Or.inr (slot_ne (Or.inr (hw _ (List.mem_of_getElem? (i := 24) rfl))) (Or.inr (hw _ (List.mem_of_getElem? (i := 22) rfl))) (by decide) (t := .double) (t' := .double) (by decide) (by decide))))
  have F1_3 : Fld Z h5 a "com/example/triptych/triptych/rendering/BoxConstraints" "maxHeight" "D" (.double 0) := (F0_3.other W5 (Or.inr (slot_ne (Or.inr (hw _ (List.mem_of_getElem? (i := 26) rfl))) (Or.inr (hw _ (List.mem_of_getElem? (i := 22) rfl))) (by decide) (t := .double) (t' := .double) (by decide) (by decide))))
  have E2 : Exa Z h5 a "com/example/triptych/triptych/rendering/BoxConstraints" := E1.wr W5
  have K2 : Keep h0 h5 [a] := K1.wr W5 (Or.inl (List.mem_of_getElem? (i := 0) rfl))
  obtain ⟨T6, h6, X6, e6, W6, st6⟩ := putF X5 hx hZ hown (host := "") (Or.inl (hw _ (List.mem_of_getElem? (i := 23) rfl))) Via.refl e5 F1_2 E2 (Or.inr ⟨(hw _ (List.mem_of_getElem? (i := 24) rfl)), rfl, hnm⟩) (hw _ (List.mem_of_getElem? (i := 2) rfl)) (ty := .double) (by decide) rfl rfl (g := (mkF m 54 #[.val (.ref a), .val (.double (FP.l2d A)), .second, .val (.double (FP.l2d B)), .second, .val (.double (FP.l2d D)), .second, .val (.double (FP.l2d E)), .second] [(.double (FP.l2d D)), (.ref a)])) rfl rfl (hb hby dini_54)
  have N6 := Fr.snoc X6 N5 ga
  have F2_0 : Fld Z h6 a "com/example/triptych/triptych/rendering/BoxConstraints" "minWidth" "D" (.double (FP.l2d A)) := (F1_0.other W6 (Or.inr (slot_ne (Or.inr (hw _ (List.mem_of_getElem? (i := 20) rfl))) (Or.inr (hw _ (List.mem_of_getElem? (i := 24) rfl))) (by decide) (t := .double) (t' := .double) (by decide) (by decide))))
  have F2_1 : Fld Z h6 a "com/example/triptych/triptych/rendering/BoxConstraints" "maxWidth" "D" (.double (FP.l2d B)) := (F1_1.other W6 (Or.inr (slot_ne (Or.inr (hw _ (List.mem_of_getElem? (i := 22) rfl))) (Or.inr (hw _ (List.mem_of_getElem? (i := 24) rfl))) (by decide) (t := .double) (t' := .double) (by decide) (by decide))))
  have F2_2 : Fld Z h6 a "com/example/triptych/triptych/rendering/BoxConstraints" "minHeight" "D" (.double (FP.l2d D)) := (F1_2.same W6)
  have F2_3 : Fld Z h6 a "com/example/triptych/triptych/rendering/BoxConstraints" "maxHeight" "D" (.double 0) := (F1_3.other W6 (Or.inr (slot_ne (Or.inr (hw _ (List.mem_of_getElem? (i := 26) rfl))) (Or.inr (hw _ (List.mem_of_getElem? (i := 24) rfl))) (by decide) (t := .double) (t' := .double) (by decide) (by decide))))
  have E3 : Exa Z h6 a "com/example/triptych/triptych/rendering/BoxConstraints" := E2.wr W6
  have K3 : Keep h0 h6 [a] := K2.wr W6 (Or.inl (List.mem_of_getElem? (i := 0) rfl))
  obtain ⟨T7, h7, X7, e7, W7, st7⟩ := putF X6 hx hZ hown (host := "") (Or.inl (hw _ (List.mem_of_getElem? (i := 25) rfl))) Via.refl e6 F2_3 E3 (Or.inr ⟨(hw _ (List.mem_of_getElem? (i := 26) rfl)), rfl, hnm⟩) (hw _ (List.mem_of_getElem? (i := 2) rfl)) (ty := .double) (by decide) rfl rfl (g := (mkF m 60 #[.val (.ref a), .val (.double (FP.l2d A)), .second, .val (.double (FP.l2d B)), .second, .val (.double (FP.l2d D)), .second, .val (.double (FP.l2d E)), .second] [(.double (FP.l2d E)), (.ref a)])) rfl rfl (hb hby dini_60)
  have N7 := Fr.snoc X7 N6 ga
  have F3_0 : Fld Z h7 a "com/example/triptych/triptych/rendering/BoxConstraints" "minWidth" "D" (.double (FP.l2d A)) := (F2_0.other W7 (Or.inr (slot_ne (Or.inr (hw _ (List.mem_of_getElem? (i := 20) rfl))) (Or.inr (hw _ (List.mem_of_getElem? (i := 26) rfl))) (by decide) (t := .double) (t' := .double) (by decide) (by decide))))
  have F3_1 : Fld Z h7 a "com/example/triptych/triptych/rendering/BoxConstraints" "maxWidth" "D" (.double (FP.l2d B)) := (F2_1.other W7 (Or.inr (slot_ne (Or.inr (hw _ (List.mem_of_getElem? (i := 22) rfl))) (Or.inr (hw _ (List.mem_of_getElem? (i := 26) rfl))) (by decide) (t := .double) (t' := .double) (by decide) (by decide))))
  have F3_2 : Fld Z h7 a "com/example/triptych/triptych/rendering/BoxConstraints" "minHeight" "D" (.double (FP.l2d D)) := (F2_2.other W7 (Or.inr (slot_ne (Or.inr (hw _ (List.mem_of_getElem? (i := 24) rfl))) (Or.inr (hw _ (List.mem_of_getElem? (i := 26) rfl))) (by decide) (t := .double) (t' := .double) (by decide) (by decide))))
  have F3_3 : Fld Z h7 a "com/example/triptych/triptych/rendering/BoxConstraints" "maxHeight" "D" (.double (FP.l2d E)) := (F2_3.same W7)
  have E4 : Exa Z h7 a "com/example/triptych/triptych/rendering/BoxConstraints" := E3.wr W7
  have K4 : Keep h0 h7 [a] := K3.wr W7 (Or.inl (List.mem_of_getElem? (i := 0) rfl))
  obtain ⟨fs, hr, hrun, hended, hW, hsame⟩ := X7.leave (v := none) (fun _ => rfl)
  refine ⟨_, _, pre0 _ ?_, hrun, hended, _, _, rfl, ?_, ⟨_, rfl⟩, hW, hsame.mono (by decide) (by decide)⟩
  · show Steps p.tables e below (s₁.setTop (mkF m 0 #[.val (.ref a), .val (.double (FP.l2d A)), .second, .val (.double (FP.l2d B)), .second, .val (.double (FP.l2d D)), .second, .val (.double (FP.l2d E)), .second] [])) _
    refine XS.aloadN X0.here hx rfl (hb hby dini_0) rfl rfl ?_
    show Steps p.tables e below (s₁.setTop (mkF m 1 #[.val (.ref a), .val (.double (FP.l2d A)), .second, .val (.double (FP.l2d B)), .second, .val (.double (FP.l2d D)), .second, .val (.double (FP.l2d E)), .second] [(.ref a)])) _
    refine st1.trans ?_
    show Steps p.tables e below (T1.setTop (mkF m 4 #[.val (.ref a), .val (.double (FP.l2d A)), .second, .val (.double (FP.l2d B)), .second, .val (.double (FP.l2d D)), .second, .val (.double (FP.l2d E)), .second] [])) _
    refine XS.dloadN X1.here hx rfl (hb hby dini_4) rfl ?_
    show Steps p.tables e below (T1.setTop (mkF m 5 #[.val (.ref a), .val (.double (FP.l2d A)), .second, .val (.double (FP.l2d B)), .second, .val (.double (FP.l2d D)), .second, .val (.double (FP.l2d E)), .second] [(.double (FP.l2d A))])) _
    refine XS.dloadN X1.here hx rfl (hb hby dini_5) rfl ?_
    show Steps p.tables e below (T1.setTop (mkF m 6 #[.val (.ref a), .val (.double (FP.l2d A)), .second, .val (.double (FP.l2d B)), .second, .val (.double (FP.l2d D)), .second, .val (.double (FP.l2d E)), .second] [(.double (FP.l2d B)), (.double (FP.l2d A))])) _
    refine st2 _ ?_
    show Steps p.tables e below (T2.setTop (mkF m 9 #[.val (.ref a), .val (.double (FP.l2d A)), .second, .val (.double (FP.l2d B)), .second, .val (.double (FP.l2d D)), .second, .val (.double (FP.l2d E)), .second] [(.int (1 : Int32))])) _
    refine XS.ifNo X2.here hx rfl (hb hby dini_9) rfl ((if0 _ _).trans (feq (by decide : ¬ ((1 : Int32) = (0 : Int32)))).1) ?_
    show Steps p.tables e below (T2.setTop (mkF m 12 #[.val (.ref a), .val (.double (FP.l2d A)), .second, .val (.double (FP.l2d B)), .second, .val (.double (FP.l2d D)), .second, .val (.double (FP.l2d E)), .second] [])) _
    refine XS.dload X2.here hx rfl (hb hby dini_12) rfl ?_
    show Steps p.tables e below (T2.setTop (mkF m 14 #[.val (.ref a), .val (.double (FP.l2d A)), .second, .val (.double (FP.l2d B)), .second, .val (.double (FP.l2d D)), .second, .val (.double (FP.l2d E)), .second] [(.double (FP.l2d D))])) _
    refine XS.dload X2.here hx rfl (hb hby dini_14) rfl ?_
    show Steps p.tables e below (T2.setTop (mkF m 16 #[.val (.ref a), .val (.double (FP.l2d A)), .second, .val (.double (FP.l2d B)), .second, .val (.double (FP.l2d D)), .second, .val (.double (FP.l2d E)), .second] [(.double (FP.l2d E)), (.double (FP.l2d D))])) _
    refine st3 _ ?_
    show Steps p.tables e below (T3.setTop (mkF m 19 #[.val (.ref a), .val (.double (FP.l2d A)), .second, .val (.double (FP.l2d B)), .second, .val (.double (FP.l2d D)), .second, .val (.double (FP.l2d E)), .second] [(.int (1 : Int32))])) _
    refine XS.ifYes X3.here hx rfl (pc0 := 19) (pc' := 41) rfl (hb hby dini_19) rfl ((if0 _ _).trans (feq (by decide : ¬ ((1 : Int32) = (0 : Int32)))).2) (by decide) (by decide) ?_
    show Steps p.tables e below (T3.setTop (mkF m 41 #[.val (.ref a), .val (.double (FP.l2d A)), .second, .val (.double (FP.l2d B)), .second, .val (.double (FP.l2d D)), .second, .val (.double (FP.l2d E)), .second] [])) _
    refine XS.aloadN X3.here hx rfl (hb hby dini_41) rfl rfl ?_
    show Steps p.tables e below (T3.setTop (mkF m 42 #[.val (.ref a), .val (.double (FP.l2d A)), .second, .val (.double (FP.l2d B)), .second, .val (.double (FP.l2d D)), .second, .val (.double (FP.l2d E)), .second] [(.ref a)])) _
    refine XS.dloadN X3.here hx rfl (hb hby dini_42) rfl ?_
    show Steps p.tables e below (T3.setTop (mkF m 43 #[.val (.ref a), .val (.double (FP.l2d A)), .second, .val (.double (FP.l2d B)), .second, .val (.double (FP.l2d D)), .second, .val (.double (FP.l2d E)), .second] [(.double (FP.l2d A)), (.ref a)])) _
    refine st4 _ ?_
    show Steps p.tables e below (T4.setTop (mkF m 46 #[.val (.ref a), .val (.double (FP.l2d A)), .second, .val (.double (FP.l2d B)), .second, .val (.double (FP.l2d D)), .second, .val (.double (FP.l2d E)), .second] [])) _
    refine XS.aloadN X4.here hx rfl (hb hby dini_46) rfl rfl ?_
    show Steps p.tables e below (T4.setTop (mkF m 47 #[.val (.ref a), .val (.double (FP.l2d A)), .second, .val (.double (FP.l2d B)), .second, .val (.double (FP.l2d D)), .second, .val (.double (FP.l2d E)), .second] [(.ref a)])) _
    refine XS.dloadN X4.here hx rfl (hb hby dini_47) rfl ?_
    show Steps p.tables e below (T4.setTop (mkF m 48 #[.val (.ref a), .val (.double (FP.l2d A)), .second, .val (.double (FP.l2d B)), .second, .val (.double (FP.l2d D)), .second, .val (.double (FP.l2d E)), .second] [(.double (FP.l2d B)), (.ref a)])) _
    refine st5 _ ?_
    show Steps p.tables e below (T5.setTop (mkF m 51 #[.val (.ref a), .val (.double (FP.l2d A)), .second, .val (.double (FP.l2d B)), .second, .val (.double (FP.l2d D)), .second, .val (.double (FP.l2d E)), .second] [])) _
    refine XS.aloadN X5.here hx rfl (hb hby dini_51) rfl rfl ?_
    show Steps p.tables e below (T5.setTop (mkF m 52 #[.val (.ref a), .val (.double (FP.l2d A)), .second, .val (.double (FP.l2d B)), .second, .val (.double (FP.l2d D)), .second, .val (.double (FP.l2d E)), .second] [(.ref a)])) _
    refine XS.dload X5.here hx rfl (hb hby dini_52) rfl ?_
    show Steps p.tables e below (T5.setTop (mkF m 54 #[.val (.ref a), .val (.double (FP.l2d A)), .second, .val (.double (FP.l2d B)), .second, .val (.double (FP.l2d D)), .second, .val (.double (FP.l2d E)), .second] [(.double (FP.l2d D)), (.ref a)])) _
    refine st6 _ ?_
    show Steps p.tables e below (T6.setTop (mkF m 57 #[.val (.ref a), .val (.double (FP.l2d A)), .second, .val (.double (FP.l2d B)), .second, .val (.double (FP.l2d D)), .second, .val (.double (FP.l2d E)), .second] [])) _
    refine XS.aloadN X6.here hx rfl (hb hby dini_57) rfl rfl ?_
    show Steps p.tables e below (T6.setTop (mkF m 58 #[.val (.ref a), .val (.double (FP.l2d A)), .second, .val (.double (FP.l2d B)), .second, .val (.double (FP.l2d D)), .second, .val (.double (FP.l2d E)), .second] [(.ref a)])) _
    refine XS.dload X6.here hx rfl (hb hby dini_58) rfl ?_
    show Steps p.tables e below (T6.setTop (mkF m 60 #[.val (.ref a), .val (.double (FP.l2d A)), .second, .val (.double (FP.l2d B)), .second, .val (.double (FP.l2d D)), .second, .val (.double (FP.l2d E)), .second] [(.double (FP.l2d E)), (.ref a)])) _
    refine st7 _ ?_
    show Steps p.tables e below (T7.setTop (mkF m 63 #[.val (.ref a), .val (.double (FP.l2d A)), .second, .val (.double (FP.l2d B)), .second, .val (.double (FP.l2d D)), .second, .val (.double (FP.l2d E)), .second] [])) _
    exact X7.returnOut hx Bd.returns (hb hby dini_63) hr
  · show Qini Z a A B D E h0 n0 _ T7.heap _
    rw [e7]
    exact ⟨rfl, N7, K4, E4, F3_0, F3_1, F3_2, F3_3⟩
theorem ef_tgt (m : MethodId) (x0 : Addr) : entryFrame m #[(.ref x0)] 1 = mkF m 0 #[.val (.ref x0)] [] := by first | (simp [entryFrame, mkF, argsToLocals, Value.category]; done) | rfl
def Qtgt (Z : State) (a : Addr) (A : Int64) (B : Int64) (D : Int64) (E : Int64) (h0 : Heap) (n0 : Nat) (v : Option Value) (h : Heap) (L : List Loc) : Prop := v = some (.int (own_t A B D E)) ∧ Fr n0 L ∧ h = h0
set_option maxRecDepth 65536 in
set_option maxHeartbeats 40000000 in
theorem rmtgt (l : Launch) (Z : State) (a0 : Array Value) (hw : ∀ d ∈ tables_1, d.before a0 Z = true) (ws : List Jvm.Cond) (a : Addr) (A : Int64) (B : Int64) (D : Int64) (E : Int64) (h0 : Heap) (n0 : Nat) (Z0 : n0 ≤ h0.size) (F0 : Fld Z h0 a "com/example/triptych/triptych/rendering/BoxConstraints" "minWidth" "D" (.double (FP.l2d A))) (F1 : Fld Z h0 a "com/example/triptych/triptych/rendering/BoxConstraints" "maxWidth" "D" (.double (FP.l2d B))) (F2 : Fld Z h0 a "com/example/triptych/triptych/rendering/BoxConstraints" "minHeight" "D" (.double (FP.l2d D))) (F3 : Fld Z h0 a "com/example/triptych/triptych/rendering/BoxConstraints" "maxHeight" "D" (.double (FP.l2d E))) (bA : B53 A) (bB : B53 B) (bD : B53 D) (bE : B53 E) :
    MetFree l (⟨"com/example/triptych/triptych/rendering/BoxConstraints", "isTight", "()Z"⟩ : MethodName) (head1 (Jvm.Cond.code (⟨"com/example/triptych/triptych/rendering/BoxConstraints", "isTight", "()Z"⟩ : MethodName) prog_70_method_3_code 1 (some .boolean) :: ws) ({ frames := 0, cells := 0, slots := 0, locals := 0 } : Room)) (fun aa U => aa = #[(.ref a)] ∧ Z.Warmed39 U.vm ∧ U.heap = h0) (fun _ _ _ _ _ => True) (fun _ U o U' => ∃ v L, o = .returned v ∧ Qtgt Z a A B D E h0 n0 v U'.heap L ∧ FrameEnd U o U' L ({ frames := 0, cells := 0, slots := 0, locals := 0 } : Room).cells ({ frames := 0, cells := 0, slots := 0, locals := 0 } : Room).slots) := by
  refine MetFree.of_bodySF (plainFor_of_name pn_box) hisR ?_
  intro p e s m args below meth c s₁ Bd hml0 hP hK
  obtain ⟨rfl, hZ, hh⟩ := hP
  have hx := Bd.exec
  have hby := Bd.bytes
  have hml : c.maxLocals = 1 := hml0
  have hown : s.vm.findClass "com/example/triptych/triptych/rendering/BoxConstraints" = some m.cls := findClass_of_methodNamed Bd.named
  have hnm := (name_of_methodNamed Bd.named Bd.method).1
  have X0 : Stand p l e ({ frames := 0, cells := 0, slots := 0, locals := 0 } : Room) s m #[(.ref a)] below meth c s₁ [] 0 0 := Stand.of_body Bd
  have e0 : s₁.heap = h0 := by rw [← hh, Bd.state]; rfl
  have N0 := Fr.nil n0
  have pre0 : ∀ tt, Steps p.tables e below (s₁.setTop (mkF m 0 #[.val (.ref a)] [])) tt → Steps p.tables e below (s₁.setTop (entryFrame m #[(.ref a)] 1)) tt := fun tt k => castTop (ef_tgt m a) k
  obtain ⟨T1, X1, e1, st1⟩ := getF X0 hx hZ hown (host := "") (Or.inl (hw _ (List.mem_of_getElem? (i := 19) rfl))) Via.refl e0 F0 (g := (mkF m 1 #[.val (.ref a)] [(.ref a)])) rfl rfl (hb hby dtgt_1)
  obtain ⟨T2, X2, e2, st2⟩ := getF X1 hx hZ hown (host := "") (Or.inl (hw _ (List.mem_of_getElem? (i := 21) rfl))) Via.refl e1 F1 (g := (mkF m 5 #[.val (.ref a)] [(.ref a), (.double (FP.l2d A))])) rfl rfl (hb hby dtgt_5)
  by_cases hw1 : A = B
  · obtain ⟨T3, X3, e3, st3⟩ := getF X2 hx hZ hown (host := "") (Or.inl (hw _ (List.mem_of_getElem? (i := 23) rfl))) Via.refl e2 F2 (g := (mkF m 13 #[.val (.ref a)] [(.ref a)])) rfl rfl (hb hby dtgt_13)
    obtain ⟨T4, X4, e4, st4⟩ := getF X3 hx hZ hown (host := "") (Or.inl (hw _ (List.mem_of_getElem? (i := 25) rfl))) Via.refl e3 F3 (g := (mkF m 17 #[.val (.ref a)] [(.ref a), (.double (FP.l2d D))])) rfl rfl (hb hby dtgt_17)
    by_cases hw2 : D = E
    · obtain ⟨fs, hr, hrun, hended, hW, hsame⟩ := X4.leave (v := some (.int (1 : Int32))) (fun h => by rw [Bd.returns] at h; cases h)
      refine ⟨_, _, pre0 _ ?_, hrun, hended, _, _, rfl, ?_, ⟨_, rfl⟩, hW, hsame.mono (by decide) (by decide)⟩
      · show Steps p.tables e below (s₁.setTop (mkF m 0 #[.val (.ref a)] [])) _
        refine XS.aloadN X0.here hx rfl (hb hby dtgt_0) rfl rfl ?_
        show Steps p.tables e below (s₁.setTop (mkF m 1 #[.val (.ref a)] [(.ref a)])) _
        refine st1 _ ?_
        show Steps p.tables e below (T1.setTop (mkF m 4 #[.val (.ref a)] [(.double (FP.l2d A))])) _
        refine XS.aloadN X1.here hx rfl (hb hby dtgt_4) rfl rfl ?_
        show Steps p.tables e below (T1.setTop (mkF m 5 #[.val (.ref a)] [(.ref a), (.double (FP.l2d A))])) _
        refine st2 _ ?_
        show Steps p.tables e below (T2.setTop (mkF m 8 #[.val (.ref a)] [(.double (FP.l2d B)), (.double (FP.l2d A))])) _
        refine XS.dcmpS X2.here hx rfl (hb hby dtgt_8) rfl (dcmpV_w bA bB .l) ?_
        show Steps p.tables e below (T2.setTop (mkF m 9 #[.val (.ref a)] [(.int (lcmpW A B))])) _
        refine XS.ifNo X2.here hx rfl (hb hby dtgt_9) rfl ((if0 _ _).trans (teq ((lw_eq A B).mpr hw1 : (lcmpW A B) = (0 : Int32))).2) ?_
        show Steps p.tables e below (T2.setTop (mkF m 12 #[.val (.ref a)] [])) _
        refine XS.aloadN X2.here hx rfl (hb hby dtgt_12) rfl rfl ?_
        show Steps p.tables e below (T2.setTop (mkF m 13 #[.val (.ref a)] [(.ref a)])) _
        refine st3 _ ?_
        show Steps p.tables e below (T3.setTop (mkF m 16 #[.val (.ref a)] [(.double (FP.l2d D))])) _
        refine XS.aloadN X3.here hx rfl (hb hby dtgt_16) rfl rfl ?_
        show Steps p.tables e below (T3.setTop (mkF m 17 #[.val (.ref a)] [(.ref a), (.double (FP.l2d D))])) _
        refine st4 _ ?_
        show Steps p.tables e below (T4.setTop (mkF m 20 #[.val (.ref a)] [(.double (FP.l2d E)), (.double (FP.l2d D))])) _
        refine XS.dcmpS X4.here hx rfl (hb hby dtgt_20) rfl (dcmpV_w bD bE .l) ?_
        show Steps p.tables e below (T4.setTop (mkF m 21 #[.val (.ref a)] [(.int (lcmpW D E))])) _
        refine XS.ifNo X4.here hx rfl (hb hby dtgt_21) rfl ((if0 _ _).trans (teq ((lw_eq D E).mpr hw2 : (lcmpW D E) = (0 : Int32))).2) ?_
        show Steps p.tables e below (T4.setTop (mkF m 24 #[.val (.ref a)] [])) _
        refine XS.iconst X4.here hx rfl (hb hby dtgt_24) ?_
        show Steps p.tables e below (T4.setTop (mkF m 25 #[.val (.ref a)] [(.int (1 : Int32))])) _
        refine XS.goto X4.here hx rfl (pc0 := 25) (pc' := 29) rfl (hb hby dtgt_25) (by decide) (by decide) ?_
        show Steps p.tables e below (T4.setTop (mkF m 29 #[.val (.ref a)] [(.int (1 : Int32))])) _
        exact retN X4 hx (t := .boolean) Bd.returns (by simp) (hb hby dtgt_29) hr
      · show Qtgt Z a A B D E h0 n0 _ T4.heap _
        rw [e4]
        exact ⟨(congrArg (fun z => some (Value.int z)) (show (1 : Int32) = own_t A B D E from by simp [own_t, hw1, hw2])), N0, rfl⟩
    · obtain ⟨fs, hr, hrun, hended, hW, hsame⟩ := X4.leave (v := some (.int (0 : Int32))) (fun h => by rw [Bd.returns] at h; cases h)
      refine ⟨_, _, pre0 _ ?_, hrun, hended, _, _, rfl, ?_, ⟨_, rfl⟩, hW, hsame.mono (by decide) (by decide)⟩
      · show Steps p.tables e below (s₁.setTop (mkF m 0 #[.val (.ref a)] [])) _
        refine XS.aloadN X0.here hx rfl (hb hby dtgt_0) rfl rfl ?_
        show Steps p.tables e below (s₁.setTop (mkF m 1 #[.val (.ref a)] [(.ref a)])) _
        refine st1 _ ?_
        show Steps p.tables e below (T1.setTop (mkF m 4 #[.val (.ref a)] [(.double (FP.l2d A))])) _
        refine XS.aloadN X1.here hx rfl (hb hby dtgt_4) rfl rfl ?_
        show Steps p.tables e below (T1.setTop (mkF m 5 #[.val (.ref a)] [(.ref a), (.double (FP.l2d A))])) _
        refine st2 _ ?_
        show Steps p.tables e below (T2.setTop (mkF m 8 #[.val (.ref a)] [(.double (FP.l2d B)), (.double (FP.l2d A))])) _
        refine XS.dcmpS X2.here hx rfl (hb hby dtgt_8) rfl (dcmpV_w bA bB .l) ?_
        show Steps p.tables e below (T2.setTop (mkF m 9 #[.val (.ref a)] [(.int (lcmpW A B))])) _
        refine XS.ifNo X2.here hx rfl (hb hby dtgt_9) rfl ((if0 _ _).trans (teq ((lw_eq A B).mpr hw1 : (lcmpW A B) = (0 : Int32))).2) ?_
        show Steps p.tables e below (T2.setTop (mkF m 12 #[.val (.ref a)] [])) _
        refine XS.aloadN X2.here hx rfl (hb hby dtgt_12) rfl rfl ?_
        show Steps p.tables e below (T2.setTop (mkF m 13 #[.val (.ref a)] [(.ref a)])) _
        refine st3 _ ?_
        show Steps p.tables e below (T3.setTop (mkF m 16 #[.val (.ref a)] [(.double (FP.l2d D))])) _
        refine XS.aloadN X3.here hx rfl (hb hby dtgt_16) rfl rfl ?_
        show Steps p.tables e below (T3.setTop (mkF m 17 #[.val (.ref a)] [(.ref a), (.double (FP.l2d D))])) _
        refine st4 _ ?_
        show Steps p.tables e below (T4.setTop (mkF m 20 #[.val (.ref a)] [(.double (FP.l2d E)), (.double (FP.l2d D))])) _
        refine XS.dcmpS X4.here hx rfl (hb hby dtgt_20) rfl (dcmpV_w bD bE .l) ?_
        show Steps p.tables e below (T4.setTop (mkF m 21 #[.val (.ref a)] [(.int (lcmpW D E))])) _
        refine XS.ifYes X4.here hx rfl (pc0 := 21) (pc' := 28) rfl (hb hby dtgt_21) rfl ((if0 _ _).trans (feq (fun q => hw2 ((lw_eq D E).mp q) : ¬ ((lcmpW D E) = (0 : Int32)))).2) (by decide) (by decide) ?_
        show Steps p.tables e below (T4.setTop (mkF m 28 #[.val (.ref a)] [])) _
        refine XS.iconst X4.here hx rfl (hb hby dtgt_28) ?_
        show Steps p.tables e below (T4.setTop (mkF m 29 #[.val (.ref a)] [(.int (0 : Int32))])) _
        exact retN X4 hx (t := .boolean) Bd.returns (by simp) (hb hby dtgt_29) hr
      · show Qtgt Z a A B D E h0 n0 _ T4.heap _
        rw [e4]
        exact ⟨(congrArg (fun z => some (Value.int z)) (show (0 : Int32) = own_t A B D E from by simp [own_t, hw2])), N0, rfl⟩
  · obtain ⟨fs, hr, hrun, hended, hW, hsame⟩ := X2.leave (v := some (.int (0 : Int32))) (fun h => by rw [Bd.returns] at h; cases h)
    refine ⟨_, _, pre0 _ ?_, hrun, hended, _, _, rfl, ?_, ⟨_, rfl⟩, hW, hsame.mono (by decide) (by decide)⟩
    · show Steps p.tables e below (s₁.setTop (mkF m 0 #[.val (.ref a)] [])) _
      refine XS.aloadN X0.here hx rfl (hb hby dtgt_0) rfl rfl ?_
      show Steps p.tables e below (s₁.setTop (mkF m 1 #[.val (.ref a)] [(.ref a)])) _
      refine st1 _ ?_
      show Steps p.tables e below (T1.setTop (mkF m 4 #[.val (.ref a)] [(.double (FP.l2d A))])) _
      refine XS.aloadN X1.here hx rfl (hb hby dtgt_4) rfl rfl ?_
      show Steps p.tables e below (T1.setTop (mkF m 5 #[.val (.ref a)] [(.ref a), (.double (FP.l2d A))])) _
      refine st2 _ ?_
      show Steps p.tables e below (T2.setTop (mkF m 8 #[.val (.ref a)] [(.double (FP.l2d B)), (.double (FP.l2d A))])) _
      refine XS.dcmpS X2.here hx rfl (hb hby dtgt_8) rfl (dcmpV_w bA bB .l) ?_
      show Steps p.tables e below (T2.setTop (mkF m 9 #[.val (.ref a)] [(.int (lcmpW A B))])) _
      refine XS.ifYes X2.here hx rfl (pc0 := 9) (pc' := 28) rfl (hb hby dtgt_9) rfl ((if0 _ _).trans (feq (fun q => hw1 ((lw_eq A B).mp q) : ¬ ((lcmpW A B) = (0 : Int32)))).2) (by decide) (by decide) ?_
      show Steps p.tables e below (T2.setTop (mkF m 28 #[.val (.ref a)] [])) _
      refine XS.iconst X2.here hx rfl (hb hby dtgt_28) ?_
      show Steps p.tables e below (T2.setTop (mkF m 29 #[.val (.ref a)] [(.int (0 : Int32))])) _
      exact retN X2 hx (t := .boolean) Bd.returns (by simp) (hb hby dtgt_29) hr
    · show Qtgt Z a A B D E h0 n0 _ T2.heap _
      rw [e2]
      exact ⟨(congrArg (fun z => some (Value.int z)) (show (0 : Int32) = own_t A B D E from by simp [own_t, hw1])), N0, rfl⟩
theorem ef_law (m : MethodId) (x0 : Int32) (x1 : Int32) (x2 : Int32) (x3 : Int32) (x4 : Int32) : entryFrame m #[(.int x0), (.int x1), (.int x2), (.int x3), (.int x4)] maxLocals = mkF m 0 #[.val (.int x0), .val (.int x1), .val (.int x2), .val (.int x3), .val (.int x4), .unset, .unset, .unset, .unset, .unset, .unset, .unset, .unset, .unset, .unset, .unset, .unset, .unset, .unset, .unset, .unset, .unset, .unset] [] := by first | (simp [entryFrame, mkF, argsToLocals, Value.category, maxLocals]; done) | rfl
def Qlaw (Z : State) (p1 : Int32) (p2 : Int32) (p3 : Int32) (p4 : Int32) (p5 : Int32) (h0 : Heap) (n0 : Nat) (v : Option Value) (h : Heap) (L : List Loc) : Prop := v = some (.int (1 : Int32)) ∧ Fr n0 L
set_option maxRecDepth 65536 in
set_option maxHeartbeats 40000000 in
theorem rmlaw (l : Launch) (Z : State) (a0 : Array Value) (hw : ∀ d ∈ tables_1, d.before a0 Z = true) (ws : List Jvm.Cond) (p1 : Int32) (p2 : Int32) (p3 : Int32) (p4 : Int32) (p5 : Int32) (h0 : Heap) (n0 : Nat) (Z0 : n0 ≤ h0.size) :
    MetFree l x (head1 (Jvm.Cond.code x code maxLocals ret :: ws) room_1) (fun aa U => aa = #[(.int p1), (.int p2), (.int p3), (.int p4), (.int p5)] ∧ Z.Warmed39 U.vm ∧ U.heap = h0) (fun _ _ _ _ _ => True) (fun _ U o U' => ∃ v L, o = .returned v ∧ Qlaw Z p1 p2 p3 p4 p5 h0 n0 v U'.heap L ∧ FrameEnd U o U' L 1 4) := by
  refine MetFree.of_bodySF (plainFor_of_name pn_law) hisR ?_
  intro p e s m args below meth c s₁ Bd hml0 hP hK
  obtain ⟨rfl, hZ, hh⟩ := hP
  have hx := Bd.exec
  have hby := Bd.bytes
  have hml : c.maxLocals = 23 := hml0
  have hown : s.vm.findClass "com/example/triptych/triptych/rendering/BoxConstraintsIsTightPinLaw" = some m.cls := findClass_of_methodNamed Bd.named
  have hnm := (name_of_methodNamed Bd.named Bd.method).1
  have X0 : Stand p l e room_1 s m #[(.int p1), (.int p2), (.int p3), (.int p4), (.int p5)] below meth c s₁ [] 0 0 := Stand.of_body Bd
  have e0 : s₁.heap = h0 := by rw [← hh, Bd.state]; rfl
  have N0 := Fr.nil n0
  have pre0 : ∀ tt, Steps p.tables e below (s₁.setTop (mkF m 0 #[.val (.int p1), .val (.int p2), .val (.int p3), .val (.int p4), .val (.int p5), .unset, .unset, .unset, .unset, .unset, .unset, .unset, .unset, .unset, .unset, .unset, .unset, .unset, .unset, .unset, .unset, .unset, .unset] [])) tt → Steps p.tables e below (s₁.setTop (entryFrame m #[(.int p1), (.int p2), (.int p3), (.int p4), (.int p5)] maxLocals)) tt := fun tt k => castTop (ef_law m p1 p2 p3 p4 p5) k
  have sg1 : ∀ t, Steps p.tables e below (s₁.setTop (mkF m 35 #[.val (.int p1), .val (.int p2), .val (.int p3), .val (.int p4), .val (.int p5), .val (.long (own_m p1)), .second, .val (.long (own_m p3)), .second, .val (.long (own_d 1 p5 p2)), .second, .unset, .unset, .unset, .unset, .unset, .unset, .unset, .unset, .unset, .unset, .unset, .unset] [])) t → Steps p.tables e below (s₁.setTop (mkF m 16 #[.val (.int p1), .val (.int p2), .val (.int p3), .val (.int p4), .val (.int p5), .val (.long (own_m p1)), .second, .val (.long (own_m p3)), .second, .unset, .unset, .unset, .unset, .unset, .unset, .unset, .unset, .unset, .unset, .unset, .unset, .unset, .unset] [])) t := by
    intro t k
    by_cases hs : (p5 &&& (1 : Int32)) = (0 : Int32)
    · rw [show own_d 1 p5 p2 = own_m p2 from if_pos hs] at k
      show Steps p.tables e below (s₁.setTop (mkF m 16 #[.val (.int p1), .val (.int p2), .val (.int p3), .val (.int p4), .val (.int p5), .val (.long (own_m p1)), .second, .val (.long (own_m p3)), .second, .unset, .unset, .unset, .unset, .unset, .unset, .unset, .unset, .unset, .unset, .unset, .unset, .unset, .unset] [])) _
      refine XS.iload X0.here hx rfl (hb hby at_16) rfl ?_
      show Steps p.tables e below (s₁.setTop (mkF m 18 #[.val (.int p1), .val (.int p2), .val (.int p3), .val (.int p4), .val (.int p5), .val (.long (own_m p1)), .second, .val (.long (own_m p3)), .second, .unset, .unset, .unset, .unset, .unset, .unset, .unset, .unset, .unset, .unset, .unset, .unset, .unset, .unset] [(.int p5)])) _
      refine XS.iconst X0.here hx rfl (hb hby at_18) ?_
      show Steps p.tables e below (s₁.setTop (mkF m 19 #[.val (.int p1), .val (.int p2), .val (.int p3), .val (.int p4), .val (.int p5), .val (.long (own_m p1)), .second, .val (.long (own_m p3)), .second, .unset, .unset, .unset, .unset, .unset, .unset, .unset, .unset, .unset, .unset, .unset, .unset, .unset, .unset] [(.int (1 : Int32)), (.int p5)])) _
      refine XS.iand X0.here hx rfl (hb hby at_19) rfl ?_
      show Steps p.tables e below (s₁.setTop (mkF m 20 #[.val (.int p1), .val (.int p2), .val (.int p3), .val (.int p4), .val (.int p5), .val (.long (own_m p1)), .second, .val (.long (own_m p3)), .second, .unset, .unset, .unset, .unset, .unset, .unset, .unset, .unset, .unset, .unset, .unset, .unset, .unset, .unset] [(.int (p5 &&& (1 : Int32)))])) _
      refine XS.ifYes X0.here hx rfl (pc0 := 20) (pc' := 27) rfl (hb hby at_20) rfl ((if0 _ _).trans (teq (hs : (p5 &&& (1 : Int32)) = (0 : Int32))).1) (by decide) (by decide) ?_
      show Steps p.tables e below (s₁.setTop (mkF m 27 #[.val (.int p1), .val (.int p2), .val (.int p3), .val (.int p4), .val (.int p5), .val (.long (own_m p1)), .second, .val (.long (own_m p3)), .second, .unset, .unset, .unset, .unset, .unset, .unset, .unset, .unset, .unset, .unset, .unset, .unset, .unset, .unset] [])) _
      refine XS.iloadN X0.here hx rfl (hb hby at_27) rfl ?_
      show Steps p.tables e below (s₁.setTop (mkF m 28 #[.val (.int p1), .val (.int p2), .val (.int p3), .val (.int p4), .val (.int p5), .val (.long (own_m p1)), .second, .val (.long (own_m p3)), .second, .unset, .unset, .unset, .unset, .unset, .unset, .unset, .unset, .unset, .unset, .unset, .unset, .unset, .unset] [(.int p2)])) _
      refine XS.i2l X0.here hx rfl (hb hby at_28) rfl ?_
      show Steps p.tables e below (s₁.setTop (mkF m 29 #[.val (.int p1), .val (.int p2), .val (.int p3), .val (.int p4), .val (.int p5), .val (.long (own_m p1)), .second, .val (.long (own_m p3)), .second, .unset, .unset, .unset, .unset, .unset, .unset, .unset, .unset, .unset, .unset, .unset, .unset, .unset, .unset] [(.long (p2).toInt64)])) _
      refine X0.ldc2Long hx hown (mvT hZ (hw _ (List.mem_of_getElem? (i := 0) rfl))) (g := (mkF m 29 #[.val (.int p1), .val (.int p2), .val (.int p3), .val (.int p4), .val (.int p5), .val (.long (own_m p1)), .second, .val (.long (own_m p3)), .second, .unset, .unset, .unset, .unset, .unset, .unset, .unset, .unset, .unset, .unset, .unset, .unset, .unset, .unset] [(.long (p2).toInt64)])) rfl (hb hby at_29) _ ?_
      show Steps p.tables e below (s₁.setTop (mkF m 32 #[.val (.int p1), .val (.int p2), .val (.int p3), .val (.int p4), .val (.int p5), .val (.long (own_m p1)), .second, .val (.long (own_m p3)), .second, .unset, .unset, .unset, .unset, .unset, .unset, .unset, .unset, .unset, .unset, .unset, .unset, .unset, .unset] [(.long (2147483647 : Int64)), (.long (p2).toInt64)])) _
      refine XS.land X0.here hx rfl (hb hby at_32) rfl ?_
      show Steps p.tables e below (s₁.setTop (mkF m 33 #[.val (.int p1), .val (.int p2), .val (.int p3), .val (.int p4), .val (.int p5), .val (.long (own_m p1)), .second, .val (.long (own_m p3)), .second, .unset, .unset, .unset, .unset, .unset, .unset, .unset, .unset, .unset, .unset, .unset, .unset, .unset, .unset] [(.long (own_m p2))])) _
      refine XS.lstore X0.here hx rfl (hb hby at_33) rfl (l' := #[.val (.int p1), .val (.int p2), .val (.int p3), .val (.int p4), .val (.int p5), .val (.long (own_m p1)), .second, .val (.long (own_m p3)), .second, .val (.long (own_m p2)), .second, .unset, .unset, .unset, .unset, .unset, .unset, .unset, .unset, .unset, .unset, .unset, .unset]) rfl ?_
      exact k
    · rw [show own_d 1 p5 p2 = (0 : Int64) from if_neg hs] at k
      show Steps p.tables e below (s₁.setTop (mkF m 16 #[.val (.int p1), .val (.int p2), .val (.int p3), .val (.int p4), .val (.int p5), .val (.long (own_m p1)), .second, .val (.long (own_m p3)), .second, .unset, .unset, .unset, .unset, .unset, .unset, .unset, .unset, .unset, .unset, .unset, .unset, .unset, .unset] [])) _
      refine XS.iload X0.here hx rfl (hb hby at_16) rfl ?_
      show Steps p.tables e below (s₁.setTop (mkF m 18 #[.val (.int p1), .val (.int p2), .val (.int p3), .val (.int p4), .val (.int p5), .val (.long (own_m p1)), .second, .val (.long (own_m p3)), .second, .unset, .unset, .unset, .unset, .unset, .unset, .unset, .unset, .unset, .unset, .unset, .unset, .unset, .unset] [(.int p5)])) _
      refine XS.iconst X0.here hx rfl (hb hby at_18) ?_
      show Steps p.tables e below (s₁.setTop (mkF m 19 #[.val (.int p1), .val (.int p2), .val (.int p3), .val (.int p4), .val (.int p5), .val (.long (own_m p1)), .second, .val (.long (own_m p3)), .second, .unset, .unset, .unset, .unset, .unset, .unset, .unset, .unset, .unset, .unset, .unset, .unset, .unset, .unset] [(.int (1 : Int32)), (.int p5)])) _
      refine XS.iand X0.here hx rfl (hb hby at_19) rfl ?_
      show Steps p.tables e below (s₁.setTop (mkF m 20 #[.val (.int p1), .val (.int p2), .val (.int p3), .val (.int p4), .val (.int p5), .val (.long (own_m p1)), .second, .val (.long (own_m p3)), .second, .unset, .unset, .unset, .unset, .unset, .unset, .unset, .unset, .unset, .unset, .unset, .unset, .unset, .unset] [(.int (p5 &&& (1 : Int32)))])) _
      refine XS.ifNo X0.here hx rfl (hb hby at_20) rfl ((if0 _ _).trans (feq (hs : ¬ ((p5 &&& (1 : Int32)) = (0 : Int32)))).1) ?_
      show Steps p.tables e below (s₁.setTop (mkF m 23 #[.val (.int p1), .val (.int p2), .val (.int p3), .val (.int p4), .val (.int p5), .val (.long (own_m p1)), .second, .val (.long (own_m p3)), .second, .unset, .unset, .unset, .unset, .unset, .unset, .unset, .unset, .unset, .unset, .unset, .unset, .unset, .unset] [])) _
      refine XS.lconst X0.here hx rfl (hb hby at_23) ?_
      show Steps p.tables e below (s₁.setTop (mkF m 24 #[.val (.int p1), .val (.int p2), .val (.int p3), .val (.int p4), .val (.int p5), .val (.long (own_m p1)), .second, .val (.long (own_m p3)), .second, .unset, .unset, .unset, .unset, .unset, .unset, .unset, .unset, .unset, .unset, .unset, .unset, .unset, .unset] [(.long (0 : Int64))])) _
      refine XS.goto X0.here hx rfl (pc0 := 24) (pc' := 33) rfl (hb hby at_24) (by decide) (by decide) ?_
      show Steps p.tables e below (s₁.setTop (mkF m 33 #[.val (.int p1), .val (.int p2), .val (.int p3), .val (.int p4), .val (.int p5), .val (.long (own_m p1)), .second, .val (.long (own_m p3)), .second, .unset, .unset, .unset, .unset, .unset, .unset, .unset, .unset, .unset, .unset, .unset, .unset, .unset, .unset] [(.long (0 : Int64))])) _
      refine XS.lstore X0.here hx rfl (hb hby at_33) rfl (l' := #[.val (.int p1), .val (.int p2), .val (.int p3), .val (.int p4), .val (.int p5), .val (.long (own_m p1)), .second, .val (.long (own_m p3)), .second, .val (.long (0 : Int64)), .second, .unset, .unset, .unset, .unset, .unset, .unset, .unset, .unset, .unset, .unset, .unset, .unset]) rfl ?_
      exact k
  have sg2 : ∀ t, Steps p.tables e below (s₁.setTop (mkF m 54 #[.val (.int p1), .val (.int p2), .val (.int p3), .val (.int p4), .val (.int p5), .val (.long (own_m p1)), .second, .val (.long (own_m p3)), .second, .val (.long (own_d 1 p5 p2)), .second, .val (.long (own_d 2 p5 p4)), .second, .unset, .unset, .unset, .unset, .unset, .unset, .unset, .unset, .unset, .unset] [])) t → Steps p.tables e below (s₁.setTop (mkF m 35 #[.val (.int p1), .val (.int p2), .val (.int p3), .val (.int p4), .val (.int p5), .val (.long (own_m p1)), .second, .val (.long (own_m p3)), .second, .val (.long (own_d 1 p5 p2)), .second, .unset, .unset, .unset, .unset, .unset, .unset, .unset, .unset, .unset, .unset, .unset, .unset] [])) t := by
    intro t k
    by_cases hs : (p5 &&& (2 : Int32)) = (0 : Int32)
    · rw [show own_d 2 p5 p4 = own_m p4 from if_pos hs] at k
      show Steps p.tables e below (s₁.setTop (mkF m 35 #[.val (.int p1), .val (.int p2), .val (.int p3), .val (.int p4), .val (.int p5), .val (.long (own_m p1)), .second, .val (.long (own_m p3)), .second, .val (.long (own_d 1 p5 p2)), .second, .unset, .unset, .unset, .unset, .unset, .unset, .unset, .unset, .unset, .unset, .unset, .unset] [])) _
      refine XS.iload X0.here hx rfl (hb hby at_35) rfl ?_
      show Steps p.tables e below (s₁.setTop (mkF m 37 #[.val (.int p1), .val (.int p2), .val (.int p3), .val (.int p4), .val (.int p5), .val (.long (own_m p1)), .second, .val (.long (own_m p3)), .second, .val (.long (own_d 1 p5 p2)), .second, .unset, .unset, .unset, .unset, .unset, .unset, .unset, .unset, .unset, .unset, .unset, .unset] [(.int p5)])) _
      refine XS.iconst X0.here hx rfl (hb hby at_37) ?_
      show Steps p.tables e below (s₁.setTop (mkF m 38 #[.val (.int p1), .val (.int p2), .val (.int p3), .val (.int p4), .val (.int p5), .val (.long (own_m p1)), .second, .val (.long (own_m p3)), .second, .val (.long (own_d 1 p5 p2)), .second, .unset, .unset, .unset, .unset, .unset, .unset, .unset, .unset, .unset, .unset, .unset, .unset] [(.int (2 : Int32)), (.int p5)])) _
      refine XS.iand X0.here hx rfl (hb hby at_38) rfl ?_
      show Steps p.tables e below (s₁.setTop (mkF m 39 #[.val (.int p1), .val (.int p2), .val (.int p3), .val (.int p4), .val (.int p5), .val (.long (own_m p1)), .second, .val (.long (own_m p3)), .second, .val (.long (own_d 1 p5 p2)), .second, .unset, .unset, .unset, .unset, .unset, .unset, .unset, .unset, .unset, .unset, .unset, .unset] [(.int (p5 &&& (2 : Int32)))])) _
      refine XS.ifYes X0.here hx rfl (pc0 := 39) (pc' := 46) rfl (hb hby at_39) rfl ((if0 _ _).trans (teq (hs : (p5 &&& (2 : Int32)) = (0 : Int32))).1) (by decide) (by decide) ?_
      show Steps p.tables e below (s₁.setTop (mkF m 46 #[.val (.int p1), .val (.int p2), .val (.int p3), .val (.int p4), .val (.int p5), .val (.long (own_m p1)), .second, .val (.long (own_m p3)), .second, .val (.long (own_d 1 p5 p2)), .second, .unset, .unset, .unset, .unset, .unset, .unset, .unset, .unset, .unset, .unset, .unset, .unset] [])) _
      refine XS.iloadN X0.here hx rfl (hb hby at_46) rfl ?_
      show Steps p.tables e below (s₁.setTop (mkF m 47 #[.val (.int p1), .val (.int p2), .val (.int p3), .val (.int p4), .val (.int p5), .val (.long (own_m p1)), .second, .val (.long (own_m p3)), .second, .val (.long (own_d 1 p5 p2)), .second, .unset, .unset, .unset, .unset, .unset, .unset, .unset, .unset, .unset, .unset, .unset, .unset] [(.int p4)])) _
      refine XS.i2l X0.here hx rfl (hb hby at_47) rfl ?_
      show Steps p.tables e below (s₁.setTop (mkF m 48 #[.val (.int p1), .val (.int p2), .val (.int p3), .val (.int p4), .val (.int p5), .val (.long (own_m p1)), .second, .val (.long (own_m p3)), .second, .val (.long (own_d 1 p5 p2)), .second, .unset, .unset, .unset, .unset, .unset, .unset, .unset, .unset, .unset, .unset, .unset, .unset] [(.long (p4).toInt64)])) _
      refine X0.ldc2Long hx hown (mvT hZ (hw _ (List.mem_of_getElem? (i := 0) rfl))) (g := (mkF m 48 #[.val (.int p1), .val (.int p2), .val (.int p3), .val (.int p4), .val (.int p5), .val (.long (own_m p1)), .second, .val (.long (own_m p3)), .second, .val (.long (own_d 1 p5 p2)), .second, .unset, .unset, .unset, .unset, .unset, .unset, .unset, .unset, .unset, .unset, .unset, .unset] [(.long (p4).toInt64)])) rfl (hb hby at_48) _ ?_
      show Steps p.tables e below (s₁.setTop (mkF m 51 #[.val (.int p1), .val (.int p2), .val (.int p3), .val (.int p4), .val (.int p5), .val (.long (own_m p1)), .second, .val (.long (own_m p3)), .second, .val (.long (own_d 1 p5 p2)), .second, .unset, .unset, .unset, .unset, .unset, .unset, .unset, .unset, .unset, .unset, .unset, .unset] [(.long (2147483647 : Int64)), (.long (p4).toInt64)])) _
      refine XS.land X0.here hx rfl (hb hby at_51) rfl ?_
      show Steps p.tables e below (s₁.setTop (mkF m 52 #[.val (.int p1), .val (.int p2), .val (.int p3), .val (.int p4), .val (.int p5), .val (.long (own_m p1)), .second, .val (.long (own_m p3)), .second, .val (.long (own_d 1 p5 p2)), .second, .unset, .unset, .unset, .unset, .unset, .unset, .unset, .unset, .unset, .unset, .unset, .unset] [(.long (own_m p4))])) _
      refine XS.lstore X0.here hx rfl (hb hby at_52) rfl (l' := #[.val (.int p1), .val (.int p2), .val (.int p3), .val (.int p4), .val (.int p5), .val (.long (own_m p1)), .second, .val (.long (own_m p3)), .second, .val (.long (own_d 1 p5 p2)), .second, .val (.long (own_m p4)), .second, .unset, .unset, .unset, .unset, .unset, .unset, .unset, .unset, .unset, .unset]) rfl ?_
      exact k
    · rw [show own_d 2 p5 p4 = (0 : Int64) from if_neg hs] at k
      show Steps p.tables e below (s₁.setTop (mkF m 35 #[.val (.int p1), .val (.int p2), .val (.int p3), .val (.int p4), .val (.int p5), .val (.long (own_m p1)), .second, .val (.long (own_m p3)), .second, .val (.long (own_d 1 p5 p2)), .second, .unset, .unset, .unset, .unset, .unset, .unset, .unset, .unset, .unset, .unset, .unset, .unset] [])) _
      refine XS.iload X0.here hx rfl (hb hby at_35) rfl ?_
      show Steps p.tables e below (s₁.setTop (mkF m 37 #[.val (.int p1), .val (.int p2), .val (.int p3), .val (.int p4), .val (.int p5), .val (.long (own_m p1)), .second, .val (.long (own_m p3)), .second, .val (.long (own_d 1 p5 p2)), .second, .unset, .unset, .unset, .unset, .unset, .unset, .unset, .unset, .unset, .unset, .unset, .unset] [(.int p5)])) _
      refine XS.iconst X0.here hx rfl (hb hby at_37) ?_
      show Steps p.tables e below (s₁.setTop (mkF m 38 #[.val (.int p1), .val (.int p2), .val (.int p3), .val (.int p4), .val (.int p5), .val (.long (own_m p1)), .second, .val (.long (own_m p3)), .second, .val (.long (own_d 1 p5 p2)), .second, .unset, .unset, .unset, .unset, .unset, .unset, .unset, .unset, .unset, .unset, .unset, .unset] [(.int (2 : Int32)), (.int p5)])) _
      refine XS.iand X0.here hx rfl (hb hby at_38) rfl ?_
      show Steps p.tables e below (s₁.setTop (mkF m 39 #[.val (.int p1), .val (.int p2), .val (.int p3), .val (.int p4), .val (.int p5), .val (.long (own_m p1)), .second, .val (.long (own_m p3)), .second, .val (.long (own_d 1 p5 p2)), .second, .unset, .unset, .unset, .unset, .unset, .unset, .unset, .unset, .unset, .unset, .unset, .unset] [(.int (p5 &&& (2 : Int32)))])) _
      refine XS.ifNo X0.here hx rfl (hb hby at_39) rfl ((if0 _ _).trans (feq (hs : ¬ ((p5 &&& (2 : Int32)) = (0 : Int32)))).1) ?_
      show Steps p.tables e below (s₁.setTop (mkF m 42 #[.val (.int p1), .val (.int p2), .val (.int p3), .val (.int p4), .val (.int p5), .val (.long (own_m p1)), .second, .val (.long (own_m p3)), .second, .val (.long (own_d 1 p5 p2)), .second, .unset, .unset, .unset, .unset, .unset, .unset, .unset, .unset, .unset, .unset, .unset, .unset] [])) _
      refine XS.lconst X0.here hx rfl (hb hby at_42) ?_
      show Steps p.tables e below (s₁.setTop (mkF m 43 #[.val (.int p1), .val (.int p2), .val (.int p3), .val (.int p4), .val (.int p5), .val (.long (own_m p1)), .second, .val (.long (own_m p3)), .second, .val (.long (own_d 1 p5 p2)), .second, .unset, .unset, .unset, .unset, .unset, .unset, .unset, .unset, .unset, .unset, .unset, .unset] [(.long (0 : Int64))])) _
      refine XS.goto X0.here hx rfl (pc0 := 43) (pc' := 52) rfl (hb hby at_43) (by decide) (by decide) ?_
      show Steps p.tables e below (s₁.setTop (mkF m 52 #[.val (.int p1), .val (.int p2), .val (.int p3), .val (.int p4), .val (.int p5), .val (.long (own_m p1)), .second, .val (.long (own_m p3)), .second, .val (.long (own_d 1 p5 p2)), .second, .unset, .unset, .unset, .unset, .unset, .unset, .unset, .unset, .unset, .unset, .unset, .unset] [(.long (0 : Int64))])) _
      refine XS.lstore X0.here hx rfl (hb hby at_52) rfl (l' := #[.val (.int p1), .val (.int p2), .val (.int p3), .val (.int p4), .val (.int p5), .val (.long (own_m p1)), .second, .val (.long (own_m p3)), .second, .val (.long (own_d 1 p5 p2)), .second, .val (.long (0 : Int64)), .second, .unset, .unset, .unset, .unset, .unset, .unset, .unset, .unset, .unset, .unset]) rfl ?_
      exact k
  obtain ⟨T1, h1, X1, e1, E1, A1, D1, -, st1⟩ := newO X0 hx hZ hown (hw _ (List.mem_of_getElem? (i := 1) rfl)) (hw _ (List.mem_of_getElem? (i := 2) rfl)) (hw _ (List.mem_of_getElem? (i := 3) rfl)) e0 (g := (mkF m 80 #[.val (.int p1), .val (.int p2), .val (.int p3), .val (.int p4), .val (.int p5), .val (.long (own_m p1)), .second, .val (.long (own_m p3)), .second, .val (.long (own_d 1 p5 p2)), .second, .val (.long (own_d 2 p5 p4)), .second, .val (.double (FP.l2d (own_m p1))), .second, .val (.double (FP.l2d ((own_m p1) + (own_d 1 p5 p2)))), .second, .val (.double (FP.l2d (own_m p3))), .second, .val (.double (FP.l2d ((own_m p3) + (own_d 2 p5 p4)))), .second, .unset, .unset] [])) rfl (hb hby at_80) (by decide) (by decide)
  obtain ⟨a, g1⟩ : ∃ z, z = h0.size := ⟨_, rfl⟩
  rw [← g1] at A1 D1 st1
  have F0 : Fld Z h1 a "com/example/triptych/triptych/rendering/BoxConstraints" "minWidth" "D" (.double 0) := D1 (Or.inr (hw _ (List.mem_of_getElem? (i := 20) rfl))) (ty := .double) (by decide)
  have F1 : Fld Z h1 a "com/example/triptych/triptych/rendering/BoxConstraints" "maxWidth" "D" (.double 0) := D1 (Or.inr (hw _ (List.mem_of_getElem? (i := 22) rfl))) (ty := .double) (by decide)
  have F2 : Fld Z h1 a "com/example/triptych/triptych/rendering/BoxConstraints" "minHeight" "D" (.double 0) := D1 (Or.inr (hw _ (List.mem_of_getElem? (i := 24) rfl))) (ty := .double) (by decide)
  have F3 : Fld Z h1 a "com/example/triptych/triptych/rendering/BoxConstraints" "maxHeight" "D" (.double 0) := D1 (Or.inr (hw _ (List.mem_of_getElem? (i := 26) rfl))) (ty := .double) (by decide)
  have ga : n0 ≤ a := Nat.le_trans Z0 (Nat.le_of_eq g1.symm)
  have Zn : n0 ≤ h1.size := Nat.le_trans Z0 E1.1
  have b1 := own_m_b p1
  have b2 := own_d_b 1 p5 p2
  have b3 := own_m_b p3
  have b4 := own_d_b 2 p5 p4
  have s1 := own_sum b1 b2
  have s2 := own_sum b3 b4
  have bA : B53 (own_m p1) := own_b53 (by omega)
  have bB : B53 ((own_m p1) + (own_d 1 p5 p2)) := own_b53 (by omega)
  have bD : B53 (own_m p3) := own_b53 (by omega)
  have bE : B53 ((own_m p3) + (own_d 2 p5 p4)) := own_b53 (by omega)
  have hA : ¬ (own_m p1) < 0 := fun q => by have := Int64.lt_iff_toInt_lt.mp q; rw [show (0 : Int64).toInt = 0 from by decide] at this; omega
  have hD : ¬ (own_m p3) < 0 := fun q => by have := Int64.lt_iff_toInt_lt.mp q; rw [show (0 : Int64).toInt = 0 from by decide] at this; omega
  have hAB : ¬ ((own_m p1) + (own_d 1 p5 p2)) < (own_m p1) := fun q => by have := Int64.lt_iff_toInt_lt.mp q; omega
  have hDE : ¬ ((own_m p3) + (own_d 2 p5 p4)) < (own_m p3) := fun q => by have := Int64.lt_iff_toInt_lt.mp q; omega
  obtain ⟨_, _, ⟨T2, L2, k2, n2⟩, -, X2, ⟨Lc2, hQ2, l2, y2, z2⟩, st2⟩ := X1.specialBack hx (y := (⟨"com/example/triptych/triptych/rendering/BoxConstraints", "<init>", "(DDDD)V"⟩ : MethodName)) rfl hown (mvT hZ (hw _ (List.mem_of_getElem? (i := 4) rfl))) (mvT hZ (hw _ (List.mem_of_getElem? (i := 5) rfl))) (mvT hZ (hw _ (List.mem_of_getElem? (i := 6) rfl))) (by decide) (backOf (W := 1) (rmini l Z a0 hw [] a (own_m p1) ((own_m p1) + (own_d 1 p5 p2)) (own_m p3) ((own_m p3) + (own_d 2 p5 p4)) h1 n0 Zn F0 F1 F2 F3 A1 ga bA bB hA hAB bD bE hD hDE) hZ (hw _ (List.mem_of_getElem? (i := 6) rfl)) (hw _ (List.mem_of_getElem? (i := 3) rfl)) (by decide) (by decide)) (g := (mkF m 92 #[.val (.int p1), .val (.int p2), .val (.int p3), .val (.int p4), .val (.int p5), .val (.long (own_m p1)), .second, .val (.long (own_m p3)), .second, .val (.long (own_d 1 p5 p2)), .second, .val (.long (own_d 2 p5 p4)), .second, .val (.double (FP.l2d (own_m p1))), .second, .val (.double (FP.l2d ((own_m p1) + (own_d 1 p5 p2)))), .second, .val (.double (FP.l2d (own_m p3))), .second, .val (.double (FP.l2d ((own_m p3) + (own_d 2 p5 p4)))), .second, .unset, .unset] [(.double (FP.l2d ((own_m p3) + (own_d 2 p5 p4)))), (.double (FP.l2d (own_m p3))), (.double (FP.l2d ((own_m p1) + (own_d 1 p5 p2)))), (.double (FP.l2d (own_m p1))), (.ref a), (.ref a)])) rfl (by rw [hml]; rfl) (Steps.refl _) (a := a) (argsL := [(.double (FP.l2d (own_m p1))), (.double (FP.l2d ((own_m p1) + (own_d 1 p5 p2)))), (.double (FP.l2d (own_m p3))), (.double (FP.l2d ((own_m p3) + (own_d 2 p5 p4))))]) (rest := [(.ref a)]) (lenOf pd_dddd rfl) rfl (by show 2 * 0 + _ ≤ _; exact Nat.le_of_eq rfl) (hb hby at_92) (fun _ _ => ⟨rfl, e1, (by decide : 1 + 0 ≤ _), (by decide : 4 + 0 ≤ _)⟩)
  dsimp only [Pt.U, Pt.locs, Pt.cells, Pt.slots] at X2 l2 y2 z2 st2 hQ2
  subst l2 y2 z2
  obtain ⟨rfl, M2, K2, Ex2, f0, f1, f2, f3⟩ := hQ2
  have N2 := Fr.app N0 M2
  have Zm : n0 ≤ T2.heap.size := Nat.le_trans Zn K2.1
  have sg3 : ∀ t, Steps p.tables e below (T2.setTop (mkF m 118 #[.val (.int p1), .val (.int p2), .val (.int p3), .val (.int p4), .val (.int p5), .val (.long (own_m p1)), .second, .val (.long (own_m p3)), .second, .val (.long (own_d 1 p5 p2)), .second, .val (.long (own_d 2 p5 p4)), .second, .val (.double (FP.l2d (own_m p1))), .second, .val (.double (FP.l2d ((own_m p1) + (own_d 1 p5 p2)))), .second, .val (.double (FP.l2d (own_m p3))), .second, .val (.double (FP.l2d ((own_m p3) + (own_d 2 p5 p4)))), .second, .val (.ref a), .val (.int (own_t (own_d 1 p5 p2) 0 (own_d 2 p5 p4) 0))] [])) t → Steps p.tables e below (T2.setTop (mkF m 97 #[.val (.int p1), .val (.int p2), .val (.int p3), .val (.int p4), .val (.int p5), .val (.long (own_m p1)), .second, .val (.long (own_m p3)), .second, .val (.long (own_d 1 p5 p2)), .second, .val (.long (own_d 2 p5 p4)), .second, .val (.double (FP.l2d (own_m p1))), .second, .val (.double (FP.l2d ((own_m p1) + (own_d 1 p5 p2)))), .second, .val (.double (FP.l2d (own_m p3))), .second, .val (.double (FP.l2d ((own_m p3) + (own_d 2 p5 p4)))), .second, .val (.ref a), .unset] [])) t := by
    intro t k
    by_cases q1 : (own_d 1 p5 p2) = 0
    · by_cases q2 : (own_d 2 p5 p4) = 0
      · rw [show (own_t (own_d 1 p5 p2) 0 (own_d 2 p5 p4) 0) = (1 : Int32) from by simp [own_t, q1, q2]] at k
        show Steps p.tables e below (T2.setTop (mkF m 97 #[.val (.int p1), .val (.int p2), .val (.int p3), .val (.int p4), .val (.int p5), .val (.long (own_m p1)), .second, .val (.long (own_m p3)), .second, .val (.long (own_d 1 p5 p2)), .second, .val (.long (own_d 2 p5 p4)), .second, .val (.double (FP.l2d (own_m p1))), .second, .val (.double (FP.l2d ((own_m p1) + (own_d 1 p5 p2)))), .second, .val (.double (FP.l2d (own_m p3))), .second, .val (.double (FP.l2d ((own_m p3) + (own_d 2 p5 p4)))), .second, .val (.ref a), .unset] [])) _
        refine XS.lload X2.here hx rfl (hb hby at_97) rfl ?_
        show Steps p.tables e below (T2.setTop (mkF m 99 #[.val (.int p1), .val (.int p2), .val (.int p3), .val (.int p4), .val (.int p5), .val (.long (own_m p1)), .second, .val (.long (own_m p3)), .second, .val (.long (own_d 1 p5 p2)), .second, .val (.long (own_d 2 p5 p4)), .second, .val (.double (FP.l2d (own_m p1))), .second, .val (.double (FP.l2d ((own_m p1) + (own_d 1 p5 p2)))), .second, .val (.double (FP.l2d (own_m p3))), .second, .val (.double (FP.l2d ((own_m p3) + (own_d 2 p5 p4)))), .second, .val (.ref a), .unset] [(.long (own_d 1 p5 p2))])) _
        refine XS.lconst X2.here hx rfl (hb hby at_99) ?_
        show Steps p.tables e below (T2.setTop (mkF m 100 #[.val (.int p1), .val (.int p2), .val (.int p3), .val (.int p4), .val (.int p5), .val (.long (own_m p1)), .second, .val (.long (own_m p3)), .second, .val (.long (own_d 1 p5 p2)), .second, .val (.long (own_d 2 p5 p4)), .second, .val (.double (FP.l2d (own_m p1))), .second, .val (.double (FP.l2d ((own_m p1) + (own_d 1 p5 p2)))), .second, .val (.double (FP.l2d (own_m p3))), .second, .val (.double (FP.l2d ((own_m p3) + (own_d 2 p5 p4)))), .second, .val (.ref a), .unset] [(.long (0 : Int64)), (.long (own_d 1 p5 p2))])) _
        refine XS.lcmp X2.here hx rfl (hb hby at_100) rfl ?_
        show Steps p.tables e below (T2.setTop (mkF m 101 #[.val (.int p1), .val (.int p2), .val (.int p3), .val (.int p4), .val (.int p5), .val (.long (own_m p1)), .second, .val (.long (own_m p3)), .second, .val (.long (own_d 1 p5 p2)), .second, .val (.long (own_d 2 p5 p4)), .second, .val (.double (FP.l2d (own_m p1))), .second, .val (.double (FP.l2d ((own_m p1) + (own_d 1 p5 p2)))), .second, .val (.double (FP.l2d (own_m p3))), .second, .val (.double (FP.l2d ((own_m p3) + (own_d 2 p5 p4)))), .second, .val (.ref a), .unset] [(.int (lcmpW (own_d 1 p5 p2) (0 : Int64)))])) _
        refine XS.ifNo X2.here hx rfl (hb hby at_101) rfl ((if0 _ _).trans (teq ((lw_eq _ _).mpr q1 : (lcmpW (own_d 1 p5 p2) (0 : Int64)) = (0 : Int32))).2) ?_
        show Steps p.tables e below (T2.setTop (mkF m 104 #[.val (.int p1), .val (.int p2), .val (.int p3), .val (.int p4), .val (.int p5), .val (.long (own_m p1)), .second, .val (.long (own_m p3)), .second, .val (.long (own_d 1 p5 p2)), .second, .val (.long (own_d 2 p5 p4)), .second, .val (.double (FP.l2d (own_m p1))), .second, .val (.double (FP.l2d ((own_m p1) + (own_d 1 p5 p2)))), .second, .val (.double (FP.l2d (own_m p3))), .second, .val (.double (FP.l2d ((own_m p3) + (own_d 2 p5 p4)))), .second, .val (.ref a), .unset] [])) _
        refine XS.lload X2.here hx rfl (hb hby at_104) rfl ?_
        show Steps p.tables e below (T2.setTop (mkF m 106 #[.val (.int p1), .val (.int p2), .val (.int p3), .val (.int p4), .val (.int p5), .val (.long (own_m p1)), .second, .val (.long (own_m p3)), .second, .val (.long (own_d 1 p5 p2)), .second, .val (.long (own_d 2 p5 p4)), .second, .val (.double (FP.l2d (own_m p1))), .second, .val (.double (FP.l2d ((own_m p1) + (own_d 1 p5 p2)))), .second, .val (.double (FP.l2d (own_m p3))), .second, .val (.double (FP.l2d ((own_m p3) + (own_d 2 p5 p4)))), .second, .val (.ref a), .unset] [(.long (own_d 2 p5 p4))])) _
        refine XS.lconst X2.here hx rfl (hb hby at_106) ?_
        show Steps p.tables e below (T2.setTop (mkF m 107 #[.val (.int p1), .val (.int p2), .val (.int p3), .val (.int p4), .val (.int p5), .val (.long (own_m p1)), .second, .val (.long (own_m p3)), .second, .val (.long (own_d 1 p5 p2)), .second, .val (.long (own_d 2 p5 p4)), .second, .val (.double (FP.l2d (own_m p1))), .second, .val (.double (FP.l2d ((own_m p1) + (own_d 1 p5 p2)))), .second, .val (.double (FP.l2d (own_m p3))), .second, .val (.double (FP.l2d ((own_m p3) + (own_d 2 p5 p4)))), .second, .val (.ref a), .unset] [(.long (0 : Int64)), (.long (own_d 2 p5 p4))])) _
        refine XS.lcmp X2.here hx rfl (hb hby at_107) rfl ?_
        show Steps p.tables e below (T2.setTop (mkF m 108 #[.val (.int p1), .val (.int p2), .val (.int p3), .val (.int p4), .val (.int p5), .val (.long (own_m p1)), .second, .val (.long (own_m p3)), .second, .val (.long (own_d 1 p5 p2)), .second, .val (.long (own_d 2 p5 p4)), .second, .val (.double (FP.l2d (own_m p1))), .second, .val (.double (FP.l2d ((own_m p1) + (own_d 1 p5 p2)))), .second, .val (.double (FP.l2d (own_m p3))), .second, .val (.double (FP.l2d ((own_m p3) + (own_d 2 p5 p4)))), .second, .val (.ref a), .unset] [(.int (lcmpW (own_d 2 p5 p4) (0 : Int64)))])) _
        refine XS.ifNo X2.here hx rfl (hb hby at_108) rfl ((if0 _ _).trans (teq ((lw_eq _ _).mpr q2 : (lcmpW (own_d 2 p5 p4) (0 : Int64)) = (0 : Int32))).2) ?_
        show Steps p.tables e below (T2.setTop (mkF m 111 #[.val (.int p1), .val (.int p2), .val (.int p3), .val (.int p4), .val (.int p5), .val (.long (own_m p1)), .second, .val (.long (own_m p3)), .second, .val (.long (own_d 1 p5 p2)), .second, .val (.long (own_d 2 p5 p4)), .second, .val (.double (FP.l2d (own_m p1))), .second, .val (.double (FP.l2d ((own_m p1) + (own_d 1 p5 p2)))), .second, .val (.double (FP.l2d (own_m p3))), .second, .val (.double (FP.l2d ((own_m p3) + (own_d 2 p5 p4)))), .second, .val (.ref a), .unset] [])) _
        refine XS.iconst X2.here hx rfl (hb hby at_111) ?_
        show Steps p.tables e below (T2.setTop (mkF m 112 #[.val (.int p1), .val (.int p2), .val (.int p3), .val (.int p4), .val (.int p5), .val (.long (own_m p1)), .second, .val (.long (own_m p3)), .second, .val (.long (own_d 1 p5 p2)), .second, .val (.long (own_d 2 p5 p4)), .second, .val (.double (FP.l2d (own_m p1))), .second, .val (.double (FP.l2d ((own_m p1) + (own_d 1 p5 p2)))), .second, .val (.double (FP.l2d (own_m p3))), .second, .val (.double (FP.l2d ((own_m p3) + (own_d 2 p5 p4)))), .second, .val (.ref a), .unset] [(.int (1 : Int32))])) _
        refine XS.goto X2.here hx rfl (pc0 := 112) (pc' := 116) rfl (hb hby at_112) (by decide) (by decide) ?_
        show Steps p.tables e below (T2.setTop (mkF m 116 #[.val (.int p1), .val (.int p2), .val (.int p3), .val (.int p4), .val (.int p5), .val (.long (own_m p1)), .second, .val (.long (own_m p3)), .second, .val (.long (own_d 1 p5 p2)), .second, .val (.long (own_d 2 p5 p4)), .second, .val (.double (FP.l2d (own_m p1))), .second, .val (.double (FP.l2d ((own_m p1) + (own_d 1 p5 p2)))), .second, .val (.double (FP.l2d (own_m p3))), .second, .val (.double (FP.l2d ((own_m p3) + (own_d 2 p5 p4)))), .second, .val (.ref a), .unset] [(.int (1 : Int32))])) _
        refine XS.istore X2.here hx rfl (hb hby at_116) rfl (l' := #[.val (.int p1), .val (.int p2), .val (.int p3), .val (.int p4), .val (.int p5), .val (.long (own_m p1)), .second, .val (.long (own_m p3)), .second, .val (.long (own_d 1 p5 p2)), .second, .val (.long (own_d 2 p5 p4)), .second, .val (.double (FP.l2d (own_m p1))), .second, .val (.double (FP.l2d ((own_m p1) + (own_d 1 p5 p2)))), .second, .val (.double (FP.l2d (own_m p3))), .second, .val (.double (FP.l2d ((own_m p3) + (own_d 2 p5 p4)))), .second, .val (.ref a), .val (.int (1 : Int32))]) rfl ?_
        exact k
      · rw [show (own_t (own_d 1 p5 p2) 0 (own_d 2 p5 p4) 0) = (0 : Int32) from by simp [own_t, q2]] at k
        show Steps p.tables e below (T2.setTop (mkF m 97 #[.val (.int p1), .val (.int p2), .val (.int p3), .val (.int p4), .val (.int p5), .val (.long (own_m p1)), .second, .val (.long (own_m p3)), .second, .val (.long (own_d 1 p5 p2)), .second, .val (.long (own_d 2 p5 p4)), .second, .val (.double (FP.l2d (own_m p1))), .second, .val (.double (FP.l2d ((own_m p1) + (own_d 1 p5 p2)))), .second, .val (.double (FP.l2d (own_m p3))), .second, .val (.double (FP.l2d ((own_m p3) + (own_d 2 p5 p4)))), .second, .val (.ref a), .unset] [])) _
        refine XS.lload X2.here hx rfl (hb hby at_97) rfl ?_
        show Steps p.tables e below (T2.setTop (mkF m 99 #[.val (.int p1), .val (.int p2), .val (.int p3), .val (.int p4), .val (.int p5), .val (.long (own_m p1)), .second, .val (.long (own_m p3)), .second, .val (.long (own_d 1 p5 p2)), .second, .val (.long (own_d 2 p5 p4)), .second, .val (.double (FP.l2d (own_m p1))), .second, .val (.double (FP.l2d ((own_m p1) + (own_d 1 p5 p2)))), .second, .val (.double (FP.l2d (own_m p3))), .second, .val (.double (FP.l2d ((own_m p3) + (own_d 2 p5 p4)))), .second, .val (.ref a), .unset] [(.long (own_d 1 p5 p2))])) _
        refine XS.lconst X2.here hx rfl (hb hby at_99) ?_
        show Steps p.tables e below (T2.setTop (mkF m 100 #[.val (.int p1), .val (.int p2), .val (.int p3), .val (.int p4), .val (.int p5), .val (.long (own_m p1)), .second, .val (.long (own_m p3)), .second, .val (.long (own_d 1 p5 p2)), .second, .val (.long (own_d 2 p5 p4)), .second, .val (.double (FP.l2d (own_m p1))), .second, .val (.double (FP.l2d ((own_m p1) + (own_d 1 p5 p2)))), .second, .val (.double (FP.l2d (own_m p3))), .second, .val (.double (FP.l2d ((own_m p3) + (own_d 2 p5 p4)))), .second, .val (.ref a), .unset] [(.long (0 : Int64)), (.long (own_d 1 p5 p2))])) _
        refine XS.lcmp X2.here hx rfl (hb hby at_100) rfl ?_
        show Steps p.tables e below (T2.setTop (mkF m 101 #[.val (.int p1), .val (.int p2), .val (.int p3), .val (.int p4), .val (.int p5), .val (.long (own_m p1)), .second, .val (.long (own_m p3)), .second, .val (.long (own_d 1 p5 p2)), .second, .val (.long (own_d 2 p5 p4)), .second, .val (.double (FP.l2d (own_m p1))), .second, .val (.double (FP.l2d ((own_m p1) + (own_d 1 p5 p2)))), .second, .val (.double (FP.l2d (own_m p3))), .second, .val (.double (FP.l2d ((own_m p3) + (own_d 2 p5 p4)))), .second, .val (.ref a), .unset] [(.int (lcmpW (own_d 1 p5 p2) (0 : Int64)))])) _
        refine XS.ifNo X2.here hx rfl (hb hby at_101) rfl ((if0 _ _).trans (teq ((lw_eq _ _).mpr q1 : (lcmpW (own_d 1 p5 p2) (0 : Int64)) = (0 : Int32))).2) ?_
        show Steps p.tables e below (T2.setTop (mkF m 104 #[.val (.int p1), .val (.int p2), .val (.int p3), .val (.int p4), .val (.int p5), .val (.long (own_m p1)), .second, .val (.long (own_m p3)), .second, .val (.long (own_d 1 p5 p2)), .second, .val (.long (own_d 2 p5 p4)), .second, .val (.double (FP.l2d (own_m p1))), .second, .val (.double (FP.l2d ((own_m p1) + (own_d 1 p5 p2)))), .second, .val (.double (FP.l2d (own_m p3))), .second, .val (.double (FP.l2d ((own_m p3) + (own_d 2 p5 p4)))), .second, .val (.ref a), .unset] [])) _
        refine XS.lload X2.here hx rfl (hb hby at_104) rfl ?_
        show Steps p.tables e below (T2.setTop (mkF m 106 #[.val (.int p1), .val (.int p2), .val (.int p3), .val (.int p4), .val (.int p5), .val (.long (own_m p1)), .second, .val (.long (own_m p3)), .second, .val (.long (own_d 1 p5 p2)), .second, .val (.long (own_d 2 p5 p4)), .second, .val (.double (FP.l2d (own_m p1))), .second, .val (.double (FP.l2d ((own_m p1) + (own_d 1 p5 p2)))), .second, .val (.double (FP.l2d (own_m p3))), .second, .val (.double (FP.l2d ((own_m p3) + (own_d 2 p5 p4)))), .second, .val (.ref a), .unset] [(.long (own_d 2 p5 p4))])) _
        refine XS.lconst X2.here hx rfl (hb hby at_106) ?_
        show Steps p.tables e below (T2.setTop (mkF m 107 #[.val (.int p1), .val (.int p2), .val (.int p3), .val (.int p4), .val (.int p5), .val (.long (own_m p1)), .second, .val (.long (own_m p3)), .second, .val (.long (own_d 1 p5 p2)), .second, .val (.long (own_d 2 p5 p4)), .second, .val (.double (FP.l2d (own_m p1))), .second, .val (.double (FP.l2d ((own_m p1) + (own_d 1 p5 p2)))), .second, .val (.double (FP.l2d (own_m p3))), .second, .val (.double (FP.l2d ((own_m p3) + (own_d 2 p5 p4)))), .second, .val (.ref a), .unset] [(.long (0 : Int64)), (.long (own_d 2 p5 p4))])) _
        refine XS.lcmp X2.here hx rfl (hb hby at_107) rfl ?_
        show Steps p.tables e below (T2.setTop (mkF m 108 #[.val (.int p1), .val (.int p2), .val (.int p3), .val (.int p4), .val (.int p5), .val (.long (own_m p1)), .second, .val (.long (own_m p3)), .second, .val (.long (own_d 1 p5 p2)), .second, .val (.long (own_d 2 p5 p4)), .second, .val (.double (FP.l2d (own_m p1))), .second, .val (.double (FP.l2d ((own_m p1) + (own_d 1 p5 p2)))), .second, .val (.double (FP.l2d (own_m p3))), .second, .val (.double (FP.l2d ((own_m p3) + (own_d 2 p5 p4)))), .second, .val (.ref a), .unset] [(.int (lcmpW (own_d 2 p5 p4) (0 : Int64)))])) _
        refine XS.ifYes X2.here hx rfl (pc0 := 108) (pc' := 115) rfl (hb hby at_108) rfl ((if0 _ _).trans (feq (fun q => q2 ((lw_eq _ _).mp q) : ¬ ((lcmpW (own_d 2 p5 p4) (0 : Int64)) = (0 : Int32)))).2) (by decide) (by decide) ?_
        show Steps p.tables e below (T2.setTop (mkF m 115 #[.val (.int p1), .val (.int p2), .val (.int p3), .val (.int p4), .val (.int p5), .val (.long (own_m p1)), .second, .val (.long (own_m p3)), .second, .val (.long (own_d 1 p5 p2)), .second, .val (.long (own_d 2 p5 p4)), .second, .val (.double (FP.l2d (own_m p1))), .second, .val (.double (FP.l2d ((own_m p1) + (own_d 1 p5 p2)))), .second, .val (.double (FP.l2d (own_m p3))), .second, .val (.double (FP.l2d ((own_m p3) + (own_d 2 p5 p4)))), .second, .val (.ref a), .unset] [])) _
        refine XS.iconst X2.here hx rfl (hb hby at_115) ?_
        show Steps p.tables e below (T2.setTop (mkF m 116 #[.val (.int p1), .val (.int p2), .val (.int p3), .val (.int p4), .val (.int p5), .val (.long (own_m p1)), .second, .val (.long (own_m p3)), .second, .val (.long (own_d 1 p5 p2)), .second, .val (.long (own_d 2 p5 p4)), .second, .val (.double (FP.l2d (own_m p1))), .second, .val (.double (FP.l2d ((own_m p1) + (own_d 1 p5 p2)))), .second, .val (.double (FP.l2d (own_m p3))), .second, .val (.double (FP.l2d ((own_m p3) + (own_d 2 p5 p4)))), .second, .val (.ref a), .unset] [(.int (0 : Int32))])) _
        refine XS.istore X2.here hx rfl (hb hby at_116) rfl (l' := #[.val (.int p1), .val (.int p2), .val (.int p3), .val (.int p4), .val (.int p5), .val (.long (own_m p1)), .second, .val (.long (own_m p3)), .second, .val (.long (own_d 1 p5 p2)), .second, .val (.long (own_d 2 p5 p4)), .second, .val (.double (FP.l2d (own_m p1))), .second, .val (.double (FP.l2d ((own_m p1) + (own_d 1 p5 p2)))), .second, .val (.double (FP.l2d (own_m p3))), .second, .val (.double (FP.l2d ((own_m p3) + (own_d 2 p5 p4)))), .second, .val (.ref a), .val (.int (0 : Int32))]) rfl ?_
        exact k
    · rw [show (own_t (own_d 1 p5 p2) 0 (own_d 2 p5 p4) 0) = (0 : Int32) from by simp [own_t, q1]] at k
      show Steps p.tables e below (T2.setTop (mkF m 97 #[.val (.int p1), .val (.int p2), .val (.int p3), .val (.int p4), .val (.int p5), .val (.long (own_m p1)), .second, .val (.long (own_m p3)), .second, .val (.long (own_d 1 p5 p2)), .second, .val (.long (own_d 2 p5 p4)), .second, .val (.double (FP.l2d (own_m p1))), .second, .val (.double (FP.l2d ((own_m p1) + (own_d 1 p5 p2)))), .second, .val (.double (FP.l2d (own_m p3))), .second, .val (.double (FP.l2d ((own_m p3) + (own_d 2 p5 p4)))), .second, .val (.ref a), .unset] [])) _
      refine XS.lload X2.here hx rfl (hb hby at_97) rfl ?_
      show Steps p.tables e below (T2.setTop (mkF m 99 #[.val (.int p1), .val (.int p2), .val (.int p3), .val (.int p4), .val (.int p5), .val (.long (own_m p1)), .second, .val (.long (own_m p3)), .second, .val (.long (own_d 1 p5 p2)), .second, .val (.long (own_d 2 p5 p4)), .second, .val (.double (FP.l2d (own_m p1))), .second, .val (.double (FP.l2d ((own_m p1) + (own_d 1 p5 p2)))), .second, .val (.double (FP.l2d (own_m p3))), .second, .val (.double (FP.l2d ((own_m p3) + (own_d 2 p5 p4)))), .second, .val (.ref a), .unset] [(.long (own_d 1 p5 p2))])) _
      refine XS.lconst X2.here hx rfl (hb hby at_99) ?_
      show Steps p.tables e below (T2.setTop (mkF m 100 #[.val (.int p1), .val (.int p2), .val (.int p3), .val (.int p4), .val (.int p5), .val (.long (own_m p1)), .second, .val (.long (own_m p3)), .second, .val (.long (own_d 1 p5 p2)), .second, .val (.long (own_d 2 p5 p4)), .second, .val (.double (FP.l2d (own_m p1))), .second, .val (.double (FP.l2d ((own_m p1) + (own_d 1 p5 p2)))), .second, .val (.double (FP.l2d (own_m p3))), .second, .val (.double (FP.l2d ((own_m p3) + (own_d 2 p5 p4)))), .second, .val (.ref a), .unset] [(.long (0 : Int64)), (.long (own_d 1 p5 p2))])) _
      refine XS.lcmp X2.here hx rfl (hb hby at_100) rfl ?_
      show Steps p.tables e below (T2.setTop (mkF m 101 #[.val (.int p1), .val (.int p2), .val (.int p3), .val (.int p4), .val (.int p5), .val (.long (own_m p1)), .second, .val (.long (own_m p3)), .second, .val (.long (own_d 1 p5 p2)), .second, .val (.long (own_d 2 p5 p4)), .second, .val (.double (FP.l2d (own_m p1))), .second, .val (.double (FP.l2d ((own_m p1) + (own_d 1 p5 p2)))), .second, .val (.double (FP.l2d (own_m p3))), .second, .val (.double (FP.l2d ((own_m p3) + (own_d 2 p5 p4)))), .second, .val (.ref a), .unset] [(.int (lcmpW (own_d 1 p5 p2) (0 : Int64)))])) _
      refine XS.ifYes X2.here hx rfl (pc0 := 101) (pc' := 115) rfl (hb hby at_101) rfl ((if0 _ _).trans (feq (fun q => q1 ((lw_eq _ _).mp q) : ¬ ((lcmpW (own_d 1 p5 p2) (0 : Int64)) = (0 : Int32)))).2) (by decide) (by decide) ?_
      show Steps p.tables e below (T2.setTop (mkF m 115 #[.val (.int p1), .val (.int p2), .val (.int p3), .val (.int p4), .val (.int p5), .val (.long (own_m p1)), .second, .val (.long (own_m p3)), .second, .val (.long (own_d 1 p5 p2)), .second, .val (.long (own_d 2 p5 p4)), .second, .val (.double (FP.l2d (own_m p1))), .second, .val (.double (FP.l2d ((own_m p1) + (own_d 1 p5 p2)))), .second, .val (.double (FP.l2d (own_m p3))), .second, .val (.double (FP.l2d ((own_m p3) + (own_d 2 p5 p4)))), .second, .val (.ref a), .unset] [])) _
      refine XS.iconst X2.here hx rfl (hb hby at_115) ?_
      show Steps p.tables e below (T2.setTop (mkF m 116 #[.val (.int p1), .val (.int p2), .val (.int p3), .val (.int p4), .val (.int p5), .val (.long (own_m p1)), .second, .val (.long (own_m p3)), .second, .val (.long (own_d 1 p5 p2)), .second, .val (.long (own_d 2 p5 p4)), .second, .val (.double (FP.l2d (own_m p1))), .second, .val (.double (FP.l2d ((own_m p1) + (own_d 1 p5 p2)))), .second, .val (.double (FP.l2d (own_m p3))), .second, .val (.double (FP.l2d ((own_m p3) + (own_d 2 p5 p4)))), .second, .val (.ref a), .unset] [(.int (0 : Int32))])) _
      refine XS.istore X2.here hx rfl (hb hby at_116) rfl (l' := #[.val (.int p1), .val (.int p2), .val (.int p3), .val (.int p4), .val (.int p5), .val (.long (own_m p1)), .second, .val (.long (own_m p3)), .second, .val (.long (own_d 1 p5 p2)), .second, .val (.long (own_d 2 p5 p4)), .second, .val (.double (FP.l2d (own_m p1))), .second, .val (.double (FP.l2d ((own_m p1) + (own_d 1 p5 p2)))), .second, .val (.double (FP.l2d (own_m p3))), .second, .val (.double (FP.l2d ((own_m p3) + (own_d 2 p5 p4)))), .second, .val (.ref a), .val (.int (0 : Int32))]) rfl ?_
      exact k
  obtain ⟨cq3, kq3, q3a, q3b, q3c⟩ := isOf hZ rfl Ex2
  obtain ⟨_, _, ⟨T3, L3, k3, n3⟩, -, X3, ⟨Lc3, hQ3, l3, y3, z3⟩, st3⟩ := X2.virtualBack hx (y := (⟨"com/example/triptych/triptych/rendering/BoxConstraints", "isTight", "()Z"⟩ : MethodName)) (z := (⟨"com/example/triptych/triptych/rendering/BoxConstraints", "isTight", "()Z"⟩ : MethodName)) hown (mvT hZ (hw _ (List.mem_of_getElem? (i := 27) rfl))) (mvT hZ (hw _ (List.mem_of_getElem? (i := 28) rfl))) (notFace_of_selects (args := #[]) (mvT hZ (hw _ (List.mem_of_getElem? (i := 30) rfl)))) (mvT hZ (hw _ (List.mem_of_getElem? (i := 30) rfl))) (mvT hZ (hw _ (List.mem_of_getElem? (i := 29) rfl))) (by decide) (backOf (W := 0) (rmtgt l Z a0 hw [] a (own_m p1) ((own_m p1) + (own_d 1 p5 p2)) (own_m p3) ((own_m p3) + (own_d 2 p5 p4)) T2.heap n0 Zm f0 f1 f2 f3 bA bB bD bE) hZ (hw _ (List.mem_of_getElem? (i := 31) rfl)) (hw _ (List.mem_of_getElem? (i := 3) rfl)) (by decide) (by decide)) q3a q3c (g := (mkF m 120 #[.val (.int p1), .val (.int p2), .val (.int p3), .val (.int p4), .val (.int p5), .val (.long (own_m p1)), .second, .val (.long (own_m p3)), .second, .val (.long (own_d 1 p5 p2)), .second, .val (.long (own_d 2 p5 p4)), .second, .val (.double (FP.l2d (own_m p1))), .second, .val (.double (FP.l2d ((own_m p1) + (own_d 1 p5 p2)))), .second, .val (.double (FP.l2d (own_m p3))), .second, .val (.double (FP.l2d ((own_m p3) + (own_d 2 p5 p4)))), .second, .val (.ref a), .val (.int (own_t (own_d 1 p5 p2) 0 (own_d 2 p5 p4) 0))] [(.ref a)])) rfl (by rw [hml]; rfl) (Steps.refl _) (argsL := []) (rest := []) (lenOf pd_z rfl) rfl (by show 2 * 0 + _ ≤ _; exact Nat.le_of_eq rfl) (hb hby at_120) (fun _ _ => ⟨rfl, rfl, (by decide : 1 + 0 ≤ _), (by decide : 4 + 0 ≤ _)⟩)
  dsimp only [Pt.U, Pt.locs, Pt.cells, Pt.slots] at X3 l3 y3 z3 st3 hQ3
  subst l3 y3 z3
  obtain ⟨rfl, M3, u3⟩ := hQ3
  have N3 := Fr.app N2 M3
  obtain ⟨fs, hr, hrun, hended, hW, hsame⟩ := X3.leave (v := some (.int (1 : Int32))) (fun h => by rw [Bd.returns] at h; cases h)
  refine ⟨_, _, pre0 _ ?_, hrun, hended, _, _, rfl, ?_, ⟨_, rfl⟩, hW, hsame.mono (by decide) (by decide)⟩
  · show Steps p.tables e below (s₁.setTop (mkF m 0 #[.val (.int p1), .val (.int p2), .val (.int p3), .val (.int p4), .val (.int p5), .unset, .unset, .unset, .unset, .unset, .unset, .unset, .unset, .unset, .unset, .unset, .unset, .unset, .unset, .unset, .unset, .unset, .unset] [])) _
    refine XS.iloadN X0.here hx rfl (hb hby at_0) rfl ?_
    show Steps p.tables e below (s₁.setTop (mkF m 1 #[.val (.int p1), .val (.int p2), .val (.int p3), .val (.int p4), .val (.int p5), .unset, .unset, .unset, .unset, .unset, .unset, .unset, .unset, .unset, .unset, .unset, .unset, .unset, .unset, .unset, .unset, .unset, .unset] [(.int p1)])) _
    refine XS.i2l X0.here hx rfl (hb hby at_1) rfl ?_
    show Steps p.tables e below (s₁.setTop (mkF m 2 #[.val (.int p1), .val (.int p2), .val (.int p3), .val (.int p4), .val (.int p5), .unset, .unset, .unset, .unset, .unset, .unset, .unset, .unset, .unset, .unset, .unset, .unset, .unset, .unset, .unset, .unset, .unset, .unset] [(.long (p1).toInt64)])) _
    refine X0.ldc2Long hx hown (mvT hZ (hw _ (List.mem_of_getElem? (i := 0) rfl))) (g := (mkF m 2 #[.val (.int p1), .val (.int p2), .val (.int p3), .val (.int p4), .val (.int p5), .unset, .unset, .unset, .unset, .unset, .unset, .unset, .unset, .unset, .unset, .unset, .unset, .unset, .unset, .unset, .unset, .unset, .unset] [(.long (p1).toInt64)])) rfl (hb hby at_2) _ ?_
    show Steps p.tables e below (s₁.setTop (mkF m 5 #[.val (.int p1), .val (.int p2), .val (.int p3), .val (.int p4), .val (.int p5), .unset, .unset, .unset, .unset, .unset, .unset, .unset, .unset, .unset, .unset, .unset, .unset, .unset, .unset, .unset, .unset, .unset, .unset] [(.long (2147483647 : Int64)), (.long (p1).toInt64)])) _
    refine XS.land X0.here hx rfl (hb hby at_5) rfl ?_
    show Steps p.tables e below (s₁.setTop (mkF m 6 #[.val (.int p1), .val (.int p2), .val (.int p3), .val (.int p4), .val (.int p5), .unset, .unset, .unset, .unset, .unset, .unset, .unset, .unset, .unset, .unset, .unset, .unset, .unset, .unset, .unset, .unset, .unset, .unset] [(.long (own_m p1))])) _
    refine XS.lstore X0.here hx rfl (hb hby at_6) rfl (l' := #[.val (.int p1), .val (.int p2), .val (.int p3), .val (.int p4), .val (.int p5), .val (.long (own_m p1)), .second, .unset, .unset, .unset, .unset, .unset, .unset, .unset, .unset, .unset, .unset, .unset, .unset, .unset, .unset, .unset, .unset]) rfl ?_
    show Steps p.tables e below (s₁.setTop (mkF m 8 #[.val (.int p1), .val (.int p2), .val (.int p3), .val (.int p4), .val (.int p5), .val (.long (own_m p1)), .second, .unset, .unset, .unset, .unset, .unset, .unset, .unset, .unset, .unset, .unset, .unset, .unset, .unset, .unset, .unset, .unset] [])) _
    refine XS.iloadN X0.here hx rfl (hb hby at_8) rfl ?_
    show Steps p.tables e below (s₁.setTop (mkF m 9 #[.val (.int p1), .val (.int p2), .val (.int p3), .val (.int p4), .val (.int p5), .val (.long (own_m p1)), .second, .unset, .unset, .unset, .unset, .unset, .unset, .unset, .unset, .unset, .unset, .unset, .unset, .unset, .unset, .unset, .unset] [(.int p3)])) _
    refine XS.i2l X0.here hx rfl (hb hby at_9) rfl ?_
    show Steps p.tables e below (s₁.setTop (mkF m 10 #[.val (.int p1), .val (.int p2), .val (.int p3), .val (.int p4), .val (.int p5), .val (.long (own_m p1)), .second, .unset, .unset, .unset, .unset, .unset, .unset, .unset, .unset, .unset, .unset, .unset, .unset, .unset, .unset, .unset, .unset] [(.long (p3).toInt64)])) _
    refine X0.ldc2Long hx hown (mvT hZ (hw _ (List.mem_of_getElem? (i := 0) rfl))) (g := (mkF m 10 #[.val (.int p1), .val (.int p2), .val (.int p3), .val (.int p4), .val (.int p5), .val (.long (own_m p1)), .second, .unset, .unset, .unset, .unset, .unset, .unset, .unset, .unset, .unset, .unset, .unset, .unset, .unset, .unset, .unset, .unset] [(.long (p3).toInt64)])) rfl (hb hby at_10) _ ?_
    show Steps p.tables e below (s₁.setTop (mkF m 13 #[.val (.int p1), .val (.int p2), .val (.int p3), .val (.int p4), .val (.int p5), .val (.long (own_m p1)), .second, .unset, .unset, .unset, .unset, .unset, .unset, .unset, .unset, .unset, .unset, .unset, .unset, .unset, .unset, .unset, .unset] [(.long (2147483647 : Int64)), (.long (p3).toInt64)])) _
    refine XS.land X0.here hx rfl (hb hby at_13) rfl ?_
    show Steps p.tables e below (s₁.setTop (mkF m 14 #[.val (.int p1), .val (.int p2), .val (.int p3), .val (.int p4), .val (.int p5), .val (.long (own_m p1)), .second, .unset, .unset, .unset, .unset, .unset, .unset, .unset, .unset, .unset, .unset, .unset, .unset, .unset, .unset, .unset, .unset] [(.long (own_m p3))])) _
    refine XS.lstore X0.here hx rfl (hb hby at_14) rfl (l' := #[.val (.int p1), .val (.int p2), .val (.int p3), .val (.int p4), .val (.int p5), .val (.long (own_m p1)), .second, .val (.long (own_m p3)), .second, .unset, .unset, .unset, .unset, .unset, .unset, .unset, .unset, .unset, .unset, .unset, .unset, .unset, .unset]) rfl ?_
    show Steps p.tables e below (s₁.setTop (mkF m 16 #[.val (.int p1), .val (.int p2), .val (.int p3), .val (.int p4), .val (.int p5), .val (.long (own_m p1)), .second, .val (.long (own_m p3)), .second, .unset, .unset, .unset, .unset, .unset, .unset, .unset, .unset, .unset, .unset, .unset, .unset, .unset, .unset] [])) _
    refine sg1 _ ?_
    show Steps p.tables e below (s₁.setTop (mkF m 35 #[.val (.int p1), .val (.int p2), .val (.int p3), .val (.int p4), .val (.int p5), .val (.long (own_m p1)), .second, .val (.long (own_m p3)), .second, .val (.long (own_d 1 p5 p2)), .second, .unset, .unset, .unset, .unset, .unset, .unset, .unset, .unset, .unset, .unset, .unset, .unset] [])) _
    refine sg2 _ ?_
    show Steps p.tables e below (s₁.setTop (mkF m 54 #[.val (.int p1), .val (.int p2), .val (.int p3), .val (.int p4), .val (.int p5), .val (.long (own_m p1)), .second, .val (.long (own_m p3)), .second, .val (.long (own_d 1 p5 p2)), .second, .val (.long (own_d 2 p5 p4)), .second, .unset, .unset, .unset, .unset, .unset, .unset, .unset, .unset, .unset, .unset] [])) _
    refine XS.lload X0.here hx rfl (hb hby at_54) rfl ?_
    show Steps p.tables e below (s₁.setTop (mkF m 56 #[.val (.int p1), .val (.int p2), .val (.int p3), .val (.int p4), .val (.int p5), .val (.long (own_m p1)), .second, .val (.long (own_m p3)), .second, .val (.long (own_d 1 p5 p2)), .second, .val (.long (own_d 2 p5 p4)), .second, .unset, .unset, .unset, .unset, .unset, .unset, .unset, .unset, .unset, .unset] [(.long (own_m p1))])) _
    refine XS.l2dS X0.here hx rfl (hb hby at_56) rfl rfl ?_
    show Steps p.tables e below (s₁.setTop (mkF m 57 #[.val (.int p1), .val (.int p2), .val (.int p3), .val (.int p4), .val (.int p5), .val (.long (own_m p1)), .second, .val (.long (own_m p3)), .second, .val (.long (own_d 1 p5 p2)), .second, .val (.long (own_d 2 p5 p4)), .second, .unset, .unset, .unset, .unset, .unset, .unset, .unset, .unset, .unset, .unset] [(.double (FP.l2d (own_m p1)))])) _
    refine XS.dstore X0.here hx rfl (hb hby at_57) rfl (l' := #[.val (.int p1), .val (.int p2), .val (.int p3), .val (.int p4), .val (.int p5), .val (.long (own_m p1)), .second, .val (.long (own_m p3)), .second, .val (.long (own_d 1 p5 p2)), .second, .val (.long (own_d 2 p5 p4)), .second, .val (.double (FP.l2d (own_m p1))), .second, .unset, .unset, .unset, .unset, .unset, .unset, .unset, .unset]) rfl ?_
    show Steps p.tables e below (s₁.setTop (mkF m 59 #[.val (.int p1), .val (.int p2), .val (.int p3), .val (.int p4), .val (.int p5), .val (.long (own_m p1)), .second, .val (.long (own_m p3)), .second, .val (.long (own_d 1 p5 p2)), .second, .val (.long (own_d 2 p5 p4)), .second, .val (.double (FP.l2d (own_m p1))), .second, .unset, .unset, .unset, .unset, .unset, .unset, .unset, .unset] [])) _
    refine XS.lload X0.here hx rfl (hb hby at_59) rfl ?_
    show Steps p.tables e below (s₁.setTop (mkF m 61 #[.val (.int p1), .val (.int p2), .val (.int p3), .val (.int p4), .val (.int p5), .val (.long (own_m p1)), .second, .val (.long (own_m p3)), .second, .val (.long (own_d 1 p5 p2)), .second, .val (.long (own_d 2 p5 p4)), .second, .val (.double (FP.l2d (own_m p1))), .second, .unset, .unset, .unset, .unset, .unset, .unset, .unset, .unset] [(.long (own_m p1))])) _
    refine XS.lload X0.here hx rfl (hb hby at_61) rfl ?_
    show Steps p.tables e below (s₁.setTop (mkF m 63 #[.val (.int p1), .val (.int p2), .val (.int p3), .val (.int p4), .val (.int p5), .val (.long (own_m p1)), .second, .val (.long (own_m p3)), .second, .val (.long (own_d 1 p5 p2)), .second, .val (.long (own_d 2 p5 p4)), .second, .val (.double (FP.l2d (own_m p1))), .second, .unset, .unset, .unset, .unset, .unset, .unset, .unset, .unset] [(.long (own_d 1 p5 p2)), (.long (own_m p1))])) _
    refine XS.ladd X0.here hx rfl (hb hby at_63) rfl ?_
    show Steps p.tables e below (s₁.setTop (mkF m 64 #[.val (.int p1), .val (.int p2), .val (.int p3), .val (.int p4), .val (.int p5), .val (.long (own_m p1)), .second, .val (.long (own_m p3)), .second, .val (.long (own_d 1 p5 p2)), .second, .val (.long (own_d 2 p5 p4)), .second, .val (.double (FP.l2d (own_m p1))), .second, .unset, .unset, .unset, .unset, .unset, .unset, .unset, .unset] [(.long ((own_m p1) + (own_d 1 p5 p2)))])) _
    refine XS.l2dS X0.here hx rfl (hb hby at_64) rfl rfl ?_
    show Steps p.tables e below (s₁.setTop (mkF m 65 #[.val (.int p1), .val (.int p2), .val (.int p3), .val (.int p4), .val (.int p5), .val (.long (own_m p1)), .second, .val (.long (own_m p3)), .second, .val (.long (own_d 1 p5 p2)), .second, .val (.long (own_d 2 p5 p4)), .second, .val (.double (FP.l2d (own_m p1))), .second, .unset, .unset, .unset, .unset, .unset, .unset, .unset, .unset] [(.double (FP.l2d ((own_m p1) + (own_d 1 p5 p2))))])) _
    refine XS.dstore X0.here hx rfl (hb hby at_65) rfl (l' := #[.val (.int p1), .val (.int p2), .val (.int p3), .val (.int p4), .val (.int p5), .val (.long (own_m p1)), .second, .val (.long (own_m p3)), .second, .val (.long (own_d 1 p5 p2)), .second, .val (.long (own_d 2 p5 p4)), .second, .val (.double (FP.l2d (own_m p1))), .second, .val (.double (FP.l2d ((own_m p1) + (own_d 1 p5 p2)))), .second, .unset, .unset, .unset, .unset, .unset, .unset]) rfl ?_
    show Steps p.tables e below (s₁.setTop (mkF m 67 #[.val (.int p1), .val (.int p2), .val (.int p3), .val (.int p4), .val (.int p5), .val (.long (own_m p1)), .second, .val (.long (own_m p3)), .second, .val (.long (own_d 1 p5 p2)), .second, .val (.long (own_d 2 p5 p4)), .second, .val (.double (FP.l2d (own_m p1))), .second, .val (.double (FP.l2d ((own_m p1) + (own_d 1 p5 p2)))), .second, .unset, .unset, .unset, .unset, .unset, .unset] [])) _
    refine XS.lload X0.here hx rfl (hb hby at_67) rfl ?_
    show Steps p.tables e below (s₁.setTop (mkF m 69 #[.val (.int p1), .val (.int p2), .val (.int p3), .val (.int p4), .val (.int p5), .val (.long (own_m p1)), .second, .val (.long (own_m p3)), .second, .val (.long (own_d 1 p5 p2)), .second, .val (.long (own_d 2 p5 p4)), .second, .val (.double (FP.l2d (own_m p1))), .second, .val (.double (FP.l2d ((own_m p1) + (own_d 1 p5 p2)))), .second, .unset, .unset, .unset, .unset, .unset, .unset] [(.long (own_m p3))])) _
    refine XS.l2dS X0.here hx rfl (hb hby at_69) rfl rfl ?_
    show Steps p.tables e below (s₁.setTop (mkF m 70 #[.val (.int p1), .val (.int p2), .val (.int p3), .val (.int p4), .val (.int p5), .val (.long (own_m p1)), .second, .val (.long (own_m p3)), .second, .val (.long (own_d 1 p5 p2)), .second, .val (.long (own_d 2 p5 p4)), .second, .val (.double (FP.l2d (own_m p1))), .second, .val (.double (FP.l2d ((own_m p1) + (own_d 1 p5 p2)))), .second, .unset, .unset, .unset, .unset, .unset, .unset] [(.double (FP.l2d (own_m p3)))])) _
    refine XS.dstore X0.here hx rfl (hb hby at_70) rfl (l' := #[.val (.int p1), .val (.int p2), .val (.int p3), .val (.int p4), .val (.int p5), .val (.long (own_m p1)), .second, .val (.long (own_m p3)), .second, .val (.long (own_d 1 p5 p2)), .second, .val (.long (own_d 2 p5 p4)), .second, .val (.double (FP.l2d (own_m p1))), .second, .val (.double (FP.l2d ((own_m p1) + (own_d 1 p5 p2)))), .second, .val (.double (FP.l2d (own_m p3))), .second, .unset, .unset, .unset, .unset]) rfl ?_
    show Steps p.tables e below (s₁.setTop (mkF m 72 #[.val (.int p1), .val (.int p2), .val (.int p3), .val (.int p4), .val (.int p5), .val (.long (own_m p1)), .second, .val (.long (own_m p3)), .second, .val (.long (own_d 1 p5 p2)), .second, .val (.long (own_d 2 p5 p4)), .second, .val (.double (FP.l2d (own_m p1))), .second, .val (.double (FP.l2d ((own_m p1) + (own_d 1 p5 p2)))), .second, .val (.double (FP.l2d (own_m p3))), .second, .unset, .unset, .unset, .unset] [])) _
    refine XS.lload X0.here hx rfl (hb hby at_72) rfl ?_
    show Steps p.tables e below (s₁.setTop (mkF m 74 #[.val (.int p1), .val (.int p2), .val (.int p3), .val (.int p4), .val (.int p5), .val (.long (own_m p1)), .second, .val (.long (own_m p3)), .second, .val (.long (own_d 1 p5 p2)), .second, .val (.long (own_d 2 p5 p4)), .second, .val (.double (FP.l2d (own_m p1))), .second, .val (.double (FP.l2d ((own_m p1) + (own_d 1 p5 p2)))), .second, .val (.double (FP.l2d (own_m p3))), .second, .unset, .unset, .unset, .unset] [(.long (own_m p3))])) _
    refine XS.lload X0.here hx rfl (hb hby at_74) rfl ?_
    show Steps p.tables e below (s₁.setTop (mkF m 76 #[.val (.int p1), .val (.int p2), .val (.int p3), .val (.int p4), .val (.int p5), .val (.long (own_m p1)), .second, .val (.long (own_m p3)), .second, .val (.long (own_d 1 p5 p2)), .second, .val (.long (own_d 2 p5 p4)), .second, .val (.double (FP.l2d (own_m p1))), .second, .val (.double (FP.l2d ((own_m p1) + (own_d 1 p5 p2)))), .second, .val (.double (FP.l2d (own_m p3))), .second, .unset, .unset, .unset, .unset] [(.long (own_d 2 p5 p4)), (.long (own_m p3))])) _
    refine XS.ladd X0.here hx rfl (hb hby at_76) rfl ?_
    show Steps p.tables e below (s₁.setTop (mkF m 77 #[.val (.int p1), .val (.int p2), .val (.int p3), .val (.int p4), .val (.int p5), .val (.long (own_m p1)), .second, .val (.long (own_m p3)), .second, .val (.long (own_d 1 p5 p2)), .second, .val (.long (own_d 2 p5 p4)), .second, .val (.double (FP.l2d (own_m p1))), .second, .val (.double (FP.l2d ((own_m p1) + (own_d 1 p5 p2)))), .second, .val (.double (FP.l2d (own_m p3))), .second, .unset, .unset, .unset, .unset] [(.long ((own_m p3) + (own_d 2 p5 p4)))])) _
    refine XS.l2dS X0.here hx rfl (hb hby at_77) rfl rfl ?_
    show Steps p.tables e below (s₁.setTop (mkF m 78 #[.val (.int p1), .val (.int p2), .val (.int p3), .val (.int p4), .val (.int p5), .val (.long (own_m p1)), .second, .val (.long (own_m p3)), .second, .val (.long (own_d 1 p5 p2)), .second, .val (.long (own_d 2 p5 p4)), .second, .val (.double (FP.l2d (own_m p1))), .second, .val (.double (FP.l2d ((own_m p1) + (own_d 1 p5 p2)))), .second, .val (.double (FP.l2d (own_m p3))), .second, .unset, .unset, .unset, .unset] [(.double (FP.l2d ((own_m p3) + (own_d 2 p5 p4))))])) _
    refine XS.dstore X0.here hx rfl (hb hby at_78) rfl (l' := #[.val (.int p1), .val (.int p2), .val (.int p3), .val (.int p4), .val (.int p5), .val (.long (own_m p1)), .second, .val (.long (own_m p3)), .second, .val (.long (own_d 1 p5 p2)), .second, .val (.long (own_d 2 p5 p4)), .second, .val (.double (FP.l2d (own_m p1))), .second, .val (.double (FP.l2d ((own_m p1) + (own_d 1 p5 p2)))), .second, .val (.double (FP.l2d (own_m p3))), .second, .val (.double (FP.l2d ((own_m p3) + (own_d 2 p5 p4)))), .second, .unset, .unset]) rfl ?_
    show Steps p.tables e below (s₁.setTop (mkF m 80 #[.val (.int p1), .val (.int p2), .val (.int p3), .val (.int p4), .val (.int p5), .val (.long (own_m p1)), .second, .val (.long (own_m p3)), .second, .val (.long (own_d 1 p5 p2)), .second, .val (.long (own_d 2 p5 p4)), .second, .val (.double (FP.l2d (own_m p1))), .second, .val (.double (FP.l2d ((own_m p1) + (own_d 1 p5 p2)))), .second, .val (.double (FP.l2d (own_m p3))), .second, .val (.double (FP.l2d ((own_m p3) + (own_d 2 p5 p4)))), .second, .unset, .unset] [])) _
    refine st1 _ ?_
    show Steps p.tables e below (T1.setTop (mkF m 83 #[.val (.int p1), .val (.int p2), .val (.int p3), .val (.int p4), .val (.int p5), .val (.long (own_m p1)), .second, .val (.long (own_m p3)), .second, .val (.long (own_d 1 p5 p2)), .second, .val (.long (own_d 2 p5 p4)), .second, .val (.double (FP.l2d (own_m p1))), .second, .val (.double (FP.l2d ((own_m p1) + (own_d 1 p5 p2)))), .second, .val (.double (FP.l2d (own_m p3))), .second, .val (.double (FP.l2d ((own_m p3) + (own_d 2 p5 p4)))), .second, .unset, .unset] [(.ref a)])) _
    refine XS.dup X1.here hx rfl (hb hby at_83) rfl rfl ?_
    show Steps p.tables e below (T1.setTop (mkF m 84 #[.val (.int p1), .val (.int p2), .val (.int p3), .val (.int p4), .val (.int p5), .val (.long (own_m p1)), .second, .val (.long (own_m p3)), .second, .val (.long (own_d 1 p5 p2)), .second, .val (.long (own_d 2 p5 p4)), .second, .val (.double (FP.l2d (own_m p1))), .second, .val (.double (FP.l2d ((own_m p1) + (own_d 1 p5 p2)))), .second, .val (.double (FP.l2d (own_m p3))), .second, .val (.double (FP.l2d ((own_m p3) + (own_d 2 p5 p4)))), .second, .unset, .unset] [(.ref a), (.ref a)])) _
    refine XS.dload X1.here hx rfl (hb hby at_84) rfl ?_
    show Steps p.tables e below (T1.setTop (mkF m 86 #[.val (.int p1), .val (.int p2), .val (.int p3), .val (.int p4), .val (.int p5), .val (.long (own_m p1)), .second, .val (.long (own_m p3)), .second, .val (.long (own_d 1 p5 p2)), .second, .val (.long (own_d 2 p5 p4)), .second, .val (.double (FP.l2d (own_m p1))), .second, .val (.double (FP.l2d ((own_m p1) + (own_d 1 p5 p2)))), .second, .val (.double (FP.l2d (own_m p3))), .second, .val (.double (FP.l2d ((own_m p3) + (own_d 2 p5 p4)))), .second, .unset, .unset] [(.double (FP.l2d (own_m p1))), (.ref a), (.ref a)])) _
    refine XS.dload X1.here hx rfl (hb hby at_86) rfl ?_
    show Steps p.tables e below (T1.setTop (mkF m 88 #[.val (.int p1), .val (.int p2), .val (.int p3), .val (.int p4), .val (.int p5), .val (.long (own_m p1)), .second, .val (.long (own_m p3)), .second, .val (.long (own_d 1 p5 p2)), .second, .val (.long (own_d 2 p5 p4)), .second, .val (.double (FP.l2d (own_m p1))), .second, .val (.double (FP.l2d ((own_m p1) + (own_d 1 p5 p2)))), .second, .val (.double (FP.l2d (own_m p3))), .second, .val (.double (FP.l2d ((own_m p3) + (own_d 2 p5 p4)))), .second, .unset, .unset] [(.double (FP.l2d ((own_m p1) + (own_d 1 p5 p2)))), (.double (FP.l2d (own_m p1))), (.ref a), (.ref a)])) _
    refine XS.dload X1.here hx rfl (hb hby at_88) rfl ?_
    show Steps p.tables e below (T1.setTop (mkF m 90 #[.val (.int p1), .val (.int p2), .val (.int p3), .val (.int p4), .val (.int p5), .val (.long (own_m p1)), .second, .val (.long (own_m p3)), .second, .val (.long (own_d 1 p5 p2)), .second, .val (.long (own_d 2 p5 p4)), .second, .val (.double (FP.l2d (own_m p1))), .second, .val (.double (FP.l2d ((own_m p1) + (own_d 1 p5 p2)))), .second, .val (.double (FP.l2d (own_m p3))), .second, .val (.double (FP.l2d ((own_m p3) + (own_d 2 p5 p4)))), .second, .unset, .unset] [(.double (FP.l2d (own_m p3))), (.double (FP.l2d ((own_m p1) + (own_d 1 p5 p2)))), (.double (FP.l2d (own_m p1))), (.ref a), (.ref a)])) _
    refine XS.dload X1.here hx rfl (hb hby at_90) rfl ?_
    show Steps p.tables e below (T1.setTop (mkF m 92 #[.val (.int p1), .val (.int p2), .val (.int p3), .val (.int p4), .val (.int p5), .val (.long (own_m p1)), .second, .val (.long (own_m p3)), .second, .val (.long (own_d 1 p5 p2)), .second, .val (.long (own_d 2 p5 p4)), .second, .val (.double (FP.l2d (own_m p1))), .second, .val (.double (FP.l2d ((own_m p1) + (own_d 1 p5 p2)))), .second, .val (.double (FP.l2d (own_m p3))), .second, .val (.double (FP.l2d ((own_m p3) + (own_d 2 p5 p4)))), .second, .unset, .unset] [(.double (FP.l2d ((own_m p3) + (own_d 2 p5 p4)))), (.double (FP.l2d (own_m p3))), (.double (FP.l2d ((own_m p1) + (own_d 1 p5 p2)))), (.double (FP.l2d (own_m p1))), (.ref a), (.ref a)])) _
    refine st2.trans ?_
    show Steps p.tables e below (T2.setTop (mkF m 95 #[.val (.int p1), .val (.int p2), .val (.int p3), .val (.int p4), .val (.int p5), .val (.long (own_m p1)), .second, .val (.long (own_m p3)), .second, .val (.long (own_d 1 p5 p2)), .second, .val (.long (own_d 2 p5 p4)), .second, .val (.double (FP.l2d (own_m p1))), .second, .val (.double (FP.l2d ((own_m p1) + (own_d 1 p5 p2)))), .second, .val (.double (FP.l2d (own_m p3))), .second, .val (.double (FP.l2d ((own_m p3) + (own_d 2 p5 p4)))), .second, .unset, .unset] [(.ref a)])) _
    refine XS.astore X2.here hx rfl (hb hby at_95) rfl rfl (l' := #[.val (.int p1), .val (.int p2), .val (.int p3), .val (.int p4), .val (.int p5), .val (.long (own_m p1)), .second, .val (.long (own_m p3)), .second, .val (.long (own_d 1 p5 p2)), .second, .val (.long (own_d 2 p5 p4)), .second, .val (.double (FP.l2d (own_m p1))), .second, .val (.double (FP.l2d ((own_m p1) + (own_d 1 p5 p2)))), .second, .val (.double (FP.l2d (own_m p3))), .second, .val (.double (FP.l2d ((own_m p3) + (own_d 2 p5 p4)))), .second, .val (.ref a), .unset]) rfl ?_
    show Steps p.tables e below (T2.setTop (mkF m 97 #[.val (.int p1), .val (.int p2), .val (.int p3), .val (.int p4), .val (.int p5), .val (.long (own_m p1)), .second, .val (.long (own_m p3)), .second, .val (.long (own_d 1 p5 p2)), .second, .val (.long (own_d 2 p5 p4)), .second, .val (.double (FP.l2d (own_m p1))), .second, .val (.double (FP.l2d ((own_m p1) + (own_d 1 p5 p2)))), .second, .val (.double (FP.l2d (own_m p3))), .second, .val (.double (FP.l2d ((own_m p3) + (own_d 2 p5 p4)))), .second, .val (.ref a), .unset] [])) _
    refine sg3 _ ?_
    show Steps p.tables e below (T2.setTop (mkF m 118 #[.val (.int p1), .val (.int p2), .val (.int p3), .val (.int p4), .val (.int p5), .val (.long (own_m p1)), .second, .val (.long (own_m p3)), .second, .val (.long (own_d 1 p5 p2)), .second, .val (.long (own_d 2 p5 p4)), .second, .val (.double (FP.l2d (own_m p1))), .second, .val (.double (FP.l2d ((own_m p1) + (own_d 1 p5 p2)))), .second, .val (.double (FP.l2d (own_m p3))), .second, .val (.double (FP.l2d ((own_m p3) + (own_d 2 p5 p4)))), .second, .val (.ref a), .val (.int (own_t (own_d 1 p5 p2) 0 (own_d 2 p5 p4) 0))] [])) _
    refine XS.aload X2.here hx rfl (hb hby at_118) rfl rfl ?_
    show Steps p.tables e below (T2.setTop (mkF m 120 #[.val (.int p1), .val (.int p2), .val (.int p3), .val (.int p4), .val (.int p5), .val (.long (own_m p1)), .second, .val (.long (own_m p3)), .second, .val (.long (own_d 1 p5 p2)), .second, .val (.long (own_d 2 p5 p4)), .second, .val (.double (FP.l2d (own_m p1))), .second, .val (.double (FP.l2d ((own_m p1) + (own_d 1 p5 p2)))), .second, .val (.double (FP.l2d (own_m p3))), .second, .val (.double (FP.l2d ((own_m p3) + (own_d 2 p5 p4)))), .second, .val (.ref a), .val (.int (own_t (own_d 1 p5 p2) 0 (own_d 2 p5 p4) 0))] [(.ref a)])) _
    refine st3.trans ?_
    show Steps p.tables e below (T3.setTop (mkF m 123 #[.val (.int p1), .val (.int p2), .val (.int p3), .val (.int p4), .val (.int p5), .val (.long (own_m p1)), .second, .val (.long (own_m p3)), .second, .val (.long (own_d 1 p5 p2)), .second, .val (.long (own_d 2 p5 p4)), .second, .val (.double (FP.l2d (own_m p1))), .second, .val (.double (FP.l2d ((own_m p1) + (own_d 1 p5 p2)))), .second, .val (.double (FP.l2d (own_m p3))), .second, .val (.double (FP.l2d ((own_m p3) + (own_d 2 p5 p4)))), .second, .val (.ref a), .val (.int (own_t (own_d 1 p5 p2) 0 (own_d 2 p5 p4) 0))] [(.int (own_t (own_m p1) ((own_m p1) + (own_d 1 p5 p2)) (own_m p3) ((own_m p3) + (own_d 2 p5 p4))))])) _
    refine XS.iload X3.here hx rfl (hb hby at_123) rfl ?_
    show Steps p.tables e below (T3.setTop (mkF m 125 #[.val (.int p1), .val (.int p2), .val (.int p3), .val (.int p4), .val (.int p5), .val (.long (own_m p1)), .second, .val (.long (own_m p3)), .second, .val (.long (own_d 1 p5 p2)), .second, .val (.long (own_d 2 p5 p4)), .second, .val (.double (FP.l2d (own_m p1))), .second, .val (.double (FP.l2d ((own_m p1) + (own_d 1 p5 p2)))), .second, .val (.double (FP.l2d (own_m p3))), .second, .val (.double (FP.l2d ((own_m p3) + (own_d 2 p5 p4)))), .second, .val (.ref a), .val (.int (own_t (own_d 1 p5 p2) 0 (own_d 2 p5 p4) 0))] [(.int (own_t (own_d 1 p5 p2) 0 (own_d 2 p5 p4) 0)), (.int (own_t (own_m p1) ((own_m p1) + (own_d 1 p5 p2)) (own_m p3) ((own_m p3) + (own_d 2 p5 p4))))])) _
    refine XS.icmpNo X3.here hx rfl (hb hby at_125) rfl (teq (own_t_eq b1 b2 b3 b4 : (own_t (own_m p1) ((own_m p1) + (own_d 1 p5 p2)) (own_m p3) ((own_m p3) + (own_d 2 p5 p4))) = (own_t (own_d 1 p5 p2) 0 (own_d 2 p5 p4) 0))).2 ?_
    show Steps p.tables e below (T3.setTop (mkF m 128 #[.val (.int p1), .val (.int p2), .val (.int p3), .val (.int p4), .val (.int p5), .val (.long (own_m p1)), .second, .val (.long (own_m p3)), .second, .val (.long (own_d 1 p5 p2)), .second, .val (.long (own_d 2 p5 p4)), .second, .val (.double (FP.l2d (own_m p1))), .second, .val (.double (FP.l2d ((own_m p1) + (own_d 1 p5 p2)))), .second, .val (.double (FP.l2d (own_m p3))), .second, .val (.double (FP.l2d ((own_m p3) + (own_d 2 p5 p4)))), .second, .val (.ref a), .val (.int (own_t (own_d 1 p5 p2) 0 (own_d 2 p5 p4) 0))] [])) _
    refine XS.iconst X3.here hx rfl (hb hby at_128) ?_
    show Steps p.tables e below (T3.setTop (mkF m 129 #[.val (.int p1), .val (.int p2), .val (.int p3), .val (.int p4), .val (.int p5), .val (.long (own_m p1)), .second, .val (.long (own_m p3)), .second, .val (.long (own_d 1 p5 p2)), .second, .val (.long (own_d 2 p5 p4)), .second, .val (.double (FP.l2d (own_m p1))), .second, .val (.double (FP.l2d ((own_m p1) + (own_d 1 p5 p2)))), .second, .val (.double (FP.l2d (own_m p3))), .second, .val (.double (FP.l2d ((own_m p3) + (own_d 2 p5 p4)))), .second, .val (.ref a), .val (.int (own_t (own_d 1 p5 p2) 0 (own_d 2 p5 p4) 0))] [(.int (1 : Int32))])) _
    refine XS.goto X3.here hx rfl (pc0 := 129) (pc' := 133) rfl (hb hby at_129) (by decide) (by decide) ?_
    show Steps p.tables e below (T3.setTop (mkF m 133 #[.val (.int p1), .val (.int p2), .val (.int p3), .val (.int p4), .val (.int p5), .val (.long (own_m p1)), .second, .val (.long (own_m p3)), .second, .val (.long (own_d 1 p5 p2)), .second, .val (.long (own_d 2 p5 p4)), .second, .val (.double (FP.l2d (own_m p1))), .second, .val (.double (FP.l2d ((own_m p1) + (own_d 1 p5 p2)))), .second, .val (.double (FP.l2d (own_m p3))), .second, .val (.double (FP.l2d ((own_m p3) + (own_d 2 p5 p4)))), .second, .val (.ref a), .val (.int (own_t (own_d 1 p5 p2) 0 (own_d 2 p5 p4) 0))] [(.int (1 : Int32))])) _
    exact retN X3 hx (t := .boolean) Bd.returns (by simp) (hb hby at_133) hr
  · show Qlaw Z p1 p2 p3 p4 p5 h0 n0 _ T3.heap _
    rw [u3]
    exact ⟨rfl, N3⟩
set_option maxRecDepth 65536 in
set_option maxHeartbeats 40000000 in
theorem comes_1 {Post : Tables → Env → Array Value → State → Outcome → State → Prop} (hpost : ∀ tb e args s v u, (limb_1_1.after args s (.returned v) u = true ∧ limb_1_2.after args s (.returned v) u = true ∧ True) → FrameEnd s (.returned v) u (Jvm.fieldLocs frame_1_writes args s ++ Jvm.arrayLocs frame_1_arrays args s ++ Jvm.staticLocs frame_1_statics s) 16 128 → Post tb e args s (.returned v) u) :
    ArmFor flags0 classFile x code maxLocals ret World_1 tables_1 room_1 Calls_1 rest_1 Pre_1 Post := by
  intro l hfl _ _ p e ha hc hk s m args below hf hA hF happ hP
  obtain ⟨hcalls, hrest, hpre⟩ := hP
  obtain ⟨-, -, -, hnamed, -, -, -, hat⟩ := (Spec.applies_iff hf).mp happ
  obtain ⟨hg, hn⟩ := and_e (Cond.before_iff.mp (show (Jvm.Cond.and given_1 narrow_1).before args s = true from hpre))
  obtain ⟨gc, hg⟩ := and_e hg
  obtain ⟨ga0, hg⟩ := and_e hg
  obtain ⟨ga1, hg⟩ := and_e hg
  obtain ⟨ga2, hg⟩ := and_e hg
  obtain ⟨ga3, hg⟩ := and_e hg
  obtain ⟨w0, w1, w2, w3, w4, rfl⟩ : ∃ w0 w1 w2 w3 w4 : Value, args = #[w0, w1, w2, w3, w4] := by
    have hs : args.size = 5 := by simpa [Cond.value, given_1] using gc
    obtain ⟨L⟩ := args
    match L, hs with
    | [w0, w1, w2, w3, w4], _ => exact ⟨w0, w1, w2, w3, w4, rfl⟩
  have hw := fun d (hd : d ∈ tables_1) => atoms_spec (ws := Jvm.Cond.code x code maxLocals ret :: tables_1) hat d (List.mem_cons_of_mem _ hd)
  obtain ⟨i0, ei0⟩ := is_v ga0
  obtain rfl : w0 = (.int i0) := Option.some.inj ei0
  obtain ⟨i1, ei1⟩ := is_v ga1
  obtain rfl : w1 = (.int i1) := Option.some.inj ei1
  obtain ⟨i2, ei2⟩ := is_v ga2
  obtain rfl : w2 = (.int i2) := Option.some.inj ei2
  obtain ⟨i3, ei3⟩ := is_v ga3
  obtain rfl : w3 = (.int i3) := Option.some.inj ei3
  obtain ⟨i4, ei4⟩ := is_v hg
  obtain rfl : w4 = (.int i4) := Option.some.inj ei4
  obtain ⟨n, o, h1, h2, h3, _, L, rfl, ⟨rfl, N⟩, hq⟩ := rmlaw l s _ hw tables_1 i0 i1 i2 i3 i4 s.heap s.heap.size (Nat.le_refl _) p e ha hc hk s m _ below hf ((Spec.applies_iff_loose hf).mp happ).1 ⟨rfl, State.Warmed39.refl s, rfl⟩ trivial
  refine ⟨n, _, h1, h2, h3, hpost _ _ _ _ _ _ ⟨Cond.after_iff.mpr rfl, Cond.after_iff.mpr (eq_i res_at (Term.int_eval (1)) rfl), trivial⟩ ⟨hq.1, hq.2.1, (hq.2.2.sift fun y hy => Or.inr (N y hy)).mono (by decide) (by decide)⟩⟩
theorem main_1_1 : Claimed_1_1 := comes_1 fun _ _ _ _ _ _ h hF => ⟨h.1, hF⟩
theorem main_1_2 : Claimed_1_2 := comes_1 fun _ _ _ _ _ _ h hF => ⟨h.2.1, hF⟩
end Jvm.Pilot.@@N@@
namespace Jvm.Pilot.@@N@@
open Jvm Jvm.ClassFile Sem Op Lib Jvm.Free Jvm.Stand Jvm.Pilot.@@N@@.Jvm.D
/-! MADE BY PROGRAM (witnessworld.py) out of the Statement's table words and the real class files: 10 classes; the members and pool entries that the words name. The judged class is class 1, her method 1. -/
namespace start1
open Jvm.ClassFile
def u (s : String) : CpInfo := .utf8 (stringToUtf16 s)
/-- a pool by its gaps: so many unusable entries, then the entry; so many at the end -/
def gap : Nat → List CpInfo → List CpInfo
  | 0, r => r
  | n + 1, r => .unusable :: gap n r
def poolList (es : List (Nat × CpInfo)) (last : Nat) : List CpInfo := es.foldr (fun e r => gap e.1 (e.2 :: r)) (gap last [])
def pool (es : List (Nat × CpInfo)) (last : Nat) : Array CpInfo := ⟨poolList es last⟩
def fileOf (pool : Array CpInfo) (this : Nat) (attrs : Array Attribute := #[]) (ms : Array MethodInfo := #[]) (fl : Nat := 33) (sup : Nat := 0) (ifs : Array Nat := #[]) (fds : Array FieldInfo := #[]) : ClassFile where
  minorVersion := 0
  majorVersion := 65
  constantPool := pool
  accessFlags := fl
  thisClass := this
  superClass := sup
  interfaces := ifs
  fields := fds
  methods := ms
  attributes := attrs
def plain (name : String) (sup : Option ClassId) : Class where
  name := name
  kind := .ordinary
  loader := none
  accessFlags := 33
  super := sup
  interfaces := #[]
  cf := none
  fields := #[]
  methods := #[]
  instanceTypes := #[]
  staticTypes := #[]
  resolved := #[]
  callSites := []
  init := .initialized
  statics := none
  mirror := none

def pool0 : Array CpInfo := pool [(5, u "<init>"), (0, u "()V"), (1, .class_ 10), (1, u "java/lang/Object")] 113

def k0c0 : Code := { maxStack := 0, maxLocals := 1, code := object_method_1_code, exceptionTable := #[], attributes := #[] }
def k0m0 : Method := { name := "<init>", desc := "()V", sig := { parameters := [], returnType := none }, accessFlags := 1, code := some k0c0 }
/-- java/lang/Object -/
def k0 : Class := { plain "java/lang/Object" none with
  accessFlags := 33
  interfaces := #[]
  cf := some (fileOf pool0 8 #[] #[{ accessFlags := 1, nameIndex := 5, descriptorIndex := 6, attributes := #[] }] 33 0 #[] #[])
  fields := #[]
  methods := #[k0m0]
  instanceTypes := #[]
  staticTypes := #[]
  resolved := Array.replicate 124 none
  statics := none }

def pool1 : Array CpInfo := pool [(2, .class_ 4), (1, u "java/lang/Object"), (0, u "<init>"), (0, u "()V"), (0, .long 2147483647), (1, .class_ 10), (0, u "com/example/triptych/triptych/rendering/BoxConstraints"), (0, .methodref 9 12), (0, .nameAndType 5 13), (0, u "(DDDD)V"), (0, .methodref 9 15), (0, .nameAndType 16 17), (0, u "isTight"), (0, u "()Z"), (0, .class_ 19), (0, u "com/example/triptych/triptych/rendering/BoxConstraintsIsTightPinLaw"), (2, u "law"), (0, u "(IIIII)Z")] 3

def k1m0 : Method := { name := "<init>", desc := "()V", sig := { parameters := [], returnType := none }, accessFlags := 1, code := none }
def k1c1 : Code := { maxStack := 10, maxLocals := 23, code := code, exceptionTable := #[], attributes := #[] }
def k1m1 : Method := { name := "law", desc := "(IIIII)Z", sig := { parameters := [.int, .int, .int, .int, .int], returnType := some .boolean }, accessFlags := 9, code := some k1c1 }
/-- com/example/triptych/triptych/rendering/BoxConstraintsIsTightPinLaw -/
def k1 : Class := { plain "com/example/triptych/triptych/rendering/BoxConstraintsIsTightPinLaw" (some 0) with
  accessFlags := 49
  interfaces := #[]
  cf := some (fileOf pool1 18 #[] #[{ accessFlags := 1, nameIndex := 5, descriptorIndex := 6, attributes := #[] }, { accessFlags := 9, nameIndex := 22, descriptorIndex := 23, attributes := #[] }] 49 2 #[] #[])
  fields := #[]
  methods := #[k1m0, k1m1]
  instanceTypes := #[]
  staticTypes := #[]
  resolved := Array.replicate 27 none
  statics := none }

def pool2 : Array CpInfo := pool [(1, .methodref 2 3), (0, .class_ 4), (0, .nameAndType 5 6), (0, u "java/lang/Object"), (0, u "<init>"), (0, u "()V"), (0, .class_ 8), (0, u "java/lang/Record")] 13

def k2c0 : Code := { maxStack := 1, maxLocals := 1, code := jdk_30_method_1_code, exceptionTable := #[], attributes := #[] }
def k2m0 : Method := { name := "<init>", desc := "()V", sig := { parameters := [], returnType := none }, accessFlags := 4, code := some k2c0 }
/-- java/lang/Record -/
def k2 : Class := { plain "java/lang/Record" (some 0) with
  accessFlags := 1057
  interfaces := #[]
  cf := some (fileOf pool2 7 #[] #[{ accessFlags := 4, nameIndex := 5, descriptorIndex := 6, attributes := #[] }] 1057 2 #[] #[])
  fields := #[]
  methods := #[k2m0]
  instanceTypes := #[]
  staticTypes := #[]
  resolved := Array.replicate 22 none
  statics := none }

def pool3 : Array CpInfo := pool [(1, .methodref 2 3), (0, .class_ 4), (0, .nameAndType 5 6), (0, u "java/lang/Record"), (0, u "<init>"), (0, u "()V"), (0, .methodref 8 9), (0, .class_ 10), (0, .nameAndType 11 12), (0, u "com/example/triptych/triptych/rendering/BoxConstraints"), (0, u "isRange"), (0, u "(DD)Z"), (9, .fieldref 8 23), (0, .nameAndType 24 25), (0, u "minWidth"), (0, u "D"), (0, .fieldref 8 27), (0, .nameAndType 28 25), (0, u "maxWidth"), (0, .fieldref 8 30), (0, .nameAndType 31 25), (0, u "minHeight"), (0, .fieldref 8 33), (0, .nameAndType 34 25), (0, u "maxHeight"), (11, u "(DDDD)V"), (5, .double 9218868437227405312), (48, u "()Z"), (19, u "isTight")] 55

def k3c0 : Code := { maxStack := 10, maxLocals := 9, code := prog_70_method_1_code, exceptionTable := #[], attributes := #[] }
def k3m0 : Method := { name := "<init>", desc := "(DDDD)V", sig := { parameters := [.double, .double, .double, .double], returnType := none }, accessFlags := 1, code := some k3c0 }
def k3c1 : Code := { maxStack := 4, maxLocals := 1, code := prog_70_method_3_code, exceptionTable := #[], attributes := #[] }
def k3m1 : Method := { name := "isTight", desc := "()Z", sig := { parameters := [], returnType := some .boolean }, accessFlags := 1, code := some k3c1 }
def k3c2 : Code := { maxStack := 4, maxLocals := 4, code := prog_70_method_19_code, exceptionTable := #[], attributes := #[] }
def k3m2 : Method := { name := "isRange", desc := "(DD)Z", sig := { parameters := [.double, .double], returnType := some .boolean }, accessFlags := 10, code := some k3c2 }
/-- com/example/triptych/triptych/rendering/BoxConstraints -/
def k3 : Class := { plain "com/example/triptych/triptych/rendering/BoxConstraints" (some 2) with
  accessFlags := 49
  interfaces := #[]
  cf := some (fileOf pool3 8 #[] #[{ accessFlags := 1, nameIndex := 5, descriptorIndex := 46, attributes := #[] }, { accessFlags := 1, nameIndex := 121, descriptorIndex := 101, attributes := #[] }, { accessFlags := 10, nameIndex := 11, descriptorIndex := 12, attributes := #[] }] 49 2 #[] #[{ accessFlags := 18, nameIndex := 24, descriptorIndex := 25, attributes := #[] }, { accessFlags := 18, nameIndex := 28, descriptorIndex := 25, attributes := #[] }, { accessFlags := 18, nameIndex := 31, descriptorIndex := 25, attributes := #[] }, { accessFlags := 18, nameIndex := 34, descriptorIndex := 25, attributes := #[] }])
  fields := #[{ name := "minWidth", type := .double, accessFlags := 18, slot := 0, constantValue := 0 }, { name := "maxWidth", type := .double, accessFlags := 18, slot := 1, constantValue := 0 }, { name := "minHeight", type := .double, accessFlags := 18, slot := 2, constantValue := 0 }, { name := "maxHeight", type := .double, accessFlags := 18, slot := 3, constantValue := 0 }]
  methods := #[k3m0, k3m1, k3m2]
  instanceTypes := #[.double, .double, .double, .double]
  staticTypes := #[]
  resolved := Array.replicate 177 none
  statics := none }

def pool4 : Array CpInfo := pool [(1, u "java/lang/Cloneable"), (0, .class_ 1), (0, u "java/lang/Object"), (0, .class_ 3)] 3

/-- java/lang/Cloneable -/
def k4 : Class := { plain "java/lang/Cloneable" (some 0) with
  accessFlags := 1537
  interfaces := #[]
  cf := some (fileOf pool4 2 #[] #[] 1537 4 #[] #[])
  fields := #[]
  methods := #[]
  instanceTypes := #[]
  staticTypes := #[]
  resolved := Array.replicate 8 none
  statics := none }

def pool5 : Array CpInfo := pool [(1, u "java/io/Serializable"), (0, .class_ 1), (0, u "java/lang/Object"), (0, .class_ 3)] 3

/-- java/io/Serializable -/
def k5 : Class := { plain "java/io/Serializable" (some 0) with
  accessFlags := 1537
  interfaces := #[]
  cf := some (fileOf pool5 2 #[] #[] 1537 4 #[] #[])
  fields := #[]
  methods := #[]
  instanceTypes := #[]
  staticTypes := #[]
  resolved := Array.replicate 8 none
  statics := none }

/-- the primitive byte -/
def k6 : Class := { plain "byte" none with kind := .primitive 'B', accessFlags := 0x411 }
/-- [B -/
def k7 : Class := { plain "[B" (some 0) with kind := .array 6 .byte, interfaces := #[4, 5], accessFlags := 1041 }

/-- the primitive int -/
def k8 : Class := { plain "int" none with kind := .primitive 'I', accessFlags := 0x411 }
/-- [I -/
def k9 : Class := { plain "[I" (some 0) with kind := .array 8 .int, interfaces := #[4, 5], accessFlags := 1041 }

def heap : Heap := #[]
def classes : Array Class := #[k0, k1, k2, k3, k4, k5, k6, k7, k8, k9]
def interned : List (Array UInt16 × Addr) := []
def slotsUsed : Nat := 0
def theMethod : MethodId := ⟨1, 1⟩
def args0 : Array Value := #[.int 5, .int 6, .int 7, .int 8, .int 0]
def aboutOver (below : List Frame) : State where
  vm := { classes := classes, interned := interned.toArray }
  heap := heap
  slotsUsed := slotsUsed
  threads := #[{ frames := .invoking theMethod args0 :: below }]
def below0 : List Frame := [.native { method := ⟨0, 0⟩, args := #[] }]
def about1 : State := aboutOver below0
def p0 : Program := .bare "" "" ""
def e0 : Env := launch0.env 0 0 0
theorem w_frames : about1.frames = Frame.invoking theMethod args0 :: below0 := rfl
set_option maxRecDepth 65536 in
theorem w_args : argsFit about1.vm theMethod args0 = true := by decide +kernel
set_option maxRecDepth 65536 in
theorem w_heap : heapFits about1 = true := by decide +kernel
set_option maxRecDepth 65536 in
theorem w_runnable : about1.curStatus? = some .runnable := by decide +kernel
set_option maxRecDepth 65536 in
theorem w_alone : about1.alone = true := by decide +kernel
set_option maxRecDepth 65536 in
theorem w_named : about1.methodNamed? x = some theMethod := by decide +kernel
set_option maxRecDepth 65536 in
theorem w_hears : about1.hears theMethod below0 = true := by decide +kernel
set_option maxRecDepth 65536 in
theorem w_ripe : about1.ripe theMethod args0 below0 = true := by decide +kernel
theorem w_running : about1.status = .running := rfl
set_option maxRecDepth 65536 in
theorem w_room : about1.hasRoom e0.platform room_1 = true :=
  launch0.hasRoom_least _ room_1 (by decide +kernel) (by decide +kernel) (by decide +kernel) (by decide +kernel) (by decide +kernel) (by decide +kernel)
theorem allAtoms_all (ts : List Jvm.Cond) (a : Array Jvm.Value) (st : Jvm.State) : (allAtoms ts).before a st = ts.all (fun c => c.before a st) := by
  induction ts with
  | nil => rfl
  | cons c t ih =>
    show (Jvm.Cond.and c (allAtoms t)).before a st = _
    rw [Jvm.Cond.before_and, ih, List.all_cons]
def words1 : List Jvm.Cond := Jvm.Cond.code x code maxLocals ret :: tables_1
/-- a 'code' word, met by the world's own term for the bytes: nothing is compared byte by byte -/
theorem code_word {y : MethodName} {bytes : ByteArray} {mx : Nat} {rt : Option FieldType} {a : Array Value} {s : State} {m : MethodId} {meth : Method} {c : Code} (h1 : s.methodNamed? y = some m) (h2 : s.vm.method? m = some meth) (h3 : meth.code = some c) (h4 : c.code = bytes)
    (h5 : (c.maxLocals == mx && c.exceptionTable.isEmpty && decide (c.maxStack ≤ mostOperands) && decide (meth.sig.returnType = rt) && !meth.locks && decide (parseMethodDescriptor y.desc = some meth.sig)) = true) : (Jvm.Cond.code y bytes mx rt).before a s = true := by
  simp only [Bool.and_eq_true, beq_iff_eq, Bool.not_eq_true', decide_eq_true_eq] at h5
  obtain ⟨⟨⟨⟨⟨g1, g2⟩, g3⟩, g4⟩, g5⟩, g6⟩ := h5
  simp [Cond.before, Cond.holds, Cond.value, h1, h2, h3, h4, g1, g2, g3, g4, g5, g6]
def isCode : Jvm.Cond → Bool
  | .code _ _ _ _ => true
  | _ => false
theorem all_split {L : List Jvm.Cond} {P : Jvm.Cond → Bool} (h1 : L.all (fun c => isCode c || P c) = true) (h2 : ∀ c ∈ L.filter isCode, P c = true) : L.all P = true := by
  refine List.all_eq_true.mpr fun c hc => ?_
  have h := List.all_eq_true.mp h1 c hc
  rcases Bool.eq_false_or_eq_true (isCode c) with hi | hi
  · exact h2 c (List.mem_filter.mpr ⟨hc, hi⟩)
  · simpa [hi] using h
set_option maxRecDepth 65536 in
theorem w_c0 : (Jvm.Cond.code x code maxLocals ret).before args0 about1 = true := code_word (m := ⟨1, 1⟩) (meth := k1m1) (c := k1c1) (by decide +kernel) rfl rfl rfl (by decide +kernel)
set_option maxRecDepth 65536 in
theorem w_c1 : (Jvm.Cond.code ({ cls := "com/example/triptych/triptych/rendering/BoxConstraints", name := "<init>", desc := "(DDDD)V" } : Jvm.MethodName) prog_70_method_1_code (9 : Nat) (Option.none : Option Jvm.ClassFile.FieldType)).before args0 about1 = true := code_word (m := ⟨3, 0⟩) (meth := k3m0) (c := k3c0) (by decide +kernel) rfl rfl rfl (by decide +kernel)
set_option maxRecDepth 65536 in
theorem w_c2 : (Jvm.Cond.code ({ cls := "java/lang/Record", name := "<init>", desc := "()V" } : Jvm.MethodName) jdk_30_method_1_code (1 : Nat) (Option.none : Option Jvm.ClassFile.FieldType)).before args0 about1 = true := code_word (m := ⟨2, 0⟩) (meth := k2m0) (c := k2c0) (by decide +kernel) rfl rfl rfl (by decide +kernel)
set_option maxRecDepth 65536 in
theorem w_c3 : (Jvm.Cond.code ({ cls := "java/lang/Object", name := "<init>", desc := "()V" } : Jvm.MethodName) object_method_1_code (1 : Nat) (Option.none : Option Jvm.ClassFile.FieldType)).before args0 about1 = true := code_word (m := ⟨0, 0⟩) (meth := k0m0) (c := k0c0) (by decide +kernel) rfl rfl rfl (by decide +kernel)
set_option maxRecDepth 65536 in
theorem w_c4 : (Jvm.Cond.code ({ cls := "com/example/triptych/triptych/rendering/BoxConstraints", name := "isRange", desc := "(DD)Z" } : Jvm.MethodName) prog_70_method_19_code (4 : Nat) (Option.some Jvm.ClassFile.FieldType.boolean)).before args0 about1 = true := code_word (m := ⟨3, 2⟩) (meth := k3m2) (c := k3c2) (by decide +kernel) rfl rfl rfl (by decide +kernel)
set_option maxRecDepth 65536 in
theorem w_c5 : (Jvm.Cond.code ({ cls := "com/example/triptych/triptych/rendering/BoxConstraints", name := "isTight", desc := "()Z" } : Jvm.MethodName) prog_70_method_3_code (1 : Nat) (Option.some Jvm.ClassFile.FieldType.boolean)).before args0 about1 = true := code_word (m := ⟨3, 1⟩) (meth := k3m1) (c := k3c1) (by decide +kernel) rfl rfl rfl (by decide +kernel)
def codes1 : List Jvm.Cond := [Jvm.Cond.code x code maxLocals ret, Jvm.Cond.code ({ cls := "com/example/triptych/triptych/rendering/BoxConstraints", name := "<init>", desc := "(DDDD)V" } : Jvm.MethodName) prog_70_method_1_code (9 : Nat) (Option.none : Option Jvm.ClassFile.FieldType), Jvm.Cond.code ({ cls := "java/lang/Record", name := "<init>", desc := "()V" } : Jvm.MethodName) jdk_30_method_1_code (1 : Nat) (Option.none : Option Jvm.ClassFile.FieldType), Jvm.Cond.code ({ cls := "java/lang/Object", name := "<init>", desc := "()V" } : Jvm.MethodName) object_method_1_code (1 : Nat) (Option.none : Option Jvm.ClassFile.FieldType), Jvm.Cond.code ({ cls := "com/example/triptych/triptych/rendering/BoxConstraints", name := "isRange", desc := "(DD)Z" } : Jvm.MethodName) prog_70_method_19_code (4 : Nat) (Option.some Jvm.ClassFile.FieldType.boolean), Jvm.Cond.code ({ cls := "com/example/triptych/triptych/rendering/BoxConstraints", name := "isTight", desc := "()Z" } : Jvm.MethodName) prog_70_method_3_code (1 : Nat) (Option.some Jvm.ClassFile.FieldType.boolean)]
set_option maxRecDepth 65536 in
theorem codes_eq : words1.filter isCode = codes1 := rfl
theorem w_codes : ∀ c ∈ words1.filter isCode, c.before args0 about1 = true := by
  rw [codes_eq]
  intro c hc
  simp only [codes1, List.mem_cons, List.not_mem_nil, or_false] at hc
  rcases hc with rfl | rfl | rfl | rfl | rfl | rfl
  · exact w_c0
  · exact w_c1
  · exact w_c2
  · exact w_c3
  · exact w_c4
  · exact w_c5
set_option maxRecDepth 65536 in
theorem w_t1 : (words1.take 24).all (fun c => isCode c || c.before args0 about1) = true := by decide +kernel
set_option maxRecDepth 65536 in
theorem w_t2 : (words1.drop 24).all (fun c => isCode c || c.before args0 about1) = true := by decide +kernel
theorem w_tables : (allAtoms (Jvm.Cond.code x code maxLocals ret :: tables_1)).before args0 about1 = true := by
  rw [allAtoms_all]
  show words1.all (fun c => c.before args0 about1) = true
  refine all_split ?_ w_codes
  rw [← List.take_append_drop 24 words1, List.all_append, w_t1, w_t2]
  rfl
set_option maxRecDepth 65536 in
theorem w_case : (Jvm.Cond.and given_1 narrow_1).before args0 about1 = true := by decide +kernel
theorem w_applies : (headSpec (Jvm.Cond.code x code maxLocals ret :: tables_1) room_1).applies x e0.platform about1 = true :=
  (Spec.applies_iff w_frames).mpr ⟨w_running, w_runnable, w_alone, w_named, w_hears, w_ripe, w_room, w_tables⟩
theorem atStart : AtStart classFile x code maxLocals ret World_1 tables_1 room_1 Calls_1 rest_1 Pre_1 launch0 p0 e0 about1 theMethod args0 below0 :=
  ⟨lists_1, trivial, launch0.admits_env _ _ _, launch0.least_env, fairChoices_fair.cas, fairChoices_fair.clock, w_frames, w_args, w_heap, w_applies, trivial, trivial, w_case⟩
end start1
theorem witness_1 : WitnessClaimed_1 := ⟨start1.p0, start1.e0, start1.about1, start1.theMethod, start1.args0, start1.below0, start1.atStart⟩
end Jvm.Pilot.@@N@@
