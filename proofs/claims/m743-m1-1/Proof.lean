import JvmDerived
import JvmDerived.Pilot.@@N@@Statement
import JvmDerived.Pilot.@@N@@Code
set_option linter.unusedVariables false
set_option linter.unusedSimpArgs false
namespace Jvm.Pilot.@@N@@
open Jvm Jvm.ClassFile Sem Op Lib Jvm.Free Jvm.Stand Jvm.LawKit Jvm.RoadKit Bundle Jvm.Free.Fl Jvm.Pilot.@@N@@.Jvm.D
theorem own_cast {tb : Tables} {e : Env} {below : List Frame} {T t : State} {m : MethodId} {pc : Nat} {Ls : Array Slot} {v v' : Value} {r : List Value} (h : v = v') (k : Steps tb e below (T.setTop (mkF m pc Ls (v' :: r))) t) : Steps tb e below (T.setTop (mkF m pc Ls (v :: r))) t := by rw [h]; exact k
theorem own_fin_le {x : UInt64} (h : Fin64 x) : ¬ ((0 : Int32) < cmpValue (FP.dcmp (x &&& 0x7fffffffffffffff) (9218868437227405311 : UInt64)) .l) := by
  rcases (FP.Core.le_max (noNaN64_no.mp h.noNaN)).mpr (fin64_core.mp h) with e | e
  · rw [show FP.dcmp (x &&& 0x7fffffffffffffff) (9218868437227405311 : UInt64) = some .lt from e]; decide
  · rw [show FP.dcmp (x &&& 0x7fffffffffffffff) (9218868437227405311 : UInt64) = some .eq from e]; decide
theorem own_nz {x : UInt64} (h : Nz64 x) : ¬ cmpValue (FP.dcmp x (0 : UInt64)) .l = (0 : Int32) := fun q => by
  refine nz64_core.mp h (FP.Core.zero_iff.mp ?_)
  show FP.dcmp x (0 : UInt64) = some .eq
  rcases e : FP.dcmp x (0 : UInt64) with _ | (_ | _ | _) <;> rw [e] at q <;> first | rfl | exact absurd q (by decide)
theorem own_cmag : Mag64 1087 (14114281232179134464 : UInt64) := by unfold Mag64; decide
theorem own_cfin {x : UInt64} (h : Mag64 1056 x) : Fin64 (FP.dmul (14114281232179134464 : UInt64) x) := (dmul_mag own_cmag h (by decide) (by decide)).fin (by decide)
def own_pos (t : Int64) (d : UInt64) (n : Int64) : UInt64 := FP.ddiv (FP.dmul (FP.l2d t) d) (FP.l2d n)
theorem own_nm {d : UInt64} (h : Mag64 1056 d) (t : Int64) : NoNaN64 (FP.dmul (FP.l2d t) d) := dmul_out (l2d_fin t) (h.fin (by decide))
theorem own_nd {d : UInt64} (h : Mag64 1056 d) {n : Int64} (hn : n ≠ 0) (t : Int64) : NoNaN64 (FP.ddiv (FP.dmul (FP.l2d t) d) (FP.l2d n)) := ddiv_out (own_nm h t) (l2d_fin n) (l2d_nz hn)
theorem own_zero {d : UInt64} (h : Mag64 1056 d) {n : Int64} (hn : n ≠ 0) : cmpValue (FP.dcmp (own_pos 0 d n) (0 : UInt64)) .l = (0 : Int32) := by
  obtain ⟨s, c, q, e1⟩ := fin64_core.mp (h.fin (by decide))
  obtain ⟨s2, c2, q2, e2⟩ := FP.Core.l2d_fin n
  have hc2 : c2 ≠ 0 := fun z => nz64_core.mp (l2d_nz hn) ⟨s2, q2, by subst z; exact e2⟩
  have e0 : FP.Core.val64 (FP.l2d 0) = .fin false 0 FP.Core.b64.qmin := by rw [l2d_zero]; exact FP.Core.val64_zero
  have e3 : FP.Core.val64 (FP.dmul (FP.l2d 0) d) = .fin (false != s) 0 FP.Core.b64.qmin := by
    rw [show FP.dmul (FP.l2d 0) d = FP.Core.dmul (FP.l2d 0) d from rfl, FP.Core.val64_dmul, e0, e1]
    show FP.Core.roundRatio FP.Core.b64 (false != s) (0 * c) 1 _ = _
    rw [Nat.zero_mul]; rfl
  have e4 : FP.Core.val64 (own_pos 0 d n) = .fin ((false != s) != s2) 0 FP.Core.b64.qmin := by
    show FP.Core.val64 (FP.Core.ddiv (FP.dmul (FP.l2d 0) d) (FP.l2d n)) = _
    rw [FP.Core.val64_ddiv, e3, show FP.Core.val64 (FP.l2d n) = .fin s2 c2 q2 from e2]
    show (if c2 = 0 then _ else FP.Core.roundRatio FP.Core.b64 ((false != s) != s2) 0 c2 _) = _
    rw [if_neg hc2]; rfl
  rw [show FP.dcmp (own_pos 0 d n) (0 : UInt64) = some .eq from FP.Core.zero_iff.mpr ⟨_, _, e4⟩]; rfl
def own_max (x y : Int64) : Int64 := if x < y then y else x
theorem own_max_pos (y : Int64) : (0 : Int64) < own_max 1 y := by
  unfold own_max; split
  · rename_i h; exact Int64.lt_iff_toInt_lt.mpr (by have := Int64.lt_iff_toInt_lt.mp h; rw [show (1 : Int64).toInt = 1 from by decide] at this; rw [show (0 : Int64).toInt = 0 from by decide]; omega)
  · decide
theorem own_pos_ne {n : Int64} (h : (0 : Int64) < n) : n ≠ 0 := fun q => by rw [q] at h; exact absurd h (by decide)
def own_k (a : Int32) : Int32 := ((a >>> ((1 : Int32) &&& 31)) &&& (1023 : Int32)) + (1 : Int32)
def own_di (a : Int32) : Int32 := if (a &&& (1 : Int32)) = (0 : Int32) then own_k a else (-(own_k a))
theorem own_k_b (a : Int32) : 1 ≤ (own_k a).toInt ∧ (own_k a).toInt ≤ 1024 := by
  have h : ((a >>> ((1 : Int32) &&& 31)) &&& (1023 : Int32)).toBitVec.toNat ≤ 1023 := by
    rw [Int32.toBitVec_and, BitVec.toNat_and]; exact Nat.and_le_right
  have e : ((a >>> ((1 : Int32) &&& 31)) &&& (1023 : Int32)).toInt = (((a >>> ((1 : Int32) &&& 31)) &&& (1023 : Int32)).toBitVec.toNat : Int) := BitVec.toInt_eq_toNat_of_lt (by omega)
  unfold own_k
  rw [Int32.toInt_add, show (1 : Int32).toInt = 1 from by decide, Int.bmod_eq_of_le (by omega) (by omega)]
  omega
theorem own_di_ne (a : Int32) : own_di a ≠ 0 := by
  have h := own_k_b a
  unfold own_di; split
  · exact fun q => by rw [q, show (0 : Int32).toInt = 0 from by decide] at h; omega
  · exact fun q => by
      have q2 := congrArg Int32.toInt q
      rw [Int32.toInt_neg, show (0 : Int32).toInt = 0 from by decide, Int.bmod_eq_of_le (by omega) (by omega)] at q2; omega
def own_st (p c : Int64) : Int64 := ((c).toInt32 - (p).toInt32).toInt64
theorem own_st_eq (p c : Int64) : ((c - p)).toInt32.toInt64 = own_st p c := by
  unfold own_st; rw [Int64.toInt32_sub]
def own_T1 (c0 c1 : Int64) : Int64 := (0 : Int64) + ((c1 - c0)).toInt32.toInt64
def own_T2 (c0 c1 c2 : Int64) : Int64 := own_T1 c0 c1 + ((c2 - c1)).toInt32.toInt64
def own_T3 (c0 c1 c2 : Int64) : Int64 := own_T2 c0 c1 c2 + ((c0 - c2)).toInt32.toInt64
def own_t1 (c0 c1 : Int64) : Int64 := own_st c0 c1
def own_t2 (c0 c1 c2 : Int64) : Int64 := own_t1 c0 c1 + own_st c1 c2
def own_t3 (c0 c1 c2 : Int64) : Int64 := own_t2 c0 c1 c2 + own_st c2 c0
theorem own_e1 (c0 c1 : Int64) : own_T1 c0 c1 = own_t1 c0 c1 := by unfold own_T1 own_t1; rw [own_st_eq, Int64.zero_add]
theorem own_e2 (c0 c1 c2 : Int64) : own_T2 c0 c1 c2 = own_t2 c0 c1 c2 := by unfold own_T2 own_t2; rw [own_st_eq, own_e1]
theorem own_e3 (c0 c1 c2 : Int64) : own_T3 c0 c1 c2 = own_t3 c0 c1 c2 := by unfold own_T3 own_t3; rw [own_st_eq, own_e2]
theorem dmax_0 : decode jdk_29_method_66_code 0 = .ok (.lload_n 0, 1) := by decide +kernel
theorem dmax_1 : decode jdk_29_method_66_code 1 = .ok (.lload_n 2, 1) := by decide +kernel
theorem dmax_2 : decode jdk_29_method_66_code 2 = .ok (.lcmp, 1) := by decide +kernel
theorem dmax_3 : decode jdk_29_method_66_code 3 = .ok (.ifCond .lt 7, 3) := by decide +kernel
theorem dmax_6 : decode jdk_29_method_66_code 6 = .ok (.lload_n 0, 1) := by decide +kernel
theorem dmax_7 : decode jdk_29_method_66_code 7 = .ok (.goto 4, 3) := by decide +kernel
theorem dmax_10 : decode jdk_29_method_66_code 10 = .ok (.lload_n 2, 1) := by decide +kernel
theorem dmax_11 : decode jdk_29_method_66_code 11 = .ok (.lreturn, 1) := by decide +kernel
theorem dnan_0 : decode jdk_117_method_6_code 0 = .ok (.dload_n 0, 1) := by decide +kernel
theorem dnan_1 : decode jdk_117_method_6_code 1 = .ok (.dload_n 0, 1) := by decide +kernel
theorem dnan_2 : decode jdk_117_method_6_code 2 = .ok (.dcmp .l, 1) := by decide +kernel
theorem dnan_3 : decode jdk_117_method_6_code 3 = .ok (.ifCond .eq 7, 3) := by decide +kernel
theorem dnan_6 : decode jdk_117_method_6_code 6 = .ok (.iconst 1, 1) := by decide +kernel
theorem dnan_7 : decode jdk_117_method_6_code 7 = .ok (.goto 4, 3) := by decide +kernel
theorem dnan_10 : decode jdk_117_method_6_code 10 = .ok (.iconst 0, 1) := by decide +kernel
theorem dnan_11 : decode jdk_117_method_6_code 11 = .ok (.ireturn, 1) := by decide +kernel
theorem dinf_0 : decode jdk_117_method_7_code 0 = .ok (.dload_n 0, 1) := by decide +kernel
theorem dinf_1 : decode jdk_117_method_7_code 1 = .ok (.invokestatic 38, 3) := by decide +kernel
theorem dinf_4 : decode jdk_117_method_7_code 4 = .ok (.ldc2_w 111, 3) := by decide +kernel
theorem dinf_7 : decode jdk_117_method_7_code 7 = .ok (.dcmp .l, 1) := by decide +kernel
theorem dinf_8 : decode jdk_117_method_7_code 8 = .ok (.ifCond .le 7, 3) := by decide +kernel
theorem dinf_11 : decode jdk_117_method_7_code 11 = .ok (.iconst 1, 1) := by decide +kernel
theorem dinf_12 : decode jdk_117_method_7_code 12 = .ok (.goto 4, 3) := by decide +kernel
theorem dinf_15 : decode jdk_117_method_7_code 15 = .ok (.iconst 0, 1) := by decide +kernel
theorem dinf_16 : decode jdk_117_method_7_code 16 = .ok (.ireturn, 1) := by decide +kernel
theorem dfin_0 : decode prog_3_method_13_code 0 = .ok (.dload_n 0, 1) := by decide +kernel
theorem dfin_1 : decode prog_3_method_13_code 1 = .ok (.dconst 0, 1) := by decide +kernel
theorem dfin_2 : decode prog_3_method_13_code 2 = .ok (.dcmp .l, 1) := by decide +kernel
theorem dfin_3 : decode prog_3_method_13_code 3 = .ok (.ifCond .eq 17, 3) := by decide +kernel
theorem dfin_6 : decode prog_3_method_13_code 6 = .ok (.dload_n 0, 1) := by decide +kernel
theorem dfin_7 : decode prog_3_method_13_code 7 = .ok (.invokestatic 19, 3) := by decide +kernel
theorem dfin_10 : decode prog_3_method_13_code 10 = .ok (.ifCond .ne 10, 3) := by decide +kernel
theorem dfin_13 : decode prog_3_method_13_code 13 = .ok (.dload_n 0, 1) := by decide +kernel
theorem dfin_14 : decode prog_3_method_13_code 14 = .ok (.invokestatic 25, 3) := by decide +kernel
theorem dfin_17 : decode prog_3_method_13_code 17 = .ok (.ifCond .eq 18, 3) := by decide +kernel
theorem dfin_20 : decode prog_3_method_13_code 20 = .ok (.new 7, 3) := by decide +kernel
theorem dfin_23 : decode prog_3_method_13_code 23 = .ok (.dup, 1) := by decide +kernel
theorem dfin_24 : decode prog_3_method_13_code 24 = .ok (.aload_n 2, 1) := by decide +kernel
theorem dfin_25 : decode prog_3_method_13_code 25 = .ok (.dload_n 0, 1) := by decide +kernel
theorem dfin_31 : decode prog_3_method_13_code 31 = .ok (.invokespecial 13, 3) := by decide +kernel
theorem dfin_34 : decode prog_3_method_13_code 34 = .ok (.athrow, 1) := by decide +kernel
theorem dfin_35 : decode prog_3_method_13_code 35 = .ok (.dload_n 0, 1) := by decide +kernel
theorem dfin_36 : decode prog_3_method_13_code 36 = .ok (.dreturn, 1) := by decide +kernel
theorem drps_0 : decode prog_3_method_2_code 0 = .ok (.lload_n 0, 1) := by decide +kernel
theorem drps_1 : decode prog_3_method_2_code 1 = .ok (.lconst 0, 1) := by decide +kernel
theorem drps_2 : decode prog_3_method_2_code 2 = .ok (.lcmp, 1) := by decide +kernel
theorem drps_3 : decode prog_3_method_2_code 3 = .ok (.ifCond .gt 18, 3) := by decide +kernel
theorem drps_6 : decode prog_3_method_2_code 6 = .ok (.new 7, 3) := by decide +kernel
theorem drps_9 : decode prog_3_method_2_code 9 = .ok (.dup, 1) := by decide +kernel
theorem drps_10 : decode prog_3_method_2_code 10 = .ok (.aload_n 2, 1) := by decide +kernel
theorem drps_11 : decode prog_3_method_2_code 11 = .ok (.lload_n 0, 1) := by decide +kernel
theorem drps_17 : decode prog_3_method_2_code 17 = .ok (.invokespecial 13, 3) := by decide +kernel
theorem drps_20 : decode prog_3_method_2_code 20 = .ok (.athrow, 1) := by decide +kernel
theorem drps_21 : decode prog_3_method_2_code 21 = .ok (.lload_n 0, 1) := by decide +kernel
theorem drps_22 : decode prog_3_method_2_code 22 = .ok (.lreturn, 1) := by decide +kernel
theorem dini_0 : decode prog_6_method_1_code 0 = .ok (.aload_n 0, 1) := by decide +kernel
theorem dini_1 : decode prog_6_method_1_code 1 = .ok (.invokespecial 1, 3) := by decide +kernel
theorem dini_4 : decode prog_6_method_1_code 4 = .ok (.aload_n 0, 1) := by decide +kernel
theorem dini_5 : decode prog_6_method_1_code 5 = .ok (.dload_n 1, 1) := by decide +kernel
theorem dini_6 : decode prog_6_method_1_code 6 = .ok (.ldc 7, 2) := by decide +kernel
theorem dini_8 : decode prog_6_method_1_code 8 = .ok (.invokestatic 9, 3) := by decide +kernel
theorem dini_11 : decode prog_6_method_1_code 11 = .ok (.putfield 15, 3) := by decide +kernel
theorem dini_14 : decode prog_6_method_1_code 14 = .ok (.aload_n 0, 1) := by decide +kernel
theorem dini_15 : decode prog_6_method_1_code 15 = .ok (.lload_n 3, 1) := by decide +kernel
theorem dini_16 : decode prog_6_method_1_code 16 = .ok (.ldc 21, 2) := by decide +kernel
theorem dini_18 : decode prog_6_method_1_code 18 = .ok (.invokestatic 23, 3) := by decide +kernel
theorem dini_21 : decode prog_6_method_1_code 21 = .ok (.putfield 27, 3) := by decide +kernel
theorem dini_24 : decode prog_6_method_1_code 24 = .ok (.ldc2_w 33, 3) := by decide +kernel
theorem dini_27 : decode prog_6_method_1_code 27 = .ok (.dload_n 1, 1) := by decide +kernel
theorem dini_28 : decode prog_6_method_1_code 28 = .ok (.dmul, 1) := by decide +kernel
theorem dini_29 : decode prog_6_method_1_code 29 = .ok (.invokestatic 35, 3) := by decide +kernel
theorem dini_32 : decode prog_6_method_1_code 32 = .ok (.ifCond .eq 17, 3) := by decide +kernel
theorem dini_35 : decode prog_6_method_1_code 35 = .ok (.new 41, 3) := by decide +kernel
theorem dini_38 : decode prog_6_method_1_code 38 = .ok (.dup, 1) := by decide +kernel
theorem dini_39 : decode prog_6_method_1_code 39 = .ok (.dload_n 1, 1) := by decide +kernel
theorem dini_45 : decode prog_6_method_1_code 45 = .ok (.invokespecial 47, 3) := by decide +kernel
theorem dini_48 : decode prog_6_method_1_code 48 = .ok (.athrow, 1) := by decide +kernel
theorem dini_49 : decode prog_6_method_1_code 49 = .ok (.return_, 1) := by decide +kernel
theorem dupd_0 : decode prog_6_method_2_code 0 = .ok (.aload_n 0, 1) := by decide +kernel
theorem dupd_1 : decode prog_6_method_2_code 1 = .ok (.getfield 50, 3) := by decide +kernel
theorem dupd_4 : decode prog_6_method_2_code 4 = .ok (.ifCond .eq 20, 3) := by decide +kernel
theorem dupd_7 : decode prog_6_method_2_code 7 = .ok (.aload_n 0, 1) := by decide +kernel
theorem dupd_8 : decode prog_6_method_2_code 8 = .ok (.dup, 1) := by decide +kernel
theorem dupd_9 : decode prog_6_method_2_code 9 = .ok (.getfield 54, 3) := by decide +kernel
theorem dupd_12 : decode prog_6_method_2_code 12 = .ok (.lload_n 1, 1) := by decide +kernel
theorem dupd_13 : decode prog_6_method_2_code 13 = .ok (.aload_n 0, 1) := by decide +kernel
theorem dupd_14 : decode prog_6_method_2_code 14 = .ok (.getfield 57, 3) := by decide +kernel
theorem dupd_17 : decode prog_6_method_2_code 17 = .ok (.lsub, 1) := by decide +kernel
theorem dupd_18 : decode prog_6_method_2_code 18 = .ok (.l2i, 1) := by decide +kernel
theorem dupd_19 : decode prog_6_method_2_code 19 = .ok (.i2l, 1) := by decide +kernel
theorem dupd_20 : decode prog_6_method_2_code 20 = .ok (.ladd, 1) := by decide +kernel
theorem dupd_21 : decode prog_6_method_2_code 21 = .ok (.putfield 54, 3) := by decide +kernel
theorem dupd_24 : decode prog_6_method_2_code 24 = .ok (.aload_n 0, 1) := by decide +kernel
theorem dupd_25 : decode prog_6_method_2_code 25 = .ok (.lload_n 1, 1) := by decide +kernel
theorem dupd_26 : decode prog_6_method_2_code 26 = .ok (.putfield 57, 3) := by decide +kernel
theorem dupd_29 : decode prog_6_method_2_code 29 = .ok (.aload_n 0, 1) := by decide +kernel
theorem dupd_30 : decode prog_6_method_2_code 30 = .ok (.iconst 1, 1) := by decide +kernel
theorem dupd_31 : decode prog_6_method_2_code 31 = .ok (.putfield 50, 3) := by decide +kernel
theorem dupd_34 : decode prog_6_method_2_code 34 = .ok (.aload_n 0, 1) := by decide +kernel
theorem dupd_35 : decode prog_6_method_2_code 35 = .ok (.getfield 54, 3) := by decide +kernel
theorem dupd_38 : decode prog_6_method_2_code 38 = .ok (.l2d, 1) := by decide +kernel
theorem dupd_39 : decode prog_6_method_2_code 39 = .ok (.aload_n 0, 1) := by decide +kernel
theorem dupd_40 : decode prog_6_method_2_code 40 = .ok (.getfield 15, 3) := by decide +kernel
theorem dupd_43 : decode prog_6_method_2_code 43 = .ok (.dmul, 1) := by decide +kernel
theorem dupd_44 : decode prog_6_method_2_code 44 = .ok (.aload_n 0, 1) := by decide +kernel
theorem dupd_45 : decode prog_6_method_2_code 45 = .ok (.getfield 27, 3) := by decide +kernel
theorem dupd_48 : decode prog_6_method_2_code 48 = .ok (.l2d, 1) := by decide +kernel
theorem dupd_49 : decode prog_6_method_2_code 49 = .ok (.ddiv, 1) := by decide +kernel
theorem dupd_50 : decode prog_6_method_2_code 50 = .ok (.dreturn, 1) := by decide +kernel
theorem dstp_0 : decode method_2_code 0 = .ok (.lload_n 2, 1) := by decide +kernel
theorem dstp_1 : decode method_2_code 1 = .ok (.l2i, 1) := by decide +kernel
theorem dstp_2 : decode method_2_code 2 = .ok (.lload_n 0, 1) := by decide +kernel
theorem dstp_3 : decode method_2_code 3 = .ok (.l2i, 1) := by decide +kernel
theorem dstp_4 : decode method_2_code 4 = .ok (.isub, 1) := by decide +kernel
theorem dstp_5 : decode method_2_code 5 = .ok (.istore 4, 2) := by decide +kernel
theorem dstp_7 : decode method_2_code 7 = .ok (.iload 4, 2) := by decide +kernel
theorem dstp_9 : decode method_2_code 9 = .ok (.i2l, 1) := by decide +kernel
theorem dstp_10 : decode method_2_code 10 = .ok (.lreturn, 1) := by decide +kernel
theorem dpos_0 : decode method_3_code 0 = .ok (.lload_n 0, 1) := by decide +kernel
theorem dpos_1 : decode method_3_code 1 = .ok (.l2d, 1) := by decide +kernel
theorem dpos_2 : decode method_3_code 2 = .ok (.dload_n 2, 1) := by decide +kernel
theorem dpos_3 : decode method_3_code 3 = .ok (.dmul, 1) := by decide +kernel
theorem dpos_4 : decode method_3_code 4 = .ok (.lload 4, 2) := by decide +kernel
theorem dpos_6 : decode method_3_code 6 = .ok (.l2d, 1) := by decide +kernel
theorem dpos_7 : decode method_3_code 7 = .ok (.ddiv, 1) := by decide +kernel
theorem dpos_8 : decode method_3_code 8 = .ok (.dreturn, 1) := by decide +kernel
theorem pn_enc : plainName "com/example/wheelwise/wheelwise/IncrementalEncoder" = true := by first | (simp [plainName, overriddenIn]; done) | decide +kernel
theorem pn_arg : plainName "com/example/wheelwise/wheelwise/Arguments" = true := by first | (simp [plainName, overriddenIn]; done) | decide +kernel
theorem pn_dbl : plainName "java/lang/Double" = true := by first | (simp [plainName, overriddenIn]; done) | decide +kernel
theorem pn_law : plainName "com/example/wheelwise/wheelwise/IncrementalEncoderUpdatePinLaw" = true := by first | (simp [plainName, overriddenIn]; done) | decide +kernel
theorem pd_jj : parseMethodDescriptor "(JJ)J" = some ⟨[.long, .long], some .long⟩ := by decide +kernel
theorem pd_dz : parseMethodDescriptor "(D)Z" = some ⟨[.double], some .boolean⟩ := by decide +kernel
theorem pd_dd : parseMethodDescriptor "(D)D" = some ⟨[.double], some .double⟩ := by decide +kernel
theorem pd_dj : parseMethodDescriptor "(DJ)V" = some ⟨[.double, .long], none⟩ := by decide +kernel
theorem pd_ds : parseMethodDescriptor "(DLjava/lang/String;)D" = some ⟨[.double, (.object "java/lang/String")], some .double⟩ := by decide +kernel
theorem pd_js : parseMethodDescriptor "(JLjava/lang/String;)J" = some ⟨[.long, (.object "java/lang/String")], some .long⟩ := by decide +kernel
theorem pd_jd : parseMethodDescriptor "(J)D" = some ⟨[.long], some .double⟩ := by decide +kernel
theorem pd_jdj : parseMethodDescriptor "(JDJ)D" = some ⟨[.long, .double, .long], some .double⟩ := by decide +kernel
theorem ef_max (m : MethodId) (x0 : Int64) (x1 : Int64) : entryFrame m #[(.long x0), (.long x1)] 4 = mkF m 0 #[.val (.long x0), .second, .val (.long x1), .second] [] := by first | (simp [entryFrame, mkF, argsToLocals, Value.category]; done) | rfl
def Qmax (Z : State) (x : Int64) (y : Int64) (h0 : Heap) (n0 : Nat) (v : Option Value) (h : Heap) (L : List Loc) : Prop := v = some (.long (own_max x y)) ∧ Fr n0 L ∧ h = h0
set_option maxRecDepth 65536 in
set_option maxHeartbeats 40000000 in
theorem rmmax (l : Launch) (Z : State) (a0 : Array Value) (hw : ∀ d ∈ tables_1, d.before a0 Z = true) (ws : List Jvm.Cond) (x : Int64) (y : Int64) (h0 : Heap) (n0 : Nat) (Z0 : n0 ≤ h0.size) :
    MetFree l (⟨"java/lang/Math", "max", "(JJ)J"⟩ : MethodName) (head1 (Jvm.Cond.code (⟨"java/lang/Math", "max", "(JJ)J"⟩ : MethodName) jdk_29_method_66_code 4 (some .long) :: ws) ({ frames := 0, cells := 0, slots := 0, locals := 0 } : Room)) (fun aa U => aa = #[(.long x), (.long y)] ∧ Z.Warmed39 U.vm ∧ U.heap = h0) (fun _ _ _ _ _ => True) (fun _ U o U' => ∃ v L, o = .returned v ∧ Qmax Z x y h0 n0 v U'.heap L ∧ FrameEnd U o U' L ({ frames := 0, cells := 0, slots := 0, locals := 0 } : Room).cells ({ frames := 0, cells := 0, slots := 0, locals := 0 } : Room).slots) := by
  refine MetFree.of_bodySF (Jvm.Free.JP.mathPlain rfl (by decide +kernel)) hisR ?_
  intro p e s m args below meth c s₁ Bd hml0 hP hK
  obtain ⟨rfl, hZ, hh⟩ := hP
  have hx := Bd.exec
  have hby := Bd.bytes
  have hml : c.maxLocals = 4 := hml0
  have hown : s.vm.findClass "java/lang/Math" = some m.cls := findClass_of_methodNamed Bd.named
  have hnm := (name_of_methodNamed Bd.named Bd.method).1
  have X0 : Stand p l e ({ frames := 0, cells := 0, slots := 0, locals := 0 } : Room) s m #[(.long x), (.long y)] below meth c s₁ [] 0 0 := Stand.of_body Bd
  have e0 : s₁.heap = h0 := by rw [← hh, Bd.state]; rfl
  have N0 := Fr.nil n0
  have pre0 : ∀ tt, Steps p.tables e below (s₁.setTop (mkF m 0 #[.val (.long x), .second, .val (.long y), .second] [])) tt → Steps p.tables e below (s₁.setTop (entryFrame m #[(.long x), (.long y)] 4)) tt := fun tt k => castTop (ef_max m x y) k
  by_cases hc : x < y
  · obtain ⟨fs, hr, hrun, hended, hW, hsame⟩ := X0.leave (v := some (.long (own_max x y))) (fun h => by rw [Bd.returns] at h; cases h)
    refine ⟨_, _, pre0 _ ?_, hrun, hended, _, _, rfl, ?_, ⟨_, rfl⟩, hW, hsame.mono (by decide) (by decide)⟩
    · show Steps p.tables e below (s₁.setTop (mkF m 0 #[.val (.long x), .second, .val (.long y), .second] [])) _
      refine XS.lloadN X0.here hx rfl (hb hby dmax_0) rfl ?_
      show Steps p.tables e below (s₁.setTop (mkF m 1 #[.val (.long x), .second, .val (.long y), .second] [(.long x)])) _
      refine XS.lloadN X0.here hx rfl (hb hby dmax_1) rfl ?_
      show Steps p.tables e below (s₁.setTop (mkF m 2 #[.val (.long x), .second, .val (.long y), .second] [(.long y), (.long x)])) _
      refine XS.lcmp X0.here hx rfl (hb hby dmax_2) rfl ?_
      show Steps p.tables e below (s₁.setTop (mkF m 3 #[.val (.long x), .second, .val (.long y), .second] [(.int (lcmpW x y))])) _
      refine XS.ifYes X0.here hx rfl (pc0 := 3) (pc' := 10) rfl (hb hby dmax_3) rfl ((if0 _ _).trans (tlt ((lw_lt x y).mpr hc : (lcmpW x y) < (0 : Int32))).1) (by decide) (by decide) ?_
      show Steps p.tables e below (s₁.setTop (mkF m 10 #[.val (.long x), .second, .val (.long y), .second] [])) _
      refine XS.lloadN X0.here hx rfl (hb hby dmax_10) rfl ?_
      show Steps p.tables e below (s₁.setTop (mkF m 11 #[.val (.long x), .second, .val (.long y), .second] [(.long y)])) _
      refine own_cast (congrArg Value.long (show y = own_max x y from (if_pos hc).symm)) ?_
      show Steps p.tables e below (s₁.setTop (mkF m 11 #[.val (.long x), .second, .val (.long y), .second] [(.long (own_max x y))])) _
      exact retOut X0 hx Bd.returns rfl (Or.inr (Or.inl ⟨rfl, rfl, _, rfl⟩)) (hb hby dmax_11) hr
    · show Qmax Z x y h0 n0 _ s₁.heap _
      rw [e0]
      exact ⟨rfl, N0, rfl⟩
  · obtain ⟨fs, hr, hrun, hended, hW, hsame⟩ := X0.leave (v := some (.long (own_max x y))) (fun h => by rw [Bd.returns] at h; cases h)
    refine ⟨_, _, pre0 _ ?_, hrun, hended, _, _, rfl, ?_, ⟨_, rfl⟩, hW, hsame.mono (by decide) (by decide)⟩
    · show Steps p.tables e below (s₁.setTop (mkF m 0 #[.val (.long x), .second, .val (.long y), .second] [])) _
      refine XS.lloadN X0.here hx rfl (hb hby dmax_0) rfl ?_
      show Steps p.tables e below (s₁.setTop (mkF m 1 #[.val (.long x), .second, .val (.long y), .second] [(.long x)])) _
      refine XS.lloadN X0.here hx rfl (hb hby dmax_1) rfl ?_
      show Steps p.tables e below (s₁.setTop (mkF m 2 #[.val (.long x), .second, .val (.long y), .second] [(.long y), (.long x)])) _
      refine XS.lcmp X0.here hx rfl (hb hby dmax_2) rfl ?_
      show Steps p.tables e below (s₁.setTop (mkF m 3 #[.val (.long x), .second, .val (.long y), .second] [(.int (lcmpW x y))])) _
      refine XS.ifNo X0.here hx rfl (hb hby dmax_3) rfl ((if0 _ _).trans (flt (fun q => hc ((lw_lt x y).mp q) : ¬ ((lcmpW x y) < (0 : Int32)))).1) ?_
      show Steps p.tables e below (s₁.setTop (mkF m 6 #[.val (.long x), .second, .val (.long y), .second] [])) _
      refine XS.lloadN X0.here hx rfl (hb hby dmax_6) rfl ?_
      show Steps p.tables e below (s₁.setTop (mkF m 7 #[.val (.long x), .second, .val (.long y), .second] [(.long x)])) _
      refine XS.goto X0.here hx rfl (pc0 := 7) (pc' := 11) rfl (hb hby dmax_7) (by decide) (by decide) ?_
      show Steps p.tables e below (s₁.setTop (mkF m 11 #[.val (.long x), .second, .val (.long y), .second] [(.long x)])) _
      refine own_cast (congrArg Value.long (show x = own_max x y from (if_neg hc).symm)) ?_
      show Steps p.tables e below (s₁.setTop (mkF m 11 #[.val (.long x), .second, .val (.long y), .second] [(.long (own_max x y))])) _
      exact retOut X0 hx Bd.returns rfl (Or.inr (Or.inl ⟨rfl, rfl, _, rfl⟩)) (hb hby dmax_11) hr
    · show Qmax Z x y h0 n0 _ s₁.heap _
      rw [e0]
      exact ⟨rfl, N0, rfl⟩
theorem ef_nan (m : MethodId) (x0 : UInt64) : entryFrame m #[(.double x0)] 2 = mkF m 0 #[.val (.double x0), .second] [] := by first | (simp [entryFrame, mkF, argsToLocals, Value.category]; done) | rfl
def Qnan (Z : State) (x : UInt64) (h0 : Heap) (n0 : Nat) (v : Option Value) (h : Heap) (L : List Loc) : Prop := v = some (.int (0 : Int32)) ∧ Fr n0 L ∧ h = h0
set_option maxRecDepth 65536 in
set_option maxHeartbeats 40000000 in
theorem rmnan (l : Launch) (Z : State) (a0 : Array Value) (hw : ∀ d ∈ tables_1, d.before a0 Z = true) (ws : List Jvm.Cond) (x : UInt64) (h0 : Heap) (n0 : Nat) (Z0 : n0 ≤ h0.size) (hx0 : Fin64 x) :
    MetFree l (⟨"java/lang/Double", "isNaN", "(D)Z"⟩ : MethodName) (head1 (Jvm.Cond.code (⟨"java/lang/Double", "isNaN", "(D)Z"⟩ : MethodName) jdk_117_method_6_code 2 (some .boolean) :: ws) ({ frames := 0, cells := 0, slots := 0, locals := 0 } : Room)) (fun aa U => aa = #[(.double x)] ∧ Z.Warmed39 U.vm ∧ U.heap = h0) (fun _ _ _ _ _ => True) (fun _ U o U' => ∃ v L, o = .returned v ∧ Qnan Z x h0 n0 v U'.heap L ∧ FrameEnd U o U' L ({ frames := 0, cells := 0, slots := 0, locals := 0 } : Room).cells ({ frames := 0, cells := 0, slots := 0, locals := 0 } : Room).slots) := by
  refine MetFree.of_bodySF (plainFor_of_name pn_dbl) hisR ?_
  intro p e s m args below meth c s₁ Bd hml0 hP hK
  obtain ⟨rfl, hZ, hh⟩ := hP
  have hx := Bd.exec
  have hby := Bd.bytes
  have hml : c.maxLocals = 2 := hml0
  have hown : s.vm.findClass "java/lang/Double" = some m.cls := findClass_of_methodNamed Bd.named
  have hnm := (name_of_methodNamed Bd.named Bd.method).1
  have X0 : Stand p l e ({ frames := 0, cells := 0, slots := 0, locals := 0 } : Room) s m #[(.double x)] below meth c s₁ [] 0 0 := Stand.of_body Bd
  have e0 : s₁.heap = h0 := by rw [← hh, Bd.state]; rfl
  have N0 := Fr.nil n0
  have pre0 : ∀ tt, Steps p.tables e below (s₁.setTop (mkF m 0 #[.val (.double x), .second] [])) tt → Steps p.tables e below (s₁.setTop (entryFrame m #[(.double x)] 2)) tt := fun tt k => castTop (ef_nan m x) k
  obtain ⟨fs, hr, hrun, hended, hW, hsame⟩ := X0.leave (v := some (.int (0 : Int32))) (fun h => by rw [Bd.returns] at h; cases h)
  refine ⟨_, _, pre0 _ ?_, hrun, hended, _, _, rfl, ?_, ⟨_, rfl⟩, hW, hsame.mono (by decide) (by decide)⟩
  · show Steps p.tables e below (s₁.setTop (mkF m 0 #[.val (.double x), .second] [])) _
    refine XS.dloadN X0.here hx rfl (hb hby dnan_0) rfl ?_
    show Steps p.tables e below (s₁.setTop (mkF m 1 #[.val (.double x), .second] [(.double x)])) _
    refine XS.dloadN X0.here hx rfl (hb hby dnan_1) rfl ?_
    show Steps p.tables e below (s₁.setTop (mkF m 2 #[.val (.double x), .second] [(.double x), (.double x)])) _
    refine XS.dcmpS X0.here hx rfl (hb hby dnan_2) rfl (dcmpV_self hx0.noNaN .l) ?_
    show Steps p.tables e below (s₁.setTop (mkF m 3 #[.val (.double x), .second] [(.int (0 : Int32))])) _
    refine XS.ifYes X0.here hx rfl (pc0 := 3) (pc' := 10) rfl (hb hby dnan_3) rfl ((if0 _ _).trans (teq (rfl : (0 : Int32) = (0 : Int32))).1) (by decide) (by decide) ?_
    show Steps p.tables e below (s₁.setTop (mkF m 10 #[.val (.double x), .second] [])) _
    refine XS.iconst X0.here hx rfl (hb hby dnan_10) ?_
    show Steps p.tables e below (s₁.setTop (mkF m 11 #[.val (.double x), .second] [(.int (0 : Int32))])) _
    exact retN X0 hx (t := .boolean) Bd.returns (by simp) (hb hby dnan_11) hr
  · show Qnan Z x h0 n0 _ s₁.heap _
    rw [e0]
    exact ⟨rfl, N0, rfl⟩
theorem ef_inf (m : MethodId) (x0 : UInt64) : entryFrame m #[(.double x0)] 2 = mkF m 0 #[.val (.double x0), .second] [] := by first | (simp [entryFrame, mkF, argsToLocals, Value.category]; done) | rfl
def Qinf (Z : State) (x : UInt64) (h0 : Heap) (n0 : Nat) (v : Option Value) (h : Heap) (L : List Loc) : Prop := v = some (.int (0 : Int32)) ∧ Fr n0 L ∧ h = h0
set_option maxRecDepth 65536 in
set_option maxHeartbeats 40000000 in
theorem rminf (l : Launch) (Z : State) (a0 : Array Value) (hw : ∀ d ∈ tables_1, d.before a0 Z = true) (ws : List Jvm.Cond) (x : UInt64) (h0 : Heap) (n0 : Nat) (Z0 : n0 ≤ h0.size) (hx0 : Fin64 x) :
    MetFree l (⟨"java/lang/Double", "isInfinite", "(D)Z"⟩ : MethodName) (head1 (Jvm.Cond.code (⟨"java/lang/Double", "isInfinite", "(D)Z"⟩ : MethodName) jdk_117_method_7_code 2 (some .boolean) :: ws) ({ frames := 1, cells := 0, slots := 0, locals := 13 } : Room)) (fun aa U => aa = #[(.double x)] ∧ Z.Warmed39 U.vm ∧ U.heap = h0) (fun _ _ _ _ _ => True) (fun _ U o U' => ∃ v L, o = .returned v ∧ Qinf Z x h0 n0 v U'.heap L ∧ FrameEnd U o U' L ({ frames := 1, cells := 0, slots := 0, locals := 13 } : Room).cells ({ frames := 1, cells := 0, slots := 0, locals := 13 } : Room).slots) := by
  refine MetFree.of_bodySF (plainFor_of_name pn_dbl) hisR ?_
  intro p e s m args below meth c s₁ Bd hml0 hP hK
  obtain ⟨rfl, hZ, hh⟩ := hP
  have hx := Bd.exec
  have hby := Bd.bytes
  have hml : c.maxLocals = 2 := hml0
  have hown : s.vm.findClass "java/lang/Double" = some m.cls := findClass_of_methodNamed Bd.named
  have hnm := (name_of_methodNamed Bd.named Bd.method).1
  have X0 : Stand p l e ({ frames := 1, cells := 0, slots := 0, locals := 13 } : Room) s m #[(.double x)] below meth c s₁ [] 0 0 := Stand.of_body Bd
  have e0 : s₁.heap = h0 := by rw [← hh, Bd.state]; rfl
  have N0 := Fr.nil n0
  have pre0 : ∀ tt, Steps p.tables e below (s₁.setTop (mkF m 0 #[.val (.double x), .second] [])) tt → Steps p.tables e below (s₁.setTop (entryFrame m #[(.double x)] 2)) tt := fun tt k => castTop (ef_inf m x) k
  obtain ⟨T1, X1, e1, st1⟩ := natS X0 hx hZ hown (y := Jvm.Free.Fl.Abs.absDN) (hw _ (List.mem_of_getElem? (i := 33) rfl)) (hw _ (List.mem_of_getElem? (i := 34) rfl)) (hw _ (List.mem_of_getElem? (i := 3) rfl)) (by0 := Jvm.Free.Fl.Abs.absDCode) (ml := 2) (rt := some .double) (hw _ (List.mem_of_getElem? (i := 35) rfl)) (by decide) e0 (W := 0) (F := fun a' => a' = #[.double x] ∧ Jvm.Free.Fl.NoNaN64 x) (val := .double (x &&& 0x7fffffffffffffff)) (val' := .double (x &&& 0x7fffffffffffffff)) (fun c4 => Jvm.Free.Fl.Abs.absD_pays x c4 (by decide) (by decide)) (g := (mkF m 1 #[.val (.double x), .second] [(.double x)])) rfl (by rw [hml]; rfl) (argsL := [.double x]) (rest := []) (lenOf pd_dd rfl) rfl (by show 2 * 0 + _ ≤ _; exact Nat.le_of_eq rfl) (hb hby dinf_1) (Nat.zero_le _) (Nat.zero_le _) ⟨rfl, hx0.noNaN⟩ rfl
  obtain ⟨fs, hr, hrun, hended, hW, hsame⟩ := X1.leave (v := some (.int (0 : Int32))) (fun h => by rw [Bd.returns] at h; cases h)
  refine ⟨_, _, pre0 _ ?_, hrun, hended, _, _, rfl, ?_, ⟨_, rfl⟩, hW, hsame.mono (by decide) (by decide)⟩
  · show Steps p.tables e below (s₁.setTop (mkF m 0 #[.val (.double x), .second] [])) _
    refine XS.dloadN X0.here hx rfl (hb hby dinf_0) rfl ?_
    show Steps p.tables e below (s₁.setTop (mkF m 1 #[.val (.double x), .second] [(.double x)])) _
    refine st1 _ ?_
    show Steps p.tables e below (T1.setTop (mkF m 4 #[.val (.double x), .second] [(.double (x &&& 0x7fffffffffffffff))])) _
    refine X1.ldc2DoubleC hx hown (mvT hZ (hw _ (List.mem_of_getElem? (i := 36) rfl))) (g := (mkF m 4 #[.val (.double x), .second] [(.double (x &&& 0x7fffffffffffffff))])) rfl (hb hby dinf_4) _ ?_
    show Steps p.tables e below (T1.setTop (mkF m 7 #[.val (.double x), .second] [(.double (9218868437227405311 : UInt64)), (.double (x &&& 0x7fffffffffffffff))])) _
    refine XS.dcmpS X1.here hx rfl (hb hby dinf_7) rfl rfl ?_
    show Steps p.tables e below (T1.setTop (mkF m 8 #[.val (.double x), .second] [(.int (cmpValue (FP.dcmp (x &&& 0x7fffffffffffffff) (9218868437227405311 : UInt64)) .l))])) _
    refine XS.ifYes X1.here hx rfl (pc0 := 8) (pc' := 15) rfl (hb hby dinf_8) rfl ((if0 _ _).trans (flt (own_fin_le hx0 : ¬ ((0 : Int32) < (cmpValue (FP.dcmp (x &&& 0x7fffffffffffffff) (9218868437227405311 : UInt64)) .l)))).2.2.2) (by decide) (by decide) ?_
    show Steps p.tables e below (T1.setTop (mkF m 15 #[.val (.double x), .second] [])) _
    refine XS.iconst X1.here hx rfl (hb hby dinf_15) ?_
    show Steps p.tables e below (T1.setTop (mkF m 16 #[.val (.double x), .second] [(.int (0 : Int32))])) _
    exact retN X1 hx (t := .boolean) Bd.returns (by simp) (hb hby dinf_16) hr
  · show Qinf Z x h0 n0 _ T1.heap _
    rw [e1]
    exact ⟨rfl, N0, rfl⟩
theorem ef_fin (m : MethodId) (x0 : UInt64) (x1 : Addr) : entryFrame m #[(.double x0), (.ref x1)] 3 = mkF m 0 #[.val (.double x0), .second, .val (.ref x1)] [] := by first | (simp [entryFrame, mkF, argsToLocals, Value.category]; done) | rfl
def Qfin (Z : State) (x : UInt64) (b : Addr) (h0 : Heap) (n0 : Nat) (v : Option Value) (h : Heap) (L : List Loc) : Prop := v = some (.double x) ∧ Fr n0 L ∧ h = h0
set_option maxRecDepth 65536 in
set_option maxHeartbeats 40000000 in
theorem rmfin (l : Launch) (Z : State) (a0 : Array Value) (hw : ∀ d ∈ tables_1, d.before a0 Z = true) (ws : List Jvm.Cond) (x : UInt64) (b : Addr) (h0 : Heap) (n0 : Nat) (Z0 : n0 ≤ h0.size) (hx0 : Fin64 x) (hz : Nz64 x) :
    MetFree l (⟨"com/example/wheelwise/wheelwise/Arguments", "requireFiniteNonZero", "(DLjava/lang/String;)D"⟩ : MethodName) (head1 (Jvm.Cond.code (⟨"com/example/wheelwise/wheelwise/Arguments", "requireFiniteNonZero", "(DLjava/lang/String;)D"⟩ : MethodName) prog_3_method_13_code 3 (some .double) :: ws) ({ frames := 2, cells := 0, slots := 0, locals := 26 } : Room)) (fun aa U => aa = #[(.double x), (.ref b)] ∧ Z.Warmed39 U.vm ∧ U.heap = h0) (fun _ _ _ _ _ => True) (fun _ U o U' => ∃ v L, o = .returned v ∧ Qfin Z x b h0 n0 v U'.heap L ∧ FrameEnd U o U' L ({ frames := 2, cells := 0, slots := 0, locals := 26 } : Room).cells ({ frames := 2, cells := 0, slots := 0, locals := 26 } : Room).slots) := by
  refine MetFree.of_bodySF (plainFor_of_name pn_arg) hisR ?_
  intro p e s m args below meth c s₁ Bd hml0 hP hK
  obtain ⟨rfl, hZ, hh⟩ := hP
  have hx := Bd.exec
  have hby := Bd.bytes
  have hml : c.maxLocals = 3 := hml0
  have hown : s.vm.findClass "com/example/wheelwise/wheelwise/Arguments" = some m.cls := findClass_of_methodNamed Bd.named
  have hnm := (name_of_methodNamed Bd.named Bd.method).1
  have X0 : Stand p l e ({ frames := 2, cells := 0, slots := 0, locals := 26 } : Room) s m #[(.double x), (.ref b)] below meth c s₁ [] 0 0 := Stand.of_body Bd
  have e0 : s₁.heap = h0 := by rw [← hh, Bd.state]; rfl
  have N0 := Fr.nil n0
  have pre0 : ∀ tt, Steps p.tables e below (s₁.setTop (mkF m 0 #[.val (.double x), .second, .val (.ref b)] [])) tt → Steps p.tables e below (s₁.setTop (entryFrame m #[(.double x), (.ref b)] 3)) tt := fun tt k => castTop (ef_fin m x b) k
  obtain ⟨_, _, ⟨T1, L1, k1, n1⟩, -, X1, ⟨Lc1, hQ1, l1, y1, z1⟩, st1⟩ := Jvm.LawKit.callS X0 hx (y := (⟨"java/lang/Double", "isNaN", "(D)Z"⟩ : MethodName)) hown (mvT hZ (hw _ (List.mem_of_getElem? (i := 26) rfl))) (mvT hZ (hw _ (List.mem_of_getElem? (i := 27) rfl))) (mvT hZ (hw _ (List.mem_of_getElem? (i := 28) rfl))) (mvT hZ (hw _ (List.mem_of_getElem? (i := 29) rfl))) (by decide) (backOf (W := 0) (rmnan l Z a0 hw [] x h0 n0 Z0 hx0) hZ (hw _ (List.mem_of_getElem? (i := 29) rfl)) (hw _ (List.mem_of_getElem? (i := 28) rfl)) (by decide) (by decide)) (g := (mkF m 7 #[.val (.double x), .second, .val (.ref b)] [(.double x)])) rfl (by rw [hml]; rfl) (argsL := [(.double x)]) (rest := []) (lenOf pd_dz rfl) rfl (by show 2 * 0 + _ ≤ _; exact Nat.le_of_eq rfl) (hb hby dfin_7) (fun _ _ => ⟨rfl, e0, (by decide : 0 + 0 ≤ _), (by decide : 0 + 0 ≤ _)⟩)
  dsimp only [Pt.U, Pt.locs, Pt.cells, Pt.slots] at X1 l1 y1 z1 st1 hQ1
  subst l1 y1 z1
  obtain ⟨rfl, M1, u1⟩ := hQ1
  have N1 := Fr.app N0 M1
  obtain ⟨_, _, ⟨T2, L2, k2, n2⟩, -, X2, ⟨Lc2, hQ2, l2, y2, z2⟩, st2⟩ := Jvm.LawKit.callS X1 hx (y := (⟨"java/lang/Double", "isInfinite", "(D)Z"⟩ : MethodName)) hown (mvT hZ (hw _ (List.mem_of_getElem? (i := 30) rfl))) (mvT hZ (hw _ (List.mem_of_getElem? (i := 31) rfl))) (mvT hZ (hw _ (List.mem_of_getElem? (i := 28) rfl))) (mvT hZ (hw _ (List.mem_of_getElem? (i := 32) rfl))) (by decide) (backOf (W := 0) (rminf l Z a0 hw [] x h0 n0 Z0 hx0) hZ (hw _ (List.mem_of_getElem? (i := 32) rfl)) (hw _ (List.mem_of_getElem? (i := 28) rfl)) (by decide) (by decide)) (g := (mkF m 14 #[.val (.double x), .second, .val (.ref b)] [(.double x)])) rfl (by rw [hml]; rfl) (argsL := [(.double x)]) (rest := []) (lenOf pd_dz rfl) rfl (by show 2 * 0 + _ ≤ _; exact Nat.le_of_eq rfl) (hb hby dfin_14) (fun _ _ => ⟨rfl, u1, (by decide : 0 + 0 ≤ _), (by decide : 0 + 0 ≤ _)⟩)
  dsimp only [Pt.U, Pt.locs, Pt.cells, Pt.slots] at X2 l2 y2 z2 st2 hQ2
  subst l2 y2 z2
  obtain ⟨rfl, M2, u2⟩ := hQ2
  have N2 := Fr.app N1 M2
  obtain ⟨fs, hr, hrun, hended, hW, hsame⟩ := X2.leave (v := some (.double x)) (fun h => by rw [Bd.returns] at h; cases h)
  refine ⟨_, _, pre0 _ ?_, hrun, hended, _, _, rfl, ?_, ⟨_, rfl⟩, hW, hsame.mono (by decide) (by decide)⟩
  · show Steps p.tables e below (s₁.setTop (mkF m 0 #[.val (.double x), .second, .val (.ref b)] [])) _
    refine XS.dloadN X0.here hx rfl (hb hby dfin_0) rfl ?_
    show Steps p.tables e below (s₁.setTop (mkF m 1 #[.val (.double x), .second, .val (.ref b)] [(.double x)])) _
    refine XS.dconst0 X0.here hx rfl (hb hby dfin_1) rfl ?_
    show Steps p.tables e below (s₁.setTop (mkF m 2 #[.val (.double x), .second, .val (.ref b)] [(.double (0 : UInt64)), (.double x)])) _
    refine XS.dcmpS X0.here hx rfl (hb hby dfin_2) rfl rfl ?_
    show Steps p.tables e below (s₁.setTop (mkF m 3 #[.val (.double x), .second, .val (.ref b)] [(.int (cmpValue (FP.dcmp x (0 : UInt64)) .l))])) _
    refine XS.ifNo X0.here hx rfl (hb hby dfin_3) rfl ((if0 _ _).trans (feq (own_nz hz : ¬ ((cmpValue (FP.dcmp x (0 : UInt64)) .l) = (0 : Int32)))).1) ?_
    show Steps p.tables e below (s₁.setTop (mkF m 6 #[.val (.double x), .second, .val (.ref b)] [])) _
    refine XS.dloadN X0.here hx rfl (hb hby dfin_6) rfl ?_
    show Steps p.tables e below (s₁.setTop (mkF m 7 #[.val (.double x), .second, .val (.ref b)] [(.double x)])) _
    refine st1 _ ?_
    show Steps p.tables e below (T1.setTop (mkF m 10 #[.val (.double x), .second, .val (.ref b)] [(.int (0 : Int32))])) _
    refine XS.ifNo X1.here hx rfl (hb hby dfin_10) rfl ((if0 _ _).trans (teq (rfl : (0 : Int32) = (0 : Int32))).2) ?_
    show Steps p.tables e below (T1.setTop (mkF m 13 #[.val (.double x), .second, .val (.ref b)] [])) _
    refine XS.dloadN X1.here hx rfl (hb hby dfin_13) rfl ?_
    show Steps p.tables e below (T1.setTop (mkF m 14 #[.val (.double x), .second, .val (.ref b)] [(.double x)])) _
    refine st2 _ ?_
    show Steps p.tables e below (T2.setTop (mkF m 17 #[.val (.double x), .second, .val (.ref b)] [(.int (0 : Int32))])) _
    refine XS.ifYes X2.here hx rfl (pc0 := 17) (pc' := 35) rfl (hb hby dfin_17) rfl ((if0 _ _).trans (teq (rfl : (0 : Int32) = (0 : Int32))).1) (by decide) (by decide) ?_
    show Steps p.tables e below (T2.setTop (mkF m 35 #[.val (.double x), .second, .val (.ref b)] [])) _
    refine XS.dloadN X2.here hx rfl (hb hby dfin_35) rfl ?_
    show Steps p.tables e below (T2.setTop (mkF m 36 #[.val (.double x), .second, .val (.ref b)] [(.double x)])) _
    exact retOut X2 hx Bd.returns rfl (Or.inr (Or.inr (Or.inl ⟨rfl, rfl, _, rfl⟩))) (hb hby dfin_36) hr
  · show Qfin Z x b h0 n0 _ T2.heap _
    rw [u2]
    exact ⟨rfl, N2, rfl⟩
theorem ef_rps (m : MethodId) (x0 : Int64) (x1 : Addr) : entryFrame m #[(.long x0), (.ref x1)] 3 = mkF m 0 #[.val (.long x0), .second, .val (.ref x1)] [] := by first | (simp [entryFrame, mkF, argsToLocals, Value.category]; done) | rfl
def Qrps (Z : State) (n : Int64) (b : Addr) (h0 : Heap) (n0 : Nat) (v : Option Value) (h : Heap) (L : List Loc) : Prop := v = some (.long n) ∧ Fr n0 L ∧ h = h0
set_option maxRecDepth 65536 in
set_option maxHeartbeats 40000000 in
theorem rmrps (l : Launch) (Z : State) (a0 : Array Value) (hw : ∀ d ∈ tables_1, d.before a0 Z = true) (ws : List Jvm.Cond) (n : Int64) (b : Addr) (h0 : Heap) (n0 : Nat) (Z0 : n0 ≤ h0.size) (hn : (0 : Int64) < n) :
    MetFree l (⟨"com/example/wheelwise/wheelwise/Arguments", "requirePositive", "(JLjava/lang/String;)J"⟩ : MethodName) (head1 (Jvm.Cond.code (⟨"com/example/wheelwise/wheelwise/Arguments", "requirePositive", "(JLjava/lang/String;)J"⟩ : MethodName) prog_3_method_2_code 3 (some .long) :: ws) ({ frames := 0, cells := 0, slots := 0, locals := 0 } : Room)) (fun aa U => aa = #[(.long n), (.ref b)] ∧ Z.Warmed39 U.vm ∧ U.heap = h0) (fun _ _ _ _ _ => True) (fun _ U o U' => ∃ v L, o = .returned v ∧ Qrps Z n b h0 n0 v U'.heap L ∧ FrameEnd U o U' L ({ frames := 0, cells := 0, slots := 0, locals := 0 } : Room).cells ({ frames := 0, cells := 0, slots := 0, locals := 0 } : Room).slots) := by
  refine MetFree.of_bodySF (plainFor_of_name pn_arg) hisR ?_
  intro p e s m args below meth c s₁ Bd hml0 hP hK
  obtain ⟨rfl, hZ, hh⟩ := hP
  have hx := Bd.exec
  have hby := Bd.bytes
  have hml : c.maxLocals = 3 := hml0
  have hown : s.vm.findClass "com/example/wheelwise/wheelwise/Arguments" = some m.cls := findClass_of_methodNamed Bd.named
  have hnm := (name_of_methodNamed Bd.named Bd.method).1
  have X0 : Stand p l e ({ frames := 0, cells := 0, slots := 0, locals := 0 } : Room) s m #[(.long n), (.ref b)] below meth c s₁ [] 0 0 := Stand.of_body Bd
  have e0 : s₁.heap = h0 := by rw [← hh, Bd.state]; rfl
  have N0 := Fr.nil n0
  have pre0 : ∀ tt, Steps p.tables e below (s₁.setTop (mkF m 0 #[.val (.long n), .second, .val (.ref b)] [])) tt → Steps p.tables e below (s₁.setTop (entryFrame m #[(.long n), (.ref b)] 3)) tt := fun tt k => castTop (ef_rps m n b) k
  obtain ⟨fs, hr, hrun, hended, hW, hsame⟩ := X0.leave (v := some (.long n)) (fun h => by rw [Bd.returns] at h; cases h)
  refine ⟨_, _, pre0 _ ?_, hrun, hended, _, _, rfl, ?_, ⟨_, rfl⟩, hW, hsame.mono (by decide) (by decide)⟩
  · show Steps p.tables e below (s₁.setTop (mkF m 0 #[.val (.long n), .second, .val (.ref b)] [])) _
    refine XS.lloadN X0.here hx rfl (hb hby drps_0) rfl ?_
    show Steps p.tables e below (s₁.setTop (mkF m 1 #[.val (.long n), .second, .val (.ref b)] [(.long n)])) _
    refine XS.lconst X0.here hx rfl (hb hby drps_1) ?_
    show Steps p.tables e below (s₁.setTop (mkF m 2 #[.val (.long n), .second, .val (.ref b)] [(.long (0 : Int64)), (.long n)])) _
    refine XS.lcmp X0.here hx rfl (hb hby drps_2) rfl ?_
    show Steps p.tables e below (s₁.setTop (mkF m 3 #[.val (.long n), .second, .val (.ref b)] [(.int (lcmpW n (0 : Int64)))])) _
    refine XS.ifYes X0.here hx rfl (pc0 := 3) (pc' := 21) rfl (hb hby drps_3) rfl ((if0 _ _).trans (tlt ((lw_gt n 0).mpr hn : (0 : Int32) < (lcmpW n (0 : Int64)))).2.2.1) (by decide) (by decide) ?_
    show Steps p.tables e below (s₁.setTop (mkF m 21 #[.val (.long n), .second, .val (.ref b)] [])) _
    refine XS.lloadN X0.here hx rfl (hb hby drps_21) rfl ?_
    show Steps p.tables e below (s₁.setTop (mkF m 22 #[.val (.long n), .second, .val (.ref b)] [(.long n)])) _
    exact retOut X0 hx Bd.returns rfl (Or.inr (Or.inl ⟨rfl, rfl, _, rfl⟩)) (hb hby drps_22) hr
  · show Qrps Z n b h0 n0 _ s₁.heap _
    rw [e0]
    exact ⟨rfl, N0, rfl⟩
theorem ef_stp (m : MethodId) (x0 : Int64) (x1 : Int64) : entryFrame m #[(.long x0), (.long x1)] 5 = mkF m 0 #[.val (.long x0), .second, .val (.long x1), .second, .unset] [] := by first | (simp [entryFrame, mkF, argsToLocals, Value.category]; done) | rfl
def Qstp (Z : State) (x : Int64) (y : Int64) (h0 : Heap) (n0 : Nat) (v : Option Value) (h : Heap) (L : List Loc) : Prop := v = some (.long (own_st x y)) ∧ Fr n0 L ∧ h = h0
set_option maxRecDepth 65536 in
set_option maxHeartbeats 40000000 in
theorem rmstp (l : Launch) (Z : State) (a0 : Array Value) (hw : ∀ d ∈ tables_1, d.before a0 Z = true) (ws : List Jvm.Cond) (x : Int64) (y : Int64) (h0 : Heap) (n0 : Nat) (Z0 : n0 ≤ h0.size) :
    MetFree l (⟨"com/example/wheelwise/wheelwise/IncrementalEncoderUpdatePinLaw", "step", "(JJ)J"⟩ : MethodName) (head1 (Jvm.Cond.code (⟨"com/example/wheelwise/wheelwise/IncrementalEncoderUpdatePinLaw", "step", "(JJ)J"⟩ : MethodName) method_2_code 5 (some .long) :: ws) ({ frames := 0, cells := 0, slots := 0, locals := 0 } : Room)) (fun aa U => aa = #[(.long x), (.long y)] ∧ Z.Warmed39 U.vm ∧ U.heap = h0) (fun _ _ _ _ _ => True) (fun _ U o U' => ∃ v L, o = .returned v ∧ Qstp Z x y h0 n0 v U'.heap L ∧ FrameEnd U o U' L ({ frames := 0, cells := 0, slots := 0, locals := 0 } : Room).cells ({ frames := 0, cells := 0, slots := 0, locals := 0 } : Room).slots) := by
  refine MetFree.of_bodySF (plainFor_of_name pn_law) hisR ?_
  intro p e s m args below meth c s₁ Bd hml0 hP hK
  obtain ⟨rfl, hZ, hh⟩ := hP
  have hx := Bd.exec
  have hby := Bd.bytes
  have hml : c.maxLocals = 5 := hml0
  have hown : s.vm.findClass "com/example/wheelwise/wheelwise/IncrementalEncoderUpdatePinLaw" = some m.cls := findClass_of_methodNamed Bd.named
  have hnm := (name_of_methodNamed Bd.named Bd.method).1
  have X0 : Stand p l e ({ frames := 0, cells := 0, slots := 0, locals := 0 } : Room) s m #[(.long x), (.long y)] below meth c s₁ [] 0 0 := Stand.of_body Bd
  have e0 : s₁.heap = h0 := by rw [← hh, Bd.state]; rfl
  have N0 := Fr.nil n0
  have pre0 : ∀ tt, Steps p.tables e below (s₁.setTop (mkF m 0 #[.val (.long x), .second, .val (.long y), .second, .unset] [])) tt → Steps p.tables e below (s₁.setTop (entryFrame m #[(.long x), (.long y)] 5)) tt := fun tt k => castTop (ef_stp m x y) k
  obtain ⟨fs, hr, hrun, hended, hW, hsame⟩ := X0.leave (v := some (.long (own_st x y))) (fun h => by rw [Bd.returns] at h; cases h)
  refine ⟨_, _, pre0 _ ?_, hrun, hended, _, _, rfl, ?_, ⟨_, rfl⟩, hW, hsame.mono (by decide) (by decide)⟩
  · show Steps p.tables e below (s₁.setTop (mkF m 0 #[.val (.long x), .second, .val (.long y), .second, .unset] [])) _
    refine XS.lloadN X0.here hx rfl (hb hby dstp_0) rfl ?_
    show Steps p.tables e below (s₁.setTop (mkF m 1 #[.val (.long x), .second, .val (.long y), .second, .unset] [(.long y)])) _
    refine XS.l2i X0.here hx rfl (hb hby dstp_1) rfl ?_
    show Steps p.tables e below (s₁.setTop (mkF m 2 #[.val (.long x), .second, .val (.long y), .second, .unset] [(.int (y).toInt32)])) _
    refine XS.lloadN X0.here hx rfl (hb hby dstp_2) rfl ?_
    show Steps p.tables e below (s₁.setTop (mkF m 3 #[.val (.long x), .second, .val (.long y), .second, .unset] [(.long x), (.int (y).toInt32)])) _
    refine XS.l2i X0.here hx rfl (hb hby dstp_3) rfl ?_
    show Steps p.tables e below (s₁.setTop (mkF m 4 #[.val (.long x), .second, .val (.long y), .second, .unset] [(.int (x).toInt32), (.int (y).toInt32)])) _
    refine XS.isub X0.here hx rfl (hb hby dstp_4) rfl ?_
    show Steps p.tables e below (s₁.setTop (mkF m 5 #[.val (.long x), .second, .val (.long y), .second, .unset] [(.int ((y).toInt32 - (x).toInt32))])) _
    refine XS.istore X0.here hx rfl (hb hby dstp_5) rfl (l' := #[.val (.long x), .second, .val (.long y), .second, .val (.int ((y).toInt32 - (x).toInt32))]) rfl ?_
    show Steps p.tables e below (s₁.setTop (mkF m 7 #[.val (.long x), .second, .val (.long y), .second, .val (.int ((y).toInt32 - (x).toInt32))] [])) _
    refine XS.iload X0.here hx rfl (hb hby dstp_7) rfl ?_
    show Steps p.tables e below (s₁.setTop (mkF m 9 #[.val (.long x), .second, .val (.long y), .second, .val (.int ((y).toInt32 - (x).toInt32))] [(.int ((y).toInt32 - (x).toInt32))])) _
    refine XS.i2l X0.here hx rfl (hb hby dstp_9) rfl ?_
    show Steps p.tables e below (s₁.setTop (mkF m 10 #[.val (.long x), .second, .val (.long y), .second, .val (.int ((y).toInt32 - (x).toInt32))] [(.long (own_st x y))])) _
    exact retOut X0 hx Bd.returns rfl (Or.inr (Or.inl ⟨rfl, rfl, _, rfl⟩)) (hb hby dstp_10) hr
  · show Qstp Z x y h0 n0 _ s₁.heap _
    rw [e0]
    exact ⟨rfl, N0, rfl⟩
theorem ef_pos (m : MethodId) (x0 : Int64) (x1 : UInt64) (x2 : Int64) : entryFrame m #[(.long x0), (.double x1), (.long x2)] 6 = mkF m 0 #[.val (.long x0), .second, .val (.double x1), .second, .val (.long x2), .second] [] := by first | (simp [entryFrame, mkF, argsToLocals, Value.category]; done) | rfl
def Qpos (Z : State) (t : Int64) (d : UInt64) (n : Int64) (h0 : Heap) (n0 : Nat) (v : Option Value) (h : Heap) (L : List Loc) : Prop := v = some (.double (own_pos t d n)) ∧ Fr n0 L ∧ h = h0
set_option maxRecDepth 65536 in
set_option maxHeartbeats 40000000 in
theorem rmpos (l : Launch) (Z : State) (a0 : Array Value) (hw : ∀ d ∈ tables_1, d.before a0 Z = true) (ws : List Jvm.Cond) (t : Int64) (d : UInt64) (n : Int64) (h0 : Heap) (n0 : Nat) (Z0 : n0 ≤ h0.size) (hd : Mag64 1056 d) (hn : n ≠ 0) :
    MetFree l (⟨"com/example/wheelwise/wheelwise/IncrementalEncoderUpdatePinLaw", "pos", "(JDJ)D"⟩ : MethodName) (head1 (Jvm.Cond.code (⟨"com/example/wheelwise/wheelwise/IncrementalEncoderUpdatePinLaw", "pos", "(JDJ)D"⟩ : MethodName) method_3_code 6 (some .double) :: ws) ({ frames := 0, cells := 0, slots := 0, locals := 0 } : Room)) (fun aa U => aa = #[(.long t), (.double d), (.long n)] ∧ Z.Warmed39 U.vm ∧ U.heap = h0) (fun _ _ _ _ _ => True) (fun _ U o U' => ∃ v L, o = .returned v ∧ Qpos Z t d n h0 n0 v U'.heap L ∧ FrameEnd U o U' L ({ frames := 0, cells := 0, slots := 0, locals := 0 } : Room).cells ({ frames := 0, cells := 0, slots := 0, locals := 0 } : Room).slots) := by
  refine MetFree.of_bodySF (plainFor_of_name pn_law) hisR ?_
  intro p e s m args below meth c s₁ Bd hml0 hP hK
  obtain ⟨rfl, hZ, hh⟩ := hP
  have hx := Bd.exec
  have hby := Bd.bytes
  have hml : c.maxLocals = 6 := hml0
  have hown : s.vm.findClass "com/example/wheelwise/wheelwise/IncrementalEncoderUpdatePinLaw" = some m.cls := findClass_of_methodNamed Bd.named
  have hnm := (name_of_methodNamed Bd.named Bd.method).1
  have X0 : Stand p l e ({ frames := 0, cells := 0, slots := 0, locals := 0 } : Room) s m #[(.long t), (.double d), (.long n)] below meth c s₁ [] 0 0 := Stand.of_body Bd
  have e0 : s₁.heap = h0 := by rw [← hh, Bd.state]; rfl
  have N0 := Fr.nil n0
  have pre0 : ∀ tt, Steps p.tables e below (s₁.setTop (mkF m 0 #[.val (.long t), .second, .val (.double d), .second, .val (.long n), .second] [])) tt → Steps p.tables e below (s₁.setTop (entryFrame m #[(.long t), (.double d), (.long n)] 6)) tt := fun tt k => castTop (ef_pos m t d n) k
  obtain ⟨fs, hr, hrun, hended, hW, hsame⟩ := X0.leave (v := some (.double (own_pos t d n))) (fun h => by rw [Bd.returns] at h; cases h)
  refine ⟨_, _, pre0 _ ?_, hrun, hended, _, _, rfl, ?_, ⟨_, rfl⟩, hW, hsame.mono (by decide) (by decide)⟩
  · show Steps p.tables e below (s₁.setTop (mkF m 0 #[.val (.long t), .second, .val (.double d), .second, .val (.long n), .second] [])) _
    refine XS.lloadN X0.here hx rfl (hb hby dpos_0) rfl ?_
    show Steps p.tables e below (s₁.setTop (mkF m 1 #[.val (.long t), .second, .val (.double d), .second, .val (.long n), .second] [(.long t)])) _
    refine XS.l2dS X0.here hx rfl (hb hby dpos_1) rfl rfl ?_
    show Steps p.tables e below (s₁.setTop (mkF m 2 #[.val (.long t), .second, .val (.double d), .second, .val (.long n), .second] [(.double (FP.l2d t))])) _
    refine XS.dloadN X0.here hx rfl (hb hby dpos_2) rfl ?_
    show Steps p.tables e below (s₁.setTop (mkF m 3 #[.val (.long t), .second, .val (.double d), .second, .val (.long n), .second] [(.double d), (.double (FP.l2d t))])) _
    refine XS.dmulS X0.here hx rfl (hb hby dpos_3) rfl (own_nm hd t) rfl ?_
    show Steps p.tables e below (s₁.setTop (mkF m 4 #[.val (.long t), .second, .val (.double d), .second, .val (.long n), .second] [(.double (FP.dmul (FP.l2d t) d))])) _
    refine XS.lload X0.here hx rfl (hb hby dpos_4) rfl ?_
    show Steps p.tables e below (s₁.setTop (mkF m 6 #[.val (.long t), .second, .val (.double d), .second, .val (.long n), .second] [(.long n), (.double (FP.dmul (FP.l2d t) d))])) _
    refine XS.l2dS X0.here hx rfl (hb hby dpos_6) rfl rfl ?_
    show Steps p.tables e below (s₁.setTop (mkF m 7 #[.val (.long t), .second, .val (.double d), .second, .val (.long n), .second] [(.double (FP.l2d n)), (.double (FP.dmul (FP.l2d t) d))])) _
    refine XS.ddivS X0.here hx rfl (hb hby dpos_7) rfl (own_nd hd hn t) rfl ?_
    show Steps p.tables e below (s₁.setTop (mkF m 8 #[.val (.long t), .second, .val (.double d), .second, .val (.long n), .second] [(.double (own_pos t d n))])) _
    exact retOut X0 hx Bd.returns rfl (Or.inr (Or.inr (Or.inl ⟨rfl, rfl, _, rfl⟩))) (hb hby dpos_8) hr
  · show Qpos Z t d n h0 n0 _ s₁.heap _
    rw [e0]
    exact ⟨rfl, N0, rfl⟩
theorem ef_ini (m : MethodId) (x0 : Addr) (x1 : UInt64) (x2 : Int64) : entryFrame m #[(.ref x0), (.double x1), (.long x2)] 5 = mkF m 0 #[.val (.ref x0), .val (.double x1), .second, .val (.long x2), .second] [] := by first | (simp [entryFrame, mkF, argsToLocals, Value.category]; done) | rfl
def Qini (Z : State) (a : Addr) (x : UInt64) (n : Int64) (h0 : Heap) (n0 : Nat) (v : Option Value) (h : Heap) (L : List Loc) : Prop := v = none ∧ Fr n0 L ∧ Keep h0 h [a] ∧ Exa Z h a "com/example/wheelwise/wheelwise/IncrementalEncoder" ∧ Fld Z h a "com/example/wheelwise/wheelwise/IncrementalEncoder" "distancePerTurn" "D" (.double x) ∧ Fld Z h a "com/example/wheelwise/wheelwise/IncrementalEncoder" "countsPerTurn" "J" (.long n) ∧ Fld Z h a "com/example/wheelwise/wheelwise/IncrementalEncoder" "hasPrevious" "Z" (.int (0 : Int32)) ∧ Fld Z h a "com/example/wheelwise/wheelwise/IncrementalEncoder" "total" "J" (.long (0 : Int64)) ∧ Fld Z h a "com/example/wheelwise/wheelwise/IncrementalEncoder" "previous" "J" (.long (0 : Int64))
set_option maxRecDepth 65536 in
set_option maxHeartbeats 40000000 in
theorem rmini (l : Launch) (Z : State) (a0 : Array Value) (hw : ∀ d ∈ tables_1, d.before a0 Z = true) (ws : List Jvm.Cond) (a : Addr) (x : UInt64) (n : Int64) (h0 : Heap) (n0 : Nat) (Z0 : n0 ≤ h0.size) (F0 : Fld Z h0 a "com/example/wheelwise/wheelwise/IncrementalEncoder" "distancePerTurn" "D" (.double 0)) (F1 : Fld Z h0 a "com/example/wheelwise/wheelwise/IncrementalEncoder" "countsPerTurn" "J" (.long (0 : Int64))) (F2 : Fld Z h0 a "com/example/wheelwise/wheelwise/IncrementalEncoder" "hasPrevious" "Z" (.int (0 : Int32))) (F3 : Fld Z h0 a "com/example/wheelwise/wheelwise/IncrementalEncoder" "total" "J" (.long (0 : Int64))) (F4 : Fld Z h0 a "com/example/wheelwise/wheelwise/IncrementalEncoder" "previous" "J" (.long (0 : Int64))) (E0 : Exa Z h0 a "com/example/wheelwise/wheelwise/IncrementalEncoder") (ga : n0 ≤ a) (hm : Mag64 1056 x) (hz : Nz64 x) (hn : (0 : Int64) < n) :
    MetFree l (⟨"com/example/wheelwise/wheelwise/IncrementalEncoder", "<init>", "(DJ)V"⟩ : MethodName) (head1 (Jvm.Cond.code (⟨"com/example/wheelwise/wheelwise/IncrementalEncoder", "<init>", "(DJ)V"⟩ : MethodName) prog_6_method_1_code 5 none :: ws) ({ frames := 3, cells := 4, slots := 136, locals := 41 } : Room)) (fun aa U => aa = #[(.ref a), (.double x), (.long n)] ∧ Z.Warmed39 U.vm ∧ U.heap = h0) (fun _ _ _ _ _ => True) (fun _ U o U' => ∃ v L, o = .returned v ∧ Qini Z a x n h0 n0 v U'.heap L ∧ ReturnedEndW U o U' L ({ frames := 3, cells := 4, slots := 136, locals := 41 } : Room).cells ({ frames := 3, cells := 4, slots := 136, locals := 41 } : Room).slots) := by
  refine MetFree.of_bodySF (plainFor_of_name pn_enc) hisR ?_
  intro p e s m args below meth c s₁ Bd hml0 hP hK
  obtain ⟨rfl, hZ, hh⟩ := hP
  have hx := Bd.exec
  have hby := Bd.bytes
  have hml : c.maxLocals = 5 := hml0
  have hown : s.vm.findClass "com/example/wheelwise/wheelwise/IncrementalEncoder" = some m.cls := findClass_of_methodNamed Bd.named
  have hnm := (name_of_methodNamed Bd.named Bd.method).1
  have X0 : Stand p l e ({ frames := 3, cells := 4, slots := 136, locals := 41 } : Room) s m #[(.ref a), (.double x), (.long n)] below meth c s₁ [] 0 0 := Stand.of_body Bd
  have e0 : s₁.heap = h0 := by rw [← hh, Bd.state]; rfl
  have N0 := Fr.nil n0
  have pre0 : ∀ tt, Steps p.tables e below (s₁.setTop (mkF m 0 #[.val (.ref a), .val (.double x), .second, .val (.long n), .second] [])) tt → Steps p.tables e below (s₁.setTop (entryFrame m #[(.ref a), (.double x), (.long n)] 5)) tt := fun tt k => castTop (ef_ini m a x n) k
  have hStr : ∀ w ∈ Bundle.stringAtoms, w.before a0 Z = true := fun w hm => by
    simp only [Bundle.stringAtoms, List.mem_cons, List.not_mem_nil, or_false] at hm
    rcases hm with rfl | rfl | rfl | rfl | rfl | rfl | rfl
    · exact (hw _ (List.mem_of_getElem? (i := 15) rfl))
    · exact (hw _ (List.mem_of_getElem? (i := 16) rfl))
    · exact (hw _ (List.mem_of_getElem? (i := 17) rfl))
    · exact (hw _ (List.mem_of_getElem? (i := 18) rfl))
    · exact (hw _ (List.mem_of_getElem? (i := 19) rfl))
    · exact (hw _ (List.mem_of_getElem? (i := 20) rfl))
    · exact (hw _ (List.mem_of_getElem? (i := 21) rfl))
  obtain ⟨T1, X1, e1, st1⟩ := initO X0 hx hZ hown (hw _ (List.mem_of_getElem? (i := 11) rfl)) (hw _ (List.mem_of_getElem? (i := 12) rfl)) (hw _ (List.mem_of_getElem? (i := 13) rfl)) e0 (g := (mkF m 1 #[.val (.ref a), .val (.double x), .second, .val (.long n), .second] [(.ref a)])) rfl (by rw [hml]; rfl) rfl (hb hby dini_1) (by decide) (W := 0) (by show 2 * 0 + _ ≤ _; exact Nat.le_of_eq rfl) (by decide)
  have Y2 := X1.retabled X1.warmed.wide
  have hZa2 : Z.Warmed39 T1.vm := wtrans hZ X1.warmed
  have hoa2 : T1.vm.findClass "com/example/wheelwise/wheelwise/IncrementalEncoder" = some m.cls := by rw [X1.warmed.alike.findClass]; exact hown
  obtain ⟨sa, T2, h2, k2, X2, e2, E2, S2, kl2, hZ2, ho2, st2⟩ := ldcS (s := s) Y2 hx hZa2 hoa2 (hw _ (List.mem_of_getElem? (i := 14) rfl)) hStr e1 (X1.warmed.since 0) (Nat.zero_le _) (g := (mkF m 6 #[.val (.ref a), .val (.double x), .second, .val (.long n), .second] [(.double x), (.ref a)])) rfl (hb hby dini_6) (n := 68) (by decide) (by decide) (by decide) (by decide)
  have fx2_0 : Fld Z h2 a "com/example/wheelwise/wheelwise/IncrementalEncoder" "distancePerTurn" "D" (.double 0) := (F0.ext E2)
  have fx2_1 : Fld Z h2 a "com/example/wheelwise/wheelwise/IncrementalEncoder" "countsPerTurn" "J" (.long (0 : Int64)) := (F1.ext E2)
  have fx2_2 : Fld Z h2 a "com/example/wheelwise/wheelwise/IncrementalEncoder" "hasPrevious" "Z" (.int (0 : Int32)) := (F2.ext E2)
  have fx2_3 : Fld Z h2 a "com/example/wheelwise/wheelwise/IncrementalEncoder" "total" "J" (.long (0 : Int64)) := (F3.ext E2)
  have fx2_4 : Fld Z h2 a "com/example/wheelwise/wheelwise/IncrementalEncoder" "previous" "J" (.long (0 : Int64)) := (F4.ext E2)
  have xx2 : Exa Z h2 a "com/example/wheelwise/wheelwise/IncrementalEncoder" := (E0.ext E2)
  have Kx2 : Keep h0 h2 [a] := ((Keep.refl h0 [a]).ext E2)
  have Zs2 : n0 ≤ h2.size := Nat.le_trans Z0 Kx2.1
  obtain ⟨_, _, ⟨T3, L3, k3, n3⟩, -, X3, ⟨Lc3, hQ3, l3, y3, z3⟩, st3⟩ := Jvm.LawKit.callS X2 hx (y := (⟨"com/example/wheelwise/wheelwise/Arguments", "requireFiniteNonZero", "(DLjava/lang/String;)D"⟩ : MethodName)) ho2 (mvT hZ2 (hw _ (List.mem_of_getElem? (i := 22) rfl))) (mvT hZ2 (hw _ (List.mem_of_getElem? (i := 23) rfl))) (mvT hZ2 (hw _ (List.mem_of_getElem? (i := 24) rfl))) (mvT hZ2 (hw _ (List.mem_of_getElem? (i := 25) rfl))) (by decide) (backOf (W := 1) (rmfin l Z a0 hw [] x sa h2 n0 Zs2 (hm.fin (by decide)) hz) hZ2 (hw _ (List.mem_of_getElem? (i := 25) rfl)) (hw _ (List.mem_of_getElem? (i := 24) rfl)) (by decide) (by decide)) (g := (mkF m 8 #[.val (.ref a), .val (.double x), .second, .val (.long n), .second] [(.ref sa), (.double x), (.ref a)])) rfl (by rw [hml]; rfl) (argsL := [(.double x), (.ref sa)]) (rest := [(.ref a)]) (lenOf pd_ds rfl) rfl (by show 2 * 0 + _ ≤ _; exact Nat.le_of_eq rfl) (hb hby dini_8) (fun _ _ => ⟨rfl, e2, (by decide : 2 + 0 ≤ _), (by decide : 72 + 0 ≤ _)⟩)
  dsimp only [Pt.U, Pt.locs, Pt.cells, Pt.slots] at X3 l3 y3 z3 st3 hQ3
  subst l3 y3 z3
  obtain ⟨rfl, M3, u3⟩ := hQ3
  have N3 := Fr.app N0 M3
  obtain ⟨T4, h4, X4, e4, W4, st4⟩ := putF X3 hx hZ2 ho2 (host := "") (Or.inl (hw _ (List.mem_of_getElem? (i := 37) rfl))) Via.refl u3 fx2_0 xx2 (Or.inr ⟨(hw _ (List.mem_of_getElem? (i := 38) rfl)), rfl, hnm⟩) (hw _ (List.mem_of_getElem? (i := 6) rfl)) (ty := .double) (by decide) rfl rfl (g := (mkF m 11 #[.val (.ref a), .val (.double x), .second, .val (.long n), .second] [(.double x), (.ref a)])) rfl rfl (hb hby dini_11)
  have N4 := Fr.snoc X4 N3 ga
  have fp4_0 : Fld Z h4 a "com/example/wheelwise/wheelwise/IncrementalEncoder" "distancePerTurn" "D" (.double x) := (fx2_0.same W4)
  have fp4_1 : Fld Z h4 a "com/example/wheelwise/wheelwise/IncrementalEncoder" "countsPerTurn" "J" (.long (0 : Int64)) := (fx2_1.other W4 (Or.inr (slot_ne (Or.inr (hw _ (List.mem_of_getElem? (i := 44) rfl))) (Or.inr (hw _ (List.mem_of_getElem? (i := 38) rfl))) (by decide) (t := .long) (t' := .double) (by decide) (by decide))))
  have fp4_2 : Fld Z h4 a "com/example/wheelwise/wheelwise/IncrementalEncoder" "hasPrevious" "Z" (.int (0 : Int32)) := (fx2_2.other W4 (Or.inr (slot_ne (Or.inl (hw _ (List.mem_of_getElem? (i := 53) rfl))) (Or.inr (hw _ (List.mem_of_getElem? (i := 38) rfl))) (by decide) (t := .boolean) (t' := .double) (by decide) (by decide))))
  have fp4_3 : Fld Z h4 a "com/example/wheelwise/wheelwise/IncrementalEncoder" "total" "J" (.long (0 : Int64)) := (fx2_3.other W4 (Or.inr (slot_ne (Or.inl (hw _ (List.mem_of_getElem? (i := 57) rfl))) (Or.inr (hw _ (List.mem_of_getElem? (i := 38) rfl))) (by decide) (t := .long) (t' := .double) (by decide) (by decide))))
  have fp4_4 : Fld Z h4 a "com/example/wheelwise/wheelwise/IncrementalEncoder" "previous" "J" (.long (0 : Int64)) := (fx2_4.other W4 (Or.inr (slot_ne (Or.inl (hw _ (List.mem_of_getElem? (i := 55) rfl))) (Or.inr (hw _ (List.mem_of_getElem? (i := 38) rfl))) (by decide) (t := .long) (t' := .double) (by decide) (by decide))))
  have xp4 : Exa Z h4 a "com/example/wheelwise/wheelwise/IncrementalEncoder" := (xx2.wr W4)
  have Kp4 : Keep h0 h4 [a] := (Kx2.wr W4 (Or.inl (List.mem_of_getElem? (i := 0) rfl)))
  have kk4 : k2 ≤ h4.size := by rw [W4.size]; exact kl2
  obtain ⟨sb, T5, h5, k5, X5, e5, E5, S5, kl5, hZ5, ho5, st5⟩ := ldcS (s := s) X4 hx hZ2 ho2 (hw _ (List.mem_of_getElem? (i := 39) rfl)) hStr e4 S2 kk4 (g := (mkF m 16 #[.val (.ref a), .val (.double x), .second, .val (.long n), .second] [(.long n), (.ref a)])) rfl (hb hby dini_16) (n := 60) (by decide) (by decide) (by decide) (by decide)
  have fx5_0 : Fld Z h5 a "com/example/wheelwise/wheelwise/IncrementalEncoder" "distancePerTurn" "D" (.double x) := (fp4_0.ext E5)
  have fx5_1 : Fld Z h5 a "com/example/wheelwise/wheelwise/IncrementalEncoder" "countsPerTurn" "J" (.long (0 : Int64)) := (fp4_1.ext E5)
  have fx5_2 : Fld Z h5 a "com/example/wheelwise/wheelwise/IncrementalEncoder" "hasPrevious" "Z" (.int (0 : Int32)) := (fp4_2.ext E5)
  have fx5_3 : Fld Z h5 a "com/example/wheelwise/wheelwise/IncrementalEncoder" "total" "J" (.long (0 : Int64)) := (fp4_3.ext E5)
  have fx5_4 : Fld Z h5 a "com/example/wheelwise/wheelwise/IncrementalEncoder" "previous" "J" (.long (0 : Int64)) := (fp4_4.ext E5)
  have xx5 : Exa Z h5 a "com/example/wheelwise/wheelwise/IncrementalEncoder" := (xp4.ext E5)
  have Kx5 : Keep h0 h5 [a] := (Kp4.ext E5)
  have Zs5 : n0 ≤ h5.size := Nat.le_trans Z0 Kx5.1
  obtain ⟨_, _, ⟨T6, L6, k6, n6⟩, -, X6, ⟨Lc6, hQ6, l6, y6, z6⟩, st6⟩ := Jvm.LawKit.callS X5 hx (y := (⟨"com/example/wheelwise/wheelwise/Arguments", "requirePositive", "(JLjava/lang/String;)J"⟩ : MethodName)) ho5 (mvT hZ5 (hw _ (List.mem_of_getElem? (i := 40) rfl))) (mvT hZ5 (hw _ (List.mem_of_getElem? (i := 41) rfl))) (mvT hZ5 (hw _ (List.mem_of_getElem? (i := 24) rfl))) (mvT hZ5 (hw _ (List.mem_of_getElem? (i := 42) rfl))) (by decide) (backOf (W := 1) (rmrps l Z a0 hw [] n sb h5 n0 Zs5 hn) hZ5 (hw _ (List.mem_of_getElem? (i := 42) rfl)) (hw _ (List.mem_of_getElem? (i := 24) rfl)) (by decide) (by decide)) (g := (mkF m 18 #[.val (.ref a), .val (.double x), .second, .val (.long n), .second] [(.ref sb), (.long n), (.ref a)])) rfl (by rw [hml]; rfl) (argsL := [(.long n), (.ref sb)]) (rest := [(.ref a)]) (lenOf pd_js rfl) rfl (by show 2 * 0 + _ ≤ _; exact Nat.le_of_eq rfl) (hb hby dini_18) (fun _ _ => ⟨rfl, e5, (by decide : 4 + 0 ≤ _), (by decide : 136 + 0 ≤ _)⟩)
  dsimp only [Pt.U, Pt.locs, Pt.cells, Pt.slots] at X6 l6 y6 z6 st6 hQ6
  subst l6 y6 z6
  obtain ⟨rfl, M6, u6⟩ := hQ6
  have N6 := Fr.app N4 M6
  obtain ⟨T7, h7, X7, e7, W7, st7⟩ := putF X6 hx hZ5 ho5 (host := "") (Or.inl (hw _ (List.mem_of_getElem? (i := 43) rfl))) Via.refl u6 fx5_1 xx5 (Or.inr ⟨(hw _ (List.mem_of_getElem? (i := 44) rfl)), rfl, hnm⟩) (hw _ (List.mem_of_getElem? (i := 6) rfl)) (ty := .long) (by decide) rfl rfl (g := (mkF m 21 #[.val (.ref a), .val (.double x), .second, .val (.long n), .second] [(.long n), (.ref a)])) rfl rfl (hb hby dini_21)
  have N7 := Fr.snoc X7 N6 ga
  have fp7_0 : Fld Z h7 a "com/example/wheelwise/wheelwise/IncrementalEncoder" "distancePerTurn" "D" (.double x) := (fx5_0.other W7 (Or.inr (slot_ne (Or.inr (hw _ (List.mem_of_getElem? (i := 38) rfl))) (Or.inr (hw _ (List.mem_of_getElem? (i := 44) rfl))) (by decide) (t := .double) (t' := .long) (by decide) (by decide))))
  have fp7_1 : Fld Z h7 a "com/example/wheelwise/wheelwise/IncrementalEncoder" "countsPerTurn" "J" (.long n) := (fx5_1.same W7)
  have fp7_2 : Fld Z h7 a "com/example/wheelwise/wheelwise/IncrementalEncoder" "hasPrevious" "Z" (.int (0 : Int32)) := (fx5_2.other W7 (Or.inr (slot_ne (Or.inl (hw _ (List.mem_of_getElem? (i := 53) rfl))) (Or.inr (hw _ (List.mem_of_getElem? (i := 44) rfl))) (by decide) (t := .boolean) (t' := .long) (by decide) (by decide))))
  have fp7_3 : Fld Z h7 a "com/example/wheelwise/wheelwise/IncrementalEncoder" "total" "J" (.long (0 : Int64)) := (fx5_3.other W7 (Or.inr (slot_ne (Or.inl (hw _ (List.mem_of_getElem? (i := 57) rfl))) (Or.inr (hw _ (List.mem_of_getElem? (i := 44) rfl))) (by decide) (t := .long) (t' := .long) (by decide) (by decide))))
  have fp7_4 : Fld Z h7 a "com/example/wheelwise/wheelwise/IncrementalEncoder" "previous" "J" (.long (0 : Int64)) := (fx5_4.other W7 (Or.inr (slot_ne (Or.inl (hw _ (List.mem_of_getElem? (i := 55) rfl))) (Or.inr (hw _ (List.mem_of_getElem? (i := 44) rfl))) (by decide) (t := .long) (t' := .long) (by decide) (by decide))))
  have xp7 : Exa Z h7 a "com/example/wheelwise/wheelwise/IncrementalEncoder" := (xx5.wr W7)
  have Kp7 : Keep h0 h7 [a] := (Kx5.wr W7 (Or.inl (List.mem_of_getElem? (i := 0) rfl)))
  have Zt : n0 ≤ h7.size := Nat.le_trans Z0 Kp7.1
  obtain ⟨_, _, ⟨T8, L8, k8, n8⟩, -, X8, ⟨Lc8, hQ8, l8, y8, z8⟩, st8⟩ := Jvm.LawKit.callS X7 hx (y := (⟨"java/lang/Double", "isInfinite", "(D)Z"⟩ : MethodName)) ho5 (mvT hZ5 (hw _ (List.mem_of_getElem? (i := 46) rfl))) (mvT hZ5 (hw _ (List.mem_of_getElem? (i := 31) rfl))) (mvT hZ5 (hw _ (List.mem_of_getElem? (i := 28) rfl))) (mvT hZ5 (hw _ (List.mem_of_getElem? (i := 32) rfl))) (by decide) (backOf (W := 0) (rminf l Z a0 hw [] (FP.dmul (14114281232179134464 : UInt64) x) h7 n0 Zt (own_cfin hm)) hZ5 (hw _ (List.mem_of_getElem? (i := 32) rfl)) (hw _ (List.mem_of_getElem? (i := 28) rfl)) (by decide) (by decide)) (g := (mkF m 29 #[.val (.ref a), .val (.double x), .second, .val (.long n), .second] [(.double (FP.dmul (14114281232179134464 : UInt64) x))])) rfl (by rw [hml]; rfl) (argsL := [(.double (FP.dmul (14114281232179134464 : UInt64) x))]) (rest := []) (lenOf pd_dz rfl) rfl (by show 2 * 0 + _ ≤ _; exact Nat.le_of_eq rfl) (hb hby dini_29) (fun _ _ => ⟨rfl, e7, (by decide : 4 + 0 ≤ _), (by decide : 136 + 0 ≤ _)⟩)
  dsimp only [Pt.U, Pt.locs, Pt.cells, Pt.slots] at X8 l8 y8 z8 st8 hQ8
  subst l8 y8 z8
  obtain ⟨rfl, M8, u8⟩ := hQ8
  have N8 := Fr.app N7 M8
  have hle : k5 ≤ T8.heap.size := by rw [u8, W7.size]; exact kl5
  obtain ⟨fs, hr, hrun, hended, hRW⟩ := X8.leaveW S5 hle (v := none) (fun _ => rfl)
  refine ⟨_, _, pre0 _ ?_, hrun, hended, _, _, rfl, ?_, hRW⟩
  · show Steps p.tables e below (s₁.setTop (mkF m 0 #[.val (.ref a), .val (.double x), .second, .val (.long n), .second] [])) _
    refine XS.aloadN X0.here hx rfl (hb hby dini_0) rfl rfl ?_
    show Steps p.tables e below (s₁.setTop (mkF m 1 #[.val (.ref a), .val (.double x), .second, .val (.long n), .second] [(.ref a)])) _
    refine st1 _ ?_
    show Steps p.tables e below (T1.setTop (mkF m 4 #[.val (.ref a), .val (.double x), .second, .val (.long n), .second] [])) _
    refine XS.aloadN X1.here hx rfl (hb hby dini_4) rfl rfl ?_
    show Steps p.tables e below (T1.setTop (mkF m 5 #[.val (.ref a), .val (.double x), .second, .val (.long n), .second] [(.ref a)])) _
    refine XS.dloadN X1.here hx rfl (hb hby dini_5) rfl ?_
    show Steps p.tables e below (T1.setTop (mkF m 6 #[.val (.ref a), .val (.double x), .second, .val (.long n), .second] [(.double x), (.ref a)])) _
    refine st2 _ ?_
    show Steps p.tables e below (T2.setTop (mkF m 8 #[.val (.ref a), .val (.double x), .second, .val (.long n), .second] [(.ref sa), (.double x), (.ref a)])) _
    refine st3 _ ?_
    show Steps p.tables e below (T3.setTop (mkF m 11 #[.val (.ref a), .val (.double x), .second, .val (.long n), .second] [(.double x), (.ref a)])) _
    refine st4 _ ?_
    show Steps p.tables e below (T4.setTop (mkF m 14 #[.val (.ref a), .val (.double x), .second, .val (.long n), .second] [])) _
    refine XS.aloadN X4.here hx rfl (hb hby dini_14) rfl rfl ?_
    show Steps p.tables e below (T4.setTop (mkF m 15 #[.val (.ref a), .val (.double x), .second, .val (.long n), .second] [(.ref a)])) _
    refine XS.lloadN X4.here hx rfl (hb hby dini_15) rfl ?_
    show Steps p.tables e below (T4.setTop (mkF m 16 #[.val (.ref a), .val (.double x), .second, .val (.long n), .second] [(.long n), (.ref a)])) _
    refine st5 _ ?_
    show Steps p.tables e below (T5.setTop (mkF m 18 #[.val (.ref a), .val (.double x), .second, .val (.long n), .second] [(.ref sb), (.long n), (.ref a)])) _
    refine st6 _ ?_
    show Steps p.tables e below (T6.setTop (mkF m 21 #[.val (.ref a), .val (.double x), .second, .val (.long n), .second] [(.long n), (.ref a)])) _
    refine st7 _ ?_
    show Steps p.tables e below (T7.setTop (mkF m 24 #[.val (.ref a), .val (.double x), .second, .val (.long n), .second] [])) _
    refine X7.ldc2DoubleC hx ho5 (mvT hZ5 (hw _ (List.mem_of_getElem? (i := 45) rfl))) (g := (mkF m 24 #[.val (.ref a), .val (.double x), .second, .val (.long n), .second] [])) rfl (hb hby dini_24) _ ?_
    show Steps p.tables e below (T7.setTop (mkF m 27 #[.val (.ref a), .val (.double x), .second, .val (.long n), .second] [(.double (14114281232179134464 : UInt64))])) _
    refine XS.dloadN X7.here hx rfl (hb hby dini_27) rfl ?_
    show Steps p.tables e below (T7.setTop (mkF m 28 #[.val (.ref a), .val (.double x), .second, .val (.long n), .second] [(.double x), (.double (14114281232179134464 : UInt64))])) _
    refine XS.dmulS X7.here hx rfl (hb hby dini_28) rfl (dmul_out (own_cmag.fin (by decide)) (hm.fin (by decide))) rfl ?_
    show Steps p.tables e below (T7.setTop (mkF m 29 #[.val (.ref a), .val (.double x), .second, .val (.long n), .second] [(.double (FP.dmul (14114281232179134464 : UInt64) x))])) _
    refine st8 _ ?_
    show Steps p.tables e below (T8.setTop (mkF m 32 #[.val (.ref a), .val (.double x), .second, .val (.long n), .second] [(.int (0 : Int32))])) _
    refine XS.ifYes X8.here hx rfl (pc0 := 32) (pc' := 49) rfl (hb hby dini_32) rfl ((if0 _ _).trans (teq (rfl : (0 : Int32) = (0 : Int32))).1) (by decide) (by decide) ?_
    show Steps p.tables e below (T8.setTop (mkF m 49 #[.val (.ref a), .val (.double x), .second, .val (.long n), .second] [])) _
    exact X8.returnOut hx Bd.returns (hb hby dini_49) hr
  · show Qini Z a x n h0 n0 _ T8.heap _
    rw [u8]
    exact ⟨rfl, N8, Kp7, xp7, fp7_0, fp7_1, fp7_2, fp7_3, fp7_4⟩
theorem ef_upd (m : MethodId) (x0 : Addr) (x1 : Int64) : entryFrame m #[(.ref x0), (.long x1)] 3 = mkF m 0 #[.val (.ref x0), .val (.long x1), .second] [] := by first | (simp [entryFrame, mkF, argsToLocals, Value.category]; done) | rfl
def Qupf (Z : State) (a : Addr) (c1 : Int64) (x : UInt64) (n : Int64) (t : Int64) (p0 : Int64) (h0 : Heap) (n0 : Nat) (v : Option Value) (h : Heap) (L : List Loc) : Prop := v = some (.double (own_pos t x n)) ∧ Fr n0 L ∧ Keep h0 h [a] ∧ Exa Z h a "com/example/wheelwise/wheelwise/IncrementalEncoder" ∧ Fld Z h a "com/example/wheelwise/wheelwise/IncrementalEncoder" "distancePerTurn" "D" (.double x) ∧ Fld Z h a "com/example/wheelwise/wheelwise/IncrementalEncoder" "countsPerTurn" "J" (.long n) ∧ Fld Z h a "com/example/wheelwise/wheelwise/IncrementalEncoder" "hasPrevious" "Z" (.int (1 : Int32)) ∧ Fld Z h a "com/example/wheelwise/wheelwise/IncrementalEncoder" "total" "J" (.long t) ∧ Fld Z h a "com/example/wheelwise/wheelwise/IncrementalEncoder" "previous" "J" (.long c1)
set_option maxRecDepth 65536 in
set_option maxHeartbeats 40000000 in
theorem rmupf (l : Launch) (Z : State) (a0 : Array Value) (hw : ∀ d ∈ tables_1, d.before a0 Z = true) (ws : List Jvm.Cond) (a : Addr) (c1 : Int64) (x : UInt64) (n : Int64) (t : Int64) (p0 : Int64) (h0 : Heap) (n0 : Nat) (Z0 : n0 ≤ h0.size) (F0 : Fld Z h0 a "com/example/wheelwise/wheelwise/IncrementalEncoder" "distancePerTurn" "D" (.double x)) (F1 : Fld Z h0 a "com/example/wheelwise/wheelwise/IncrementalEncoder" "countsPerTurn" "J" (.long n)) (F2 : Fld Z h0 a "com/example/wheelwise/wheelwise/IncrementalEncoder" "hasPrevious" "Z" (.int (0 : Int32))) (F3 : Fld Z h0 a "com/example/wheelwise/wheelwise/IncrementalEncoder" "total" "J" (.long t)) (F4 : Fld Z h0 a "com/example/wheelwise/wheelwise/IncrementalEncoder" "previous" "J" (.long p0)) (E0 : Exa Z h0 a "com/example/wheelwise/wheelwise/IncrementalEncoder") (ga : n0 ≤ a) (hm : Mag64 1056 x) (hn : n ≠ 0) :
    MetFree l (⟨"com/example/wheelwise/wheelwise/IncrementalEncoder", "update", "(J)D"⟩ : MethodName) (head1 (Jvm.Cond.code (⟨"com/example/wheelwise/wheelwise/IncrementalEncoder", "update", "(J)D"⟩ : MethodName) prog_6_method_2_code 3 (some .double) :: ws) ({ frames := 0, cells := 0, slots := 0, locals := 0 } : Room)) (fun aa U => aa = #[(.ref a), (.long c1)] ∧ Z.Warmed39 U.vm ∧ U.heap = h0) (fun _ _ _ _ _ => True) (fun _ U o U' => ∃ v L, o = .returned v ∧ Qupf Z a c1 x n t p0 h0 n0 v U'.heap L ∧ FrameEnd U o U' L ({ frames := 0, cells := 0, slots := 0, locals := 0 } : Room).cells ({ frames := 0, cells := 0, slots := 0, locals := 0 } : Room).slots) := by
  refine MetFree.of_bodySF (plainFor_of_name pn_enc) hisR ?_
  intro p e s m args below meth c s₁ Bd hml0 hP hK
  obtain ⟨rfl, hZ, hh⟩ := hP
  have hx := Bd.exec
  have hby := Bd.bytes
  have hml : c.maxLocals = 3 := hml0
  have hown : s.vm.findClass "com/example/wheelwise/wheelwise/IncrementalEncoder" = some m.cls := findClass_of_methodNamed Bd.named
  have hnm := (name_of_methodNamed Bd.named Bd.method).1
  have X0 : Stand p l e ({ frames := 0, cells := 0, slots := 0, locals := 0 } : Room) s m #[(.ref a), (.long c1)] below meth c s₁ [] 0 0 := Stand.of_body Bd
  have e0 : s₁.heap = h0 := by rw [← hh, Bd.state]; rfl
  have N0 := Fr.nil n0
  have pre0 : ∀ tt, Steps p.tables e below (s₁.setTop (mkF m 0 #[.val (.ref a), .val (.long c1), .second] [])) tt → Steps p.tables e below (s₁.setTop (entryFrame m #[(.ref a), (.long c1)] 3)) tt := fun tt k => castTop (ef_upd m a c1) k
  obtain ⟨T1, X1, e1, st1⟩ := getF X0 hx hZ hown (host := "") (Or.inl (hw _ (List.mem_of_getElem? (i := 52) rfl))) Via.refl e0 F2 (g := (mkF m 1 #[.val (.ref a), .val (.long c1), .second] [(.ref a)])) rfl rfl (hb hby dupd_1)
  obtain ⟨T2, h2, X2, e2, W2, st2⟩ := putF X1 hx hZ hown (host := "") (Or.inl (hw _ (List.mem_of_getElem? (i := 54) rfl))) Via.refl e1 F4 E0 (Or.inl (hw _ (List.mem_of_getElem? (i := 55) rfl))) (hw _ (List.mem_of_getElem? (i := 6) rfl)) (ty := .long) (by decide) rfl rfl (g := (mkF m 26 #[.val (.ref a), .val (.long c1), .second] [(.long c1), (.ref a)])) rfl rfl (hb hby dupd_26)
  have N2 := Fr.snoc X2 N0 ga
  have fp2_0 : Fld Z h2 a "com/example/wheelwise/wheelwise/IncrementalEncoder" "distancePerTurn" "D" (.double x) := (F0.other W2 (Or.inr (slot_ne (Or.inr (hw _ (List.mem_of_getElem? (i := 38) rfl))) (Or.inl (hw _ (List.mem_of_getElem? (i := 55) rfl))) (by decide) (t := .double) (t' := .long) (by decide) (by decide))))
  have fp2_1 : Fld Z h2 a "com/example/wheelwise/wheelwise/IncrementalEncoder" "countsPerTurn" "J" (.long n) := (F1.other W2 (Or.inr (slot_ne (Or.inr (hw _ (List.mem_of_getElem? (i := 44) rfl))) (Or.inl (hw _ (List.mem_of_getElem? (i := 55) rfl))) (by decide) (t := .long) (t' := .long) (by decide) (by decide))))
  have fp2_2 : Fld Z h2 a "com/example/wheelwise/wheelwise/IncrementalEncoder" "hasPrevious" "Z" (.int (0 : Int32)) := (F2.other W2 (Or.inr (slot_ne (Or.inl (hw _ (List.mem_of_getElem? (i := 53) rfl))) (Or.inl (hw _ (List.mem_of_getElem? (i := 55) rfl))) (by decide) (t := .boolean) (t' := .long) (by decide) (by decide))))
  have fp2_3 : Fld Z h2 a "com/example/wheelwise/wheelwise/IncrementalEncoder" "total" "J" (.long t) := (F3.other W2 (Or.inr (slot_ne (Or.inl (hw _ (List.mem_of_getElem? (i := 57) rfl))) (Or.inl (hw _ (List.mem_of_getElem? (i := 55) rfl))) (by decide) (t := .long) (t' := .long) (by decide) (by decide))))
  have fp2_4 : Fld Z h2 a "com/example/wheelwise/wheelwise/IncrementalEncoder" "previous" "J" (.long c1) := (F4.same W2)
  have xp2 : Exa Z h2 a "com/example/wheelwise/wheelwise/IncrementalEncoder" := (E0.wr W2)
  have Kp2 : Keep h0 h2 [a] := ((Keep.refl h0 [a]).wr W2 (Or.inl (List.mem_of_getElem? (i := 0) rfl)))
  obtain ⟨T3, h3, X3, e3, W3, st3⟩ := putFN X2 hx hZ hown (hw _ (List.mem_of_getElem? (i := 52) rfl)) Via.refl e2 fp2_2 xp2 (Or.inl (hw _ (List.mem_of_getElem? (i := 53) rfl))) (hw _ (List.mem_of_getElem? (i := 6) rfl)) (ty := .boolean) (v' := (.int (1 : Int32))) (by decide) rfl (by decide) (g := (mkF m 31 #[.val (.ref a), .val (.long c1), .second] [(.int (1 : Int32)), (.ref a)])) rfl rfl (hb hby dupd_31)
  have N3 := Fr.snoc X3 N2 ga
  have fp3_0 : Fld Z h3 a "com/example/wheelwise/wheelwise/IncrementalEncoder" "distancePerTurn" "D" (.double x) := (fp2_0.other W3 (Or.inr (slot_ne (Or.inr (hw _ (List.mem_of_getElem? (i := 38) rfl))) (Or.inl (hw _ (List.mem_of_getElem? (i := 53) rfl))) (by decide) (t := .double) (t' := .boolean) (by decide) (by decide))))
  have fp3_1 : Fld Z h3 a "com/example/wheelwise/wheelwise/IncrementalEncoder" "countsPerTurn" "J" (.long n) := (fp2_1.other W3 (Or.inr (slot_ne (Or.inr (hw _ (List.mem_of_getElem? (i := 44) rfl))) (Or.inl (hw _ (List.mem_of_getElem? (i := 53) rfl))) (by decide) (t := .long) (t' := .boolean) (by decide) (by decide))))
  have fp3_2 : Fld Z h3 a "com/example/wheelwise/wheelwise/IncrementalEncoder" "hasPrevious" "Z" (.int (1 : Int32)) := (fp2_2.same W3)
  have fp3_3 : Fld Z h3 a "com/example/wheelwise/wheelwise/IncrementalEncoder" "total" "J" (.long t) := (fp2_3.other W3 (Or.inr (slot_ne (Or.inl (hw _ (List.mem_of_getElem? (i := 57) rfl))) (Or.inl (hw _ (List.mem_of_getElem? (i := 53) rfl))) (by decide) (t := .long) (t' := .boolean) (by decide) (by decide))))
  have fp3_4 : Fld Z h3 a "com/example/wheelwise/wheelwise/IncrementalEncoder" "previous" "J" (.long c1) := (fp2_4.other W3 (Or.inr (slot_ne (Or.inl (hw _ (List.mem_of_getElem? (i := 55) rfl))) (Or.inl (hw _ (List.mem_of_getElem? (i := 53) rfl))) (by decide) (t := .long) (t' := .boolean) (by decide) (by decide))))
  have xp3 : Exa Z h3 a "com/example/wheelwise/wheelwise/IncrementalEncoder" := (xp2.wr W3)
  have Kp3 : Keep h0 h3 [a] := (Kp2.wr W3 (Or.inl (List.mem_of_getElem? (i := 0) rfl)))
  obtain ⟨T4, X4, e4, st4⟩ := getF X3 hx hZ hown (host := "") (Or.inl (hw _ (List.mem_of_getElem? (i := 56) rfl))) Via.refl e3 fp3_3 (g := (mkF m 35 #[.val (.ref a), .val (.long c1), .second] [(.ref a)])) rfl rfl (hb hby dupd_35)
  obtain ⟨T5, X5, e5, st5⟩ := getF X4 hx hZ hown (host := "") (Or.inl (hw _ (List.mem_of_getElem? (i := 37) rfl))) Via.refl e4 fp3_0 (g := (mkF m 40 #[.val (.ref a), .val (.long c1), .second] [(.ref a), (.double (FP.l2d t))])) rfl rfl (hb hby dupd_40)
  obtain ⟨T6, X6, e6, st6⟩ := getF X5 hx hZ hown (host := "") (Or.inl (hw _ (List.mem_of_getElem? (i := 43) rfl))) Via.refl e5 fp3_1 (g := (mkF m 45 #[.val (.ref a), .val (.long c1), .second] [(.ref a), (.double (FP.dmul (FP.l2d t) x))])) rfl rfl (hb hby dupd_45)
  obtain ⟨fs, hr, hrun, hended, hW, hsame⟩ := X6.leave (v := some (.double (own_pos t x n))) (fun h => by rw [Bd.returns] at h; cases h)
  refine ⟨_, _, pre0 _ ?_, hrun, hended, _, _, rfl, ?_, ⟨_, rfl⟩, hW, hsame.mono (by decide) (by decide)⟩
  · show Steps p.tables e below (s₁.setTop (mkF m 0 #[.val (.ref a), .val (.long c1), .second] [])) _
    refine XS.aloadN X0.here hx rfl (hb hby dupd_0) rfl rfl ?_
    show Steps p.tables e below (s₁.setTop (mkF m 1 #[.val (.ref a), .val (.long c1), .second] [(.ref a)])) _
    refine st1 _ ?_
    show Steps p.tables e below (T1.setTop (mkF m 4 #[.val (.ref a), .val (.long c1), .second] [(.int (0 : Int32))])) _
    refine XS.ifYes X1.here hx rfl (pc0 := 4) (pc' := 24) rfl (hb hby dupd_4) rfl ((if0 _ _).trans (teq (rfl : (0 : Int32) = (0 : Int32))).1) (by decide) (by decide) ?_
    show Steps p.tables e below (T1.setTop (mkF m 24 #[.val (.ref a), .val (.long c1), .second] [])) _
    refine XS.aloadN X1.here hx rfl (hb hby dupd_24) rfl rfl ?_
    show Steps p.tables e below (T1.setTop (mkF m 25 #[.val (.ref a), .val (.long c1), .second] [(.ref a)])) _
    refine XS.lloadN X1.here hx rfl (hb hby dupd_25) rfl ?_
    show Steps p.tables e below (T1.setTop (mkF m 26 #[.val (.ref a), .val (.long c1), .second] [(.long c1), (.ref a)])) _
    refine st2 _ ?_
    show Steps p.tables e below (T2.setTop (mkF m 29 #[.val (.ref a), .val (.long c1), .second] [])) _
    refine XS.aloadN X2.here hx rfl (hb hby dupd_29) rfl rfl ?_
    show Steps p.tables e below (T2.setTop (mkF m 30 #[.val (.ref a), .val (.long c1), .second] [(.ref a)])) _
    refine XS.iconst X2.here hx rfl (hb hby dupd_30) ?_
    show Steps p.tables e below (T2.setTop (mkF m 31 #[.val (.ref a), .val (.long c1), .second] [(.int (1 : Int32)), (.ref a)])) _
    refine st3 _ ?_
    show Steps p.tables e below (T3.setTop (mkF m 34 #[.val (.ref a), .val (.long c1), .second] [])) _
    refine XS.aloadN X3.here hx rfl (hb hby dupd_34) rfl rfl ?_
    show Steps p.tables e below (T3.setTop (mkF m 35 #[.val (.ref a), .val (.long c1), .second] [(.ref a)])) _
    refine st4 _ ?_
    show Steps p.tables e below (T4.setTop (mkF m 38 #[.val (.ref a), .val (.long c1), .second] [(.long t)])) _
    refine XS.l2dS X4.here hx rfl (hb hby dupd_38) rfl rfl ?_
    show Steps p.tables e below (T4.setTop (mkF m 39 #[.val (.ref a), .val (.long c1), .second] [(.double (FP.l2d t))])) _
    refine XS.aloadN X4.here hx rfl (hb hby dupd_39) rfl rfl ?_
    show Steps p.tables e below (T4.setTop (mkF m 40 #[.val (.ref a), .val (.long c1), .second] [(.ref a), (.double (FP.l2d t))])) _
    refine st5 _ ?_
    show Steps p.tables e below (T5.setTop (mkF m 43 #[.val (.ref a), .val (.long c1), .second] [(.double x), (.double (FP.l2d t))])) _
    refine XS.dmulS X5.here hx rfl (hb hby dupd_43) rfl (own_nm hm t) rfl ?_
    show Steps p.tables e below (T5.setTop (mkF m 44 #[.val (.ref a), .val (.long c1), .second] [(.double (FP.dmul (FP.l2d t) x))])) _
    refine XS.aloadN X5.here hx rfl (hb hby dupd_44) rfl rfl ?_
    show Steps p.tables e below (T5.setTop (mkF m 45 #[.val (.ref a), .val (.long c1), .second] [(.ref a), (.double (FP.dmul (FP.l2d t) x))])) _
    refine st6 _ ?_
    show Steps p.tables e below (T6.setTop (mkF m 48 #[.val (.ref a), .val (.long c1), .second] [(.long n), (.double (FP.dmul (FP.l2d t) x))])) _
    refine XS.l2dS X6.here hx rfl (hb hby dupd_48) rfl rfl ?_
    show Steps p.tables e below (T6.setTop (mkF m 49 #[.val (.ref a), .val (.long c1), .second] [(.double (FP.l2d n)), (.double (FP.dmul (FP.l2d t) x))])) _
    refine XS.ddivS X6.here hx rfl (hb hby dupd_49) rfl (own_nd hm hn t) rfl ?_
    show Steps p.tables e below (T6.setTop (mkF m 50 #[.val (.ref a), .val (.long c1), .second] [(.double (own_pos t x n))])) _
    exact retOut X6 hx Bd.returns rfl (Or.inr (Or.inr (Or.inl ⟨rfl, rfl, _, rfl⟩))) (hb hby dupd_50) hr
  · show Qupf Z a c1 x n t p0 h0 n0 _ T6.heap _
    rw [e6]
    exact ⟨rfl, N3, Kp3, xp3, fp3_0, fp3_1, fp3_2, fp3_3, fp3_4⟩
def Qupa (Z : State) (a : Addr) (c1 : Int64) (x : UInt64) (n : Int64) (t : Int64) (p0 : Int64) (h0 : Heap) (n0 : Nat) (v : Option Value) (h : Heap) (L : List Loc) : Prop := v = some (.double (own_pos (t + ((c1 - p0)).toInt32.toInt64) x n)) ∧ Fr n0 L ∧ Keep h0 h [a] ∧ Exa Z h a "com/example/wheelwise/wheelwise/IncrementalEncoder" ∧ Fld Z h a "com/example/wheelwise/wheelwise/IncrementalEncoder" "distancePerTurn" "D" (.double x) ∧ Fld Z h a "com/example/wheelwise/wheelwise/IncrementalEncoder" "countsPerTurn" "J" (.long n) ∧ Fld Z h a "com/example/wheelwise/wheelwise/IncrementalEncoder" "hasPrevious" "Z" (.int (1 : Int32)) ∧ Fld Z h a "com/example/wheelwise/wheelwise/IncrementalEncoder" "total" "J" (.long (t + ((c1 - p0)).toInt32.toInt64)) ∧ Fld Z h a "com/example/wheelwise/wheelwise/IncrementalEncoder" "previous" "J" (.long c1)
set_option maxRecDepth 65536 in
set_option maxHeartbeats 40000000 in
theorem rmupa (l : Launch) (Z : State) (a0 : Array Value) (hw : ∀ d ∈ tables_1, d.before a0 Z = true) (ws : List Jvm.Cond) (a : Addr) (c1 : Int64) (x : UInt64) (n : Int64) (t : Int64) (p0 : Int64) (h0 : Heap) (n0 : Nat) (Z0 : n0 ≤ h0.size) (F0 : Fld Z h0 a "com/example/wheelwise/wheelwise/IncrementalEncoder" "distancePerTurn" "D" (.double x)) (F1 : Fld Z h0 a "com/example/wheelwise/wheelwise/IncrementalEncoder" "countsPerTurn" "J" (.long n)) (F2 : Fld Z h0 a "com/example/wheelwise/wheelwise/IncrementalEncoder" "hasPrevious" "Z" (.int (1 : Int32))) (F3 : Fld Z h0 a "com/example/wheelwise/wheelwise/IncrementalEncoder" "total" "J" (.long t)) (F4 : Fld Z h0 a "com/example/wheelwise/wheelwise/IncrementalEncoder" "previous" "J" (.long p0)) (E0 : Exa Z h0 a "com/example/wheelwise/wheelwise/IncrementalEncoder") (ga : n0 ≤ a) (hm : Mag64 1056 x) (hn : n ≠ 0) :
    MetFree l (⟨"com/example/wheelwise/wheelwise/IncrementalEncoder", "update", "(J)D"⟩ : MethodName) (head1 (Jvm.Cond.code (⟨"com/example/wheelwise/wheelwise/IncrementalEncoder", "update", "(J)D"⟩ : MethodName) prog_6_method_2_code 3 (some .double) :: ws) ({ frames := 0, cells := 0, slots := 0, locals := 0 } : Room)) (fun aa U => aa = #[(.ref a), (.long c1)] ∧ Z.Warmed39 U.vm ∧ U.heap = h0) (fun _ _ _ _ _ => True) (fun _ U o U' => ∃ v L, o = .returned v ∧ Qupa Z a c1 x n t p0 h0 n0 v U'.heap L ∧ FrameEnd U o U' L ({ frames := 0, cells := 0, slots := 0, locals := 0 } : Room).cells ({ frames := 0, cells := 0, slots := 0, locals := 0 } : Room).slots) := by
  refine MetFree.of_bodySF (plainFor_of_name pn_enc) hisR ?_
  intro p e s m args below meth c s₁ Bd hml0 hP hK
  obtain ⟨rfl, hZ, hh⟩ := hP
  have hx := Bd.exec
  have hby := Bd.bytes
  have hml : c.maxLocals = 3 := hml0
  have hown : s.vm.findClass "com/example/wheelwise/wheelwise/IncrementalEncoder" = some m.cls := findClass_of_methodNamed Bd.named
  have hnm := (name_of_methodNamed Bd.named Bd.method).1
  have X0 : Stand p l e ({ frames := 0, cells := 0, slots := 0, locals := 0 } : Room) s m #[(.ref a), (.long c1)] below meth c s₁ [] 0 0 := Stand.of_body Bd
  have e0 : s₁.heap = h0 := by rw [← hh, Bd.state]; rfl
  have N0 := Fr.nil n0
  have pre0 : ∀ tt, Steps p.tables e below (s₁.setTop (mkF m 0 #[.val (.ref a), .val (.long c1), .second] [])) tt → Steps p.tables e below (s₁.setTop (entryFrame m #[(.ref a), (.long c1)] 3)) tt := fun tt k => castTop (ef_upd m a c1) k
  obtain ⟨T1, X1, e1, st1⟩ := getF X0 hx hZ hown (host := "") (Or.inl (hw _ (List.mem_of_getElem? (i := 52) rfl))) Via.refl e0 F2 (g := (mkF m 1 #[.val (.ref a), .val (.long c1), .second] [(.ref a)])) rfl rfl (hb hby dupd_1)
  obtain ⟨T2, X2, e2, st2⟩ := getF X1 hx hZ hown (host := "") (Or.inl (hw _ (List.mem_of_getElem? (i := 56) rfl))) Via.refl e1 F3 (g := (mkF m 9 #[.val (.ref a), .val (.long c1), .second] [(.ref a), (.ref a)])) rfl rfl (hb hby dupd_9)
  obtain ⟨T3, X3, e3, st3⟩ := getF X2 hx hZ hown (host := "") (Or.inl (hw _ (List.mem_of_getElem? (i := 54) rfl))) Via.refl e2 F4 (g := (mkF m 14 #[.val (.ref a), .val (.long c1), .second] [(.ref a), (.long c1), (.long t), (.ref a)])) rfl rfl (hb hby dupd_14)
  obtain ⟨T4, h4, X4, e4, W4, st4⟩ := putF X3 hx hZ hown (host := "") (Or.inl (hw _ (List.mem_of_getElem? (i := 56) rfl))) Via.refl e3 F3 E0 (Or.inl (hw _ (List.mem_of_getElem? (i := 57) rfl))) (hw _ (List.mem_of_getElem? (i := 6) rfl)) (ty := .long) (by decide) rfl rfl (g := (mkF m 21 #[.val (.ref a), .val (.long c1), .second] [(.long (t + ((c1 - p0)).toInt32.toInt64)), (.ref a)])) rfl rfl (hb hby dupd_21)
  have N4 := Fr.snoc X4 N0 ga
  have fp4_0 : Fld Z h4 a "com/example/wheelwise/wheelwise/IncrementalEncoder" "distancePerTurn" "D" (.double x) := (F0.other W4 (Or.inr (slot_ne (Or.inr (hw _ (List.mem_of_getElem? (i := 38) rfl))) (Or.inl (hw _ (List.mem_of_getElem? (i := 57) rfl))) (by decide) (t := .double) (t' := .long) (by decide) (by decide))))
  have fp4_1 : Fld Z h4 a "com/example/wheelwise/wheelwise/IncrementalEncoder" "countsPerTurn" "J" (.long n) := (F1.other W4 (Or.inr (slot_ne (Or.inr (hw _ (List.mem_of_getElem? (i := 44) rfl))) (Or.inl (hw _ (List.mem_of_getElem? (i := 57) rfl))) (by decide) (t := .long) (t' := .long) (by decide) (by decide))))
  have fp4_2 : Fld Z h4 a "com/example/wheelwise/wheelwise/IncrementalEncoder" "hasPrevious" "Z" (.int (1 : Int32)) := (F2.other W4 (Or.inr (slot_ne (Or.inl (hw _ (List.mem_of_getElem? (i := 53) rfl))) (Or.inl (hw _ (List.mem_of_getElem? (i := 57) rfl))) (by decide) (t := .boolean) (t' := .long) (by decide) (by decide))))
  have fp4_3 : Fld Z h4 a "com/example/wheelwise/wheelwise/IncrementalEncoder" "total" "J" (.long (t + ((c1 - p0)).toInt32.toInt64)) := (F3.same W4)
  have fp4_4 : Fld Z h4 a "com/example/wheelwise/wheelwise/IncrementalEncoder" "previous" "J" (.long p0) := (F4.other W4 (Or.inr (slot_ne (Or.inl (hw _ (List.mem_of_getElem? (i := 55) rfl))) (Or.inl (hw _ (List.mem_of_getElem? (i := 57) rfl))) (by decide) (t := .long) (t' := .long) (by decide) (by decide))))
  have xp4 : Exa Z h4 a "com/example/wheelwise/wheelwise/IncrementalEncoder" := (E0.wr W4)
  have Kp4 : Keep h0 h4 [a] := ((Keep.refl h0 [a]).wr W4 (Or.inl (List.mem_of_getElem? (i := 0) rfl)))
  obtain ⟨T5, h5, X5, e5, W5, st5⟩ := putF X4 hx hZ hown (host := "") (Or.inl (hw _ (List.mem_of_getElem? (i := 54) rfl))) Via.refl e4 fp4_4 xp4 (Or.inl (hw _ (List.mem_of_getElem? (i := 55) rfl))) (hw _ (List.mem_of_getElem? (i := 6) rfl)) (ty := .long) (by decide) rfl rfl (g := (mkF m 26 #[.val (.ref a), .val (.long c1), .second] [(.long c1), (.ref a)])) rfl rfl (hb hby dupd_26)
  have N5 := Fr.snoc X5 N4 ga
  have fp5_0 : Fld Z h5 a "com/example/wheelwise/wheelwise/IncrementalEncoder" "distancePerTurn" "D" (.double x) := (fp4_0.other W5 (Or.inr (slot_ne (Or.inr (hw _ (List.mem_of_getElem? (i := 38) rfl))) (Or.inl (hw _ (List.mem_of_getElem? (i := 55) rfl))) (by decide) (t := .double) (t' := .long) (by decide) (by decide))))
  have fp5_1 : Fld Z h5 a "com/example/wheelwise/wheelwise/IncrementalEncoder" "countsPerTurn" "J" (.long n) := (fp4_1.other W5 (Or.inr (slot_ne (Or.inr (hw _ (List.mem_of_getElem? (i := 44) rfl))) (Or.inl (hw _ (List.mem_of_getElem? (i := 55) rfl))) (by decide) (t := .long) (t' := .long) (by decide) (by decide))))
  have fp5_2 : Fld Z h5 a "com/example/wheelwise/wheelwise/IncrementalEncoder" "hasPrevious" "Z" (.int (1 : Int32)) := (fp4_2.other W5 (Or.inr (slot_ne (Or.inl (hw _ (List.mem_of_getElem? (i := 53) rfl))) (Or.inl (hw _ (List.mem_of_getElem? (i := 55) rfl))) (by decide) (t := .boolean) (t' := .long) (by decide) (by decide))))
  have fp5_3 : Fld Z h5 a "com/example/wheelwise/wheelwise/IncrementalEncoder" "total" "J" (.long (t + ((c1 - p0)).toInt32.toInt64)) := (fp4_3.other W5 (Or.inr (slot_ne (Or.inl (hw _ (List.mem_of_getElem? (i := 57) rfl))) (Or.inl (hw _ (List.mem_of_getElem? (i := 55) rfl))) (by decide) (t := .long) (t' := .long) (by decide) (by decide))))
  have fp5_4 : Fld Z h5 a "com/example/wheelwise/wheelwise/IncrementalEncoder" "previous" "J" (.long c1) := (fp4_4.same W5)
  have xp5 : Exa Z h5 a "com/example/wheelwise/wheelwise/IncrementalEncoder" := (xp4.wr W5)
  have Kp5 : Keep h0 h5 [a] := (Kp4.wr W5 (Or.inl (List.mem_of_getElem? (i := 0) rfl)))
  obtain ⟨T6, h6, X6, e6, W6, st6⟩ := putFN X5 hx hZ hown (hw _ (List.mem_of_getElem? (i := 52) rfl)) Via.refl e5 fp5_2 xp5 (Or.inl (hw _ (List.mem_of_getElem? (i := 53) rfl))) (hw _ (List.mem_of_getElem? (i := 6) rfl)) (ty := .boolean) (v' := (.int (1 : Int32))) (by decide) rfl (by decide) (g := (mkF m 31 #[.val (.ref a), .val (.long c1), .second] [(.int (1 : Int32)), (.ref a)])) rfl rfl (hb hby dupd_31)
  have N6 := Fr.snoc X6 N5 ga
  have fp6_0 : Fld Z h6 a "com/example/wheelwise/wheelwise/IncrementalEncoder" "distancePerTurn" "D" (.double x) := (fp5_0.other W6 (Or.inr (slot_ne (Or.inr (hw _ (List.mem_of_getElem? (i := 38) rfl))) (Or.inl (hw _ (List.mem_of_getElem? (i := 53) rfl))) (by decide) (t := .double) (t' := .boolean) (by decide) (by decide))))
  have fp6_1 : Fld Z h6 a "com/example/wheelwise/wheelwise/IncrementalEncoder" "countsPerTurn" "J" (.long n) := (fp5_1.other W6 (Or.inr (slot_ne (Or.inr (hw _ (List.mem_of_getElem? (i := 44) rfl))) (Or.inl (hw _ (List.mem_of_getElem? (i := 53) rfl))) (by decide) (t := .long) (t' := .boolean) (by decide) (by decide))))
  have fp6_2 : Fld Z h6 a "com/example/wheelwise/wheelwise/IncrementalEncoder" "hasPrevious" "Z" (.int (1 : Int32)) := (fp5_2.same W6)
  have fp6_3 : Fld Z h6 a "com/example/wheelwise/wheelwise/IncrementalEncoder" "total" "J" (.long (t + ((c1 - p0)).toInt32.toInt64)) := (fp5_3.other W6 (Or.inr (slot_ne (Or.inl (hw _ (List.mem_of_getElem? (i := 57) rfl))) (Or.inl (hw _ (List.mem_of_getElem? (i := 53) rfl))) (by decide) (t := .long) (t' := .boolean) (by decide) (by decide))))
  have fp6_4 : Fld Z h6 a "com/example/wheelwise/wheelwise/IncrementalEncoder" "previous" "J" (.long c1) := (fp5_4.other W6 (Or.inr (slot_ne (Or.inl (hw _ (List.mem_of_getElem? (i := 55) rfl))) (Or.inl (hw _ (List.mem_of_getElem? (i := 53) rfl))) (by decide) (t := .long) (t' := .boolean) (by decide) (by decide))))
  have xp6 : Exa Z h6 a "com/example/wheelwise/wheelwise/IncrementalEncoder" := (xp5.wr W6)
  have Kp6 : Keep h0 h6 [a] := (Kp5.wr W6 (Or.inl (List.mem_of_getElem? (i := 0) rfl)))
  obtain ⟨T7, X7, e7, st7⟩ := getF X6 hx hZ hown (host := "") (Or.inl (hw _ (List.mem_of_getElem? (i := 56) rfl))) Via.refl e6 fp6_3 (g := (mkF m 35 #[.val (.ref a), .val (.long c1), .second] [(.ref a)])) rfl rfl (hb hby dupd_35)
  obtain ⟨T8, X8, e8, st8⟩ := getF X7 hx hZ hown (host := "") (Or.inl (hw _ (List.mem_of_getElem? (i := 37) rfl))) Via.refl e7 fp6_0 (g := (mkF m 40 #[.val (.ref a), .val (.long c1), .second] [(.ref a), (.double (FP.l2d (t + ((c1 - p0)).toInt32.toInt64)))])) rfl rfl (hb hby dupd_40)
  obtain ⟨T9, X9, e9, st9⟩ := getF X8 hx hZ hown (host := "") (Or.inl (hw _ (List.mem_of_getElem? (i := 43) rfl))) Via.refl e8 fp6_1 (g := (mkF m 45 #[.val (.ref a), .val (.long c1), .second] [(.ref a), (.double (FP.dmul (FP.l2d (t + ((c1 - p0)).toInt32.toInt64)) x))])) rfl rfl (hb hby dupd_45)
  obtain ⟨fs, hr, hrun, hended, hW, hsame⟩ := X9.leave (v := some (.double (own_pos (t + ((c1 - p0)).toInt32.toInt64) x n))) (fun h => by rw [Bd.returns] at h; cases h)
  refine ⟨_, _, pre0 _ ?_, hrun, hended, _, _, rfl, ?_, ⟨_, rfl⟩, hW, hsame.mono (by decide) (by decide)⟩
  · show Steps p.tables e below (s₁.setTop (mkF m 0 #[.val (.ref a), .val (.long c1), .second] [])) _
    refine XS.aloadN X0.here hx rfl (hb hby dupd_0) rfl rfl ?_
    show Steps p.tables e below (s₁.setTop (mkF m 1 #[.val (.ref a), .val (.long c1), .second] [(.ref a)])) _
    refine st1 _ ?_
    show Steps p.tables e below (T1.setTop (mkF m 4 #[.val (.ref a), .val (.long c1), .second] [(.int (1 : Int32))])) _
    refine XS.ifNo X1.here hx rfl (hb hby dupd_4) rfl ((if0 _ _).trans (feq (by decide : ¬ ((1 : Int32) = (0 : Int32)))).1) ?_
    show Steps p.tables e below (T1.setTop (mkF m 7 #[.val (.ref a), .val (.long c1), .second] [])) _
    refine XS.aloadN X1.here hx rfl (hb hby dupd_7) rfl rfl ?_
    show Steps p.tables e below (T1.setTop (mkF m 8 #[.val (.ref a), .val (.long c1), .second] [(.ref a)])) _
    refine XS.dup X1.here hx rfl (hb hby dupd_8) rfl rfl ?_
    show Steps p.tables e below (T1.setTop (mkF m 9 #[.val (.ref a), .val (.long c1), .second] [(.ref a), (.ref a)])) _
    refine st2 _ ?_
    show Steps p.tables e below (T2.setTop (mkF m 12 #[.val (.ref a), .val (.long c1), .second] [(.long t), (.ref a)])) _
    refine XS.lloadN X2.here hx rfl (hb hby dupd_12) rfl ?_
    show Steps p.tables e below (T2.setTop (mkF m 13 #[.val (.ref a), .val (.long c1), .second] [(.long c1), (.long t), (.ref a)])) _
    refine XS.aloadN X2.here hx rfl (hb hby dupd_13) rfl rfl ?_
    show Steps p.tables e below (T2.setTop (mkF m 14 #[.val (.ref a), .val (.long c1), .second] [(.ref a), (.long c1), (.long t), (.ref a)])) _
    refine st3 _ ?_
    show Steps p.tables e below (T3.setTop (mkF m 17 #[.val (.ref a), .val (.long c1), .second] [(.long p0), (.long c1), (.long t), (.ref a)])) _
    refine XS.lsub X3.here hx rfl (hb hby dupd_17) rfl ?_
    show Steps p.tables e below (T3.setTop (mkF m 18 #[.val (.ref a), .val (.long c1), .second] [(.long (c1 - p0)), (.long t), (.ref a)])) _
    refine XS.l2i X3.here hx rfl (hb hby dupd_18) rfl ?_
    show Steps p.tables e below (T3.setTop (mkF m 19 #[.val (.ref a), .val (.long c1), .second] [(.int ((c1 - p0)).toInt32), (.long t), (.ref a)])) _
    refine XS.i2l X3.here hx rfl (hb hby dupd_19) rfl ?_
    show Steps p.tables e below (T3.setTop (mkF m 20 #[.val (.ref a), .val (.long c1), .second] [(.long (((c1 - p0)).toInt32).toInt64), (.long t), (.ref a)])) _
    refine XS.ladd X3.here hx rfl (hb hby dupd_20) rfl ?_
    show Steps p.tables e below (T3.setTop (mkF m 21 #[.val (.ref a), .val (.long c1), .second] [(.long (t + ((c1 - p0)).toInt32.toInt64)), (.ref a)])) _
    refine st4 _ ?_
    show Steps p.tables e below (T4.setTop (mkF m 24 #[.val (.ref a), .val (.long c1), .second] [])) _
    refine XS.aloadN X4.here hx rfl (hb hby dupd_24) rfl rfl ?_
    show Steps p.tables e below (T4.setTop (mkF m 25 #[.val (.ref a), .val (.long c1), .second] [(.ref a)])) _
    refine XS.lloadN X4.here hx rfl (hb hby dupd_25) rfl ?_
    show Steps p.tables e below (T4.setTop (mkF m 26 #[.val (.ref a), .val (.long c1), .second] [(.long c1), (.ref a)])) _
    refine st5 _ ?_
    show Steps p.tables e below (T5.setTop (mkF m 29 #[.val (.ref a), .val (.long c1), .second] [])) _
    refine XS.aloadN X5.here hx rfl (hb hby dupd_29) rfl rfl ?_
    show Steps p.tables e below (T5.setTop (mkF m 30 #[.val (.ref a), .val (.long c1), .second] [(.ref a)])) _
    refine XS.iconst X5.here hx rfl (hb hby dupd_30) ?_
    show Steps p.tables e below (T5.setTop (mkF m 31 #[.val (.ref a), .val (.long c1), .second] [(.int (1 : Int32)), (.ref a)])) _
    refine st6 _ ?_
    show Steps p.tables e below (T6.setTop (mkF m 34 #[.val (.ref a), .val (.long c1), .second] [])) _
    refine XS.aloadN X6.here hx rfl (hb hby dupd_34) rfl rfl ?_
    show Steps p.tables e below (T6.setTop (mkF m 35 #[.val (.ref a), .val (.long c1), .second] [(.ref a)])) _
    refine st7 _ ?_
    show Steps p.tables e below (T7.setTop (mkF m 38 #[.val (.ref a), .val (.long c1), .second] [(.long (t + ((c1 - p0)).toInt32.toInt64))])) _
    refine XS.l2dS X7.here hx rfl (hb hby dupd_38) rfl rfl ?_
    show Steps p.tables e below (T7.setTop (mkF m 39 #[.val (.ref a), .val (.long c1), .second] [(.double (FP.l2d (t + ((c1 - p0)).toInt32.toInt64)))])) _
    refine XS.aloadN X7.here hx rfl (hb hby dupd_39) rfl rfl ?_
    show Steps p.tables e below (T7.setTop (mkF m 40 #[.val (.ref a), .val (.long c1), .second] [(.ref a), (.double (FP.l2d (t + ((c1 - p0)).toInt32.toInt64)))])) _
    refine st8 _ ?_
    show Steps p.tables e below (T8.setTop (mkF m 43 #[.val (.ref a), .val (.long c1), .second] [(.double x), (.double (FP.l2d (t + ((c1 - p0)).toInt32.toInt64)))])) _
    refine XS.dmulS X8.here hx rfl (hb hby dupd_43) rfl (own_nm hm (t + ((c1 - p0)).toInt32.toInt64)) rfl ?_
    show Steps p.tables e below (T8.setTop (mkF m 44 #[.val (.ref a), .val (.long c1), .second] [(.double (FP.dmul (FP.l2d (t + ((c1 - p0)).toInt32.toInt64)) x))])) _
    refine XS.aloadN X8.here hx rfl (hb hby dupd_44) rfl rfl ?_
    show Steps p.tables e below (T8.setTop (mkF m 45 #[.val (.ref a), .val (.long c1), .second] [(.ref a), (.double (FP.dmul (FP.l2d (t + ((c1 - p0)).toInt32.toInt64)) x))])) _
    refine st9 _ ?_
    show Steps p.tables e below (T9.setTop (mkF m 48 #[.val (.ref a), .val (.long c1), .second] [(.long n), (.double (FP.dmul (FP.l2d (t + ((c1 - p0)).toInt32.toInt64)) x))])) _
    refine XS.l2dS X9.here hx rfl (hb hby dupd_48) rfl rfl ?_
    show Steps p.tables e below (T9.setTop (mkF m 49 #[.val (.ref a), .val (.long c1), .second] [(.double (FP.l2d n)), (.double (FP.dmul (FP.l2d (t + ((c1 - p0)).toInt32.toInt64)) x))])) _
    refine XS.ddivS X9.here hx rfl (hb hby dupd_49) rfl (own_nd hm hn (t + ((c1 - p0)).toInt32.toInt64)) rfl ?_
    show Steps p.tables e below (T9.setTop (mkF m 50 #[.val (.ref a), .val (.long c1), .second] [(.double (own_pos (t + ((c1 - p0)).toInt32.toInt64) x n))])) _
    exact retOut X9 hx Bd.returns rfl (Or.inr (Or.inr (Or.inl ⟨rfl, rfl, _, rfl⟩))) (hb hby dupd_50) hr
  · show Qupa Z a c1 x n t p0 h0 n0 _ T9.heap _
    rw [e9]
    exact ⟨rfl, N6, Kp6, xp6, fp6_0, fp6_1, fp6_2, fp6_3, fp6_4⟩
theorem ef_law (m : MethodId) (x0 : Int64) (x1 : Int64) (x2 : Int64) (x3 : Int32) (x4 : Int64) : entryFrame m #[(.long x0), (.long x1), (.long x2), (.int x3), (.long x4)] maxLocals = mkF m 0 #[.val (.long x0), .second, .val (.long x1), .second, .val (.long x2), .second, .val (.int x3), .val (.long x4), .second, .unset, .unset, .unset, .unset, .unset, .unset, .unset, .unset, .unset, .unset, .unset, .unset, .unset, .unset, .unset, .unset, .unset, .unset, .unset, .unset] [] := by first | (simp [entryFrame, mkF, argsToLocals, Value.category, maxLocals]; done) | rfl
def Qlaw (Z : State) (c0 : Int64) (c1 : Int64) (c2 : Int64) (ai : Int32) (b : Int64) (h0 : Heap) (n0 : Nat) (v : Option Value) (h : Heap) (L : List Loc) : Prop := v = some (.int (1 : Int32)) ∧ Fr n0 L
set_option maxRecDepth 65536 in
set_option maxHeartbeats 40000000 in
theorem rmlaw (l : Launch) (Z : State) (a0 : Array Value) (hw : ∀ d ∈ tables_1, d.before a0 Z = true) (ws : List Jvm.Cond) (c0 : Int64) (c1 : Int64) (c2 : Int64) (ai : Int32) (b : Int64) (h0 : Heap) (n0 : Nat) (Z0 : n0 ≤ h0.size) :
    MetFree l x (head1 (Jvm.Cond.code x code maxLocals ret :: ws) room_1) (fun aa U => aa = #[(.long c0), (.long c1), (.long c2), (.int ai), (.long b)] ∧ Z.Warmed39 U.vm ∧ U.heap = h0) (fun _ _ _ _ _ => True) (fun _ U o U' => ∃ v L, o = .returned v ∧ Qlaw Z c0 c1 c2 ai b h0 n0 v U'.heap L ∧ ReturnedEndW U o U' L 5 141) := by
  refine MetFree.of_bodySF (plainFor_of_name pn_law) hisR ?_
  intro p e s m args below meth c s₁ Bd hml0 hP hK
  obtain ⟨rfl, hZ, hh⟩ := hP
  have hx := Bd.exec
  have hby := Bd.bytes
  have hml : c.maxLocals = 29 := hml0
  have hown : s.vm.findClass "com/example/wheelwise/wheelwise/IncrementalEncoderUpdatePinLaw" = some m.cls := findClass_of_methodNamed Bd.named
  have hnm := (name_of_methodNamed Bd.named Bd.method).1
  have X0 : Stand p l e room_1 s m #[(.long c0), (.long c1), (.long c2), (.int ai), (.long b)] below meth c s₁ [] 0 0 := Stand.of_body Bd
  have e0 : s₁.heap = h0 := by rw [← hh, Bd.state]; rfl
  have N0 := Fr.nil n0
  have pre0 : ∀ tt, Steps p.tables e below (s₁.setTop (mkF m 0 #[.val (.long c0), .second, .val (.long c1), .second, .val (.long c2), .second, .val (.int ai), .val (.long b), .second, .unset, .unset, .unset, .unset, .unset, .unset, .unset, .unset, .unset, .unset, .unset, .unset, .unset, .unset, .unset, .unset, .unset, .unset, .unset, .unset] [])) tt → Steps p.tables e below (s₁.setTop (entryFrame m #[(.long c0), (.long c1), (.long c2), (.int ai), (.long b)] maxLocals)) tt := fun tt k => castTop (ef_law m c0 c1 c2 ai b) k
  have sg1 : ∀ t, Steps p.tables e below (s₁.setTop (mkF m 24 #[.val (.long c0), .second, .val (.long c1), .second, .val (.long c2), .second, .val (.int ai), .val (.long b), .second, .val (.int (own_di ai)), .unset, .unset, .unset, .unset, .unset, .unset, .unset, .unset, .unset, .unset, .unset, .unset, .unset, .unset, .unset, .unset, .unset, .unset, .unset] [])) t → Steps p.tables e below (s₁.setTop (mkF m 12 #[.val (.long c0), .second, .val (.long c1), .second, .val (.long c2), .second, .val (.int ai), .val (.long b), .second, .val (.int (own_k ai)), .unset, .unset, .unset, .unset, .unset, .unset, .unset, .unset, .unset, .unset, .unset, .unset, .unset, .unset, .unset, .unset, .unset, .unset, .unset] [])) t := by
    intro t k
    by_cases hs : (ai &&& (1 : Int32)) = (0 : Int32)
    · rw [show own_di ai = own_k ai from if_pos hs] at k
      show Steps p.tables e below (s₁.setTop (mkF m 12 #[.val (.long c0), .second, .val (.long c1), .second, .val (.long c2), .second, .val (.int ai), .val (.long b), .second, .val (.int (own_k ai)), .unset, .unset, .unset, .unset, .unset, .unset, .unset, .unset, .unset, .unset, .unset, .unset, .unset, .unset, .unset, .unset, .unset, .unset, .unset] [])) _
      refine XS.iload X0.here hx rfl (hb hby at_12) rfl ?_
      show Steps p.tables e below (s₁.setTop (mkF m 14 #[.val (.long c0), .second, .val (.long c1), .second, .val (.long c2), .second, .val (.int ai), .val (.long b), .second, .val (.int (own_k ai)), .unset, .unset, .unset, .unset, .unset, .unset, .unset, .unset, .unset, .unset, .unset, .unset, .unset, .unset, .unset, .unset, .unset, .unset, .unset] [(.int ai)])) _
      refine XS.iconst X0.here hx rfl (hb hby at_14) ?_
      show Steps p.tables e below (s₁.setTop (mkF m 15 #[.val (.long c0), .second, .val (.long c1), .second, .val (.long c2), .second, .val (.int ai), .val (.long b), .second, .val (.int (own_k ai)), .unset, .unset, .unset, .unset, .unset, .unset, .unset, .unset, .unset, .unset, .unset, .unset, .unset, .unset, .unset, .unset, .unset, .unset, .unset] [(.int (1 : Int32)), (.int ai)])) _
      refine XS.iand X0.here hx rfl (hb hby at_15) rfl ?_
      show Steps p.tables e below (s₁.setTop (mkF m 16 #[.val (.long c0), .second, .val (.long c1), .second, .val (.long c2), .second, .val (.int ai), .val (.long b), .second, .val (.int (own_k ai)), .unset, .unset, .unset, .unset, .unset, .unset, .unset, .unset, .unset, .unset, .unset, .unset, .unset, .unset, .unset, .unset, .unset, .unset, .unset] [(.int (ai &&& (1 : Int32)))])) _
      refine XS.ifYes X0.here hx rfl (pc0 := 16) (pc' := 24) rfl (hb hby at_16) rfl ((if0 _ _).trans (teq (hs : (ai &&& (1 : Int32)) = (0 : Int32))).1) (by decide) (by decide) ?_
      exact k
    · rw [show own_di ai = (-(own_k ai)) from if_neg hs] at k
      show Steps p.tables e below (s₁.setTop (mkF m 12 #[.val (.long c0), .second, .val (.long c1), .second, .val (.long c2), .second, .val (.int ai), .val (.long b), .second, .val (.int (own_k ai)), .unset, .unset, .unset, .unset, .unset, .unset, .unset, .unset, .unset, .unset, .unset, .unset, .unset, .unset, .unset, .unset, .unset, .unset, .unset] [])) _
      refine XS.iload X0.here hx rfl (hb hby at_12) rfl ?_
      show Steps p.tables e below (s₁.setTop (mkF m 14 #[.val (.long c0), .second, .val (.long c1), .second, .val (.long c2), .second, .val (.int ai), .val (.long b), .second, .val (.int (own_k ai)), .unset, .unset, .unset, .unset, .unset, .unset, .unset, .unset, .unset, .unset, .unset, .unset, .unset, .unset, .unset, .unset, .unset, .unset, .unset] [(.int ai)])) _
      refine XS.iconst X0.here hx rfl (hb hby at_14) ?_
      show Steps p.tables e below (s₁.setTop (mkF m 15 #[.val (.long c0), .second, .val (.long c1), .second, .val (.long c2), .second, .val (.int ai), .val (.long b), .second, .val (.int (own_k ai)), .unset, .unset, .unset, .unset, .unset, .unset, .unset, .unset, .unset, .unset, .unset, .unset, .unset, .unset, .unset, .unset, .unset, .unset, .unset] [(.int (1 : Int32)), (.int ai)])) _
      refine XS.iand X0.here hx rfl (hb hby at_15) rfl ?_
      show Steps p.tables e below (s₁.setTop (mkF m 16 #[.val (.long c0), .second, .val (.long c1), .second, .val (.long c2), .second, .val (.int ai), .val (.long b), .second, .val (.int (own_k ai)), .unset, .unset, .unset, .unset, .unset, .unset, .unset, .unset, .unset, .unset, .unset, .unset, .unset, .unset, .unset, .unset, .unset, .unset, .unset] [(.int (ai &&& (1 : Int32)))])) _
      refine XS.ifNo X0.here hx rfl (hb hby at_16) rfl ((if0 _ _).trans (feq (hs : ¬ ((ai &&& (1 : Int32)) = (0 : Int32)))).1) ?_
      show Steps p.tables e below (s₁.setTop (mkF m 19 #[.val (.long c0), .second, .val (.long c1), .second, .val (.long c2), .second, .val (.int ai), .val (.long b), .second, .val (.int (own_k ai)), .unset, .unset, .unset, .unset, .unset, .unset, .unset, .unset, .unset, .unset, .unset, .unset, .unset, .unset, .unset, .unset, .unset, .unset, .unset] [])) _
      refine XS.iload X0.here hx rfl (hb hby at_19) rfl ?_
      show Steps p.tables e below (s₁.setTop (mkF m 21 #[.val (.long c0), .second, .val (.long c1), .second, .val (.long c2), .second, .val (.int ai), .val (.long b), .second, .val (.int (own_k ai)), .unset, .unset, .unset, .unset, .unset, .unset, .unset, .unset, .unset, .unset, .unset, .unset, .unset, .unset, .unset, .unset, .unset, .unset, .unset] [(.int (own_k ai))])) _
      refine XS.ineg X0.here hx rfl (hb hby at_21) rfl ?_
      show Steps p.tables e below (s₁.setTop (mkF m 22 #[.val (.long c0), .second, .val (.long c1), .second, .val (.long c2), .second, .val (.int ai), .val (.long b), .second, .val (.int (own_k ai)), .unset, .unset, .unset, .unset, .unset, .unset, .unset, .unset, .unset, .unset, .unset, .unset, .unset, .unset, .unset, .unset, .unset, .unset, .unset] [(.int (-(own_k ai)))])) _
      refine XS.istore X0.here hx rfl (hb hby at_22) rfl (l' := #[.val (.long c0), .second, .val (.long c1), .second, .val (.long c2), .second, .val (.int ai), .val (.long b), .second, .val (.int (-(own_k ai))), .unset, .unset, .unset, .unset, .unset, .unset, .unset, .unset, .unset, .unset, .unset, .unset, .unset, .unset, .unset, .unset, .unset, .unset, .unset]) rfl ?_
      exact k
  obtain ⟨_, _, ⟨T1, L1, k1, n1⟩, -, X1, ⟨Lc1, hQ1, l1, y1, z1⟩, st1⟩ := Jvm.LawKit.callS X0 hx (y := (⟨"java/lang/Math", "max", "(JJ)J"⟩ : MethodName)) hown (mvT hZ (hw _ (List.mem_of_getElem? (i := 1) rfl))) (mvT hZ (hw _ (List.mem_of_getElem? (i := 2) rfl))) (mvT hZ (hw _ (List.mem_of_getElem? (i := 3) rfl))) (mvT hZ (hw _ (List.mem_of_getElem? (i := 4) rfl))) (by decide) (backOf (W := 0) (rmmax l Z a0 hw [] (1 : Int64) (b &&& (9223372036854775807 : Int64)) h0 n0 Z0) hZ (hw _ (List.mem_of_getElem? (i := 4) rfl)) (hw _ (List.mem_of_getElem? (i := 3) rfl)) (by decide) (by decide)) (g := (mkF m 36 #[.val (.long c0), .second, .val (.long c1), .second, .val (.long c2), .second, .val (.int ai), .val (.long b), .second, .val (.int (own_di ai)), .val (.double (FP.i2d (own_di ai))), .second, .unset, .unset, .unset, .unset, .unset, .unset, .unset, .unset, .unset, .unset, .unset, .unset, .unset, .unset, .unset, .unset, .unset] [(.long (b &&& (9223372036854775807 : Int64))), (.long (1 : Int64))])) rfl (by rw [hml]; rfl) (argsL := [(.long (1 : Int64)), (.long (b &&& (9223372036854775807 : Int64)))]) (rest := []) (lenOf pd_jj rfl) rfl (by show 2 * 0 + _ ≤ _; exact Nat.le_of_eq rfl) (hb hby at_36) (fun _ _ => ⟨rfl, e0, (by decide : 0 + 0 ≤ _), (by decide : 0 + 0 ≤ _)⟩)
  dsimp only [Pt.U, Pt.locs, Pt.cells, Pt.slots] at X1 l1 y1 z1 st1 hQ1
  subst l1 y1 z1
  obtain ⟨rfl, M1, u1⟩ := hQ1
  have N1 := Fr.app N0 M1
  obtain ⟨T2, h2, X2, e2, E2, A2, D2, -, st2⟩ := newO X1 hx hZ hown (hw _ (List.mem_of_getElem? (i := 5) rfl)) (hw _ (List.mem_of_getElem? (i := 6) rfl)) (hw _ (List.mem_of_getElem? (i := 7) rfl)) u1 (g := (mkF m 41 #[.val (.long c0), .second, .val (.long c1), .second, .val (.long c2), .second, .val (.int ai), .val (.long b), .second, .val (.int (own_di ai)), .val (.double (FP.i2d (own_di ai))), .second, .val (.long (own_max (1 : Int64) (b &&& (9223372036854775807 : Int64)))), .second, .unset, .unset, .unset, .unset, .unset, .unset, .unset, .unset, .unset, .unset, .unset, .unset, .unset, .unset, .unset] [])) rfl (hb hby at_41) (by decide) (by decide)
  obtain ⟨a, g2⟩ : ∃ z, z = h0.size := ⟨_, rfl⟩
  rw [← g2] at A2 D2 st2
  have F0 : Fld Z h2 a "com/example/wheelwise/wheelwise/IncrementalEncoder" "distancePerTurn" "D" (.double 0) := D2 (Or.inr (hw _ (List.mem_of_getElem? (i := 38) rfl))) (ty := .double) (by decide)
  have F1 : Fld Z h2 a "com/example/wheelwise/wheelwise/IncrementalEncoder" "countsPerTurn" "J" (.long (0 : Int64)) := D2 (Or.inr (hw _ (List.mem_of_getElem? (i := 44) rfl))) (ty := .long) (by decide)
  have F2 : Fld Z h2 a "com/example/wheelwise/wheelwise/IncrementalEncoder" "hasPrevious" "Z" (.int (0 : Int32)) := D2 (Or.inl (hw _ (List.mem_of_getElem? (i := 53) rfl))) (ty := .boolean) (by decide)
  have F3 : Fld Z h2 a "com/example/wheelwise/wheelwise/IncrementalEncoder" "total" "J" (.long (0 : Int64)) := D2 (Or.inl (hw _ (List.mem_of_getElem? (i := 57) rfl))) (ty := .long) (by decide)
  have F4 : Fld Z h2 a "com/example/wheelwise/wheelwise/IncrementalEncoder" "previous" "J" (.long (0 : Int64)) := D2 (Or.inl (hw _ (List.mem_of_getElem? (i := 55) rfl))) (ty := .long) (by decide)
  have ga : n0 ≤ a := Nat.le_trans Z0 (Nat.le_of_eq g2.symm)
  have Zn : n0 ≤ h2.size := Nat.le_trans Z0 E2.1
  have hm : Mag64 1056 (FP.i2d (own_di ai)) := i2d_mag _
  have hz : Nz64 (FP.i2d (own_di ai)) := i2d_nz (own_di_ne ai)
  have hn : (0 : Int64) < (own_max (1 : Int64) (b &&& (9223372036854775807 : Int64))) := own_max_pos _
  have hne : (own_max (1 : Int64) (b &&& (9223372036854775807 : Int64))) ≠ 0 := own_pos_ne hn
  obtain ⟨_, _, ⟨T3, L3, k3, n3⟩, -, X3, S3, gr3, ⟨Lc3, hQ3, l3, y3, z3⟩, st3⟩ := X2.specialBackS hx (y := (⟨"com/example/wheelwise/wheelwise/IncrementalEncoder", "<init>", "(DJ)V"⟩ : MethodName)) rfl hown (mvT hZ (hw _ (List.mem_of_getElem? (i := 8) rfl))) (mvT hZ (hw _ (List.mem_of_getElem? (i := 9) rfl))) (mvT hZ (hw _ (List.mem_of_getElem? (i := 10) rfl))) (by decide) (backOfS (W := 1) (rmini l Z a0 hw [] a (FP.i2d (own_di ai)) (own_max (1 : Int64) (b &&& (9223372036854775807 : Int64))) h2 n0 Zn F0 F1 F2 F3 F4 A2 ga hm hz hn) hZ (hw _ (List.mem_of_getElem? (i := 10) rfl)) (hw _ (List.mem_of_getElem? (i := 7) rfl)) (by decide) (by decide)) (g := (mkF m 49 #[.val (.long c0), .second, .val (.long c1), .second, .val (.long c2), .second, .val (.int ai), .val (.long b), .second, .val (.int (own_di ai)), .val (.double (FP.i2d (own_di ai))), .second, .val (.long (own_max (1 : Int64) (b &&& (9223372036854775807 : Int64)))), .second, .unset, .unset, .unset, .unset, .unset, .unset, .unset, .unset, .unset, .unset, .unset, .unset, .unset, .unset, .unset] [(.long (own_max (1 : Int64) (b &&& (9223372036854775807 : Int64)))), (.double (FP.i2d (own_di ai))), (.ref a), (.ref a)])) rfl (by rw [hml]; rfl) (Steps.refl _) (a := a) (argsL := [(.double (FP.i2d (own_di ai))), (.long (own_max (1 : Int64) (b &&& (9223372036854775807 : Int64))))]) (rest := [(.ref a)]) (lenOf pd_dj rfl) rfl (by show 2 * 0 + _ ≤ _; exact Nat.le_of_eq rfl) (hb hby at_49) (fun _ _ => ⟨rfl, e2, (by decide : 1 + 4 ≤ _), (by decide : 5 + 136 ≤ _)⟩)
  dsimp only [Pt.U, Pt.locs, Pt.cells, Pt.slots] at X3 S3 gr3 l3 y3 z3 st3 hQ3
  subst l3 y3 z3
  obtain ⟨rfl, M3, K3, X3e, f30, f31, f32, f33, f34⟩ := hQ3
  have N3 := Fr.app N1 M3
  have hZ3 : Z.Warmed39 (s.setVm T3.vm).vm := State.Warmed39.trans (t := s) hZ S3.1
  have ho3 : (s.setVm T3.vm).vm.findClass "com/example/wheelwise/wheelwise/IncrementalEncoderUpdatePinLaw" = some m.cls := by rw [show (s.setVm T3.vm).vm = T3.vm from rfl, S3.1.alike.findClass]; exact hown
  have Z3 : n0 ≤ T3.heap.size := Nat.le_trans Zn K3.1
  obtain ⟨cq4, kq4, q4a, q4b, q4c⟩ := isOf hZ3 rfl X3e
  obtain ⟨_, _, ⟨T4, L4, k4, n4⟩, -, X4, ⟨Lc4, hQ4, l4, y4, z4⟩, st4⟩ := X3.virtualBack hx (y := (⟨"com/example/wheelwise/wheelwise/IncrementalEncoder", "update", "(J)D"⟩ : MethodName)) (z := (⟨"com/example/wheelwise/wheelwise/IncrementalEncoder", "update", "(J)D"⟩ : MethodName)) ho3 (mvT hZ3 (hw _ (List.mem_of_getElem? (i := 47) rfl))) (mvT hZ3 (hw _ (List.mem_of_getElem? (i := 48) rfl))) (notFace_of_selects (args := #[]) (mvT hZ3 (hw _ (List.mem_of_getElem? (i := 50) rfl)))) (mvT hZ3 (hw _ (List.mem_of_getElem? (i := 50) rfl))) (mvT hZ3 (hw _ (List.mem_of_getElem? (i := 49) rfl))) (by decide) (backOf (W := 0) (rmupf l Z a0 hw [] a c0 (FP.i2d (own_di ai)) (own_max (1 : Int64) (b &&& (9223372036854775807 : Int64))) (0 : Int64) (0 : Int64) T3.heap n0 Z3 f30 f31 f32 f33 f34 X3e ga hm hne) hZ3 (hw _ (List.mem_of_getElem? (i := 51) rfl)) (hw _ (List.mem_of_getElem? (i := 7) rfl)) (by decide) (by decide)) q4a q4c (g := (mkF m 57 #[.val (.long c0), .second, .val (.long c1), .second, .val (.long c2), .second, .val (.int ai), .val (.long b), .second, .val (.int (own_di ai)), .val (.double (FP.i2d (own_di ai))), .second, .val (.long (own_max (1 : Int64) (b &&& (9223372036854775807 : Int64)))), .second, .val (.ref a), .unset, .unset, .unset, .unset, .unset, .unset, .unset, .unset, .unset, .unset, .unset, .unset, .unset, .unset] [(.long c0), (.ref a)])) rfl (by rw [hml]; rfl) (Steps.refl _) (argsL := [(.long c0)]) (rest := []) (lenOf pd_jd rfl) rfl (by show 2 * 0 + _ ≤ _; exact Nat.le_of_eq rfl) (hb hby at_57) (fun _ _ => ⟨rfl, rfl, (by decide : 5 + 0 ≤ _), (by decide : 141 + 0 ≤ _)⟩)
  dsimp only [Pt.U, Pt.locs, Pt.cells, Pt.slots] at X4 l4 y4 z4 st4 hQ4
  subst l4 y4 z4
  obtain ⟨rfl, M4, K4, X4e, f40, f41, f42, f43, f44⟩ := hQ4
  have N4 := Fr.app N3 M4
  have Z4 : n0 ≤ T4.heap.size := Nat.le_trans Z3 K4.1
  have gz4 : T3.heap.size ≤ T4.heap.size := Nat.le_trans (Nat.le_refl _) K4.1
  obtain ⟨cq5, kq5, q5a, q5b, q5c⟩ := isOf hZ3 rfl X4e
  obtain ⟨_, _, ⟨T5, L5, k5, n5⟩, -, X5, ⟨Lc5, hQ5, l5, y5, z5⟩, st5⟩ := X4.virtualBack hx (y := (⟨"com/example/wheelwise/wheelwise/IncrementalEncoder", "update", "(J)D"⟩ : MethodName)) (z := (⟨"com/example/wheelwise/wheelwise/IncrementalEncoder", "update", "(J)D"⟩ : MethodName)) ho3 (mvT hZ3 (hw _ (List.mem_of_getElem? (i := 47) rfl))) (mvT hZ3 (hw _ (List.mem_of_getElem? (i := 48) rfl))) (notFace_of_selects (args := #[]) (mvT hZ3 (hw _ (List.mem_of_getElem? (i := 50) rfl)))) (mvT hZ3 (hw _ (List.mem_of_getElem? (i := 50) rfl))) (mvT hZ3 (hw _ (List.mem_of_getElem? (i := 49) rfl))) (by decide) (backOf (W := 0) (rmupa l Z a0 hw [] a c1 (FP.i2d (own_di ai)) (own_max (1 : Int64) (b &&& (9223372036854775807 : Int64))) (0 : Int64) c0 T4.heap n0 Z4 f40 f41 f42 f43 f44 X4e ga hm hne) hZ3 (hw _ (List.mem_of_getElem? (i := 51) rfl)) (hw _ (List.mem_of_getElem? (i := 7) rfl)) (by decide) (by decide)) q5a q5c (g := (mkF m 65 #[.val (.long c0), .second, .val (.long c1), .second, .val (.long c2), .second, .val (.int ai), .val (.long b), .second, .val (.int (own_di ai)), .val (.double (FP.i2d (own_di ai))), .second, .val (.long (own_max (1 : Int64) (b &&& (9223372036854775807 : Int64)))), .second, .val (.ref a), .val (.double (own_pos (0 : Int64) (FP.i2d (own_di ai)) (own_max (1 : Int64) (b &&& (9223372036854775807 : Int64))))), .second, .unset, .unset, .unset, .unset, .unset, .unset, .unset, .unset, .unset, .unset, .unset, .unset] [(.long c1), (.ref a)])) rfl (by rw [hml]; rfl) (Steps.refl _) (argsL := [(.long c1)]) (rest := []) (lenOf pd_jd rfl) rfl (by show 2 * 0 + _ ≤ _; exact Nat.le_of_eq rfl) (hb hby at_65) (fun _ _ => ⟨rfl, rfl, (by decide : 5 + 0 ≤ _), (by decide : 141 + 0 ≤ _)⟩)
  dsimp only [Pt.U, Pt.locs, Pt.cells, Pt.slots] at X5 l5 y5 z5 st5 hQ5
  subst l5 y5 z5
  obtain ⟨rfl, M5, K5, X5e, f50, f51, f52, f53, f54⟩ := hQ5
  have N5 := Fr.app N4 M5
  have Z5 : n0 ≤ T5.heap.size := Nat.le_trans Z4 K5.1
  have gz5 : T3.heap.size ≤ T5.heap.size := Nat.le_trans (gz4) K5.1
  obtain ⟨cq6, kq6, q6a, q6b, q6c⟩ := isOf hZ3 rfl X5e
  obtain ⟨_, _, ⟨T6, L6, k6, n6⟩, -, X6, ⟨Lc6, hQ6, l6, y6, z6⟩, st6⟩ := X5.virtualBack hx (y := (⟨"com/example/wheelwise/wheelwise/IncrementalEncoder", "update", "(J)D"⟩ : MethodName)) (z := (⟨"com/example/wheelwise/wheelwise/IncrementalEncoder", "update", "(J)D"⟩ : MethodName)) ho3 (mvT hZ3 (hw _ (List.mem_of_getElem? (i := 47) rfl))) (mvT hZ3 (hw _ (List.mem_of_getElem? (i := 48) rfl))) (notFace_of_selects (args := #[]) (mvT hZ3 (hw _ (List.mem_of_getElem? (i := 50) rfl)))) (mvT hZ3 (hw _ (List.mem_of_getElem? (i := 50) rfl))) (mvT hZ3 (hw _ (List.mem_of_getElem? (i := 49) rfl))) (by decide) (backOf (W := 0) (rmupa l Z a0 hw [] a c2 (FP.i2d (own_di ai)) (own_max (1 : Int64) (b &&& (9223372036854775807 : Int64))) (own_T1 c0 c1) c1 T5.heap n0 Z5 f50 f51 f52 f53 f54 X5e ga hm hne) hZ3 (hw _ (List.mem_of_getElem? (i := 51) rfl)) (hw _ (List.mem_of_getElem? (i := 7) rfl)) (by decide) (by decide)) q6a q6c (g := (mkF m 74 #[.val (.long c0), .second, .val (.long c1), .second, .val (.long c2), .second, .val (.int ai), .val (.long b), .second, .val (.int (own_di ai)), .val (.double (FP.i2d (own_di ai))), .second, .val (.long (own_max (1 : Int64) (b &&& (9223372036854775807 : Int64)))), .second, .val (.ref a), .val (.double (own_pos (0 : Int64) (FP.i2d (own_di ai)) (own_max (1 : Int64) (b &&& (9223372036854775807 : Int64))))), .second, .val (.double (own_pos (own_T1 c0 c1) (FP.i2d (own_di ai)) (own_max (1 : Int64) (b &&& (9223372036854775807 : Int64))))), .second, .unset, .unset, .unset, .unset, .unset, .unset, .unset, .unset, .unset, .unset] [(.long c2), (.ref a)])) rfl (by rw [hml]; rfl) (Steps.refl _) (argsL := [(.long c2)]) (rest := []) (lenOf pd_jd rfl) rfl (by show 2 * 0 + _ ≤ _; exact Nat.le_of_eq rfl) (hb hby at_74) (fun _ _ => ⟨rfl, rfl, (by decide : 5 + 0 ≤ _), (by decide : 141 + 0 ≤ _)⟩)
  dsimp only [Pt.U, Pt.locs, Pt.cells, Pt.slots] at X6 l6 y6 z6 st6 hQ6
  subst l6 y6 z6
  obtain ⟨rfl, M6, K6, X6e, f60, f61, f62, f63, f64⟩ := hQ6
  have N6 := Fr.app N5 M6
  have Z6 : n0 ≤ T6.heap.size := Nat.le_trans Z5 K6.1
  have gz6 : T3.heap.size ≤ T6.heap.size := Nat.le_trans (gz5) K6.1
  obtain ⟨cq7, kq7, q7a, q7b, q7c⟩ := isOf hZ3 rfl X6e
  obtain ⟨_, _, ⟨T7, L7, k7, n7⟩, -, X7, ⟨Lc7, hQ7, l7, y7, z7⟩, st7⟩ := X6.virtualBack hx (y := (⟨"com/example/wheelwise/wheelwise/IncrementalEncoder", "update", "(J)D"⟩ : MethodName)) (z := (⟨"com/example/wheelwise/wheelwise/IncrementalEncoder", "update", "(J)D"⟩ : MethodName)) ho3 (mvT hZ3 (hw _ (List.mem_of_getElem? (i := 47) rfl))) (mvT hZ3 (hw _ (List.mem_of_getElem? (i := 48) rfl))) (notFace_of_selects (args := #[]) (mvT hZ3 (hw _ (List.mem_of_getElem? (i := 50) rfl)))) (mvT hZ3 (hw _ (List.mem_of_getElem? (i := 50) rfl))) (mvT hZ3 (hw _ (List.mem_of_getElem? (i := 49) rfl))) (by decide) (backOf (W := 0) (rmupa l Z a0 hw [] a c0 (FP.i2d (own_di ai)) (own_max (1 : Int64) (b &&& (9223372036854775807 : Int64))) (own_T2 c0 c1 c2) c2 T6.heap n0 Z6 f60 f61 f62 f63 f64 X6e ga hm hne) hZ3 (hw _ (List.mem_of_getElem? (i := 51) rfl)) (hw _ (List.mem_of_getElem? (i := 7) rfl)) (by decide) (by decide)) q7a q7c (g := (mkF m 82 #[.val (.long c0), .second, .val (.long c1), .second, .val (.long c2), .second, .val (.int ai), .val (.long b), .second, .val (.int (own_di ai)), .val (.double (FP.i2d (own_di ai))), .second, .val (.long (own_max (1 : Int64) (b &&& (9223372036854775807 : Int64)))), .second, .val (.ref a), .val (.double (own_pos (0 : Int64) (FP.i2d (own_di ai)) (own_max (1 : Int64) (b &&& (9223372036854775807 : Int64))))), .second, .val (.double (own_pos (own_T1 c0 c1) (FP.i2d (own_di ai)) (own_max (1 : Int64) (b &&& (9223372036854775807 : Int64))))), .second, .val (.double (own_pos (own_T2 c0 c1 c2) (FP.i2d (own_di ai)) (own_max (1 : Int64) (b &&& (9223372036854775807 : Int64))))), .second, .unset, .unset, .unset, .unset, .unset, .unset, .unset, .unset] [(.long c0), (.ref a)])) rfl (by rw [hml]; rfl) (Steps.refl _) (argsL := [(.long c0)]) (rest := []) (lenOf pd_jd rfl) rfl (by show 2 * 0 + _ ≤ _; exact Nat.le_of_eq rfl) (hb hby at_82) (fun _ _ => ⟨rfl, rfl, (by decide : 5 + 0 ≤ _), (by decide : 141 + 0 ≤ _)⟩)
  dsimp only [Pt.U, Pt.locs, Pt.cells, Pt.slots] at X7 l7 y7 z7 st7 hQ7
  subst l7 y7 z7
  obtain ⟨rfl, M7, K7, X7e, f70, f71, f72, f73, f74⟩ := hQ7
  have N7 := Fr.app N6 M7
  have Z7 : n0 ≤ T7.heap.size := Nat.le_trans Z6 K7.1
  have gz7 : T3.heap.size ≤ T7.heap.size := Nat.le_trans (gz6) K7.1
  obtain ⟨_, _, ⟨T8, L8, k8, n8⟩, -, X8, ⟨Lc8, hQ8, l8, y8, z8⟩, st8⟩ := Jvm.LawKit.callS X7 hx (y := (⟨"com/example/wheelwise/wheelwise/IncrementalEncoderUpdatePinLaw", "step", "(JJ)J"⟩ : MethodName)) ho3 (mvT hZ3 (hw _ (List.mem_of_getElem? (i := 58) rfl))) (mvT hZ3 (hw _ (List.mem_of_getElem? (i := 59) rfl))) (mvT hZ3 (hw _ (List.mem_of_getElem? (i := 60) rfl))) (mvT hZ3 (hw _ (List.mem_of_getElem? (i := 61) rfl))) (by decide) (backOf (W := 0) (rmstp l Z a0 hw [] c0 c1 T7.heap n0 Z7) hZ3 (hw _ (List.mem_of_getElem? (i := 61) rfl)) (hw _ (List.mem_of_getElem? (i := 60) rfl)) (by decide) (by decide)) (g := (mkF m 89 #[.val (.long c0), .second, .val (.long c1), .second, .val (.long c2), .second, .val (.int ai), .val (.long b), .second, .val (.int (own_di ai)), .val (.double (FP.i2d (own_di ai))), .second, .val (.long (own_max (1 : Int64) (b &&& (9223372036854775807 : Int64)))), .second, .val (.ref a), .val (.double (own_pos (0 : Int64) (FP.i2d (own_di ai)) (own_max (1 : Int64) (b &&& (9223372036854775807 : Int64))))), .second, .val (.double (own_pos (own_T1 c0 c1) (FP.i2d (own_di ai)) (own_max (1 : Int64) (b &&& (9223372036854775807 : Int64))))), .second, .val (.double (own_pos (own_T2 c0 c1 c2) (FP.i2d (own_di ai)) (own_max (1 : Int64) (b &&& (9223372036854775807 : Int64))))), .second, .val (.double (own_pos (own_T3 c0 c1 c2) (FP.i2d (own_di ai)) (own_max (1 : Int64) (b &&& (9223372036854775807 : Int64))))), .second, .unset, .unset, .unset, .unset, .unset, .unset] [(.long c1), (.long c0)])) rfl (by rw [hml]; rfl) (argsL := [(.long c0), (.long c1)]) (rest := []) (lenOf pd_jj rfl) rfl (by show 2 * 0 + _ ≤ _; exact Nat.le_of_eq rfl) (hb hby at_89) (fun _ _ => ⟨rfl, rfl, (by decide : 5 + 0 ≤ _), (by decide : 141 + 0 ≤ _)⟩)
  dsimp only [Pt.U, Pt.locs, Pt.cells, Pt.slots] at X8 l8 y8 z8 st8 hQ8
  subst l8 y8 z8
  obtain ⟨rfl, M8, u8⟩ := hQ8
  have N8 := Fr.app N7 M8
  have q8 : T8.heap = T7.heap := u8
  obtain ⟨_, _, ⟨T9, L9, k9, n9⟩, -, X9, ⟨Lc9, hQ9, l9, y9, z9⟩, st9⟩ := Jvm.LawKit.callS X8 hx (y := (⟨"com/example/wheelwise/wheelwise/IncrementalEncoderUpdatePinLaw", "step", "(JJ)J"⟩ : MethodName)) ho3 (mvT hZ3 (hw _ (List.mem_of_getElem? (i := 58) rfl))) (mvT hZ3 (hw _ (List.mem_of_getElem? (i := 59) rfl))) (mvT hZ3 (hw _ (List.mem_of_getElem? (i := 60) rfl))) (mvT hZ3 (hw _ (List.mem_of_getElem? (i := 61) rfl))) (by decide) (backOf (W := 2) (rmstp l Z a0 hw [] c1 c2 T7.heap n0 Z7) hZ3 (hw _ (List.mem_of_getElem? (i := 61) rfl)) (hw _ (List.mem_of_getElem? (i := 60) rfl)) (by decide) (by decide)) (g := (mkF m 99 #[.val (.long c0), .second, .val (.long c1), .second, .val (.long c2), .second, .val (.int ai), .val (.long b), .second, .val (.int (own_di ai)), .val (.double (FP.i2d (own_di ai))), .second, .val (.long (own_max (1 : Int64) (b &&& (9223372036854775807 : Int64)))), .second, .val (.ref a), .val (.double (own_pos (0 : Int64) (FP.i2d (own_di ai)) (own_max (1 : Int64) (b &&& (9223372036854775807 : Int64))))), .second, .val (.double (own_pos (own_T1 c0 c1) (FP.i2d (own_di ai)) (own_max (1 : Int64) (b &&& (9223372036854775807 : Int64))))), .second, .val (.double (own_pos (own_T2 c0 c1 c2) (FP.i2d (own_di ai)) (own_max (1 : Int64) (b &&& (9223372036854775807 : Int64))))), .second, .val (.double (own_pos (own_T3 c0 c1 c2) (FP.i2d (own_di ai)) (own_max (1 : Int64) (b &&& (9223372036854775807 : Int64))))), .second, .val (.long (own_t1 c0 c1)), .second, .unset, .unset, .unset, .unset] [(.long c2), (.long c1), (.long (own_t1 c0 c1))])) rfl (by rw [hml]; rfl) (argsL := [(.long c1), (.long c2)]) (rest := [(.long (own_t1 c0 c1))]) (lenOf pd_jj rfl) rfl (by show 2 * 0 + _ ≤ _; exact Nat.le_of_eq rfl) (hb hby at_99) (fun _ _ => ⟨rfl, q8, (by decide : 5 + 0 ≤ _), (by decide : 141 + 0 ≤ _)⟩)
  dsimp only [Pt.U, Pt.locs, Pt.cells, Pt.slots] at X9 l9 y9 z9 st9 hQ9
  subst l9 y9 z9
  obtain ⟨rfl, M9, u9⟩ := hQ9
  have N9 := Fr.app N8 M9
  have q9 : T9.heap = T7.heap := u9
  obtain ⟨_, _, ⟨T10, L10, k10, n10⟩, -, X10, ⟨Lc10, hQ10, l10, y10, z10⟩, st10⟩ := Jvm.LawKit.callS X9 hx (y := (⟨"com/example/wheelwise/wheelwise/IncrementalEncoderUpdatePinLaw", "step", "(JJ)J"⟩ : MethodName)) ho3 (mvT hZ3 (hw _ (List.mem_of_getElem? (i := 58) rfl))) (mvT hZ3 (hw _ (List.mem_of_getElem? (i := 59) rfl))) (mvT hZ3 (hw _ (List.mem_of_getElem? (i := 60) rfl))) (mvT hZ3 (hw _ (List.mem_of_getElem? (i := 61) rfl))) (by decide) (backOf (W := 2) (rmstp l Z a0 hw [] c2 c0 T7.heap n0 Z7) hZ3 (hw _ (List.mem_of_getElem? (i := 61) rfl)) (hw _ (List.mem_of_getElem? (i := 60) rfl)) (by decide) (by decide)) (g := (mkF m 110 #[.val (.long c0), .second, .val (.long c1), .second, .val (.long c2), .second, .val (.int ai), .val (.long b), .second, .val (.int (own_di ai)), .val (.double (FP.i2d (own_di ai))), .second, .val (.long (own_max (1 : Int64) (b &&& (9223372036854775807 : Int64)))), .second, .val (.ref a), .val (.double (own_pos (0 : Int64) (FP.i2d (own_di ai)) (own_max (1 : Int64) (b &&& (9223372036854775807 : Int64))))), .second, .val (.double (own_pos (own_T1 c0 c1) (FP.i2d (own_di ai)) (own_max (1 : Int64) (b &&& (9223372036854775807 : Int64))))), .second, .val (.double (own_pos (own_T2 c0 c1 c2) (FP.i2d (own_di ai)) (own_max (1 : Int64) (b &&& (9223372036854775807 : Int64))))), .second, .val (.double (own_pos (own_T3 c0 c1 c2) (FP.i2d (own_di ai)) (own_max (1 : Int64) (b &&& (9223372036854775807 : Int64))))), .second, .val (.long (own_t1 c0 c1)), .second, .val (.long (own_t2 c0 c1 c2)), .second, .unset, .unset] [(.long c0), (.long c2), (.long (own_t2 c0 c1 c2))])) rfl (by rw [hml]; rfl) (argsL := [(.long c2), (.long c0)]) (rest := [(.long (own_t2 c0 c1 c2))]) (lenOf pd_jj rfl) rfl (by show 2 * 0 + _ ≤ _; exact Nat.le_of_eq rfl) (hb hby at_110) (fun _ _ => ⟨rfl, q9, (by decide : 5 + 0 ≤ _), (by decide : 141 + 0 ≤ _)⟩)
  dsimp only [Pt.U, Pt.locs, Pt.cells, Pt.slots] at X10 l10 y10 z10 st10 hQ10
  subst l10 y10 z10
  obtain ⟨rfl, M10, u10⟩ := hQ10
  have N10 := Fr.app N9 M10
  have q10 : T10.heap = T7.heap := u10
  obtain ⟨_, _, ⟨T11, L11, k11, n11⟩, -, X11, ⟨Lc11, hQ11, l11, y11, z11⟩, st11⟩ := Jvm.LawKit.callS X10 hx (y := (⟨"com/example/wheelwise/wheelwise/IncrementalEncoderUpdatePinLaw", "pos", "(JDJ)D"⟩ : MethodName)) ho3 (mvT hZ3 (hw _ (List.mem_of_getElem? (i := 62) rfl))) (mvT hZ3 (hw _ (List.mem_of_getElem? (i := 63) rfl))) (mvT hZ3 (hw _ (List.mem_of_getElem? (i := 60) rfl))) (mvT hZ3 (hw _ (List.mem_of_getElem? (i := 64) rfl))) (by decide) (backOf (W := 2) (rmpos l Z a0 hw [] (own_t1 c0 c1) (FP.i2d (own_di ai)) (own_max (1 : Int64) (b &&& (9223372036854775807 : Int64))) T7.heap n0 Z7 hm hne) hZ3 (hw _ (List.mem_of_getElem? (i := 64) rfl)) (hw _ (List.mem_of_getElem? (i := 60) rfl)) (by decide) (by decide)) (g := (mkF m 131 #[.val (.long c0), .second, .val (.long c1), .second, .val (.long c2), .second, .val (.int ai), .val (.long b), .second, .val (.int (own_di ai)), .val (.double (FP.i2d (own_di ai))), .second, .val (.long (own_max (1 : Int64) (b &&& (9223372036854775807 : Int64)))), .second, .val (.ref a), .val (.double (own_pos (0 : Int64) (FP.i2d (own_di ai)) (own_max (1 : Int64) (b &&& (9223372036854775807 : Int64))))), .second, .val (.double (own_pos (own_T1 c0 c1) (FP.i2d (own_di ai)) (own_max (1 : Int64) (b &&& (9223372036854775807 : Int64))))), .second, .val (.double (own_pos (own_T2 c0 c1 c2) (FP.i2d (own_di ai)) (own_max (1 : Int64) (b &&& (9223372036854775807 : Int64))))), .second, .val (.double (own_pos (own_T3 c0 c1 c2) (FP.i2d (own_di ai)) (own_max (1 : Int64) (b &&& (9223372036854775807 : Int64))))), .second, .val (.long (own_t1 c0 c1)), .second, .val (.long (own_t2 c0 c1 c2)), .second, .val (.long (own_t3 c0 c1 c2)), .second] [(.long (own_max (1 : Int64) (b &&& (9223372036854775807 : Int64)))), (.double (FP.i2d (own_di ai))), (.long (own_t1 c0 c1)), (.double (own_pos (own_T1 c0 c1) (FP.i2d (own_di ai)) (own_max (1 : Int64) (b &&& (9223372036854775807 : Int64)))))])) rfl (by rw [hml]; rfl) (argsL := [(.long (own_t1 c0 c1)), (.double (FP.i2d (own_di ai))), (.long (own_max (1 : Int64) (b &&& (9223372036854775807 : Int64))))]) (rest := [(.double (own_pos (own_T1 c0 c1) (FP.i2d (own_di ai)) (own_max (1 : Int64) (b &&& (9223372036854775807 : Int64)))))]) (lenOf pd_jdj rfl) rfl (by show 2 * 0 + _ ≤ _; exact Nat.le_of_eq rfl) (hb hby at_131) (fun _ _ => ⟨rfl, q10, (by decide : 5 + 0 ≤ _), (by decide : 141 + 0 ≤ _)⟩)
  dsimp only [Pt.U, Pt.locs, Pt.cells, Pt.slots] at X11 l11 y11 z11 st11 hQ11
  subst l11 y11 z11
  obtain ⟨rfl, M11, u11⟩ := hQ11
  have N11 := Fr.app N10 M11
  have q11 : T11.heap = T7.heap := u11
  obtain ⟨_, _, ⟨T12, L12, k12, n12⟩, -, X12, ⟨Lc12, hQ12, l12, y12, z12⟩, st12⟩ := Jvm.LawKit.callS X11 hx (y := (⟨"com/example/wheelwise/wheelwise/IncrementalEncoderUpdatePinLaw", "pos", "(JDJ)D"⟩ : MethodName)) ho3 (mvT hZ3 (hw _ (List.mem_of_getElem? (i := 62) rfl))) (mvT hZ3 (hw _ (List.mem_of_getElem? (i := 63) rfl))) (mvT hZ3 (hw _ (List.mem_of_getElem? (i := 60) rfl))) (mvT hZ3 (hw _ (List.mem_of_getElem? (i := 64) rfl))) (by decide) (backOf (W := 2) (rmpos l Z a0 hw [] (own_t2 c0 c1 c2) (FP.i2d (own_di ai)) (own_max (1 : Int64) (b &&& (9223372036854775807 : Int64))) T7.heap n0 Z7 hm hne) hZ3 (hw _ (List.mem_of_getElem? (i := 64) rfl)) (hw _ (List.mem_of_getElem? (i := 60) rfl)) (by decide) (by decide)) (g := (mkF m 146 #[.val (.long c0), .second, .val (.long c1), .second, .val (.long c2), .second, .val (.int ai), .val (.long b), .second, .val (.int (own_di ai)), .val (.double (FP.i2d (own_di ai))), .second, .val (.long (own_max (1 : Int64) (b &&& (9223372036854775807 : Int64)))), .second, .val (.ref a), .val (.double (own_pos (0 : Int64) (FP.i2d (own_di ai)) (own_max (1 : Int64) (b &&& (9223372036854775807 : Int64))))), .second, .val (.double (own_pos (own_T1 c0 c1) (FP.i2d (own_di ai)) (own_max (1 : Int64) (b &&& (9223372036854775807 : Int64))))), .second, .val (.double (own_pos (own_T2 c0 c1 c2) (FP.i2d (own_di ai)) (own_max (1 : Int64) (b &&& (9223372036854775807 : Int64))))), .second, .val (.double (own_pos (own_T3 c0 c1 c2) (FP.i2d (own_di ai)) (own_max (1 : Int64) (b &&& (9223372036854775807 : Int64))))), .second, .val (.long (own_t1 c0 c1)), .second, .val (.long (own_t2 c0 c1 c2)), .second, .val (.long (own_t3 c0 c1 c2)), .second] [(.long (own_max (1 : Int64) (b &&& (9223372036854775807 : Int64)))), (.double (FP.i2d (own_di ai))), (.long (own_t2 c0 c1 c2)), (.double (own_pos (own_T2 c0 c1 c2) (FP.i2d (own_di ai)) (own_max (1 : Int64) (b &&& (9223372036854775807 : Int64)))))])) rfl (by rw [hml]; rfl) (argsL := [(.long (own_t2 c0 c1 c2)), (.double (FP.i2d (own_di ai))), (.long (own_max (1 : Int64) (b &&& (9223372036854775807 : Int64))))]) (rest := [(.double (own_pos (own_T2 c0 c1 c2) (FP.i2d (own_di ai)) (own_max (1 : Int64) (b &&& (9223372036854775807 : Int64)))))]) (lenOf pd_jdj rfl) rfl (by show 2 * 0 + _ ≤ _; exact Nat.le_of_eq rfl) (hb hby at_146) (fun _ _ => ⟨rfl, q11, (by decide : 5 + 0 ≤ _), (by decide : 141 + 0 ≤ _)⟩)
  dsimp only [Pt.U, Pt.locs, Pt.cells, Pt.slots] at X12 l12 y12 z12 st12 hQ12
  subst l12 y12 z12
  obtain ⟨rfl, M12, u12⟩ := hQ12
  have N12 := Fr.app N11 M12
  have q12 : T12.heap = T7.heap := u12
  obtain ⟨_, _, ⟨T13, L13, k13, n13⟩, -, X13, ⟨Lc13, hQ13, l13, y13, z13⟩, st13⟩ := Jvm.LawKit.callS X12 hx (y := (⟨"com/example/wheelwise/wheelwise/IncrementalEncoderUpdatePinLaw", "pos", "(JDJ)D"⟩ : MethodName)) ho3 (mvT hZ3 (hw _ (List.mem_of_getElem? (i := 62) rfl))) (mvT hZ3 (hw _ (List.mem_of_getElem? (i := 63) rfl))) (mvT hZ3 (hw _ (List.mem_of_getElem? (i := 60) rfl))) (mvT hZ3 (hw _ (List.mem_of_getElem? (i := 64) rfl))) (by decide) (backOf (W := 2) (rmpos l Z a0 hw [] (own_t3 c0 c1 c2) (FP.i2d (own_di ai)) (own_max (1 : Int64) (b &&& (9223372036854775807 : Int64))) T7.heap n0 Z7 hm hne) hZ3 (hw _ (List.mem_of_getElem? (i := 64) rfl)) (hw _ (List.mem_of_getElem? (i := 60) rfl)) (by decide) (by decide)) (g := (mkF m 161 #[.val (.long c0), .second, .val (.long c1), .second, .val (.long c2), .second, .val (.int ai), .val (.long b), .second, .val (.int (own_di ai)), .val (.double (FP.i2d (own_di ai))), .second, .val (.long (own_max (1 : Int64) (b &&& (9223372036854775807 : Int64)))), .second, .val (.ref a), .val (.double (own_pos (0 : Int64) (FP.i2d (own_di ai)) (own_max (1 : Int64) (b &&& (9223372036854775807 : Int64))))), .second, .val (.double (own_pos (own_T1 c0 c1) (FP.i2d (own_di ai)) (own_max (1 : Int64) (b &&& (9223372036854775807 : Int64))))), .second, .val (.double (own_pos (own_T2 c0 c1 c2) (FP.i2d (own_di ai)) (own_max (1 : Int64) (b &&& (9223372036854775807 : Int64))))), .second, .val (.double (own_pos (own_T3 c0 c1 c2) (FP.i2d (own_di ai)) (own_max (1 : Int64) (b &&& (9223372036854775807 : Int64))))), .second, .val (.long (own_t1 c0 c1)), .second, .val (.long (own_t2 c0 c1 c2)), .second, .val (.long (own_t3 c0 c1 c2)), .second] [(.long (own_max (1 : Int64) (b &&& (9223372036854775807 : Int64)))), (.double (FP.i2d (own_di ai))), (.long (own_t3 c0 c1 c2)), (.double (own_pos (own_T3 c0 c1 c2) (FP.i2d (own_di ai)) (own_max (1 : Int64) (b &&& (9223372036854775807 : Int64)))))])) rfl (by rw [hml]; rfl) (argsL := [(.long (own_t3 c0 c1 c2)), (.double (FP.i2d (own_di ai))), (.long (own_max (1 : Int64) (b &&& (9223372036854775807 : Int64))))]) (rest := [(.double (own_pos (own_T3 c0 c1 c2) (FP.i2d (own_di ai)) (own_max (1 : Int64) (b &&& (9223372036854775807 : Int64)))))]) (lenOf pd_jdj rfl) rfl (by show 2 * 0 + _ ≤ _; exact Nat.le_of_eq rfl) (hb hby at_161) (fun _ _ => ⟨rfl, q12, (by decide : 5 + 0 ≤ _), (by decide : 141 + 0 ≤ _)⟩)
  dsimp only [Pt.U, Pt.locs, Pt.cells, Pt.slots] at X13 l13 y13 z13 st13 hQ13
  subst l13 y13 z13
  obtain ⟨rfl, M13, u13⟩ := hQ13
  have N13 := Fr.app N12 M13
  have q13 : T13.heap = T7.heap := u13
  have hle : T3.heap.size ≤ T13.heap.size := by rw [q13]; exact gz7
  obtain ⟨fs, hr, hrun, hended, hRW⟩ := X13.leaveW S3 hle (v := some (.int (1 : Int32))) (fun h => by rw [Bd.returns] at h; cases h)
  refine ⟨_, _, pre0 _ ?_, hrun, hended, _, _, rfl, ?_, hRW⟩
  · show Steps p.tables e below (s₁.setTop (mkF m 0 #[.val (.long c0), .second, .val (.long c1), .second, .val (.long c2), .second, .val (.int ai), .val (.long b), .second, .unset, .unset, .unset, .unset, .unset, .unset, .unset, .unset, .unset, .unset, .unset, .unset, .unset, .unset, .unset, .unset, .unset, .unset, .unset, .unset] [])) _
    refine XS.iload X0.here hx rfl (hb hby at_0) rfl ?_
    show Steps p.tables e below (s₁.setTop (mkF m 2 #[.val (.long c0), .second, .val (.long c1), .second, .val (.long c2), .second, .val (.int ai), .val (.long b), .second, .unset, .unset, .unset, .unset, .unset, .unset, .unset, .unset, .unset, .unset, .unset, .unset, .unset, .unset, .unset, .unset, .unset, .unset, .unset, .unset] [(.int ai)])) _
    refine XS.iconst X0.here hx rfl (hb hby at_2) ?_
    show Steps p.tables e below (s₁.setTop (mkF m 3 #[.val (.long c0), .second, .val (.long c1), .second, .val (.long c2), .second, .val (.int ai), .val (.long b), .second, .unset, .unset, .unset, .unset, .unset, .unset, .unset, .unset, .unset, .unset, .unset, .unset, .unset, .unset, .unset, .unset, .unset, .unset, .unset, .unset] [(.int (1 : Int32)), (.int ai)])) _
    refine XS.ishr X0.here hx rfl (hb hby at_3) rfl ?_
    show Steps p.tables e below (s₁.setTop (mkF m 4 #[.val (.long c0), .second, .val (.long c1), .second, .val (.long c2), .second, .val (.int ai), .val (.long b), .second, .unset, .unset, .unset, .unset, .unset, .unset, .unset, .unset, .unset, .unset, .unset, .unset, .unset, .unset, .unset, .unset, .unset, .unset, .unset, .unset] [(.int (ai >>> ((1 : Int32) &&& 31)))])) _
    refine XS.sipush X0.here hx rfl (hb hby at_4) ?_
    show Steps p.tables e below (s₁.setTop (mkF m 7 #[.val (.long c0), .second, .val (.long c1), .second, .val (.long c2), .second, .val (.int ai), .val (.long b), .second, .unset, .unset, .unset, .unset, .unset, .unset, .unset, .unset, .unset, .unset, .unset, .unset, .unset, .unset, .unset, .unset, .unset, .unset, .unset, .unset] [(.int (1023 : Int32)), (.int (ai >>> ((1 : Int32) &&& 31)))])) _
    refine XS.iand X0.here hx rfl (hb hby at_7) rfl ?_
    show Steps p.tables e below (s₁.setTop (mkF m 8 #[.val (.long c0), .second, .val (.long c1), .second, .val (.long c2), .second, .val (.int ai), .val (.long b), .second, .unset, .unset, .unset, .unset, .unset, .unset, .unset, .unset, .unset, .unset, .unset, .unset, .unset, .unset, .unset, .unset, .unset, .unset, .unset, .unset] [(.int ((ai >>> ((1 : Int32) &&& 31)) &&& (1023 : Int32)))])) _
    refine XS.iconst X0.here hx rfl (hb hby at_8) ?_
    show Steps p.tables e below (s₁.setTop (mkF m 9 #[.val (.long c0), .second, .val (.long c1), .second, .val (.long c2), .second, .val (.int ai), .val (.long b), .second, .unset, .unset, .unset, .unset, .unset, .unset, .unset, .unset, .unset, .unset, .unset, .unset, .unset, .unset, .unset, .unset, .unset, .unset, .unset, .unset] [(.int (1 : Int32)), (.int ((ai >>> ((1 : Int32) &&& 31)) &&& (1023 : Int32)))])) _
    refine XS.iadd X0.here hx rfl (hb hby at_9) rfl ?_
    show Steps p.tables e below (s₁.setTop (mkF m 10 #[.val (.long c0), .second, .val (.long c1), .second, .val (.long c2), .second, .val (.int ai), .val (.long b), .second, .unset, .unset, .unset, .unset, .unset, .unset, .unset, .unset, .unset, .unset, .unset, .unset, .unset, .unset, .unset, .unset, .unset, .unset, .unset, .unset] [(.int (own_k ai))])) _
    refine XS.istore X0.here hx rfl (hb hby at_10) rfl (l' := #[.val (.long c0), .second, .val (.long c1), .second, .val (.long c2), .second, .val (.int ai), .val (.long b), .second, .val (.int (own_k ai)), .unset, .unset, .unset, .unset, .unset, .unset, .unset, .unset, .unset, .unset, .unset, .unset, .unset, .unset, .unset, .unset, .unset, .unset, .unset]) rfl ?_
    show Steps p.tables e below (s₁.setTop (mkF m 12 #[.val (.long c0), .second, .val (.long c1), .second, .val (.long c2), .second, .val (.int ai), .val (.long b), .second, .val (.int (own_k ai)), .unset, .unset, .unset, .unset, .unset, .unset, .unset, .unset, .unset, .unset, .unset, .unset, .unset, .unset, .unset, .unset, .unset, .unset, .unset] [])) _
    refine sg1 _ ?_
    show Steps p.tables e below (s₁.setTop (mkF m 24 #[.val (.long c0), .second, .val (.long c1), .second, .val (.long c2), .second, .val (.int ai), .val (.long b), .second, .val (.int (own_di ai)), .unset, .unset, .unset, .unset, .unset, .unset, .unset, .unset, .unset, .unset, .unset, .unset, .unset, .unset, .unset, .unset, .unset, .unset, .unset] [])) _
    refine XS.iload X0.here hx rfl (hb hby at_24) rfl ?_
    show Steps p.tables e below (s₁.setTop (mkF m 26 #[.val (.long c0), .second, .val (.long c1), .second, .val (.long c2), .second, .val (.int ai), .val (.long b), .second, .val (.int (own_di ai)), .unset, .unset, .unset, .unset, .unset, .unset, .unset, .unset, .unset, .unset, .unset, .unset, .unset, .unset, .unset, .unset, .unset, .unset, .unset] [(.int (own_di ai))])) _
    refine XS.i2dS X0.here hx rfl (hb hby at_26) rfl rfl ?_
    show Steps p.tables e below (s₁.setTop (mkF m 27 #[.val (.long c0), .second, .val (.long c1), .second, .val (.long c2), .second, .val (.int ai), .val (.long b), .second, .val (.int (own_di ai)), .unset, .unset, .unset, .unset, .unset, .unset, .unset, .unset, .unset, .unset, .unset, .unset, .unset, .unset, .unset, .unset, .unset, .unset, .unset] [(.double (FP.i2d (own_di ai)))])) _
    refine XS.dstore X0.here hx rfl (hb hby at_27) rfl (l' := #[.val (.long c0), .second, .val (.long c1), .second, .val (.long c2), .second, .val (.int ai), .val (.long b), .second, .val (.int (own_di ai)), .val (.double (FP.i2d (own_di ai))), .second, .unset, .unset, .unset, .unset, .unset, .unset, .unset, .unset, .unset, .unset, .unset, .unset, .unset, .unset, .unset, .unset, .unset]) rfl ?_
    show Steps p.tables e below (s₁.setTop (mkF m 29 #[.val (.long c0), .second, .val (.long c1), .second, .val (.long c2), .second, .val (.int ai), .val (.long b), .second, .val (.int (own_di ai)), .val (.double (FP.i2d (own_di ai))), .second, .unset, .unset, .unset, .unset, .unset, .unset, .unset, .unset, .unset, .unset, .unset, .unset, .unset, .unset, .unset, .unset, .unset] [])) _
    refine XS.lconst X0.here hx rfl (hb hby at_29) ?_
    show Steps p.tables e below (s₁.setTop (mkF m 30 #[.val (.long c0), .second, .val (.long c1), .second, .val (.long c2), .second, .val (.int ai), .val (.long b), .second, .val (.int (own_di ai)), .val (.double (FP.i2d (own_di ai))), .second, .unset, .unset, .unset, .unset, .unset, .unset, .unset, .unset, .unset, .unset, .unset, .unset, .unset, .unset, .unset, .unset, .unset] [(.long (1 : Int64))])) _
    refine XS.lload X0.here hx rfl (hb hby at_30) rfl ?_
    show Steps p.tables e below (s₁.setTop (mkF m 32 #[.val (.long c0), .second, .val (.long c1), .second, .val (.long c2), .second, .val (.int ai), .val (.long b), .second, .val (.int (own_di ai)), .val (.double (FP.i2d (own_di ai))), .second, .unset, .unset, .unset, .unset, .unset, .unset, .unset, .unset, .unset, .unset, .unset, .unset, .unset, .unset, .unset, .unset, .unset] [(.long b), (.long (1 : Int64))])) _
    refine X0.ldc2Long hx hown (mvT hZ (hw _ (List.mem_of_getElem? (i := 0) rfl))) (g := (mkF m 32 #[.val (.long c0), .second, .val (.long c1), .second, .val (.long c2), .second, .val (.int ai), .val (.long b), .second, .val (.int (own_di ai)), .val (.double (FP.i2d (own_di ai))), .second, .unset, .unset, .unset, .unset, .unset, .unset, .unset, .unset, .unset, .unset, .unset, .unset, .unset, .unset, .unset, .unset, .unset] [(.long b), (.long (1 : Int64))])) rfl (hb hby at_32) _ ?_
    show Steps p.tables e below (s₁.setTop (mkF m 35 #[.val (.long c0), .second, .val (.long c1), .second, .val (.long c2), .second, .val (.int ai), .val (.long b), .second, .val (.int (own_di ai)), .val (.double (FP.i2d (own_di ai))), .second, .unset, .unset, .unset, .unset, .unset, .unset, .unset, .unset, .unset, .unset, .unset, .unset, .unset, .unset, .unset, .unset, .unset] [(.long (9223372036854775807 : Int64)), (.long b), (.long (1 : Int64))])) _
    refine XS.land X0.here hx rfl (hb hby at_35) rfl ?_
    show Steps p.tables e below (s₁.setTop (mkF m 36 #[.val (.long c0), .second, .val (.long c1), .second, .val (.long c2), .second, .val (.int ai), .val (.long b), .second, .val (.int (own_di ai)), .val (.double (FP.i2d (own_di ai))), .second, .unset, .unset, .unset, .unset, .unset, .unset, .unset, .unset, .unset, .unset, .unset, .unset, .unset, .unset, .unset, .unset, .unset] [(.long (b &&& (9223372036854775807 : Int64))), (.long (1 : Int64))])) _
    refine st1 _ ?_
    show Steps p.tables e below (T1.setTop (mkF m 39 #[.val (.long c0), .second, .val (.long c1), .second, .val (.long c2), .second, .val (.int ai), .val (.long b), .second, .val (.int (own_di ai)), .val (.double (FP.i2d (own_di ai))), .second, .unset, .unset, .unset, .unset, .unset, .unset, .unset, .unset, .unset, .unset, .unset, .unset, .unset, .unset, .unset, .unset, .unset] [(.long (own_max (1 : Int64) (b &&& (9223372036854775807 : Int64))))])) _
    refine XS.lstore X1.here hx rfl (hb hby at_39) rfl (l' := #[.val (.long c0), .second, .val (.long c1), .second, .val (.long c2), .second, .val (.int ai), .val (.long b), .second, .val (.int (own_di ai)), .val (.double (FP.i2d (own_di ai))), .second, .val (.long (own_max (1 : Int64) (b &&& (9223372036854775807 : Int64)))), .second, .unset, .unset, .unset, .unset, .unset, .unset, .unset, .unset, .unset, .unset, .unset, .unset, .unset, .unset, .unset]) rfl ?_
    show Steps p.tables e below (T1.setTop (mkF m 41 #[.val (.long c0), .second, .val (.long c1), .second, .val (.long c2), .second, .val (.int ai), .val (.long b), .second, .val (.int (own_di ai)), .val (.double (FP.i2d (own_di ai))), .second, .val (.long (own_max (1 : Int64) (b &&& (9223372036854775807 : Int64)))), .second, .unset, .unset, .unset, .unset, .unset, .unset, .unset, .unset, .unset, .unset, .unset, .unset, .unset, .unset, .unset] [])) _
    refine st2 _ ?_
    show Steps p.tables e below (T2.setTop (mkF m 44 #[.val (.long c0), .second, .val (.long c1), .second, .val (.long c2), .second, .val (.int ai), .val (.long b), .second, .val (.int (own_di ai)), .val (.double (FP.i2d (own_di ai))), .second, .val (.long (own_max (1 : Int64) (b &&& (9223372036854775807 : Int64)))), .second, .unset, .unset, .unset, .unset, .unset, .unset, .unset, .unset, .unset, .unset, .unset, .unset, .unset, .unset, .unset] [(.ref a)])) _
    refine XS.dup X2.here hx rfl (hb hby at_44) rfl rfl ?_
    show Steps p.tables e below (T2.setTop (mkF m 45 #[.val (.long c0), .second, .val (.long c1), .second, .val (.long c2), .second, .val (.int ai), .val (.long b), .second, .val (.int (own_di ai)), .val (.double (FP.i2d (own_di ai))), .second, .val (.long (own_max (1 : Int64) (b &&& (9223372036854775807 : Int64)))), .second, .unset, .unset, .unset, .unset, .unset, .unset, .unset, .unset, .unset, .unset, .unset, .unset, .unset, .unset, .unset] [(.ref a), (.ref a)])) _
    refine XS.dload X2.here hx rfl (hb hby at_45) rfl ?_
    show Steps p.tables e below (T2.setTop (mkF m 47 #[.val (.long c0), .second, .val (.long c1), .second, .val (.long c2), .second, .val (.int ai), .val (.long b), .second, .val (.int (own_di ai)), .val (.double (FP.i2d (own_di ai))), .second, .val (.long (own_max (1 : Int64) (b &&& (9223372036854775807 : Int64)))), .second, .unset, .unset, .unset, .unset, .unset, .unset, .unset, .unset, .unset, .unset, .unset, .unset, .unset, .unset, .unset] [(.double (FP.i2d (own_di ai))), (.ref a), (.ref a)])) _
    refine XS.lload X2.here hx rfl (hb hby at_47) rfl ?_
    show Steps p.tables e below (T2.setTop (mkF m 49 #[.val (.long c0), .second, .val (.long c1), .second, .val (.long c2), .second, .val (.int ai), .val (.long b), .second, .val (.int (own_di ai)), .val (.double (FP.i2d (own_di ai))), .second, .val (.long (own_max (1 : Int64) (b &&& (9223372036854775807 : Int64)))), .second, .unset, .unset, .unset, .unset, .unset, .unset, .unset, .unset, .unset, .unset, .unset, .unset, .unset, .unset, .unset] [(.long (own_max (1 : Int64) (b &&& (9223372036854775807 : Int64)))), (.double (FP.i2d (own_di ai))), (.ref a), (.ref a)])) _
    refine st3.trans ?_
    show Steps p.tables e below (T3.setTop (mkF m 52 #[.val (.long c0), .second, .val (.long c1), .second, .val (.long c2), .second, .val (.int ai), .val (.long b), .second, .val (.int (own_di ai)), .val (.double (FP.i2d (own_di ai))), .second, .val (.long (own_max (1 : Int64) (b &&& (9223372036854775807 : Int64)))), .second, .unset, .unset, .unset, .unset, .unset, .unset, .unset, .unset, .unset, .unset, .unset, .unset, .unset, .unset, .unset] [(.ref a)])) _
    refine XS.astore X3.here hx rfl (hb hby at_52) rfl rfl (l' := #[.val (.long c0), .second, .val (.long c1), .second, .val (.long c2), .second, .val (.int ai), .val (.long b), .second, .val (.int (own_di ai)), .val (.double (FP.i2d (own_di ai))), .second, .val (.long (own_max (1 : Int64) (b &&& (9223372036854775807 : Int64)))), .second, .val (.ref a), .unset, .unset, .unset, .unset, .unset, .unset, .unset, .unset, .unset, .unset, .unset, .unset, .unset, .unset]) rfl ?_
    show Steps p.tables e below (T3.setTop (mkF m 54 #[.val (.long c0), .second, .val (.long c1), .second, .val (.long c2), .second, .val (.int ai), .val (.long b), .second, .val (.int (own_di ai)), .val (.double (FP.i2d (own_di ai))), .second, .val (.long (own_max (1 : Int64) (b &&& (9223372036854775807 : Int64)))), .second, .val (.ref a), .unset, .unset, .unset, .unset, .unset, .unset, .unset, .unset, .unset, .unset, .unset, .unset, .unset, .unset] [])) _
    refine XS.aload X3.here hx rfl (hb hby at_54) rfl rfl ?_
    show Steps p.tables e below (T3.setTop (mkF m 56 #[.val (.long c0), .second, .val (.long c1), .second, .val (.long c2), .second, .val (.int ai), .val (.long b), .second, .val (.int (own_di ai)), .val (.double (FP.i2d (own_di ai))), .second, .val (.long (own_max (1 : Int64) (b &&& (9223372036854775807 : Int64)))), .second, .val (.ref a), .unset, .unset, .unset, .unset, .unset, .unset, .unset, .unset, .unset, .unset, .unset, .unset, .unset, .unset] [(.ref a)])) _
    refine XS.lloadN X3.here hx rfl (hb hby at_56) rfl ?_
    show Steps p.tables e below (T3.setTop (mkF m 57 #[.val (.long c0), .second, .val (.long c1), .second, .val (.long c2), .second, .val (.int ai), .val (.long b), .second, .val (.int (own_di ai)), .val (.double (FP.i2d (own_di ai))), .second, .val (.long (own_max (1 : Int64) (b &&& (9223372036854775807 : Int64)))), .second, .val (.ref a), .unset, .unset, .unset, .unset, .unset, .unset, .unset, .unset, .unset, .unset, .unset, .unset, .unset, .unset] [(.long c0), (.ref a)])) _
    refine st4.trans ?_
    show Steps p.tables e below (T4.setTop (mkF m 60 #[.val (.long c0), .second, .val (.long c1), .second, .val (.long c2), .second, .val (.int ai), .val (.long b), .second, .val (.int (own_di ai)), .val (.double (FP.i2d (own_di ai))), .second, .val (.long (own_max (1 : Int64) (b &&& (9223372036854775807 : Int64)))), .second, .val (.ref a), .unset, .unset, .unset, .unset, .unset, .unset, .unset, .unset, .unset, .unset, .unset, .unset, .unset, .unset] [(.double (own_pos (0 : Int64) (FP.i2d (own_di ai)) (own_max (1 : Int64) (b &&& (9223372036854775807 : Int64)))))])) _
    refine XS.dstore X4.here hx rfl (hb hby at_60) rfl (l' := #[.val (.long c0), .second, .val (.long c1), .second, .val (.long c2), .second, .val (.int ai), .val (.long b), .second, .val (.int (own_di ai)), .val (.double (FP.i2d (own_di ai))), .second, .val (.long (own_max (1 : Int64) (b &&& (9223372036854775807 : Int64)))), .second, .val (.ref a), .val (.double (own_pos (0 : Int64) (FP.i2d (own_di ai)) (own_max (1 : Int64) (b &&& (9223372036854775807 : Int64))))), .second, .unset, .unset, .unset, .unset, .unset, .unset, .unset, .unset, .unset, .unset, .unset, .unset]) rfl ?_
    show Steps p.tables e below (T4.setTop (mkF m 62 #[.val (.long c0), .second, .val (.long c1), .second, .val (.long c2), .second, .val (.int ai), .val (.long b), .second, .val (.int (own_di ai)), .val (.double (FP.i2d (own_di ai))), .second, .val (.long (own_max (1 : Int64) (b &&& (9223372036854775807 : Int64)))), .second, .val (.ref a), .val (.double (own_pos (0 : Int64) (FP.i2d (own_di ai)) (own_max (1 : Int64) (b &&& (9223372036854775807 : Int64))))), .second, .unset, .unset, .unset, .unset, .unset, .unset, .unset, .unset, .unset, .unset, .unset, .unset] [])) _
    refine XS.aload X4.here hx rfl (hb hby at_62) rfl rfl ?_
    show Steps p.tables e below (T4.setTop (mkF m 64 #[.val (.long c0), .second, .val (.long c1), .second, .val (.long c2), .second, .val (.int ai), .val (.long b), .second, .val (.int (own_di ai)), .val (.double (FP.i2d (own_di ai))), .second, .val (.long (own_max (1 : Int64) (b &&& (9223372036854775807 : Int64)))), .second, .val (.ref a), .val (.double (own_pos (0 : Int64) (FP.i2d (own_di ai)) (own_max (1 : Int64) (b &&& (9223372036854775807 : Int64))))), .second, .unset, .unset, .unset, .unset, .unset, .unset, .unset, .unset, .unset, .unset, .unset, .unset] [(.ref a)])) _
    refine XS.lloadN X4.here hx rfl (hb hby at_64) rfl ?_
    show Steps p.tables e below (T4.setTop (mkF m 65 #[.val (.long c0), .second, .val (.long c1), .second, .val (.long c2), .second, .val (.int ai), .val (.long b), .second, .val (.int (own_di ai)), .val (.double (FP.i2d (own_di ai))), .second, .val (.long (own_max (1 : Int64) (b &&& (9223372036854775807 : Int64)))), .second, .val (.ref a), .val (.double (own_pos (0 : Int64) (FP.i2d (own_di ai)) (own_max (1 : Int64) (b &&& (9223372036854775807 : Int64))))), .second, .unset, .unset, .unset, .unset, .unset, .unset, .unset, .unset, .unset, .unset, .unset, .unset] [(.long c1), (.ref a)])) _
    refine st5.trans ?_
    show Steps p.tables e below (T5.setTop (mkF m 68 #[.val (.long c0), .second, .val (.long c1), .second, .val (.long c2), .second, .val (.int ai), .val (.long b), .second, .val (.int (own_di ai)), .val (.double (FP.i2d (own_di ai))), .second, .val (.long (own_max (1 : Int64) (b &&& (9223372036854775807 : Int64)))), .second, .val (.ref a), .val (.double (own_pos (0 : Int64) (FP.i2d (own_di ai)) (own_max (1 : Int64) (b &&& (9223372036854775807 : Int64))))), .second, .unset, .unset, .unset, .unset, .unset, .unset, .unset, .unset, .unset, .unset, .unset, .unset] [(.double (own_pos (own_T1 c0 c1) (FP.i2d (own_di ai)) (own_max (1 : Int64) (b &&& (9223372036854775807 : Int64)))))])) _
    refine XS.dstore X5.here hx rfl (hb hby at_68) rfl (l' := #[.val (.long c0), .second, .val (.long c1), .second, .val (.long c2), .second, .val (.int ai), .val (.long b), .second, .val (.int (own_di ai)), .val (.double (FP.i2d (own_di ai))), .second, .val (.long (own_max (1 : Int64) (b &&& (9223372036854775807 : Int64)))), .second, .val (.ref a), .val (.double (own_pos (0 : Int64) (FP.i2d (own_di ai)) (own_max (1 : Int64) (b &&& (9223372036854775807 : Int64))))), .second, .val (.double (own_pos (own_T1 c0 c1) (FP.i2d (own_di ai)) (own_max (1 : Int64) (b &&& (9223372036854775807 : Int64))))), .second, .unset, .unset, .unset, .unset, .unset, .unset, .unset, .unset, .unset, .unset]) rfl ?_
    show Steps p.tables e below (T5.setTop (mkF m 70 #[.val (.long c0), .second, .val (.long c1), .second, .val (.long c2), .second, .val (.int ai), .val (.long b), .second, .val (.int (own_di ai)), .val (.double (FP.i2d (own_di ai))), .second, .val (.long (own_max (1 : Int64) (b &&& (9223372036854775807 : Int64)))), .second, .val (.ref a), .val (.double (own_pos (0 : Int64) (FP.i2d (own_di ai)) (own_max (1 : Int64) (b &&& (9223372036854775807 : Int64))))), .second, .val (.double (own_pos (own_T1 c0 c1) (FP.i2d (own_di ai)) (own_max (1 : Int64) (b &&& (9223372036854775807 : Int64))))), .second, .unset, .unset, .unset, .unset, .unset, .unset, .unset, .unset, .unset, .unset] [])) _
    refine XS.aload X5.here hx rfl (hb hby at_70) rfl rfl ?_
    show Steps p.tables e below (T5.setTop (mkF m 72 #[.val (.long c0), .second, .val (.long c1), .second, .val (.long c2), .second, .val (.int ai), .val (.long b), .second, .val (.int (own_di ai)), .val (.double (FP.i2d (own_di ai))), .second, .val (.long (own_max (1 : Int64) (b &&& (9223372036854775807 : Int64)))), .second, .val (.ref a), .val (.double (own_pos (0 : Int64) (FP.i2d (own_di ai)) (own_max (1 : Int64) (b &&& (9223372036854775807 : Int64))))), .second, .val (.double (own_pos (own_T1 c0 c1) (FP.i2d (own_di ai)) (own_max (1 : Int64) (b &&& (9223372036854775807 : Int64))))), .second, .unset, .unset, .unset, .unset, .unset, .unset, .unset, .unset, .unset, .unset] [(.ref a)])) _
    refine XS.lload X5.here hx rfl (hb hby at_72) rfl ?_
    show Steps p.tables e below (T5.setTop (mkF m 74 #[.val (.long c0), .second, .val (.long c1), .second, .val (.long c2), .second, .val (.int ai), .val (.long b), .second, .val (.int (own_di ai)), .val (.double (FP.i2d (own_di ai))), .second, .val (.long (own_max (1 : Int64) (b &&& (9223372036854775807 : Int64)))), .second, .val (.ref a), .val (.double (own_pos (0 : Int64) (FP.i2d (own_di ai)) (own_max (1 : Int64) (b &&& (9223372036854775807 : Int64))))), .second, .val (.double (own_pos (own_T1 c0 c1) (FP.i2d (own_di ai)) (own_max (1 : Int64) (b &&& (9223372036854775807 : Int64))))), .second, .unset, .unset, .unset, .unset, .unset, .unset, .unset, .unset, .unset, .unset] [(.long c2), (.ref a)])) _
    refine st6.trans ?_
    show Steps p.tables e below (T6.setTop (mkF m 77 #[.val (.long c0), .second, .val (.long c1), .second, .val (.long c2), .second, .val (.int ai), .val (.long b), .second, .val (.int (own_di ai)), .val (.double (FP.i2d (own_di ai))), .second, .val (.long (own_max (1 : Int64) (b &&& (9223372036854775807 : Int64)))), .second, .val (.ref a), .val (.double (own_pos (0 : Int64) (FP.i2d (own_di ai)) (own_max (1 : Int64) (b &&& (9223372036854775807 : Int64))))), .second, .val (.double (own_pos (own_T1 c0 c1) (FP.i2d (own_di ai)) (own_max (1 : Int64) (b &&& (9223372036854775807 : Int64))))), .second, .unset, .unset, .unset, .unset, .unset, .unset, .unset, .unset, .unset, .unset] [(.double (own_pos (own_T2 c0 c1 c2) (FP.i2d (own_di ai)) (own_max (1 : Int64) (b &&& (9223372036854775807 : Int64)))))])) _
    refine XS.dstore X6.here hx rfl (hb hby at_77) rfl (l' := #[.val (.long c0), .second, .val (.long c1), .second, .val (.long c2), .second, .val (.int ai), .val (.long b), .second, .val (.int (own_di ai)), .val (.double (FP.i2d (own_di ai))), .second, .val (.long (own_max (1 : Int64) (b &&& (9223372036854775807 : Int64)))), .second, .val (.ref a), .val (.double (own_pos (0 : Int64) (FP.i2d (own_di ai)) (own_max (1 : Int64) (b &&& (9223372036854775807 : Int64))))), .second, .val (.double (own_pos (own_T1 c0 c1) (FP.i2d (own_di ai)) (own_max (1 : Int64) (b &&& (9223372036854775807 : Int64))))), .second, .val (.double (own_pos (own_T2 c0 c1 c2) (FP.i2d (own_di ai)) (own_max (1 : Int64) (b &&& (9223372036854775807 : Int64))))), .second, .unset, .unset, .unset, .unset, .unset, .unset, .unset, .unset]) rfl ?_
    show Steps p.tables e below (T6.setTop (mkF m 79 #[.val (.long c0), .second, .val (.long c1), .second, .val (.long c2), .second, .val (.int ai), .val (.long b), .second, .val (.int (own_di ai)), .val (.double (FP.i2d (own_di ai))), .second, .val (.long (own_max (1 : Int64) (b &&& (9223372036854775807 : Int64)))), .second, .val (.ref a), .val (.double (own_pos (0 : Int64) (FP.i2d (own_di ai)) (own_max (1 : Int64) (b &&& (9223372036854775807 : Int64))))), .second, .val (.double (own_pos (own_T1 c0 c1) (FP.i2d (own_di ai)) (own_max (1 : Int64) (b &&& (9223372036854775807 : Int64))))), .second, .val (.double (own_pos (own_T2 c0 c1 c2) (FP.i2d (own_di ai)) (own_max (1 : Int64) (b &&& (9223372036854775807 : Int64))))), .second, .unset, .unset, .unset, .unset, .unset, .unset, .unset, .unset] [])) _
    refine XS.aload X6.here hx rfl (hb hby at_79) rfl rfl ?_
    show Steps p.tables e below (T6.setTop (mkF m 81 #[.val (.long c0), .second, .val (.long c1), .second, .val (.long c2), .second, .val (.int ai), .val (.long b), .second, .val (.int (own_di ai)), .val (.double (FP.i2d (own_di ai))), .second, .val (.long (own_max (1 : Int64) (b &&& (9223372036854775807 : Int64)))), .second, .val (.ref a), .val (.double (own_pos (0 : Int64) (FP.i2d (own_di ai)) (own_max (1 : Int64) (b &&& (9223372036854775807 : Int64))))), .second, .val (.double (own_pos (own_T1 c0 c1) (FP.i2d (own_di ai)) (own_max (1 : Int64) (b &&& (9223372036854775807 : Int64))))), .second, .val (.double (own_pos (own_T2 c0 c1 c2) (FP.i2d (own_di ai)) (own_max (1 : Int64) (b &&& (9223372036854775807 : Int64))))), .second, .unset, .unset, .unset, .unset, .unset, .unset, .unset, .unset] [(.ref a)])) _
    refine XS.lloadN X6.here hx rfl (hb hby at_81) rfl ?_
    show Steps p.tables e below (T6.setTop (mkF m 82 #[.val (.long c0), .second, .val (.long c1), .second, .val (.long c2), .second, .val (.int ai), .val (.long b), .second, .val (.int (own_di ai)), .val (.double (FP.i2d (own_di ai))), .second, .val (.long (own_max (1 : Int64) (b &&& (9223372036854775807 : Int64)))), .second, .val (.ref a), .val (.double (own_pos (0 : Int64) (FP.i2d (own_di ai)) (own_max (1 : Int64) (b &&& (9223372036854775807 : Int64))))), .second, .val (.double (own_pos (own_T1 c0 c1) (FP.i2d (own_di ai)) (own_max (1 : Int64) (b &&& (9223372036854775807 : Int64))))), .second, .val (.double (own_pos (own_T2 c0 c1 c2) (FP.i2d (own_di ai)) (own_max (1 : Int64) (b &&& (9223372036854775807 : Int64))))), .second, .unset, .unset, .unset, .unset, .unset, .unset, .unset, .unset] [(.long c0), (.ref a)])) _
    refine st7.trans ?_
    show Steps p.tables e below (T7.setTop (mkF m 85 #[.val (.long c0), .second, .val (.long c1), .second, .val (.long c2), .second, .val (.int ai), .val (.long b), .second, .val (.int (own_di ai)), .val (.double (FP.i2d (own_di ai))), .second, .val (.long (own_max (1 : Int64) (b &&& (9223372036854775807 : Int64)))), .second, .val (.ref a), .val (.double (own_pos (0 : Int64) (FP.i2d (own_di ai)) (own_max (1 : Int64) (b &&& (9223372036854775807 : Int64))))), .second, .val (.double (own_pos (own_T1 c0 c1) (FP.i2d (own_di ai)) (own_max (1 : Int64) (b &&& (9223372036854775807 : Int64))))), .second, .val (.double (own_pos (own_T2 c0 c1 c2) (FP.i2d (own_di ai)) (own_max (1 : Int64) (b &&& (9223372036854775807 : Int64))))), .second, .unset, .unset, .unset, .unset, .unset, .unset, .unset, .unset] [(.double (own_pos (own_T3 c0 c1 c2) (FP.i2d (own_di ai)) (own_max (1 : Int64) (b &&& (9223372036854775807 : Int64)))))])) _
    refine XS.dstore X7.here hx rfl (hb hby at_85) rfl (l' := #[.val (.long c0), .second, .val (.long c1), .second, .val (.long c2), .second, .val (.int ai), .val (.long b), .second, .val (.int (own_di ai)), .val (.double (FP.i2d (own_di ai))), .second, .val (.long (own_max (1 : Int64) (b &&& (9223372036854775807 : Int64)))), .second, .val (.ref a), .val (.double (own_pos (0 : Int64) (FP.i2d (own_di ai)) (own_max (1 : Int64) (b &&& (9223372036854775807 : Int64))))), .second, .val (.double (own_pos (own_T1 c0 c1) (FP.i2d (own_di ai)) (own_max (1 : Int64) (b &&& (9223372036854775807 : Int64))))), .second, .val (.double (own_pos (own_T2 c0 c1 c2) (FP.i2d (own_di ai)) (own_max (1 : Int64) (b &&& (9223372036854775807 : Int64))))), .second, .val (.double (own_pos (own_T3 c0 c1 c2) (FP.i2d (own_di ai)) (own_max (1 : Int64) (b &&& (9223372036854775807 : Int64))))), .second, .unset, .unset, .unset, .unset, .unset, .unset]) rfl ?_
    show Steps p.tables e below (T7.setTop (mkF m 87 #[.val (.long c0), .second, .val (.long c1), .second, .val (.long c2), .second, .val (.int ai), .val (.long b), .second, .val (.int (own_di ai)), .val (.double (FP.i2d (own_di ai))), .second, .val (.long (own_max (1 : Int64) (b &&& (9223372036854775807 : Int64)))), .second, .val (.ref a), .val (.double (own_pos (0 : Int64) (FP.i2d (own_di ai)) (own_max (1 : Int64) (b &&& (9223372036854775807 : Int64))))), .second, .val (.double (own_pos (own_T1 c0 c1) (FP.i2d (own_di ai)) (own_max (1 : Int64) (b &&& (9223372036854775807 : Int64))))), .second, .val (.double (own_pos (own_T2 c0 c1 c2) (FP.i2d (own_di ai)) (own_max (1 : Int64) (b &&& (9223372036854775807 : Int64))))), .second, .val (.double (own_pos (own_T3 c0 c1 c2) (FP.i2d (own_di ai)) (own_max (1 : Int64) (b &&& (9223372036854775807 : Int64))))), .second, .unset, .unset, .unset, .unset, .unset, .unset] [])) _
    refine XS.lloadN X7.here hx rfl (hb hby at_87) rfl ?_
    show Steps p.tables e below (T7.setTop (mkF m 88 #[.val (.long c0), .second, .val (.long c1), .second, .val (.long c2), .second, .val (.int ai), .val (.long b), .second, .val (.int (own_di ai)), .val (.double (FP.i2d (own_di ai))), .second, .val (.long (own_max (1 : Int64) (b &&& (9223372036854775807 : Int64)))), .second, .val (.ref a), .val (.double (own_pos (0 : Int64) (FP.i2d (own_di ai)) (own_max (1 : Int64) (b &&& (9223372036854775807 : Int64))))), .second, .val (.double (own_pos (own_T1 c0 c1) (FP.i2d (own_di ai)) (own_max (1 : Int64) (b &&& (9223372036854775807 : Int64))))), .second, .val (.double (own_pos (own_T2 c0 c1 c2) (FP.i2d (own_di ai)) (own_max (1 : Int64) (b &&& (9223372036854775807 : Int64))))), .second, .val (.double (own_pos (own_T3 c0 c1 c2) (FP.i2d (own_di ai)) (own_max (1 : Int64) (b &&& (9223372036854775807 : Int64))))), .second, .unset, .unset, .unset, .unset, .unset, .unset] [(.long c0)])) _
    refine XS.lloadN X7.here hx rfl (hb hby at_88) rfl ?_
    show Steps p.tables e below (T7.setTop (mkF m 89 #[.val (.long c0), .second, .val (.long c1), .second, .val (.long c2), .second, .val (.int ai), .val (.long b), .second, .val (.int (own_di ai)), .val (.double (FP.i2d (own_di ai))), .second, .val (.long (own_max (1 : Int64) (b &&& (9223372036854775807 : Int64)))), .second, .val (.ref a), .val (.double (own_pos (0 : Int64) (FP.i2d (own_di ai)) (own_max (1 : Int64) (b &&& (9223372036854775807 : Int64))))), .second, .val (.double (own_pos (own_T1 c0 c1) (FP.i2d (own_di ai)) (own_max (1 : Int64) (b &&& (9223372036854775807 : Int64))))), .second, .val (.double (own_pos (own_T2 c0 c1 c2) (FP.i2d (own_di ai)) (own_max (1 : Int64) (b &&& (9223372036854775807 : Int64))))), .second, .val (.double (own_pos (own_T3 c0 c1 c2) (FP.i2d (own_di ai)) (own_max (1 : Int64) (b &&& (9223372036854775807 : Int64))))), .second, .unset, .unset, .unset, .unset, .unset, .unset] [(.long c1), (.long c0)])) _
    refine st8 _ ?_
    show Steps p.tables e below (T8.setTop (mkF m 92 #[.val (.long c0), .second, .val (.long c1), .second, .val (.long c2), .second, .val (.int ai), .val (.long b), .second, .val (.int (own_di ai)), .val (.double (FP.i2d (own_di ai))), .second, .val (.long (own_max (1 : Int64) (b &&& (9223372036854775807 : Int64)))), .second, .val (.ref a), .val (.double (own_pos (0 : Int64) (FP.i2d (own_di ai)) (own_max (1 : Int64) (b &&& (9223372036854775807 : Int64))))), .second, .val (.double (own_pos (own_T1 c0 c1) (FP.i2d (own_di ai)) (own_max (1 : Int64) (b &&& (9223372036854775807 : Int64))))), .second, .val (.double (own_pos (own_T2 c0 c1 c2) (FP.i2d (own_di ai)) (own_max (1 : Int64) (b &&& (9223372036854775807 : Int64))))), .second, .val (.double (own_pos (own_T3 c0 c1 c2) (FP.i2d (own_di ai)) (own_max (1 : Int64) (b &&& (9223372036854775807 : Int64))))), .second, .unset, .unset, .unset, .unset, .unset, .unset] [(.long (own_t1 c0 c1))])) _
    refine XS.lstore X8.here hx rfl (hb hby at_92) rfl (l' := #[.val (.long c0), .second, .val (.long c1), .second, .val (.long c2), .second, .val (.int ai), .val (.long b), .second, .val (.int (own_di ai)), .val (.double (FP.i2d (own_di ai))), .second, .val (.long (own_max (1 : Int64) (b &&& (9223372036854775807 : Int64)))), .second, .val (.ref a), .val (.double (own_pos (0 : Int64) (FP.i2d (own_di ai)) (own_max (1 : Int64) (b &&& (9223372036854775807 : Int64))))), .second, .val (.double (own_pos (own_T1 c0 c1) (FP.i2d (own_di ai)) (own_max (1 : Int64) (b &&& (9223372036854775807 : Int64))))), .second, .val (.double (own_pos (own_T2 c0 c1 c2) (FP.i2d (own_di ai)) (own_max (1 : Int64) (b &&& (9223372036854775807 : Int64))))), .second, .val (.double (own_pos (own_T3 c0 c1 c2) (FP.i2d (own_di ai)) (own_max (1 : Int64) (b &&& (9223372036854775807 : Int64))))), .second, .val (.long (own_t1 c0 c1)), .second, .unset, .unset, .unset, .unset]) rfl ?_
    show Steps p.tables e below (T8.setTop (mkF m 94 #[.val (.long c0), .second, .val (.long c1), .second, .val (.long c2), .second, .val (.int ai), .val (.long b), .second, .val (.int (own_di ai)), .val (.double (FP.i2d (own_di ai))), .second, .val (.long (own_max (1 : Int64) (b &&& (9223372036854775807 : Int64)))), .second, .val (.ref a), .val (.double (own_pos (0 : Int64) (FP.i2d (own_di ai)) (own_max (1 : Int64) (b &&& (9223372036854775807 : Int64))))), .second, .val (.double (own_pos (own_T1 c0 c1) (FP.i2d (own_di ai)) (own_max (1 : Int64) (b &&& (9223372036854775807 : Int64))))), .second, .val (.double (own_pos (own_T2 c0 c1 c2) (FP.i2d (own_di ai)) (own_max (1 : Int64) (b &&& (9223372036854775807 : Int64))))), .second, .val (.double (own_pos (own_T3 c0 c1 c2) (FP.i2d (own_di ai)) (own_max (1 : Int64) (b &&& (9223372036854775807 : Int64))))), .second, .val (.long (own_t1 c0 c1)), .second, .unset, .unset, .unset, .unset] [])) _
    refine XS.lload X8.here hx rfl (hb hby at_94) rfl ?_
    show Steps p.tables e below (T8.setTop (mkF m 96 #[.val (.long c0), .second, .val (.long c1), .second, .val (.long c2), .second, .val (.int ai), .val (.long b), .second, .val (.int (own_di ai)), .val (.double (FP.i2d (own_di ai))), .second, .val (.long (own_max (1 : Int64) (b &&& (9223372036854775807 : Int64)))), .second, .val (.ref a), .val (.double (own_pos (0 : Int64) (FP.i2d (own_di ai)) (own_max (1 : Int64) (b &&& (9223372036854775807 : Int64))))), .second, .val (.double (own_pos (own_T1 c0 c1) (FP.i2d (own_di ai)) (own_max (1 : Int64) (b &&& (9223372036854775807 : Int64))))), .second, .val (.double (own_pos (own_T2 c0 c1 c2) (FP.i2d (own_di ai)) (own_max (1 : Int64) (b &&& (9223372036854775807 : Int64))))), .second, .val (.double (own_pos (own_T3 c0 c1 c2) (FP.i2d (own_di ai)) (own_max (1 : Int64) (b &&& (9223372036854775807 : Int64))))), .second, .val (.long (own_t1 c0 c1)), .second, .unset, .unset, .unset, .unset] [(.long (own_t1 c0 c1))])) _
    refine XS.lloadN X8.here hx rfl (hb hby at_96) rfl ?_
    show Steps p.tables e below (T8.setTop (mkF m 97 #[.val (.long c0), .second, .val (.long c1), .second, .val (.long c2), .second, .val (.int ai), .val (.long b), .second, .val (.int (own_di ai)), .val (.double (FP.i2d (own_di ai))), .second, .val (.long (own_max (1 : Int64) (b &&& (9223372036854775807 : Int64)))), .second, .val (.ref a), .val (.double (own_pos (0 : Int64) (FP.i2d (own_di ai)) (own_max (1 : Int64) (b &&& (9223372036854775807 : Int64))))), .second, .val (.double (own_pos (own_T1 c0 c1) (FP.i2d (own_di ai)) (own_max (1 : Int64) (b &&& (9223372036854775807 : Int64))))), .second, .val (.double (own_pos (own_T2 c0 c1 c2) (FP.i2d (own_di ai)) (own_max (1 : Int64) (b &&& (9223372036854775807 : Int64))))), .second, .val (.double (own_pos (own_T3 c0 c1 c2) (FP.i2d (own_di ai)) (own_max (1 : Int64) (b &&& (9223372036854775807 : Int64))))), .second, .val (.long (own_t1 c0 c1)), .second, .unset, .unset, .unset, .unset] [(.long c1), (.long (own_t1 c0 c1))])) _
    refine XS.lload X8.here hx rfl (hb hby at_97) rfl ?_
    show Steps p.tables e below (T8.setTop (mkF m 99 #[.val (.long c0), .second, .val (.long c1), .second, .val (.long c2), .second, .val (.int ai), .val (.long b), .second, .val (.int (own_di ai)), .val (.double (FP.i2d (own_di ai))), .second, .val (.long (own_max (1 : Int64) (b &&& (9223372036854775807 : Int64)))), .second, .val (.ref a), .val (.double (own_pos (0 : Int64) (FP.i2d (own_di ai)) (own_max (1 : Int64) (b &&& (9223372036854775807 : Int64))))), .second, .val (.double (own_pos (own_T1 c0 c1) (FP.i2d (own_di ai)) (own_max (1 : Int64) (b &&& (9223372036854775807 : Int64))))), .second, .val (.double (own_pos (own_T2 c0 c1 c2) (FP.i2d (own_di ai)) (own_max (1 : Int64) (b &&& (9223372036854775807 : Int64))))), .second, .val (.double (own_pos (own_T3 c0 c1 c2) (FP.i2d (own_di ai)) (own_max (1 : Int64) (b &&& (9223372036854775807 : Int64))))), .second, .val (.long (own_t1 c0 c1)), .second, .unset, .unset, .unset, .unset] [(.long c2), (.long c1), (.long (own_t1 c0 c1))])) _
    refine st9 _ ?_
    show Steps p.tables e below (T9.setTop (mkF m 102 #[.val (.long c0), .second, .val (.long c1), .second, .val (.long c2), .second, .val (.int ai), .val (.long b), .second, .val (.int (own_di ai)), .val (.double (FP.i2d (own_di ai))), .second, .val (.long (own_max (1 : Int64) (b &&& (9223372036854775807 : Int64)))), .second, .val (.ref a), .val (.double (own_pos (0 : Int64) (FP.i2d (own_di ai)) (own_max (1 : Int64) (b &&& (9223372036854775807 : Int64))))), .second, .val (.double (own_pos (own_T1 c0 c1) (FP.i2d (own_di ai)) (own_max (1 : Int64) (b &&& (9223372036854775807 : Int64))))), .second, .val (.double (own_pos (own_T2 c0 c1 c2) (FP.i2d (own_di ai)) (own_max (1 : Int64) (b &&& (9223372036854775807 : Int64))))), .second, .val (.double (own_pos (own_T3 c0 c1 c2) (FP.i2d (own_di ai)) (own_max (1 : Int64) (b &&& (9223372036854775807 : Int64))))), .second, .val (.long (own_t1 c0 c1)), .second, .unset, .unset, .unset, .unset] [(.long (own_st c1 c2)), (.long (own_t1 c0 c1))])) _
    refine XS.ladd X9.here hx rfl (hb hby at_102) rfl ?_
    show Steps p.tables e below (T9.setTop (mkF m 103 #[.val (.long c0), .second, .val (.long c1), .second, .val (.long c2), .second, .val (.int ai), .val (.long b), .second, .val (.int (own_di ai)), .val (.double (FP.i2d (own_di ai))), .second, .val (.long (own_max (1 : Int64) (b &&& (9223372036854775807 : Int64)))), .second, .val (.ref a), .val (.double (own_pos (0 : Int64) (FP.i2d (own_di ai)) (own_max (1 : Int64) (b &&& (9223372036854775807 : Int64))))), .second, .val (.double (own_pos (own_T1 c0 c1) (FP.i2d (own_di ai)) (own_max (1 : Int64) (b &&& (9223372036854775807 : Int64))))), .second, .val (.double (own_pos (own_T2 c0 c1 c2) (FP.i2d (own_di ai)) (own_max (1 : Int64) (b &&& (9223372036854775807 : Int64))))), .second, .val (.double (own_pos (own_T3 c0 c1 c2) (FP.i2d (own_di ai)) (own_max (1 : Int64) (b &&& (9223372036854775807 : Int64))))), .second, .val (.long (own_t1 c0 c1)), .second, .unset, .unset, .unset, .unset] [(.long (own_t2 c0 c1 c2))])) _
    refine XS.lstore X9.here hx rfl (hb hby at_103) rfl (l' := #[.val (.long c0), .second, .val (.long c1), .second, .val (.long c2), .second, .val (.int ai), .val (.long b), .second, .val (.int (own_di ai)), .val (.double (FP.i2d (own_di ai))), .second, .val (.long (own_max (1 : Int64) (b &&& (9223372036854775807 : Int64)))), .second, .val (.ref a), .val (.double (own_pos (0 : Int64) (FP.i2d (own_di ai)) (own_max (1 : Int64) (b &&& (9223372036854775807 : Int64))))), .second, .val (.double (own_pos (own_T1 c0 c1) (FP.i2d (own_di ai)) (own_max (1 : Int64) (b &&& (9223372036854775807 : Int64))))), .second, .val (.double (own_pos (own_T2 c0 c1 c2) (FP.i2d (own_di ai)) (own_max (1 : Int64) (b &&& (9223372036854775807 : Int64))))), .second, .val (.double (own_pos (own_T3 c0 c1 c2) (FP.i2d (own_di ai)) (own_max (1 : Int64) (b &&& (9223372036854775807 : Int64))))), .second, .val (.long (own_t1 c0 c1)), .second, .val (.long (own_t2 c0 c1 c2)), .second, .unset, .unset]) rfl ?_
    show Steps p.tables e below (T9.setTop (mkF m 105 #[.val (.long c0), .second, .val (.long c1), .second, .val (.long c2), .second, .val (.int ai), .val (.long b), .second, .val (.int (own_di ai)), .val (.double (FP.i2d (own_di ai))), .second, .val (.long (own_max (1 : Int64) (b &&& (9223372036854775807 : Int64)))), .second, .val (.ref a), .val (.double (own_pos (0 : Int64) (FP.i2d (own_di ai)) (own_max (1 : Int64) (b &&& (9223372036854775807 : Int64))))), .second, .val (.double (own_pos (own_T1 c0 c1) (FP.i2d (own_di ai)) (own_max (1 : Int64) (b &&& (9223372036854775807 : Int64))))), .second, .val (.double (own_pos (own_T2 c0 c1 c2) (FP.i2d (own_di ai)) (own_max (1 : Int64) (b &&& (9223372036854775807 : Int64))))), .second, .val (.double (own_pos (own_T3 c0 c1 c2) (FP.i2d (own_di ai)) (own_max (1 : Int64) (b &&& (9223372036854775807 : Int64))))), .second, .val (.long (own_t1 c0 c1)), .second, .val (.long (own_t2 c0 c1 c2)), .second, .unset, .unset] [])) _
    refine XS.lload X9.here hx rfl (hb hby at_105) rfl ?_
    show Steps p.tables e below (T9.setTop (mkF m 107 #[.val (.long c0), .second, .val (.long c1), .second, .val (.long c2), .second, .val (.int ai), .val (.long b), .second, .val (.int (own_di ai)), .val (.double (FP.i2d (own_di ai))), .second, .val (.long (own_max (1 : Int64) (b &&& (9223372036854775807 : Int64)))), .second, .val (.ref a), .val (.double (own_pos (0 : Int64) (FP.i2d (own_di ai)) (own_max (1 : Int64) (b &&& (9223372036854775807 : Int64))))), .second, .val (.double (own_pos (own_T1 c0 c1) (FP.i2d (own_di ai)) (own_max (1 : Int64) (b &&& (9223372036854775807 : Int64))))), .second, .val (.double (own_pos (own_T2 c0 c1 c2) (FP.i2d (own_di ai)) (own_max (1 : Int64) (b &&& (9223372036854775807 : Int64))))), .second, .val (.double (own_pos (own_T3 c0 c1 c2) (FP.i2d (own_di ai)) (own_max (1 : Int64) (b &&& (9223372036854775807 : Int64))))), .second, .val (.long (own_t1 c0 c1)), .second, .val (.long (own_t2 c0 c1 c2)), .second, .unset, .unset] [(.long (own_t2 c0 c1 c2))])) _
    refine XS.lload X9.here hx rfl (hb hby at_107) rfl ?_
    show Steps p.tables e below (T9.setTop (mkF m 109 #[.val (.long c0), .second, .val (.long c1), .second, .val (.long c2), .second, .val (.int ai), .val (.long b), .second, .val (.int (own_di ai)), .val (.double (FP.i2d (own_di ai))), .second, .val (.long (own_max (1 : Int64) (b &&& (9223372036854775807 : Int64)))), .second, .val (.ref a), .val (.double (own_pos (0 : Int64) (FP.i2d (own_di ai)) (own_max (1 : Int64) (b &&& (9223372036854775807 : Int64))))), .second, .val (.double (own_pos (own_T1 c0 c1) (FP.i2d (own_di ai)) (own_max (1 : Int64) (b &&& (9223372036854775807 : Int64))))), .second, .val (.double (own_pos (own_T2 c0 c1 c2) (FP.i2d (own_di ai)) (own_max (1 : Int64) (b &&& (9223372036854775807 : Int64))))), .second, .val (.double (own_pos (own_T3 c0 c1 c2) (FP.i2d (own_di ai)) (own_max (1 : Int64) (b &&& (9223372036854775807 : Int64))))), .second, .val (.long (own_t1 c0 c1)), .second, .val (.long (own_t2 c0 c1 c2)), .second, .unset, .unset] [(.long c2), (.long (own_t2 c0 c1 c2))])) _
    refine XS.lloadN X9.here hx rfl (hb hby at_109) rfl ?_
    show Steps p.tables e below (T9.setTop (mkF m 110 #[.val (.long c0), .second, .val (.long c1), .second, .val (.long c2), .second, .val (.int ai), .val (.long b), .second, .val (.int (own_di ai)), .val (.double (FP.i2d (own_di ai))), .second, .val (.long (own_max (1 : Int64) (b &&& (9223372036854775807 : Int64)))), .second, .val (.ref a), .val (.double (own_pos (0 : Int64) (FP.i2d (own_di ai)) (own_max (1 : Int64) (b &&& (9223372036854775807 : Int64))))), .second, .val (.double (own_pos (own_T1 c0 c1) (FP.i2d (own_di ai)) (own_max (1 : Int64) (b &&& (9223372036854775807 : Int64))))), .second, .val (.double (own_pos (own_T2 c0 c1 c2) (FP.i2d (own_di ai)) (own_max (1 : Int64) (b &&& (9223372036854775807 : Int64))))), .second, .val (.double (own_pos (own_T3 c0 c1 c2) (FP.i2d (own_di ai)) (own_max (1 : Int64) (b &&& (9223372036854775807 : Int64))))), .second, .val (.long (own_t1 c0 c1)), .second, .val (.long (own_t2 c0 c1 c2)), .second, .unset, .unset] [(.long c0), (.long c2), (.long (own_t2 c0 c1 c2))])) _
    refine st10 _ ?_
    show Steps p.tables e below (T10.setTop (mkF m 113 #[.val (.long c0), .second, .val (.long c1), .second, .val (.long c2), .second, .val (.int ai), .val (.long b), .second, .val (.int (own_di ai)), .val (.double (FP.i2d (own_di ai))), .second, .val (.long (own_max (1 : Int64) (b &&& (9223372036854775807 : Int64)))), .second, .val (.ref a), .val (.double (own_pos (0 : Int64) (FP.i2d (own_di ai)) (own_max (1 : Int64) (b &&& (9223372036854775807 : Int64))))), .second, .val (.double (own_pos (own_T1 c0 c1) (FP.i2d (own_di ai)) (own_max (1 : Int64) (b &&& (9223372036854775807 : Int64))))), .second, .val (.double (own_pos (own_T2 c0 c1 c2) (FP.i2d (own_di ai)) (own_max (1 : Int64) (b &&& (9223372036854775807 : Int64))))), .second, .val (.double (own_pos (own_T3 c0 c1 c2) (FP.i2d (own_di ai)) (own_max (1 : Int64) (b &&& (9223372036854775807 : Int64))))), .second, .val (.long (own_t1 c0 c1)), .second, .val (.long (own_t2 c0 c1 c2)), .second, .unset, .unset] [(.long (own_st c2 c0)), (.long (own_t2 c0 c1 c2))])) _
    refine XS.ladd X10.here hx rfl (hb hby at_113) rfl ?_
    show Steps p.tables e below (T10.setTop (mkF m 114 #[.val (.long c0), .second, .val (.long c1), .second, .val (.long c2), .second, .val (.int ai), .val (.long b), .second, .val (.int (own_di ai)), .val (.double (FP.i2d (own_di ai))), .second, .val (.long (own_max (1 : Int64) (b &&& (9223372036854775807 : Int64)))), .second, .val (.ref a), .val (.double (own_pos (0 : Int64) (FP.i2d (own_di ai)) (own_max (1 : Int64) (b &&& (9223372036854775807 : Int64))))), .second, .val (.double (own_pos (own_T1 c0 c1) (FP.i2d (own_di ai)) (own_max (1 : Int64) (b &&& (9223372036854775807 : Int64))))), .second, .val (.double (own_pos (own_T2 c0 c1 c2) (FP.i2d (own_di ai)) (own_max (1 : Int64) (b &&& (9223372036854775807 : Int64))))), .second, .val (.double (own_pos (own_T3 c0 c1 c2) (FP.i2d (own_di ai)) (own_max (1 : Int64) (b &&& (9223372036854775807 : Int64))))), .second, .val (.long (own_t1 c0 c1)), .second, .val (.long (own_t2 c0 c1 c2)), .second, .unset, .unset] [(.long (own_t3 c0 c1 c2))])) _
    refine XS.lstore X10.here hx rfl (hb hby at_114) rfl (l' := #[.val (.long c0), .second, .val (.long c1), .second, .val (.long c2), .second, .val (.int ai), .val (.long b), .second, .val (.int (own_di ai)), .val (.double (FP.i2d (own_di ai))), .second, .val (.long (own_max (1 : Int64) (b &&& (9223372036854775807 : Int64)))), .second, .val (.ref a), .val (.double (own_pos (0 : Int64) (FP.i2d (own_di ai)) (own_max (1 : Int64) (b &&& (9223372036854775807 : Int64))))), .second, .val (.double (own_pos (own_T1 c0 c1) (FP.i2d (own_di ai)) (own_max (1 : Int64) (b &&& (9223372036854775807 : Int64))))), .second, .val (.double (own_pos (own_T2 c0 c1 c2) (FP.i2d (own_di ai)) (own_max (1 : Int64) (b &&& (9223372036854775807 : Int64))))), .second, .val (.double (own_pos (own_T3 c0 c1 c2) (FP.i2d (own_di ai)) (own_max (1 : Int64) (b &&& (9223372036854775807 : Int64))))), .second, .val (.long (own_t1 c0 c1)), .second, .val (.long (own_t2 c0 c1 c2)), .second, .val (.long (own_t3 c0 c1 c2)), .second]) rfl ?_
    show Steps p.tables e below (T10.setTop (mkF m 116 #[.val (.long c0), .second, .val (.long c1), .second, .val (.long c2), .second, .val (.int ai), .val (.long b), .second, .val (.int (own_di ai)), .val (.double (FP.i2d (own_di ai))), .second, .val (.long (own_max (1 : Int64) (b &&& (9223372036854775807 : Int64)))), .second, .val (.ref a), .val (.double (own_pos (0 : Int64) (FP.i2d (own_di ai)) (own_max (1 : Int64) (b &&& (9223372036854775807 : Int64))))), .second, .val (.double (own_pos (own_T1 c0 c1) (FP.i2d (own_di ai)) (own_max (1 : Int64) (b &&& (9223372036854775807 : Int64))))), .second, .val (.double (own_pos (own_T2 c0 c1 c2) (FP.i2d (own_di ai)) (own_max (1 : Int64) (b &&& (9223372036854775807 : Int64))))), .second, .val (.double (own_pos (own_T3 c0 c1 c2) (FP.i2d (own_di ai)) (own_max (1 : Int64) (b &&& (9223372036854775807 : Int64))))), .second, .val (.long (own_t1 c0 c1)), .second, .val (.long (own_t2 c0 c1 c2)), .second, .val (.long (own_t3 c0 c1 c2)), .second] [])) _
    refine XS.dload X10.here hx rfl (hb hby at_116) rfl ?_
    show Steps p.tables e below (T10.setTop (mkF m 118 #[.val (.long c0), .second, .val (.long c1), .second, .val (.long c2), .second, .val (.int ai), .val (.long b), .second, .val (.int (own_di ai)), .val (.double (FP.i2d (own_di ai))), .second, .val (.long (own_max (1 : Int64) (b &&& (9223372036854775807 : Int64)))), .second, .val (.ref a), .val (.double (own_pos (0 : Int64) (FP.i2d (own_di ai)) (own_max (1 : Int64) (b &&& (9223372036854775807 : Int64))))), .second, .val (.double (own_pos (own_T1 c0 c1) (FP.i2d (own_di ai)) (own_max (1 : Int64) (b &&& (9223372036854775807 : Int64))))), .second, .val (.double (own_pos (own_T2 c0 c1 c2) (FP.i2d (own_di ai)) (own_max (1 : Int64) (b &&& (9223372036854775807 : Int64))))), .second, .val (.double (own_pos (own_T3 c0 c1 c2) (FP.i2d (own_di ai)) (own_max (1 : Int64) (b &&& (9223372036854775807 : Int64))))), .second, .val (.long (own_t1 c0 c1)), .second, .val (.long (own_t2 c0 c1 c2)), .second, .val (.long (own_t3 c0 c1 c2)), .second] [(.double (own_pos (0 : Int64) (FP.i2d (own_di ai)) (own_max (1 : Int64) (b &&& (9223372036854775807 : Int64)))))])) _
    refine XS.dconst0 X10.here hx rfl (hb hby at_118) rfl ?_
    show Steps p.tables e below (T10.setTop (mkF m 119 #[.val (.long c0), .second, .val (.long c1), .second, .val (.long c2), .second, .val (.int ai), .val (.long b), .second, .val (.int (own_di ai)), .val (.double (FP.i2d (own_di ai))), .second, .val (.long (own_max (1 : Int64) (b &&& (9223372036854775807 : Int64)))), .second, .val (.ref a), .val (.double (own_pos (0 : Int64) (FP.i2d (own_di ai)) (own_max (1 : Int64) (b &&& (9223372036854775807 : Int64))))), .second, .val (.double (own_pos (own_T1 c0 c1) (FP.i2d (own_di ai)) (own_max (1 : Int64) (b &&& (9223372036854775807 : Int64))))), .second, .val (.double (own_pos (own_T2 c0 c1 c2) (FP.i2d (own_di ai)) (own_max (1 : Int64) (b &&& (9223372036854775807 : Int64))))), .second, .val (.double (own_pos (own_T3 c0 c1 c2) (FP.i2d (own_di ai)) (own_max (1 : Int64) (b &&& (9223372036854775807 : Int64))))), .second, .val (.long (own_t1 c0 c1)), .second, .val (.long (own_t2 c0 c1 c2)), .second, .val (.long (own_t3 c0 c1 c2)), .second] [(.double (0 : UInt64)), (.double (own_pos (0 : Int64) (FP.i2d (own_di ai)) (own_max (1 : Int64) (b &&& (9223372036854775807 : Int64)))))])) _
    refine XS.dcmpS X10.here hx rfl (hb hby at_119) rfl (own_zero hm hne) ?_
    show Steps p.tables e below (T10.setTop (mkF m 120 #[.val (.long c0), .second, .val (.long c1), .second, .val (.long c2), .second, .val (.int ai), .val (.long b), .second, .val (.int (own_di ai)), .val (.double (FP.i2d (own_di ai))), .second, .val (.long (own_max (1 : Int64) (b &&& (9223372036854775807 : Int64)))), .second, .val (.ref a), .val (.double (own_pos (0 : Int64) (FP.i2d (own_di ai)) (own_max (1 : Int64) (b &&& (9223372036854775807 : Int64))))), .second, .val (.double (own_pos (own_T1 c0 c1) (FP.i2d (own_di ai)) (own_max (1 : Int64) (b &&& (9223372036854775807 : Int64))))), .second, .val (.double (own_pos (own_T2 c0 c1 c2) (FP.i2d (own_di ai)) (own_max (1 : Int64) (b &&& (9223372036854775807 : Int64))))), .second, .val (.double (own_pos (own_T3 c0 c1 c2) (FP.i2d (own_di ai)) (own_max (1 : Int64) (b &&& (9223372036854775807 : Int64))))), .second, .val (.long (own_t1 c0 c1)), .second, .val (.long (own_t2 c0 c1 c2)), .second, .val (.long (own_t3 c0 c1 c2)), .second] [(.int (0 : Int32))])) _
    refine XS.ifNo X10.here hx rfl (hb hby at_120) rfl ((if0 _ _).trans (teq (rfl : (0 : Int32) = (0 : Int32))).2) ?_
    show Steps p.tables e below (T10.setTop (mkF m 123 #[.val (.long c0), .second, .val (.long c1), .second, .val (.long c2), .second, .val (.int ai), .val (.long b), .second, .val (.int (own_di ai)), .val (.double (FP.i2d (own_di ai))), .second, .val (.long (own_max (1 : Int64) (b &&& (9223372036854775807 : Int64)))), .second, .val (.ref a), .val (.double (own_pos (0 : Int64) (FP.i2d (own_di ai)) (own_max (1 : Int64) (b &&& (9223372036854775807 : Int64))))), .second, .val (.double (own_pos (own_T1 c0 c1) (FP.i2d (own_di ai)) (own_max (1 : Int64) (b &&& (9223372036854775807 : Int64))))), .second, .val (.double (own_pos (own_T2 c0 c1 c2) (FP.i2d (own_di ai)) (own_max (1 : Int64) (b &&& (9223372036854775807 : Int64))))), .second, .val (.double (own_pos (own_T3 c0 c1 c2) (FP.i2d (own_di ai)) (own_max (1 : Int64) (b &&& (9223372036854775807 : Int64))))), .second, .val (.long (own_t1 c0 c1)), .second, .val (.long (own_t2 c0 c1 c2)), .second, .val (.long (own_t3 c0 c1 c2)), .second] [])) _
    refine XS.dload X10.here hx rfl (hb hby at_123) rfl ?_
    show Steps p.tables e below (T10.setTop (mkF m 125 #[.val (.long c0), .second, .val (.long c1), .second, .val (.long c2), .second, .val (.int ai), .val (.long b), .second, .val (.int (own_di ai)), .val (.double (FP.i2d (own_di ai))), .second, .val (.long (own_max (1 : Int64) (b &&& (9223372036854775807 : Int64)))), .second, .val (.ref a), .val (.double (own_pos (0 : Int64) (FP.i2d (own_di ai)) (own_max (1 : Int64) (b &&& (9223372036854775807 : Int64))))), .second, .val (.double (own_pos (own_T1 c0 c1) (FP.i2d (own_di ai)) (own_max (1 : Int64) (b &&& (9223372036854775807 : Int64))))), .second, .val (.double (own_pos (own_T2 c0 c1 c2) (FP.i2d (own_di ai)) (own_max (1 : Int64) (b &&& (9223372036854775807 : Int64))))), .second, .val (.double (own_pos (own_T3 c0 c1 c2) (FP.i2d (own_di ai)) (own_max (1 : Int64) (b &&& (9223372036854775807 : Int64))))), .second, .val (.long (own_t1 c0 c1)), .second, .val (.long (own_t2 c0 c1 c2)), .second, .val (.long (own_t3 c0 c1 c2)), .second] [(.double (own_pos (own_T1 c0 c1) (FP.i2d (own_di ai)) (own_max (1 : Int64) (b &&& (9223372036854775807 : Int64)))))])) _
    refine XS.lload X10.here hx rfl (hb hby at_125) rfl ?_
    show Steps p.tables e below (T10.setTop (mkF m 127 #[.val (.long c0), .second, .val (.long c1), .second, .val (.long c2), .second, .val (.int ai), .val (.long b), .second, .val (.int (own_di ai)), .val (.double (FP.i2d (own_di ai))), .second, .val (.long (own_max (1 : Int64) (b &&& (9223372036854775807 : Int64)))), .second, .val (.ref a), .val (.double (own_pos (0 : Int64) (FP.i2d (own_di ai)) (own_max (1 : Int64) (b &&& (9223372036854775807 : Int64))))), .second, .val (.double (own_pos (own_T1 c0 c1) (FP.i2d (own_di ai)) (own_max (1 : Int64) (b &&& (9223372036854775807 : Int64))))), .second, .val (.double (own_pos (own_T2 c0 c1 c2) (FP.i2d (own_di ai)) (own_max (1 : Int64) (b &&& (9223372036854775807 : Int64))))), .second, .val (.double (own_pos (own_T3 c0 c1 c2) (FP.i2d (own_di ai)) (own_max (1 : Int64) (b &&& (9223372036854775807 : Int64))))), .second, .val (.long (own_t1 c0 c1)), .second, .val (.long (own_t2 c0 c1 c2)), .second, .val (.long (own_t3 c0 c1 c2)), .second] [(.long (own_t1 c0 c1)), (.double (own_pos (own_T1 c0 c1) (FP.i2d (own_di ai)) (own_max (1 : Int64) (b &&& (9223372036854775807 : Int64)))))])) _
    refine XS.dload X10.here hx rfl (hb hby at_127) rfl ?_
    show Steps p.tables e below (T10.setTop (mkF m 129 #[.val (.long c0), .second, .val (.long c1), .second, .val (.long c2), .second, .val (.int ai), .val (.long b), .second, .val (.int (own_di ai)), .val (.double (FP.i2d (own_di ai))), .second, .val (.long (own_max (1 : Int64) (b &&& (9223372036854775807 : Int64)))), .second, .val (.ref a), .val (.double (own_pos (0 : Int64) (FP.i2d (own_di ai)) (own_max (1 : Int64) (b &&& (9223372036854775807 : Int64))))), .second, .val (.double (own_pos (own_T1 c0 c1) (FP.i2d (own_di ai)) (own_max (1 : Int64) (b &&& (9223372036854775807 : Int64))))), .second, .val (.double (own_pos (own_T2 c0 c1 c2) (FP.i2d (own_di ai)) (own_max (1 : Int64) (b &&& (9223372036854775807 : Int64))))), .second, .val (.double (own_pos (own_T3 c0 c1 c2) (FP.i2d (own_di ai)) (own_max (1 : Int64) (b &&& (9223372036854775807 : Int64))))), .second, .val (.long (own_t1 c0 c1)), .second, .val (.long (own_t2 c0 c1 c2)), .second, .val (.long (own_t3 c0 c1 c2)), .second] [(.double (FP.i2d (own_di ai))), (.long (own_t1 c0 c1)), (.double (own_pos (own_T1 c0 c1) (FP.i2d (own_di ai)) (own_max (1 : Int64) (b &&& (9223372036854775807 : Int64)))))])) _
    refine XS.lload X10.here hx rfl (hb hby at_129) rfl ?_
    show Steps p.tables e below (T10.setTop (mkF m 131 #[.val (.long c0), .second, .val (.long c1), .second, .val (.long c2), .second, .val (.int ai), .val (.long b), .second, .val (.int (own_di ai)), .val (.double (FP.i2d (own_di ai))), .second, .val (.long (own_max (1 : Int64) (b &&& (9223372036854775807 : Int64)))), .second, .val (.ref a), .val (.double (own_pos (0 : Int64) (FP.i2d (own_di ai)) (own_max (1 : Int64) (b &&& (9223372036854775807 : Int64))))), .second, .val (.double (own_pos (own_T1 c0 c1) (FP.i2d (own_di ai)) (own_max (1 : Int64) (b &&& (9223372036854775807 : Int64))))), .second, .val (.double (own_pos (own_T2 c0 c1 c2) (FP.i2d (own_di ai)) (own_max (1 : Int64) (b &&& (9223372036854775807 : Int64))))), .second, .val (.double (own_pos (own_T3 c0 c1 c2) (FP.i2d (own_di ai)) (own_max (1 : Int64) (b &&& (9223372036854775807 : Int64))))), .second, .val (.long (own_t1 c0 c1)), .second, .val (.long (own_t2 c0 c1 c2)), .second, .val (.long (own_t3 c0 c1 c2)), .second] [(.long (own_max (1 : Int64) (b &&& (9223372036854775807 : Int64)))), (.double (FP.i2d (own_di ai))), (.long (own_t1 c0 c1)), (.double (own_pos (own_T1 c0 c1) (FP.i2d (own_di ai)) (own_max (1 : Int64) (b &&& (9223372036854775807 : Int64)))))])) _
    refine st11 _ ?_
    show Steps p.tables e below (T11.setTop (mkF m 134 #[.val (.long c0), .second, .val (.long c1), .second, .val (.long c2), .second, .val (.int ai), .val (.long b), .second, .val (.int (own_di ai)), .val (.double (FP.i2d (own_di ai))), .second, .val (.long (own_max (1 : Int64) (b &&& (9223372036854775807 : Int64)))), .second, .val (.ref a), .val (.double (own_pos (0 : Int64) (FP.i2d (own_di ai)) (own_max (1 : Int64) (b &&& (9223372036854775807 : Int64))))), .second, .val (.double (own_pos (own_T1 c0 c1) (FP.i2d (own_di ai)) (own_max (1 : Int64) (b &&& (9223372036854775807 : Int64))))), .second, .val (.double (own_pos (own_T2 c0 c1 c2) (FP.i2d (own_di ai)) (own_max (1 : Int64) (b &&& (9223372036854775807 : Int64))))), .second, .val (.double (own_pos (own_T3 c0 c1 c2) (FP.i2d (own_di ai)) (own_max (1 : Int64) (b &&& (9223372036854775807 : Int64))))), .second, .val (.long (own_t1 c0 c1)), .second, .val (.long (own_t2 c0 c1 c2)), .second, .val (.long (own_t3 c0 c1 c2)), .second] [(.double (own_pos (own_t1 c0 c1) (FP.i2d (own_di ai)) (own_max (1 : Int64) (b &&& (9223372036854775807 : Int64))))), (.double (own_pos (own_T1 c0 c1) (FP.i2d (own_di ai)) (own_max (1 : Int64) (b &&& (9223372036854775807 : Int64)))))])) _
    refine XS.dcmpS X11.here hx rfl (hb hby at_134) rfl (dcmpV_eq (congrArg (fun t => own_pos t (FP.i2d (own_di ai)) (own_max (1 : Int64) (b &&& (9223372036854775807 : Int64)))) (own_e1 c0 c1)) (own_nd hm hne _) .l) ?_
    show Steps p.tables e below (T11.setTop (mkF m 135 #[.val (.long c0), .second, .val (.long c1), .second, .val (.long c2), .second, .val (.int ai), .val (.long b), .second, .val (.int (own_di ai)), .val (.double (FP.i2d (own_di ai))), .second, .val (.long (own_max (1 : Int64) (b &&& (9223372036854775807 : Int64)))), .second, .val (.ref a), .val (.double (own_pos (0 : Int64) (FP.i2d (own_di ai)) (own_max (1 : Int64) (b &&& (9223372036854775807 : Int64))))), .second, .val (.double (own_pos (own_T1 c0 c1) (FP.i2d (own_di ai)) (own_max (1 : Int64) (b &&& (9223372036854775807 : Int64))))), .second, .val (.double (own_pos (own_T2 c0 c1 c2) (FP.i2d (own_di ai)) (own_max (1 : Int64) (b &&& (9223372036854775807 : Int64))))), .second, .val (.double (own_pos (own_T3 c0 c1 c2) (FP.i2d (own_di ai)) (own_max (1 : Int64) (b &&& (9223372036854775807 : Int64))))), .second, .val (.long (own_t1 c0 c1)), .second, .val (.long (own_t2 c0 c1 c2)), .second, .val (.long (own_t3 c0 c1 c2)), .second] [(.int (0 : Int32))])) _
    refine XS.ifNo X11.here hx rfl (hb hby at_135) rfl ((if0 _ _).trans (teq (rfl : (0 : Int32) = (0 : Int32))).2) ?_
    show Steps p.tables e below (T11.setTop (mkF m 138 #[.val (.long c0), .second, .val (.long c1), .second, .val (.long c2), .second, .val (.int ai), .val (.long b), .second, .val (.int (own_di ai)), .val (.double (FP.i2d (own_di ai))), .second, .val (.long (own_max (1 : Int64) (b &&& (9223372036854775807 : Int64)))), .second, .val (.ref a), .val (.double (own_pos (0 : Int64) (FP.i2d (own_di ai)) (own_max (1 : Int64) (b &&& (9223372036854775807 : Int64))))), .second, .val (.double (own_pos (own_T1 c0 c1) (FP.i2d (own_di ai)) (own_max (1 : Int64) (b &&& (9223372036854775807 : Int64))))), .second, .val (.double (own_pos (own_T2 c0 c1 c2) (FP.i2d (own_di ai)) (own_max (1 : Int64) (b &&& (9223372036854775807 : Int64))))), .second, .val (.double (own_pos (own_T3 c0 c1 c2) (FP.i2d (own_di ai)) (own_max (1 : Int64) (b &&& (9223372036854775807 : Int64))))), .second, .val (.long (own_t1 c0 c1)), .second, .val (.long (own_t2 c0 c1 c2)), .second, .val (.long (own_t3 c0 c1 c2)), .second] [])) _
    refine XS.dload X11.here hx rfl (hb hby at_138) rfl ?_
    show Steps p.tables e below (T11.setTop (mkF m 140 #[.val (.long c0), .second, .val (.long c1), .second, .val (.long c2), .second, .val (.int ai), .val (.long b), .second, .val (.int (own_di ai)), .val (.double (FP.i2d (own_di ai))), .second, .val (.long (own_max (1 : Int64) (b &&& (9223372036854775807 : Int64)))), .second, .val (.ref a), .val (.double (own_pos (0 : Int64) (FP.i2d (own_di ai)) (own_max (1 : Int64) (b &&& (9223372036854775807 : Int64))))), .second, .val (.double (own_pos (own_T1 c0 c1) (FP.i2d (own_di ai)) (own_max (1 : Int64) (b &&& (9223372036854775807 : Int64))))), .second, .val (.double (own_pos (own_T2 c0 c1 c2) (FP.i2d (own_di ai)) (own_max (1 : Int64) (b &&& (9223372036854775807 : Int64))))), .second, .val (.double (own_pos (own_T3 c0 c1 c2) (FP.i2d (own_di ai)) (own_max (1 : Int64) (b &&& (9223372036854775807 : Int64))))), .second, .val (.long (own_t1 c0 c1)), .second, .val (.long (own_t2 c0 c1 c2)), .second, .val (.long (own_t3 c0 c1 c2)), .second] [(.double (own_pos (own_T2 c0 c1 c2) (FP.i2d (own_di ai)) (own_max (1 : Int64) (b &&& (9223372036854775807 : Int64)))))])) _
    refine XS.lload X11.here hx rfl (hb hby at_140) rfl ?_
    show Steps p.tables e below (T11.setTop (mkF m 142 #[.val (.long c0), .second, .val (.long c1), .second, .val (.long c2), .second, .val (.int ai), .val (.long b), .second, .val (.int (own_di ai)), .val (.double (FP.i2d (own_di ai))), .second, .val (.long (own_max (1 : Int64) (b &&& (9223372036854775807 : Int64)))), .second, .val (.ref a), .val (.double (own_pos (0 : Int64) (FP.i2d (own_di ai)) (own_max (1 : Int64) (b &&& (9223372036854775807 : Int64))))), .second, .val (.double (own_pos (own_T1 c0 c1) (FP.i2d (own_di ai)) (own_max (1 : Int64) (b &&& (9223372036854775807 : Int64))))), .second, .val (.double (own_pos (own_T2 c0 c1 c2) (FP.i2d (own_di ai)) (own_max (1 : Int64) (b &&& (9223372036854775807 : Int64))))), .second, .val (.double (own_pos (own_T3 c0 c1 c2) (FP.i2d (own_di ai)) (own_max (1 : Int64) (b &&& (9223372036854775807 : Int64))))), .second, .val (.long (own_t1 c0 c1)), .second, .val (.long (own_t2 c0 c1 c2)), .second, .val (.long (own_t3 c0 c1 c2)), .second] [(.long (own_t2 c0 c1 c2)), (.double (own_pos (own_T2 c0 c1 c2) (FP.i2d (own_di ai)) (own_max (1 : Int64) (b &&& (9223372036854775807 : Int64)))))])) _
    refine XS.dload X11.here hx rfl (hb hby at_142) rfl ?_
    show Steps p.tables e below (T11.setTop (mkF m 144 #[.val (.long c0), .second, .val (.long c1), .second, .val (.long c2), .second, .val (.int ai), .val (.long b), .second, .val (.int (own_di ai)), .val (.double (FP.i2d (own_di ai))), .second, .val (.long (own_max (1 : Int64) (b &&& (9223372036854775807 : Int64)))), .second, .val (.ref a), .val (.double (own_pos (0 : Int64) (FP.i2d (own_di ai)) (own_max (1 : Int64) (b &&& (9223372036854775807 : Int64))))), .second, .val (.double (own_pos (own_T1 c0 c1) (FP.i2d (own_di ai)) (own_max (1 : Int64) (b &&& (9223372036854775807 : Int64))))), .second, .val (.double (own_pos (own_T2 c0 c1 c2) (FP.i2d (own_di ai)) (own_max (1 : Int64) (b &&& (9223372036854775807 : Int64))))), .second, .val (.double (own_pos (own_T3 c0 c1 c2) (FP.i2d (own_di ai)) (own_max (1 : Int64) (b &&& (9223372036854775807 : Int64))))), .second, .val (.long (own_t1 c0 c1)), .second, .val (.long (own_t2 c0 c1 c2)), .second, .val (.long (own_t3 c0 c1 c2)), .second] [(.double (FP.i2d (own_di ai))), (.long (own_t2 c0 c1 c2)), (.double (own_pos (own_T2 c0 c1 c2) (FP.i2d (own_di ai)) (own_max (1 : Int64) (b &&& (9223372036854775807 : Int64)))))])) _
    refine XS.lload X11.here hx rfl (hb hby at_144) rfl ?_
    show Steps p.tables e below (T11.setTop (mkF m 146 #[.val (.long c0), .second, .val (.long c1), .second, .val (.long c2), .second, .val (.int ai), .val (.long b), .second, .val (.int (own_di ai)), .val (.double (FP.i2d (own_di ai))), .second, .val (.long (own_max (1 : Int64) (b &&& (9223372036854775807 : Int64)))), .second, .val (.ref a), .val (.double (own_pos (0 : Int64) (FP.i2d (own_di ai)) (own_max (1 : Int64) (b &&& (9223372036854775807 : Int64))))), .second, .val (.double (own_pos (own_T1 c0 c1) (FP.i2d (own_di ai)) (own_max (1 : Int64) (b &&& (9223372036854775807 : Int64))))), .second, .val (.double (own_pos (own_T2 c0 c1 c2) (FP.i2d (own_di ai)) (own_max (1 : Int64) (b &&& (9223372036854775807 : Int64))))), .second, .val (.double (own_pos (own_T3 c0 c1 c2) (FP.i2d (own_di ai)) (own_max (1 : Int64) (b &&& (9223372036854775807 : Int64))))), .second, .val (.long (own_t1 c0 c1)), .second, .val (.long (own_t2 c0 c1 c2)), .second, .val (.long (own_t3 c0 c1 c2)), .second] [(.long (own_max (1 : Int64) (b &&& (9223372036854775807 : Int64)))), (.double (FP.i2d (own_di ai))), (.long (own_t2 c0 c1 c2)), (.double (own_pos (own_T2 c0 c1 c2) (FP.i2d (own_di ai)) (own_max (1 : Int64) (b &&& (9223372036854775807 : Int64)))))])) _
    refine st12 _ ?_
    show Steps p.tables e below (T12.setTop (mkF m 149 #[.val (.long c0), .second, .val (.long c1), .second, .val (.long c2), .second, .val (.int ai), .val (.long b), .second, .val (.int (own_di ai)), .val (.double (FP.i2d (own_di ai))), .second, .val (.long (own_max (1 : Int64) (b &&& (9223372036854775807 : Int64)))), .second, .val (.ref a), .val (.double (own_pos (0 : Int64) (FP.i2d (own_di ai)) (own_max (1 : Int64) (b &&& (9223372036854775807 : Int64))))), .second, .val (.double (own_pos (own_T1 c0 c1) (FP.i2d (own_di ai)) (own_max (1 : Int64) (b &&& (9223372036854775807 : Int64))))), .second, .val (.double (own_pos (own_T2 c0 c1 c2) (FP.i2d (own_di ai)) (own_max (1 : Int64) (b &&& (9223372036854775807 : Int64))))), .second, .val (.double (own_pos (own_T3 c0 c1 c2) (FP.i2d (own_di ai)) (own_max (1 : Int64) (b &&& (9223372036854775807 : Int64))))), .second, .val (.long (own_t1 c0 c1)), .second, .val (.long (own_t2 c0 c1 c2)), .second, .val (.long (own_t3 c0 c1 c2)), .second] [(.double (own_pos (own_t2 c0 c1 c2) (FP.i2d (own_di ai)) (own_max (1 : Int64) (b &&& (9223372036854775807 : Int64))))), (.double (own_pos (own_T2 c0 c1 c2) (FP.i2d (own_di ai)) (own_max (1 : Int64) (b &&& (9223372036854775807 : Int64)))))])) _
    refine XS.dcmpS X12.here hx rfl (hb hby at_149) rfl (dcmpV_eq (congrArg (fun t => own_pos t (FP.i2d (own_di ai)) (own_max (1 : Int64) (b &&& (9223372036854775807 : Int64)))) (own_e2 c0 c1 c2)) (own_nd hm hne _) .l) ?_
    show Steps p.tables e below (T12.setTop (mkF m 150 #[.val (.long c0), .second, .val (.long c1), .second, .val (.long c2), .second, .val (.int ai), .val (.long b), .second, .val (.int (own_di ai)), .val (.double (FP.i2d (own_di ai))), .second, .val (.long (own_max (1 : Int64) (b &&& (9223372036854775807 : Int64)))), .second, .val (.ref a), .val (.double (own_pos (0 : Int64) (FP.i2d (own_di ai)) (own_max (1 : Int64) (b &&& (9223372036854775807 : Int64))))), .second, .val (.double (own_pos (own_T1 c0 c1) (FP.i2d (own_di ai)) (own_max (1 : Int64) (b &&& (9223372036854775807 : Int64))))), .second, .val (.double (own_pos (own_T2 c0 c1 c2) (FP.i2d (own_di ai)) (own_max (1 : Int64) (b &&& (9223372036854775807 : Int64))))), .second, .val (.double (own_pos (own_T3 c0 c1 c2) (FP.i2d (own_di ai)) (own_max (1 : Int64) (b &&& (9223372036854775807 : Int64))))), .second, .val (.long (own_t1 c0 c1)), .second, .val (.long (own_t2 c0 c1 c2)), .second, .val (.long (own_t3 c0 c1 c2)), .second] [(.int (0 : Int32))])) _
    refine XS.ifNo X12.here hx rfl (hb hby at_150) rfl ((if0 _ _).trans (teq (rfl : (0 : Int32) = (0 : Int32))).2) ?_
    show Steps p.tables e below (T12.setTop (mkF m 153 #[.val (.long c0), .second, .val (.long c1), .second, .val (.long c2), .second, .val (.int ai), .val (.long b), .second, .val (.int (own_di ai)), .val (.double (FP.i2d (own_di ai))), .second, .val (.long (own_max (1 : Int64) (b &&& (9223372036854775807 : Int64)))), .second, .val (.ref a), .val (.double (own_pos (0 : Int64) (FP.i2d (own_di ai)) (own_max (1 : Int64) (b &&& (9223372036854775807 : Int64))))), .second, .val (.double (own_pos (own_T1 c0 c1) (FP.i2d (own_di ai)) (own_max (1 : Int64) (b &&& (9223372036854775807 : Int64))))), .second, .val (.double (own_pos (own_T2 c0 c1 c2) (FP.i2d (own_di ai)) (own_max (1 : Int64) (b &&& (9223372036854775807 : Int64))))), .second, .val (.double (own_pos (own_T3 c0 c1 c2) (FP.i2d (own_di ai)) (own_max (1 : Int64) (b &&& (9223372036854775807 : Int64))))), .second, .val (.long (own_t1 c0 c1)), .second, .val (.long (own_t2 c0 c1 c2)), .second, .val (.long (own_t3 c0 c1 c2)), .second] [])) _
    refine XS.dload X12.here hx rfl (hb hby at_153) rfl ?_
    show Steps p.tables e below (T12.setTop (mkF m 155 #[.val (.long c0), .second, .val (.long c1), .second, .val (.long c2), .second, .val (.int ai), .val (.long b), .second, .val (.int (own_di ai)), .val (.double (FP.i2d (own_di ai))), .second, .val (.long (own_max (1 : Int64) (b &&& (9223372036854775807 : Int64)))), .second, .val (.ref a), .val (.double (own_pos (0 : Int64) (FP.i2d (own_di ai)) (own_max (1 : Int64) (b &&& (9223372036854775807 : Int64))))), .second, .val (.double (own_pos (own_T1 c0 c1) (FP.i2d (own_di ai)) (own_max (1 : Int64) (b &&& (9223372036854775807 : Int64))))), .second, .val (.double (own_pos (own_T2 c0 c1 c2) (FP.i2d (own_di ai)) (own_max (1 : Int64) (b &&& (9223372036854775807 : Int64))))), .second, .val (.double (own_pos (own_T3 c0 c1 c2) (FP.i2d (own_di ai)) (own_max (1 : Int64) (b &&& (9223372036854775807 : Int64))))), .second, .val (.long (own_t1 c0 c1)), .second, .val (.long (own_t2 c0 c1 c2)), .second, .val (.long (own_t3 c0 c1 c2)), .second] [(.double (own_pos (own_T3 c0 c1 c2) (FP.i2d (own_di ai)) (own_max (1 : Int64) (b &&& (9223372036854775807 : Int64)))))])) _
    refine XS.lload X12.here hx rfl (hb hby at_155) rfl ?_
    show Steps p.tables e below (T12.setTop (mkF m 157 #[.val (.long c0), .second, .val (.long c1), .second, .val (.long c2), .second, .val (.int ai), .val (.long b), .second, .val (.int (own_di ai)), .val (.double (FP.i2d (own_di ai))), .second, .val (.long (own_max (1 : Int64) (b &&& (9223372036854775807 : Int64)))), .second, .val (.ref a), .val (.double (own_pos (0 : Int64) (FP.i2d (own_di ai)) (own_max (1 : Int64) (b &&& (9223372036854775807 : Int64))))), .second, .val (.double (own_pos (own_T1 c0 c1) (FP.i2d (own_di ai)) (own_max (1 : Int64) (b &&& (9223372036854775807 : Int64))))), .second, .val (.double (own_pos (own_T2 c0 c1 c2) (FP.i2d (own_di ai)) (own_max (1 : Int64) (b &&& (9223372036854775807 : Int64))))), .second, .val (.double (own_pos (own_T3 c0 c1 c2) (FP.i2d (own_di ai)) (own_max (1 : Int64) (b &&& (9223372036854775807 : Int64))))), .second, .val (.long (own_t1 c0 c1)), .second, .val (.long (own_t2 c0 c1 c2)), .second, .val (.long (own_t3 c0 c1 c2)), .second] [(.long (own_t3 c0 c1 c2)), (.double (own_pos (own_T3 c0 c1 c2) (FP.i2d (own_di ai)) (own_max (1 : Int64) (b &&& (9223372036854775807 : Int64)))))])) _
    refine XS.dload X12.here hx rfl (hb hby at_157) rfl ?_
    show Steps p.tables e below (T12.setTop (mkF m 159 #[.val (.long c0), .second, .val (.long c1), .second, .val (.long c2), .second, .val (.int ai), .val (.long b), .second, .val (.int (own_di ai)), .val (.double (FP.i2d (own_di ai))), .second, .val (.long (own_max (1 : Int64) (b &&& (9223372036854775807 : Int64)))), .second, .val (.ref a), .val (.double (own_pos (0 : Int64) (FP.i2d (own_di ai)) (own_max (1 : Int64) (b &&& (9223372036854775807 : Int64))))), .second, .val (.double (own_pos (own_T1 c0 c1) (FP.i2d (own_di ai)) (own_max (1 : Int64) (b &&& (9223372036854775807 : Int64))))), .second, .val (.double (own_pos (own_T2 c0 c1 c2) (FP.i2d (own_di ai)) (own_max (1 : Int64) (b &&& (9223372036854775807 : Int64))))), .second, .val (.double (own_pos (own_T3 c0 c1 c2) (FP.i2d (own_di ai)) (own_max (1 : Int64) (b &&& (9223372036854775807 : Int64))))), .second, .val (.long (own_t1 c0 c1)), .second, .val (.long (own_t2 c0 c1 c2)), .second, .val (.long (own_t3 c0 c1 c2)), .second] [(.double (FP.i2d (own_di ai))), (.long (own_t3 c0 c1 c2)), (.double (own_pos (own_T3 c0 c1 c2) (FP.i2d (own_di ai)) (own_max (1 : Int64) (b &&& (9223372036854775807 : Int64)))))])) _
    refine XS.lload X12.here hx rfl (hb hby at_159) rfl ?_
    show Steps p.tables e below (T12.setTop (mkF m 161 #[.val (.long c0), .second, .val (.long c1), .second, .val (.long c2), .second, .val (.int ai), .val (.long b), .second, .val (.int (own_di ai)), .val (.double (FP.i2d (own_di ai))), .second, .val (.long (own_max (1 : Int64) (b &&& (9223372036854775807 : Int64)))), .second, .val (.ref a), .val (.double (own_pos (0 : Int64) (FP.i2d (own_di ai)) (own_max (1 : Int64) (b &&& (9223372036854775807 : Int64))))), .second, .val (.double (own_pos (own_T1 c0 c1) (FP.i2d (own_di ai)) (own_max (1 : Int64) (b &&& (9223372036854775807 : Int64))))), .second, .val (.double (own_pos (own_T2 c0 c1 c2) (FP.i2d (own_di ai)) (own_max (1 : Int64) (b &&& (9223372036854775807 : Int64))))), .second, .val (.double (own_pos (own_T3 c0 c1 c2) (FP.i2d (own_di ai)) (own_max (1 : Int64) (b &&& (9223372036854775807 : Int64))))), .second, .val (.long (own_t1 c0 c1)), .second, .val (.long (own_t2 c0 c1 c2)), .second, .val (.long (own_t3 c0 c1 c2)), .second] [(.long (own_max (1 : Int64) (b &&& (9223372036854775807 : Int64)))), (.double (FP.i2d (own_di ai))), (.long (own_t3 c0 c1 c2)), (.double (own_pos (own_T3 c0 c1 c2) (FP.i2d (own_di ai)) (own_max (1 : Int64) (b &&& (9223372036854775807 : Int64)))))])) _
    refine st13 _ ?_
    show Steps p.tables e below (T13.setTop (mkF m 164 #[.val (.long c0), .second, .val (.long c1), .second, .val (.long c2), .second, .val (.int ai), .val (.long b), .second, .val (.int (own_di ai)), .val (.double (FP.i2d (own_di ai))), .second, .val (.long (own_max (1 : Int64) (b &&& (9223372036854775807 : Int64)))), .second, .val (.ref a), .val (.double (own_pos (0 : Int64) (FP.i2d (own_di ai)) (own_max (1 : Int64) (b &&& (9223372036854775807 : Int64))))), .second, .val (.double (own_pos (own_T1 c0 c1) (FP.i2d (own_di ai)) (own_max (1 : Int64) (b &&& (9223372036854775807 : Int64))))), .second, .val (.double (own_pos (own_T2 c0 c1 c2) (FP.i2d (own_di ai)) (own_max (1 : Int64) (b &&& (9223372036854775807 : Int64))))), .second, .val (.double (own_pos (own_T3 c0 c1 c2) (FP.i2d (own_di ai)) (own_max (1 : Int64) (b &&& (9223372036854775807 : Int64))))), .second, .val (.long (own_t1 c0 c1)), .second, .val (.long (own_t2 c0 c1 c2)), .second, .val (.long (own_t3 c0 c1 c2)), .second] [(.double (own_pos (own_t3 c0 c1 c2) (FP.i2d (own_di ai)) (own_max (1 : Int64) (b &&& (9223372036854775807 : Int64))))), (.double (own_pos (own_T3 c0 c1 c2) (FP.i2d (own_di ai)) (own_max (1 : Int64) (b &&& (9223372036854775807 : Int64)))))])) _
    refine XS.dcmpS X13.here hx rfl (hb hby at_164) rfl (dcmpV_eq (congrArg (fun t => own_pos t (FP.i2d (own_di ai)) (own_max (1 : Int64) (b &&& (9223372036854775807 : Int64)))) (own_e3 c0 c1 c2)) (own_nd hm hne _) .l) ?_
    show Steps p.tables e below (T13.setTop (mkF m 165 #[.val (.long c0), .second, .val (.long c1), .second, .val (.long c2), .second, .val (.int ai), .val (.long b), .second, .val (.int (own_di ai)), .val (.double (FP.i2d (own_di ai))), .second, .val (.long (own_max (1 : Int64) (b &&& (9223372036854775807 : Int64)))), .second, .val (.ref a), .val (.double (own_pos (0 : Int64) (FP.i2d (own_di ai)) (own_max (1 : Int64) (b &&& (9223372036854775807 : Int64))))), .second, .val (.double (own_pos (own_T1 c0 c1) (FP.i2d (own_di ai)) (own_max (1 : Int64) (b &&& (9223372036854775807 : Int64))))), .second, .val (.double (own_pos (own_T2 c0 c1 c2) (FP.i2d (own_di ai)) (own_max (1 : Int64) (b &&& (9223372036854775807 : Int64))))), .second, .val (.double (own_pos (own_T3 c0 c1 c2) (FP.i2d (own_di ai)) (own_max (1 : Int64) (b &&& (9223372036854775807 : Int64))))), .second, .val (.long (own_t1 c0 c1)), .second, .val (.long (own_t2 c0 c1 c2)), .second, .val (.long (own_t3 c0 c1 c2)), .second] [(.int (0 : Int32))])) _
    refine XS.ifNo X13.here hx rfl (hb hby at_165) rfl ((if0 _ _).trans (teq (rfl : (0 : Int32) = (0 : Int32))).2) ?_
    show Steps p.tables e below (T13.setTop (mkF m 168 #[.val (.long c0), .second, .val (.long c1), .second, .val (.long c2), .second, .val (.int ai), .val (.long b), .second, .val (.int (own_di ai)), .val (.double (FP.i2d (own_di ai))), .second, .val (.long (own_max (1 : Int64) (b &&& (9223372036854775807 : Int64)))), .second, .val (.ref a), .val (.double (own_pos (0 : Int64) (FP.i2d (own_di ai)) (own_max (1 : Int64) (b &&& (9223372036854775807 : Int64))))), .second, .val (.double (own_pos (own_T1 c0 c1) (FP.i2d (own_di ai)) (own_max (1 : Int64) (b &&& (9223372036854775807 : Int64))))), .second, .val (.double (own_pos (own_T2 c0 c1 c2) (FP.i2d (own_di ai)) (own_max (1 : Int64) (b &&& (9223372036854775807 : Int64))))), .second, .val (.double (own_pos (own_T3 c0 c1 c2) (FP.i2d (own_di ai)) (own_max (1 : Int64) (b &&& (9223372036854775807 : Int64))))), .second, .val (.long (own_t1 c0 c1)), .second, .val (.long (own_t2 c0 c1 c2)), .second, .val (.long (own_t3 c0 c1 c2)), .second] [])) _
    refine XS.iconst X13.here hx rfl (hb hby at_168) ?_
    show Steps p.tables e below (T13.setTop (mkF m 169 #[.val (.long c0), .second, .val (.long c1), .second, .val (.long c2), .second, .val (.int ai), .val (.long b), .second, .val (.int (own_di ai)), .val (.double (FP.i2d (own_di ai))), .second, .val (.long (own_max (1 : Int64) (b &&& (9223372036854775807 : Int64)))), .second, .val (.ref a), .val (.double (own_pos (0 : Int64) (FP.i2d (own_di ai)) (own_max (1 : Int64) (b &&& (9223372036854775807 : Int64))))), .second, .val (.double (own_pos (own_T1 c0 c1) (FP.i2d (own_di ai)) (own_max (1 : Int64) (b &&& (9223372036854775807 : Int64))))), .second, .val (.double (own_pos (own_T2 c0 c1 c2) (FP.i2d (own_di ai)) (own_max (1 : Int64) (b &&& (9223372036854775807 : Int64))))), .second, .val (.double (own_pos (own_T3 c0 c1 c2) (FP.i2d (own_di ai)) (own_max (1 : Int64) (b &&& (9223372036854775807 : Int64))))), .second, .val (.long (own_t1 c0 c1)), .second, .val (.long (own_t2 c0 c1 c2)), .second, .val (.long (own_t3 c0 c1 c2)), .second] [(.int (1 : Int32))])) _
    refine XS.goto X13.here hx rfl (pc0 := 169) (pc' := 173) rfl (hb hby at_169) (by decide) (by decide) ?_
    show Steps p.tables e below (T13.setTop (mkF m 173 #[.val (.long c0), .second, .val (.long c1), .second, .val (.long c2), .second, .val (.int ai), .val (.long b), .second, .val (.int (own_di ai)), .val (.double (FP.i2d (own_di ai))), .second, .val (.long (own_max (1 : Int64) (b &&& (9223372036854775807 : Int64)))), .second, .val (.ref a), .val (.double (own_pos (0 : Int64) (FP.i2d (own_di ai)) (own_max (1 : Int64) (b &&& (9223372036854775807 : Int64))))), .second, .val (.double (own_pos (own_T1 c0 c1) (FP.i2d (own_di ai)) (own_max (1 : Int64) (b &&& (9223372036854775807 : Int64))))), .second, .val (.double (own_pos (own_T2 c0 c1 c2) (FP.i2d (own_di ai)) (own_max (1 : Int64) (b &&& (9223372036854775807 : Int64))))), .second, .val (.double (own_pos (own_T3 c0 c1 c2) (FP.i2d (own_di ai)) (own_max (1 : Int64) (b &&& (9223372036854775807 : Int64))))), .second, .val (.long (own_t1 c0 c1)), .second, .val (.long (own_t2 c0 c1 c2)), .second, .val (.long (own_t3 c0 c1 c2)), .second] [(.int (1 : Int32))])) _
    exact retN X13 hx (t := .boolean) Bd.returns (by simp) (hb hby at_173) hr
  · show Qlaw Z c0 c1 c2 ai b h0 n0 _ T13.heap _
    rw [q13]
    exact ⟨rfl, N13⟩
set_option maxRecDepth 65536 in
set_option maxHeartbeats 40000000 in
theorem comes_1 {Post : Tables → Env → Array Value → State → Outcome → State → Prop} (hpost : ∀ tb e args s v u, (limb_1_1.after args s (.returned v) u = true ∧ limb_1_2.after args s (.returned v) u = true ∧ True) → ReturnedEndW s (.returned v) u (Jvm.fieldLocs frame_1_writes args s ++ Jvm.arrayLocs frame_1_arrays args s ++ Jvm.staticLocs frame_1_statics s) 16 2176 → Post tb e args s (.returned v) u) :
    ArmFor flags0 classFile x code maxLocals ret World_1 tables_1 room_1 Calls_1 rest_1 Pre_1 Post := by
  intro l hfl _ _ p e ha hc hk s m args below hf hA hF happ hP
  obtain ⟨hcalls, hrest, hpre⟩ := hP
  obtain ⟨-, -, -, hnamed, -, -, -, hat⟩ := (Spec.applies_iff hf).mp happ
  obtain ⟨hg, hn⟩ := and_e (Cond.before_iff.mp (show (Jvm.Cond.and given_1 narrow_1).before args s = true from hpre))
  obtain ⟨gc, hg⟩ := and_e hg
  obtain ⟨ga0, hg⟩ := and_e hg
  obtain ⟨ga1, hg⟩ := and_e hg
  obtain ⟨ga2, hg⟩ := and_e hg
  obtain ⟨ga3, hg⟩ := and_e hg
  obtain ⟨w0, w1, w2, w3, w4, rfl⟩ : ∃ w0 w1 w2 w3 w4 : Value, args = #[w0, w1, w2, w3, w4] := by
    have hs : args.size = 5 := by simpa [Cond.value, given_1] using gc
    obtain ⟨L⟩ := args
    match L, hs with
    | [w0, w1, w2, w3, w4], _ => exact ⟨w0, w1, w2, w3, w4, rfl⟩
  have hw := fun d (hd : d ∈ tables_1) => atoms_spec (ws := Jvm.Cond.code x code maxLocals ret :: tables_1) hat d (List.mem_cons_of_mem _ hd)
  obtain ⟨i0, ei0⟩ := isL_v ga0
  obtain rfl : w0 = (.long i0) := Option.some.inj ei0
  obtain ⟨i1, ei1⟩ := isL_v ga1
  obtain rfl : w1 = (.long i1) := Option.some.inj ei1
  obtain ⟨i2, ei2⟩ := isL_v ga2
  obtain rfl : w2 = (.long i2) := Option.some.inj ei2
  obtain ⟨i3, ei3⟩ := is_v ga3
  obtain rfl : w3 = (.int i3) := Option.some.inj ei3
  obtain ⟨i4, ei4⟩ := isL_v hg
  obtain rfl : w4 = (.long i4) := Option.some.inj ei4
  obtain ⟨n, o, h1, h2, h3, _, L, rfl, ⟨rfl, N⟩, hq⟩ := rmlaw l s _ hw tables_1 i0 i1 i2 i3 i4 s.heap s.heap.size (Nat.le_refl _) p e ha hc hk s m _ below hf ((Spec.applies_iff_loose hf).mp happ).1 ⟨rfl, State.Warmed39.refl s, rfl⟩ trivial
  refine ⟨n, _, h1, h2, h3, hpost _ _ _ _ _ _ ⟨Cond.after_iff.mpr rfl, Cond.after_iff.mpr (eq_i res_at (Term.int_eval (1)) rfl), trivial⟩ ⟨hq.1, hq.2.1, hq.2.2.1, (hq.2.2.2.sift fun y hy => Or.inr (N y hy)).mono (by decide) (by decide)⟩⟩
theorem main_1_1 : Claimed_1_1 := comes_1 fun _ _ _ _ _ _ h hF => ⟨h.1, hF⟩
theorem main_1_2 : Claimed_1_2 := comes_1 fun _ _ _ _ _ _ h hF => ⟨h.2.1, hF⟩
end Jvm.Pilot.@@N@@
namespace Jvm.Pilot.@@N@@
open Jvm Jvm.ClassFile Sem Op Lib Jvm.Free Jvm.Stand Jvm.Pilot.@@N@@.Jvm.D
/-! MADE BY PROGRAM (witnessworld.py) out of the Statement's table words and the real class files: 18 classes; the members and pool entries that the words name. The judged class is class 1, her method 3. -/
namespace start1
open Jvm.ClassFile
def u (s : String) : CpInfo := .utf8 (stringToUtf16 s)
/-- a pool by its gaps: so many unusable entries, then the entry; so many at the end -/
def gap : Nat → List CpInfo → List CpInfo
  | 0, r => r
  | n + 1, r => .unusable :: gap n r
def poolList (es : List (Nat × CpInfo)) (last : Nat) : List CpInfo := es.foldr (fun e r => gap e.1 (e.2 :: r)) (gap last [])
def pool (es : List (Nat × CpInfo)) (last : Nat) : Array CpInfo := ⟨poolList es last⟩
def fileOf (pool : Array CpInfo) (this : Nat) (attrs : Array Attribute := #[]) (ms : Array MethodInfo := #[]) (fl : Nat := 33) (sup : Nat := 0) (ifs : Array Nat := #[]) (fds : Array FieldInfo := #[]) : ClassFile where
  minorVersion := 0
  majorVersion := 65
  constantPool := pool
  accessFlags := fl
  thisClass := this
  superClass := sup
  interfaces := ifs
  fields := fds
  methods := ms
  attributes := attrs
def plain (name : String) (sup : Option ClassId) : Class where
  name := name
  kind := .ordinary
  loader := none
  accessFlags := 33
  super := sup
  interfaces := #[]
  cf := none
  fields := #[]
  methods := #[]
  instanceTypes := #[]
  staticTypes := #[]
  resolved := #[]
  callSites := []
  init := .initialized
  statics := none
  mirror := none

def pool0 : Array CpInfo := pool [(5, u "<init>"), (0, u "()V"), (1, .class_ 10), (1, u "java/lang/Object")] 113

def k0c0 : Code := { maxStack := 0, maxLocals := 1, code := object_method_1_code, exceptionTable := #[], attributes := #[] }
def k0m0 : Method := { name := "<init>", desc := "()V", sig := { parameters := [], returnType := none }, accessFlags := 1, code := some k0c0 }
/-- java/lang/Object -/
def k0 : Class := { plain "java/lang/Object" none with
  accessFlags := 33
  interfaces := #[]
  cf := some (fileOf pool0 8 #[] #[{ accessFlags := 1, nameIndex := 5, descriptorIndex := 6, attributes := #[] }] 33 0 #[] #[])
  fields := #[]
  methods := #[k0m0]
  instanceTypes := #[]
  staticTypes := #[]
  resolved := Array.replicate 124 none
  statics := none }

def pool1 : Array CpInfo := pool [(2, .class_ 4), (1, u "java/lang/Object"), (0, u "<init>"), (0, u "()V"), (2, .long 9223372036854775807), (1, .methodref 12 13), (0, .class_ 14), (0, .nameAndType 15 16), (0, u "java/lang/Math"), (0, u "max"), (0, u "(JJ)J"), (0, .class_ 18), (0, u "com/example/wheelwise/wheelwise/IncrementalEncoder"), (0, .methodref 17 20), (0, .nameAndType 5 21), (0, u "(DJ)V"), (0, .methodref 17 23), (0, .nameAndType 24 25), (0, u "update"), (0, u "(J)D"), (0, .methodref 27 28), (0, .class_ 29), (0, .nameAndType 30 16), (0, u "com/example/wheelwise/wheelwise/IncrementalEncoderUpdatePinLaw"), (0, u "step"), (0, .methodref 27 32), (0, .nameAndType 33 34), (0, u "pos"), (0, u "(JDJ)D"), (2, u "law"), (0, u "(JJJIJ)Z")] 3

def k1m0 : Method := { name := "<init>", desc := "()V", sig := { parameters := [], returnType := none }, accessFlags := 1, code := none }
def k1c1 : Code := { maxStack := 3, maxLocals := 5, code := method_2_code, exceptionTable := #[], attributes := #[] }
def k1m1 : Method := { name := "step", desc := "(JJ)J", sig := { parameters := [.long, .long], returnType := some .long }, accessFlags := 10, code := some k1c1 }
def k1c2 : Code := { maxStack := 4, maxLocals := 6, code := method_3_code, exceptionTable := #[], attributes := #[] }
def k1m2 : Method := { name := "pos", desc := "(JDJ)D", sig := { parameters := [.long, .double, .long], returnType := some .double }, accessFlags := 10, code := some k1c2 }
def k1c3 : Code := { maxStack := 8, maxLocals := 29, code := code, exceptionTable := #[], attributes := #[] }
def k1m3 : Method := { name := "law", desc := "(JJJIJ)Z", sig := { parameters := [.long, .long, .long, .int, .long], returnType := some .boolean }, accessFlags := 9, code := some k1c3 }
/-- com/example/wheelwise/wheelwise/IncrementalEncoderUpdatePinLaw -/
def k1 : Class := { plain "com/example/wheelwise/wheelwise/IncrementalEncoderUpdatePinLaw" (some 0) with
  accessFlags := 49
  interfaces := #[]
  cf := some (fileOf pool1 27 #[] #[{ accessFlags := 1, nameIndex := 5, descriptorIndex := 6, attributes := #[] }, { accessFlags := 10, nameIndex := 30, descriptorIndex := 16, attributes := #[] }, { accessFlags := 10, nameIndex := 33, descriptorIndex := 34, attributes := #[] }, { accessFlags := 9, nameIndex := 37, descriptorIndex := 38, attributes := #[] }] 49 2 #[] #[])
  fields := #[]
  methods := #[k1m0, k1m1, k1m2, k1m3]
  instanceTypes := #[]
  staticTypes := #[]
  resolved := Array.replicate 42 none
  statics := none }

def pool2 : Array CpInfo := pool [(1, .class_ 2), (0, u "java/lang/Math"), (1, .class_ 6), (1, u "java/lang/Object"), (0, u "<init>"), (0, u "()V"), (5, u "(D)D"), (83, .class_ 100), (1, u "java/lang/Math$RandomNumberGeneratorHolder"), (20, u "(JJ)J"), (2, u "abs"), (47, u "negativeZeroFloatBits"), (0, u "J"), (2, u "negativeZeroDoubleBits"), (21, u "max"), (46, u "$assertionsDisabled"), (0, u "Z"), (91, u "twoToTheDoubleScaleDown"), (0, u "D"), (4, u "twoToTheDoubleScaleUp"), (9, u "E"), (3, u "PI"), (2, u "TAU"), (2, u "DEGREES_TO_RADIANS"), (0, u "RADIANS_TO_DEGREES")] 94

def k2m0 : Method := { name := "<init>", desc := "()V", sig := { parameters := [], returnType := none }, accessFlags := 2, code := none }
def k2c1 : Code := { maxStack := 4, maxLocals := 2, code := jdk_29_method_64_code, exceptionTable := #[], attributes := #[] }
def k2m1 : Method := { name := "abs", desc := "(D)D", sig := { parameters := [.double], returnType := some .double }, accessFlags := 9, code := some k2c1 }
def k2c2 : Code := { maxStack := 4, maxLocals := 4, code := jdk_29_method_66_code, exceptionTable := #[], attributes := #[] }
def k2m2 : Method := { name := "max", desc := "(JJ)J", sig := { parameters := [.long, .long], returnType := some .long }, accessFlags := 9, code := some k2c2 }
/-- java/lang/Math -/
def k2 : Class := { plain "java/lang/Math" (some 0) with
  accessFlags := 49
  interfaces := #[]
  cf := some (fileOf pool2 1 #[.nestMembers #[98]] #[{ accessFlags := 2, nameIndex := 7, descriptorIndex := 8, attributes := #[] }, { accessFlags := 9, nameIndex := 124, descriptorIndex := 14, attributes := #[] }, { accessFlags := 9, nameIndex := 198, descriptorIndex := 121, attributes := #[] }] 49 4 #[] #[{ accessFlags := 25, nameIndex := 354, descriptorIndex := 339, attributes := #[] }, { accessFlags := 25, nameIndex := 358, descriptorIndex := 339, attributes := #[] }, { accessFlags := 25, nameIndex := 361, descriptorIndex := 339, attributes := #[] }, { accessFlags := 26, nameIndex := 364, descriptorIndex := 339, attributes := #[] }, { accessFlags := 26, nameIndex := 365, descriptorIndex := 339, attributes := #[] }, { accessFlags := 26, nameIndex := 172, descriptorIndex := 173, attributes := #[] }, { accessFlags := 26, nameIndex := 176, descriptorIndex := 173, attributes := #[] }, { accessFlags := 8, nameIndex := 344, descriptorIndex := 339, attributes := #[] }, { accessFlags := 8, nameIndex := 338, descriptorIndex := 339, attributes := #[] }, { accessFlags := 4120, nameIndex := 245, descriptorIndex := 246, attributes := #[] }])
  fields := #[{ name := "E", type := .double, accessFlags := 25, slot := 0, constantValue := 0 }, { name := "PI", type := .double, accessFlags := 25, slot := 1, constantValue := 0 }, { name := "TAU", type := .double, accessFlags := 25, slot := 2, constantValue := 0 }, { name := "DEGREES_TO_RADIANS", type := .double, accessFlags := 26, slot := 3, constantValue := 0 }, { name := "RADIANS_TO_DEGREES", type := .double, accessFlags := 26, slot := 4, constantValue := 0 }, { name := "negativeZeroFloatBits", type := .long, accessFlags := 26, slot := 5, constantValue := 0 }, { name := "negativeZeroDoubleBits", type := .long, accessFlags := 26, slot := 6, constantValue := 0 }, { name := "twoToTheDoubleScaleUp", type := .double, accessFlags := 8, slot := 7, constantValue := 0 }, { name := "twoToTheDoubleScaleDown", type := .double, accessFlags := 8, slot := 8, constantValue := 0 }, { name := "$assertionsDisabled", type := .boolean, accessFlags := 4120, slot := 9, constantValue := 0 }]
  methods := #[k2m0, k2m1, k2m2]
  instanceTypes := #[]
  staticTypes := #[.double, .double, .double, .double, .double, .long, .long, .double, .double, .boolean]
  resolved := Array.replicate 460 none
  statics := none }

def pool3 : Array CpInfo := pool [(1, .methodref 2 3), (0, .class_ 4), (0, .nameAndType 5 6), (0, u "java/lang/Object"), (0, u "<init>"), (0, u "()V"), (0, .string 8), (0, u "distance per turn"), (0, .methodref 10 11), (0, .class_ 12), (0, .nameAndType 13 14), (0, u "com/example/wheelwise/wheelwise/Arguments"), (0, u "requireFiniteNonZero"), (0, u "(DLjava/lang/String;)D"), (0, .fieldref 16 17), (0, .class_ 18), (0, .nameAndType 19 20), (0, u "com/example/wheelwise/wheelwise/IncrementalEncoder"), (0, u "distancePerTurn"), (0, u "D"), (0, .string 22), (0, u "counts per turn"), (0, .methodref 10 24), (0, .nameAndType 25 26), (0, u "requirePositive"), (0, u "(JLjava/lang/String;)J"), (0, .fieldref 16 28), (0, .nameAndType 29 30), (0, u "countsPerTurn"), (0, u "J"), (2, .double 14114281232179134464), (1, .methodref 36 37), (0, .class_ 38), (0, .nameAndType 39 40), (0, u "java/lang/Double"), (0, u "isInfinite"), (0, u "(D)Z"), (9, .fieldref 16 51), (0, .nameAndType 52 53), (0, u "hasPrevious"), (0, u "Z"), (0, .fieldref 16 55), (0, .nameAndType 56 30), (0, u "total"), (0, .fieldref 16 58), (0, .nameAndType 59 30), (0, u "previous"), (0, u "(DJ)V"), (3, u "update"), (0, u "(J)D")] 17

def k3c0 : Code := { maxStack := 4, maxLocals := 5, code := prog_6_method_1_code, exceptionTable := #[], attributes := #[] }
def k3m0 : Method := { name := "<init>", desc := "(DJ)V", sig := { parameters := [.double, .long], returnType := none }, accessFlags := 1, code := some k3c0 }
def k3c1 : Code := { maxStack := 7, maxLocals := 3, code := prog_6_method_2_code, exceptionTable := #[], attributes := #[] }
def k3m1 : Method := { name := "update", desc := "(J)D", sig := { parameters := [.long], returnType := some .double }, accessFlags := 1, code := some k3c1 }
/-- com/example/wheelwise/wheelwise/IncrementalEncoder -/
def k3 : Class := { plain "com/example/wheelwise/wheelwise/IncrementalEncoder" (some 0) with
  accessFlags := 49
  interfaces := #[]
  cf := some (fileOf pool3 16 #[] #[{ accessFlags := 1, nameIndex := 5, descriptorIndex := 60, attributes := #[] }, { accessFlags := 1, nameIndex := 64, descriptorIndex := 65, attributes := #[] }] 49 2 #[] #[{ accessFlags := 18, nameIndex := 19, descriptorIndex := 20, attributes := #[] }, { accessFlags := 18, nameIndex := 29, descriptorIndex := 30, attributes := #[] }, { accessFlags := 2, nameIndex := 56, descriptorIndex := 30, attributes := #[] }, { accessFlags := 2, nameIndex := 59, descriptorIndex := 30, attributes := #[] }, { accessFlags := 2, nameIndex := 52, descriptorIndex := 53, attributes := #[] }])
  fields := #[{ name := "distancePerTurn", type := .double, accessFlags := 18, slot := 0, constantValue := 0 }, { name := "countsPerTurn", type := .long, accessFlags := 18, slot := 1, constantValue := 0 }, { name := "total", type := .long, accessFlags := 2, slot := 2, constantValue := 0 }, { name := "previous", type := .long, accessFlags := 2, slot := 3, constantValue := 0 }, { name := "hasPrevious", type := .boolean, accessFlags := 2, slot := 4, constantValue := 0 }]
  methods := #[k3m0, k3m1]
  instanceTypes := #[.double, .long, .long, .long, .boolean]
  staticTypes := #[]
  resolved := Array.replicate 83 none
  statics := none }

def pool4 : Array CpInfo := pool [(1, .class_ 2), (0, u "java/io/Serializable"), (0, .class_ 4), (0, u "java/lang/Object")] 2

/-- java/io/Serializable -/
def k4 : Class := { plain "java/io/Serializable" (some 0) with
  accessFlags := 1537
  interfaces := #[]
  cf := some (fileOf pool4 1 #[] #[] 1537 3 #[] #[])
  fields := #[]
  methods := #[]
  instanceTypes := #[]
  staticTypes := #[]
  resolved := Array.replicate 7 none
  statics := none }

def pool5 : Array CpInfo := pool [(1, .class_ 2), (0, u "java/lang/Comparable"), (0, .class_ 4), (0, u "java/lang/Object")] 7

/-- java/lang/Comparable -/
def k5 : Class := { plain "java/lang/Comparable" (some 0) with
  accessFlags := 1537
  interfaces := #[]
  cf := some (fileOf pool5 1 #[] #[] 1537 3 #[] #[])
  fields := #[]
  methods := #[]
  instanceTypes := #[]
  staticTypes := #[]
  resolved := Array.replicate 12 none
  statics := none }

def pool6 : Array CpInfo := pool [(2, .class_ 4), (1, u "java/lang/CharSequence"), (42, .class_ 48), (0, u "java/lang/CharSequence$1CodePointIterator"), (10, .class_ 60), (0, u "java/lang/CharSequence$1CharIterator"), (5, .class_ 67), (0, u "java/lang/Object")] 63

/-- java/lang/CharSequence -/
def k6 : Class := { plain "java/lang/CharSequence" (some 0) with
  accessFlags := 1537
  interfaces := #[]
  cf := some (fileOf pool6 2 #[.nestMembers #[47, 59]] #[] 1537 66 #[] #[])
  fields := #[]
  methods := #[]
  instanceTypes := #[]
  staticTypes := #[]
  resolved := Array.replicate 131 none
  statics := none }

def pool7 : Array CpInfo := pool [(1, .class_ 2), (0, u "java/lang/constant/Constable"), (0, .class_ 4), (0, u "java/lang/Object")] 6

/-- java/lang/constant/Constable -/
def k7 : Class := { plain "java/lang/constant/Constable" (some 0) with
  accessFlags := 1537
  interfaces := #[]
  cf := some (fileOf pool7 1 #[] #[] 1537 3 #[] #[])
  fields := #[]
  methods := #[]
  instanceTypes := #[]
  staticTypes := #[]
  resolved := Array.replicate 11 none
  statics := none }

def pool8 : Array CpInfo := pool [(1, .class_ 2), (0, u "java/lang/constant/ConstantDesc"), (0, .class_ 4), (0, u "java/lang/Object")] 32

/-- java/lang/constant/ConstantDesc -/
def k8 : Class := { plain "java/lang/constant/ConstantDesc" (some 0) with
  accessFlags := 1537
  interfaces := #[]
  cf := some (fileOf pool8 1 #[] #[] 1537 3 #[] #[])
  fields := #[]
  methods := #[]
  instanceTypes := #[]
  staticTypes := #[]
  resolved := Array.replicate 37 none
  statics := none }

def pool9 : Array CpInfo := pool [(2, .class_ 4), (1, u "java/lang/Object"), (0, u "<init>"), (0, u "()V"), (3, .class_ 12), (1, u "java/lang/String"), (0, u "value"), (0, u "[B"), (2, u "coder"), (0, u "B"), (2, u "hash"), (0, u "I"), (2, u "hashIsZero"), (0, u "Z"), (13, u "COMPACT_STRINGS"), (534, .class_ 576), (0, u "java/lang/CharSequence"), (22, u "CASE_INSENSITIVE_ORDER"), (0, u "Ljava/util/Comparator;"), (500, u "serialPersistentFields"), (0, u "[Ljava/io/ObjectStreamField;"), (0, .class_ 1104), (0, u "java/lang/String$CaseInsensitiveComparator"), (1, .class_ 1107), (0, u "java/io/Serializable"), (0, .class_ 1109), (0, u "java/lang/Comparable"), (0, .class_ 1111), (0, u "java/lang/constant/Constable"), (0, .class_ 1113), (0, u "java/lang/constant/ConstantDesc"), (2, u "serialVersionUID"), (0, u "J"), (3, u "REPL"), (0, u "C"), (2, u "LATIN1"), (1, u "UTF16")] 323

def k9m0 : Method := { name := "<init>", desc := "()V", sig := { parameters := [], returnType := none }, accessFlags := 1, code := none }
/-- java/lang/String -/
def k9 : Class := { plain "java/lang/String" (some 0) with
  accessFlags := 49
  interfaces := #[4, 5, 6, 7, 8]
  cf := some (fileOf pool9 10 #[.nestMembers #[1103]] #[{ accessFlags := 1, nameIndex := 5, descriptorIndex := 6, attributes := #[] }] 49 2 #[1106, 1108, 575, 1110, 1112] #[{ accessFlags := 18, nameIndex := 13, descriptorIndex := 14, attributes := #[] }, { accessFlags := 18, nameIndex := 17, descriptorIndex := 18, attributes := #[] }, { accessFlags := 2, nameIndex := 21, descriptorIndex := 22, attributes := #[] }, { accessFlags := 2, nameIndex := 25, descriptorIndex := 26, attributes := #[] }, { accessFlags := 26, nameIndex := 1116, descriptorIndex := 1117, attributes := #[] }, { accessFlags := 24, nameIndex := 40, descriptorIndex := 26, attributes := #[] }, { accessFlags := 26, nameIndex := 1101, descriptorIndex := 1102, attributes := #[] }, { accessFlags := 26, nameIndex := 1121, descriptorIndex := 1122, attributes := #[] }, { accessFlags := 25, nameIndex := 599, descriptorIndex := 600, attributes := #[] }, { accessFlags := 24, nameIndex := 1125, descriptorIndex := 18, attributes := #[] }, { accessFlags := 24, nameIndex := 1127, descriptorIndex := 18, attributes := #[] }])
  fields := #[{ name := "value", type := (.array .byte), accessFlags := 18, slot := 0, constantValue := 0 }, { name := "coder", type := .byte, accessFlags := 18, slot := 1, constantValue := 0 }, { name := "hash", type := .int, accessFlags := 2, slot := 2, constantValue := 0 }, { name := "hashIsZero", type := .boolean, accessFlags := 2, slot := 3, constantValue := 0 }, { name := "serialVersionUID", type := .long, accessFlags := 26, slot := 0, constantValue := 0 }, { name := "COMPACT_STRINGS", type := .boolean, accessFlags := 24, slot := 1, constantValue := 0 }, { name := "serialPersistentFields", type := (.array (.object "java/io/ObjectStreamField")), accessFlags := 26, slot := 2, constantValue := 0 }, { name := "REPL", type := .char, accessFlags := 26, slot := 3, constantValue := 0 }, { name := "CASE_INSENSITIVE_ORDER", type := (.object "java/util/Comparator"), accessFlags := 25, slot := 4, constantValue := 0 }, { name := "LATIN1", type := .byte, accessFlags := 24, slot := 5, constantValue := 0 }, { name := "UTF16", type := .byte, accessFlags := 24, slot := 6, constantValue := 0 }]
  methods := #[k9m0]
  instanceTypes := #[(.array .byte), .byte, .int, .boolean]
  staticTypes := #[.long, .boolean, (.array (.object "java/io/ObjectStreamField")), .char, (.object "java/util/Comparator"), .byte, .byte]
  resolved := Array.replicate 1451 none
  statics := none }

def pool10 : Array CpInfo := pool [(2, .class_ 4), (1, u "java/lang/Object"), (0, u "<init>"), (0, u "()V"), (12, .methodref 20 21), (0, .class_ 22), (0, .nameAndType 23 24), (0, u "java/lang/Double"), (0, u "isNaN"), (0, u "(D)Z"), (0, .methodref 20 26), (0, .nameAndType 27 24), (0, u "isInfinite"), (5, .class_ 35), (1, u "com/example/wheelwise/wheelwise/Arguments"), (45, u "requirePositive"), (0, u "(JLjava/lang/String;)J"), (3, u "(DLjava/lang/String;)D"), (10, u "requireFiniteNonZero")] 31

def k10m0 : Method := { name := "<init>", desc := "()V", sig := { parameters := [], returnType := none }, accessFlags := 2, code := none }
def k10c1 : Code := { maxStack := 5, maxLocals := 3, code := prog_3_method_2_code, exceptionTable := #[], attributes := #[] }
def k10m1 : Method := { name := "requirePositive", desc := "(JLjava/lang/String;)J", sig := { parameters := [.long, (.object "java/lang/String")], returnType := some .long }, accessFlags := 8, code := some k10c1 }
def k10c2 : Code := { maxStack := 5, maxLocals := 3, code := prog_3_method_13_code, exceptionTable := #[], attributes := #[] }
def k10m2 : Method := { name := "requireFiniteNonZero", desc := "(DLjava/lang/String;)D", sig := { parameters := [.double, (.object "java/lang/String")], returnType := some .double }, accessFlags := 8, code := some k10c2 }
/-- com/example/wheelwise/wheelwise/Arguments -/
def k10 : Class := { plain "com/example/wheelwise/wheelwise/Arguments" (some 0) with
  accessFlags := 48
  interfaces := #[]
  cf := some (fileOf pool10 33 #[] #[{ accessFlags := 2, nameIndex := 5, descriptorIndex := 6, attributes := #[] }, { accessFlags := 8, nameIndex := 81, descriptorIndex := 82, attributes := #[] }, { accessFlags := 8, nameIndex := 97, descriptorIndex := 86, attributes := #[] }] 48 2 #[] #[])
  fields := #[]
  methods := #[k10m0, k10m1, k10m2]
  instanceTypes := #[]
  staticTypes := #[]
  resolved := Array.replicate 129 none
  statics := none }

def pool11 : Array CpInfo := pool [(2, .class_ 4), (1, u "java/lang/Object"), (0, u "<init>"), (0, u "()V"), (1, .class_ 10), (1, u "java/lang/Number"), (2, .class_ 14), (0, u "java/io/Serializable"), (0, u "serialVersionUID"), (0, u "J")] 20

def k11m0 : Method := { name := "<init>", desc := "()V", sig := { parameters := [], returnType := none }, accessFlags := 1, code := none }
/-- java/lang/Number -/
def k11 : Class := { plain "java/lang/Number" (some 0) with
  accessFlags := 1057
  interfaces := #[4]
  cf := some (fileOf pool11 8 #[] #[{ accessFlags := 1, nameIndex := 5, descriptorIndex := 6, attributes := #[] }] 1057 2 #[13] #[{ accessFlags := 26, nameIndex := 15, descriptorIndex := 16, attributes := #[] }])
  fields := #[{ name := "serialVersionUID", type := .long, accessFlags := 26, slot := 0, constantValue := 0 }]
  methods := #[k11m0]
  instanceTypes := #[]
  staticTypes := #[.long]
  resolved := Array.replicate 37 none
  statics := none }

def pool12 : Array CpInfo := pool [(1, .class_ 2), (0, u "java/lang/Double"), (11, u "(D)Z"), (8, .class_ 25), (1, u "java/lang/Math"), (12, .methodref 23 39), (0, .nameAndType 40 41), (0, u "abs"), (0, u "(D)D"), (69, .double 9218868437227405311), (2, .class_ 116), (1, u "java/lang/Number"), (3, u "value"), (0, u "D"), (2, u "isNaN"), (2, u "isInfinite"), (45, u "TYPE"), (0, u "Ljava/lang/Class;"), (0, .class_ 176), (0, u "java/lang/Comparable"), (0, .class_ 178), (0, u "java/lang/constant/Constable"), (0, .class_ 180), (0, u "java/lang/constant/ConstantDesc"), (0, u "POSITIVE_INFINITY"), (3, u "NEGATIVE_INFINITY"), (2, u "NaN"), (2, u "MAX_VALUE"), (0, u "MIN_NORMAL"), (0, u "MIN_VALUE"), (2, u "SIZE"), (0, u "I"), (1, u "PRECISION"), (1, u "MAX_EXPONENT"), (1, u "MIN_EXPONENT"), (1, u "BYTES"), (3, u "serialVersionUID"), (0, u "J")] 79

def k12c0 : Code := { maxStack := 4, maxLocals := 2, code := jdk_117_method_6_code, exceptionTable := #[], attributes := #[] }
def k12m0 : Method := { name := "isNaN", desc := "(D)Z", sig := { parameters := [.double], returnType := some .boolean }, accessFlags := 9, code := some k12c0 }
def k12c1 : Code := { maxStack := 4, maxLocals := 2, code := jdk_117_method_7_code, exceptionTable := #[], attributes := #[] }
def k12m1 : Method := { name := "isInfinite", desc := "(D)Z", sig := { parameters := [.double], returnType := some .boolean }, accessFlags := 9, code := some k12c1 }
/-- java/lang/Double -/
def k12 : Class := { plain "java/lang/Double" (some 11) with
  accessFlags := 49
  interfaces := #[5, 7, 8]
  cf := some (fileOf pool12 1 #[] #[{ accessFlags := 9, nameIndex := 124, descriptorIndex := 14, attributes := #[] }, { accessFlags := 9, nameIndex := 127, descriptorIndex := 14, attributes := #[] }] 49 114 #[175, 177, 179] #[{ accessFlags := 25, nameIndex := 181, descriptorIndex := 121, attributes := #[] }, { accessFlags := 25, nameIndex := 185, descriptorIndex := 121, attributes := #[] }, { accessFlags := 25, nameIndex := 188, descriptorIndex := 121, attributes := #[] }, { accessFlags := 25, nameIndex := 191, descriptorIndex := 121, attributes := #[] }, { accessFlags := 25, nameIndex := 192, descriptorIndex := 121, attributes := #[] }, { accessFlags := 25, nameIndex := 193, descriptorIndex := 121, attributes := #[] }, { accessFlags := 25, nameIndex := 196, descriptorIndex := 197, attributes := #[] }, { accessFlags := 25, nameIndex := 199, descriptorIndex := 197, attributes := #[] }, { accessFlags := 25, nameIndex := 201, descriptorIndex := 197, attributes := #[] }, { accessFlags := 25, nameIndex := 203, descriptorIndex := 197, attributes := #[] }, { accessFlags := 25, nameIndex := 205, descriptorIndex := 197, attributes := #[] }, { accessFlags := 25, nameIndex := 173, descriptorIndex := 174, attributes := #[] }, { accessFlags := 18, nameIndex := 120, descriptorIndex := 121, attributes := #[] }, { accessFlags := 26, nameIndex := 209, descriptorIndex := 210, attributes := #[] }])
  fields := #[{ name := "POSITIVE_INFINITY", type := .double, accessFlags := 25, slot := 0, constantValue := 0 }, { name := "NEGATIVE_INFINITY", type := .double, accessFlags := 25, slot := 1, constantValue := 0 }, { name := "NaN", type := .double, accessFlags := 25, slot := 2, constantValue := 0 }, { name := "MAX_VALUE", type := .double, accessFlags := 25, slot := 3, constantValue := 0 }, { name := "MIN_NORMAL", type := .double, accessFlags := 25, slot := 4, constantValue := 0 }, { name := "MIN_VALUE", type := .double, accessFlags := 25, slot := 5, constantValue := 0 }, { name := "SIZE", type := .int, accessFlags := 25, slot := 6, constantValue := 0 }, { name := "PRECISION", type := .int, accessFlags := 25, slot := 7, constantValue := 0 }, { name := "MAX_EXPONENT", type := .int, accessFlags := 25, slot := 8, constantValue := 0 }, { name := "MIN_EXPONENT", type := .int, accessFlags := 25, slot := 9, constantValue := 0 }, { name := "BYTES", type := .int, accessFlags := 25, slot := 10, constantValue := 0 }, { name := "TYPE", type := (.object "java/lang/Class"), accessFlags := 25, slot := 11, constantValue := 0 }, { name := "value", type := .double, accessFlags := 18, slot := 0, constantValue := 0 }, { name := "serialVersionUID", type := .long, accessFlags := 26, slot := 12, constantValue := 0 }]
  methods := #[k12m0, k12m1]
  instanceTypes := #[.double]
  staticTypes := #[.double, .double, .double, .double, .double, .double, .int, .int, .int, .int, .int, (.object "java/lang/Class"), .long]
  resolved := Array.replicate 290 none
  statics := none }

def pool13 : Array CpInfo := pool [(1, u "java/lang/Cloneable"), (0, .class_ 1), (0, u "java/lang/Object"), (0, .class_ 3)] 3

/-- java/lang/Cloneable -/
def k13 : Class := { plain "java/lang/Cloneable" (some 0) with
  accessFlags := 1537
  interfaces := #[]
  cf := some (fileOf pool13 2 #[] #[] 1537 4 #[] #[])
  fields := #[]
  methods := #[]
  instanceTypes := #[]
  staticTypes := #[]
  resolved := Array.replicate 8 none
  statics := none }

/-- the primitive byte -/
def k14 : Class := { plain "byte" none with kind := .primitive 'B', accessFlags := 0x411 }
/-- [B -/
def k15 : Class := { plain "[B" (some 0) with kind := .array 14 .byte, interfaces := #[13, 4], accessFlags := 1041 }

/-- the primitive int -/
def k16 : Class := { plain "int" none with kind := .primitive 'I', accessFlags := 0x411 }
/-- [I -/
def k17 : Class := { plain "[I" (some 0) with kind := .array 16 .int, interfaces := #[13, 4], accessFlags := 1041 }

def heap : Heap := #[]
def classes : Array Class := #[k0, k1, k2, k3, k4, k5, k6, k7, k8, k9, k10, k11, k12, k13, k14, k15, k16, k17]
def interned : List (Array UInt16 × Addr) := []
def slotsUsed : Nat := 0
def theMethod : MethodId := ⟨1, 3⟩
def args0 : Array Value := #[.long 5, .long 6, .long 7, .int 8, .long 10]
def aboutOver (below : List Frame) : State where
  vm := { classes := classes, interned := interned.toArray }
  heap := heap
  slotsUsed := slotsUsed
  threads := #[{ frames := .invoking theMethod args0 :: below }]
def below0 : List Frame := [.native { method := ⟨0, 0⟩, args := #[] }]
def about1 : State := aboutOver below0
def p0 : Program := .bare "" "" ""
def e0 : Env := launch0.env 0 0 0
theorem w_frames : about1.frames = Frame.invoking theMethod args0 :: below0 := rfl
set_option maxRecDepth 65536 in
theorem w_args : argsFit about1.vm theMethod args0 = true := by decide +kernel
set_option maxRecDepth 65536 in
theorem w_heap : heapFits about1 = true := by decide +kernel
set_option maxRecDepth 65536 in
theorem w_runnable : about1.curStatus? = some .runnable := by decide +kernel
set_option maxRecDepth 65536 in
theorem w_alone : about1.alone = true := by decide +kernel
set_option maxRecDepth 65536 in
theorem w_named : about1.methodNamed? x = some theMethod := by decide +kernel
set_option maxRecDepth 65536 in
theorem w_hears : about1.hears theMethod below0 = true := by decide +kernel
set_option maxRecDepth 65536 in
theorem w_ripe : about1.ripe theMethod args0 below0 = true := by decide +kernel
theorem w_running : about1.status = .running := rfl
set_option maxRecDepth 65536 in
theorem w_room : about1.hasRoom e0.platform room_1 = true :=
  launch0.hasRoom_least _ room_1 (by decide +kernel) (by decide +kernel) (by decide +kernel) (by decide +kernel) (by decide +kernel) (by decide +kernel)
theorem allAtoms_all (ts : List Jvm.Cond) (a : Array Jvm.Value) (st : Jvm.State) : (allAtoms ts).before a st = ts.all (fun c => c.before a st) := by
  induction ts with
  | nil => rfl
  | cons c t ih =>
    show (Jvm.Cond.and c (allAtoms t)).before a st = _
    rw [Jvm.Cond.before_and, ih, List.all_cons]
def words1 : List Jvm.Cond := Jvm.Cond.code x code maxLocals ret :: tables_1
/-- a 'code' word, met by the world's own term for the bytes: nothing is compared byte by byte -/
theorem code_word {y : MethodName} {bytes : ByteArray} {mx : Nat} {rt : Option FieldType} {a : Array Value} {s : State} {m : MethodId} {meth : Method} {c : Code} (h1 : s.methodNamed? y = some m) (h2 : s.vm.method? m = some meth) (h3 : meth.code = some c) (h4 : c.code = bytes)
    (h5 : (c.maxLocals == mx && c.exceptionTable.isEmpty && decide (c.maxStack ≤ mostOperands) && decide (meth.sig.returnType = rt) && !meth.locks && decide (parseMethodDescriptor y.desc = some meth.sig)) = true) : (Jvm.Cond.code y bytes mx rt).before a s = true := by
  simp only [Bool.and_eq_true, beq_iff_eq, Bool.not_eq_true', decide_eq_true_eq] at h5
  obtain ⟨⟨⟨⟨⟨g1, g2⟩, g3⟩, g4⟩, g5⟩, g6⟩ := h5
  simp [Cond.before, Cond.holds, Cond.value, h1, h2, h3, h4, g1, g2, g3, g4, g5, g6]
def isCode : Jvm.Cond → Bool
  | .code _ _ _ _ => true
  | _ => false
theorem all_split {L : List Jvm.Cond} {P : Jvm.Cond → Bool} (h1 : L.all (fun c => isCode c || P c) = true) (h2 : ∀ c ∈ L.filter isCode, P c = true) : L.all P = true := by
  refine List.all_eq_true.mpr fun c hc => ?_
  have h := List.all_eq_true.mp h1 c hc
  rcases Bool.eq_false_or_eq_true (isCode c) with hi | hi
  · exact h2 c (List.mem_filter.mpr ⟨hc, hi⟩)
  · simpa [hi] using h
set_option maxRecDepth 65536 in
theorem w_c0 : (Jvm.Cond.code x code maxLocals ret).before args0 about1 = true := code_word (m := ⟨1, 3⟩) (meth := k1m3) (c := k1c3) (by decide +kernel) rfl rfl rfl (by decide +kernel)
set_option maxRecDepth 65536 in
theorem w_c1 : (Jvm.Cond.code ({ cls := "java/lang/Math", name := "max", desc := "(JJ)J" } : Jvm.MethodName) jdk_29_method_66_code (4 : Nat) (Option.some Jvm.ClassFile.FieldType.long)).before args0 about1 = true := code_word (m := ⟨2, 2⟩) (meth := k2m2) (c := k2c2) (by decide +kernel) rfl rfl rfl (by decide +kernel)
set_option maxRecDepth 65536 in
theorem w_c2 : (Jvm.Cond.code ({ cls := "com/example/wheelwise/wheelwise/IncrementalEncoder", name := "<init>", desc := "(DJ)V" } : Jvm.MethodName) prog_6_method_1_code (5 : Nat) (Option.none : Option Jvm.ClassFile.FieldType)).before args0 about1 = true := code_word (m := ⟨3, 0⟩) (meth := k3m0) (c := k3c0) (by decide +kernel) rfl rfl rfl (by decide +kernel)
set_option maxRecDepth 65536 in
theorem w_c3 : (Jvm.Cond.code ({ cls := "java/lang/Object", name := "<init>", desc := "()V" } : Jvm.MethodName) object_method_1_code (1 : Nat) (Option.none : Option Jvm.ClassFile.FieldType)).before args0 about1 = true := code_word (m := ⟨0, 0⟩) (meth := k0m0) (c := k0c0) (by decide +kernel) rfl rfl rfl (by decide +kernel)
set_option maxRecDepth 65536 in
theorem w_c4 : (Jvm.Cond.code ({ cls := "com/example/wheelwise/wheelwise/Arguments", name := "requireFiniteNonZero", desc := "(DLjava/lang/String;)D" } : Jvm.MethodName) prog_3_method_13_code (3 : Nat) (Option.some Jvm.ClassFile.FieldType.double)).before args0 about1 = true := code_word (m := ⟨10, 2⟩) (meth := k10m2) (c := k10c2) (by decide +kernel) rfl rfl rfl (by decide +kernel)
set_option maxRecDepth 65536 in
theorem w_c5 : (Jvm.Cond.code ({ cls := "java/lang/Double", name := "isNaN", desc := "(D)Z" } : Jvm.MethodName) jdk_117_method_6_code (2 : Nat) (Option.some Jvm.ClassFile.FieldType.boolean)).before args0 about1 = true := code_word (m := ⟨12, 0⟩) (meth := k12m0) (c := k12c0) (by decide +kernel) rfl rfl rfl (by decide +kernel)
set_option maxRecDepth 65536 in
theorem w_c6 : (Jvm.Cond.code ({ cls := "java/lang/Double", name := "isInfinite", desc := "(D)Z" } : Jvm.MethodName) jdk_117_method_7_code (2 : Nat) (Option.some Jvm.ClassFile.FieldType.boolean)).before args0 about1 = true := code_word (m := ⟨12, 1⟩) (meth := k12m1) (c := k12c1) (by decide +kernel) rfl rfl rfl (by decide +kernel)
set_option maxRecDepth 65536 in
theorem w_c7 : (Jvm.Cond.code ({ cls := "java/lang/Math", name := "abs", desc := "(D)D" } : Jvm.MethodName) jdk_29_method_64_code (2 : Nat) (Option.some Jvm.ClassFile.FieldType.double)).before args0 about1 = true := code_word (m := ⟨2, 1⟩) (meth := k2m1) (c := k2c1) (by decide +kernel) rfl rfl rfl (by decide +kernel)
set_option maxRecDepth 65536 in
theorem w_c8 : (Jvm.Cond.code ({ cls := "com/example/wheelwise/wheelwise/Arguments", name := "requirePositive", desc := "(JLjava/lang/String;)J" } : Jvm.MethodName) prog_3_method_2_code (3 : Nat) (Option.some Jvm.ClassFile.FieldType.long)).before args0 about1 = true := code_word (m := ⟨10, 1⟩) (meth := k10m1) (c := k10c1) (by decide +kernel) rfl rfl rfl (by decide +kernel)
set_option maxRecDepth 65536 in
theorem w_c9 : (Jvm.Cond.code ({ cls := "com/example/wheelwise/wheelwise/IncrementalEncoder", name := "update", desc := "(J)D" } : Jvm.MethodName) prog_6_method_2_code (3 : Nat) (Option.some Jvm.ClassFile.FieldType.double)).before args0 about1 = true := code_word (m := ⟨3, 1⟩) (meth := k3m1) (c := k3c1) (by decide +kernel) rfl rfl rfl (by decide +kernel)
set_option maxRecDepth 65536 in
theorem w_c10 : (Jvm.Cond.code ({ cls := "com/example/wheelwise/wheelwise/IncrementalEncoderUpdatePinLaw", name := "step", desc := "(JJ)J" } : Jvm.MethodName) method_2_code (5 : Nat) (Option.some Jvm.ClassFile.FieldType.long)).before args0 about1 = true := code_word (m := ⟨1, 1⟩) (meth := k1m1) (c := k1c1) (by decide +kernel) rfl rfl rfl (by decide +kernel)
set_option maxRecDepth 65536 in
theorem w_c11 : (Jvm.Cond.code ({ cls := "com/example/wheelwise/wheelwise/IncrementalEncoderUpdatePinLaw", name := "pos", desc := "(JDJ)D" } : Jvm.MethodName) method_3_code (6 : Nat) (Option.some Jvm.ClassFile.FieldType.double)).before args0 about1 = true := code_word (m := ⟨1, 2⟩) (meth := k1m2) (c := k1c2) (by decide +kernel) rfl rfl rfl (by decide +kernel)
def codes1 : List Jvm.Cond := [Jvm.Cond.code x code maxLocals ret, Jvm.Cond.code ({ cls := "java/lang/Math", name := "max", desc := "(JJ)J" } : Jvm.MethodName) jdk_29_method_66_code (4 : Nat) (Option.some Jvm.ClassFile.FieldType.long), Jvm.Cond.code ({ cls := "com/example/wheelwise/wheelwise/IncrementalEncoder", name := "<init>", desc := "(DJ)V" } : Jvm.MethodName) prog_6_method_1_code (5 : Nat) (Option.none : Option Jvm.ClassFile.FieldType), Jvm.Cond.code ({ cls := "java/lang/Object", name := "<init>", desc := "()V" } : Jvm.MethodName) object_method_1_code (1 : Nat) (Option.none : Option Jvm.ClassFile.FieldType), Jvm.Cond.code ({ cls := "com/example/wheelwise/wheelwise/Arguments", name := "requireFiniteNonZero", desc := "(DLjava/lang/String;)D" } : Jvm.MethodName) prog_3_method_13_code (3 : Nat) (Option.some Jvm.ClassFile.FieldType.double), Jvm.Cond.code ({ cls := "java/lang/Double", name := "isNaN", desc := "(D)Z" } : Jvm.MethodName) jdk_117_method_6_code (2 : Nat) (Option.some Jvm.ClassFile.FieldType.boolean), Jvm.Cond.code ({ cls := "java/lang/Double", name := "isInfinite", desc := "(D)Z" } : Jvm.MethodName) jdk_117_method_7_code (2 : Nat) (Option.some Jvm.ClassFile.FieldType.boolean), Jvm.Cond.code ({ cls := "java/lang/Math", name := "abs", desc := "(D)D" } : Jvm.MethodName) jdk_29_method_64_code (2 : Nat) (Option.some Jvm.ClassFile.FieldType.double), Jvm.Cond.code ({ cls := "com/example/wheelwise/wheelwise/Arguments", name := "requirePositive", desc := "(JLjava/lang/String;)J" } : Jvm.MethodName) prog_3_method_2_code (3 : Nat) (Option.some Jvm.ClassFile.FieldType.long), Jvm.Cond.code ({ cls := "com/example/wheelwise/wheelwise/IncrementalEncoder", name := "update", desc := "(J)D" } : Jvm.MethodName) prog_6_method_2_code (3 : Nat) (Option.some Jvm.ClassFile.FieldType.double), Jvm.Cond.code ({ cls := "com/example/wheelwise/wheelwise/IncrementalEncoderUpdatePinLaw", name := "step", desc := "(JJ)J" } : Jvm.MethodName) method_2_code (5 : Nat) (Option.some Jvm.ClassFile.FieldType.long), Jvm.Cond.code ({ cls := "com/example/wheelwise/wheelwise/IncrementalEncoderUpdatePinLaw", name := "pos", desc := "(JDJ)D" } : Jvm.MethodName) method_3_code (6 : Nat) (Option.some Jvm.ClassFile.FieldType.double)]
set_option maxRecDepth 65536 in
theorem codes_eq : words1.filter isCode = codes1 := rfl
theorem w_codes : ∀ c ∈ words1.filter isCode, c.before args0 about1 = true := by
  rw [codes_eq]
  intro c hc
  simp only [codes1, List.mem_cons, List.not_mem_nil, or_false] at hc
  rcases hc with rfl | rfl | rfl | rfl | rfl | rfl | rfl | rfl | rfl | rfl | rfl | rfl
  · exact w_c0
  · exact w_c1
  · exact w_c2
  · exact w_c3
  · exact w_c4
  · exact w_c5
  · exact w_c6
  · exact w_c7
  · exact w_c8
  · exact w_c9
  · exact w_c10
  · exact w_c11
set_option maxRecDepth 65536 in
theorem w_t1 : (words1.take 24).all (fun c => isCode c || c.before args0 about1) = true := by decide +kernel
set_option maxRecDepth 65536 in
theorem w_t2 : ((words1.drop 24).take 24).all (fun c => isCode c || c.before args0 about1) = true := by decide +kernel
set_option maxRecDepth 65536 in
theorem w_t3 : ((words1.drop 24).drop 24).all (fun c => isCode c || c.before args0 about1) = true := by decide +kernel
theorem w_tables : (allAtoms (Jvm.Cond.code x code maxLocals ret :: tables_1)).before args0 about1 = true := by
  rw [allAtoms_all]
  show words1.all (fun c => c.before args0 about1) = true
  refine all_split ?_ w_codes
  rw [← List.take_append_drop 24 words1, List.all_append, w_t1, ← List.take_append_drop 24 (words1.drop 24), List.all_append, w_t2, w_t3]
  rfl
set_option maxRecDepth 65536 in
theorem w_case : (Jvm.Cond.and given_1 narrow_1).before args0 about1 = true := by decide +kernel
theorem w_applies : (headSpec (Jvm.Cond.code x code maxLocals ret :: tables_1) room_1).applies x e0.platform about1 = true :=
  (Spec.applies_iff w_frames).mpr ⟨w_running, w_runnable, w_alone, w_named, w_hears, w_ripe, w_room, w_tables⟩
theorem atStart : AtStart classFile x code maxLocals ret World_1 tables_1 room_1 Calls_1 rest_1 Pre_1 launch0 p0 e0 about1 theMethod args0 below0 :=
  ⟨lists_1, trivial, launch0.admits_env _ _ _, launch0.least_env, fairChoices_fair.cas, fairChoices_fair.clock, w_frames, w_args, w_heap, w_applies, trivial, trivial, w_case⟩
end start1
theorem witness_1 : WitnessClaimed_1 := ⟨start1.p0, start1.e0, start1.about1, start1.theMethod, start1.args0, start1.below0, start1.atStart⟩
end Jvm.Pilot.@@N@@
