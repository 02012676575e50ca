import JvmDerived
import JvmDerived.Pilot.@@N@@Statement
import JvmDerived.Pilot.@@N@@Code
set_option linter.unusedVariables false
set_option linter.unusedSimpArgs false
@@BLOCK:NumsL.lean.txt@@
namespace Jvm.Pilot.@@N@@
section OwnA
open Jvm Jvm.FP Jvm.FP.Core Jvm.Free.Fl Jvm.RoadKit Jvm.Op
theorem own_v_lt {x y : UInt64} (h : FP.dcmp x y = some .lt) (o : ClassFile.CmpOp) : cmpValue (FP.dcmp x y) o = -1 := by rw [h]; rfl
theorem own_v_eq {x y : UInt64} (h : FP.dcmp x y = some .eq) (o : ClassFile.CmpOp) : cmpValue (FP.dcmp x y) o = 0 := by rw [h]; rfl
theorem own_v_gt {x y : UInt64} (h : FP.dcmp x y = some .gt) (o : ClassFile.CmpOp) : cmpValue (FP.dcmp x y) o = 1 := by rw [h]; rfl
def own_bit (f k : Int32) : Int32 := if f &&& k = (0 : Int32) then (0 : Int32) else (1 : Int32)
theorem own_bit_nar (f k : Int32) : nar .boolean (own_bit f k) = own_bit f k := by
  unfold own_bit; split <;> decide
def own_toD (x : Int64) (g : Int32) : UInt64 := if g = (0 : Int32) then FP.l2d x else if x = (0 : Int64) then FP.dneg (FP.l2d x) else FP.l2d x
theorem own_toD_int {x : Int64} (g : Int32) (h : x.toInt.natAbs ≤ 2 ^ 53) : DInt x.toInt (own_toD x g) := by
  unfold own_toD
  split
  · exact l2d_int h
  · split
    · rename_i h0
      subst h0
      show Whole _ (val64 (FP.dneg (FP.l2d 0)))
      rw [FP.val64_dneg]
      have := whole_negate (l2d_int (a := 0) (by decide))
      exact this
    · exact l2d_int h
theorem own_nn {i : Int} {x : UInt64} (h : DInt i x) : NoNaN64 x := val64_no.mpr (Whole.ne_nan h)
def own_c (i j : Int) : Int32 := if i < j then (-1 : Int32) else if i = j then (0 : Int32) else (1 : Int32)
theorem own_c_lt {i j : Int} (h : i < j) : own_c i j < (0 : Int32) := by unfold own_c; rw [if_pos h]; decide
theorem own_c_gt {i j : Int} (h : j < i) : (0 : Int32) < own_c i j := by unfold own_c; rw [if_neg (by omega), if_neg (by omega)]; decide
theorem own_c_ge {i j : Int} (h : j ≤ i) : ¬ own_c i j < (0 : Int32) := by
  unfold own_c; rw [if_neg (by omega)]; split <;> decide
theorem own_c_le {i j : Int} (h : i ≤ j) : ¬ (0 : Int32) < own_c i j := by
  unfold own_c
  split
  · decide
  · rw [if_pos (by omega)]; decide
theorem own_cmpv {i j : Int} {x y : UInt64} (hx : DInt i x) (hy : DInt j y) (o : ClassFile.CmpOp) : cmpValue (FP.dcmp x y) o = own_c i j := by
  unfold own_c
  rw [show FP.dcmp x y = some (compare i j) from dcmp_int hx hy, compare_ite]
  split
  · rfl
  · split <;> rfl
/-- within, by the two ends' kinds -/
def own_lowok (l : Int32) (lo v : Int) : Prop := (l = 0 ∧ lo < v) ∨ (¬ l = 0 ∧ lo ≤ v)
def own_highok (g : Int32) (hi v : Int) : Prop := (g = 0 ∧ v < hi) ∨ (¬ g = 0 ∧ v ≤ hi)
instance (l : Int32) (lo v : Int) : Decidable (own_lowok l lo v) := inferInstanceAs (Decidable (_ ∨ _))
instance (g : Int32) (hi v : Int) : Decidable (own_highok g hi v) := inferInstanceAs (Decidable (_ ∨ _))
def own_b (p : Prop) [Decidable p] : Int32 := if p then (1 : Int32) else (0 : Int32)
theorem own_b_nar (p : Prop) [Decidable p] : nar .boolean (own_b p) = own_b p := by unfold own_b; split <;> decide
theorem own_b1 {p : Prop} [Decidable p] (h : p) : own_b p = (1 : Int32) := if_pos h
theorem own_b0 {p : Prop} [Decidable p] (h : ¬ p) : own_b p = (0 : Int32) := if_neg h
theorem own_lo1 {l : Int32} {lo v : Int} (h : l = 0) (q : lo < v) : own_lowok l lo v := Or.inl ⟨h, q⟩
theorem own_lo2 {l : Int32} {lo v : Int} (h : ¬ l = 0) (q : lo ≤ v) : own_lowok l lo v := Or.inr ⟨h, q⟩
theorem own_lo3 {l : Int32} {lo v : Int} (h : l = 0) (q : ¬ lo < v) : ¬ own_lowok l lo v := fun r => r.elim (fun r => q r.2) (fun r => r.1 h)
theorem own_lo4 {l : Int32} {lo v : Int} (h : ¬ l = 0) (q : ¬ lo ≤ v) : ¬ own_lowok l lo v := fun r => r.elim (fun r => h r.1) (fun r => q r.2)
theorem own_hi1 {g : Int32} {hi v : Int} (h : g = 0) (q : v < hi) : own_highok g hi v := Or.inl ⟨h, q⟩
theorem own_hi2 {g : Int32} {hi v : Int} (h : ¬ g = 0) (q : v ≤ hi) : own_highok g hi v := Or.inr ⟨h, q⟩
theorem own_hi3 {g : Int32} {hi v : Int} (h : g = 0) (q : ¬ v < hi) : ¬ own_highok g hi v := fun r => r.elim (fun r => q r.2) (fun r => r.1 h)
theorem own_hi4 {g : Int32} {hi v : Int} (h : ¬ g = 0) (q : ¬ v ≤ hi) : ¬ own_highok g hi v := fun r => r.elim (fun r => h r.1) (fun r => q r.2)
def own_in (l : Int32) (lo : Int) (g : Int32) (hi v : Int) : Int32 := own_b (own_lowok l lo v ∧ own_highok g hi v)
def own_v (a b c md : Int32) : Int64 := if md = (1 : Int32) then a.toInt64 + (c % (3 : Int32)).toInt64 else if md = (2 : Int32) then b.toInt64 + (c % (3 : Int32)).toInt64 else if md = (3 : Int32) then b.toInt64 else c.toInt64
def own_md (f : Int32) : Int32 := ((f.toUInt32 >>> ((2 : Int32) &&& 31).toUInt32).toInt32) &&& (3 : Int32)
theorem own_v_small (a b c md : Int32) : (own_v a b c md).toInt.natAbs ≤ 2 ^ 53 := by
  have ha := a.toInt_lt; have ha' := a.le_toInt
  have hb := b.toInt_lt; have hb' := b.le_toInt
  have hc := c.toInt_lt; have hc' := c.le_toInt
  have hd := (c % (3 : Int32)).toInt_lt; have hd' := (c % (3 : Int32)).le_toInt
  have ea := Int32.toInt_toInt64 a; have eb := Int32.toInt_toInt64 b; have ec := Int32.toInt_toInt64 c; have ed := Int32.toInt_toInt64 (c % (3 : Int32))
  unfold own_v
  split
  · rw [Jvm.Kit.i64_add (by omega) (by omega)]; omega
  · split
    · rw [Jvm.Kit.i64_add (by omega) (by omega)]; omega
    · split <;> omega
theorem own_i_small (a : Int32) : a.toInt64.toInt.natAbs ≤ 2 ^ 53 := by
  have ha := a.toInt_lt; have ha' := a.le_toInt
  have ea := Int32.toInt_toInt64 a
  omega
end OwnA
end Jvm.Pilot.@@N@@
namespace Jvm.Pilot.@@N@@
open Jvm Jvm.ClassFile Sem Op Lib Jvm.Free Jvm.Stand Jvm.LawKit Jvm.RoadKit Bundle Jvm.Pilot.@@N@@.Jvm.D
open Jvm.FP Jvm.Free.Fl
section OwnB
open Jvm Jvm.RoadKit
theorem own_lc0 (x : Int64) : lcmpW x (0 : Int64) = (0 : Int32) ↔ x = (0 : Int64) := by rw [lcW]; exact lc_eq _ _
theorem own_lclt (x y : Int64) : lcmpW x y < (0 : Int32) ↔ x.toInt < y.toInt := by rw [lcW, lc_lt, Int64.lt_iff_toInt_lt]
theorem own_lcgt (x y : Int64) : (0 : Int32) < lcmpW x y ↔ y.toInt < x.toInt := by rw [lcW, lc_gt, Int64.lt_iff_toInt_lt]
theorem own_lceq (x y : Int64) : lcmpW x y = (0 : Int32) ↔ x.toInt = y.toInt := by rw [lcW, lc_eq, ← Int64.toInt_inj]
theorem own_c1 {l : Int32} {lo v : Int} (h : v < lo) : ¬ own_lowok l lo v := fun q => q.elim (fun q => by omega) (fun q => by omega)
theorem own_c2 {g : Int32} {hi v : Int} (h : hi < v) : ¬ own_highok g hi v := fun q => q.elim (fun q => by omega) (fun q => by omega)
theorem own_c3 {l : Int32} {lo v : Int} (h : v = lo) (h0 : l = 0) : ¬ own_lowok l lo v := fun q => q.elim (fun q => by omega) (fun q => q.1 h0)
theorem own_c4 {g : Int32} {hi v : Int} (h : v = hi) (h0 : g = 0) : ¬ own_highok g hi v := fun q => q.elim (fun q => by omega) (fun q => q.1 h0)
theorem own_d1 {l : Int32} {lo v : Int} (h : ¬ v < lo) (h0 : ¬ l = 0 ∨ ¬ v = lo) : own_lowok l lo v := by
  by_cases hl : l = 0
  · exact Or.inl ⟨hl, by rcases h0 with q | q
                         · exact absurd hl q
                         · omega⟩
  · exact Or.inr ⟨hl, by omega⟩
theorem own_d2 {g : Int32} {hi v : Int} (h : ¬ hi < v) (h0 : ¬ g = 0 ∨ ¬ v = hi) : own_highok g hi v := by
  by_cases hl : g = 0
  · exact Or.inl ⟨hl, by rcases h0 with q | q
                         · exact absurd hl q
                         · omega⟩
  · exact Or.inr ⟨hl, by omega⟩
end OwnB
theorem d_jdk_117_method_6_code_0 : decode jdk_117_method_6_code 0 = .ok (.dload_n 0, 1) := by decide +kernel
theorem d_jdk_117_method_6_code_1 : decode jdk_117_method_6_code 1 = .ok (.dload_n 0, 1) := by decide +kernel
theorem d_jdk_117_method_6_code_2 : decode jdk_117_method_6_code 2 = .ok (.dcmp .l, 1) := by decide +kernel
theorem d_jdk_117_method_6_code_3 : decode jdk_117_method_6_code 3 = .ok (.ifCond .eq 7, 3) := by decide +kernel
theorem d_jdk_117_method_6_code_10 : decode jdk_117_method_6_code 10 = .ok (.iconst 0, 1) := by decide +kernel
theorem d_jdk_117_method_6_code_11 : decode jdk_117_method_6_code 11 = .ok (.ireturn, 1) := by decide +kernel
theorem d_jdk_30_method_1_code_0 : decode jdk_30_method_1_code 0 = .ok (.aload_n 0, 1) := by decide +kernel
theorem d_jdk_30_method_1_code_1 : decode jdk_30_method_1_code 1 = .ok (.invokespecial 1, 3) := by decide +kernel
theorem d_jdk_30_method_1_code_4 : decode jdk_30_method_1_code 4 = .ok (.return_, 1) := by decide +kernel
theorem d_method_2_code_0 : decode method_2_code 0 = .ok (.lload_n 0, 1) := by decide +kernel
theorem d_method_2_code_1 : decode method_2_code 1 = .ok (.l2d, 1) := by decide +kernel
theorem d_method_2_code_2 : decode method_2_code 2 = .ok (.dstore_n 3, 1) := by decide +kernel
theorem d_method_2_code_3 : decode method_2_code 3 = .ok (.iload_n 2, 1) := by decide +kernel
theorem d_method_2_code_4 : decode method_2_code 4 = .ok (.ifCond .eq 12, 3) := by decide +kernel
theorem d_method_2_code_7 : decode method_2_code 7 = .ok (.lload_n 0, 1) := by decide +kernel
theorem d_method_2_code_8 : decode method_2_code 8 = .ok (.lconst 0, 1) := by decide +kernel
theorem d_method_2_code_9 : decode method_2_code 9 = .ok (.lcmp, 1) := by decide +kernel
theorem d_method_2_code_10 : decode method_2_code 10 = .ok (.ifCond .ne 6, 3) := by decide +kernel
theorem d_method_2_code_13 : decode method_2_code 13 = .ok (.dload_n 3, 1) := by decide +kernel
theorem d_method_2_code_14 : decode method_2_code 14 = .ok (.dneg, 1) := by decide +kernel
theorem d_method_2_code_15 : decode method_2_code 15 = .ok (.dstore_n 3, 1) := by decide +kernel
theorem d_method_2_code_16 : decode method_2_code 16 = .ok (.dload_n 3, 1) := by decide +kernel
theorem d_method_2_code_17 : decode method_2_code 17 = .ok (.dreturn, 1) := by decide +kernel
theorem d_prog_16_method_1_code_0 : decode prog_16_method_1_code 0 = .ok (.aload_n 0, 1) := by decide +kernel
theorem d_prog_16_method_1_code_1 : decode prog_16_method_1_code 1 = .ok (.invokespecial 1, 3) := by decide +kernel
theorem d_prog_16_method_1_code_4 : decode prog_16_method_1_code 4 = .ok (.dload_n 1, 1) := by decide +kernel
theorem d_prog_16_method_1_code_5 : decode prog_16_method_1_code 5 = .ok (.invokestatic 7, 3) := by decide +kernel
theorem d_prog_16_method_1_code_8 : decode prog_16_method_1_code 8 = .ok (.ifCond .ne 11, 3) := by decide +kernel
theorem d_prog_16_method_1_code_11 : decode prog_16_method_1_code 11 = .ok (.dload 4, 2) := by decide +kernel
theorem d_prog_16_method_1_code_13 : decode prog_16_method_1_code 13 = .ok (.invokestatic 7, 3) := by decide +kernel
theorem d_prog_16_method_1_code_16 : decode prog_16_method_1_code 16 = .ok (.ifCond .eq 13, 3) := by decide +kernel
theorem d_prog_16_method_1_code_29 : decode prog_16_method_1_code 29 = .ok (.aload_n 0, 1) := by decide +kernel
theorem d_prog_16_method_1_code_30 : decode prog_16_method_1_code 30 = .ok (.dload_n 1, 1) := by decide +kernel
theorem d_prog_16_method_1_code_31 : decode prog_16_method_1_code 31 = .ok (.putfield 20, 3) := by decide +kernel
theorem d_prog_16_method_1_code_34 : decode prog_16_method_1_code 34 = .ok (.aload_n 0, 1) := by decide +kernel
theorem d_prog_16_method_1_code_35 : decode prog_16_method_1_code 35 = .ok (.iload_n 3, 1) := by decide +kernel
theorem d_prog_16_method_1_code_36 : decode prog_16_method_1_code 36 = .ok (.putfield 26, 3) := by decide +kernel
theorem d_prog_16_method_1_code_39 : decode prog_16_method_1_code 39 = .ok (.aload_n 0, 1) := by decide +kernel
theorem d_prog_16_method_1_code_40 : decode prog_16_method_1_code 40 = .ok (.dload 4, 2) := by decide +kernel
theorem d_prog_16_method_1_code_42 : decode prog_16_method_1_code 42 = .ok (.putfield 30, 3) := by decide +kernel
theorem d_prog_16_method_1_code_45 : decode prog_16_method_1_code 45 = .ok (.aload_n 0, 1) := by decide +kernel
theorem d_prog_16_method_1_code_46 : decode prog_16_method_1_code 46 = .ok (.iload 6, 2) := by decide +kernel
theorem d_prog_16_method_1_code_48 : decode prog_16_method_1_code 48 = .ok (.putfield 33, 3) := by decide +kernel
theorem d_prog_16_method_1_code_51 : decode prog_16_method_1_code 51 = .ok (.return_, 1) := by decide +kernel
theorem d_prog_16_method_8_code_0 : decode prog_16_method_8_code 0 = .ok (.aload_n 0, 1) := by decide +kernel
theorem d_prog_16_method_8_code_1 : decode prog_16_method_8_code 1 = .ok (.getfield 26, 3) := by decide +kernel
theorem d_prog_16_method_8_code_4 : decode prog_16_method_8_code 4 = .ok (.ifCond .eq 20, 3) := by decide +kernel
theorem d_prog_16_method_8_code_7 : decode prog_16_method_8_code 7 = .ok (.dload_n 1, 1) := by decide +kernel
theorem d_prog_16_method_8_code_8 : decode prog_16_method_8_code 8 = .ok (.aload_n 0, 1) := by decide +kernel
theorem d_prog_16_method_8_code_9 : decode prog_16_method_8_code 9 = .ok (.getfield 20, 3) := by decide +kernel
theorem d_prog_16_method_8_code_12 : decode prog_16_method_8_code 12 = .ok (.dcmp .l, 1) := by decide +kernel
theorem d_prog_16_method_8_code_13 : decode prog_16_method_8_code 13 = .ok (.ifCond .lt 7, 3) := by decide +kernel
theorem d_prog_16_method_8_code_16 : decode prog_16_method_8_code 16 = .ok (.iconst 1, 1) := by decide +kernel
theorem d_prog_16_method_8_code_17 : decode prog_16_method_8_code 17 = .ok (.goto 21, 3) := by decide +kernel
theorem d_prog_16_method_8_code_20 : decode prog_16_method_8_code 20 = .ok (.iconst 0, 1) := by decide +kernel
theorem d_prog_16_method_8_code_21 : decode prog_16_method_8_code 21 = .ok (.goto 17, 3) := by decide +kernel
theorem d_prog_16_method_8_code_24 : decode prog_16_method_8_code 24 = .ok (.dload_n 1, 1) := by decide +kernel
theorem d_prog_16_method_8_code_25 : decode prog_16_method_8_code 25 = .ok (.aload_n 0, 1) := by decide +kernel
theorem d_prog_16_method_8_code_26 : decode prog_16_method_8_code 26 = .ok (.getfield 20, 3) := by decide +kernel
theorem d_prog_16_method_8_code_29 : decode prog_16_method_8_code 29 = .ok (.dcmp .l, 1) := by decide +kernel
theorem d_prog_16_method_8_code_30 : decode prog_16_method_8_code 30 = .ok (.ifCond .le 7, 3) := by decide +kernel
theorem d_prog_16_method_8_code_33 : decode prog_16_method_8_code 33 = .ok (.iconst 1, 1) := by decide +kernel
theorem d_prog_16_method_8_code_34 : decode prog_16_method_8_code 34 = .ok (.goto 4, 3) := by decide +kernel
theorem d_prog_16_method_8_code_37 : decode prog_16_method_8_code 37 = .ok (.iconst 0, 1) := by decide +kernel
theorem d_prog_16_method_8_code_38 : decode prog_16_method_8_code 38 = .ok (.istore_n 3, 1) := by decide +kernel
theorem d_prog_16_method_8_code_39 : decode prog_16_method_8_code 39 = .ok (.aload_n 0, 1) := by decide +kernel
theorem d_prog_16_method_8_code_40 : decode prog_16_method_8_code 40 = .ok (.getfield 33, 3) := by decide +kernel
theorem d_prog_16_method_8_code_43 : decode prog_16_method_8_code 43 = .ok (.ifCond .eq 20, 3) := by decide +kernel
theorem d_prog_16_method_8_code_46 : decode prog_16_method_8_code 46 = .ok (.dload_n 1, 1) := by decide +kernel
theorem d_prog_16_method_8_code_47 : decode prog_16_method_8_code 47 = .ok (.aload_n 0, 1) := by decide +kernel
theorem d_prog_16_method_8_code_48 : decode prog_16_method_8_code 48 = .ok (.getfield 30, 3) := by decide +kernel
theorem d_prog_16_method_8_code_51 : decode prog_16_method_8_code 51 = .ok (.dcmp .g, 1) := by decide +kernel
theorem d_prog_16_method_8_code_52 : decode prog_16_method_8_code 52 = .ok (.ifCond .gt 7, 3) := by decide +kernel
theorem d_prog_16_method_8_code_55 : decode prog_16_method_8_code 55 = .ok (.iconst 1, 1) := by decide +kernel
theorem d_prog_16_method_8_code_56 : decode prog_16_method_8_code 56 = .ok (.goto 21, 3) := by decide +kernel
theorem d_prog_16_method_8_code_59 : decode prog_16_method_8_code 59 = .ok (.iconst 0, 1) := by decide +kernel
theorem d_prog_16_method_8_code_60 : decode prog_16_method_8_code 60 = .ok (.goto 17, 3) := by decide +kernel
theorem d_prog_16_method_8_code_63 : decode prog_16_method_8_code 63 = .ok (.dload_n 1, 1) := by decide +kernel
theorem d_prog_16_method_8_code_64 : decode prog_16_method_8_code 64 = .ok (.aload_n 0, 1) := by decide +kernel
theorem d_prog_16_method_8_code_65 : decode prog_16_method_8_code 65 = .ok (.getfield 30, 3) := by decide +kernel
theorem d_prog_16_method_8_code_68 : decode prog_16_method_8_code 68 = .ok (.dcmp .g, 1) := by decide +kernel
theorem d_prog_16_method_8_code_69 : decode prog_16_method_8_code 69 = .ok (.ifCond .ge 7, 3) := by decide +kernel
theorem d_prog_16_method_8_code_72 : decode prog_16_method_8_code 72 = .ok (.iconst 1, 1) := by decide +kernel
theorem d_prog_16_method_8_code_73 : decode prog_16_method_8_code 73 = .ok (.goto 4, 3) := by decide +kernel
theorem d_prog_16_method_8_code_76 : decode prog_16_method_8_code 76 = .ok (.iconst 0, 1) := by decide +kernel
theorem d_prog_16_method_8_code_77 : decode prog_16_method_8_code 77 = .ok (.istore 4, 2) := by decide +kernel
theorem d_prog_16_method_8_code_79 : decode prog_16_method_8_code 79 = .ok (.iload_n 3, 1) := by decide +kernel
theorem d_prog_16_method_8_code_80 : decode prog_16_method_8_code 80 = .ok (.ifCond .eq 12, 3) := by decide +kernel
theorem d_prog_16_method_8_code_83 : decode prog_16_method_8_code 83 = .ok (.iload 4, 2) := by decide +kernel
theorem d_prog_16_method_8_code_85 : decode prog_16_method_8_code 85 = .ok (.ifCond .eq 7, 3) := by decide +kernel
theorem d_prog_16_method_8_code_88 : decode prog_16_method_8_code 88 = .ok (.iconst 1, 1) := by decide +kernel
theorem d_prog_16_method_8_code_89 : decode prog_16_method_8_code 89 = .ok (.goto 4, 3) := by decide +kernel
theorem d_prog_16_method_8_code_92 : decode prog_16_method_8_code 92 = .ok (.iconst 0, 1) := by decide +kernel
theorem d_prog_16_method_8_code_93 : decode prog_16_method_8_code 93 = .ok (.ireturn, 1) := by decide +kernel
theorem pd_0 : parseMethodDescriptor "()V" = some ⟨[], none⟩ := by decide +kernel
theorem pd_1 : parseMethodDescriptor "(D)Z" = some ⟨[.double], some .boolean⟩ := by decide +kernel
theorem pd_2 : parseMethodDescriptor "(JZ)D" = some ⟨[.long, .boolean], some .double⟩ := by decide +kernel
theorem pd_3 : parseMethodDescriptor "(DZDZ)V" = some ⟨[.double, .boolean, .double, .boolean], none⟩ := by decide +kernel
theorem ef_5 (m : MethodId) (x0 : UInt64) : entryFrame m #[(.double x0)] 2 = mkF m 0 #[.val (.double x0), .second] [] := by first | (simp [entryFrame, mkF, argsToLocals, Value.category]; done) | rfl
theorem pn_5 : plainName "java/lang/Double" = true := by first | (simp [plainName, overriddenIn]; done) | decide +kernel
def Q5 (Z : State) (r1 : UInt64) (h0 : Heap) (n0 : Nat) (v : Option Value) (h : Heap) (L : List Loc) : Prop := v = some (.int 0) ∧ Fr n0 L ∧ h = h0
set_option maxRecDepth 65536 in
set_option maxHeartbeats 40000000 in
theorem rm5 (l : Launch) (Z : State) (a0 : Array Value) (hw : ∀ d ∈ tables_1, d.before a0 Z = true) (ws : List Jvm.Cond) (r1 : UInt64) (h0 : Heap) (n0 : Nat) (Z0 : n0 ≤ h0.size) (hn : NoNaN64 r1) :
    MetFree l (⟨"java/lang/Double", "isNaN", "(D)Z"⟩ : MethodName) (head1 (Jvm.Cond.code (⟨"java/lang/Double", "isNaN", "(D)Z"⟩ : MethodName) jdk_117_method_6_code 2 (some .boolean) :: ws) ({ frames := 0, cells := 0, slots := 0, locals := 0 } : Room)) (fun a U => a = #[(.double r1)] ∧ Z.Warmed39 U.vm ∧ U.heap = h0) (fun _ _ _ _ _ => True) (fun _ U o U' => ∃ v L, o = .returned v ∧ Q5 Z r1 h0 n0 v U'.heap L ∧ FrameEnd U o U' L ({ frames := 0, cells := 0, slots := 0, locals := 0 } : Room).cells ({ frames := 0, cells := 0, slots := 0, locals := 0 } : Room).slots) := by
  refine MetFree.of_bodySF (plainFor_of_name pn_5) hisR ?_
  intro p e s m args below meth c s₁ Bd hml0 hP hK
  obtain ⟨rfl, hZ, hh⟩ := hP
  have hx := Bd.exec
  have hby := Bd.bytes
  have hml : c.maxLocals = 2 := hml0
  have hown : s.vm.findClass "java/lang/Double" = some m.cls := findClass_of_methodNamed Bd.named
  have hnm := (name_of_methodNamed Bd.named Bd.method).1
  have X0 : Stand p l e ({ frames := 0, cells := 0, slots := 0, locals := 0 } : Room) s m #[(.double r1)] below meth c s₁ [] 0 0 := Stand.of_body Bd
  have e0 : s₁.heap = h0 := by rw [← hh, Bd.state]; rfl
  have N0 := Fr.nil n0
  have pre0 : ∀ t, Steps p.tables e below (s₁.setTop (mkF m 0 #[.val (.double r1), .second] [])) t → Steps p.tables e below (s₁.setTop (entryFrame m #[(.double r1)] 2)) t := fun t k => castTop (ef_5 m r1) k
  obtain ⟨fs, hr, hrun, hended, hW, hsame⟩ := X0.leave (v := some (.int (0 : Int32))) (fun h => by rw [Bd.returns] at h; cases h)
  refine ⟨_, _, pre0 _ ?_, hrun, hended, _, _, rfl, ?_, ⟨_, rfl⟩, hW, hsame.mono (by decide) (by decide)⟩
  · show Steps p.tables e below (s₁.setTop (mkF m 0 #[.val (.double r1), .second] [])) _
    refine XS.dloadN X0.here hx rfl (hb hby d_jdk_117_method_6_code_0) rfl ?_
    show Steps p.tables e below (s₁.setTop (mkF m 1 #[.val (.double r1), .second] [(.double r1)])) _
    refine XS.dloadN X0.here hx rfl (hb hby d_jdk_117_method_6_code_1) rfl ?_
    show Steps p.tables e below (s₁.setTop (mkF m 2 #[.val (.double r1), .second] [(.double r1), (.double r1)])) _
    refine XS.dcmpS X0.here hx rfl (v := (0 : Int32)) (hb hby d_jdk_117_method_6_code_2) rfl (dcmpV_self hn .l) ?_
    show Steps p.tables e below (s₁.setTop (mkF m 3 #[.val (.double r1), .second] [(.int (0 : Int32))])) _
    refine XS.ifYes X0.here hx rfl (pc0 := 3) (pc' := 10) rfl (hb hby d_jdk_117_method_6_code_3) rfl (by decide) (by decide) (by decide) ?_
    show Steps p.tables e below (s₁.setTop (mkF m 10 #[.val (.double r1), .second] [])) _
    refine XS.iconst X0.here hx rfl (hb hby d_jdk_117_method_6_code_10) ?_
    show Steps p.tables e below (s₁.setTop (mkF m 11 #[.val (.double r1), .second] [(.int (0 : Int32))])) _
    exact retN X0 hx (t := .boolean) Bd.returns (by simp) (hb hby d_jdk_117_method_6_code_11) hr
  · show Q5 Z r1 h0 n0 _ s₁.heap _
    rw [e0]
    exact ⟨rfl, N0, rfl⟩
theorem ef_6 (m : MethodId) (x0 : Addr) : entryFrame m #[(.ref x0)] 1 = mkF m 0 #[.val (.ref x0)] [] := by first | (simp [entryFrame, mkF, argsToLocals, Value.category]; done) | rfl
theorem pn_6 : plainName "java/lang/Record" = true := by first | (simp [plainName, overriddenIn]; done) | decide +kernel
def Q6 (Z : State) (a1 : Addr) (h0 : Heap) (n0 : Nat) (v : Option Value) (h : Heap) (L : List Loc) : Prop := v = none ∧ Fr n0 L ∧ h = h0
set_option maxRecDepth 65536 in
set_option maxHeartbeats 40000000 in
theorem rm6 (l : Launch) (Z : State) (a0 : Array Value) (hw : ∀ d ∈ tables_1, d.before a0 Z = true) (ws : List Jvm.Cond) (a1 : Addr) (h0 : Heap) (n0 : Nat) (Z0 : n0 ≤ h0.size) :
    MetFree l (⟨"java/lang/Record", "<init>", "()V"⟩ : MethodName) (head1 (Jvm.Cond.code (⟨"java/lang/Record", "<init>", "()V"⟩ : MethodName) jdk_30_method_1_code 1 none :: ws) ({ frames := 1, cells := 0, slots := 0, locals := 12 } : Room)) (fun a U => a = #[(.ref a1)] ∧ Z.Warmed39 U.vm ∧ U.heap = h0) (fun _ _ _ _ _ => True) (fun _ U o U' => ∃ v L, o = .returned v ∧ Q6 Z a1 h0 n0 v U'.heap L ∧ FrameEnd U o U' L ({ frames := 1, cells := 0, slots := 0, locals := 12 } : Room).cells ({ frames := 1, cells := 0, slots := 0, locals := 12 } : Room).slots) := by
  refine MetFree.of_bodySF (plainFor_of_name pn_6) hisR ?_
  intro p e s m args below meth c s₁ Bd hml0 hP hK
  obtain ⟨rfl, hZ, hh⟩ := hP
  have hx := Bd.exec
  have hby := Bd.bytes
  have hml : c.maxLocals = 1 := hml0
  have hown : s.vm.findClass "java/lang/Record" = some m.cls := findClass_of_methodNamed Bd.named
  have hnm := (name_of_methodNamed Bd.named Bd.method).1
  have X0 : Stand p l e ({ frames := 1, cells := 0, slots := 0, locals := 12 } : Room) s m #[(.ref a1)] below meth c s₁ [] 0 0 := Stand.of_body Bd
  have e0 : s₁.heap = h0 := by rw [← hh, Bd.state]; rfl
  have N0 := Fr.nil n0
  have pre0 : ∀ t, Steps p.tables e below (s₁.setTop (mkF m 0 #[.val (.ref a1)] [])) t → Steps p.tables e below (s₁.setTop (entryFrame m #[(.ref a1)] 1)) t := fun t k => castTop (ef_6 m a1) k
  obtain ⟨T1, X1, e1, st1⟩ := initO X0 hx hZ hown (hw _ (List.mem_of_getElem? (i := 15) rfl)) (hw _ (List.mem_of_getElem? (i := 16) rfl)) (hw _ (List.mem_of_getElem? (i := 17) rfl)) e0 (g := (mkF m 1 #[.val (.ref a1)] [(.ref a1)])) rfl (by rw [hml]; rfl) rfl (hb hby d_jdk_30_method_1_code_1) (by decide) (W := 0) (by show 2 * 0 + _ ≤ _; exact Nat.le_of_eq rfl) (by decide)
  obtain ⟨fs, hr, hrun, hended, hW, hsame⟩ := X1.leave (v := none) (fun _ => rfl)
  refine ⟨_, _, pre0 _ ?_, hrun, hended, _, _, rfl, ?_, ⟨_, rfl⟩, hW, hsame.mono (by decide) (by decide)⟩
  · show Steps p.tables e below (s₁.setTop (mkF m 0 #[.val (.ref a1)] [])) _
    refine XS.aloadN X0.here hx rfl (hb hby d_jdk_30_method_1_code_0) rfl rfl ?_
    show Steps p.tables e below (s₁.setTop (mkF m 1 #[.val (.ref a1)] [(.ref a1)])) _
    refine st1 _ ?_
    show Steps p.tables e below (T1.setTop (mkF m 4 #[.val (.ref a1)] [])) _
    exact X1.returnOut hx Bd.returns (hb hby d_jdk_30_method_1_code_4) hr
  · show Q6 Z a1 h0 n0 _ T1.heap _
    rw [e1]
    exact ⟨rfl, N0, rfl⟩
theorem ef_1 (m : MethodId) (x0 : Int64) (x1 : Int32) : entryFrame m #[(.long x0), (.int x1)] 5 = mkF m 0 #[.val (.long x0), .second, .val (.int x1), .unset, .unset] [] := by first | (simp [entryFrame, mkF, argsToLocals, Value.category]; done) | rfl
theorem pn_1 : plainName "com/example/fanworm/fanworm/engine/IntervalContainsPinLaw" = true := by first | (simp [plainName, overriddenIn]; done) | decide +kernel
def Q1 (Z : State) (x1 : Int64) (g1 : Int32) (h0 : Heap) (n0 : Nat) (v : Option Value) (h : Heap) (L : List Loc) : Prop := v = some (.double (own_toD x1 g1)) ∧ Fr n0 L ∧ h = h0
set_option maxRecDepth 65536 in
set_option maxHeartbeats 40000000 in
theorem rm1 (l : Launch) (Z : State) (a0 : Array Value) (hw : ∀ d ∈ tables_1, d.before a0 Z = true) (ws : List Jvm.Cond) (x1 : Int64) (g1 : Int32) (h0 : Heap) (n0 : Nat) (Z0 : n0 ≤ h0.size) :
    MetFree l (⟨"com/example/fanworm/fanworm/engine/IntervalContainsPinLaw", "toD", "(JZ)D"⟩ : MethodName) (head1 (Jvm.Cond.code (⟨"com/example/fanworm/fanworm/engine/IntervalContainsPinLaw", "toD", "(JZ)D"⟩ : MethodName) method_2_code 5 (some .double) :: ws) ({ frames := 0, cells := 0, slots := 0, locals := 0 } : Room)) (fun a U => a = #[(.long x1), (.int g1)] ∧ Z.Warmed39 U.vm ∧ U.heap = h0) (fun _ _ _ _ _ => True) (fun _ U o U' => ∃ v L, o = .returned v ∧ Q1 Z x1 g1 h0 n0 v U'.heap L ∧ FrameEnd U o U' L ({ frames := 0, cells := 0, slots := 0, locals := 0 } : Room).cells ({ frames := 0, cells := 0, slots := 0, locals := 0 } : Room).slots) := by
  refine MetFree.of_bodySF (plainFor_of_name pn_1) hisR ?_
  intro p e s m args below meth c s₁ Bd hml0 hP hK
  obtain ⟨rfl, hZ, hh⟩ := hP
  have hx := Bd.exec
  have hby := Bd.bytes
  have hml : c.maxLocals = 5 := hml0
  have hown : s.vm.findClass "com/example/fanworm/fanworm/engine/IntervalContainsPinLaw" = some m.cls := findClass_of_methodNamed Bd.named
  have hnm := (name_of_methodNamed Bd.named Bd.method).1
  have X0 : Stand p l e ({ frames := 0, cells := 0, slots := 0, locals := 0 } : Room) s m #[(.long x1), (.int g1)] below meth c s₁ [] 0 0 := Stand.of_body Bd
  have e0 : s₁.heap = h0 := by rw [← hh, Bd.state]; rfl
  have N0 := Fr.nil n0
  have pre0 : ∀ t, Steps p.tables e below (s₁.setTop (mkF m 0 #[.val (.long x1), .second, .val (.int g1), .unset, .unset] [])) t → Steps p.tables e below (s₁.setTop (entryFrame m #[(.long x1), (.int g1)] 5)) t := fun t k => castTop (ef_1 m x1 g1) k
  obtain ⟨fs, hr, hrun, hended, hW, hsame⟩ := X0.leave (v := some (.double (own_toD x1 g1))) (fun h => by rw [Bd.returns] at h; cases h)
  have k16 : Steps p.tables e below (s₁.setTop (mkF m 16 #[.val (.long x1), .second, .val (.int g1), .val (.double (own_toD x1 g1)), .second] [])) (s₁.setFrames fs) := by
    show Steps p.tables e below (s₁.setTop (mkF m 16 #[.val (.long x1), .second, .val (.int g1), .val (.double (own_toD x1 g1)), .second] [])) _
    refine XS.dloadN X0.here hx rfl (hb hby d_method_2_code_16) rfl ?_
    show Steps p.tables e below (s₁.setTop (mkF m 17 #[.val (.long x1), .second, .val (.int g1), .val (.double (own_toD x1 g1)), .second] [(.double (own_toD x1 g1))])) _
    jvm_step X0.here [X0.here.top, hx, (hb hby d_method_2_code_17), X0.method', Bd.returns, narrow]
    first | (intro acts; rw [hr _ acts rfl rfl rfl]) | rw [hr _ _ rfl rfl rfl]
    exact Steps.refl _
  refine ⟨_, _, pre0 _ ?_, hrun, hended, _, _, rfl, ?_, ⟨_, rfl⟩, hW, hsame.mono (by decide) (by decide)⟩
  · show Steps p.tables e below (s₁.setTop (mkF m 0 #[.val (.long x1), .second, .val (.int g1), .unset, .unset] [])) _
    refine XS.lloadN X0.here hx rfl (hb hby d_method_2_code_0) rfl ?_
    show Steps p.tables e below (s₁.setTop (mkF m 1 #[.val (.long x1), .second, .val (.int g1), .unset, .unset] [(.long x1)])) _
    refine XS.l2dS X0.here hx rfl (v := (FP.l2d x1)) (hb hby d_method_2_code_1) rfl rfl ?_
    show Steps p.tables e below (s₁.setTop (mkF m 2 #[.val (.long x1), .second, .val (.int g1), .unset, .unset] [(.double (FP.l2d x1))])) _
    refine XS.dstoreN X0.here hx rfl (hb hby d_method_2_code_2) rfl (l' := #[.val (.long x1), .second, .val (.int g1), .val (.double (FP.l2d x1)), .second]) rfl ?_
    show Steps p.tables e below (s₁.setTop (mkF m 3 #[.val (.long x1), .second, .val (.int g1), .val (.double (FP.l2d x1)), .second] [])) _
    refine XS.iloadN X0.here hx rfl (hb hby d_method_2_code_3) rfl ?_
    by_cases h1 : g1 = (0 : Int32)
    · show Steps p.tables e below (s₁.setTop (mkF m 4 #[.val (.long x1), .second, .val (.int g1), .val (.double (FP.l2d x1)), .second] [(.int g1)])) _
      refine XS.ifYes X0.here hx rfl (pc0 := 4) (pc' := 16) rfl (hb hby d_method_2_code_4) rfl ((if0 _ _).trans (teq h1).1) (by decide) (by decide) ?_
      show Steps p.tables e below (s₁.setTop (mkF m 16 #[.val (.long x1), .second, .val (.int g1), .val (.double (FP.l2d x1)), .second] [])) _
      have kk := k16
      rw [(show own_toD x1 g1 = FP.l2d x1 from if_pos h1)] at kk
      exact kk
    · by_cases h2 : x1 = (0 : Int64)
      · show Steps p.tables e below (s₁.setTop (mkF m 4 #[.val (.long x1), .second, .val (.int g1), .val (.double (FP.l2d x1)), .second] [(.int g1)])) _
        refine XS.ifNo X0.here hx rfl (hb hby d_method_2_code_4) rfl ((if0 _ _).trans (feq h1).1) ?_
        show Steps p.tables e below (s₁.setTop (mkF m 7 #[.val (.long x1), .second, .val (.int g1), .val (.double (FP.l2d x1)), .second] [])) _
        refine XS.lloadN X0.here hx rfl (hb hby d_method_2_code_7) rfl ?_
        show Steps p.tables e below (s₁.setTop (mkF m 8 #[.val (.long x1), .second, .val (.int g1), .val (.double (FP.l2d x1)), .second] [(.long x1)])) _
        refine XS.lconst X0.here hx rfl (hb hby d_method_2_code_8) ?_
        show Steps p.tables e below (s₁.setTop (mkF m 9 #[.val (.long x1), .second, .val (.int g1), .val (.double (FP.l2d x1)), .second] [(.long (0 : Int64)), (.long x1)])) _
        refine XS.lcmp X0.here hx rfl (hb hby d_method_2_code_9) rfl ?_
        show Steps p.tables e below (s₁.setTop (mkF m 10 #[.val (.long x1), .second, .val (.int g1), .val (.double (FP.l2d x1)), .second] [(.int (lcmpW x1 (0 : Int64)))])) _
        refine XS.ifNo X0.here hx rfl (hb hby d_method_2_code_10) rfl ((if0 _ _).trans (teq ((own_lc0 x1).mpr h2)).2) ?_
        show Steps p.tables e below (s₁.setTop (mkF m 13 #[.val (.long x1), .second, .val (.int g1), .val (.double (FP.l2d x1)), .second] [])) _
        refine XS.dloadN X0.here hx rfl (hb hby d_method_2_code_13) rfl ?_
        show Steps p.tables e below (s₁.setTop (mkF m 14 #[.val (.long x1), .second, .val (.int g1), .val (.double (FP.l2d x1)), .second] [(.double (FP.l2d x1))])) _
        refine XS.dnegS X0.here hx rfl (v := (FP.dneg (FP.l2d x1))) (hb hby d_method_2_code_14) rfl rfl ?_
        show Steps p.tables e below (s₁.setTop (mkF m 15 #[.val (.long x1), .second, .val (.int g1), .val (.double (FP.l2d x1)), .second] [(.double (FP.dneg (FP.l2d x1)))])) _
        refine XS.dstoreN X0.here hx rfl (hb hby d_method_2_code_15) rfl (l' := #[.val (.long x1), .second, .val (.int g1), .val (.double (FP.dneg (FP.l2d x1))), .second]) rfl ?_
        show Steps p.tables e below (s₁.setTop (mkF m 16 #[.val (.long x1), .second, .val (.int g1), .val (.double (FP.dneg (FP.l2d x1))), .second] [])) _
        have kk := k16
        rw [(show own_toD x1 g1 = FP.dneg (FP.l2d x1) from (if_neg h1).trans (if_pos h2))] at kk
        exact kk
      · show Steps p.tables e below (s₁.setTop (mkF m 4 #[.val (.long x1), .second, .val (.int g1), .val (.double (FP.l2d x1)), .second] [(.int g1)])) _
        refine XS.ifNo X0.here hx rfl (hb hby d_method_2_code_4) rfl ((if0 _ _).trans (feq h1).1) ?_
        show Steps p.tables e below (s₁.setTop (mkF m 7 #[.val (.long x1), .second, .val (.int g1), .val (.double (FP.l2d x1)), .second] [])) _
        refine XS.lloadN X0.here hx rfl (hb hby d_method_2_code_7) rfl ?_
        show Steps p.tables e below (s₁.setTop (mkF m 8 #[.val (.long x1), .second, .val (.int g1), .val (.double (FP.l2d x1)), .second] [(.long x1)])) _
        refine XS.lconst X0.here hx rfl (hb hby d_method_2_code_8) ?_
        show Steps p.tables e below (s₁.setTop (mkF m 9 #[.val (.long x1), .second, .val (.int g1), .val (.double (FP.l2d x1)), .second] [(.long (0 : Int64)), (.long x1)])) _
        refine XS.lcmp X0.here hx rfl (hb hby d_method_2_code_9) rfl ?_
        show Steps p.tables e below (s₁.setTop (mkF m 10 #[.val (.long x1), .second, .val (.int g1), .val (.double (FP.l2d x1)), .second] [(.int (lcmpW x1 (0 : Int64)))])) _
        refine XS.ifYes X0.here hx rfl (pc0 := 10) (pc' := 16) rfl (hb hby d_method_2_code_10) rfl ((if0 _ _).trans (feq (fun q => h2 ((own_lc0 x1).mp q))).2) (by decide) (by decide) ?_
        show Steps p.tables e below (s₁.setTop (mkF m 16 #[.val (.long x1), .second, .val (.int g1), .val (.double (FP.l2d x1)), .second] [])) _
        have kk := k16
        rw [(show own_toD x1 g1 = FP.l2d x1 from (if_neg h1).trans (if_neg h2))] at kk
        exact kk
  · show Q1 Z x1 g1 h0 n0 _ s₁.heap _
    rw [e0]
    exact ⟨rfl, N0, rfl⟩
theorem ef_2 (m : MethodId) (x0 : Addr) (x1 : UInt64) (x2 : Int32) (x3 : UInt64) (x4 : Int32) : entryFrame m #[(.ref x0), (.double x1), (.int x2), (.double x3), (.int x4)] 7 = mkF m 0 #[.val (.ref x0), .val (.double x1), .second, .val (.int x2), .val (.double x3), .second, .val (.int x4)] [] := by first | (simp [entryFrame, mkF, argsToLocals, Value.category]; done) | rfl
theorem pn_2 : plainName "com/example/fanworm/fanworm/engine/Interval" = true := by first | (simp [plainName, overriddenIn]; done) | decide +kernel
def Q2 (Z : State) (a1 : Addr) (r1 : UInt64) (l1 : Int32) (r2 : UInt64) (l2 : Int32) (h0 : Heap) (n0 : Nat) (v : Option Value) (h : Heap) (L : List Loc) : Prop := v = none ∧ Fr n0 L ∧ Keep h0 h [a1] ∧ Exa Z h a1 "com/example/fanworm/fanworm/engine/Interval" ∧ Fld Z h a1 "com/example/fanworm/fanworm/engine/Interval" "low" "D" (.double r1) ∧ Fld Z h a1 "com/example/fanworm/fanworm/engine/Interval" "lowIncluded" "Z" (.int (nar .boolean l1)) ∧ Fld Z h a1 "com/example/fanworm/fanworm/engine/Interval" "high" "D" (.double r2) ∧ Fld Z h a1 "com/example/fanworm/fanworm/engine/Interval" "highIncluded" "Z" (.int (nar .boolean l2))
set_option maxRecDepth 65536 in
set_option maxHeartbeats 40000000 in
theorem rm2 (l : Launch) (Z : State) (a0 : Array Value) (hw : ∀ d ∈ tables_1, d.before a0 Z = true) (ws : List Jvm.Cond) (a1 : Addr) (r1 : UInt64) (l1 : Int32) (r2 : UInt64) (l2 : Int32) (h0 : Heap) (n0 : Nat) (Z0 : n0 ≤ h0.size) (F_low : Fld Z h0 a1 "com/example/fanworm/fanworm/engine/Interval" "low" "D" (.double (0 : UInt64))) (F_lowIncluded : Fld Z h0 a1 "com/example/fanworm/fanworm/engine/Interval" "lowIncluded" "Z" (.int (0 : Int32))) (F_high : Fld Z h0 a1 "com/example/fanworm/fanworm/engine/Interval" "high" "D" (.double (0 : UInt64))) (F_highIncluded : Fld Z h0 a1 "com/example/fanworm/fanworm/engine/Interval" "highIncluded" "Z" (.int (0 : Int32))) (E_a : Exa Z h0 a1 "com/example/fanworm/fanworm/engine/Interval") (g_a : n0 ≤ a1) (hn1 : NoNaN64 r1) (hn2 : NoNaN64 r2) :
    MetFree l (⟨"com/example/fanworm/fanworm/engine/Interval", "<init>", "(DZDZ)V"⟩ : MethodName) (head1 (Jvm.Cond.code (⟨"com/example/fanworm/fanworm/engine/Interval", "<init>", "(DZDZ)V"⟩ : MethodName) prog_16_method_1_code 7 none :: ws) ({ frames := 2, cells := 0, slots := 0, locals := 40 } : Room)) (fun a U => a = #[(.ref a1), (.double r1), (.int l1), (.double r2), (.int l2)] ∧ Z.Warmed39 U.vm ∧ U.heap = h0) (fun _ _ _ _ _ => True) (fun _ U o U' => ∃ v L, o = .returned v ∧ Q2 Z a1 r1 l1 r2 l2 h0 n0 v U'.heap L ∧ FrameEnd U o U' L ({ frames := 2, cells := 0, slots := 0, locals := 40 } : Room).cells ({ frames := 2, cells := 0, slots := 0, locals := 40 } : Room).slots) := by
  refine MetFree.of_bodySF (plainFor_of_name pn_2) hisR ?_
  intro p e s m args below meth c s₁ Bd hml0 hP hK
  obtain ⟨rfl, hZ, hh⟩ := hP
  have hx := Bd.exec
  have hby := Bd.bytes
  have hml : c.maxLocals = 7 := hml0
  have hown : s.vm.findClass "com/example/fanworm/fanworm/engine/Interval" = some m.cls := findClass_of_methodNamed Bd.named
  have hnm := (name_of_methodNamed Bd.named Bd.method).1
  have X0 : Stand p l e ({ frames := 2, cells := 0, slots := 0, locals := 40 } : Room) s m #[(.ref a1), (.double r1), (.int l1), (.double r2), (.int l2)] below meth c s₁ [] 0 0 := Stand.of_body Bd
  have e0 : s₁.heap = h0 := by rw [← hh, Bd.state]; rfl
  have N0 := Fr.nil n0
  have pre0 : ∀ t, Steps p.tables e below (s₁.setTop (mkF m 0 #[.val (.ref a1), .val (.double r1), .second, .val (.int l1), .val (.double r2), .second, .val (.int l2)] [])) t → Steps p.tables e below (s₁.setTop (entryFrame m #[(.ref a1), (.double r1), (.int l1), (.double r2), (.int l2)] 7)) t := fun t k => castTop (ef_2 m a1 r1 l1 r2 l2) k
  obtain ⟨_, _, ⟨T2, L2, k2, n2⟩, -, X2, ⟨Lc2, hQ2, l2, y2, z2⟩, st2⟩ := X0.specialBack hx (y := (⟨"java/lang/Record", "<init>", "()V"⟩ : MethodName)) rfl hown (mvT hZ (hw _ (List.mem_of_getElem? (i := 10) rfl))) (mvT hZ (hw _ (List.mem_of_getElem? (i := 11) rfl))) (mvT hZ (hw _ (List.mem_of_getElem? (i := 14) rfl))) (by decide) (backOf (W := 0) (rm6 l Z a0 hw [] a1 h0 n0 Z0) hZ (hw _ (List.mem_of_getElem? (i := 14) rfl)) (hw _ (List.mem_of_getElem? (i := 13) rfl)) (by decide) (by decide)) (g := (mkF m 1 #[.val (.ref a1), .val (.double r1), .second, .val (.int l1), .val (.double r2), .second, .val (.int l2)] [(.ref a1)])) rfl (by rw [hml]; rfl) (Steps.refl _) (a := a1) (argsL := []) (rest := []) (lenOf pd_0 rfl) rfl (by show 2 * 0 + _ ≤ _; exact Nat.le_of_eq rfl) (hb hby d_prog_16_method_1_code_1) (fun _ _ => ⟨rfl, e0, (by decide : 0 + 0 ≤ _), (by decide : 0 + 0 ≤ _)⟩)
  dsimp only [Pt.U, Pt.locs, Pt.cells, Pt.slots] at X2 l2 y2 z2 st2 hQ2
  subst l2 y2 z2
  obtain ⟨rfl, N2q, ehr⟩ := hQ2
  have N2 := Fr.app N0 N2q
  have F1_low : Fld Z T2.heap a1 "com/example/fanworm/fanworm/engine/Interval" "low" "D" (.double (0 : UInt64)) := by rw [ehr]; exact F_low
  have F1_lowIncluded : Fld Z T2.heap a1 "com/example/fanworm/fanworm/engine/Interval" "lowIncluded" "Z" (.int (0 : Int32)) := by rw [ehr]; exact F_lowIncluded
  have F1_high : Fld Z T2.heap a1 "com/example/fanworm/fanworm/engine/Interval" "high" "D" (.double (0 : UInt64)) := by rw [ehr]; exact F_high
  have F1_highIncluded : Fld Z T2.heap a1 "com/example/fanworm/fanworm/engine/Interval" "highIncluded" "Z" (.int (0 : Int32)) := by rw [ehr]; exact F_highIncluded
  have E1_a : Exa Z T2.heap a1 "com/example/fanworm/fanworm/engine/Interval" := by rw [ehr]; exact E_a
  have K1_a : Keep h0 T2.heap [a1] := by rw [ehr]; exact (Keep.refl h0 [a1])
  have Zr : n0 ≤ T2.heap.size := by rw [ehr]; exact Z0
  obtain ⟨_, _, ⟨T3, L3, k3, n3⟩, -, X3, ⟨Lc3, hQ3, l3, y3, z3⟩, st3⟩ := Jvm.LawKit.callS X2 hx (y := (⟨"java/lang/Double", "isNaN", "(D)Z"⟩ : MethodName)) hown (mvT hZ (hw _ (List.mem_of_getElem? (i := 18) rfl))) (mvT hZ (hw _ (List.mem_of_getElem? (i := 19) rfl))) (mvT hZ (hw _ (List.mem_of_getElem? (i := 20) rfl))) (mvT hZ (hw _ (List.mem_of_getElem? (i := 21) rfl))) (by decide) (backOf (W := 0) (rm5 l Z a0 hw [] r1 T2.heap n0 Zr hn1) hZ (hw _ (List.mem_of_getElem? (i := 21) rfl)) (hw _ (List.mem_of_getElem? (i := 20) rfl)) (by decide) (by decide)) (g := (mkF m 5 #[.val (.ref a1), .val (.double r1), .second, .val (.int l1), .val (.double r2), .second, .val (.int l2)] [(.double r1)])) rfl (by rw [hml]; rfl) (argsL := [(.double r1)]) (rest := []) (lenOf pd_1 rfl) rfl (by show 2 * 0 + _ ≤ _; exact Nat.le_of_eq rfl) (hb hby d_prog_16_method_1_code_5) (fun _ _ => ⟨rfl, rfl, (by decide : 0 + 0 ≤ _), (by decide : 0 + 0 ≤ _)⟩)
  dsimp only [Pt.U, Pt.locs, Pt.cells, Pt.slots] at X3 l3 y3 z3 st3 hQ3
  subst l3 y3 z3
  obtain ⟨rfl, N3q, ehs⟩ := hQ3
  have N3 := Fr.app N2 N3q
  have F2_low : Fld Z T3.heap a1 "com/example/fanworm/fanworm/engine/Interval" "low" "D" (.double (0 : UInt64)) := by rw [ehs]; exact F1_low
  have F2_lowIncluded : Fld Z T3.heap a1 "com/example/fanworm/fanworm/engine/Interval" "lowIncluded" "Z" (.int (0 : Int32)) := by rw [ehs]; exact F1_lowIncluded
  have F2_high : Fld Z T3.heap a1 "com/example/fanworm/fanworm/engine/Interval" "high" "D" (.double (0 : UInt64)) := by rw [ehs]; exact F1_high
  have F2_highIncluded : Fld Z T3.heap a1 "com/example/fanworm/fanworm/engine/Interval" "highIncluded" "Z" (.int (0 : Int32)) := by rw [ehs]; exact F1_highIncluded
  have E2_a : Exa Z T3.heap a1 "com/example/fanworm/fanworm/engine/Interval" := by rw [ehs]; exact E1_a
  have K2_a : Keep h0 T3.heap [a1] := by rw [ehs]; exact K1_a
  have Zs : n0 ≤ T3.heap.size := by rw [ehs]; exact Zr
  obtain ⟨_, _, ⟨T4, L4, k4, n4⟩, -, X4, ⟨Lc4, hQ4, l4, y4, z4⟩, st4⟩ := Jvm.LawKit.callS X3 hx (y := (⟨"java/lang/Double", "isNaN", "(D)Z"⟩ : MethodName)) hown (mvT hZ (hw _ (List.mem_of_getElem? (i := 18) rfl))) (mvT hZ (hw _ (List.mem_of_getElem? (i := 19) rfl))) (mvT hZ (hw _ (List.mem_of_getElem? (i := 20) rfl))) (mvT hZ (hw _ (List.mem_of_getElem? (i := 21) rfl))) (by decide) (backOf (W := 0) (rm5 l Z a0 hw [] r2 T3.heap n0 Zs hn2) hZ (hw _ (List.mem_of_getElem? (i := 21) rfl)) (hw _ (List.mem_of_getElem? (i := 20) rfl)) (by decide) (by decide)) (g := (mkF m 13 #[.val (.ref a1), .val (.double r1), .second, .val (.int l1), .val (.double r2), .second, .val (.int l2)] [(.double r2)])) rfl (by rw [hml]; rfl) (argsL := [(.double r2)]) (rest := []) (lenOf pd_1 rfl) rfl (by show 2 * 0 + _ ≤ _; exact Nat.le_of_eq rfl) (hb hby d_prog_16_method_1_code_13) (fun _ _ => ⟨rfl, rfl, (by decide : 0 + 0 ≤ _), (by decide : 0 + 0 ≤ _)⟩)
  dsimp only [Pt.U, Pt.locs, Pt.cells, Pt.slots] at X4 l4 y4 z4 st4 hQ4
  subst l4 y4 z4
  obtain ⟨rfl, N4q, eht⟩ := hQ4
  have N4 := Fr.app N3 N4q
  have F3_low : Fld Z T4.heap a1 "com/example/fanworm/fanworm/engine/Interval" "low" "D" (.double (0 : UInt64)) := by rw [eht]; exact F2_low
  have F3_lowIncluded : Fld Z T4.heap a1 "com/example/fanworm/fanworm/engine/Interval" "lowIncluded" "Z" (.int (0 : Int32)) := by rw [eht]; exact F2_lowIncluded
  have F3_high : Fld Z T4.heap a1 "com/example/fanworm/fanworm/engine/Interval" "high" "D" (.double (0 : UInt64)) := by rw [eht]; exact F2_high
  have F3_highIncluded : Fld Z T4.heap a1 "com/example/fanworm/fanworm/engine/Interval" "highIncluded" "Z" (.int (0 : Int32)) := by rw [eht]; exact F2_highIncluded
  have E3_a : Exa Z T4.heap a1 "com/example/fanworm/fanworm/engine/Interval" := by rw [eht]; exact E2_a
  have K3_a : Keep h0 T4.heap [a1] := by rw [eht]; exact K2_a
  obtain ⟨T5, h5, X5, e5, W5, st5⟩ := putF X4 hx hZ hown (host := "") (Or.inl (hw _ (List.mem_of_getElem? (i := 22) rfl))) Via.refl rfl F3_low E3_a (Or.inr ⟨(hw _ (List.mem_of_getElem? (i := 23) rfl)), rfl, hnm⟩) (hw _ (List.mem_of_getElem? (i := 1) rfl)) (ty := .double) (by decide) rfl rfl (g := (mkF m 31 #[.val (.ref a1), .val (.double r1), .second, .val (.int l1), .val (.double r2), .second, .val (.int l2)] [(.double r1), (.ref a1)])) rfl rfl (hb hby d_prog_16_method_1_code_31)
  have N5 := Fr.snoc X5 N4 g_a
  have F4_low := F3_low.same W5
  have F4_lowIncluded := F3_lowIncluded.other W5 (Or.inr (slot_ne (Or.inr (hw _ (List.mem_of_getElem? (i := 25) rfl))) (Or.inr (hw _ (List.mem_of_getElem? (i := 23) rfl))) (by decide) (t := .boolean) (t' := .double) (by decide) (by decide)))
  have F4_high := F3_high.other W5 (Or.inr (slot_ne (Or.inr (hw _ (List.mem_of_getElem? (i := 27) rfl))) (Or.inr (hw _ (List.mem_of_getElem? (i := 23) rfl))) (by decide) (t := .double) (t' := .double) (by decide) (by decide)))
  have F4_highIncluded := F3_highIncluded.other W5 (Or.inr (slot_ne (Or.inr (hw _ (List.mem_of_getElem? (i := 29) rfl))) (Or.inr (hw _ (List.mem_of_getElem? (i := 23) rfl))) (by decide) (t := .boolean) (t' := .double) (by decide) (by decide)))
  have E4_a := E3_a.wr W5
  have K4_a := K3_a.wr W5 (Or.inl (List.mem_of_getElem? (i := 0) rfl))
  obtain ⟨T6, h6, X6, e6, W6, st6⟩ := putFN X5 hx hZ hown (hw _ (List.mem_of_getElem? (i := 24) rfl)) Via.refl e5 F4_lowIncluded E4_a (Or.inr ⟨(hw _ (List.mem_of_getElem? (i := 25) rfl)), rfl, hnm⟩) (hw _ (List.mem_of_getElem? (i := 1) rfl)) (ty := .boolean) (v' := (.int (nar .boolean l1))) (by decide) rfl (fits_nar_bool _) (g := (mkF m 36 #[.val (.ref a1), .val (.double r1), .second, .val (.int l1), .val (.double r2), .second, .val (.int l2)] [(.int l1), (.ref a1)])) rfl rfl (hb hby d_prog_16_method_1_code_36)
  have N6 := Fr.snoc X6 N5 g_a
  have F5_low := F4_low.other W6 (Or.inr (slot_ne (Or.inr (hw _ (List.mem_of_getElem? (i := 23) rfl))) (Or.inr (hw _ (List.mem_of_getElem? (i := 25) rfl))) (by decide) (t := .double) (t' := .boolean) (by decide) (by decide)))
  have F5_lowIncluded := F4_lowIncluded.same W6
  have F5_high := F4_high.other W6 (Or.inr (slot_ne (Or.inr (hw _ (List.mem_of_getElem? (i := 27) rfl))) (Or.inr (hw _ (List.mem_of_getElem? (i := 25) rfl))) (by decide) (t := .double) (t' := .boolean) (by decide) (by decide)))
  have F5_highIncluded := F4_highIncluded.other W6 (Or.inr (slot_ne (Or.inr (hw _ (List.mem_of_getElem? (i := 29) rfl))) (Or.inr (hw _ (List.mem_of_getElem? (i := 25) rfl))) (by decide) (t := .boolean) (t' := .boolean) (by decide) (by decide)))
  have E5_a := E4_a.wr W6
  have K5_a := K4_a.wr W6 (Or.inl (List.mem_of_getElem? (i := 0) rfl))
  obtain ⟨T7, h7, X7, e7, W7, st7⟩ := putF X6 hx hZ hown (host := "") (Or.inl (hw _ (List.mem_of_getElem? (i := 26) rfl))) Via.refl e6 F5_high E5_a (Or.inr ⟨(hw _ (List.mem_of_getElem? (i := 27) rfl)), rfl, hnm⟩) (hw _ (List.mem_of_getElem? (i := 1) rfl)) (ty := .double) (by decide) rfl rfl (g := (mkF m 42 #[.val (.ref a1), .val (.double r1), .second, .val (.int l1), .val (.double r2), .second, .val (.int l2)] [(.double r2), (.ref a1)])) rfl rfl (hb hby d_prog_16_method_1_code_42)
  have N7 := Fr.snoc X7 N6 g_a
  have F6_low := F5_low.other W7 (Or.inr (slot_ne (Or.inr (hw _ (List.mem_of_getElem? (i := 23) rfl))) (Or.inr (hw _ (List.mem_of_getElem? (i := 27) rfl))) (by decide) (t := .double) (t' := .double) (by decide) (by decide)))
  have F6_lowIncluded := F5_lowIncluded.other W7 (Or.inr (slot_ne (Or.inr (hw _ (List.mem_of_getElem? (i := 25) rfl))) (Or.inr (hw _ (List.mem_of_getElem? (i := 27) rfl))) (by decide) (t := .boolean) (t' := .double) (by decide) (by decide)))
  have F6_high := F5_high.same W7
  have F6_highIncluded := F5_highIncluded.other W7 (Or.inr (slot_ne (Or.inr (hw _ (List.mem_of_getElem? (i := 29) rfl))) (Or.inr (hw _ (List.mem_of_getElem? (i := 27) rfl))) (by decide) (t := .boolean) (t' := .double) (by decide) (by decide)))
  have E6_a := E5_a.wr W7
  have K6_a := K5_a.wr W7 (Or.inl (List.mem_of_getElem? (i := 0) rfl))
  obtain ⟨T8, h8, X8, e8, W8, st8⟩ := putFN X7 hx hZ hown (hw _ (List.mem_of_getElem? (i := 28) rfl)) Via.refl e7 F6_highIncluded E6_a (Or.inr ⟨(hw _ (List.mem_of_getElem? (i := 29) rfl)), rfl, hnm⟩) (hw _ (List.mem_of_getElem? (i := 1) rfl)) (ty := .boolean) (v' := (.int (nar .boolean l2))) (by decide) rfl (fits_nar_bool _) (g := (mkF m 48 #[.val (.ref a1), .val (.double r1), .second, .val (.int l1), .val (.double r2), .second, .val (.int l2)] [(.int l2), (.ref a1)])) rfl rfl (hb hby d_prog_16_method_1_code_48)
  have N8 := Fr.snoc X8 N7 g_a
  have F7_low := F6_low.other W8 (Or.inr (slot_ne (Or.inr (hw _ (List.mem_of_getElem? (i := 23) rfl))) (Or.inr (hw _ (List.mem_of_getElem? (i := 29) rfl))) (by decide) (t := .double) (t' := .boolean) (by decide) (by decide)))
  have F7_lowIncluded := F6_lowIncluded.other W8 (Or.inr (slot_ne (Or.inr (hw _ (List.mem_of_getElem? (i := 25) rfl))) (Or.inr (hw _ (List.mem_of_getElem? (i := 29) rfl))) (by decide) (t := .boolean) (t' := .boolean) (by decide) (by decide)))
  have F7_high := F6_high.other W8 (Or.inr (slot_ne (Or.inr (hw _ (List.mem_of_getElem? (i := 27) rfl))) (Or.inr (hw _ (List.mem_of_getElem? (i := 29) rfl))) (by decide) (t := .double) (t' := .boolean) (by decide) (by decide)))
  have F7_highIncluded := F6_highIncluded.same W8
  have E7_a := E6_a.wr W8
  have K7_a := K6_a.wr W8 (Or.inl (List.mem_of_getElem? (i := 0) rfl))
  obtain ⟨fs, hr, hrun, hended, hW, hsame⟩ := X8.leave (v := none) (fun _ => rfl)
  refine ⟨_, _, pre0 _ ?_, hrun, hended, _, _, rfl, ?_, ⟨_, rfl⟩, hW, hsame.mono (by decide) (by decide)⟩
  · show Steps p.tables e below (s₁.setTop (mkF m 0 #[.val (.ref a1), .val (.double r1), .second, .val (.int l1), .val (.double r2), .second, .val (.int l2)] [])) _
    refine XS.aloadN X0.here hx rfl (hb hby d_prog_16_method_1_code_0) rfl rfl ?_
    show Steps p.tables e below (s₁.setTop (mkF m 1 #[.val (.ref a1), .val (.double r1), .second, .val (.int l1), .val (.double r2), .second, .val (.int l2)] [(.ref a1)])) _
    refine st2.trans ?_
    show Steps p.tables e below (T2.setTop (mkF m 4 #[.val (.ref a1), .val (.double r1), .second, .val (.int l1), .val (.double r2), .second, .val (.int l2)] [])) _
    refine XS.dloadN X2.here hx rfl (hb hby d_prog_16_method_1_code_4) rfl ?_
    show Steps p.tables e below (T2.setTop (mkF m 5 #[.val (.ref a1), .val (.double r1), .second, .val (.int l1), .val (.double r2), .second, .val (.int l2)] [(.double r1)])) _
    refine st3 _ ?_
    show Steps p.tables e below (T3.setTop (mkF m 8 #[.val (.ref a1), .val (.double r1), .second, .val (.int l1), .val (.double r2), .second, .val (.int l2)] [(.int (0 : Int32))])) _
    refine XS.ifNo X3.here hx rfl (hb hby d_prog_16_method_1_code_8) rfl (by decide) ?_
    show Steps p.tables e below (T3.setTop (mkF m 11 #[.val (.ref a1), .val (.double r1), .second, .val (.int l1), .val (.double r2), .second, .val (.int l2)] [])) _
    refine XS.dload X3.here hx rfl (hb hby d_prog_16_method_1_code_11) rfl ?_
    show Steps p.tables e below (T3.setTop (mkF m 13 #[.val (.ref a1), .val (.double r1), .second, .val (.int l1), .val (.double r2), .second, .val (.int l2)] [(.double r2)])) _
    refine st4 _ ?_
    show Steps p.tables e below (T4.setTop (mkF m 16 #[.val (.ref a1), .val (.double r1), .second, .val (.int l1), .val (.double r2), .second, .val (.int l2)] [(.int (0 : Int32))])) _
    refine XS.ifYes X4.here hx rfl (pc0 := 16) (pc' := 29) rfl (hb hby d_prog_16_method_1_code_16) rfl (by decide) (by decide) (by decide) ?_
    show Steps p.tables e below (T4.setTop (mkF m 29 #[.val (.ref a1), .val (.double r1), .second, .val (.int l1), .val (.double r2), .second, .val (.int l2)] [])) _
    refine XS.aloadN X4.here hx rfl (hb hby d_prog_16_method_1_code_29) rfl rfl ?_
    show Steps p.tables e below (T4.setTop (mkF m 30 #[.val (.ref a1), .val (.double r1), .second, .val (.int l1), .val (.double r2), .second, .val (.int l2)] [(.ref a1)])) _
    refine XS.dloadN X4.here hx rfl (hb hby d_prog_16_method_1_code_30) rfl ?_
    show Steps p.tables e below (T4.setTop (mkF m 31 #[.val (.ref a1), .val (.double r1), .second, .val (.int l1), .val (.double r2), .second, .val (.int l2)] [(.double r1), (.ref a1)])) _
    refine st5 _ ?_
    show Steps p.tables e below (T5.setTop (mkF m 34 #[.val (.ref a1), .val (.double r1), .second, .val (.int l1), .val (.double r2), .second, .val (.int l2)] [])) _
    refine XS.aloadN X5.here hx rfl (hb hby d_prog_16_method_1_code_34) rfl rfl ?_
    show Steps p.tables e below (T5.setTop (mkF m 35 #[.val (.ref a1), .val (.double r1), .second, .val (.int l1), .val (.double r2), .second, .val (.int l2)] [(.ref a1)])) _
    refine XS.iloadN X5.here hx rfl (hb hby d_prog_16_method_1_code_35) rfl ?_
    show Steps p.tables e below (T5.setTop (mkF m 36 #[.val (.ref a1), .val (.double r1), .second, .val (.int l1), .val (.double r2), .second, .val (.int l2)] [(.int l1), (.ref a1)])) _
    refine st6 _ ?_
    show Steps p.tables e below (T6.setTop (mkF m 39 #[.val (.ref a1), .val (.double r1), .second, .val (.int l1), .val (.double r2), .second, .val (.int l2)] [])) _
    refine XS.aloadN X6.here hx rfl (hb hby d_prog_16_method_1_code_39) rfl rfl ?_
    show Steps p.tables e below (T6.setTop (mkF m 40 #[.val (.ref a1), .val (.double r1), .second, .val (.int l1), .val (.double r2), .second, .val (.int l2)] [(.ref a1)])) _
    refine XS.dload X6.here hx rfl (hb hby d_prog_16_method_1_code_40) rfl ?_
    show Steps p.tables e below (T6.setTop (mkF m 42 #[.val (.ref a1), .val (.double r1), .second, .val (.int l1), .val (.double r2), .second, .val (.int l2)] [(.double r2), (.ref a1)])) _
    refine st7 _ ?_
    show Steps p.tables e below (T7.setTop (mkF m 45 #[.val (.ref a1), .val (.double r1), .second, .val (.int l1), .val (.double r2), .second, .val (.int l2)] [])) _
    refine XS.aloadN X7.here hx rfl (hb hby d_prog_16_method_1_code_45) rfl rfl ?_
    show Steps p.tables e below (T7.setTop (mkF m 46 #[.val (.ref a1), .val (.double r1), .second, .val (.int l1), .val (.double r2), .second, .val (.int l2)] [(.ref a1)])) _
    refine XS.iload X7.here hx rfl (hb hby d_prog_16_method_1_code_46) rfl ?_
    show Steps p.tables e below (T7.setTop (mkF m 48 #[.val (.ref a1), .val (.double r1), .second, .val (.int l1), .val (.double r2), .second, .val (.int l2)] [(.int l2), (.ref a1)])) _
    refine st8 _ ?_
    show Steps p.tables e below (T8.setTop (mkF m 51 #[.val (.ref a1), .val (.double r1), .second, .val (.int l1), .val (.double r2), .second, .val (.int l2)] [])) _
    exact X8.returnOut hx Bd.returns (hb hby d_prog_16_method_1_code_51) hr
  · show Q2 Z a1 r1 l1 r2 l2 h0 n0 _ T8.heap _
    rw [e8]
    exact ⟨rfl, N8, K7_a, E7_a, F7_low, F7_lowIncluded, F7_high, F7_highIncluded⟩
theorem ef_3 (m : MethodId) (x0 : Addr) (x1 : UInt64) : entryFrame m #[(.ref x0), (.double x1)] 5 = mkF m 0 #[.val (.ref x0), .val (.double x1), .second, .unset, .unset] [] := by first | (simp [entryFrame, mkF, argsToLocals, Value.category]; done) | rfl
theorem pn_3 : plainName "com/example/fanworm/fanworm/engine/Interval" = true := by first | (simp [plainName, overriddenIn]; done) | decide +kernel
def Q3 (Z : State) (a1 : Addr) (r1 : UInt64) (l1 : Int32) (r2 : UInt64) (l2 : Int32) (rv : UInt64) (lo : Int) (hi : Int) (vi : Int) (h0 : Heap) (n0 : Nat) (v : Option Value) (h : Heap) (L : List Loc) : Prop := v = some (.int (own_in l1 lo l2 hi vi)) ∧ Fr n0 L ∧ h = h0
set_option maxRecDepth 65536 in
set_option maxHeartbeats 40000000 in
theorem rm3 (l : Launch) (Z : State) (a0 : Array Value) (hw : ∀ d ∈ tables_1, d.before a0 Z = true) (ws : List Jvm.Cond) (a1 : Addr) (r1 : UInt64) (l1 : Int32) (r2 : UInt64) (l2 : Int32) (rv : UInt64) (lo : Int) (hi : Int) (vi : Int) (h0 : Heap) (n0 : Nat) (Z0 : n0 ≤ h0.size) (F_low : Fld Z h0 a1 "com/example/fanworm/fanworm/engine/Interval" "low" "D" (.double r1)) (F_lowIncluded : Fld Z h0 a1 "com/example/fanworm/fanworm/engine/Interval" "lowIncluded" "Z" (.int l1)) (F_high : Fld Z h0 a1 "com/example/fanworm/fanworm/engine/Interval" "high" "D" (.double r2)) (F_highIncluded : Fld Z h0 a1 "com/example/fanworm/fanworm/engine/Interval" "highIncluded" "Z" (.int l2)) (hlo : Jvm.FP.Core.DInt lo r1) (hhi : Jvm.FP.Core.DInt hi r2) (hv : Jvm.FP.Core.DInt vi rv) :
    MetFree l (⟨"com/example/fanworm/fanworm/engine/Interval", "contains", "(D)Z"⟩ : MethodName) (head1 (Jvm.Cond.code (⟨"com/example/fanworm/fanworm/engine/Interval", "contains", "(D)Z"⟩ : MethodName) prog_16_method_8_code 5 (some .boolean) :: ws) ({ frames := 0, cells := 0, slots := 0, locals := 0 } : Room)) (fun a U => a = #[(.ref a1), (.double rv)] ∧ Z.Warmed39 U.vm ∧ U.heap = h0) (fun _ _ _ _ _ => True) (fun _ U o U' => ∃ v L, o = .returned v ∧ Q3 Z a1 r1 l1 r2 l2 rv lo hi vi h0 n0 v U'.heap L ∧ FrameEnd U o U' L ({ frames := 0, cells := 0, slots := 0, locals := 0 } : Room).cells ({ frames := 0, cells := 0, slots := 0, locals := 0 } : Room).slots) := by
  refine MetFree.of_bodySF (plainFor_of_name pn_3) hisR ?_
  intro p e s m args below meth c s₁ Bd hml0 hP hK
  obtain ⟨rfl, hZ, hh⟩ := hP
  have hx := Bd.exec
  have hby := Bd.bytes
  have hml : c.maxLocals = 5 := hml0
  have hown : s.vm.findClass "com/example/fanworm/fanworm/engine/Interval" = some m.cls := findClass_of_methodNamed Bd.named
  have hnm := (name_of_methodNamed Bd.named Bd.method).1
  have X0 : Stand p l e ({ frames := 0, cells := 0, slots := 0, locals := 0 } : Room) s m #[(.ref a1), (.double rv)] below meth c s₁ [] 0 0 := Stand.of_body Bd
  have e0 : s₁.heap = h0 := by rw [← hh, Bd.state]; rfl
  have N0 := Fr.nil n0
  have pre0 : ∀ t, Steps p.tables e below (s₁.setTop (mkF m 0 #[.val (.ref a1), .val (.double rv), .second, .unset, .unset] [])) t → Steps p.tables e below (s₁.setTop (entryFrame m #[(.ref a1), (.double rv)] 5)) t := fun t k => castTop (ef_3 m a1 rv) k
  obtain ⟨Ta, Xa, ea, sta⟩ : ∃ T' : State, Stand p l e ({ frames := 0, cells := 0, slots := 0, locals := 0 } : Room) s m #[(.ref a1), (.double rv)] below meth c T' [] 0 0 ∧ T'.heap = h0 ∧ ∀ target, Steps p.tables e below (T'.setTop (mkF m 39 #[.val (.ref a1), .val (.double rv), .second, .val (.int (own_b (own_lowok l1 lo vi))), .unset] [])) target → Steps p.tables e below (s₁.setTop (mkF m 0 #[.val (.ref a1), .val (.double rv), .second, .unset, .unset] [])) target := by
    by_cases h1 : l1 = (0 : Int32)
    · by_cases h2 : lo < vi
      · obtain ⟨T9, X9, e9, st9⟩ := getF X0 hx hZ hown (host := "") (Or.inl (hw _ (List.mem_of_getElem? (i := 24) rfl))) Via.refl e0 F_lowIncluded (g := (mkF m 1 #[.val (.ref a1), .val (.double rv), .second, .unset, .unset] [(.ref a1)])) rfl rfl (hb hby d_prog_16_method_8_code_1)
        obtain ⟨T10, X10, e10, st10⟩ := getF X9 hx hZ hown (host := "") (Or.inl (hw _ (List.mem_of_getElem? (i := 22) rfl))) Via.refl e9 F_low (g := (mkF m 26 #[.val (.ref a1), .val (.double rv), .second, .unset, .unset] [(.ref a1), (.double rv)])) rfl rfl (hb hby d_prog_16_method_8_code_26)
        refine ⟨T10, X10, e10, fun target kt => ?_⟩
        show Steps p.tables e below (s₁.setTop (mkF m 0 #[.val (.ref a1), .val (.double rv), .second, .unset, .unset] [])) _
        refine XS.aloadN X0.here hx rfl (hb hby d_prog_16_method_8_code_0) rfl rfl ?_
        show Steps p.tables e below (s₁.setTop (mkF m 1 #[.val (.ref a1), .val (.double rv), .second, .unset, .unset] [(.ref a1)])) _
        refine st9 _ ?_
        show Steps p.tables e below (T9.setTop (mkF m 4 #[.val (.ref a1), .val (.double rv), .second, .unset, .unset] [(.int l1)])) _
        refine XS.ifYes X9.here hx rfl (pc0 := 4) (pc' := 24) rfl (hb hby d_prog_16_method_8_code_4) rfl ((if0 _ _).trans (teq h1).1) (by decide) (by decide) ?_
        show Steps p.tables e below (T9.setTop (mkF m 24 #[.val (.ref a1), .val (.double rv), .second, .unset, .unset] [])) _
        refine XS.dloadN X9.here hx rfl (hb hby d_prog_16_method_8_code_24) rfl ?_
        show Steps p.tables e below (T9.setTop (mkF m 25 #[.val (.ref a1), .val (.double rv), .second, .unset, .unset] [(.double rv)])) _
        refine XS.aloadN X9.here hx rfl (hb hby d_prog_16_method_8_code_25) rfl rfl ?_
        show Steps p.tables e below (T9.setTop (mkF m 26 #[.val (.ref a1), .val (.double rv), .second, .unset, .unset] [(.ref a1), (.double rv)])) _
        refine st10 _ ?_
        show Steps p.tables e below (T10.setTop (mkF m 29 #[.val (.ref a1), .val (.double rv), .second, .unset, .unset] [(.double r1), (.double rv)])) _
        refine XS.dcmpS X10.here hx rfl (v := (own_c vi lo)) (hb hby d_prog_16_method_8_code_29) rfl (own_cmpv hv hlo .l) ?_
        show Steps p.tables e below (T10.setTop (mkF m 30 #[.val (.ref a1), .val (.double rv), .second, .unset, .unset] [(.int (own_c vi lo))])) _
        refine XS.ifNo X10.here hx rfl (hb hby d_prog_16_method_8_code_30) rfl ((if0 _ _).trans (tlt (own_c_gt h2)).2.2.2) ?_
        show Steps p.tables e below (T10.setTop (mkF m 33 #[.val (.ref a1), .val (.double rv), .second, .unset, .unset] [])) _
        refine XS.iconst X10.here hx rfl (hb hby d_prog_16_method_8_code_33) ?_
        show Steps p.tables e below (T10.setTop (mkF m 34 #[.val (.ref a1), .val (.double rv), .second, .unset, .unset] [(.int (1 : Int32))])) _
        refine XS.goto X10.here hx rfl (pc0 := 34) (pc' := 38) rfl (hb hby d_prog_16_method_8_code_34) (by decide) (by decide) ?_
        show Steps p.tables e below (T10.setTop (mkF m 38 #[.val (.ref a1), .val (.double rv), .second, .unset, .unset] [(.int (1 : Int32))])) _
        refine XS.istoreN X10.here hx rfl (hb hby d_prog_16_method_8_code_38) rfl (l' := #[.val (.ref a1), .val (.double rv), .second, .val (.int (1 : Int32)), .unset]) rfl ?_
        show Steps p.tables e below (T10.setTop (mkF m 39 #[.val (.ref a1), .val (.double rv), .second, .val (.int (1 : Int32)), .unset] [])) _
        rw [(own_b1 (own_lo1 h1 h2))] at kt
        exact kt
      · obtain ⟨T11, X11, e11, st11⟩ := getF X0 hx hZ hown (host := "") (Or.inl (hw _ (List.mem_of_getElem? (i := 24) rfl))) Via.refl e0 F_lowIncluded (g := (mkF m 1 #[.val (.ref a1), .val (.double rv), .second, .unset, .unset] [(.ref a1)])) rfl rfl (hb hby d_prog_16_method_8_code_1)
        obtain ⟨T12, X12, e12, st12⟩ := getF X11 hx hZ hown (host := "") (Or.inl (hw _ (List.mem_of_getElem? (i := 22) rfl))) Via.refl e11 F_low (g := (mkF m 26 #[.val (.ref a1), .val (.double rv), .second, .unset, .unset] [(.ref a1), (.double rv)])) rfl rfl (hb hby d_prog_16_method_8_code_26)
        refine ⟨T12, X12, e12, fun target kt => ?_⟩
        show Steps p.tables e below (s₁.setTop (mkF m 0 #[.val (.ref a1), .val (.double rv), .second, .unset, .unset] [])) _
        refine XS.aloadN X0.here hx rfl (hb hby d_prog_16_method_8_code_0) rfl rfl ?_
        show Steps p.tables e below (s₁.setTop (mkF m 1 #[.val (.ref a1), .val (.double rv), .second, .unset, .unset] [(.ref a1)])) _
        refine st11 _ ?_
        show Steps p.tables e below (T11.setTop (mkF m 4 #[.val (.ref a1), .val (.double rv), .second, .unset, .unset] [(.int l1)])) _
        refine XS.ifYes X11.here hx rfl (pc0 := 4) (pc' := 24) rfl (hb hby d_prog_16_method_8_code_4) rfl ((if0 _ _).trans (teq h1).1) (by decide) (by decide) ?_
        show Steps p.tables e below (T11.setTop (mkF m 24 #[.val (.ref a1), .val (.double rv), .second, .unset, .unset] [])) _
        refine XS.dloadN X11.here hx rfl (hb hby d_prog_16_method_8_code_24) rfl ?_
        show Steps p.tables e below (T11.setTop (mkF m 25 #[.val (.ref a1), .val (.double rv), .second, .unset, .unset] [(.double rv)])) _
        refine XS.aloadN X11.here hx rfl (hb hby d_prog_16_method_8_code_25) rfl rfl ?_
        show Steps p.tables e below (T11.setTop (mkF m 26 #[.val (.ref a1), .val (.double rv), .second, .unset, .unset] [(.ref a1), (.double rv)])) _
        refine st12 _ ?_
        show Steps p.tables e below (T12.setTop (mkF m 29 #[.val (.ref a1), .val (.double rv), .second, .unset, .unset] [(.double r1), (.double rv)])) _
        refine XS.dcmpS X12.here hx rfl (v := (own_c vi lo)) (hb hby d_prog_16_method_8_code_29) rfl (own_cmpv hv hlo .l) ?_
        show Steps p.tables e below (T12.setTop (mkF m 30 #[.val (.ref a1), .val (.double rv), .second, .unset, .unset] [(.int (own_c vi lo))])) _
        refine XS.ifYes X12.here hx rfl (pc0 := 30) (pc' := 37) rfl (hb hby d_prog_16_method_8_code_30) rfl ((if0 _ _).trans (flt (own_c_le (Int.not_lt.mp h2))).2.2.2) (by decide) (by decide) ?_
        show Steps p.tables e below (T12.setTop (mkF m 37 #[.val (.ref a1), .val (.double rv), .second, .unset, .unset] [])) _
        refine XS.iconst X12.here hx rfl (hb hby d_prog_16_method_8_code_37) ?_
        show Steps p.tables e below (T12.setTop (mkF m 38 #[.val (.ref a1), .val (.double rv), .second, .unset, .unset] [(.int (0 : Int32))])) _
        refine XS.istoreN X12.here hx rfl (hb hby d_prog_16_method_8_code_38) rfl (l' := #[.val (.ref a1), .val (.double rv), .second, .val (.int (0 : Int32)), .unset]) rfl ?_
        show Steps p.tables e below (T12.setTop (mkF m 39 #[.val (.ref a1), .val (.double rv), .second, .val (.int (0 : Int32)), .unset] [])) _
        rw [(own_b0 (own_lo3 h1 h2))] at kt
        exact kt
    · by_cases h2 : lo ≤ vi
      · obtain ⟨T13, X13, e13, st13⟩ := getF X0 hx hZ hown (host := "") (Or.inl (hw _ (List.mem_of_getElem? (i := 24) rfl))) Via.refl e0 F_lowIncluded (g := (mkF m 1 #[.val (.ref a1), .val (.double rv), .second, .unset, .unset] [(.ref a1)])) rfl rfl (hb hby d_prog_16_method_8_code_1)
        obtain ⟨T14, X14, e14, st14⟩ := getF X13 hx hZ hown (host := "") (Or.inl (hw _ (List.mem_of_getElem? (i := 22) rfl))) Via.refl e13 F_low (g := (mkF m 9 #[.val (.ref a1), .val (.double rv), .second, .unset, .unset] [(.ref a1), (.double rv)])) rfl rfl (hb hby d_prog_16_method_8_code_9)
        refine ⟨T14, X14, e14, fun target kt => ?_⟩
        show Steps p.tables e below (s₁.setTop (mkF m 0 #[.val (.ref a1), .val (.double rv), .second, .unset, .unset] [])) _
        refine XS.aloadN X0.here hx rfl (hb hby d_prog_16_method_8_code_0) rfl rfl ?_
        show Steps p.tables e below (s₁.setTop (mkF m 1 #[.val (.ref a1), .val (.double rv), .second, .unset, .unset] [(.ref a1)])) _
        refine st13 _ ?_
        show Steps p.tables e below (T13.setTop (mkF m 4 #[.val (.ref a1), .val (.double rv), .second, .unset, .unset] [(.int l1)])) _
        refine XS.ifNo X13.here hx rfl (hb hby d_prog_16_method_8_code_4) rfl ((if0 _ _).trans (feq h1).1) ?_
        show Steps p.tables e below (T13.setTop (mkF m 7 #[.val (.ref a1), .val (.double rv), .second, .unset, .unset] [])) _
        refine XS.dloadN X13.here hx rfl (hb hby d_prog_16_method_8_code_7) rfl ?_
        show Steps p.tables e below (T13.setTop (mkF m 8 #[.val (.ref a1), .val (.double rv), .second, .unset, .unset] [(.double rv)])) _
        refine XS.aloadN X13.here hx rfl (hb hby d_prog_16_method_8_code_8) rfl rfl ?_
        show Steps p.tables e below (T13.setTop (mkF m 9 #[.val (.ref a1), .val (.double rv), .second, .unset, .unset] [(.ref a1), (.double rv)])) _
        refine st14 _ ?_
        show Steps p.tables e below (T14.setTop (mkF m 12 #[.val (.ref a1), .val (.double rv), .second, .unset, .unset] [(.double r1), (.double rv)])) _
        refine XS.dcmpS X14.here hx rfl (v := (own_c vi lo)) (hb hby d_prog_16_method_8_code_12) rfl (own_cmpv hv hlo .l) ?_
        show Steps p.tables e below (T14.setTop (mkF m 13 #[.val (.ref a1), .val (.double rv), .second, .unset, .unset] [(.int (own_c vi lo))])) _
        refine XS.ifNo X14.here hx rfl (hb hby d_prog_16_method_8_code_13) rfl ((if0 _ _).trans (flt (own_c_ge h2)).1) ?_
        show Steps p.tables e below (T14.setTop (mkF m 16 #[.val (.ref a1), .val (.double rv), .second, .unset, .unset] [])) _
        refine XS.iconst X14.here hx rfl (hb hby d_prog_16_method_8_code_16) ?_
        show Steps p.tables e below (T14.setTop (mkF m 17 #[.val (.ref a1), .val (.double rv), .second, .unset, .unset] [(.int (1 : Int32))])) _
        refine XS.goto X14.here hx rfl (pc0 := 17) (pc' := 38) rfl (hb hby d_prog_16_method_8_code_17) (by decide) (by decide) ?_
        show Steps p.tables e below (T14.setTop (mkF m 38 #[.val (.ref a1), .val (.double rv), .second, .unset, .unset] [(.int (1 : Int32))])) _
        refine XS.istoreN X14.here hx rfl (hb hby d_prog_16_method_8_code_38) rfl (l' := #[.val (.ref a1), .val (.double rv), .second, .val (.int (1 : Int32)), .unset]) rfl ?_
        show Steps p.tables e below (T14.setTop (mkF m 39 #[.val (.ref a1), .val (.double rv), .second, .val (.int (1 : Int32)), .unset] [])) _
        rw [(own_b1 (own_lo2 h1 h2))] at kt
        exact kt
      · obtain ⟨T15, X15, e15, st15⟩ := getF X0 hx hZ hown (host := "") (Or.inl (hw _ (List.mem_of_getElem? (i := 24) rfl))) Via.refl e0 F_lowIncluded (g := (mkF m 1 #[.val (.ref a1), .val (.double rv), .second, .unset, .unset] [(.ref a1)])) rfl rfl (hb hby d_prog_16_method_8_code_1)
        obtain ⟨T16, X16, e16, st16⟩ := getF X15 hx hZ hown (host := "") (Or.inl (hw _ (List.mem_of_getElem? (i := 22) rfl))) Via.refl e15 F_low (g := (mkF m 9 #[.val (.ref a1), .val (.double rv), .second, .unset, .unset] [(.ref a1), (.double rv)])) rfl rfl (hb hby d_prog_16_method_8_code_9)
        refine ⟨T16, X16, e16, fun target kt => ?_⟩
        show Steps p.tables e below (s₁.setTop (mkF m 0 #[.val (.ref a1), .val (.double rv), .second, .unset, .unset] [])) _
        refine XS.aloadN X0.here hx rfl (hb hby d_prog_16_method_8_code_0) rfl rfl ?_
        show Steps p.tables e below (s₁.setTop (mkF m 1 #[.val (.ref a1), .val (.double rv), .second, .unset, .unset] [(.ref a1)])) _
        refine st15 _ ?_
        show Steps p.tables e below (T15.setTop (mkF m 4 #[.val (.ref a1), .val (.double rv), .second, .unset, .unset] [(.int l1)])) _
        refine XS.ifNo X15.here hx rfl (hb hby d_prog_16_method_8_code_4) rfl ((if0 _ _).trans (feq h1).1) ?_
        show Steps p.tables e below (T15.setTop (mkF m 7 #[.val (.ref a1), .val (.double rv), .second, .unset, .unset] [])) _
        refine XS.dloadN X15.here hx rfl (hb hby d_prog_16_method_8_code_7) rfl ?_
        show Steps p.tables e below (T15.setTop (mkF m 8 #[.val (.ref a1), .val (.double rv), .second, .unset, .unset] [(.double rv)])) _
        refine XS.aloadN X15.here hx rfl (hb hby d_prog_16_method_8_code_8) rfl rfl ?_
        show Steps p.tables e below (T15.setTop (mkF m 9 #[.val (.ref a1), .val (.double rv), .second, .unset, .unset] [(.ref a1), (.double rv)])) _
        refine st16 _ ?_
        show Steps p.tables e below (T16.setTop (mkF m 12 #[.val (.ref a1), .val (.double rv), .second, .unset, .unset] [(.double r1), (.double rv)])) _
        refine XS.dcmpS X16.here hx rfl (v := (own_c vi lo)) (hb hby d_prog_16_method_8_code_12) rfl (own_cmpv hv hlo .l) ?_
        show Steps p.tables e below (T16.setTop (mkF m 13 #[.val (.ref a1), .val (.double rv), .second, .unset, .unset] [(.int (own_c vi lo))])) _
        refine XS.ifYes X16.here hx rfl (pc0 := 13) (pc' := 20) rfl (hb hby d_prog_16_method_8_code_13) rfl ((if0 _ _).trans (tlt (own_c_lt (Int.not_le.mp h2))).1) (by decide) (by decide) ?_
        show Steps p.tables e below (T16.setTop (mkF m 20 #[.val (.ref a1), .val (.double rv), .second, .unset, .unset] [])) _
        refine XS.iconst X16.here hx rfl (hb hby d_prog_16_method_8_code_20) ?_
        show Steps p.tables e below (T16.setTop (mkF m 21 #[.val (.ref a1), .val (.double rv), .second, .unset, .unset] [(.int (0 : Int32))])) _
        refine XS.goto X16.here hx rfl (pc0 := 21) (pc' := 38) rfl (hb hby d_prog_16_method_8_code_21) (by decide) (by decide) ?_
        show Steps p.tables e below (T16.setTop (mkF m 38 #[.val (.ref a1), .val (.double rv), .second, .unset, .unset] [(.int (0 : Int32))])) _
        refine XS.istoreN X16.here hx rfl (hb hby d_prog_16_method_8_code_38) rfl (l' := #[.val (.ref a1), .val (.double rv), .second, .val (.int (0 : Int32)), .unset]) rfl ?_
        show Steps p.tables e below (T16.setTop (mkF m 39 #[.val (.ref a1), .val (.double rv), .second, .val (.int (0 : Int32)), .unset] [])) _
        rw [(own_b0 (own_lo4 h1 h2))] at kt
        exact kt
  obtain ⟨Tb, Xb, eb, stb⟩ : ∃ T' : State, Stand p l e ({ frames := 0, cells := 0, slots := 0, locals := 0 } : Room) s m #[(.ref a1), (.double rv)] below meth c T' [] 0 0 ∧ T'.heap = h0 ∧ ∀ target, Steps p.tables e below (T'.setTop (mkF m 79 #[.val (.ref a1), .val (.double rv), .second, .val (.int (own_b (own_lowok l1 lo vi))), .val (.int (own_b (own_highok l2 hi vi)))] [])) target → Steps p.tables e below (Ta.setTop (mkF m 39 #[.val (.ref a1), .val (.double rv), .second, .val (.int (own_b (own_lowok l1 lo vi))), .unset] [])) target := by
    by_cases h1 : l2 = (0 : Int32)
    · by_cases h2 : vi < hi
      · obtain ⟨T17, X17, e17, st17⟩ := getF Xa hx hZ hown (host := "") (Or.inl (hw _ (List.mem_of_getElem? (i := 28) rfl))) Via.refl ea F_highIncluded (g := (mkF m 40 #[.val (.ref a1), .val (.double rv), .second, .val (.int (own_b (own_lowok l1 lo vi))), .unset] [(.ref a1)])) rfl rfl (hb hby d_prog_16_method_8_code_40)
        obtain ⟨T18, X18, e18, st18⟩ := getF X17 hx hZ hown (host := "") (Or.inl (hw _ (List.mem_of_getElem? (i := 26) rfl))) Via.refl e17 F_high (g := (mkF m 65 #[.val (.ref a1), .val (.double rv), .second, .val (.int (own_b (own_lowok l1 lo vi))), .unset] [(.ref a1), (.double rv)])) rfl rfl (hb hby d_prog_16_method_8_code_65)
        refine ⟨T18, X18, e18, fun target kt => ?_⟩
        show Steps p.tables e below (Ta.setTop (mkF m 39 #[.val (.ref a1), .val (.double rv), .second, .val (.int (own_b (own_lowok l1 lo vi))), .unset] [])) _
        refine XS.aloadN Xa.here hx rfl (hb hby d_prog_16_method_8_code_39) rfl rfl ?_
        show Steps p.tables e below (Ta.setTop (mkF m 40 #[.val (.ref a1), .val (.double rv), .second, .val (.int (own_b (own_lowok l1 lo vi))), .unset] [(.ref a1)])) _
        refine st17 _ ?_
        show Steps p.tables e below (T17.setTop (mkF m 43 #[.val (.ref a1), .val (.double rv), .second, .val (.int (own_b (own_lowok l1 lo vi))), .unset] [(.int l2)])) _
        refine XS.ifYes X17.here hx rfl (pc0 := 43) (pc' := 63) rfl (hb hby d_prog_16_method_8_code_43) rfl ((if0 _ _).trans (teq h1).1) (by decide) (by decide) ?_
        show Steps p.tables e below (T17.setTop (mkF m 63 #[.val (.ref a1), .val (.double rv), .second, .val (.int (own_b (own_lowok l1 lo vi))), .unset] [])) _
        refine XS.dloadN X17.here hx rfl (hb hby d_prog_16_method_8_code_63) rfl ?_
        show Steps p.tables e below (T17.setTop (mkF m 64 #[.val (.ref a1), .val (.double rv), .second, .val (.int (own_b (own_lowok l1 lo vi))), .unset] [(.double rv)])) _
        refine XS.aloadN X17.here hx rfl (hb hby d_prog_16_method_8_code_64) rfl rfl ?_
        show Steps p.tables e below (T17.setTop (mkF m 65 #[.val (.ref a1), .val (.double rv), .second, .val (.int (own_b (own_lowok l1 lo vi))), .unset] [(.ref a1), (.double rv)])) _
        refine st18 _ ?_
        show Steps p.tables e below (T18.setTop (mkF m 68 #[.val (.ref a1), .val (.double rv), .second, .val (.int (own_b (own_lowok l1 lo vi))), .unset] [(.double r2), (.double rv)])) _
        refine XS.dcmpS X18.here hx rfl (v := (own_c vi hi)) (hb hby d_prog_16_method_8_code_68) rfl (own_cmpv hv hhi .g) ?_
        show Steps p.tables e below (T18.setTop (mkF m 69 #[.val (.ref a1), .val (.double rv), .second, .val (.int (own_b (own_lowok l1 lo vi))), .unset] [(.int (own_c vi hi))])) _
        refine XS.ifNo X18.here hx rfl (hb hby d_prog_16_method_8_code_69) rfl ((if0 _ _).trans (tlt (own_c_lt h2)).2.1) ?_
        show Steps p.tables e below (T18.setTop (mkF m 72 #[.val (.ref a1), .val (.double rv), .second, .val (.int (own_b (own_lowok l1 lo vi))), .unset] [])) _
        refine XS.iconst X18.here hx rfl (hb hby d_prog_16_method_8_code_72) ?_
        show Steps p.tables e below (T18.setTop (mkF m 73 #[.val (.ref a1), .val (.double rv), .second, .val (.int (own_b (own_lowok l1 lo vi))), .unset] [(.int (1 : Int32))])) _
        refine XS.goto X18.here hx rfl (pc0 := 73) (pc' := 77) rfl (hb hby d_prog_16_method_8_code_73) (by decide) (by decide) ?_
        show Steps p.tables e below (T18.setTop (mkF m 77 #[.val (.ref a1), .val (.double rv), .second, .val (.int (own_b (own_lowok l1 lo vi))), .unset] [(.int (1 : Int32))])) _
        refine XS.istore X18.here hx rfl (hb hby d_prog_16_method_8_code_77) rfl (l' := #[.val (.ref a1), .val (.double rv), .second, .val (.int (own_b (own_lowok l1 lo vi))), .val (.int (1 : Int32))]) rfl ?_
        show Steps p.tables e below (T18.setTop (mkF m 79 #[.val (.ref a1), .val (.double rv), .second, .val (.int (own_b (own_lowok l1 lo vi))), .val (.int (1 : Int32))] [])) _
        rw [(own_b1 (own_hi1 h1 h2))] at kt
        exact kt
      · obtain ⟨T19, X19, e19, st19⟩ := getF Xa hx hZ hown (host := "") (Or.inl (hw _ (List.mem_of_getElem? (i := 28) rfl))) Via.refl ea F_highIncluded (g := (mkF m 40 #[.val (.ref a1), .val (.double rv), .second, .val (.int (own_b (own_lowok l1 lo vi))), .unset] [(.ref a1)])) rfl rfl (hb hby d_prog_16_method_8_code_40)
        obtain ⟨T20, X20, e20, st20⟩ := getF X19 hx hZ hown (host := "") (Or.inl (hw _ (List.mem_of_getElem? (i := 26) rfl))) Via.refl e19 F_high (g := (mkF m 65 #[.val (.ref a1), .val (.double rv), .second, .val (.int (own_b (own_lowok l1 lo vi))), .unset] [(.ref a1), (.double rv)])) rfl rfl (hb hby d_prog_16_method_8_code_65)
        refine ⟨T20, X20, e20, fun target kt => ?_⟩
        show Steps p.tables e below (Ta.setTop (mkF m 39 #[.val (.ref a1), .val (.double rv), .second, .val (.int (own_b (own_lowok l1 lo vi))), .unset] [])) _
        refine XS.aloadN Xa.here hx rfl (hb hby d_prog_16_method_8_code_39) rfl rfl ?_
        show Steps p.tables e below (Ta.setTop (mkF m 40 #[.val (.ref a1), .val (.double rv), .second, .val (.int (own_b (own_lowok l1 lo vi))), .unset] [(.ref a1)])) _
        refine st19 _ ?_
        show Steps p.tables e below (T19.setTop (mkF m 43 #[.val (.ref a1), .val (.double rv), .second, .val (.int (own_b (own_lowok l1 lo vi))), .unset] [(.int l2)])) _
        refine XS.ifYes X19.here hx rfl (pc0 := 43) (pc' := 63) rfl (hb hby d_prog_16_method_8_code_43) rfl ((if0 _ _).trans (teq h1).1) (by decide) (by decide) ?_
        show Steps p.tables e below (T19.setTop (mkF m 63 #[.val (.ref a1), .val (.double rv), .second, .val (.int (own_b (own_lowok l1 lo vi))), .unset] [])) _
        refine XS.dloadN X19.here hx rfl (hb hby d_prog_16_method_8_code_63) rfl ?_
        show Steps p.tables e below (T19.setTop (mkF m 64 #[.val (.ref a1), .val (.double rv), .second, .val (.int (own_b (own_lowok l1 lo vi))), .unset] [(.double rv)])) _
        refine XS.aloadN X19.here hx rfl (hb hby d_prog_16_method_8_code_64) rfl rfl ?_
        show Steps p.tables e below (T19.setTop (mkF m 65 #[.val (.ref a1), .val (.double rv), .second, .val (.int (own_b (own_lowok l1 lo vi))), .unset] [(.ref a1), (.double rv)])) _
        refine st20 _ ?_
        show Steps p.tables e below (T20.setTop (mkF m 68 #[.val (.ref a1), .val (.double rv), .second, .val (.int (own_b (own_lowok l1 lo vi))), .unset] [(.double r2), (.double rv)])) _
        refine XS.dcmpS X20.here hx rfl (v := (own_c vi hi)) (hb hby d_prog_16_method_8_code_68) rfl (own_cmpv hv hhi .g) ?_
        show Steps p.tables e below (T20.setTop (mkF m 69 #[.val (.ref a1), .val (.double rv), .second, .val (.int (own_b (own_lowok l1 lo vi))), .unset] [(.int (own_c vi hi))])) _
        refine XS.ifYes X20.here hx rfl (pc0 := 69) (pc' := 76) rfl (hb hby d_prog_16_method_8_code_69) rfl ((if0 _ _).trans (flt (own_c_ge (Int.not_lt.mp h2))).2.1) (by decide) (by decide) ?_
        show Steps p.tables e below (T20.setTop (mkF m 76 #[.val (.ref a1), .val (.double rv), .second, .val (.int (own_b (own_lowok l1 lo vi))), .unset] [])) _
        refine XS.iconst X20.here hx rfl (hb hby d_prog_16_method_8_code_76) ?_
        show Steps p.tables e below (T20.setTop (mkF m 77 #[.val (.ref a1), .val (.double rv), .second, .val (.int (own_b (own_lowok l1 lo vi))), .unset] [(.int (0 : Int32))])) _
        refine XS.istore X20.here hx rfl (hb hby d_prog_16_method_8_code_77) rfl (l' := #[.val (.ref a1), .val (.double rv), .second, .val (.int (own_b (own_lowok l1 lo vi))), .val (.int (0 : Int32))]) rfl ?_
        show Steps p.tables e below (T20.setTop (mkF m 79 #[.val (.ref a1), .val (.double rv), .second, .val (.int (own_b (own_lowok l1 lo vi))), .val (.int (0 : Int32))] [])) _
        rw [(own_b0 (own_hi3 h1 h2))] at kt
        exact kt
    · by_cases h2 : vi ≤ hi
      · obtain ⟨T21, X21, e21, st21⟩ := getF Xa hx hZ hown (host := "") (Or.inl (hw _ (List.mem_of_getElem? (i := 28) rfl))) Via.refl ea F_highIncluded (g := (mkF m 40 #[.val (.ref a1), .val (.double rv), .second, .val (.int (own_b (own_lowok l1 lo vi))), .unset] [(.ref a1)])) rfl rfl (hb hby d_prog_16_method_8_code_40)
        obtain ⟨T22, X22, e22, st22⟩ := getF X21 hx hZ hown (host := "") (Or.inl (hw _ (List.mem_of_getElem? (i := 26) rfl))) Via.refl e21 F_high (g := (mkF m 48 #[.val (.ref a1), .val (.double rv), .second, .val (.int (own_b (own_lowok l1 lo vi))), .unset] [(.ref a1), (.double rv)])) rfl rfl (hb hby d_prog_16_method_8_code_48)
        refine ⟨T22, X22, e22, fun target kt => ?_⟩
        show Steps p.tables e below (Ta.setTop (mkF m 39 #[.val (.ref a1), .val (.double rv), .second, .val (.int (own_b (own_lowok l1 lo vi))), .unset] [])) _
        refine XS.aloadN Xa.here hx rfl (hb hby d_prog_16_method_8_code_39) rfl rfl ?_
        show Steps p.tables e below (Ta.setTop (mkF m 40 #[.val (.ref a1), .val (.double rv), .second, .val (.int (own_b (own_lowok l1 lo vi))), .unset] [(.ref a1)])) _
        refine st21 _ ?_
        show Steps p.tables e below (T21.setTop (mkF m 43 #[.val (.ref a1), .val (.double rv), .second, .val (.int (own_b (own_lowok l1 lo vi))), .unset] [(.int l2)])) _
        refine XS.ifNo X21.here hx rfl (hb hby d_prog_16_method_8_code_43) rfl ((if0 _ _).trans (feq h1).1) ?_
        show Steps p.tables e below (T21.setTop (mkF m 46 #[.val (.ref a1), .val (.double rv), .second, .val (.int (own_b (own_lowok l1 lo vi))), .unset] [])) _
        refine XS.dloadN X21.here hx rfl (hb hby d_prog_16_method_8_code_46) rfl ?_
        show Steps p.tables e below (T21.setTop (mkF m 47 #[.val (.ref a1), .val (.double rv), .second, .val (.int (own_b (own_lowok l1 lo vi))), .unset] [(.double rv)])) _
        refine XS.aloadN X21.here hx rfl (hb hby d_prog_16_method_8_code_47) rfl rfl ?_
        show Steps p.tables e below (T21.setTop (mkF m 48 #[.val (.ref a1), .val (.double rv), .second, .val (.int (own_b (own_lowok l1 lo vi))), .unset] [(.ref a1), (.double rv)])) _
        refine st22 _ ?_
        show Steps p.tables e below (T22.setTop (mkF m 51 #[.val (.ref a1), .val (.double rv), .second, .val (.int (own_b (own_lowok l1 lo vi))), .unset] [(.double r2), (.double rv)])) _
        refine XS.dcmpS X22.here hx rfl (v := (own_c vi hi)) (hb hby d_prog_16_method_8_code_51) rfl (own_cmpv hv hhi .g) ?_
        show Steps p.tables e below (T22.setTop (mkF m 52 #[.val (.ref a1), .val (.double rv), .second, .val (.int (own_b (own_lowok l1 lo vi))), .unset] [(.int (own_c vi hi))])) _
        refine XS.ifNo X22.here hx rfl (hb hby d_prog_16_method_8_code_52) rfl ((if0 _ _).trans (flt (own_c_le h2)).2.2.1) ?_
        show Steps p.tables e below (T22.setTop (mkF m 55 #[.val (.ref a1), .val (.double rv), .second, .val (.int (own_b (own_lowok l1 lo vi))), .unset] [])) _
        refine XS.iconst X22.here hx rfl (hb hby d_prog_16_method_8_code_55) ?_
        show Steps p.tables e below (T22.setTop (mkF m 56 #[.val (.ref a1), .val (.double rv), .second, .val (.int (own_b (own_lowok l1 lo vi))), .unset] [(.int (1 : Int32))])) _
        refine XS.goto X22.here hx rfl (pc0 := 56) (pc' := 77) rfl (hb hby d_prog_16_method_8_code_56) (by decide) (by decide) ?_
        show Steps p.tables e below (T22.setTop (mkF m 77 #[.val (.ref a1), .val (.double rv), .second, .val (.int (own_b (own_lowok l1 lo vi))), .unset] [(.int (1 : Int32))])) _
        refine XS.istore X22.here hx rfl (hb hby d_prog_16_method_8_code_77) rfl (l' := #[.val (.ref a1), .val (.double rv), .second, .val (.int (own_b (own_lowok l1 lo vi))), .val (.int (1 : Int32))]) rfl ?_
        show Steps p.tables e below (T22.setTop (mkF m 79 #[.val (.ref a1), .val (.double rv), .second, .val (.int (own_b (own_lowok l1 lo vi))), .val (.int (1 : Int32))] [])) _
        rw [(own_b1 (own_hi2 h1 h2))] at kt
        exact kt
      · obtain ⟨T23, X23, e23, st23⟩ := getF Xa hx hZ hown (host := "") (Or.inl (hw _ (List.mem_of_getElem? (i := 28) rfl))) Via.refl ea F_highIncluded (g := (mkF m 40 #[.val (.ref a1), .val (.double rv), .second, .val (.int (own_b (own_lowok l1 lo vi))), .unset] [(.ref a1)])) rfl rfl (hb hby d_prog_16_method_8_code_40)
        obtain ⟨T24, X24, e24, st24⟩ := getF X23 hx hZ hown (host := "") (Or.inl (hw _ (List.mem_of_getElem? (i := 26) rfl))) Via.refl e23 F_high (g := (mkF m 48 #[.val (.ref a1), .val (.double rv), .second, .val (.int (own_b (own_lowok l1 lo vi))), .unset] [(.ref a1), (.double rv)])) rfl rfl (hb hby d_prog_16_method_8_code_48)
        refine ⟨T24, X24, e24, fun target kt => ?_⟩
        show Steps p.tables e below (Ta.setTop (mkF m 39 #[.val (.ref a1), .val (.double rv), .second, .val (.int (own_b (own_lowok l1 lo vi))), .unset] [])) _
        refine XS.aloadN Xa.here hx rfl (hb hby d_prog_16_method_8_code_39) rfl rfl ?_
        show Steps p.tables e below (Ta.setTop (mkF m 40 #[.val (.ref a1), .val (.double rv), .second, .val (.int (own_b (own_lowok l1 lo vi))), .unset] [(.ref a1)])) _
        refine st23 _ ?_
        show Steps p.tables e below (T23.setTop (mkF m 43 #[.val (.ref a1), .val (.double rv), .second, .val (.int (own_b (own_lowok l1 lo vi))), .unset] [(.int l2)])) _
        refine XS.ifNo X23.here hx rfl (hb hby d_prog_16_method_8_code_43) rfl ((if0 _ _).trans (feq h1).1) ?_
        show Steps p.tables e below (T23.setTop (mkF m 46 #[.val (.ref a1), .val (.double rv), .second, .val (.int (own_b (own_lowok l1 lo vi))), .unset] [])) _
        refine XS.dloadN X23.here hx rfl (hb hby d_prog_16_method_8_code_46) rfl ?_
        show Steps p.tables e below (T23.setTop (mkF m 47 #[.val (.ref a1), .val (.double rv), .second, .val (.int (own_b (own_lowok l1 lo vi))), .unset] [(.double rv)])) _
        refine XS.aloadN X23.here hx rfl (hb hby d_prog_16_method_8_code_47) rfl rfl ?_
        show Steps p.tables e below (T23.setTop (mkF m 48 #[.val (.ref a1), .val (.double rv), .second, .val (.int (own_b (own_lowok l1 lo vi))), .unset] [(.ref a1), (.double rv)])) _
        refine st24 _ ?_
        show Steps p.tables e below (T24.setTop (mkF m 51 #[.val (.ref a1), .val (.double rv), .second, .val (.int (own_b (own_lowok l1 lo vi))), .unset] [(.double r2), (.double rv)])) _
        refine XS.dcmpS X24.here hx rfl (v := (own_c vi hi)) (hb hby d_prog_16_method_8_code_51) rfl (own_cmpv hv hhi .g) ?_
        show Steps p.tables e below (T24.setTop (mkF m 52 #[.val (.ref a1), .val (.double rv), .second, .val (.int (own_b (own_lowok l1 lo vi))), .unset] [(.int (own_c vi hi))])) _
        refine XS.ifYes X24.here hx rfl (pc0 := 52) (pc' := 59) rfl (hb hby d_prog_16_method_8_code_52) rfl ((if0 _ _).trans (tlt (own_c_gt (Int.not_le.mp h2))).2.2.1) (by decide) (by decide) ?_
        show Steps p.tables e below (T24.setTop (mkF m 59 #[.val (.ref a1), .val (.double rv), .second, .val (.int (own_b (own_lowok l1 lo vi))), .unset] [])) _
        refine XS.iconst X24.here hx rfl (hb hby d_prog_16_method_8_code_59) ?_
        show Steps p.tables e below (T24.setTop (mkF m 60 #[.val (.ref a1), .val (.double rv), .second, .val (.int (own_b (own_lowok l1 lo vi))), .unset] [(.int (0 : Int32))])) _
        refine XS.goto X24.here hx rfl (pc0 := 60) (pc' := 77) rfl (hb hby d_prog_16_method_8_code_60) (by decide) (by decide) ?_
        show Steps p.tables e below (T24.setTop (mkF m 77 #[.val (.ref a1), .val (.double rv), .second, .val (.int (own_b (own_lowok l1 lo vi))), .unset] [(.int (0 : Int32))])) _
        refine XS.istore X24.here hx rfl (hb hby d_prog_16_method_8_code_77) rfl (l' := #[.val (.ref a1), .val (.double rv), .second, .val (.int (own_b (own_lowok l1 lo vi))), .val (.int (0 : Int32))]) rfl ?_
        show Steps p.tables e below (T24.setTop (mkF m 79 #[.val (.ref a1), .val (.double rv), .second, .val (.int (own_b (own_lowok l1 lo vi))), .val (.int (0 : Int32))] [])) _
        rw [(own_b0 (own_hi4 h1 h2))] at kt
        exact kt
  obtain ⟨fs, hr, hrun, hended, hW, hsame⟩ := Xb.leave (v := some (.int (nar .boolean (own_in l1 lo l2 hi vi)))) (fun h => by rw [Bd.returns] at h; cases h)
  have k93 : Steps p.tables e below (Tb.setTop (mkF m 93 #[.val (.ref a1), .val (.double rv), .second, .val (.int (own_b (own_lowok l1 lo vi))), .val (.int (own_b (own_highok l2 hi vi)))] [(.int (own_in l1 lo l2 hi vi))])) (Tb.setFrames fs) := by
    show Steps p.tables e below (Tb.setTop (mkF m 93 #[.val (.ref a1), .val (.double rv), .second, .val (.int (own_b (own_lowok l1 lo vi))), .val (.int (own_b (own_highok l2 hi vi)))] [(.int (own_in l1 lo l2 hi vi))])) _
    exact retN Xb hx (t := .boolean) Bd.returns (by simp) (hb hby d_prog_16_method_8_code_93) hr
  refine ⟨_, _, pre0 _ (sta _ (stb _ ?_)), hrun, hended, _, _, rfl, ?_, ⟨_, rfl⟩, hW, hsame.mono (by decide) (by decide)⟩
  · by_cases h1 : own_lowok l1 lo vi
    · by_cases h2 : own_highok l2 hi vi
      · show Steps p.tables e below (Tb.setTop (mkF m 79 #[.val (.ref a1), .val (.double rv), .second, .val (.int (own_b (own_lowok l1 lo vi))), .val (.int (own_b (own_highok l2 hi vi)))] [])) _
        refine XS.iloadN Xb.here hx rfl (hb hby d_prog_16_method_8_code_79) rfl ?_
        show Steps p.tables e below (Tb.setTop (mkF m 80 #[.val (.ref a1), .val (.double rv), .second, .val (.int (own_b (own_lowok l1 lo vi))), .val (.int (own_b (own_highok l2 hi vi)))] [(.int (own_b (own_lowok l1 lo vi)))])) _
        refine XS.ifNo Xb.here hx rfl (hb hby d_prog_16_method_8_code_80) rfl ((if0 _ _).trans (feq (show ¬ ((own_b (own_lowok l1 lo vi)) = (0 : Int32)) by rw [own_b1 h1]; decide)).1) ?_
        show Steps p.tables e below (Tb.setTop (mkF m 83 #[.val (.ref a1), .val (.double rv), .second, .val (.int (own_b (own_lowok l1 lo vi))), .val (.int (own_b (own_highok l2 hi vi)))] [])) _
        refine XS.iload Xb.here hx rfl (hb hby d_prog_16_method_8_code_83) rfl ?_
        show Steps p.tables e below (Tb.setTop (mkF m 85 #[.val (.ref a1), .val (.double rv), .second, .val (.int (own_b (own_lowok l1 lo vi))), .val (.int (own_b (own_highok l2 hi vi)))] [(.int (own_b (own_highok l2 hi vi)))])) _
        refine XS.ifNo Xb.here hx rfl (hb hby d_prog_16_method_8_code_85) rfl ((if0 _ _).trans (feq (show ¬ ((own_b (own_highok l2 hi vi)) = (0 : Int32)) by rw [own_b1 h2]; decide)).1) ?_
        show Steps p.tables e below (Tb.setTop (mkF m 88 #[.val (.ref a1), .val (.double rv), .second, .val (.int (own_b (own_lowok l1 lo vi))), .val (.int (own_b (own_highok l2 hi vi)))] [])) _
        refine XS.iconst Xb.here hx rfl (hb hby d_prog_16_method_8_code_88) ?_
        show Steps p.tables e below (Tb.setTop (mkF m 89 #[.val (.ref a1), .val (.double rv), .second, .val (.int (own_b (own_lowok l1 lo vi))), .val (.int (own_b (own_highok l2 hi vi)))] [(.int (1 : Int32))])) _
        refine XS.goto Xb.here hx rfl (pc0 := 89) (pc' := 93) rfl (hb hby d_prog_16_method_8_code_89) (by decide) (by decide) ?_
        show Steps p.tables e below (Tb.setTop (mkF m 93 #[.val (.ref a1), .val (.double rv), .second, .val (.int (own_b (own_lowok l1 lo vi))), .val (.int (own_b (own_highok l2 hi vi)))] [(.int (1 : Int32))])) _
        rw [(show (own_in l1 lo l2 hi vi) = (1 : Int32) from own_b1 ⟨h1, h2⟩)] at k93
        exact k93
      · show Steps p.tables e below (Tb.setTop (mkF m 79 #[.val (.ref a1), .val (.double rv), .second, .val (.int (own_b (own_lowok l1 lo vi))), .val (.int (own_b (own_highok l2 hi vi)))] [])) _
        refine XS.iloadN Xb.here hx rfl (hb hby d_prog_16_method_8_code_79) rfl ?_
        show Steps p.tables e below (Tb.setTop (mkF m 80 #[.val (.ref a1), .val (.double rv), .second, .val (.int (own_b (own_lowok l1 lo vi))), .val (.int (own_b (own_highok l2 hi vi)))] [(.int (own_b (own_lowok l1 lo vi)))])) _
        refine XS.ifNo Xb.here hx rfl (hb hby d_prog_16_method_8_code_80) rfl ((if0 _ _).trans (feq (show ¬ ((own_b (own_lowok l1 lo vi)) = (0 : Int32)) by rw [own_b1 h1]; decide)).1) ?_
        show Steps p.tables e below (Tb.setTop (mkF m 83 #[.val (.ref a1), .val (.double rv), .second, .val (.int (own_b (own_lowok l1 lo vi))), .val (.int (own_b (own_highok l2 hi vi)))] [])) _
        refine XS.iload Xb.here hx rfl (hb hby d_prog_16_method_8_code_83) rfl ?_
        show Steps p.tables e below (Tb.setTop (mkF m 85 #[.val (.ref a1), .val (.double rv), .second, .val (.int (own_b (own_lowok l1 lo vi))), .val (.int (own_b (own_highok l2 hi vi)))] [(.int (own_b (own_highok l2 hi vi)))])) _
        refine XS.ifYes Xb.here hx rfl (pc0 := 85) (pc' := 92) rfl (hb hby d_prog_16_method_8_code_85) rfl ((if0 _ _).trans (teq (own_b0 h2)).1) (by decide) (by decide) ?_
        show Steps p.tables e below (Tb.setTop (mkF m 92 #[.val (.ref a1), .val (.double rv), .second, .val (.int (own_b (own_lowok l1 lo vi))), .val (.int (own_b (own_highok l2 hi vi)))] [])) _
        refine XS.iconst Xb.here hx rfl (hb hby d_prog_16_method_8_code_92) ?_
        show Steps p.tables e below (Tb.setTop (mkF m 93 #[.val (.ref a1), .val (.double rv), .second, .val (.int (own_b (own_lowok l1 lo vi))), .val (.int (own_b (own_highok l2 hi vi)))] [(.int (0 : Int32))])) _
        rw [(show (own_in l1 lo l2 hi vi) = (0 : Int32) from own_b0 (fun q => h2 q.2))] at k93
        exact k93
    · show Steps p.tables e below (Tb.setTop (mkF m 79 #[.val (.ref a1), .val (.double rv), .second, .val (.int (own_b (own_lowok l1 lo vi))), .val (.int (own_b (own_highok l2 hi vi)))] [])) _
      refine XS.iloadN Xb.here hx rfl (hb hby d_prog_16_method_8_code_79) rfl ?_
      show Steps p.tables e below (Tb.setTop (mkF m 80 #[.val (.ref a1), .val (.double rv), .second, .val (.int (own_b (own_lowok l1 lo vi))), .val (.int (own_b (own_highok l2 hi vi)))] [(.int (own_b (own_lowok l1 lo vi)))])) _
      refine XS.ifYes Xb.here hx rfl (pc0 := 80) (pc' := 92) rfl (hb hby d_prog_16_method_8_code_80) rfl ((if0 _ _).trans (teq (own_b0 h1)).1) (by decide) (by decide) ?_
      show Steps p.tables e below (Tb.setTop (mkF m 92 #[.val (.ref a1), .val (.double rv), .second, .val (.int (own_b (own_lowok l1 lo vi))), .val (.int (own_b (own_highok l2 hi vi)))] [])) _
      refine XS.iconst Xb.here hx rfl (hb hby d_prog_16_method_8_code_92) ?_
      show Steps p.tables e below (Tb.setTop (mkF m 93 #[.val (.ref a1), .val (.double rv), .second, .val (.int (own_b (own_lowok l1 lo vi))), .val (.int (own_b (own_highok l2 hi vi)))] [(.int (0 : Int32))])) _
      rw [(show (own_in l1 lo l2 hi vi) = (0 : Int32) from own_b0 (fun q => h1 q.1))] at k93
      exact k93
  · show Q3 Z a1 r1 l1 r2 l2 rv lo hi vi h0 n0 _ Tb.heap _
    rw [eb]
    exact ⟨congrArg (fun z => some (Value.int z)) (own_b_nar _), N0, rfl⟩
theorem ef_0 (m : MethodId) (x0 : Int32) (x1 : Int32) (x2 : Int32) (x3 : Int32) : entryFrame m #[(.int x0), (.int x1), (.int x2), (.int x3)] maxLocals = mkF m 0 #[.val (.int x0), .val (.int x1), .val (.int x2), .val (.int x3), .unset, .unset, .unset, .unset, .unset, .unset, .unset, .unset, .unset, .unset, .unset, .unset, .unset, .unset, .unset, .unset, .unset] [] := by first | (simp [entryFrame, mkF, argsToLocals, Value.category, maxLocals]; done) | rfl
theorem pn_0 : plainName "com/example/fanworm/fanworm/engine/IntervalContainsPinLaw" = true := by first | (simp [plainName, overriddenIn]; done) | decide +kernel
def Q0 (Z : State) (p0 : Int32) (p1 : Int32) (p2 : Int32) (p3 : Int32) (h0 : Heap) (n0 : Nat) (v : Option Value) (h : Heap) (L : List Loc) : Prop := v = some (.int 1) ∧ Fr n0 L
set_option maxRecDepth 65536 in
set_option maxHeartbeats 40000000 in
theorem rm0 (l : Launch) (Z : State) (a0 : Array Value) (hw : ∀ d ∈ tables_1, d.before a0 Z = true) (ws : List Jvm.Cond) (p0 : Int32) (p1 : Int32) (p2 : Int32) (p3 : Int32) (h0 : Heap) (n0 : Nat) (Z0 : n0 ≤ h0.size) :
    MetFree l x (head1 (Jvm.Cond.code x code maxLocals ret :: ws) room_1) (fun a U => a = #[(.int p0), (.int p1), (.int p2), (.int p3)] ∧ Z.Warmed39 U.vm ∧ U.heap = h0) (fun _ _ _ _ _ => True) (fun _ U o U' => ∃ v L, o = .returned v ∧ Q0 Z p0 p1 p2 p3 h0 n0 v U'.heap L ∧ FrameEnd U o U' L room_1.cells room_1.slots) := by
  refine MetFree.of_bodySF (plainFor_of_name pn_0) hisR ?_
  intro p e s m args below meth c s₁ Bd hml0 hP hK
  obtain ⟨rfl, hZ, hh⟩ := hP
  have hx := Bd.exec
  have hby := Bd.bytes
  have hml : c.maxLocals = 21 := hml0
  have hown : s.vm.findClass "com/example/fanworm/fanworm/engine/IntervalContainsPinLaw" = some m.cls := findClass_of_methodNamed Bd.named
  have hnm := (name_of_methodNamed Bd.named Bd.method).1
  have X0 : Stand p l e room_1 s m #[(.int p0), (.int p1), (.int p2), (.int p3)] below meth c s₁ [] 0 0 := Stand.of_body Bd
  have e0 : s₁.heap = h0 := by rw [← hh, Bd.state]; rfl
  have N0 := Fr.nil n0
  have pre0 : ∀ t, Steps p.tables e below (s₁.setTop (mkF m 0 #[.val (.int p0), .val (.int p1), .val (.int p2), .val (.int p3), .unset, .unset, .unset, .unset, .unset, .unset, .unset, .unset, .unset, .unset, .unset, .unset, .unset, .unset, .unset, .unset, .unset] [])) t → Steps p.tables e below (s₁.setTop (entryFrame m #[(.int p0), (.int p1), (.int p2), (.int p3)] maxLocals)) t := fun t k => castTop (ef_0 m p0 p1 p2 p3) k
  have dlo := own_toD_int (own_bit p3 (16 : Int32)) (own_i_small p0)
  have dhi := own_toD_int (own_bit p3 (32 : Int32)) (own_i_small p1)
  have dv := own_toD_int (own_bit p3 (64 : Int32)) (own_v_small p0 p1 p2 (own_md p3))
  obtain ⟨T25, h25, X25, e25, E25, A25, D25, -, st25⟩ := newO X0 hx hZ hown (hw _ (List.mem_of_getElem? (i := 0) rfl)) (hw _ (List.mem_of_getElem? (i := 1) rfl)) (hw _ (List.mem_of_getElem? (i := 2) rfl)) e0 (g := (mkF m 138 #[.val (.int p0), .val (.int p1), .val (.int p2), .val (.int p3), .val (.int (own_bit p3 (1 : Int32))), .val (.int (own_bit p3 (2 : Int32))), .val (.int (own_md p3)), .val (.int (own_bit p3 (16 : Int32))), .val (.int (own_bit p3 (32 : Int32))), .val (.int (own_bit p3 (64 : Int32))), .val (.long p0.toInt64), .second, .val (.long p1.toInt64), .second, .val (.long (p2 % (3 : Int32)).toInt64), .second, .val (.long (own_v p0 p1 p2 (own_md p3))), .second, .unset, .unset, .unset] [])) rfl (hb hby at_138) (by decide) (by decide)
  obtain ⟨b1, g25⟩ : ∃ z, z = h0.size := ⟨_, rfl⟩
  rw [← g25] at A25 D25 st25
  have F_low : Fld Z h25 b1 "com/example/fanworm/fanworm/engine/Interval" "low" "D" (.double (0 : UInt64)) := D25 (Or.inr (hw _ (List.mem_of_getElem? (i := 23) rfl))) (ty := .double) (by decide)
  have F_lowIncluded : Fld Z h25 b1 "com/example/fanworm/fanworm/engine/Interval" "lowIncluded" "Z" (.int (0 : Int32)) := D25 (Or.inr (hw _ (List.mem_of_getElem? (i := 25) rfl))) (ty := .boolean) (by decide)
  have F_high : Fld Z h25 b1 "com/example/fanworm/fanworm/engine/Interval" "high" "D" (.double (0 : UInt64)) := D25 (Or.inr (hw _ (List.mem_of_getElem? (i := 27) rfl))) (ty := .double) (by decide)
  have F_highIncluded : Fld Z h25 b1 "com/example/fanworm/fanworm/engine/Interval" "highIncluded" "Z" (.int (0 : Int32)) := D25 (Or.inr (hw _ (List.mem_of_getElem? (i := 29) rfl))) (ty := .boolean) (by decide)
  have gb : n0 ≤ b1 := Nat.le_trans Z0 (Nat.le_of_eq g25.symm)
  have Zn : n0 ≤ h25.size := Nat.le_trans Z0 E25.1
  obtain ⟨_, _, ⟨T26, L26, k26, n26⟩, -, X26, ⟨Lc26, hQ26, l26, y26, z26⟩, st26⟩ := Jvm.LawKit.callS X25 hx (y := (⟨"com/example/fanworm/fanworm/engine/IntervalContainsPinLaw", "toD", "(JZ)D"⟩ : MethodName)) hown (mvT hZ (hw _ (List.mem_of_getElem? (i := 3) rfl))) (mvT hZ (hw _ (List.mem_of_getElem? (i := 4) rfl))) (mvT hZ (hw _ (List.mem_of_getElem? (i := 5) rfl))) (mvT hZ (hw _ (List.mem_of_getElem? (i := 6) rfl))) (by decide) (backOf (W := 2) (rm1 l Z a0 hw [] p0.toInt64 (own_bit p3 (16 : Int32)) h25 n0 Zn) hZ (hw _ (List.mem_of_getElem? (i := 6) rfl)) (hw _ (List.mem_of_getElem? (i := 5) rfl)) (by decide) (by decide)) (g := (mkF m 146 #[.val (.int p0), .val (.int p1), .val (.int p2), .val (.int p3), .val (.int (own_bit p3 (1 : Int32))), .val (.int (own_bit p3 (2 : Int32))), .val (.int (own_md p3)), .val (.int (own_bit p3 (16 : Int32))), .val (.int (own_bit p3 (32 : Int32))), .val (.int (own_bit p3 (64 : Int32))), .val (.long p0.toInt64), .second, .val (.long p1.toInt64), .second, .val (.long (p2 % (3 : Int32)).toInt64), .second, .val (.long (own_v p0 p1 p2 (own_md p3))), .second, .unset, .unset, .unset] [(.int (own_bit p3 (16 : Int32))), (.long p0.toInt64), (.ref b1), (.ref b1)])) rfl (by rw [hml]; rfl) (argsL := [(.long p0.toInt64), (.int (own_bit p3 (16 : Int32)))]) (rest := [(.ref b1), (.ref b1)]) (lenOf pd_2 rfl) rfl (by show 2 * 0 + _ ≤ _; exact Nat.le_of_eq rfl) (hb hby at_146) (fun _ _ => ⟨rfl, e25, (by decide : 1 + 0 ≤ _), (by decide : 4 + 0 ≤ _)⟩)
  dsimp only [Pt.U, Pt.locs, Pt.cells, Pt.slots] at X26 l26 y26 z26 st26 hQ26
  subst l26 y26 z26
  obtain ⟨rfl, N26q, eha⟩ := hQ26
  have N26 := Fr.app N0 N26q
  have Za : n0 ≤ T26.heap.size := by rw [eha]; exact Zn
  obtain ⟨_, _, ⟨T27, L27, k27, n27⟩, -, X27, ⟨Lc27, hQ27, l27, y27, z27⟩, st27⟩ := Jvm.LawKit.callS X26 hx (y := (⟨"com/example/fanworm/fanworm/engine/IntervalContainsPinLaw", "toD", "(JZ)D"⟩ : MethodName)) hown (mvT hZ (hw _ (List.mem_of_getElem? (i := 3) rfl))) (mvT hZ (hw _ (List.mem_of_getElem? (i := 4) rfl))) (mvT hZ (hw _ (List.mem_of_getElem? (i := 5) rfl))) (mvT hZ (hw _ (List.mem_of_getElem? (i := 6) rfl))) (by decide) (backOf (W := 5) (rm1 l Z a0 hw [] p1.toInt64 (own_bit p3 (32 : Int32)) T26.heap n0 Za) hZ (hw _ (List.mem_of_getElem? (i := 6) rfl)) (hw _ (List.mem_of_getElem? (i := 5) rfl)) (by decide) (by decide)) (g := (mkF m 155 #[.val (.int p0), .val (.int p1), .val (.int p2), .val (.int p3), .val (.int (own_bit p3 (1 : Int32))), .val (.int (own_bit p3 (2 : Int32))), .val (.int (own_md p3)), .val (.int (own_bit p3 (16 : Int32))), .val (.int (own_bit p3 (32 : Int32))), .val (.int (own_bit p3 (64 : Int32))), .val (.long p0.toInt64), .second, .val (.long p1.toInt64), .second, .val (.long (p2 % (3 : Int32)).toInt64), .second, .val (.long (own_v p0 p1 p2 (own_md p3))), .second, .unset, .unset, .unset] [(.int (own_bit p3 (32 : Int32))), (.long p1.toInt64), (.int (own_bit p3 (1 : Int32))), (.double (own_toD p0.toInt64 (own_bit p3 (16 : Int32)))), (.ref b1), (.ref b1)])) rfl (by rw [hml]; rfl) (argsL := [(.long p1.toInt64), (.int (own_bit p3 (32 : Int32)))]) (rest := [(.int (own_bit p3 (1 : Int32))), (.double (own_toD p0.toInt64 (own_bit p3 (16 : Int32)))), (.ref b1), (.ref b1)]) (lenOf pd_2 rfl) rfl (by show 2 * 0 + _ ≤ _; exact Nat.le_of_eq rfl) (hb hby at_155) (fun _ _ => ⟨rfl, rfl, (by decide : 1 + 0 ≤ _), (by decide : 4 + 0 ≤ _)⟩)
  dsimp only [Pt.U, Pt.locs, Pt.cells, Pt.slots] at X27 l27 y27 z27 st27 hQ27
  subst l27 y27 z27
  obtain ⟨rfl, N27q, ehb⟩ := hQ27
  have N27 := Fr.app N26 N27q
  have Zb : n0 ≤ T27.heap.size := by rw [ehb]; exact Za
  have F'_low : Fld Z T27.heap b1 "com/example/fanworm/fanworm/engine/Interval" "low" "D" (.double (0 : UInt64)) := by rw [ehb, eha]; exact F_low
  have F'_lowIncluded : Fld Z T27.heap b1 "com/example/fanworm/fanworm/engine/Interval" "lowIncluded" "Z" (.int (0 : Int32)) := by rw [ehb, eha]; exact F_lowIncluded
  have F'_high : Fld Z T27.heap b1 "com/example/fanworm/fanworm/engine/Interval" "high" "D" (.double (0 : UInt64)) := by rw [ehb, eha]; exact F_high
  have F'_highIncluded : Fld Z T27.heap b1 "com/example/fanworm/fanworm/engine/Interval" "highIncluded" "Z" (.int (0 : Int32)) := by rw [ehb, eha]; exact F_highIncluded
  have E'_b : Exa Z T27.heap b1 "com/example/fanworm/fanworm/engine/Interval" := by rw [ehb, eha]; exact A25
  obtain ⟨_, _, ⟨T28, L28, k28, n28⟩, -, X28, ⟨Lc28, hQ28, l28, y28, z28⟩, st28⟩ := X27.specialBack hx (y := (⟨"com/example/fanworm/fanworm/engine/Interval", "<init>", "(DZDZ)V"⟩ : MethodName)) rfl hown (mvT hZ (hw _ (List.mem_of_getElem? (i := 7) rfl))) (mvT hZ (hw _ (List.mem_of_getElem? (i := 8) rfl))) (mvT hZ (hw _ (List.mem_of_getElem? (i := 9) rfl))) (by decide) (backOf (W := 1) (rm2 l Z a0 hw [] b1 (own_toD p0.toInt64 (own_bit p3 (16 : Int32))) (own_bit p3 (1 : Int32)) (own_toD p1.toInt64 (own_bit p3 (32 : Int32))) (own_bit p3 (2 : Int32)) T27.heap n0 Zb F'_low F'_lowIncluded F'_high F'_highIncluded E'_b gb (own_nn dlo) (own_nn dhi)) hZ (hw _ (List.mem_of_getElem? (i := 9) rfl)) (hw _ (List.mem_of_getElem? (i := 2) rfl)) (by decide) (by decide)) (g := (mkF m 160 #[.val (.int p0), .val (.int p1), .val (.int p2), .val (.int p3), .val (.int (own_bit p3 (1 : Int32))), .val (.int (own_bit p3 (2 : Int32))), .val (.int (own_md p3)), .val (.int (own_bit p3 (16 : Int32))), .val (.int (own_bit p3 (32 : Int32))), .val (.int (own_bit p3 (64 : Int32))), .val (.long p0.toInt64), .second, .val (.long p1.toInt64), .second, .val (.long (p2 % (3 : Int32)).toInt64), .second, .val (.long (own_v p0 p1 p2 (own_md p3))), .second, .unset, .unset, .unset] [(.int (own_bit p3 (2 : Int32))), (.double (own_toD p1.toInt64 (own_bit p3 (32 : Int32)))), (.int (own_bit p3 (1 : Int32))), (.double (own_toD p0.toInt64 (own_bit p3 (16 : Int32)))), (.ref b1), (.ref b1)])) rfl (by rw [hml]; rfl) (Steps.refl _) (a := b1) (argsL := [(.double (own_toD p0.toInt64 (own_bit p3 (16 : Int32)))), (.int (own_bit p3 (1 : Int32))), (.double (own_toD p1.toInt64 (own_bit p3 (32 : Int32)))), (.int (own_bit p3 (2 : Int32)))]) (rest := [(.ref b1)]) (lenOf pd_3 rfl) rfl (by show 2 * 0 + _ ≤ _; exact Nat.le_of_eq rfl) (hb hby at_160) (fun _ _ => ⟨rfl, rfl, (by decide : 1 + 0 ≤ _), (by decide : 4 + 0 ≤ _)⟩)
  dsimp only [Pt.U, Pt.locs, Pt.cells, Pt.slots] at X28 l28 y28 z28 st28 hQ28
  subst l28 y28 z28
  obtain ⟨rfl, N28q, Kb, Eb, G_low, G_lowIncluded, G_high, G_highIncluded⟩ := hQ28
  have N28 := Fr.app N27 N28q
  rw [own_bit_nar] at G_lowIncluded G_highIncluded
  have Zc : n0 ≤ T28.heap.size := Nat.le_trans Zb Kb.1
  obtain ⟨_, _, ⟨T29, L29, k29, n29⟩, -, X29, ⟨Lc29, hQ29, l29, y29, z29⟩, st29⟩ := Jvm.LawKit.callS X28 hx (y := (⟨"com/example/fanworm/fanworm/engine/IntervalContainsPinLaw", "toD", "(JZ)D"⟩ : MethodName)) hown (mvT hZ (hw _ (List.mem_of_getElem? (i := 3) rfl))) (mvT hZ (hw _ (List.mem_of_getElem? (i := 4) rfl))) (mvT hZ (hw _ (List.mem_of_getElem? (i := 5) rfl))) (mvT hZ (hw _ (List.mem_of_getElem? (i := 6) rfl))) (by decide) (backOf (W := 1) (rm1 l Z a0 hw [] (own_v p0 p1 p2 (own_md p3)) (own_bit p3 (64 : Int32)) T28.heap n0 Zc) hZ (hw _ (List.mem_of_getElem? (i := 6) rfl)) (hw _ (List.mem_of_getElem? (i := 5) rfl)) (by decide) (by decide)) (g := (mkF m 171 #[.val (.int p0), .val (.int p1), .val (.int p2), .val (.int p3), .val (.int (own_bit p3 (1 : Int32))), .val (.int (own_bit p3 (2 : Int32))), .val (.int (own_md p3)), .val (.int (own_bit p3 (16 : Int32))), .val (.int (own_bit p3 (32 : Int32))), .val (.int (own_bit p3 (64 : Int32))), .val (.long p0.toInt64), .second, .val (.long p1.toInt64), .second, .val (.long (p2 % (3 : Int32)).toInt64), .second, .val (.long (own_v p0 p1 p2 (own_md p3))), .second, .val (.ref b1), .unset, .unset] [(.int (own_bit p3 (64 : Int32))), (.long (own_v p0 p1 p2 (own_md p3))), (.ref b1)])) rfl (by rw [hml]; rfl) (argsL := [(.long (own_v p0 p1 p2 (own_md p3))), (.int (own_bit p3 (64 : Int32)))]) (rest := [(.ref b1)]) (lenOf pd_2 rfl) rfl (by show 2 * 0 + _ ≤ _; exact Nat.le_of_eq rfl) (hb hby at_171) (fun _ _ => ⟨rfl, rfl, (by decide : 1 + 0 ≤ _), (by decide : 4 + 0 ≤ _)⟩)
  dsimp only [Pt.U, Pt.locs, Pt.cells, Pt.slots] at X29 l29 y29 z29 st29 hQ29
  subst l29 y29 z29
  obtain ⟨rfl, N29q, ehc⟩ := hQ29
  have N29 := Fr.app N28 N29q
  have Zd : n0 ≤ T29.heap.size := by rw [ehc]; exact Zc
  have H_low : Fld Z T29.heap b1 "com/example/fanworm/fanworm/engine/Interval" "low" "D" (.double (own_toD p0.toInt64 (own_bit p3 (16 : Int32)))) := by rw [ehc]; exact G_low
  have H_lowIncluded : Fld Z T29.heap b1 "com/example/fanworm/fanworm/engine/Interval" "lowIncluded" "Z" (.int (own_bit p3 (1 : Int32))) := by rw [ehc]; exact G_lowIncluded
  have H_high : Fld Z T29.heap b1 "com/example/fanworm/fanworm/engine/Interval" "high" "D" (.double (own_toD p1.toInt64 (own_bit p3 (32 : Int32)))) := by rw [ehc]; exact G_high
  have H_highIncluded : Fld Z T29.heap b1 "com/example/fanworm/fanworm/engine/Interval" "highIncluded" "Z" (.int (own_bit p3 (2 : Int32))) := by rw [ehc]; exact G_highIncluded
  have Ec : Exa Z T29.heap b1 "com/example/fanworm/fanworm/engine/Interval" := by rw [ehc]; exact Eb
  obtain ⟨cq30, kq30, q30a, q30b, q30c⟩ := isOf hZ rfl Ec
  obtain ⟨_, _, ⟨T30, L30, k30, n30⟩, -, X30, ⟨Lc30, hQ30, l30, y30, z30⟩, st30⟩ := X29.virtualBack hx (y := (⟨"com/example/fanworm/fanworm/engine/Interval", "contains", "(D)Z"⟩ : MethodName)) (z := (⟨"com/example/fanworm/fanworm/engine/Interval", "contains", "(D)Z"⟩ : MethodName)) hown (mvT hZ (hw _ (List.mem_of_getElem? (i := 30) rfl))) (mvT hZ (hw _ (List.mem_of_getElem? (i := 31) rfl))) (notFace_of_selects (args := #[]) (mvT hZ (hw _ (List.mem_of_getElem? (i := 33) rfl)))) (mvT hZ (hw _ (List.mem_of_getElem? (i := 33) rfl))) (mvT hZ (hw _ (List.mem_of_getElem? (i := 32) rfl))) (by decide) (backOf (W := 0) (rm3 l Z a0 hw [] b1 (own_toD p0.toInt64 (own_bit p3 (16 : Int32))) (own_bit p3 (1 : Int32)) (own_toD p1.toInt64 (own_bit p3 (32 : Int32))) (own_bit p3 (2 : Int32)) (own_toD (own_v p0 p1 p2 (own_md p3)) (own_bit p3 (64 : Int32))) p0.toInt64.toInt p1.toInt64.toInt (own_v p0 p1 p2 (own_md p3)).toInt T29.heap n0 Zd H_low H_lowIncluded H_high H_highIncluded dlo dhi dv) hZ (hw _ (List.mem_of_getElem? (i := 34) rfl)) (hw _ (List.mem_of_getElem? (i := 2) rfl)) (by decide) (by decide)) q30a q30c (g := (mkF m 174 #[.val (.int p0), .val (.int p1), .val (.int p2), .val (.int p3), .val (.int (own_bit p3 (1 : Int32))), .val (.int (own_bit p3 (2 : Int32))), .val (.int (own_md p3)), .val (.int (own_bit p3 (16 : Int32))), .val (.int (own_bit p3 (32 : Int32))), .val (.int (own_bit p3 (64 : Int32))), .val (.long p0.toInt64), .second, .val (.long p1.toInt64), .second, .val (.long (p2 % (3 : Int32)).toInt64), .second, .val (.long (own_v p0 p1 p2 (own_md p3))), .second, .val (.ref b1), .unset, .unset] [(.double (own_toD (own_v p0 p1 p2 (own_md p3)) (own_bit p3 (64 : Int32)))), (.ref b1)])) rfl (by rw [hml]; rfl) (Steps.refl _) (argsL := [(.double (own_toD (own_v p0 p1 p2 (own_md p3)) (own_bit p3 (64 : Int32))))]) (rest := []) (lenOf pd_1 rfl) rfl (by show 2 * 0 + _ ≤ _; exact Nat.le_of_eq rfl) (hb hby at_174) (fun _ _ => ⟨rfl, rfl, (by decide : 1 + 0 ≤ _), (by decide : 4 + 0 ≤ _)⟩)
  dsimp only [Pt.U, Pt.locs, Pt.cells, Pt.slots] at X30 l30 y30 z30 st30 hQ30
  subst l30 y30 z30
  obtain ⟨rfl, N30q, ehd⟩ := hQ30
  have N30 := Fr.app N29 N30q
  obtain ⟨fs, hr, hrun, hended, hW, hsame⟩ := X30.leave (v := some (.int (1 : Int32))) (fun h => by rw [Bd.returns] at h; cases h)
  have k226 : Steps p.tables e below (T30.setTop (mkF m 226 #[.val (.int p0), .val (.int p1), .val (.int p2), .val (.int p3), .val (.int (own_bit p3 (1 : Int32))), .val (.int (own_bit p3 (2 : Int32))), .val (.int (own_md p3)), .val (.int (own_bit p3 (16 : Int32))), .val (.int (own_bit p3 (32 : Int32))), .val (.int (own_bit p3 (64 : Int32))), .val (.long p0.toInt64), .second, .val (.long p1.toInt64), .second, .val (.long (p2 % (3 : Int32)).toInt64), .second, .val (.long (own_v p0 p1 p2 (own_md p3))), .second, .val (.ref b1), .val (.int (own_in (own_bit p3 (1 : Int32)) p0.toInt64.toInt (own_bit p3 (2 : Int32)) p1.toInt64.toInt (own_v p0 p1 p2 (own_md p3)).toInt)), .unset] [(.int (own_in (own_bit p3 (1 : Int32)) p0.toInt64.toInt (own_bit p3 (2 : Int32)) p1.toInt64.toInt (own_v p0 p1 p2 (own_md p3)).toInt))])) (T30.setFrames fs) := by
    show Steps p.tables e below (T30.setTop (mkF m 226 #[.val (.int p0), .val (.int p1), .val (.int p2), .val (.int p3), .val (.int (own_bit p3 (1 : Int32))), .val (.int (own_bit p3 (2 : Int32))), .val (.int (own_md p3)), .val (.int (own_bit p3 (16 : Int32))), .val (.int (own_bit p3 (32 : Int32))), .val (.int (own_bit p3 (64 : Int32))), .val (.long p0.toInt64), .second, .val (.long p1.toInt64), .second, .val (.long (p2 % (3 : Int32)).toInt64), .second, .val (.long (own_v p0 p1 p2 (own_md p3))), .second, .val (.ref b1), .val (.int (own_in (own_bit p3 (1 : Int32)) p0.toInt64.toInt (own_bit p3 (2 : Int32)) p1.toInt64.toInt (own_v p0 p1 p2 (own_md p3)).toInt)), .unset] [(.int (own_in (own_bit p3 (1 : Int32)) p0.toInt64.toInt (own_bit p3 (2 : Int32)) p1.toInt64.toInt (own_v p0 p1 p2 (own_md p3)).toInt))])) _
    refine XS.istore X30.here hx rfl (hb hby at_226) rfl (l' := #[.val (.int p0), .val (.int p1), .val (.int p2), .val (.int p3), .val (.int (own_bit p3 (1 : Int32))), .val (.int (own_bit p3 (2 : Int32))), .val (.int (own_md p3)), .val (.int (own_bit p3 (16 : Int32))), .val (.int (own_bit p3 (32 : Int32))), .val (.int (own_bit p3 (64 : Int32))), .val (.long p0.toInt64), .second, .val (.long p1.toInt64), .second, .val (.long (p2 % (3 : Int32)).toInt64), .second, .val (.long (own_v p0 p1 p2 (own_md p3))), .second, .val (.ref b1), .val (.int (own_in (own_bit p3 (1 : Int32)) p0.toInt64.toInt (own_bit p3 (2 : Int32)) p1.toInt64.toInt (own_v p0 p1 p2 (own_md p3)).toInt)), .val (.int (own_in (own_bit p3 (1 : Int32)) p0.toInt64.toInt (own_bit p3 (2 : Int32)) p1.toInt64.toInt (own_v p0 p1 p2 (own_md p3)).toInt))]) rfl ?_
    show Steps p.tables e below (T30.setTop (mkF m 228 #[.val (.int p0), .val (.int p1), .val (.int p2), .val (.int p3), .val (.int (own_bit p3 (1 : Int32))), .val (.int (own_bit p3 (2 : Int32))), .val (.int (own_md p3)), .val (.int (own_bit p3 (16 : Int32))), .val (.int (own_bit p3 (32 : Int32))), .val (.int (own_bit p3 (64 : Int32))), .val (.long p0.toInt64), .second, .val (.long p1.toInt64), .second, .val (.long (p2 % (3 : Int32)).toInt64), .second, .val (.long (own_v p0 p1 p2 (own_md p3))), .second, .val (.ref b1), .val (.int (own_in (own_bit p3 (1 : Int32)) p0.toInt64.toInt (own_bit p3 (2 : Int32)) p1.toInt64.toInt (own_v p0 p1 p2 (own_md p3)).toInt)), .val (.int (own_in (own_bit p3 (1 : Int32)) p0.toInt64.toInt (own_bit p3 (2 : Int32)) p1.toInt64.toInt (own_v p0 p1 p2 (own_md p3)).toInt))] [])) _
    refine XS.iload X30.here hx rfl (hb hby at_228) rfl ?_
    show Steps p.tables e below (T30.setTop (mkF m 230 #[.val (.int p0), .val (.int p1), .val (.int p2), .val (.int p3), .val (.int (own_bit p3 (1 : Int32))), .val (.int (own_bit p3 (2 : Int32))), .val (.int (own_md p3)), .val (.int (own_bit p3 (16 : Int32))), .val (.int (own_bit p3 (32 : Int32))), .val (.int (own_bit p3 (64 : Int32))), .val (.long p0.toInt64), .second, .val (.long p1.toInt64), .second, .val (.long (p2 % (3 : Int32)).toInt64), .second, .val (.long (own_v p0 p1 p2 (own_md p3))), .second, .val (.ref b1), .val (.int (own_in (own_bit p3 (1 : Int32)) p0.toInt64.toInt (own_bit p3 (2 : Int32)) p1.toInt64.toInt (own_v p0 p1 p2 (own_md p3)).toInt)), .val (.int (own_in (own_bit p3 (1 : Int32)) p0.toInt64.toInt (own_bit p3 (2 : Int32)) p1.toInt64.toInt (own_v p0 p1 p2 (own_md p3)).toInt))] [(.int (own_in (own_bit p3 (1 : Int32)) p0.toInt64.toInt (own_bit p3 (2 : Int32)) p1.toInt64.toInt (own_v p0 p1 p2 (own_md p3)).toInt))])) _
    refine XS.iload X30.here hx rfl (hb hby at_230) rfl ?_
    show Steps p.tables e below (T30.setTop (mkF m 232 #[.val (.int p0), .val (.int p1), .val (.int p2), .val (.int p3), .val (.int (own_bit p3 (1 : Int32))), .val (.int (own_bit p3 (2 : Int32))), .val (.int (own_md p3)), .val (.int (own_bit p3 (16 : Int32))), .val (.int (own_bit p3 (32 : Int32))), .val (.int (own_bit p3 (64 : Int32))), .val (.long p0.toInt64), .second, .val (.long p1.toInt64), .second, .val (.long (p2 % (3 : Int32)).toInt64), .second, .val (.long (own_v p0 p1 p2 (own_md p3))), .second, .val (.ref b1), .val (.int (own_in (own_bit p3 (1 : Int32)) p0.toInt64.toInt (own_bit p3 (2 : Int32)) p1.toInt64.toInt (own_v p0 p1 p2 (own_md p3)).toInt)), .val (.int (own_in (own_bit p3 (1 : Int32)) p0.toInt64.toInt (own_bit p3 (2 : Int32)) p1.toInt64.toInt (own_v p0 p1 p2 (own_md p3)).toInt))] [(.int (own_in (own_bit p3 (1 : Int32)) p0.toInt64.toInt (own_bit p3 (2 : Int32)) p1.toInt64.toInt (own_v p0 p1 p2 (own_md p3)).toInt)), (.int (own_in (own_bit p3 (1 : Int32)) p0.toInt64.toInt (own_bit p3 (2 : Int32)) p1.toInt64.toInt (own_v p0 p1 p2 (own_md p3)).toInt))])) _
    refine XS.icmpNo X30.here hx rfl (hb hby at_232) rfl (teq rfl).2 ?_
    show Steps p.tables e below (T30.setTop (mkF m 235 #[.val (.int p0), .val (.int p1), .val (.int p2), .val (.int p3), .val (.int (own_bit p3 (1 : Int32))), .val (.int (own_bit p3 (2 : Int32))), .val (.int (own_md p3)), .val (.int (own_bit p3 (16 : Int32))), .val (.int (own_bit p3 (32 : Int32))), .val (.int (own_bit p3 (64 : Int32))), .val (.long p0.toInt64), .second, .val (.long p1.toInt64), .second, .val (.long (p2 % (3 : Int32)).toInt64), .second, .val (.long (own_v p0 p1 p2 (own_md p3))), .second, .val (.ref b1), .val (.int (own_in (own_bit p3 (1 : Int32)) p0.toInt64.toInt (own_bit p3 (2 : Int32)) p1.toInt64.toInt (own_v p0 p1 p2 (own_md p3)).toInt)), .val (.int (own_in (own_bit p3 (1 : Int32)) p0.toInt64.toInt (own_bit p3 (2 : Int32)) p1.toInt64.toInt (own_v p0 p1 p2 (own_md p3)).toInt))] [])) _
    refine XS.iconst X30.here hx rfl (hb hby at_235) ?_
    show Steps p.tables e below (T30.setTop (mkF m 236 #[.val (.int p0), .val (.int p1), .val (.int p2), .val (.int p3), .val (.int (own_bit p3 (1 : Int32))), .val (.int (own_bit p3 (2 : Int32))), .val (.int (own_md p3)), .val (.int (own_bit p3 (16 : Int32))), .val (.int (own_bit p3 (32 : Int32))), .val (.int (own_bit p3 (64 : Int32))), .val (.long p0.toInt64), .second, .val (.long p1.toInt64), .second, .val (.long (p2 % (3 : Int32)).toInt64), .second, .val (.long (own_v p0 p1 p2 (own_md p3))), .second, .val (.ref b1), .val (.int (own_in (own_bit p3 (1 : Int32)) p0.toInt64.toInt (own_bit p3 (2 : Int32)) p1.toInt64.toInt (own_v p0 p1 p2 (own_md p3)).toInt)), .val (.int (own_in (own_bit p3 (1 : Int32)) p0.toInt64.toInt (own_bit p3 (2 : Int32)) p1.toInt64.toInt (own_v p0 p1 p2 (own_md p3)).toInt))] [(.int (1 : Int32))])) _
    refine XS.goto X30.here hx rfl (pc0 := 236) (pc' := 240) rfl (hb hby at_236) (by decide) (by decide) ?_
    show Steps p.tables e below (T30.setTop (mkF m 240 #[.val (.int p0), .val (.int p1), .val (.int p2), .val (.int p3), .val (.int (own_bit p3 (1 : Int32))), .val (.int (own_bit p3 (2 : Int32))), .val (.int (own_md p3)), .val (.int (own_bit p3 (16 : Int32))), .val (.int (own_bit p3 (32 : Int32))), .val (.int (own_bit p3 (64 : Int32))), .val (.long p0.toInt64), .second, .val (.long p1.toInt64), .second, .val (.long (p2 % (3 : Int32)).toInt64), .second, .val (.long (own_v p0 p1 p2 (own_md p3))), .second, .val (.ref b1), .val (.int (own_in (own_bit p3 (1 : Int32)) p0.toInt64.toInt (own_bit p3 (2 : Int32)) p1.toInt64.toInt (own_v p0 p1 p2 (own_md p3)).toInt)), .val (.int (own_in (own_bit p3 (1 : Int32)) p0.toInt64.toInt (own_bit p3 (2 : Int32)) p1.toInt64.toInt (own_v p0 p1 p2 (own_md p3)).toInt))] [(.int (1 : Int32))])) _
    exact retN X30 hx (t := .boolean) Bd.returns (by simp) (hb hby at_240) hr
  have k179 : Steps p.tables e below (T30.setTop (mkF m 179 #[.val (.int p0), .val (.int p1), .val (.int p2), .val (.int p3), .val (.int (own_bit p3 (1 : Int32))), .val (.int (own_bit p3 (2 : Int32))), .val (.int (own_md p3)), .val (.int (own_bit p3 (16 : Int32))), .val (.int (own_bit p3 (32 : Int32))), .val (.int (own_bit p3 (64 : Int32))), .val (.long p0.toInt64), .second, .val (.long p1.toInt64), .second, .val (.long (p2 % (3 : Int32)).toInt64), .second, .val (.long (own_v p0 p1 p2 (own_md p3))), .second, .val (.ref b1), .val (.int (own_in (own_bit p3 (1 : Int32)) p0.toInt64.toInt (own_bit p3 (2 : Int32)) p1.toInt64.toInt (own_v p0 p1 p2 (own_md p3)).toInt)), .unset] [])) (T30.setFrames fs) := by
    have c1 := own_lclt (own_v p0 p1 p2 (own_md p3)) p0.toInt64
    have c2 := own_lcgt (own_v p0 p1 p2 (own_md p3)) p1.toInt64
    have c3 := own_lceq (own_v p0 p1 p2 (own_md p3)) p0.toInt64
    have c4 := own_lceq (own_v p0 p1 p2 (own_md p3)) p1.toInt64
    by_cases q1 : (lcmpW (own_v p0 p1 p2 (own_md p3)) p0.toInt64) < (0 : Int32)
    · show Steps p.tables e below (T30.setTop (mkF m 179 #[.val (.int p0), .val (.int p1), .val (.int p2), .val (.int p3), .val (.int (own_bit p3 (1 : Int32))), .val (.int (own_bit p3 (2 : Int32))), .val (.int (own_md p3)), .val (.int (own_bit p3 (16 : Int32))), .val (.int (own_bit p3 (32 : Int32))), .val (.int (own_bit p3 (64 : Int32))), .val (.long p0.toInt64), .second, .val (.long p1.toInt64), .second, .val (.long (p2 % (3 : Int32)).toInt64), .second, .val (.long (own_v p0 p1 p2 (own_md p3))), .second, .val (.ref b1), .val (.int (own_in (own_bit p3 (1 : Int32)) p0.toInt64.toInt (own_bit p3 (2 : Int32)) p1.toInt64.toInt (own_v p0 p1 p2 (own_md p3)).toInt)), .unset] [])) _
      refine XS.lload X30.here hx rfl (hb hby at_179) rfl ?_
      show Steps p.tables e below (T30.setTop (mkF m 181 #[.val (.int p0), .val (.int p1), .val (.int p2), .val (.int p3), .val (.int (own_bit p3 (1 : Int32))), .val (.int (own_bit p3 (2 : Int32))), .val (.int (own_md p3)), .val (.int (own_bit p3 (16 : Int32))), .val (.int (own_bit p3 (32 : Int32))), .val (.int (own_bit p3 (64 : Int32))), .val (.long p0.toInt64), .second, .val (.long p1.toInt64), .second, .val (.long (p2 % (3 : Int32)).toInt64), .second, .val (.long (own_v p0 p1 p2 (own_md p3))), .second, .val (.ref b1), .val (.int (own_in (own_bit p3 (1 : Int32)) p0.toInt64.toInt (own_bit p3 (2 : Int32)) p1.toInt64.toInt (own_v p0 p1 p2 (own_md p3)).toInt)), .unset] [(.long (own_v p0 p1 p2 (own_md p3)))])) _
      refine XS.lload X30.here hx rfl (hb hby at_181) rfl ?_
      show Steps p.tables e below (T30.setTop (mkF m 183 #[.val (.int p0), .val (.int p1), .val (.int p2), .val (.int p3), .val (.int (own_bit p3 (1 : Int32))), .val (.int (own_bit p3 (2 : Int32))), .val (.int (own_md p3)), .val (.int (own_bit p3 (16 : Int32))), .val (.int (own_bit p3 (32 : Int32))), .val (.int (own_bit p3 (64 : Int32))), .val (.long p0.toInt64), .second, .val (.long p1.toInt64), .second, .val (.long (p2 % (3 : Int32)).toInt64), .second, .val (.long (own_v p0 p1 p2 (own_md p3))), .second, .val (.ref b1), .val (.int (own_in (own_bit p3 (1 : Int32)) p0.toInt64.toInt (own_bit p3 (2 : Int32)) p1.toInt64.toInt (own_v p0 p1 p2 (own_md p3)).toInt)), .unset] [(.long p0.toInt64), (.long (own_v p0 p1 p2 (own_md p3)))])) _
      refine XS.lcmp X30.here hx rfl (hb hby at_183) rfl ?_
      show Steps p.tables e below (T30.setTop (mkF m 184 #[.val (.int p0), .val (.int p1), .val (.int p2), .val (.int p3), .val (.int (own_bit p3 (1 : Int32))), .val (.int (own_bit p3 (2 : Int32))), .val (.int (own_md p3)), .val (.int (own_bit p3 (16 : Int32))), .val (.int (own_bit p3 (32 : Int32))), .val (.int (own_bit p3 (64 : Int32))), .val (.long p0.toInt64), .second, .val (.long p1.toInt64), .second, .val (.long (p2 % (3 : Int32)).toInt64), .second, .val (.long (own_v p0 p1 p2 (own_md p3))), .second, .val (.ref b1), .val (.int (own_in (own_bit p3 (1 : Int32)) p0.toInt64.toInt (own_bit p3 (2 : Int32)) p1.toInt64.toInt (own_v p0 p1 p2 (own_md p3)).toInt)), .unset] [(.int (lcmpW (own_v p0 p1 p2 (own_md p3)) p0.toInt64))])) _
      refine XS.ifYes X30.here hx rfl (pc0 := 184) (pc' := 225) rfl (hb hby at_184) rfl ((if0 _ _).trans (tlt q1).1) (by decide) (by decide) ?_
      show Steps p.tables e below (T30.setTop (mkF m 225 #[.val (.int p0), .val (.int p1), .val (.int p2), .val (.int p3), .val (.int (own_bit p3 (1 : Int32))), .val (.int (own_bit p3 (2 : Int32))), .val (.int (own_md p3)), .val (.int (own_bit p3 (16 : Int32))), .val (.int (own_bit p3 (32 : Int32))), .val (.int (own_bit p3 (64 : Int32))), .val (.long p0.toInt64), .second, .val (.long p1.toInt64), .second, .val (.long (p2 % (3 : Int32)).toInt64), .second, .val (.long (own_v p0 p1 p2 (own_md p3))), .second, .val (.ref b1), .val (.int (own_in (own_bit p3 (1 : Int32)) p0.toInt64.toInt (own_bit p3 (2 : Int32)) p1.toInt64.toInt (own_v p0 p1 p2 (own_md p3)).toInt)), .unset] [])) _
      refine XS.iconst X30.here hx rfl (hb hby at_225) ?_
      show Steps p.tables e below (T30.setTop (mkF m 226 #[.val (.int p0), .val (.int p1), .val (.int p2), .val (.int p3), .val (.int (own_bit p3 (1 : Int32))), .val (.int (own_bit p3 (2 : Int32))), .val (.int (own_md p3)), .val (.int (own_bit p3 (16 : Int32))), .val (.int (own_bit p3 (32 : Int32))), .val (.int (own_bit p3 (64 : Int32))), .val (.long p0.toInt64), .second, .val (.long p1.toInt64), .second, .val (.long (p2 % (3 : Int32)).toInt64), .second, .val (.long (own_v p0 p1 p2 (own_md p3))), .second, .val (.ref b1), .val (.int (own_in (own_bit p3 (1 : Int32)) p0.toInt64.toInt (own_bit p3 (2 : Int32)) p1.toInt64.toInt (own_v p0 p1 p2 (own_md p3)).toInt)), .unset] [(.int (0 : Int32))])) _
      have eI : (own_in (own_bit p3 (1 : Int32)) p0.toInt64.toInt (own_bit p3 (2 : Int32)) p1.toInt64.toInt (own_v p0 p1 p2 (own_md p3)).toInt) = (0 : Int32) := own_b0 (fun q => own_c1 (c1.mp q1) q.1)
      rw [eI] at k226 ⊢
      exact k226
    · by_cases q2 : (0 : Int32) < (lcmpW (own_v p0 p1 p2 (own_md p3)) p1.toInt64)
      · show Steps p.tables e below (T30.setTop (mkF m 179 #[.val (.int p0), .val (.int p1), .val (.int p2), .val (.int p3), .val (.int (own_bit p3 (1 : Int32))), .val (.int (own_bit p3 (2 : Int32))), .val (.int (own_md p3)), .val (.int (own_bit p3 (16 : Int32))), .val (.int (own_bit p3 (32 : Int32))), .val (.int (own_bit p3 (64 : Int32))), .val (.long p0.toInt64), .second, .val (.long p1.toInt64), .second, .val (.long (p2 % (3 : Int32)).toInt64), .second, .val (.long (own_v p0 p1 p2 (own_md p3))), .second, .val (.ref b1), .val (.int (own_in (own_bit p3 (1 : Int32)) p0.toInt64.toInt (own_bit p3 (2 : Int32)) p1.toInt64.toInt (own_v p0 p1 p2 (own_md p3)).toInt)), .unset] [])) _
        refine XS.lload X30.here hx rfl (hb hby at_179) rfl ?_
        show Steps p.tables e below (T30.setTop (mkF m 181 #[.val (.int p0), .val (.int p1), .val (.int p2), .val (.int p3), .val (.int (own_bit p3 (1 : Int32))), .val (.int (own_bit p3 (2 : Int32))), .val (.int (own_md p3)), .val (.int (own_bit p3 (16 : Int32))), .val (.int (own_bit p3 (32 : Int32))), .val (.int (own_bit p3 (64 : Int32))), .val (.long p0.toInt64), .second, .val (.long p1.toInt64), .second, .val (.long (p2 % (3 : Int32)).toInt64), .second, .val (.long (own_v p0 p1 p2 (own_md p3))), .second, .val (.ref b1), .val (.int (own_in (own_bit p3 (1 : Int32)) p0.toInt64.toInt (own_bit p3 (2 : Int32)) p1.toInt64.toInt (own_v p0 p1 p2 (own_md p3)).toInt)), .unset] [(.long (own_v p0 p1 p2 (own_md p3)))])) _
        refine XS.lload X30.here hx rfl (hb hby at_181) rfl ?_
        show Steps p.tables e below (T30.setTop (mkF m 183 #[.val (.int p0), .val (.int p1), .val (.int p2), .val (.int p3), .val (.int (own_bit p3 (1 : Int32))), .val (.int (own_bit p3 (2 : Int32))), .val (.int (own_md p3)), .val (.int (own_bit p3 (16 : Int32))), .val (.int (own_bit p3 (32 : Int32))), .val (.int (own_bit p3 (64 : Int32))), .val (.long p0.toInt64), .second, .val (.long p1.toInt64), .second, .val (.long (p2 % (3 : Int32)).toInt64), .second, .val (.long (own_v p0 p1 p2 (own_md p3))), .second, .val (.ref b1), .val (.int (own_in (own_bit p3 (1 : Int32)) p0.toInt64.toInt (own_bit p3 (2 : Int32)) p1.toInt64.toInt (own_v p0 p1 p2 (own_md p3)).toInt)), .unset] [(.long p0.toInt64), (.long (own_v p0 p1 p2 (own_md p3)))])) _
        refine XS.lcmp X30.here hx rfl (hb hby at_183) rfl ?_
        show Steps p.tables e below (T30.setTop (mkF m 184 #[.val (.int p0), .val (.int p1), .val (.int p2), .val (.int p3), .val (.int (own_bit p3 (1 : Int32))), .val (.int (own_bit p3 (2 : Int32))), .val (.int (own_md p3)), .val (.int (own_bit p3 (16 : Int32))), .val (.int (own_bit p3 (32 : Int32))), .val (.int (own_bit p3 (64 : Int32))), .val (.long p0.toInt64), .second, .val (.long p1.toInt64), .second, .val (.long (p2 % (3 : Int32)).toInt64), .second, .val (.long (own_v p0 p1 p2 (own_md p3))), .second, .val (.ref b1), .val (.int (own_in (own_bit p3 (1 : Int32)) p0.toInt64.toInt (own_bit p3 (2 : Int32)) p1.toInt64.toInt (own_v p0 p1 p2 (own_md p3)).toInt)), .unset] [(.int (lcmpW (own_v p0 p1 p2 (own_md p3)) p0.toInt64))])) _
        refine XS.ifNo X30.here hx rfl (hb hby at_184) rfl ((if0 _ _).trans (flt q1).1) ?_
        show Steps p.tables e below (T30.setTop (mkF m 187 #[.val (.int p0), .val (.int p1), .val (.int p2), .val (.int p3), .val (.int (own_bit p3 (1 : Int32))), .val (.int (own_bit p3 (2 : Int32))), .val (.int (own_md p3)), .val (.int (own_bit p3 (16 : Int32))), .val (.int (own_bit p3 (32 : Int32))), .val (.int (own_bit p3 (64 : Int32))), .val (.long p0.toInt64), .second, .val (.long p1.toInt64), .second, .val (.long (p2 % (3 : Int32)).toInt64), .second, .val (.long (own_v p0 p1 p2 (own_md p3))), .second, .val (.ref b1), .val (.int (own_in (own_bit p3 (1 : Int32)) p0.toInt64.toInt (own_bit p3 (2 : Int32)) p1.toInt64.toInt (own_v p0 p1 p2 (own_md p3)).toInt)), .unset] [])) _
        refine XS.lload X30.here hx rfl (hb hby at_187) rfl ?_
        show Steps p.tables e below (T30.setTop (mkF m 189 #[.val (.int p0), .val (.int p1), .val (.int p2), .val (.int p3), .val (.int (own_bit p3 (1 : Int32))), .val (.int (own_bit p3 (2 : Int32))), .val (.int (own_md p3)), .val (.int (own_bit p3 (16 : Int32))), .val (.int (own_bit p3 (32 : Int32))), .val (.int (own_bit p3 (64 : Int32))), .val (.long p0.toInt64), .second, .val (.long p1.toInt64), .second, .val (.long (p2 % (3 : Int32)).toInt64), .second, .val (.long (own_v p0 p1 p2 (own_md p3))), .second, .val (.ref b1), .val (.int (own_in (own_bit p3 (1 : Int32)) p0.toInt64.toInt (own_bit p3 (2 : Int32)) p1.toInt64.toInt (own_v p0 p1 p2 (own_md p3)).toInt)), .unset] [(.long (own_v p0 p1 p2 (own_md p3)))])) _
        refine XS.lload X30.here hx rfl (hb hby at_189) rfl ?_
        show Steps p.tables e below (T30.setTop (mkF m 191 #[.val (.int p0), .val (.int p1), .val (.int p2), .val (.int p3), .val (.int (own_bit p3 (1 : Int32))), .val (.int (own_bit p3 (2 : Int32))), .val (.int (own_md p3)), .val (.int (own_bit p3 (16 : Int32))), .val (.int (own_bit p3 (32 : Int32))), .val (.int (own_bit p3 (64 : Int32))), .val (.long p0.toInt64), .second, .val (.long p1.toInt64), .second, .val (.long (p2 % (3 : Int32)).toInt64), .second, .val (.long (own_v p0 p1 p2 (own_md p3))), .second, .val (.ref b1), .val (.int (own_in (own_bit p3 (1 : Int32)) p0.toInt64.toInt (own_bit p3 (2 : Int32)) p1.toInt64.toInt (own_v p0 p1 p2 (own_md p3)).toInt)), .unset] [(.long p1.toInt64), (.long (own_v p0 p1 p2 (own_md p3)))])) _
        refine XS.lcmp X30.here hx rfl (hb hby at_191) rfl ?_
        show Steps p.tables e below (T30.setTop (mkF m 192 #[.val (.int p0), .val (.int p1), .val (.int p2), .val (.int p3), .val (.int (own_bit p3 (1 : Int32))), .val (.int (own_bit p3 (2 : Int32))), .val (.int (own_md p3)), .val (.int (own_bit p3 (16 : Int32))), .val (.int (own_bit p3 (32 : Int32))), .val (.int (own_bit p3 (64 : Int32))), .val (.long p0.toInt64), .second, .val (.long p1.toInt64), .second, .val (.long (p2 % (3 : Int32)).toInt64), .second, .val (.long (own_v p0 p1 p2 (own_md p3))), .second, .val (.ref b1), .val (.int (own_in (own_bit p3 (1 : Int32)) p0.toInt64.toInt (own_bit p3 (2 : Int32)) p1.toInt64.toInt (own_v p0 p1 p2 (own_md p3)).toInt)), .unset] [(.int (lcmpW (own_v p0 p1 p2 (own_md p3)) p1.toInt64))])) _
        refine XS.ifYes X30.here hx rfl (pc0 := 192) (pc' := 225) rfl (hb hby at_192) rfl ((if0 _ _).trans (tlt q2).2.2.1) (by decide) (by decide) ?_
        show Steps p.tables e below (T30.setTop (mkF m 225 #[.val (.int p0), .val (.int p1), .val (.int p2), .val (.int p3), .val (.int (own_bit p3 (1 : Int32))), .val (.int (own_bit p3 (2 : Int32))), .val (.int (own_md p3)), .val (.int (own_bit p3 (16 : Int32))), .val (.int (own_bit p3 (32 : Int32))), .val (.int (own_bit p3 (64 : Int32))), .val (.long p0.toInt64), .second, .val (.long p1.toInt64), .second, .val (.long (p2 % (3 : Int32)).toInt64), .second, .val (.long (own_v p0 p1 p2 (own_md p3))), .second, .val (.ref b1), .val (.int (own_in (own_bit p3 (1 : Int32)) p0.toInt64.toInt (own_bit p3 (2 : Int32)) p1.toInt64.toInt (own_v p0 p1 p2 (own_md p3)).toInt)), .unset] [])) _
        refine XS.iconst X30.here hx rfl (hb hby at_225) ?_
        show Steps p.tables e below (T30.setTop (mkF m 226 #[.val (.int p0), .val (.int p1), .val (.int p2), .val (.int p3), .val (.int (own_bit p3 (1 : Int32))), .val (.int (own_bit p3 (2 : Int32))), .val (.int (own_md p3)), .val (.int (own_bit p3 (16 : Int32))), .val (.int (own_bit p3 (32 : Int32))), .val (.int (own_bit p3 (64 : Int32))), .val (.long p0.toInt64), .second, .val (.long p1.toInt64), .second, .val (.long (p2 % (3 : Int32)).toInt64), .second, .val (.long (own_v p0 p1 p2 (own_md p3))), .second, .val (.ref b1), .val (.int (own_in (own_bit p3 (1 : Int32)) p0.toInt64.toInt (own_bit p3 (2 : Int32)) p1.toInt64.toInt (own_v p0 p1 p2 (own_md p3)).toInt)), .unset] [(.int (0 : Int32))])) _
        have eI : (own_in (own_bit p3 (1 : Int32)) p0.toInt64.toInt (own_bit p3 (2 : Int32)) p1.toInt64.toInt (own_v p0 p1 p2 (own_md p3)).toInt) = (0 : Int32) := own_b0 (fun q => own_c2 (c2.mp q2) q.2)
        rw [eI] at k226 ⊢
        exact k226
      · by_cases q3 : (lcmpW (own_v p0 p1 p2 (own_md p3)) p0.toInt64) = (0 : Int32)
        · by_cases q4 : (own_bit p3 (1 : Int32)) = (0 : Int32)
          · show Steps p.tables e below (T30.setTop (mkF m 179 #[.val (.int p0), .val (.int p1), .val (.int p2), .val (.int p3), .val (.int (own_bit p3 (1 : Int32))), .val (.int (own_bit p3 (2 : Int32))), .val (.int (own_md p3)), .val (.int (own_bit p3 (16 : Int32))), .val (.int (own_bit p3 (32 : Int32))), .val (.int (own_bit p3 (64 : Int32))), .val (.long p0.toInt64), .second, .val (.long p1.toInt64), .second, .val (.long (p2 % (3 : Int32)).toInt64), .second, .val (.long (own_v p0 p1 p2 (own_md p3))), .second, .val (.ref b1), .val (.int (own_in (own_bit p3 (1 : Int32)) p0.toInt64.toInt (own_bit p3 (2 : Int32)) p1.toInt64.toInt (own_v p0 p1 p2 (own_md p3)).toInt)), .unset] [])) _
            refine XS.lload X30.here hx rfl (hb hby at_179) rfl ?_
            show Steps p.tables e below (T30.setTop (mkF m 181 #[.val (.int p0), .val (.int p1), .val (.int p2), .val (.int p3), .val (.int (own_bit p3 (1 : Int32))), .val (.int (own_bit p3 (2 : Int32))), .val (.int (own_md p3)), .val (.int (own_bit p3 (16 : Int32))), .val (.int (own_bit p3 (32 : Int32))), .val (.int (own_bit p3 (64 : Int32))), .val (.long p0.toInt64), .second, .val (.long p1.toInt64), .second, .val (.long (p2 % (3 : Int32)).toInt64), .second, .val (.long (own_v p0 p1 p2 (own_md p3))), .second, .val (.ref b1), .val (.int (own_in (own_bit p3 (1 : Int32)) p0.toInt64.toInt (own_bit p3 (2 : Int32)) p1.toInt64.toInt (own_v p0 p1 p2 (own_md p3)).toInt)), .unset] [(.long (own_v p0 p1 p2 (own_md p3)))])) _
            refine XS.lload X30.here hx rfl (hb hby at_181) rfl ?_
            show Steps p.tables e below (T30.setTop (mkF m 183 #[.val (.int p0), .val (.int p1), .val (.int p2), .val (.int p3), .val (.int (own_bit p3 (1 : Int32))), .val (.int (own_bit p3 (2 : Int32))), .val (.int (own_md p3)), .val (.int (own_bit p3 (16 : Int32))), .val (.int (own_bit p3 (32 : Int32))), .val (.int (own_bit p3 (64 : Int32))), .val (.long p0.toInt64), .second, .val (.long p1.toInt64), .second, .val (.long (p2 % (3 : Int32)).toInt64), .second, .val (.long (own_v p0 p1 p2 (own_md p3))), .second, .val (.ref b1), .val (.int (own_in (own_bit p3 (1 : Int32)) p0.toInt64.toInt (own_bit p3 (2 : Int32)) p1.toInt64.toInt (own_v p0 p1 p2 (own_md p3)).toInt)), .unset] [(.long p0.toInt64), (.long (own_v p0 p1 p2 (own_md p3)))])) _
            refine XS.lcmp X30.here hx rfl (hb hby at_183) rfl ?_
            show Steps p.tables e below (T30.setTop (mkF m 184 #[.val (.int p0), .val (.int p1), .val (.int p2), .val (.int p3), .val (.int (own_bit p3 (1 : Int32))), .val (.int (own_bit p3 (2 : Int32))), .val (.int (own_md p3)), .val (.int (own_bit p3 (16 : Int32))), .val (.int (own_bit p3 (32 : Int32))), .val (.int (own_bit p3 (64 : Int32))), .val (.long p0.toInt64), .second, .val (.long p1.toInt64), .second, .val (.long (p2 % (3 : Int32)).toInt64), .second, .val (.long (own_v p0 p1 p2 (own_md p3))), .second, .val (.ref b1), .val (.int (own_in (own_bit p3 (1 : Int32)) p0.toInt64.toInt (own_bit p3 (2 : Int32)) p1.toInt64.toInt (own_v p0 p1 p2 (own_md p3)).toInt)), .unset] [(.int (lcmpW (own_v p0 p1 p2 (own_md p3)) p0.toInt64))])) _
            refine XS.ifNo X30.here hx rfl (hb hby at_184) rfl ((if0 _ _).trans (flt q1).1) ?_
            show Steps p.tables e below (T30.setTop (mkF m 187 #[.val (.int p0), .val (.int p1), .val (.int p2), .val (.int p3), .val (.int (own_bit p3 (1 : Int32))), .val (.int (own_bit p3 (2 : Int32))), .val (.int (own_md p3)), .val (.int (own_bit p3 (16 : Int32))), .val (.int (own_bit p3 (32 : Int32))), .val (.int (own_bit p3 (64 : Int32))), .val (.long p0.toInt64), .second, .val (.long p1.toInt64), .second, .val (.long (p2 % (3 : Int32)).toInt64), .second, .val (.long (own_v p0 p1 p2 (own_md p3))), .second, .val (.ref b1), .val (.int (own_in (own_bit p3 (1 : Int32)) p0.toInt64.toInt (own_bit p3 (2 : Int32)) p1.toInt64.toInt (own_v p0 p1 p2 (own_md p3)).toInt)), .unset] [])) _
            refine XS.lload X30.here hx rfl (hb hby at_187) rfl ?_
            show Steps p.tables e below (T30.setTop (mkF m 189 #[.val (.int p0), .val (.int p1), .val (.int p2), .val (.int p3), .val (.int (own_bit p3 (1 : Int32))), .val (.int (own_bit p3 (2 : Int32))), .val (.int (own_md p3)), .val (.int (own_bit p3 (16 : Int32))), .val (.int (own_bit p3 (32 : Int32))), .val (.int (own_bit p3 (64 : Int32))), .val (.long p0.toInt64), .second, .val (.long p1.toInt64), .second, .val (.long (p2 % (3 : Int32)).toInt64), .second, .val (.long (own_v p0 p1 p2 (own_md p3))), .second, .val (.ref b1), .val (.int (own_in (own_bit p3 (1 : Int32)) p0.toInt64.toInt (own_bit p3 (2 : Int32)) p1.toInt64.toInt (own_v p0 p1 p2 (own_md p3)).toInt)), .unset] [(.long (own_v p0 p1 p2 (own_md p3)))])) _
            refine XS.lload X30.here hx rfl (hb hby at_189) rfl ?_
            show Steps p.tables e below (T30.setTop (mkF m 191 #[.val (.int p0), .val (.int p1), .val (.int p2), .val (.int p3), .val (.int (own_bit p3 (1 : Int32))), .val (.int (own_bit p3 (2 : Int32))), .val (.int (own_md p3)), .val (.int (own_bit p3 (16 : Int32))), .val (.int (own_bit p3 (32 : Int32))), .val (.int (own_bit p3 (64 : Int32))), .val (.long p0.toInt64), .second, .val (.long p1.toInt64), .second, .val (.long (p2 % (3 : Int32)).toInt64), .second, .val (.long (own_v p0 p1 p2 (own_md p3))), .second, .val (.ref b1), .val (.int (own_in (own_bit p3 (1 : Int32)) p0.toInt64.toInt (own_bit p3 (2 : Int32)) p1.toInt64.toInt (own_v p0 p1 p2 (own_md p3)).toInt)), .unset] [(.long p1.toInt64), (.long (own_v p0 p1 p2 (own_md p3)))])) _
            refine XS.lcmp X30.here hx rfl (hb hby at_191) rfl ?_
            show Steps p.tables e below (T30.setTop (mkF m 192 #[.val (.int p0), .val (.int p1), .val (.int p2), .val (.int p3), .val (.int (own_bit p3 (1 : Int32))), .val (.int (own_bit p3 (2 : Int32))), .val (.int (own_md p3)), .val (.int (own_bit p3 (16 : Int32))), .val (.int (own_bit p3 (32 : Int32))), .val (.int (own_bit p3 (64 : Int32))), .val (.long p0.toInt64), .second, .val (.long p1.toInt64), .second, .val (.long (p2 % (3 : Int32)).toInt64), .second, .val (.long (own_v p0 p1 p2 (own_md p3))), .second, .val (.ref b1), .val (.int (own_in (own_bit p3 (1 : Int32)) p0.toInt64.toInt (own_bit p3 (2 : Int32)) p1.toInt64.toInt (own_v p0 p1 p2 (own_md p3)).toInt)), .unset] [(.int (lcmpW (own_v p0 p1 p2 (own_md p3)) p1.toInt64))])) _
            refine XS.ifNo X30.here hx rfl (hb hby at_192) rfl ((if0 _ _).trans (flt q2).2.2.1) ?_
            show Steps p.tables e below (T30.setTop (mkF m 195 #[.val (.int p0), .val (.int p1), .val (.int p2), .val (.int p3), .val (.int (own_bit p3 (1 : Int32))), .val (.int (own_bit p3 (2 : Int32))), .val (.int (own_md p3)), .val (.int (own_bit p3 (16 : Int32))), .val (.int (own_bit p3 (32 : Int32))), .val (.int (own_bit p3 (64 : Int32))), .val (.long p0.toInt64), .second, .val (.long p1.toInt64), .second, .val (.long (p2 % (3 : Int32)).toInt64), .second, .val (.long (own_v p0 p1 p2 (own_md p3))), .second, .val (.ref b1), .val (.int (own_in (own_bit p3 (1 : Int32)) p0.toInt64.toInt (own_bit p3 (2 : Int32)) p1.toInt64.toInt (own_v p0 p1 p2 (own_md p3)).toInt)), .unset] [])) _
            refine XS.lload X30.here hx rfl (hb hby at_195) rfl ?_
            show Steps p.tables e below (T30.setTop (mkF m 197 #[.val (.int p0), .val (.int p1), .val (.int p2), .val (.int p3), .val (.int (own_bit p3 (1 : Int32))), .val (.int (own_bit p3 (2 : Int32))), .val (.int (own_md p3)), .val (.int (own_bit p3 (16 : Int32))), .val (.int (own_bit p3 (32 : Int32))), .val (.int (own_bit p3 (64 : Int32))), .val (.long p0.toInt64), .second, .val (.long p1.toInt64), .second, .val (.long (p2 % (3 : Int32)).toInt64), .second, .val (.long (own_v p0 p1 p2 (own_md p3))), .second, .val (.ref b1), .val (.int (own_in (own_bit p3 (1 : Int32)) p0.toInt64.toInt (own_bit p3 (2 : Int32)) p1.toInt64.toInt (own_v p0 p1 p2 (own_md p3)).toInt)), .unset] [(.long (own_v p0 p1 p2 (own_md p3)))])) _
            refine XS.lload X30.here hx rfl (hb hby at_197) rfl ?_
            show Steps p.tables e below (T30.setTop (mkF m 199 #[.val (.int p0), .val (.int p1), .val (.int p2), .val (.int p3), .val (.int (own_bit p3 (1 : Int32))), .val (.int (own_bit p3 (2 : Int32))), .val (.int (own_md p3)), .val (.int (own_bit p3 (16 : Int32))), .val (.int (own_bit p3 (32 : Int32))), .val (.int (own_bit p3 (64 : Int32))), .val (.long p0.toInt64), .second, .val (.long p1.toInt64), .second, .val (.long (p2 % (3 : Int32)).toInt64), .second, .val (.long (own_v p0 p1 p2 (own_md p3))), .second, .val (.ref b1), .val (.int (own_in (own_bit p3 (1 : Int32)) p0.toInt64.toInt (own_bit p3 (2 : Int32)) p1.toInt64.toInt (own_v p0 p1 p2 (own_md p3)).toInt)), .unset] [(.long p0.toInt64), (.long (own_v p0 p1 p2 (own_md p3)))])) _
            refine XS.lcmp X30.here hx rfl (hb hby at_199) rfl ?_
            show Steps p.tables e below (T30.setTop (mkF m 200 #[.val (.int p0), .val (.int p1), .val (.int p2), .val (.int p3), .val (.int (own_bit p3 (1 : Int32))), .val (.int (own_bit p3 (2 : Int32))), .val (.int (own_md p3)), .val (.int (own_bit p3 (16 : Int32))), .val (.int (own_bit p3 (32 : Int32))), .val (.int (own_bit p3 (64 : Int32))), .val (.long p0.toInt64), .second, .val (.long p1.toInt64), .second, .val (.long (p2 % (3 : Int32)).toInt64), .second, .val (.long (own_v p0 p1 p2 (own_md p3))), .second, .val (.ref b1), .val (.int (own_in (own_bit p3 (1 : Int32)) p0.toInt64.toInt (own_bit p3 (2 : Int32)) p1.toInt64.toInt (own_v p0 p1 p2 (own_md p3)).toInt)), .unset] [(.int (lcmpW (own_v p0 p1 p2 (own_md p3)) p0.toInt64))])) _
            refine XS.ifNo X30.here hx rfl (hb hby at_200) rfl ((if0 _ _).trans (teq q3).2) ?_
            show Steps p.tables e below (T30.setTop (mkF m 203 #[.val (.int p0), .val (.int p1), .val (.int p2), .val (.int p3), .val (.int (own_bit p3 (1 : Int32))), .val (.int (own_bit p3 (2 : Int32))), .val (.int (own_md p3)), .val (.int (own_bit p3 (16 : Int32))), .val (.int (own_bit p3 (32 : Int32))), .val (.int (own_bit p3 (64 : Int32))), .val (.long p0.toInt64), .second, .val (.long p1.toInt64), .second, .val (.long (p2 % (3 : Int32)).toInt64), .second, .val (.long (own_v p0 p1 p2 (own_md p3))), .second, .val (.ref b1), .val (.int (own_in (own_bit p3 (1 : Int32)) p0.toInt64.toInt (own_bit p3 (2 : Int32)) p1.toInt64.toInt (own_v p0 p1 p2 (own_md p3)).toInt)), .unset] [])) _
            refine XS.iload X30.here hx rfl (hb hby at_203) rfl ?_
            show Steps p.tables e below (T30.setTop (mkF m 205 #[.val (.int p0), .val (.int p1), .val (.int p2), .val (.int p3), .val (.int (own_bit p3 (1 : Int32))), .val (.int (own_bit p3 (2 : Int32))), .val (.int (own_md p3)), .val (.int (own_bit p3 (16 : Int32))), .val (.int (own_bit p3 (32 : Int32))), .val (.int (own_bit p3 (64 : Int32))), .val (.long p0.toInt64), .second, .val (.long p1.toInt64), .second, .val (.long (p2 % (3 : Int32)).toInt64), .second, .val (.long (own_v p0 p1 p2 (own_md p3))), .second, .val (.ref b1), .val (.int (own_in (own_bit p3 (1 : Int32)) p0.toInt64.toInt (own_bit p3 (2 : Int32)) p1.toInt64.toInt (own_v p0 p1 p2 (own_md p3)).toInt)), .unset] [(.int (own_bit p3 (1 : Int32)))])) _
            refine XS.ifYes X30.here hx rfl (pc0 := 205) (pc' := 225) rfl (hb hby at_205) rfl ((if0 _ _).trans (teq q4).1) (by decide) (by decide) ?_
            show Steps p.tables e below (T30.setTop (mkF m 225 #[.val (.int p0), .val (.int p1), .val (.int p2), .val (.int p3), .val (.int (own_bit p3 (1 : Int32))), .val (.int (own_bit p3 (2 : Int32))), .val (.int (own_md p3)), .val (.int (own_bit p3 (16 : Int32))), .val (.int (own_bit p3 (32 : Int32))), .val (.int (own_bit p3 (64 : Int32))), .val (.long p0.toInt64), .second, .val (.long p1.toInt64), .second, .val (.long (p2 % (3 : Int32)).toInt64), .second, .val (.long (own_v p0 p1 p2 (own_md p3))), .second, .val (.ref b1), .val (.int (own_in (own_bit p3 (1 : Int32)) p0.toInt64.toInt (own_bit p3 (2 : Int32)) p1.toInt64.toInt (own_v p0 p1 p2 (own_md p3)).toInt)), .unset] [])) _
            refine XS.iconst X30.here hx rfl (hb hby at_225) ?_
            show Steps p.tables e below (T30.setTop (mkF m 226 #[.val (.int p0), .val (.int p1), .val (.int p2), .val (.int p3), .val (.int (own_bit p3 (1 : Int32))), .val (.int (own_bit p3 (2 : Int32))), .val (.int (own_md p3)), .val (.int (own_bit p3 (16 : Int32))), .val (.int (own_bit p3 (32 : Int32))), .val (.int (own_bit p3 (64 : Int32))), .val (.long p0.toInt64), .second, .val (.long p1.toInt64), .second, .val (.long (p2 % (3 : Int32)).toInt64), .second, .val (.long (own_v p0 p1 p2 (own_md p3))), .second, .val (.ref b1), .val (.int (own_in (own_bit p3 (1 : Int32)) p0.toInt64.toInt (own_bit p3 (2 : Int32)) p1.toInt64.toInt (own_v p0 p1 p2 (own_md p3)).toInt)), .unset] [(.int (0 : Int32))])) _
            have eI : (own_in (own_bit p3 (1 : Int32)) p0.toInt64.toInt (own_bit p3 (2 : Int32)) p1.toInt64.toInt (own_v p0 p1 p2 (own_md p3)).toInt) = (0 : Int32) := own_b0 (fun q => own_c3 (c3.mp q3) q4 q.1)
            rw [eI] at k226 ⊢
            exact k226
          · by_cases q5 : (lcmpW (own_v p0 p1 p2 (own_md p3)) p1.toInt64) = (0 : Int32)
            · by_cases q6 : (own_bit p3 (2 : Int32)) = (0 : Int32)
              · show Steps p.tables e below (T30.setTop (mkF m 179 #[.val (.int p0), .val (.int p1), .val (.int p2), .val (.int p3), .val (.int (own_bit p3 (1 : Int32))), .val (.int (own_bit p3 (2 : Int32))), .val (.int (own_md p3)), .val (.int (own_bit p3 (16 : Int32))), .val (.int (own_bit p3 (32 : Int32))), .val (.int (own_bit p3 (64 : Int32))), .val (.long p0.toInt64), .second, .val (.long p1.toInt64), .second, .val (.long (p2 % (3 : Int32)).toInt64), .second, .val (.long (own_v p0 p1 p2 (own_md p3))), .second, .val (.ref b1), .val (.int (own_in (own_bit p3 (1 : Int32)) p0.toInt64.toInt (own_bit p3 (2 : Int32)) p1.toInt64.toInt (own_v p0 p1 p2 (own_md p3)).toInt)), .unset] [])) _
                refine XS.lload X30.here hx rfl (hb hby at_179) rfl ?_
                show Steps p.tables e below (T30.setTop (mkF m 181 #[.val (.int p0), .val (.int p1), .val (.int p2), .val (.int p3), .val (.int (own_bit p3 (1 : Int32))), .val (.int (own_bit p3 (2 : Int32))), .val (.int (own_md p3)), .val (.int (own_bit p3 (16 : Int32))), .val (.int (own_bit p3 (32 : Int32))), .val (.int (own_bit p3 (64 : Int32))), .val (.long p0.toInt64), .second, .val (.long p1.toInt64), .second, .val (.long (p2 % (3 : Int32)).toInt64), .second, .val (.long (own_v p0 p1 p2 (own_md p3))), .second, .val (.ref b1), .val (.int (own_in (own_bit p3 (1 : Int32)) p0.toInt64.toInt (own_bit p3 (2 : Int32)) p1.toInt64.toInt (own_v p0 p1 p2 (own_md p3)).toInt)), .unset] [(.long (own_v p0 p1 p2 (own_md p3)))])) _
                refine XS.lload X30.here hx rfl (hb hby at_181) rfl ?_
                show Steps p.tables e below (T30.setTop (mkF m 183 #[.val (.int p0), .val (.int p1), .val (.int p2), .val (.int p3), .val (.int (own_bit p3 (1 : Int32))), .val (.int (own_bit p3 (2 : Int32))), .val (.int (own_md p3)), .val (.int (own_bit p3 (16 : Int32))), .val (.int (own_bit p3 (32 : Int32))), .val (.int (own_bit p3 (64 : Int32))), .val (.long p0.toInt64), .second, .val (.long p1.toInt64), .second, .val (.long (p2 % (3 : Int32)).toInt64), .second, .val (.long (own_v p0 p1 p2 (own_md p3))), .second, .val (.ref b1), .val (.int (own_in (own_bit p3 (1 : Int32)) p0.toInt64.toInt (own_bit p3 (2 : Int32)) p1.toInt64.toInt (own_v p0 p1 p2 (own_md p3)).toInt)), .unset] [(.long p0.toInt64), (.long (own_v p0 p1 p2 (own_md p3)))])) _
                refine XS.lcmp X30.here hx rfl (hb hby at_183) rfl ?_
                show Steps p.tables e below (T30.setTop (mkF m 184 #[.val (.int p0), .val (.int p1), .val (.int p2), .val (.int p3), .val (.int (own_bit p3 (1 : Int32))), .val (.int (own_bit p3 (2 : Int32))), .val (.int (own_md p3)), .val (.int (own_bit p3 (16 : Int32))), .val (.int (own_bit p3 (32 : Int32))), .val (.int (own_bit p3 (64 : Int32))), .val (.long p0.toInt64), .second, .val (.long p1.toInt64), .second, .val (.long (p2 % (3 : Int32)).toInt64), .second, .val (.long (own_v p0 p1 p2 (own_md p3))), .second, .val (.ref b1), .val (.int (own_in (own_bit p3 (1 : Int32)) p0.toInt64.toInt (own_bit p3 (2 : Int32)) p1.toInt64.toInt (own_v p0 p1 p2 (own_md p3)).toInt)), .unset] [(.int (lcmpW (own_v p0 p1 p2 (own_md p3)) p0.toInt64))])) _
                refine XS.ifNo X30.here hx rfl (hb hby at_184) rfl ((if0 _ _).trans (flt q1).1) ?_
                show Steps p.tables e below (T30.setTop (mkF m 187 #[.val (.int p0), .val (.int p1), .val (.int p2), .val (.int p3), .val (.int (own_bit p3 (1 : Int32))), .val (.int (own_bit p3 (2 : Int32))), .val (.int (own_md p3)), .val (.int (own_bit p3 (16 : Int32))), .val (.int (own_bit p3 (32 : Int32))), .val (.int (own_bit p3 (64 : Int32))), .val (.long p0.toInt64), .second, .val (.long p1.toInt64), .second, .val (.long (p2 % (3 : Int32)).toInt64), .second, .val (.long (own_v p0 p1 p2 (own_md p3))), .second, .val (.ref b1), .val (.int (own_in (own_bit p3 (1 : Int32)) p0.toInt64.toInt (own_bit p3 (2 : Int32)) p1.toInt64.toInt (own_v p0 p1 p2 (own_md p3)).toInt)), .unset] [])) _
                refine XS.lload X30.here hx rfl (hb hby at_187) rfl ?_
                show Steps p.tables e below (T30.setTop (mkF m 189 #[.val (.int p0), .val (.int p1), .val (.int p2), .val (.int p3), .val (.int (own_bit p3 (1 : Int32))), .val (.int (own_bit p3 (2 : Int32))), .val (.int (own_md p3)), .val (.int (own_bit p3 (16 : Int32))), .val (.int (own_bit p3 (32 : Int32))), .val (.int (own_bit p3 (64 : Int32))), .val (.long p0.toInt64), .second, .val (.long p1.toInt64), .second, .val (.long (p2 % (3 : Int32)).toInt64), .second, .val (.long (own_v p0 p1 p2 (own_md p3))), .second, .val (.ref b1), .val (.int (own_in (own_bit p3 (1 : Int32)) p0.toInt64.toInt (own_bit p3 (2 : Int32)) p1.toInt64.toInt (own_v p0 p1 p2 (own_md p3)).toInt)), .unset] [(.long (own_v p0 p1 p2 (own_md p3)))])) _
                refine XS.lload X30.here hx rfl (hb hby at_189) rfl ?_
                show Steps p.tables e below (T30.setTop (mkF m 191 #[.val (.int p0), .val (.int p1), .val (.int p2), .val (.int p3), .val (.int (own_bit p3 (1 : Int32))), .val (.int (own_bit p3 (2 : Int32))), .val (.int (own_md p3)), .val (.int (own_bit p3 (16 : Int32))), .val (.int (own_bit p3 (32 : Int32))), .val (.int (own_bit p3 (64 : Int32))), .val (.long p0.toInt64), .second, .val (.long p1.toInt64), .second, .val (.long (p2 % (3 : Int32)).toInt64), .second, .val (.long (own_v p0 p1 p2 (own_md p3))), .second, .val (.ref b1), .val (.int (own_in (own_bit p3 (1 : Int32)) p0.toInt64.toInt (own_bit p3 (2 : Int32)) p1.toInt64.toInt (own_v p0 p1 p2 (own_md p3)).toInt)), .unset] [(.long p1.toInt64), (.long (own_v p0 p1 p2 (own_md p3)))])) _
                refine XS.lcmp X30.here hx rfl (hb hby at_191) rfl ?_
                show Steps p.tables e below (T30.setTop (mkF m 192 #[.val (.int p0), .val (.int p1), .val (.int p2), .val (.int p3), .val (.int (own_bit p3 (1 : Int32))), .val (.int (own_bit p3 (2 : Int32))), .val (.int (own_md p3)), .val (.int (own_bit p3 (16 : Int32))), .val (.int (own_bit p3 (32 : Int32))), .val (.int (own_bit p3 (64 : Int32))), .val (.long p0.toInt64), .second, .val (.long p1.toInt64), .second, .val (.long (p2 % (3 : Int32)).toInt64), .second, .val (.long (own_v p0 p1 p2 (own_md p3))), .second, .val (.ref b1), .val (.int (own_in (own_bit p3 (1 : Int32)) p0.toInt64.toInt (own_bit p3 (2 : Int32)) p1.toInt64.toInt (own_v p0 p1 p2 (own_md p3)).toInt)), .unset] [(.int (lcmpW (own_v p0 p1 p2 (own_md p3)) p1.toInt64))])) _
                refine XS.ifNo X30.here hx rfl (hb hby at_192) rfl ((if0 _ _).trans (flt q2).2.2.1) ?_
                show Steps p.tables e below (T30.setTop (mkF m 195 #[.val (.int p0), .val (.int p1), .val (.int p2), .val (.int p3), .val (.int (own_bit p3 (1 : Int32))), .val (.int (own_bit p3 (2 : Int32))), .val (.int (own_md p3)), .val (.int (own_bit p3 (16 : Int32))), .val (.int (own_bit p3 (32 : Int32))), .val (.int (own_bit p3 (64 : Int32))), .val (.long p0.toInt64), .second, .val (.long p1.toInt64), .second, .val (.long (p2 % (3 : Int32)).toInt64), .second, .val (.long (own_v p0 p1 p2 (own_md p3))), .second, .val (.ref b1), .val (.int (own_in (own_bit p3 (1 : Int32)) p0.toInt64.toInt (own_bit p3 (2 : Int32)) p1.toInt64.toInt (own_v p0 p1 p2 (own_md p3)).toInt)), .unset] [])) _
                refine XS.lload X30.here hx rfl (hb hby at_195) rfl ?_
                show Steps p.tables e below (T30.setTop (mkF m 197 #[.val (.int p0), .val (.int p1), .val (.int p2), .val (.int p3), .val (.int (own_bit p3 (1 : Int32))), .val (.int (own_bit p3 (2 : Int32))), .val (.int (own_md p3)), .val (.int (own_bit p3 (16 : Int32))), .val (.int (own_bit p3 (32 : Int32))), .val (.int (own_bit p3 (64 : Int32))), .val (.long p0.toInt64), .second, .val (.long p1.toInt64), .second, .val (.long (p2 % (3 : Int32)).toInt64), .second, .val (.long (own_v p0 p1 p2 (own_md p3))), .second, .val (.ref b1), .val (.int (own_in (own_bit p3 (1 : Int32)) p0.toInt64.toInt (own_bit p3 (2 : Int32)) p1.toInt64.toInt (own_v p0 p1 p2 (own_md p3)).toInt)), .unset] [(.long (own_v p0 p1 p2 (own_md p3)))])) _
                refine XS.lload X30.here hx rfl (hb hby at_197) rfl ?_
                show Steps p.tables e below (T30.setTop (mkF m 199 #[.val (.int p0), .val (.int p1), .val (.int p2), .val (.int p3), .val (.int (own_bit p3 (1 : Int32))), .val (.int (own_bit p3 (2 : Int32))), .val (.int (own_md p3)), .val (.int (own_bit p3 (16 : Int32))), .val (.int (own_bit p3 (32 : Int32))), .val (.int (own_bit p3 (64 : Int32))), .val (.long p0.toInt64), .second, .val (.long p1.toInt64), .second, .val (.long (p2 % (3 : Int32)).toInt64), .second, .val (.long (own_v p0 p1 p2 (own_md p3))), .second, .val (.ref b1), .val (.int (own_in (own_bit p3 (1 : Int32)) p0.toInt64.toInt (own_bit p3 (2 : Int32)) p1.toInt64.toInt (own_v p0 p1 p2 (own_md p3)).toInt)), .unset] [(.long p0.toInt64), (.long (own_v p0 p1 p2 (own_md p3)))])) _
                refine XS.lcmp X30.here hx rfl (hb hby at_199) rfl ?_
                show Steps p.tables e below (T30.setTop (mkF m 200 #[.val (.int p0), .val (.int p1), .val (.int p2), .val (.int p3), .val (.int (own_bit p3 (1 : Int32))), .val (.int (own_bit p3 (2 : Int32))), .val (.int (own_md p3)), .val (.int (own_bit p3 (16 : Int32))), .val (.int (own_bit p3 (32 : Int32))), .val (.int (own_bit p3 (64 : Int32))), .val (.long p0.toInt64), .second, .val (.long p1.toInt64), .second, .val (.long (p2 % (3 : Int32)).toInt64), .second, .val (.long (own_v p0 p1 p2 (own_md p3))), .second, .val (.ref b1), .val (.int (own_in (own_bit p3 (1 : Int32)) p0.toInt64.toInt (own_bit p3 (2 : Int32)) p1.toInt64.toInt (own_v p0 p1 p2 (own_md p3)).toInt)), .unset] [(.int (lcmpW (own_v p0 p1 p2 (own_md p3)) p0.toInt64))])) _
                refine XS.ifNo X30.here hx rfl (hb hby at_200) rfl ((if0 _ _).trans (teq q3).2) ?_
                show Steps p.tables e below (T30.setTop (mkF m 203 #[.val (.int p0), .val (.int p1), .val (.int p2), .val (.int p3), .val (.int (own_bit p3 (1 : Int32))), .val (.int (own_bit p3 (2 : Int32))), .val (.int (own_md p3)), .val (.int (own_bit p3 (16 : Int32))), .val (.int (own_bit p3 (32 : Int32))), .val (.int (own_bit p3 (64 : Int32))), .val (.long p0.toInt64), .second, .val (.long p1.toInt64), .second, .val (.long (p2 % (3 : Int32)).toInt64), .second, .val (.long (own_v p0 p1 p2 (own_md p3))), .second, .val (.ref b1), .val (.int (own_in (own_bit p3 (1 : Int32)) p0.toInt64.toInt (own_bit p3 (2 : Int32)) p1.toInt64.toInt (own_v p0 p1 p2 (own_md p3)).toInt)), .unset] [])) _
                refine XS.iload X30.here hx rfl (hb hby at_203) rfl ?_
                show Steps p.tables e below (T30.setTop (mkF m 205 #[.val (.int p0), .val (.int p1), .val (.int p2), .val (.int p3), .val (.int (own_bit p3 (1 : Int32))), .val (.int (own_bit p3 (2 : Int32))), .val (.int (own_md p3)), .val (.int (own_bit p3 (16 : Int32))), .val (.int (own_bit p3 (32 : Int32))), .val (.int (own_bit p3 (64 : Int32))), .val (.long p0.toInt64), .second, .val (.long p1.toInt64), .second, .val (.long (p2 % (3 : Int32)).toInt64), .second, .val (.long (own_v p0 p1 p2 (own_md p3))), .second, .val (.ref b1), .val (.int (own_in (own_bit p3 (1 : Int32)) p0.toInt64.toInt (own_bit p3 (2 : Int32)) p1.toInt64.toInt (own_v p0 p1 p2 (own_md p3)).toInt)), .unset] [(.int (own_bit p3 (1 : Int32)))])) _
                refine XS.ifNo X30.here hx rfl (hb hby at_205) rfl ((if0 _ _).trans (feq q4).1) ?_
                show Steps p.tables e below (T30.setTop (mkF m 208 #[.val (.int p0), .val (.int p1), .val (.int p2), .val (.int p3), .val (.int (own_bit p3 (1 : Int32))), .val (.int (own_bit p3 (2 : Int32))), .val (.int (own_md p3)), .val (.int (own_bit p3 (16 : Int32))), .val (.int (own_bit p3 (32 : Int32))), .val (.int (own_bit p3 (64 : Int32))), .val (.long p0.toInt64), .second, .val (.long p1.toInt64), .second, .val (.long (p2 % (3 : Int32)).toInt64), .second, .val (.long (own_v p0 p1 p2 (own_md p3))), .second, .val (.ref b1), .val (.int (own_in (own_bit p3 (1 : Int32)) p0.toInt64.toInt (own_bit p3 (2 : Int32)) p1.toInt64.toInt (own_v p0 p1 p2 (own_md p3)).toInt)), .unset] [])) _
                refine XS.lload X30.here hx rfl (hb hby at_208) rfl ?_
                show Steps p.tables e below (T30.setTop (mkF m 210 #[.val (.int p0), .val (.int p1), .val (.int p2), .val (.int p3), .val (.int (own_bit p3 (1 : Int32))), .val (.int (own_bit p3 (2 : Int32))), .val (.int (own_md p3)), .val (.int (own_bit p3 (16 : Int32))), .val (.int (own_bit p3 (32 : Int32))), .val (.int (own_bit p3 (64 : Int32))), .val (.long p0.toInt64), .second, .val (.long p1.toInt64), .second, .val (.long (p2 % (3 : Int32)).toInt64), .second, .val (.long (own_v p0 p1 p2 (own_md p3))), .second, .val (.ref b1), .val (.int (own_in (own_bit p3 (1 : Int32)) p0.toInt64.toInt (own_bit p3 (2 : Int32)) p1.toInt64.toInt (own_v p0 p1 p2 (own_md p3)).toInt)), .unset] [(.long (own_v p0 p1 p2 (own_md p3)))])) _
                refine XS.lload X30.here hx rfl (hb hby at_210) rfl ?_
                show Steps p.tables e below (T30.setTop (mkF m 212 #[.val (.int p0), .val (.int p1), .val (.int p2), .val (.int p3), .val (.int (own_bit p3 (1 : Int32))), .val (.int (own_bit p3 (2 : Int32))), .val (.int (own_md p3)), .val (.int (own_bit p3 (16 : Int32))), .val (.int (own_bit p3 (32 : Int32))), .val (.int (own_bit p3 (64 : Int32))), .val (.long p0.toInt64), .second, .val (.long p1.toInt64), .second, .val (.long (p2 % (3 : Int32)).toInt64), .second, .val (.long (own_v p0 p1 p2 (own_md p3))), .second, .val (.ref b1), .val (.int (own_in (own_bit p3 (1 : Int32)) p0.toInt64.toInt (own_bit p3 (2 : Int32)) p1.toInt64.toInt (own_v p0 p1 p2 (own_md p3)).toInt)), .unset] [(.long p1.toInt64), (.long (own_v p0 p1 p2 (own_md p3)))])) _
                refine XS.lcmp X30.here hx rfl (hb hby at_212) rfl ?_
                show Steps p.tables e below (T30.setTop (mkF m 213 #[.val (.int p0), .val (.int p1), .val (.int p2), .val (.int p3), .val (.int (own_bit p3 (1 : Int32))), .val (.int (own_bit p3 (2 : Int32))), .val (.int (own_md p3)), .val (.int (own_bit p3 (16 : Int32))), .val (.int (own_bit p3 (32 : Int32))), .val (.int (own_bit p3 (64 : Int32))), .val (.long p0.toInt64), .second, .val (.long p1.toInt64), .second, .val (.long (p2 % (3 : Int32)).toInt64), .second, .val (.long (own_v p0 p1 p2 (own_md p3))), .second, .val (.ref b1), .val (.int (own_in (own_bit p3 (1 : Int32)) p0.toInt64.toInt (own_bit p3 (2 : Int32)) p1.toInt64.toInt (own_v p0 p1 p2 (own_md p3)).toInt)), .unset] [(.int (lcmpW (own_v p0 p1 p2 (own_md p3)) p1.toInt64))])) _
                refine XS.ifNo X30.here hx rfl (hb hby at_213) rfl ((if0 _ _).trans (teq q5).2) ?_
                show Steps p.tables e below (T30.setTop (mkF m 216 #[.val (.int p0), .val (.int p1), .val (.int p2), .val (.int p3), .val (.int (own_bit p3 (1 : Int32))), .val (.int (own_bit p3 (2 : Int32))), .val (.int (own_md p3)), .val (.int (own_bit p3 (16 : Int32))), .val (.int (own_bit p3 (32 : Int32))), .val (.int (own_bit p3 (64 : Int32))), .val (.long p0.toInt64), .second, .val (.long p1.toInt64), .second, .val (.long (p2 % (3 : Int32)).toInt64), .second, .val (.long (own_v p0 p1 p2 (own_md p3))), .second, .val (.ref b1), .val (.int (own_in (own_bit p3 (1 : Int32)) p0.toInt64.toInt (own_bit p3 (2 : Int32)) p1.toInt64.toInt (own_v p0 p1 p2 (own_md p3)).toInt)), .unset] [])) _
                refine XS.iload X30.here hx rfl (hb hby at_216) rfl ?_
                show Steps p.tables e below (T30.setTop (mkF m 218 #[.val (.int p0), .val (.int p1), .val (.int p2), .val (.int p3), .val (.int (own_bit p3 (1 : Int32))), .val (.int (own_bit p3 (2 : Int32))), .val (.int (own_md p3)), .val (.int (own_bit p3 (16 : Int32))), .val (.int (own_bit p3 (32 : Int32))), .val (.int (own_bit p3 (64 : Int32))), .val (.long p0.toInt64), .second, .val (.long p1.toInt64), .second, .val (.long (p2 % (3 : Int32)).toInt64), .second, .val (.long (own_v p0 p1 p2 (own_md p3))), .second, .val (.ref b1), .val (.int (own_in (own_bit p3 (1 : Int32)) p0.toInt64.toInt (own_bit p3 (2 : Int32)) p1.toInt64.toInt (own_v p0 p1 p2 (own_md p3)).toInt)), .unset] [(.int (own_bit p3 (2 : Int32)))])) _
                refine XS.ifYes X30.here hx rfl (pc0 := 218) (pc' := 225) rfl (hb hby at_218) rfl ((if0 _ _).trans (teq q6).1) (by decide) (by decide) ?_
                show Steps p.tables e below (T30.setTop (mkF m 225 #[.val (.int p0), .val (.int p1), .val (.int p2), .val (.int p3), .val (.int (own_bit p3 (1 : Int32))), .val (.int (own_bit p3 (2 : Int32))), .val (.int (own_md p3)), .val (.int (own_bit p3 (16 : Int32))), .val (.int (own_bit p3 (32 : Int32))), .val (.int (own_bit p3 (64 : Int32))), .val (.long p0.toInt64), .second, .val (.long p1.toInt64), .second, .val (.long (p2 % (3 : Int32)).toInt64), .second, .val (.long (own_v p0 p1 p2 (own_md p3))), .second, .val (.ref b1), .val (.int (own_in (own_bit p3 (1 : Int32)) p0.toInt64.toInt (own_bit p3 (2 : Int32)) p1.toInt64.toInt (own_v p0 p1 p2 (own_md p3)).toInt)), .unset] [])) _
                refine XS.iconst X30.here hx rfl (hb hby at_225) ?_
                show Steps p.tables e below (T30.setTop (mkF m 226 #[.val (.int p0), .val (.int p1), .val (.int p2), .val (.int p3), .val (.int (own_bit p3 (1 : Int32))), .val (.int (own_bit p3 (2 : Int32))), .val (.int (own_md p3)), .val (.int (own_bit p3 (16 : Int32))), .val (.int (own_bit p3 (32 : Int32))), .val (.int (own_bit p3 (64 : Int32))), .val (.long p0.toInt64), .second, .val (.long p1.toInt64), .second, .val (.long (p2 % (3 : Int32)).toInt64), .second, .val (.long (own_v p0 p1 p2 (own_md p3))), .second, .val (.ref b1), .val (.int (own_in (own_bit p3 (1 : Int32)) p0.toInt64.toInt (own_bit p3 (2 : Int32)) p1.toInt64.toInt (own_v p0 p1 p2 (own_md p3)).toInt)), .unset] [(.int (0 : Int32))])) _
                have eI : (own_in (own_bit p3 (1 : Int32)) p0.toInt64.toInt (own_bit p3 (2 : Int32)) p1.toInt64.toInt (own_v p0 p1 p2 (own_md p3)).toInt) = (0 : Int32) := own_b0 (fun q => own_c4 (c4.mp q5) q6 q.2)
                rw [eI] at k226 ⊢
                exact k226
              · show Steps p.tables e below (T30.setTop (mkF m 179 #[.val (.int p0), .val (.int p1), .val (.int p2), .val (.int p3), .val (.int (own_bit p3 (1 : Int32))), .val (.int (own_bit p3 (2 : Int32))), .val (.int (own_md p3)), .val (.int (own_bit p3 (16 : Int32))), .val (.int (own_bit p3 (32 : Int32))), .val (.int (own_bit p3 (64 : Int32))), .val (.long p0.toInt64), .second, .val (.long p1.toInt64), .second, .val (.long (p2 % (3 : Int32)).toInt64), .second, .val (.long (own_v p0 p1 p2 (own_md p3))), .second, .val (.ref b1), .val (.int (own_in (own_bit p3 (1 : Int32)) p0.toInt64.toInt (own_bit p3 (2 : Int32)) p1.toInt64.toInt (own_v p0 p1 p2 (own_md p3)).toInt)), .unset] [])) _
                refine XS.lload X30.here hx rfl (hb hby at_179) rfl ?_
                show Steps p.tables e below (T30.setTop (mkF m 181 #[.val (.int p0), .val (.int p1), .val (.int p2), .val (.int p3), .val (.int (own_bit p3 (1 : Int32))), .val (.int (own_bit p3 (2 : Int32))), .val (.int (own_md p3)), .val (.int (own_bit p3 (16 : Int32))), .val (.int (own_bit p3 (32 : Int32))), .val (.int (own_bit p3 (64 : Int32))), .val (.long p0.toInt64), .second, .val (.long p1.toInt64), .second, .val (.long (p2 % (3 : Int32)).toInt64), .second, .val (.long (own_v p0 p1 p2 (own_md p3))), .second, .val (.ref b1), .val (.int (own_in (own_bit p3 (1 : Int32)) p0.toInt64.toInt (own_bit p3 (2 : Int32)) p1.toInt64.toInt (own_v p0 p1 p2 (own_md p3)).toInt)), .unset] [(.long (own_v p0 p1 p2 (own_md p3)))])) _
                refine XS.lload X30.here hx rfl (hb hby at_181) rfl ?_
                show Steps p.tables e below (T30.setTop (mkF m 183 #[.val (.int p0), .val (.int p1), .val (.int p2), .val (.int p3), .val (.int (own_bit p3 (1 : Int32))), .val (.int (own_bit p3 (2 : Int32))), .val (.int (own_md p3)), .val (.int (own_bit p3 (16 : Int32))), .val (.int (own_bit p3 (32 : Int32))), .val (.int (own_bit p3 (64 : Int32))), .val (.long p0.toInt64), .second, .val (.long p1.toInt64), .second, .val (.long (p2 % (3 : Int32)).toInt64), .second, .val (.long (own_v p0 p1 p2 (own_md p3))), .second, .val (.ref b1), .val (.int (own_in (own_bit p3 (1 : Int32)) p0.toInt64.toInt (own_bit p3 (2 : Int32)) p1.toInt64.toInt (own_v p0 p1 p2 (own_md p3)).toInt)), .unset] [(.long p0.toInt64), (.long (own_v p0 p1 p2 (own_md p3)))])) _
                refine XS.lcmp X30.here hx rfl (hb hby at_183) rfl ?_
                show Steps p.tables e below (T30.setTop (mkF m 184 #[.val (.int p0), .val (.int p1), .val (.int p2), .val (.int p3), .val (.int (own_bit p3 (1 : Int32))), .val (.int (own_bit p3 (2 : Int32))), .val (.int (own_md p3)), .val (.int (own_bit p3 (16 : Int32))), .val (.int (own_bit p3 (32 : Int32))), .val (.int (own_bit p3 (64 : Int32))), .val (.long p0.toInt64), .second, .val (.long p1.toInt64), .second, .val (.long (p2 % (3 : Int32)).toInt64), .second, .val (.long (own_v p0 p1 p2 (own_md p3))), .second, .val (.ref b1), .val (.int (own_in (own_bit p3 (1 : Int32)) p0.toInt64.toInt (own_bit p3 (2 : Int32)) p1.toInt64.toInt (own_v p0 p1 p2 (own_md p3)).toInt)), .unset] [(.int (lcmpW (own_v p0 p1 p2 (own_md p3)) p0.toInt64))])) _
                refine XS.ifNo X30.here hx rfl (hb hby at_184) rfl ((if0 _ _).trans (flt q1).1) ?_
                show Steps p.tables e below (T30.setTop (mkF m 187 #[.val (.int p0), .val (.int p1), .val (.int p2), .val (.int p3), .val (.int (own_bit p3 (1 : Int32))), .val (.int (own_bit p3 (2 : Int32))), .val (.int (own_md p3)), .val (.int (own_bit p3 (16 : Int32))), .val (.int (own_bit p3 (32 : Int32))), .val (.int (own_bit p3 (64 : Int32))), .val (.long p0.toInt64), .second, .val (.long p1.toInt64), .second, .val (.long (p2 % (3 : Int32)).toInt64), .second, .val (.long (own_v p0 p1 p2 (own_md p3))), .second, .val (.ref b1), .val (.int (own_in (own_bit p3 (1 : Int32)) p0.toInt64.toInt (own_bit p3 (2 : Int32)) p1.toInt64.toInt (own_v p0 p1 p2 (own_md p3)).toInt)), .unset] [])) _
                refine XS.lload X30.here hx rfl (hb hby at_187) rfl ?_
                show Steps p.tables e below (T30.setTop (mkF m 189 #[.val (.int p0), .val (.int p1), .val (.int p2), .val (.int p3), .val (.int (own_bit p3 (1 : Int32))), .val (.int (own_bit p3 (2 : Int32))), .val (.int (own_md p3)), .val (.int (own_bit p3 (16 : Int32))), .val (.int (own_bit p3 (32 : Int32))), .val (.int (own_bit p3 (64 : Int32))), .val (.long p0.toInt64), .second, .val (.long p1.toInt64), .second, .val (.long (p2 % (3 : Int32)).toInt64), .second, .val (.long (own_v p0 p1 p2 (own_md p3))), .second, .val (.ref b1), .val (.int (own_in (own_bit p3 (1 : Int32)) p0.toInt64.toInt (own_bit p3 (2 : Int32)) p1.toInt64.toInt (own_v p0 p1 p2 (own_md p3)).toInt)), .unset] [(.long (own_v p0 p1 p2 (own_md p3)))])) _
                refine XS.lload X30.here hx rfl (hb hby at_189) rfl ?_
                show Steps p.tables e below (T30.setTop (mkF m 191 #[.val (.int p0), .val (.int p1), .val (.int p2), .val (.int p3), .val (.int (own_bit p3 (1 : Int32))), .val (.int (own_bit p3 (2 : Int32))), .val (.int (own_md p3)), .val (.int (own_bit p3 (16 : Int32))), .val (.int (own_bit p3 (32 : Int32))), .val (.int (own_bit p3 (64 : Int32))), .val (.long p0.toInt64), .second, .val (.long p1.toInt64), .second, .val (.long (p2 % (3 : Int32)).toInt64), .second, .val (.long (own_v p0 p1 p2 (own_md p3))), .second, .val (.ref b1), .val (.int (own_in (own_bit p3 (1 : Int32)) p0.toInt64.toInt (own_bit p3 (2 : Int32)) p1.toInt64.toInt (own_v p0 p1 p2 (own_md p3)).toInt)), .unset] [(.long p1.toInt64), (.long (own_v p0 p1 p2 (own_md p3)))])) _
                refine XS.lcmp X30.here hx rfl (hb hby at_191) rfl ?_
                show Steps p.tables e below (T30.setTop (mkF m 192 #[.val (.int p0), .val (.int p1), .val (.int p2), .val (.int p3), .val (.int (own_bit p3 (1 : Int32))), .val (.int (own_bit p3 (2 : Int32))), .val (.int (own_md p3)), .val (.int (own_bit p3 (16 : Int32))), .val (.int (own_bit p3 (32 : Int32))), .val (.int (own_bit p3 (64 : Int32))), .val (.long p0.toInt64), .second, .val (.long p1.toInt64), .second, .val (.long (p2 % (3 : Int32)).toInt64), .second, .val (.long (own_v p0 p1 p2 (own_md p3))), .second, .val (.ref b1), .val (.int (own_in (own_bit p3 (1 : Int32)) p0.toInt64.toInt (own_bit p3 (2 : Int32)) p1.toInt64.toInt (own_v p0 p1 p2 (own_md p3)).toInt)), .unset] [(.int (lcmpW (own_v p0 p1 p2 (own_md p3)) p1.toInt64))])) _
                refine XS.ifNo X30.here hx rfl (hb hby at_192) rfl ((if0 _ _).trans (flt q2).2.2.1) ?_
                show Steps p.tables e below (T30.setTop (mkF m 195 #[.val (.int p0), .val (.int p1), .val (.int p2), .val (.int p3), .val (.int (own_bit p3 (1 : Int32))), .val (.int (own_bit p3 (2 : Int32))), .val (.int (own_md p3)), .val (.int (own_bit p3 (16 : Int32))), .val (.int (own_bit p3 (32 : Int32))), .val (.int (own_bit p3 (64 : Int32))), .val (.long p0.toInt64), .second, .val (.long p1.toInt64), .second, .val (.long (p2 % (3 : Int32)).toInt64), .second, .val (.long (own_v p0 p1 p2 (own_md p3))), .second, .val (.ref b1), .val (.int (own_in (own_bit p3 (1 : Int32)) p0.toInt64.toInt (own_bit p3 (2 : Int32)) p1.toInt64.toInt (own_v p0 p1 p2 (own_md p3)).toInt)), .unset] [])) _
                refine XS.lload X30.here hx rfl (hb hby at_195) rfl ?_
                show Steps p.tables e below (T30.setTop (mkF m 197 #[.val (.int p0), .val (.int p1), .val (.int p2), .val (.int p3), .val (.int (own_bit p3 (1 : Int32))), .val (.int (own_bit p3 (2 : Int32))), .val (.int (own_md p3)), .val (.int (own_bit p3 (16 : Int32))), .val (.int (own_bit p3 (32 : Int32))), .val (.int (own_bit p3 (64 : Int32))), .val (.long p0.toInt64), .second, .val (.long p1.toInt64), .second, .val (.long (p2 % (3 : Int32)).toInt64), .second, .val (.long (own_v p0 p1 p2 (own_md p3))), .second, .val (.ref b1), .val (.int (own_in (own_bit p3 (1 : Int32)) p0.toInt64.toInt (own_bit p3 (2 : Int32)) p1.toInt64.toInt (own_v p0 p1 p2 (own_md p3)).toInt)), .unset] [(.long (own_v p0 p1 p2 (own_md p3)))])) _
                refine XS.lload X30.here hx rfl (hb hby at_197) rfl ?_
                show Steps p.tables e below (T30.setTop (mkF m 199 #[.val (.int p0), .val (.int p1), .val (.int p2), .val (.int p3), .val (.int (own_bit p3 (1 : Int32))), .val (.int (own_bit p3 (2 : Int32))), .val (.int (own_md p3)), .val (.int (own_bit p3 (16 : Int32))), .val (.int (own_bit p3 (32 : Int32))), .val (.int (own_bit p3 (64 : Int32))), .val (.long p0.toInt64), .second, .val (.long p1.toInt64), .second, .val (.long (p2 % (3 : Int32)).toInt64), .second, .val (.long (own_v p0 p1 p2 (own_md p3))), .second, .val (.ref b1), .val (.int (own_in (own_bit p3 (1 : Int32)) p0.toInt64.toInt (own_bit p3 (2 : Int32)) p1.toInt64.toInt (own_v p0 p1 p2 (own_md p3)).toInt)), .unset] [(.long p0.toInt64), (.long (own_v p0 p1 p2 (own_md p3)))])) _
                refine XS.lcmp X30.here hx rfl (hb hby at_199) rfl ?_
                show Steps p.tables e below (T30.setTop (mkF m 200 #[.val (.int p0), .val (.int p1), .val (.int p2), .val (.int p3), .val (.int (own_bit p3 (1 : Int32))), .val (.int (own_bit p3 (2 : Int32))), .val (.int (own_md p3)), .val (.int (own_bit p3 (16 : Int32))), .val (.int (own_bit p3 (32 : Int32))), .val (.int (own_bit p3 (64 : Int32))), .val (.long p0.toInt64), .second, .val (.long p1.toInt64), .second, .val (.long (p2 % (3 : Int32)).toInt64), .second, .val (.long (own_v p0 p1 p2 (own_md p3))), .second, .val (.ref b1), .val (.int (own_in (own_bit p3 (1 : Int32)) p0.toInt64.toInt (own_bit p3 (2 : Int32)) p1.toInt64.toInt (own_v p0 p1 p2 (own_md p3)).toInt)), .unset] [(.int (lcmpW (own_v p0 p1 p2 (own_md p3)) p0.toInt64))])) _
                refine XS.ifNo X30.here hx rfl (hb hby at_200) rfl ((if0 _ _).trans (teq q3).2) ?_
                show Steps p.tables e below (T30.setTop (mkF m 203 #[.val (.int p0), .val (.int p1), .val (.int p2), .val (.int p3), .val (.int (own_bit p3 (1 : Int32))), .val (.int (own_bit p3 (2 : Int32))), .val (.int (own_md p3)), .val (.int (own_bit p3 (16 : Int32))), .val (.int (own_bit p3 (32 : Int32))), .val (.int (own_bit p3 (64 : Int32))), .val (.long p0.toInt64), .second, .val (.long p1.toInt64), .second, .val (.long (p2 % (3 : Int32)).toInt64), .second, .val (.long (own_v p0 p1 p2 (own_md p3))), .second, .val (.ref b1), .val (.int (own_in (own_bit p3 (1 : Int32)) p0.toInt64.toInt (own_bit p3 (2 : Int32)) p1.toInt64.toInt (own_v p0 p1 p2 (own_md p3)).toInt)), .unset] [])) _
                refine XS.iload X30.here hx rfl (hb hby at_203) rfl ?_
                show Steps p.tables e below (T30.setTop (mkF m 205 #[.val (.int p0), .val (.int p1), .val (.int p2), .val (.int p3), .val (.int (own_bit p3 (1 : Int32))), .val (.int (own_bit p3 (2 : Int32))), .val (.int (own_md p3)), .val (.int (own_bit p3 (16 : Int32))), .val (.int (own_bit p3 (32 : Int32))), .val (.int (own_bit p3 (64 : Int32))), .val (.long p0.toInt64), .second, .val (.long p1.toInt64), .second, .val (.long (p2 % (3 : Int32)).toInt64), .second, .val (.long (own_v p0 p1 p2 (own_md p3))), .second, .val (.ref b1), .val (.int (own_in (own_bit p3 (1 : Int32)) p0.toInt64.toInt (own_bit p3 (2 : Int32)) p1.toInt64.toInt (own_v p0 p1 p2 (own_md p3)).toInt)), .unset] [(.int (own_bit p3 (1 : Int32)))])) _
                refine XS.ifNo X30.here hx rfl (hb hby at_205) rfl ((if0 _ _).trans (feq q4).1) ?_
                show Steps p.tables e below (T30.setTop (mkF m 208 #[.val (.int p0), .val (.int p1), .val (.int p2), .val (.int p3), .val (.int (own_bit p3 (1 : Int32))), .val (.int (own_bit p3 (2 : Int32))), .val (.int (own_md p3)), .val (.int (own_bit p3 (16 : Int32))), .val (.int (own_bit p3 (32 : Int32))), .val (.int (own_bit p3 (64 : Int32))), .val (.long p0.toInt64), .second, .val (.long p1.toInt64), .second, .val (.long (p2 % (3 : Int32)).toInt64), .second, .val (.long (own_v p0 p1 p2 (own_md p3))), .second, .val (.ref b1), .val (.int (own_in (own_bit p3 (1 : Int32)) p0.toInt64.toInt (own_bit p3 (2 : Int32)) p1.toInt64.toInt (own_v p0 p1 p2 (own_md p3)).toInt)), .unset] [])) _
                refine XS.lload X30.here hx rfl (hb hby at_208) rfl ?_
                show Steps p.tables e below (T30.setTop (mkF m 210 #[.val (.int p0), .val (.int p1), .val (.int p2), .val (.int p3), .val (.int (own_bit p3 (1 : Int32))), .val (.int (own_bit p3 (2 : Int32))), .val (.int (own_md p3)), .val (.int (own_bit p3 (16 : Int32))), .val (.int (own_bit p3 (32 : Int32))), .val (.int (own_bit p3 (64 : Int32))), .val (.long p0.toInt64), .second, .val (.long p1.toInt64), .second, .val (.long (p2 % (3 : Int32)).toInt64), .second, .val (.long (own_v p0 p1 p2 (own_md p3))), .second, .val (.ref b1), .val (.int (own_in (own_bit p3 (1 : Int32)) p0.toInt64.toInt (own_bit p3 (2 : Int32)) p1.toInt64.toInt (own_v p0 p1 p2 (own_md p3)).toInt)), .unset] [(.long (own_v p0 p1 p2 (own_md p3)))])) _
                refine XS.lload X30.here hx rfl (hb hby at_210) rfl ?_
                show Steps p.tables e below (T30.setTop (mkF m 212 #[.val (.int p0), .val (.int p1), .val (.int p2), .val (.int p3), .val (.int (own_bit p3 (1 : Int32))), .val (.int (own_bit p3 (2 : Int32))), .val (.int (own_md p3)), .val (.int (own_bit p3 (16 : Int32))), .val (.int (own_bit p3 (32 : Int32))), .val (.int (own_bit p3 (64 : Int32))), .val (.long p0.toInt64), .second, .val (.long p1.toInt64), .second, .val (.long (p2 % (3 : Int32)).toInt64), .second, .val (.long (own_v p0 p1 p2 (own_md p3))), .second, .val (.ref b1), .val (.int (own_in (own_bit p3 (1 : Int32)) p0.toInt64.toInt (own_bit p3 (2 : Int32)) p1.toInt64.toInt (own_v p0 p1 p2 (own_md p3)).toInt)), .unset] [(.long p1.toInt64), (.long (own_v p0 p1 p2 (own_md p3)))])) _
                refine XS.lcmp X30.here hx rfl (hb hby at_212) rfl ?_
                show Steps p.tables e below (T30.setTop (mkF m 213 #[.val (.int p0), .val (.int p1), .val (.int p2), .val (.int p3), .val (.int (own_bit p3 (1 : Int32))), .val (.int (own_bit p3 (2 : Int32))), .val (.int (own_md p3)), .val (.int (own_bit p3 (16 : Int32))), .val (.int (own_bit p3 (32 : Int32))), .val (.int (own_bit p3 (64 : Int32))), .val (.long p0.toInt64), .second, .val (.long p1.toInt64), .second, .val (.long (p2 % (3 : Int32)).toInt64), .second, .val (.long (own_v p0 p1 p2 (own_md p3))), .second, .val (.ref b1), .val (.int (own_in (own_bit p3 (1 : Int32)) p0.toInt64.toInt (own_bit p3 (2 : Int32)) p1.toInt64.toInt (own_v p0 p1 p2 (own_md p3)).toInt)), .unset] [(.int (lcmpW (own_v p0 p1 p2 (own_md p3)) p1.toInt64))])) _
                refine XS.ifNo X30.here hx rfl (hb hby at_213) rfl ((if0 _ _).trans (teq q5).2) ?_
                show Steps p.tables e below (T30.setTop (mkF m 216 #[.val (.int p0), .val (.int p1), .val (.int p2), .val (.int p3), .val (.int (own_bit p3 (1 : Int32))), .val (.int (own_bit p3 (2 : Int32))), .val (.int (own_md p3)), .val (.int (own_bit p3 (16 : Int32))), .val (.int (own_bit p3 (32 : Int32))), .val (.int (own_bit p3 (64 : Int32))), .val (.long p0.toInt64), .second, .val (.long p1.toInt64), .second, .val (.long (p2 % (3 : Int32)).toInt64), .second, .val (.long (own_v p0 p1 p2 (own_md p3))), .second, .val (.ref b1), .val (.int (own_in (own_bit p3 (1 : Int32)) p0.toInt64.toInt (own_bit p3 (2 : Int32)) p1.toInt64.toInt (own_v p0 p1 p2 (own_md p3)).toInt)), .unset] [])) _
                refine XS.iload X30.here hx rfl (hb hby at_216) rfl ?_
                show Steps p.tables e below (T30.setTop (mkF m 218 #[.val (.int p0), .val (.int p1), .val (.int p2), .val (.int p3), .val (.int (own_bit p3 (1 : Int32))), .val (.int (own_bit p3 (2 : Int32))), .val (.int (own_md p3)), .val (.int (own_bit p3 (16 : Int32))), .val (.int (own_bit p3 (32 : Int32))), .val (.int (own_bit p3 (64 : Int32))), .val (.long p0.toInt64), .second, .val (.long p1.toInt64), .second, .val (.long (p2 % (3 : Int32)).toInt64), .second, .val (.long (own_v p0 p1 p2 (own_md p3))), .second, .val (.ref b1), .val (.int (own_in (own_bit p3 (1 : Int32)) p0.toInt64.toInt (own_bit p3 (2 : Int32)) p1.toInt64.toInt (own_v p0 p1 p2 (own_md p3)).toInt)), .unset] [(.int (own_bit p3 (2 : Int32)))])) _
                refine XS.ifNo X30.here hx rfl (hb hby at_218) rfl ((if0 _ _).trans (feq q6).1) ?_
                show Steps p.tables e below (T30.setTop (mkF m 221 #[.val (.int p0), .val (.int p1), .val (.int p2), .val (.int p3), .val (.int (own_bit p3 (1 : Int32))), .val (.int (own_bit p3 (2 : Int32))), .val (.int (own_md p3)), .val (.int (own_bit p3 (16 : Int32))), .val (.int (own_bit p3 (32 : Int32))), .val (.int (own_bit p3 (64 : Int32))), .val (.long p0.toInt64), .second, .val (.long p1.toInt64), .second, .val (.long (p2 % (3 : Int32)).toInt64), .second, .val (.long (own_v p0 p1 p2 (own_md p3))), .second, .val (.ref b1), .val (.int (own_in (own_bit p3 (1 : Int32)) p0.toInt64.toInt (own_bit p3 (2 : Int32)) p1.toInt64.toInt (own_v p0 p1 p2 (own_md p3)).toInt)), .unset] [])) _
                refine XS.iconst X30.here hx rfl (hb hby at_221) ?_
                show Steps p.tables e below (T30.setTop (mkF m 222 #[.val (.int p0), .val (.int p1), .val (.int p2), .val (.int p3), .val (.int (own_bit p3 (1 : Int32))), .val (.int (own_bit p3 (2 : Int32))), .val (.int (own_md p3)), .val (.int (own_bit p3 (16 : Int32))), .val (.int (own_bit p3 (32 : Int32))), .val (.int (own_bit p3 (64 : Int32))), .val (.long p0.toInt64), .second, .val (.long p1.toInt64), .second, .val (.long (p2 % (3 : Int32)).toInt64), .second, .val (.long (own_v p0 p1 p2 (own_md p3))), .second, .val (.ref b1), .val (.int (own_in (own_bit p3 (1 : Int32)) p0.toInt64.toInt (own_bit p3 (2 : Int32)) p1.toInt64.toInt (own_v p0 p1 p2 (own_md p3)).toInt)), .unset] [(.int (1 : Int32))])) _
                refine XS.goto X30.here hx rfl (pc0 := 222) (pc' := 226) rfl (hb hby at_222) (by decide) (by decide) ?_
                show Steps p.tables e below (T30.setTop (mkF m 226 #[.val (.int p0), .val (.int p1), .val (.int p2), .val (.int p3), .val (.int (own_bit p3 (1 : Int32))), .val (.int (own_bit p3 (2 : Int32))), .val (.int (own_md p3)), .val (.int (own_bit p3 (16 : Int32))), .val (.int (own_bit p3 (32 : Int32))), .val (.int (own_bit p3 (64 : Int32))), .val (.long p0.toInt64), .second, .val (.long p1.toInt64), .second, .val (.long (p2 % (3 : Int32)).toInt64), .second, .val (.long (own_v p0 p1 p2 (own_md p3))), .second, .val (.ref b1), .val (.int (own_in (own_bit p3 (1 : Int32)) p0.toInt64.toInt (own_bit p3 (2 : Int32)) p1.toInt64.toInt (own_v p0 p1 p2 (own_md p3)).toInt)), .unset] [(.int (1 : Int32))])) _
                have eI : (own_in (own_bit p3 (1 : Int32)) p0.toInt64.toInt (own_bit p3 (2 : Int32)) p1.toInt64.toInt (own_v p0 p1 p2 (own_md p3)).toInt) = (1 : Int32) := own_b1 ⟨own_d1 (fun g => q1 (c1.mpr g)) (Or.inl q4), own_d2 (fun g => q2 (c2.mpr g)) (Or.inl q6)⟩
                rw [eI] at k226 ⊢
                exact k226
            · show Steps p.tables e below (T30.setTop (mkF m 179 #[.val (.int p0), .val (.int p1), .val (.int p2), .val (.int p3), .val (.int (own_bit p3 (1 : Int32))), .val (.int (own_bit p3 (2 : Int32))), .val (.int (own_md p3)), .val (.int (own_bit p3 (16 : Int32))), .val (.int (own_bit p3 (32 : Int32))), .val (.int (own_bit p3 (64 : Int32))), .val (.long p0.toInt64), .second, .val (.long p1.toInt64), .second, .val (.long (p2 % (3 : Int32)).toInt64), .second, .val (.long (own_v p0 p1 p2 (own_md p3))), .second, .val (.ref b1), .val (.int (own_in (own_bit p3 (1 : Int32)) p0.toInt64.toInt (own_bit p3 (2 : Int32)) p1.toInt64.toInt (own_v p0 p1 p2 (own_md p3)).toInt)), .unset] [])) _
              refine XS.lload X30.here hx rfl (hb hby at_179) rfl ?_
              show Steps p.tables e below (T30.setTop (mkF m 181 #[.val (.int p0), .val (.int p1), .val (.int p2), .val (.int p3), .val (.int (own_bit p3 (1 : Int32))), .val (.int (own_bit p3 (2 : Int32))), .val (.int (own_md p3)), .val (.int (own_bit p3 (16 : Int32))), .val (.int (own_bit p3 (32 : Int32))), .val (.int (own_bit p3 (64 : Int32))), .val (.long p0.toInt64), .second, .val (.long p1.toInt64), .second, .val (.long (p2 % (3 : Int32)).toInt64), .second, .val (.long (own_v p0 p1 p2 (own_md p3))), .second, .val (.ref b1), .val (.int (own_in (own_bit p3 (1 : Int32)) p0.toInt64.toInt (own_bit p3 (2 : Int32)) p1.toInt64.toInt (own_v p0 p1 p2 (own_md p3)).toInt)), .unset] [(.long (own_v p0 p1 p2 (own_md p3)))])) _
              refine XS.lload X30.here hx rfl (hb hby at_181) rfl ?_
              show Steps p.tables e below (T30.setTop (mkF m 183 #[.val (.int p0), .val (.int p1), .val (.int p2), .val (.int p3), .val (.int (own_bit p3 (1 : Int32))), .val (.int (own_bit p3 (2 : Int32))), .val (.int (own_md p3)), .val (.int (own_bit p3 (16 : Int32))), .val (.int (own_bit p3 (32 : Int32))), .val (.int (own_bit p3 (64 : Int32))), .val (.long p0.toInt64), .second, .val (.long p1.toInt64), .second, .val (.long (p2 % (3 : Int32)).toInt64), .second, .val (.long (own_v p0 p1 p2 (own_md p3))), .second, .val (.ref b1), .val (.int (own_in (own_bit p3 (1 : Int32)) p0.toInt64.toInt (own_bit p3 (2 : Int32)) p1.toInt64.toInt (own_v p0 p1 p2 (own_md p3)).toInt)), .unset] [(.long p0.toInt64), (.long (own_v p0 p1 p2 (own_md p3)))])) _
              refine XS.lcmp X30.here hx rfl (hb hby at_183) rfl ?_
              show Steps p.tables e below (T30.setTop (mkF m 184 #[.val (.int p0), .val (.int p1), .val (.int p2), .val (.int p3), .val (.int (own_bit p3 (1 : Int32))), .val (.int (own_bit p3 (2 : Int32))), .val (.int (own_md p3)), .val (.int (own_bit p3 (16 : Int32))), .val (.int (own_bit p3 (32 : Int32))), .val (.int (own_bit p3 (64 : Int32))), .val (.long p0.toInt64), .second, .val (.long p1.toInt64), .second, .val (.long (p2 % (3 : Int32)).toInt64), .second, .val (.long (own_v p0 p1 p2 (own_md p3))), .second, .val (.ref b1), .val (.int (own_in (own_bit p3 (1 : Int32)) p0.toInt64.toInt (own_bit p3 (2 : Int32)) p1.toInt64.toInt (own_v p0 p1 p2 (own_md p3)).toInt)), .unset] [(.int (lcmpW (own_v p0 p1 p2 (own_md p3)) p0.toInt64))])) _
              refine XS.ifNo X30.here hx rfl (hb hby at_184) rfl ((if0 _ _).trans (flt q1).1) ?_
              show Steps p.tables e below (T30.setTop (mkF m 187 #[.val (.int p0), .val (.int p1), .val (.int p2), .val (.int p3), .val (.int (own_bit p3 (1 : Int32))), .val (.int (own_bit p3 (2 : Int32))), .val (.int (own_md p3)), .val (.int (own_bit p3 (16 : Int32))), .val (.int (own_bit p3 (32 : Int32))), .val (.int (own_bit p3 (64 : Int32))), .val (.long p0.toInt64), .second, .val (.long p1.toInt64), .second, .val (.long (p2 % (3 : Int32)).toInt64), .second, .val (.long (own_v p0 p1 p2 (own_md p3))), .second, .val (.ref b1), .val (.int (own_in (own_bit p3 (1 : Int32)) p0.toInt64.toInt (own_bit p3 (2 : Int32)) p1.toInt64.toInt (own_v p0 p1 p2 (own_md p3)).toInt)), .unset] [])) _
              refine XS.lload X30.here hx rfl (hb hby at_187) rfl ?_
              show Steps p.tables e below (T30.setTop (mkF m 189 #[.val (.int p0), .val (.int p1), .val (.int p2), .val (.int p3), .val (.int (own_bit p3 (1 : Int32))), .val (.int (own_bit p3 (2 : Int32))), .val (.int (own_md p3)), .val (.int (own_bit p3 (16 : Int32))), .val (.int (own_bit p3 (32 : Int32))), .val (.int (own_bit p3 (64 : Int32))), .val (.long p0.toInt64), .second, .val (.long p1.toInt64), .second, .val (.long (p2 % (3 : Int32)).toInt64), .second, .val (.long (own_v p0 p1 p2 (own_md p3))), .second, .val (.ref b1), .val (.int (own_in (own_bit p3 (1 : Int32)) p0.toInt64.toInt (own_bit p3 (2 : Int32)) p1.toInt64.toInt (own_v p0 p1 p2 (own_md p3)).toInt)), .unset] [(.long (own_v p0 p1 p2 (own_md p3)))])) _
              refine XS.lload X30.here hx rfl (hb hby at_189) rfl ?_
              show Steps p.tables e below (T30.setTop (mkF m 191 #[.val (.int p0), .val (.int p1), .val (.int p2), .val (.int p3), .val (.int (own_bit p3 (1 : Int32))), .val (.int (own_bit p3 (2 : Int32))), .val (.int (own_md p3)), .val (.int (own_bit p3 (16 : Int32))), .val (.int (own_bit p3 (32 : Int32))), .val (.int (own_bit p3 (64 : Int32))), .val (.long p0.toInt64), .second, .val (.long p1.toInt64), .second, .val (.long (p2 % (3 : Int32)).toInt64), .second, .val (.long (own_v p0 p1 p2 (own_md p3))), .second, .val (.ref b1), .val (.int (own_in (own_bit p3 (1 : Int32)) p0.toInt64.toInt (own_bit p3 (2 : Int32)) p1.toInt64.toInt (own_v p0 p1 p2 (own_md p3)).toInt)), .unset] [(.long p1.toInt64), (.long (own_v p0 p1 p2 (own_md p3)))])) _
              refine XS.lcmp X30.here hx rfl (hb hby at_191) rfl ?_
              show Steps p.tables e below (T30.setTop (mkF m 192 #[.val (.int p0), .val (.int p1), .val (.int p2), .val (.int p3), .val (.int (own_bit p3 (1 : Int32))), .val (.int (own_bit p3 (2 : Int32))), .val (.int (own_md p3)), .val (.int (own_bit p3 (16 : Int32))), .val (.int (own_bit p3 (32 : Int32))), .val (.int (own_bit p3 (64 : Int32))), .val (.long p0.toInt64), .second, .val (.long p1.toInt64), .second, .val (.long (p2 % (3 : Int32)).toInt64), .second, .val (.long (own_v p0 p1 p2 (own_md p3))), .second, .val (.ref b1), .val (.int (own_in (own_bit p3 (1 : Int32)) p0.toInt64.toInt (own_bit p3 (2 : Int32)) p1.toInt64.toInt (own_v p0 p1 p2 (own_md p3)).toInt)), .unset] [(.int (lcmpW (own_v p0 p1 p2 (own_md p3)) p1.toInt64))])) _
              refine XS.ifNo X30.here hx rfl (hb hby at_192) rfl ((if0 _ _).trans (flt q2).2.2.1) ?_
              show Steps p.tables e below (T30.setTop (mkF m 195 #[.val (.int p0), .val (.int p1), .val (.int p2), .val (.int p3), .val (.int (own_bit p3 (1 : Int32))), .val (.int (own_bit p3 (2 : Int32))), .val (.int (own_md p3)), .val (.int (own_bit p3 (16 : Int32))), .val (.int (own_bit p3 (32 : Int32))), .val (.int (own_bit p3 (64 : Int32))), .val (.long p0.toInt64), .second, .val (.long p1.toInt64), .second, .val (.long (p2 % (3 : Int32)).toInt64), .second, .val (.long (own_v p0 p1 p2 (own_md p3))), .second, .val (.ref b1), .val (.int (own_in (own_bit p3 (1 : Int32)) p0.toInt64.toInt (own_bit p3 (2 : Int32)) p1.toInt64.toInt (own_v p0 p1 p2 (own_md p3)).toInt)), .unset] [])) _
              refine XS.lload X30.here hx rfl (hb hby at_195) rfl ?_
              show Steps p.tables e below (T30.setTop (mkF m 197 #[.val (.int p0), .val (.int p1), .val (.int p2), .val (.int p3), .val (.int (own_bit p3 (1 : Int32))), .val (.int (own_bit p3 (2 : Int32))), .val (.int (own_md p3)), .val (.int (own_bit p3 (16 : Int32))), .val (.int (own_bit p3 (32 : Int32))), .val (.int (own_bit p3 (64 : Int32))), .val (.long p0.toInt64), .second, .val (.long p1.toInt64), .second, .val (.long (p2 % (3 : Int32)).toInt64), .second, .val (.long (own_v p0 p1 p2 (own_md p3))), .second, .val (.ref b1), .val (.int (own_in (own_bit p3 (1 : Int32)) p0.toInt64.toInt (own_bit p3 (2 : Int32)) p1.toInt64.toInt (own_v p0 p1 p2 (own_md p3)).toInt)), .unset] [(.long (own_v p0 p1 p2 (own_md p3)))])) _
              refine XS.lload X30.here hx rfl (hb hby at_197) rfl ?_
              show Steps p.tables e below (T30.setTop (mkF m 199 #[.val (.int p0), .val (.int p1), .val (.int p2), .val (.int p3), .val (.int (own_bit p3 (1 : Int32))), .val (.int (own_bit p3 (2 : Int32))), .val (.int (own_md p3)), .val (.int (own_bit p3 (16 : Int32))), .val (.int (own_bit p3 (32 : Int32))), .val (.int (own_bit p3 (64 : Int32))), .val (.long p0.toInt64), .second, .val (.long p1.toInt64), .second, .val (.long (p2 % (3 : Int32)).toInt64), .second, .val (.long (own_v p0 p1 p2 (own_md p3))), .second, .val (.ref b1), .val (.int (own_in (own_bit p3 (1 : Int32)) p0.toInt64.toInt (own_bit p3 (2 : Int32)) p1.toInt64.toInt (own_v p0 p1 p2 (own_md p3)).toInt)), .unset] [(.long p0.toInt64), (.long (own_v p0 p1 p2 (own_md p3)))])) _
              refine XS.lcmp X30.here hx rfl (hb hby at_199) rfl ?_
              show Steps p.tables e below (T30.setTop (mkF m 200 #[.val (.int p0), .val (.int p1), .val (.int p2), .val (.int p3), .val (.int (own_bit p3 (1 : Int32))), .val (.int (own_bit p3 (2 : Int32))), .val (.int (own_md p3)), .val (.int (own_bit p3 (16 : Int32))), .val (.int (own_bit p3 (32 : Int32))), .val (.int (own_bit p3 (64 : Int32))), .val (.long p0.toInt64), .second, .val (.long p1.toInt64), .second, .val (.long (p2 % (3 : Int32)).toInt64), .second, .val (.long (own_v p0 p1 p2 (own_md p3))), .second, .val (.ref b1), .val (.int (own_in (own_bit p3 (1 : Int32)) p0.toInt64.toInt (own_bit p3 (2 : Int32)) p1.toInt64.toInt (own_v p0 p1 p2 (own_md p3)).toInt)), .unset] [(.int (lcmpW (own_v p0 p1 p2 (own_md p3)) p0.toInt64))])) _
              refine XS.ifNo X30.here hx rfl (hb hby at_200) rfl ((if0 _ _).trans (teq q3).2) ?_
              show Steps p.tables e below (T30.setTop (mkF m 203 #[.val (.int p0), .val (.int p1), .val (.int p2), .val (.int p3), .val (.int (own_bit p3 (1 : Int32))), .val (.int (own_bit p3 (2 : Int32))), .val (.int (own_md p3)), .val (.int (own_bit p3 (16 : Int32))), .val (.int (own_bit p3 (32 : Int32))), .val (.int (own_bit p3 (64 : Int32))), .val (.long p0.toInt64), .second, .val (.long p1.toInt64), .second, .val (.long (p2 % (3 : Int32)).toInt64), .second, .val (.long (own_v p0 p1 p2 (own_md p3))), .second, .val (.ref b1), .val (.int (own_in (own_bit p3 (1 : Int32)) p0.toInt64.toInt (own_bit p3 (2 : Int32)) p1.toInt64.toInt (own_v p0 p1 p2 (own_md p3)).toInt)), .unset] [])) _
              refine XS.iload X30.here hx rfl (hb hby at_203) rfl ?_
              show Steps p.tables e below (T30.setTop (mkF m 205 #[.val (.int p0), .val (.int p1), .val (.int p2), .val (.int p3), .val (.int (own_bit p3 (1 : Int32))), .val (.int (own_bit p3 (2 : Int32))), .val (.int (own_md p3)), .val (.int (own_bit p3 (16 : Int32))), .val (.int (own_bit p3 (32 : Int32))), .val (.int (own_bit p3 (64 : Int32))), .val (.long p0.toInt64), .second, .val (.long p1.toInt64), .second, .val (.long (p2 % (3 : Int32)).toInt64), .second, .val (.long (own_v p0 p1 p2 (own_md p3))), .second, .val (.ref b1), .val (.int (own_in (own_bit p3 (1 : Int32)) p0.toInt64.toInt (own_bit p3 (2 : Int32)) p1.toInt64.toInt (own_v p0 p1 p2 (own_md p3)).toInt)), .unset] [(.int (own_bit p3 (1 : Int32)))])) _
              refine XS.ifNo X30.here hx rfl (hb hby at_205) rfl ((if0 _ _).trans (feq q4).1) ?_
              show Steps p.tables e below (T30.setTop (mkF m 208 #[.val (.int p0), .val (.int p1), .val (.int p2), .val (.int p3), .val (.int (own_bit p3 (1 : Int32))), .val (.int (own_bit p3 (2 : Int32))), .val (.int (own_md p3)), .val (.int (own_bit p3 (16 : Int32))), .val (.int (own_bit p3 (32 : Int32))), .val (.int (own_bit p3 (64 : Int32))), .val (.long p0.toInt64), .second, .val (.long p1.toInt64), .second, .val (.long (p2 % (3 : Int32)).toInt64), .second, .val (.long (own_v p0 p1 p2 (own_md p3))), .second, .val (.ref b1), .val (.int (own_in (own_bit p3 (1 : Int32)) p0.toInt64.toInt (own_bit p3 (2 : Int32)) p1.toInt64.toInt (own_v p0 p1 p2 (own_md p3)).toInt)), .unset] [])) _
              refine XS.lload X30.here hx rfl (hb hby at_208) rfl ?_
              show Steps p.tables e below (T30.setTop (mkF m 210 #[.val (.int p0), .val (.int p1), .val (.int p2), .val (.int p3), .val (.int (own_bit p3 (1 : Int32))), .val (.int (own_bit p3 (2 : Int32))), .val (.int (own_md p3)), .val (.int (own_bit p3 (16 : Int32))), .val (.int (own_bit p3 (32 : Int32))), .val (.int (own_bit p3 (64 : Int32))), .val (.long p0.toInt64), .second, .val (.long p1.toInt64), .second, .val (.long (p2 % (3 : Int32)).toInt64), .second, .val (.long (own_v p0 p1 p2 (own_md p3))), .second, .val (.ref b1), .val (.int (own_in (own_bit p3 (1 : Int32)) p0.toInt64.toInt (own_bit p3 (2 : Int32)) p1.toInt64.toInt (own_v p0 p1 p2 (own_md p3)).toInt)), .unset] [(.long (own_v p0 p1 p2 (own_md p3)))])) _
              refine XS.lload X30.here hx rfl (hb hby at_210) rfl ?_
              show Steps p.tables e below (T30.setTop (mkF m 212 #[.val (.int p0), .val (.int p1), .val (.int p2), .val (.int p3), .val (.int (own_bit p3 (1 : Int32))), .val (.int (own_bit p3 (2 : Int32))), .val (.int (own_md p3)), .val (.int (own_bit p3 (16 : Int32))), .val (.int (own_bit p3 (32 : Int32))), .val (.int (own_bit p3 (64 : Int32))), .val (.long p0.toInt64), .second, .val (.long p1.toInt64), .second, .val (.long (p2 % (3 : Int32)).toInt64), .second, .val (.long (own_v p0 p1 p2 (own_md p3))), .second, .val (.ref b1), .val (.int (own_in (own_bit p3 (1 : Int32)) p0.toInt64.toInt (own_bit p3 (2 : Int32)) p1.toInt64.toInt (own_v p0 p1 p2 (own_md p3)).toInt)), .unset] [(.long p1.toInt64), (.long (own_v p0 p1 p2 (own_md p3)))])) _
              refine XS.lcmp X30.here hx rfl (hb hby at_212) rfl ?_
              show Steps p.tables e below (T30.setTop (mkF m 213 #[.val (.int p0), .val (.int p1), .val (.int p2), .val (.int p3), .val (.int (own_bit p3 (1 : Int32))), .val (.int (own_bit p3 (2 : Int32))), .val (.int (own_md p3)), .val (.int (own_bit p3 (16 : Int32))), .val (.int (own_bit p3 (32 : Int32))), .val (.int (own_bit p3 (64 : Int32))), .val (.long p0.toInt64), .second, .val (.long p1.toInt64), .second, .val (.long (p2 % (3 : Int32)).toInt64), .second, .val (.long (own_v p0 p1 p2 (own_md p3))), .second, .val (.ref b1), .val (.int (own_in (own_bit p3 (1 : Int32)) p0.toInt64.toInt (own_bit p3 (2 : Int32)) p1.toInt64.toInt (own_v p0 p1 p2 (own_md p3)).toInt)), .unset] [(.int (lcmpW (own_v p0 p1 p2 (own_md p3)) p1.toInt64))])) _
              refine XS.ifYes X30.here hx rfl (pc0 := 213) (pc' := 221) rfl (hb hby at_213) rfl ((if0 _ _).trans (feq q5).2) (by decide) (by decide) ?_
              show Steps p.tables e below (T30.setTop (mkF m 221 #[.val (.int p0), .val (.int p1), .val (.int p2), .val (.int p3), .val (.int (own_bit p3 (1 : Int32))), .val (.int (own_bit p3 (2 : Int32))), .val (.int (own_md p3)), .val (.int (own_bit p3 (16 : Int32))), .val (.int (own_bit p3 (32 : Int32))), .val (.int (own_bit p3 (64 : Int32))), .val (.long p0.toInt64), .second, .val (.long p1.toInt64), .second, .val (.long (p2 % (3 : Int32)).toInt64), .second, .val (.long (own_v p0 p1 p2 (own_md p3))), .second, .val (.ref b1), .val (.int (own_in (own_bit p3 (1 : Int32)) p0.toInt64.toInt (own_bit p3 (2 : Int32)) p1.toInt64.toInt (own_v p0 p1 p2 (own_md p3)).toInt)), .unset] [])) _
              refine XS.iconst X30.here hx rfl (hb hby at_221) ?_
              show Steps p.tables e below (T30.setTop (mkF m 222 #[.val (.int p0), .val (.int p1), .val (.int p2), .val (.int p3), .val (.int (own_bit p3 (1 : Int32))), .val (.int (own_bit p3 (2 : Int32))), .val (.int (own_md p3)), .val (.int (own_bit p3 (16 : Int32))), .val (.int (own_bit p3 (32 : Int32))), .val (.int (own_bit p3 (64 : Int32))), .val (.long p0.toInt64), .second, .val (.long p1.toInt64), .second, .val (.long (p2 % (3 : Int32)).toInt64), .second, .val (.long (own_v p0 p1 p2 (own_md p3))), .second, .val (.ref b1), .val (.int (own_in (own_bit p3 (1 : Int32)) p0.toInt64.toInt (own_bit p3 (2 : Int32)) p1.toInt64.toInt (own_v p0 p1 p2 (own_md p3)).toInt)), .unset] [(.int (1 : Int32))])) _
              refine XS.goto X30.here hx rfl (pc0 := 222) (pc' := 226) rfl (hb hby at_222) (by decide) (by decide) ?_
              show Steps p.tables e below (T30.setTop (mkF m 226 #[.val (.int p0), .val (.int p1), .val (.int p2), .val (.int p3), .val (.int (own_bit p3 (1 : Int32))), .val (.int (own_bit p3 (2 : Int32))), .val (.int (own_md p3)), .val (.int (own_bit p3 (16 : Int32))), .val (.int (own_bit p3 (32 : Int32))), .val (.int (own_bit p3 (64 : Int32))), .val (.long p0.toInt64), .second, .val (.long p1.toInt64), .second, .val (.long (p2 % (3 : Int32)).toInt64), .second, .val (.long (own_v p0 p1 p2 (own_md p3))), .second, .val (.ref b1), .val (.int (own_in (own_bit p3 (1 : Int32)) p0.toInt64.toInt (own_bit p3 (2 : Int32)) p1.toInt64.toInt (own_v p0 p1 p2 (own_md p3)).toInt)), .unset] [(.int (1 : Int32))])) _
              have eI : (own_in (own_bit p3 (1 : Int32)) p0.toInt64.toInt (own_bit p3 (2 : Int32)) p1.toInt64.toInt (own_v p0 p1 p2 (own_md p3)).toInt) = (1 : Int32) := own_b1 ⟨own_d1 (fun g => q1 (c1.mpr g)) (Or.inl q4), own_d2 (fun g => q2 (c2.mpr g)) (Or.inr (fun g => q5 (c4.mpr g)))⟩
              rw [eI] at k226 ⊢
              exact k226
        · by_cases q5 : (lcmpW (own_v p0 p1 p2 (own_md p3)) p1.toInt64) = (0 : Int32)
          · by_cases q6 : (own_bit p3 (2 : Int32)) = (0 : Int32)
            · show Steps p.tables e below (T30.setTop (mkF m 179 #[.val (.int p0), .val (.int p1), .val (.int p2), .val (.int p3), .val (.int (own_bit p3 (1 : Int32))), .val (.int (own_bit p3 (2 : Int32))), .val (.int (own_md p3)), .val (.int (own_bit p3 (16 : Int32))), .val (.int (own_bit p3 (32 : Int32))), .val (.int (own_bit p3 (64 : Int32))), .val (.long p0.toInt64), .second, .val (.long p1.toInt64), .second, .val (.long (p2 % (3 : Int32)).toInt64), .second, .val (.long (own_v p0 p1 p2 (own_md p3))), .second, .val (.ref b1), .val (.int (own_in (own_bit p3 (1 : Int32)) p0.toInt64.toInt (own_bit p3 (2 : Int32)) p1.toInt64.toInt (own_v p0 p1 p2 (own_md p3)).toInt)), .unset] [])) _
              refine XS.lload X30.here hx rfl (hb hby at_179) rfl ?_
              show Steps p.tables e below (T30.setTop (mkF m 181 #[.val (.int p0), .val (.int p1), .val (.int p2), .val (.int p3), .val (.int (own_bit p3 (1 : Int32))), .val (.int (own_bit p3 (2 : Int32))), .val (.int (own_md p3)), .val (.int (own_bit p3 (16 : Int32))), .val (.int (own_bit p3 (32 : Int32))), .val (.int (own_bit p3 (64 : Int32))), .val (.long p0.toInt64), .second, .val (.long p1.toInt64), .second, .val (.long (p2 % (3 : Int32)).toInt64), .second, .val (.long (own_v p0 p1 p2 (own_md p3))), .second, .val (.ref b1), .val (.int (own_in (own_bit p3 (1 : Int32)) p0.toInt64.toInt (own_bit p3 (2 : Int32)) p1.toInt64.toInt (own_v p0 p1 p2 (own_md p3)).toInt)), .unset] [(.long (own_v p0 p1 p2 (own_md p3)))])) _
              refine XS.lload X30.here hx rfl (hb hby at_181) rfl ?_
              show Steps p.tables e below (T30.setTop (mkF m 183 #[.val (.int p0), .val (.int p1), .val (.int p2), .val (.int p3), .val (.int (own_bit p3 (1 : Int32))), .val (.int (own_bit p3 (2 : Int32))), .val (.int (own_md p3)), .val (.int (own_bit p3 (16 : Int32))), .val (.int (own_bit p3 (32 : Int32))), .val (.int (own_bit p3 (64 : Int32))), .val (.long p0.toInt64), .second, .val (.long p1.toInt64), .second, .val (.long (p2 % (3 : Int32)).toInt64), .second, .val (.long (own_v p0 p1 p2 (own_md p3))), .second, .val (.ref b1), .val (.int (own_in (own_bit p3 (1 : Int32)) p0.toInt64.toInt (own_bit p3 (2 : Int32)) p1.toInt64.toInt (own_v p0 p1 p2 (own_md p3)).toInt)), .unset] [(.long p0.toInt64), (.long (own_v p0 p1 p2 (own_md p3)))])) _
              refine XS.lcmp X30.here hx rfl (hb hby at_183) rfl ?_
              show Steps p.tables e below (T30.setTop (mkF m 184 #[.val (.int p0), .val (.int p1), .val (.int p2), .val (.int p3), .val (.int (own_bit p3 (1 : Int32))), .val (.int (own_bit p3 (2 : Int32))), .val (.int (own_md p3)), .val (.int (own_bit p3 (16 : Int32))), .val (.int (own_bit p3 (32 : Int32))), .val (.int (own_bit p3 (64 : Int32))), .val (.long p0.toInt64), .second, .val (.long p1.toInt64), .second, .val (.long (p2 % (3 : Int32)).toInt64), .second, .val (.long (own_v p0 p1 p2 (own_md p3))), .second, .val (.ref b1), .val (.int (own_in (own_bit p3 (1 : Int32)) p0.toInt64.toInt (own_bit p3 (2 : Int32)) p1.toInt64.toInt (own_v p0 p1 p2 (own_md p3)).toInt)), .unset] [(.int (lcmpW (own_v p0 p1 p2 (own_md p3)) p0.toInt64))])) _
              refine XS.ifNo X30.here hx rfl (hb hby at_184) rfl ((if0 _ _).trans (flt q1).1) ?_
              show Steps p.tables e below (T30.setTop (mkF m 187 #[.val (.int p0), .val (.int p1), .val (.int p2), .val (.int p3), .val (.int (own_bit p3 (1 : Int32))), .val (.int (own_bit p3 (2 : Int32))), .val (.int (own_md p3)), .val (.int (own_bit p3 (16 : Int32))), .val (.int (own_bit p3 (32 : Int32))), .val (.int (own_bit p3 (64 : Int32))), .val (.long p0.toInt64), .second, .val (.long p1.toInt64), .second, .val (.long (p2 % (3 : Int32)).toInt64), .second, .val (.long (own_v p0 p1 p2 (own_md p3))), .second, .val (.ref b1), .val (.int (own_in (own_bit p3 (1 : Int32)) p0.toInt64.toInt (own_bit p3 (2 : Int32)) p1.toInt64.toInt (own_v p0 p1 p2 (own_md p3)).toInt)), .unset] [])) _
              refine XS.lload X30.here hx rfl (hb hby at_187) rfl ?_
              show Steps p.tables e below (T30.setTop (mkF m 189 #[.val (.int p0), .val (.int p1), .val (.int p2), .val (.int p3), .val (.int (own_bit p3 (1 : Int32))), .val (.int (own_bit p3 (2 : Int32))), .val (.int (own_md p3)), .val (.int (own_bit p3 (16 : Int32))), .val (.int (own_bit p3 (32 : Int32))), .val (.int (own_bit p3 (64 : Int32))), .val (.long p0.toInt64), .second, .val (.long p1.toInt64), .second, .val (.long (p2 % (3 : Int32)).toInt64), .second, .val (.long (own_v p0 p1 p2 (own_md p3))), .second, .val (.ref b1), .val (.int (own_in (own_bit p3 (1 : Int32)) p0.toInt64.toInt (own_bit p3 (2 : Int32)) p1.toInt64.toInt (own_v p0 p1 p2 (own_md p3)).toInt)), .unset] [(.long (own_v p0 p1 p2 (own_md p3)))])) _
              refine XS.lload X30.here hx rfl (hb hby at_189) rfl ?_
              show Steps p.tables e below (T30.setTop (mkF m 191 #[.val (.int p0), .val (.int p1), .val (.int p2), .val (.int p3), .val (.int (own_bit p3 (1 : Int32))), .val (.int (own_bit p3 (2 : Int32))), .val (.int (own_md p3)), .val (.int (own_bit p3 (16 : Int32))), .val (.int (own_bit p3 (32 : Int32))), .val (.int (own_bit p3 (64 : Int32))), .val (.long p0.toInt64), .second, .val (.long p1.toInt64), .second, .val (.long (p2 % (3 : Int32)).toInt64), .second, .val (.long (own_v p0 p1 p2 (own_md p3))), .second, .val (.ref b1), .val (.int (own_in (own_bit p3 (1 : Int32)) p0.toInt64.toInt (own_bit p3 (2 : Int32)) p1.toInt64.toInt (own_v p0 p1 p2 (own_md p3)).toInt)), .unset] [(.long p1.toInt64), (.long (own_v p0 p1 p2 (own_md p3)))])) _
              refine XS.lcmp X30.here hx rfl (hb hby at_191) rfl ?_
              show Steps p.tables e below (T30.setTop (mkF m 192 #[.val (.int p0), .val (.int p1), .val (.int p2), .val (.int p3), .val (.int (own_bit p3 (1 : Int32))), .val (.int (own_bit p3 (2 : Int32))), .val (.int (own_md p3)), .val (.int (own_bit p3 (16 : Int32))), .val (.int (own_bit p3 (32 : Int32))), .val (.int (own_bit p3 (64 : Int32))), .val (.long p0.toInt64), .second, .val (.long p1.toInt64), .second, .val (.long (p2 % (3 : Int32)).toInt64), .second, .val (.long (own_v p0 p1 p2 (own_md p3))), .second, .val (.ref b1), .val (.int (own_in (own_bit p3 (1 : Int32)) p0.toInt64.toInt (own_bit p3 (2 : Int32)) p1.toInt64.toInt (own_v p0 p1 p2 (own_md p3)).toInt)), .unset] [(.int (lcmpW (own_v p0 p1 p2 (own_md p3)) p1.toInt64))])) _
              refine XS.ifNo X30.here hx rfl (hb hby at_192) rfl ((if0 _ _).trans (flt q2).2.2.1) ?_
              show Steps p.tables e below (T30.setTop (mkF m 195 #[.val (.int p0), .val (.int p1), .val (.int p2), .val (.int p3), .val (.int (own_bit p3 (1 : Int32))), .val (.int (own_bit p3 (2 : Int32))), .val (.int (own_md p3)), .val (.int (own_bit p3 (16 : Int32))), .val (.int (own_bit p3 (32 : Int32))), .val (.int (own_bit p3 (64 : Int32))), .val (.long p0.toInt64), .second, .val (.long p1.toInt64), .second, .val (.long (p2 % (3 : Int32)).toInt64), .second, .val (.long (own_v p0 p1 p2 (own_md p3))), .second, .val (.ref b1), .val (.int (own_in (own_bit p3 (1 : Int32)) p0.toInt64.toInt (own_bit p3 (2 : Int32)) p1.toInt64.toInt (own_v p0 p1 p2 (own_md p3)).toInt)), .unset] [])) _
              refine XS.lload X30.here hx rfl (hb hby at_195) rfl ?_
              show Steps p.tables e below (T30.setTop (mkF m 197 #[.val (.int p0), .val (.int p1), .val (.int p2), .val (.int p3), .val (.int (own_bit p3 (1 : Int32))), .val (.int (own_bit p3 (2 : Int32))), .val (.int (own_md p3)), .val (.int (own_bit p3 (16 : Int32))), .val (.int (own_bit p3 (32 : Int32))), .val (.int (own_bit p3 (64 : Int32))), .val (.long p0.toInt64), .second, .val (.long p1.toInt64), .second, .val (.long (p2 % (3 : Int32)).toInt64), .second, .val (.long (own_v p0 p1 p2 (own_md p3))), .second, .val (.ref b1), .val (.int (own_in (own_bit p3 (1 : Int32)) p0.toInt64.toInt (own_bit p3 (2 : Int32)) p1.toInt64.toInt (own_v p0 p1 p2 (own_md p3)).toInt)), .unset] [(.long (own_v p0 p1 p2 (own_md p3)))])) _
              refine XS.lload X30.here hx rfl (hb hby at_197) rfl ?_
              show Steps p.tables e below (T30.setTop (mkF m 199 #[.val (.int p0), .val (.int p1), .val (.int p2), .val (.int p3), .val (.int (own_bit p3 (1 : Int32))), .val (.int (own_bit p3 (2 : Int32))), .val (.int (own_md p3)), .val (.int (own_bit p3 (16 : Int32))), .val (.int (own_bit p3 (32 : Int32))), .val (.int (own_bit p3 (64 : Int32))), .val (.long p0.toInt64), .second, .val (.long p1.toInt64), .second, .val (.long (p2 % (3 : Int32)).toInt64), .second, .val (.long (own_v p0 p1 p2 (own_md p3))), .second, .val (.ref b1), .val (.int (own_in (own_bit p3 (1 : Int32)) p0.toInt64.toInt (own_bit p3 (2 : Int32)) p1.toInt64.toInt (own_v p0 p1 p2 (own_md p3)).toInt)), .unset] [(.long p0.toInt64), (.long (own_v p0 p1 p2 (own_md p3)))])) _
              refine XS.lcmp X30.here hx rfl (hb hby at_199) rfl ?_
              show Steps p.tables e below (T30.setTop (mkF m 200 #[.val (.int p0), .val (.int p1), .val (.int p2), .val (.int p3), .val (.int (own_bit p3 (1 : Int32))), .val (.int (own_bit p3 (2 : Int32))), .val (.int (own_md p3)), .val (.int (own_bit p3 (16 : Int32))), .val (.int (own_bit p3 (32 : Int32))), .val (.int (own_bit p3 (64 : Int32))), .val (.long p0.toInt64), .second, .val (.long p1.toInt64), .second, .val (.long (p2 % (3 : Int32)).toInt64), .second, .val (.long (own_v p0 p1 p2 (own_md p3))), .second, .val (.ref b1), .val (.int (own_in (own_bit p3 (1 : Int32)) p0.toInt64.toInt (own_bit p3 (2 : Int32)) p1.toInt64.toInt (own_v p0 p1 p2 (own_md p3)).toInt)), .unset] [(.int (lcmpW (own_v p0 p1 p2 (own_md p3)) p0.toInt64))])) _
              refine XS.ifYes X30.here hx rfl (pc0 := 200) (pc' := 208) rfl (hb hby at_200) rfl ((if0 _ _).trans (feq q3).2) (by decide) (by decide) ?_
              show Steps p.tables e below (T30.setTop (mkF m 208 #[.val (.int p0), .val (.int p1), .val (.int p2), .val (.int p3), .val (.int (own_bit p3 (1 : Int32))), .val (.int (own_bit p3 (2 : Int32))), .val (.int (own_md p3)), .val (.int (own_bit p3 (16 : Int32))), .val (.int (own_bit p3 (32 : Int32))), .val (.int (own_bit p3 (64 : Int32))), .val (.long p0.toInt64), .second, .val (.long p1.toInt64), .second, .val (.long (p2 % (3 : Int32)).toInt64), .second, .val (.long (own_v p0 p1 p2 (own_md p3))), .second, .val (.ref b1), .val (.int (own_in (own_bit p3 (1 : Int32)) p0.toInt64.toInt (own_bit p3 (2 : Int32)) p1.toInt64.toInt (own_v p0 p1 p2 (own_md p3)).toInt)), .unset] [])) _
              refine XS.lload X30.here hx rfl (hb hby at_208) rfl ?_
              show Steps p.tables e below (T30.setTop (mkF m 210 #[.val (.int p0), .val (.int p1), .val (.int p2), .val (.int p3), .val (.int (own_bit p3 (1 : Int32))), .val (.int (own_bit p3 (2 : Int32))), .val (.int (own_md p3)), .val (.int (own_bit p3 (16 : Int32))), .val (.int (own_bit p3 (32 : Int32))), .val (.int (own_bit p3 (64 : Int32))), .val (.long p0.toInt64), .second, .val (.long p1.toInt64), .second, .val (.long (p2 % (3 : Int32)).toInt64), .second, .val (.long (own_v p0 p1 p2 (own_md p3))), .second, .val (.ref b1), .val (.int (own_in (own_bit p3 (1 : Int32)) p0.toInt64.toInt (own_bit p3 (2 : Int32)) p1.toInt64.toInt (own_v p0 p1 p2 (own_md p3)).toInt)), .unset] [(.long (own_v p0 p1 p2 (own_md p3)))])) _
              refine XS.lload X30.here hx rfl (hb hby at_210) rfl ?_
              show Steps p.tables e below (T30.setTop (mkF m 212 #[.val (.int p0), .val (.int p1), .val (.int p2), .val (.int p3), .val (.int (own_bit p3 (1 : Int32))), .val (.int (own_bit p3 (2 : Int32))), .val (.int (own_md p3)), .val (.int (own_bit p3 (16 : Int32))), .val (.int (own_bit p3 (32 : Int32))), .val (.int (own_bit p3 (64 : Int32))), .val (.long p0.toInt64), .second, .val (.long p1.toInt64), .second, .val (.long (p2 % (3 : Int32)).toInt64), .second, .val (.long (own_v p0 p1 p2 (own_md p3))), .second, .val (.ref b1), .val (.int (own_in (own_bit p3 (1 : Int32)) p0.toInt64.toInt (own_bit p3 (2 : Int32)) p1.toInt64.toInt (own_v p0 p1 p2 (own_md p3)).toInt)), .unset] [(.long p1.toInt64), (.long (own_v p0 p1 p2 (own_md p3)))])) _
              refine XS.lcmp X30.here hx rfl (hb hby at_212) rfl ?_
              show Steps p.tables e below (T30.setTop (mkF m 213 #[.val (.int p0), .val (.int p1), .val (.int p2), .val (.int p3), .val (.int (own_bit p3 (1 : Int32))), .val (.int (own_bit p3 (2 : Int32))), .val (.int (own_md p3)), .val (.int (own_bit p3 (16 : Int32))), .val (.int (own_bit p3 (32 : Int32))), .val (.int (own_bit p3 (64 : Int32))), .val (.long p0.toInt64), .second, .val (.long p1.toInt64), .second, .val (.long (p2 % (3 : Int32)).toInt64), .second, .val (.long (own_v p0 p1 p2 (own_md p3))), .second, .val (.ref b1), .val (.int (own_in (own_bit p3 (1 : Int32)) p0.toInt64.toInt (own_bit p3 (2 : Int32)) p1.toInt64.toInt (own_v p0 p1 p2 (own_md p3)).toInt)), .unset] [(.int (lcmpW (own_v p0 p1 p2 (own_md p3)) p1.toInt64))])) _
              refine XS.ifNo X30.here hx rfl (hb hby at_213) rfl ((if0 _ _).trans (teq q5).2) ?_
              show Steps p.tables e below (T30.setTop (mkF m 216 #[.val (.int p0), .val (.int p1), .val (.int p2), .val (.int p3), .val (.int (own_bit p3 (1 : Int32))), .val (.int (own_bit p3 (2 : Int32))), .val (.int (own_md p3)), .val (.int (own_bit p3 (16 : Int32))), .val (.int (own_bit p3 (32 : Int32))), .val (.int (own_bit p3 (64 : Int32))), .val (.long p0.toInt64), .second, .val (.long p1.toInt64), .second, .val (.long (p2 % (3 : Int32)).toInt64), .second, .val (.long (own_v p0 p1 p2 (own_md p3))), .second, .val (.ref b1), .val (.int (own_in (own_bit p3 (1 : Int32)) p0.toInt64.toInt (own_bit p3 (2 : Int32)) p1.toInt64.toInt (own_v p0 p1 p2 (own_md p3)).toInt)), .unset] [])) _
              refine XS.iload X30.here hx rfl (hb hby at_216) rfl ?_
              show Steps p.tables e below (T30.setTop (mkF m 218 #[.val (.int p0), .val (.int p1), .val (.int p2), .val (.int p3), .val (.int (own_bit p3 (1 : Int32))), .val (.int (own_bit p3 (2 : Int32))), .val (.int (own_md p3)), .val (.int (own_bit p3 (16 : Int32))), .val (.int (own_bit p3 (32 : Int32))), .val (.int (own_bit p3 (64 : Int32))), .val (.long p0.toInt64), .second, .val (.long p1.toInt64), .second, .val (.long (p2 % (3 : Int32)).toInt64), .second, .val (.long (own_v p0 p1 p2 (own_md p3))), .second, .val (.ref b1), .val (.int (own_in (own_bit p3 (1 : Int32)) p0.toInt64.toInt (own_bit p3 (2 : Int32)) p1.toInt64.toInt (own_v p0 p1 p2 (own_md p3)).toInt)), .unset] [(.int (own_bit p3 (2 : Int32)))])) _
              refine XS.ifYes X30.here hx rfl (pc0 := 218) (pc' := 225) rfl (hb hby at_218) rfl ((if0 _ _).trans (teq q6).1) (by decide) (by decide) ?_
              show Steps p.tables e below (T30.setTop (mkF m 225 #[.val (.int p0), .val (.int p1), .val (.int p2), .val (.int p3), .val (.int (own_bit p3 (1 : Int32))), .val (.int (own_bit p3 (2 : Int32))), .val (.int (own_md p3)), .val (.int (own_bit p3 (16 : Int32))), .val (.int (own_bit p3 (32 : Int32))), .val (.int (own_bit p3 (64 : Int32))), .val (.long p0.toInt64), .second, .val (.long p1.toInt64), .second, .val (.long (p2 % (3 : Int32)).toInt64), .second, .val (.long (own_v p0 p1 p2 (own_md p3))), .second, .val (.ref b1), .val (.int (own_in (own_bit p3 (1 : Int32)) p0.toInt64.toInt (own_bit p3 (2 : Int32)) p1.toInt64.toInt (own_v p0 p1 p2 (own_md p3)).toInt)), .unset] [])) _
              refine XS.iconst X30.here hx rfl (hb hby at_225) ?_
              show Steps p.tables e below (T30.setTop (mkF m 226 #[.val (.int p0), .val (.int p1), .val (.int p2), .val (.int p3), .val (.int (own_bit p3 (1 : Int32))), .val (.int (own_bit p3 (2 : Int32))), .val (.int (own_md p3)), .val (.int (own_bit p3 (16 : Int32))), .val (.int (own_bit p3 (32 : Int32))), .val (.int (own_bit p3 (64 : Int32))), .val (.long p0.toInt64), .second, .val (.long p1.toInt64), .second, .val (.long (p2 % (3 : Int32)).toInt64), .second, .val (.long (own_v p0 p1 p2 (own_md p3))), .second, .val (.ref b1), .val (.int (own_in (own_bit p3 (1 : Int32)) p0.toInt64.toInt (own_bit p3 (2 : Int32)) p1.toInt64.toInt (own_v p0 p1 p2 (own_md p3)).toInt)), .unset] [(.int (0 : Int32))])) _
              have eI : (own_in (own_bit p3 (1 : Int32)) p0.toInt64.toInt (own_bit p3 (2 : Int32)) p1.toInt64.toInt (own_v p0 p1 p2 (own_md p3)).toInt) = (0 : Int32) := own_b0 (fun q => own_c4 (c4.mp q5) q6 q.2)
              rw [eI] at k226 ⊢
              exact k226
            · show Steps p.tables e below (T30.setTop (mkF m 179 #[.val (.int p0), .val (.int p1), .val (.int p2), .val (.int p3), .val (.int (own_bit p3 (1 : Int32))), .val (.int (own_bit p3 (2 : Int32))), .val (.int (own_md p3)), .val (.int (own_bit p3 (16 : Int32))), .val (.int (own_bit p3 (32 : Int32))), .val (.int (own_bit p3 (64 : Int32))), .val (.long p0.toInt64), .second, .val (.long p1.toInt64), .second, .val (.long (p2 % (3 : Int32)).toInt64), .second, .val (.long (own_v p0 p1 p2 (own_md p3))), .second, .val (.ref b1), .val (.int (own_in (own_bit p3 (1 : Int32)) p0.toInt64.toInt (own_bit p3 (2 : Int32)) p1.toInt64.toInt (own_v p0 p1 p2 (own_md p3)).toInt)), .unset] [])) _
              refine XS.lload X30.here hx rfl (hb hby at_179) rfl ?_
              show Steps p.tables e below (T30.setTop (mkF m 181 #[.val (.int p0), .val (.int p1), .val (.int p2), .val (.int p3), .val (.int (own_bit p3 (1 : Int32))), .val (.int (own_bit p3 (2 : Int32))), .val (.int (own_md p3)), .val (.int (own_bit p3 (16 : Int32))), .val (.int (own_bit p3 (32 : Int32))), .val (.int (own_bit p3 (64 : Int32))), .val (.long p0.toInt64), .second, .val (.long p1.toInt64), .second, .val (.long (p2 % (3 : Int32)).toInt64), .second, .val (.long (own_v p0 p1 p2 (own_md p3))), .second, .val (.ref b1), .val (.int (own_in (own_bit p3 (1 : Int32)) p0.toInt64.toInt (own_bit p3 (2 : Int32)) p1.toInt64.toInt (own_v p0 p1 p2 (own_md p3)).toInt)), .unset] [(.long (own_v p0 p1 p2 (own_md p3)))])) _
              refine XS.lload X30.here hx rfl (hb hby at_181) rfl ?_
              show Steps p.tables e below (T30.setTop (mkF m 183 #[.val (.int p0), .val (.int p1), .val (.int p2), .val (.int p3), .val (.int (own_bit p3 (1 : Int32))), .val (.int (own_bit p3 (2 : Int32))), .val (.int (own_md p3)), .val (.int (own_bit p3 (16 : Int32))), .val (.int (own_bit p3 (32 : Int32))), .val (.int (own_bit p3 (64 : Int32))), .val (.long p0.toInt64), .second, .val (.long p1.toInt64), .second, .val (.long (p2 % (3 : Int32)).toInt64), .second, .val (.long (own_v p0 p1 p2 (own_md p3))), .second, .val (.ref b1), .val (.int (own_in (own_bit p3 (1 : Int32)) p0.toInt64.toInt (own_bit p3 (2 : Int32)) p1.toInt64.toInt (own_v p0 p1 p2 (own_md p3)).toInt)), .unset] [(.long p0.toInt64), (.long (own_v p0 p1 p2 (own_md p3)))])) _
              refine XS.lcmp X30.here hx rfl (hb hby at_183) rfl ?_
              show Steps p.tables e below (T30.setTop (mkF m 184 #[.val (.int p0), .val (.int p1), .val (.int p2), .val (.int p3), .val (.int (own_bit p3 (1 : Int32))), .val (.int (own_bit p3 (2 : Int32))), .val (.int (own_md p3)), .val (.int (own_bit p3 (16 : Int32))), .val (.int (own_bit p3 (32 : Int32))), .val (.int (own_bit p3 (64 : Int32))), .val (.long p0.toInt64), .second, .val (.long p1.toInt64), .second, .val (.long (p2 % (3 : Int32)).toInt64), .second, .val (.long (own_v p0 p1 p2 (own_md p3))), .second, .val (.ref b1), .val (.int (own_in (own_bit p3 (1 : Int32)) p0.toInt64.toInt (own_bit p3 (2 : Int32)) p1.toInt64.toInt (own_v p0 p1 p2 (own_md p3)).toInt)), .unset] [(.int (lcmpW (own_v p0 p1 p2 (own_md p3)) p0.toInt64))])) _
              refine XS.ifNo X30.here hx rfl (hb hby at_184) rfl ((if0 _ _).trans (flt q1).1) ?_
              show Steps p.tables e below (T30.setTop (mkF m 187 #[.val (.int p0), .val (.int p1), .val (.int p2), .val (.int p3), .val (.int (own_bit p3 (1 : Int32))), .val (.int (own_bit p3 (2 : Int32))), .val (.int (own_md p3)), .val (.int (own_bit p3 (16 : Int32))), .val (.int (own_bit p3 (32 : Int32))), .val (.int (own_bit p3 (64 : Int32))), .val (.long p0.toInt64), .second, .val (.long p1.toInt64), .second, .val (.long (p2 % (3 : Int32)).toInt64), .second, .val (.long (own_v p0 p1 p2 (own_md p3))), .second, .val (.ref b1), .val (.int (own_in (own_bit p3 (1 : Int32)) p0.toInt64.toInt (own_bit p3 (2 : Int32)) p1.toInt64.toInt (own_v p0 p1 p2 (own_md p3)).toInt)), .unset] [])) _
              refine XS.lload X30.here hx rfl (hb hby at_187) rfl ?_
              show Steps p.tables e below (T30.setTop (mkF m 189 #[.val (.int p0), .val (.int p1), .val (.int p2), .val (.int p3), .val (.int (own_bit p3 (1 : Int32))), .val (.int (own_bit p3 (2 : Int32))), .val (.int (own_md p3)), .val (.int (own_bit p3 (16 : Int32))), .val (.int (own_bit p3 (32 : Int32))), .val (.int (own_bit p3 (64 : Int32))), .val (.long p0.toInt64), .second, .val (.long p1.toInt64), .second, .val (.long (p2 % (3 : Int32)).toInt64), .second, .val (.long (own_v p0 p1 p2 (own_md p3))), .second, .val (.ref b1), .val (.int (own_in (own_bit p3 (1 : Int32)) p0.toInt64.toInt (own_bit p3 (2 : Int32)) p1.toInt64.toInt (own_v p0 p1 p2 (own_md p3)).toInt)), .unset] [(.long (own_v p0 p1 p2 (own_md p3)))])) _
              refine XS.lload X30.here hx rfl (hb hby at_189) rfl ?_
              show Steps p.tables e below (T30.setTop (mkF m 191 #[.val (.int p0), .val (.int p1), .val (.int p2), .val (.int p3), .val (.int (own_bit p3 (1 : Int32))), .val (.int (own_bit p3 (2 : Int32))), .val (.int (own_md p3)), .val (.int (own_bit p3 (16 : Int32))), .val (.int (own_bit p3 (32 : Int32))), .val (.int (own_bit p3 (64 : Int32))), .val (.long p0.toInt64), .second, .val (.long p1.toInt64), .second, .val (.long (p2 % (3 : Int32)).toInt64), .second, .val (.long (own_v p0 p1 p2 (own_md p3))), .second, .val (.ref b1), .val (.int (own_in (own_bit p3 (1 : Int32)) p0.toInt64.toInt (own_bit p3 (2 : Int32)) p1.toInt64.toInt (own_v p0 p1 p2 (own_md p3)).toInt)), .unset] [(.long p1.toInt64), (.long (own_v p0 p1 p2 (own_md p3)))])) _
              refine XS.lcmp X30.here hx rfl (hb hby at_191) rfl ?_
              show Steps p.tables e below (T30.setTop (mkF m 192 #[.val (.int p0), .val (.int p1), .val (.int p2), .val (.int p3), .val (.int (own_bit p3 (1 : Int32))), .val (.int (own_bit p3 (2 : Int32))), .val (.int (own_md p3)), .val (.int (own_bit p3 (16 : Int32))), .val (.int (own_bit p3 (32 : Int32))), .val (.int (own_bit p3 (64 : Int32))), .val (.long p0.toInt64), .second, .val (.long p1.toInt64), .second, .val (.long (p2 % (3 : Int32)).toInt64), .second, .val (.long (own_v p0 p1 p2 (own_md p3))), .second, .val (.ref b1), .val (.int (own_in (own_bit p3 (1 : Int32)) p0.toInt64.toInt (own_bit p3 (2 : Int32)) p1.toInt64.toInt (own_v p0 p1 p2 (own_md p3)).toInt)), .unset] [(.int (lcmpW (own_v p0 p1 p2 (own_md p3)) p1.toInt64))])) _
              refine XS.ifNo X30.here hx rfl (hb hby at_192) rfl ((if0 _ _).trans (flt q2).2.2.1) ?_
              show Steps p.tables e below (T30.setTop (mkF m 195 #[.val (.int p0), .val (.int p1), .val (.int p2), .val (.int p3), .val (.int (own_bit p3 (1 : Int32))), .val (.int (own_bit p3 (2 : Int32))), .val (.int (own_md p3)), .val (.int (own_bit p3 (16 : Int32))), .val (.int (own_bit p3 (32 : Int32))), .val (.int (own_bit p3 (64 : Int32))), .val (.long p0.toInt64), .second, .val (.long p1.toInt64), .second, .val (.long (p2 % (3 : Int32)).toInt64), .second, .val (.long (own_v p0 p1 p2 (own_md p3))), .second, .val (.ref b1), .val (.int (own_in (own_bit p3 (1 : Int32)) p0.toInt64.toInt (own_bit p3 (2 : Int32)) p1.toInt64.toInt (own_v p0 p1 p2 (own_md p3)).toInt)), .unset] [])) _
              refine XS.lload X30.here hx rfl (hb hby at_195) rfl ?_
              show Steps p.tables e below (T30.setTop (mkF m 197 #[.val (.int p0), .val (.int p1), .val (.int p2), .val (.int p3), .val (.int (own_bit p3 (1 : Int32))), .val (.int (own_bit p3 (2 : Int32))), .val (.int (own_md p3)), .val (.int (own_bit p3 (16 : Int32))), .val (.int (own_bit p3 (32 : Int32))), .val (.int (own_bit p3 (64 : Int32))), .val (.long p0.toInt64), .second, .val (.long p1.toInt64), .second, .val (.long (p2 % (3 : Int32)).toInt64), .second, .val (.long (own_v p0 p1 p2 (own_md p3))), .second, .val (.ref b1), .val (.int (own_in (own_bit p3 (1 : Int32)) p0.toInt64.toInt (own_bit p3 (2 : Int32)) p1.toInt64.toInt (own_v p0 p1 p2 (own_md p3)).toInt)), .unset] [(.long (own_v p0 p1 p2 (own_md p3)))])) _
              refine XS.lload X30.here hx rfl (hb hby at_197) rfl ?_
              show Steps p.tables e below (T30.setTop (mkF m 199 #[.val (.int p0), .val (.int p1), .val (.int p2), .val (.int p3), .val (.int (own_bit p3 (1 : Int32))), .val (.int (own_bit p3 (2 : Int32))), .val (.int (own_md p3)), .val (.int (own_bit p3 (16 : Int32))), .val (.int (own_bit p3 (32 : Int32))), .val (.int (own_bit p3 (64 : Int32))), .val (.long p0.toInt64), .second, .val (.long p1.toInt64), .second, .val (.long (p2 % (3 : Int32)).toInt64), .second, .val (.long (own_v p0 p1 p2 (own_md p3))), .second, .val (.ref b1), .val (.int (own_in (own_bit p3 (1 : Int32)) p0.toInt64.toInt (own_bit p3 (2 : Int32)) p1.toInt64.toInt (own_v p0 p1 p2 (own_md p3)).toInt)), .unset] [(.long p0.toInt64), (.long (own_v p0 p1 p2 (own_md p3)))])) _
              refine XS.lcmp X30.here hx rfl (hb hby at_199) rfl ?_
              show Steps p.tables e below (T30.setTop (mkF m 200 #[.val (.int p0), .val (.int p1), .val (.int p2), .val (.int p3), .val (.int (own_bit p3 (1 : Int32))), .val (.int (own_bit p3 (2 : Int32))), .val (.int (own_md p3)), .val (.int (own_bit p3 (16 : Int32))), .val (.int (own_bit p3 (32 : Int32))), .val (.int (own_bit p3 (64 : Int32))), .val (.long p0.toInt64), .second, .val (.long p1.toInt64), .second, .val (.long (p2 % (3 : Int32)).toInt64), .second, .val (.long (own_v p0 p1 p2 (own_md p3))), .second, .val (.ref b1), .val (.int (own_in (own_bit p3 (1 : Int32)) p0.toInt64.toInt (own_bit p3 (2 : Int32)) p1.toInt64.toInt (own_v p0 p1 p2 (own_md p3)).toInt)), .unset] [(.int (lcmpW (own_v p0 p1 p2 (own_md p3)) p0.toInt64))])) _
              refine XS.ifYes X30.here hx rfl (pc0 := 200) (pc' := 208) rfl (hb hby at_200) rfl ((if0 _ _).trans (feq q3).2) (by decide) (by decide) ?_
              show Steps p.tables e below (T30.setTop (mkF m 208 #[.val (.int p0), .val (.int p1), .val (.int p2), .val (.int p3), .val (.int (own_bit p3 (1 : Int32))), .val (.int (own_bit p3 (2 : Int32))), .val (.int (own_md p3)), .val (.int (own_bit p3 (16 : Int32))), .val (.int (own_bit p3 (32 : Int32))), .val (.int (own_bit p3 (64 : Int32))), .val (.long p0.toInt64), .second, .val (.long p1.toInt64), .second, .val (.long (p2 % (3 : Int32)).toInt64), .second, .val (.long (own_v p0 p1 p2 (own_md p3))), .second, .val (.ref b1), .val (.int (own_in (own_bit p3 (1 : Int32)) p0.toInt64.toInt (own_bit p3 (2 : Int32)) p1.toInt64.toInt (own_v p0 p1 p2 (own_md p3)).toInt)), .unset] [])) _
              refine XS.lload X30.here hx rfl (hb hby at_208) rfl ?_
              show Steps p.tables e below (T30.setTop (mkF m 210 #[.val (.int p0), .val (.int p1), .val (.int p2), .val (.int p3), .val (.int (own_bit p3 (1 : Int32))), .val (.int (own_bit p3 (2 : Int32))), .val (.int (own_md p3)), .val (.int (own_bit p3 (16 : Int32))), .val (.int (own_bit p3 (32 : Int32))), .val (.int (own_bit p3 (64 : Int32))), .val (.long p0.toInt64), .second, .val (.long p1.toInt64), .second, .val (.long (p2 % (3 : Int32)).toInt64), .second, .val (.long (own_v p0 p1 p2 (own_md p3))), .second, .val (.ref b1), .val (.int (own_in (own_bit p3 (1 : Int32)) p0.toInt64.toInt (own_bit p3 (2 : Int32)) p1.toInt64.toInt (own_v p0 p1 p2 (own_md p3)).toInt)), .unset] [(.long (own_v p0 p1 p2 (own_md p3)))])) _
              refine XS.lload X30.here hx rfl (hb hby at_210) rfl ?_
              show Steps p.tables e below (T30.setTop (mkF m 212 #[.val (.int p0), .val (.int p1), .val (.int p2), .val (.int p3), .val (.int (own_bit p3 (1 : Int32))), .val (.int (own_bit p3 (2 : Int32))), .val (.int (own_md p3)), .val (.int (own_bit p3 (16 : Int32))), .val (.int (own_bit p3 (32 : Int32))), .val (.int (own_bit p3 (64 : Int32))), .val (.long p0.toInt64), .second, .val (.long p1.toInt64), .second, .val (.long (p2 % (3 : Int32)).toInt64), .second, .val (.long (own_v p0 p1 p2 (own_md p3))), .second, .val (.ref b1), .val (.int (own_in (own_bit p3 (1 : Int32)) p0.toInt64.toInt (own_bit p3 (2 : Int32)) p1.toInt64.toInt (own_v p0 p1 p2 (own_md p3)).toInt)), .unset] [(.long p1.toInt64), (.long (own_v p0 p1 p2 (own_md p3)))])) _
              refine XS.lcmp X30.here hx rfl (hb hby at_212) rfl ?_
              show Steps p.tables e below (T30.setTop (mkF m 213 #[.val (.int p0), .val (.int p1), .val (.int p2), .val (.int p3), .val (.int (own_bit p3 (1 : Int32))), .val (.int (own_bit p3 (2 : Int32))), .val (.int (own_md p3)), .val (.int (own_bit p3 (16 : Int32))), .val (.int (own_bit p3 (32 : Int32))), .val (.int (own_bit p3 (64 : Int32))), .val (.long p0.toInt64), .second, .val (.long p1.toInt64), .second, .val (.long (p2 % (3 : Int32)).toInt64), .second, .val (.long (own_v p0 p1 p2 (own_md p3))), .second, .val (.ref b1), .val (.int (own_in (own_bit p3 (1 : Int32)) p0.toInt64.toInt (own_bit p3 (2 : Int32)) p1.toInt64.toInt (own_v p0 p1 p2 (own_md p3)).toInt)), .unset] [(.int (lcmpW (own_v p0 p1 p2 (own_md p3)) p1.toInt64))])) _
              refine XS.ifNo X30.here hx rfl (hb hby at_213) rfl ((if0 _ _).trans (teq q5).2) ?_
              show Steps p.tables e below (T30.setTop (mkF m 216 #[.val (.int p0), .val (.int p1), .val (.int p2), .val (.int p3), .val (.int (own_bit p3 (1 : Int32))), .val (.int (own_bit p3 (2 : Int32))), .val (.int (own_md p3)), .val (.int (own_bit p3 (16 : Int32))), .val (.int (own_bit p3 (32 : Int32))), .val (.int (own_bit p3 (64 : Int32))), .val (.long p0.toInt64), .second, .val (.long p1.toInt64), .second, .val (.long (p2 % (3 : Int32)).toInt64), .second, .val (.long (own_v p0 p1 p2 (own_md p3))), .second, .val (.ref b1), .val (.int (own_in (own_bit p3 (1 : Int32)) p0.toInt64.toInt (own_bit p3 (2 : Int32)) p1.toInt64.toInt (own_v p0 p1 p2 (own_md p3)).toInt)), .unset] [])) _
              refine XS.iload X30.here hx rfl (hb hby at_216) rfl ?_
              show Steps p.tables e below (T30.setTop (mkF m 218 #[.val (.int p0), .val (.int p1), .val (.int p2), .val (.int p3), .val (.int (own_bit p3 (1 : Int32))), .val (.int (own_bit p3 (2 : Int32))), .val (.int (own_md p3)), .val (.int (own_bit p3 (16 : Int32))), .val (.int (own_bit p3 (32 : Int32))), .val (.int (own_bit p3 (64 : Int32))), .val (.long p0.toInt64), .second, .val (.long p1.toInt64), .second, .val (.long (p2 % (3 : Int32)).toInt64), .second, .val (.long (own_v p0 p1 p2 (own_md p3))), .second, .val (.ref b1), .val (.int (own_in (own_bit p3 (1 : Int32)) p0.toInt64.toInt (own_bit p3 (2 : Int32)) p1.toInt64.toInt (own_v p0 p1 p2 (own_md p3)).toInt)), .unset] [(.int (own_bit p3 (2 : Int32)))])) _
              refine XS.ifNo X30.here hx rfl (hb hby at_218) rfl ((if0 _ _).trans (feq q6).1) ?_
              show Steps p.tables e below (T30.setTop (mkF m 221 #[.val (.int p0), .val (.int p1), .val (.int p2), .val (.int p3), .val (.int (own_bit p3 (1 : Int32))), .val (.int (own_bit p3 (2 : Int32))), .val (.int (own_md p3)), .val (.int (own_bit p3 (16 : Int32))), .val (.int (own_bit p3 (32 : Int32))), .val (.int (own_bit p3 (64 : Int32))), .val (.long p0.toInt64), .second, .val (.long p1.toInt64), .second, .val (.long (p2 % (3 : Int32)).toInt64), .second, .val (.long (own_v p0 p1 p2 (own_md p3))), .second, .val (.ref b1), .val (.int (own_in (own_bit p3 (1 : Int32)) p0.toInt64.toInt (own_bit p3 (2 : Int32)) p1.toInt64.toInt (own_v p0 p1 p2 (own_md p3)).toInt)), .unset] [])) _
              refine XS.iconst X30.here hx rfl (hb hby at_221) ?_
              show Steps p.tables e below (T30.setTop (mkF m 222 #[.val (.int p0), .val (.int p1), .val (.int p2), .val (.int p3), .val (.int (own_bit p3 (1 : Int32))), .val (.int (own_bit p3 (2 : Int32))), .val (.int (own_md p3)), .val (.int (own_bit p3 (16 : Int32))), .val (.int (own_bit p3 (32 : Int32))), .val (.int (own_bit p3 (64 : Int32))), .val (.long p0.toInt64), .second, .val (.long p1.toInt64), .second, .val (.long (p2 % (3 : Int32)).toInt64), .second, .val (.long (own_v p0 p1 p2 (own_md p3))), .second, .val (.ref b1), .val (.int (own_in (own_bit p3 (1 : Int32)) p0.toInt64.toInt (own_bit p3 (2 : Int32)) p1.toInt64.toInt (own_v p0 p1 p2 (own_md p3)).toInt)), .unset] [(.int (1 : Int32))])) _
              refine XS.goto X30.here hx rfl (pc0 := 222) (pc' := 226) rfl (hb hby at_222) (by decide) (by decide) ?_
              show Steps p.tables e below (T30.setTop (mkF m 226 #[.val (.int p0), .val (.int p1), .val (.int p2), .val (.int p3), .val (.int (own_bit p3 (1 : Int32))), .val (.int (own_bit p3 (2 : Int32))), .val (.int (own_md p3)), .val (.int (own_bit p3 (16 : Int32))), .val (.int (own_bit p3 (32 : Int32))), .val (.int (own_bit p3 (64 : Int32))), .val (.long p0.toInt64), .second, .val (.long p1.toInt64), .second, .val (.long (p2 % (3 : Int32)).toInt64), .second, .val (.long (own_v p0 p1 p2 (own_md p3))), .second, .val (.ref b1), .val (.int (own_in (own_bit p3 (1 : Int32)) p0.toInt64.toInt (own_bit p3 (2 : Int32)) p1.toInt64.toInt (own_v p0 p1 p2 (own_md p3)).toInt)), .unset] [(.int (1 : Int32))])) _
              have eI : (own_in (own_bit p3 (1 : Int32)) p0.toInt64.toInt (own_bit p3 (2 : Int32)) p1.toInt64.toInt (own_v p0 p1 p2 (own_md p3)).toInt) = (1 : Int32) := own_b1 ⟨own_d1 (fun g => q1 (c1.mpr g)) (Or.inr (fun g => q3 (c3.mpr g))), own_d2 (fun g => q2 (c2.mpr g)) (Or.inl q6)⟩
              rw [eI] at k226 ⊢
              exact k226
          · show Steps p.tables e below (T30.setTop (mkF m 179 #[.val (.int p0), .val (.int p1), .val (.int p2), .val (.int p3), .val (.int (own_bit p3 (1 : Int32))), .val (.int (own_bit p3 (2 : Int32))), .val (.int (own_md p3)), .val (.int (own_bit p3 (16 : Int32))), .val (.int (own_bit p3 (32 : Int32))), .val (.int (own_bit p3 (64 : Int32))), .val (.long p0.toInt64), .second, .val (.long p1.toInt64), .second, .val (.long (p2 % (3 : Int32)).toInt64), .second, .val (.long (own_v p0 p1 p2 (own_md p3))), .second, .val (.ref b1), .val (.int (own_in (own_bit p3 (1 : Int32)) p0.toInt64.toInt (own_bit p3 (2 : Int32)) p1.toInt64.toInt (own_v p0 p1 p2 (own_md p3)).toInt)), .unset] [])) _
            refine XS.lload X30.here hx rfl (hb hby at_179) rfl ?_
            show Steps p.tables e below (T30.setTop (mkF m 181 #[.val (.int p0), .val (.int p1), .val (.int p2), .val (.int p3), .val (.int (own_bit p3 (1 : Int32))), .val (.int (own_bit p3 (2 : Int32))), .val (.int (own_md p3)), .val (.int (own_bit p3 (16 : Int32))), .val (.int (own_bit p3 (32 : Int32))), .val (.int (own_bit p3 (64 : Int32))), .val (.long p0.toInt64), .second, .val (.long p1.toInt64), .second, .val (.long (p2 % (3 : Int32)).toInt64), .second, .val (.long (own_v p0 p1 p2 (own_md p3))), .second, .val (.ref b1), .val (.int (own_in (own_bit p3 (1 : Int32)) p0.toInt64.toInt (own_bit p3 (2 : Int32)) p1.toInt64.toInt (own_v p0 p1 p2 (own_md p3)).toInt)), .unset] [(.long (own_v p0 p1 p2 (own_md p3)))])) _
            refine XS.lload X30.here hx rfl (hb hby at_181) rfl ?_
            show Steps p.tables e below (T30.setTop (mkF m 183 #[.val (.int p0), .val (.int p1), .val (.int p2), .val (.int p3), .val (.int (own_bit p3 (1 : Int32))), .val (.int (own_bit p3 (2 : Int32))), .val (.int (own_md p3)), .val (.int (own_bit p3 (16 : Int32))), .val (.int (own_bit p3 (32 : Int32))), .val (.int (own_bit p3 (64 : Int32))), .val (.long p0.toInt64), .second, .val (.long p1.toInt64), .second, .val (.long (p2 % (3 : Int32)).toInt64), .second, .val (.long (own_v p0 p1 p2 (own_md p3))), .second, .val (.ref b1), .val (.int (own_in (own_bit p3 (1 : Int32)) p0.toInt64.toInt (own_bit p3 (2 : Int32)) p1.toInt64.toInt (own_v p0 p1 p2 (own_md p3)).toInt)), .unset] [(.long p0.toInt64), (.long (own_v p0 p1 p2 (own_md p3)))])) _
            refine XS.lcmp X30.here hx rfl (hb hby at_183) rfl ?_
            show Steps p.tables e below (T30.setTop (mkF m 184 #[.val (.int p0), .val (.int p1), .val (.int p2), .val (.int p3), .val (.int (own_bit p3 (1 : Int32))), .val (.int (own_bit p3 (2 : Int32))), .val (.int (own_md p3)), .val (.int (own_bit p3 (16 : Int32))), .val (.int (own_bit p3 (32 : Int32))), .val (.int (own_bit p3 (64 : Int32))), .val (.long p0.toInt64), .second, .val (.long p1.toInt64), .second, .val (.long (p2 % (3 : Int32)).toInt64), .second, .val (.long (own_v p0 p1 p2 (own_md p3))), .second, .val (.ref b1), .val (.int (own_in (own_bit p3 (1 : Int32)) p0.toInt64.toInt (own_bit p3 (2 : Int32)) p1.toInt64.toInt (own_v p0 p1 p2 (own_md p3)).toInt)), .unset] [(.int (lcmpW (own_v p0 p1 p2 (own_md p3)) p0.toInt64))])) _
            refine XS.ifNo X30.here hx rfl (hb hby at_184) rfl ((if0 _ _).trans (flt q1).1) ?_
            show Steps p.tables e below (T30.setTop (mkF m 187 #[.val (.int p0), .val (.int p1), .val (.int p2), .val (.int p3), .val (.int (own_bit p3 (1 : Int32))), .val (.int (own_bit p3 (2 : Int32))), .val (.int (own_md p3)), .val (.int (own_bit p3 (16 : Int32))), .val (.int (own_bit p3 (32 : Int32))), .val (.int (own_bit p3 (64 : Int32))), .val (.long p0.toInt64), .second, .val (.long p1.toInt64), .second, .val (.long (p2 % (3 : Int32)).toInt64), .second, .val (.long (own_v p0 p1 p2 (own_md p3))), .second, .val (.ref b1), .val (.int (own_in (own_bit p3 (1 : Int32)) p0.toInt64.toInt (own_bit p3 (2 : Int32)) p1.toInt64.toInt (own_v p0 p1 p2 (own_md p3)).toInt)), .unset] [])) _
            refine XS.lload X30.here hx rfl (hb hby at_187) rfl ?_
            show Steps p.tables e below (T30.setTop (mkF m 189 #[.val (.int p0), .val (.int p1), .val (.int p2), .val (.int p3), .val (.int (own_bit p3 (1 : Int32))), .val (.int (own_bit p3 (2 : Int32))), .val (.int (own_md p3)), .val (.int (own_bit p3 (16 : Int32))), .val (.int (own_bit p3 (32 : Int32))), .val (.int (own_bit p3 (64 : Int32))), .val (.long p0.toInt64), .second, .val (.long p1.toInt64), .second, .val (.long (p2 % (3 : Int32)).toInt64), .second, .val (.long (own_v p0 p1 p2 (own_md p3))), .second, .val (.ref b1), .val (.int (own_in (own_bit p3 (1 : Int32)) p0.toInt64.toInt (own_bit p3 (2 : Int32)) p1.toInt64.toInt (own_v p0 p1 p2 (own_md p3)).toInt)), .unset] [(.long (own_v p0 p1 p2 (own_md p3)))])) _
            refine XS.lload X30.here hx rfl (hb hby at_189) rfl ?_
            show Steps p.tables e below (T30.setTop (mkF m 191 #[.val (.int p0), .val (.int p1), .val (.int p2), .val (.int p3), .val (.int (own_bit p3 (1 : Int32))), .val (.int (own_bit p3 (2 : Int32))), .val (.int (own_md p3)), .val (.int (own_bit p3 (16 : Int32))), .val (.int (own_bit p3 (32 : Int32))), .val (.int (own_bit p3 (64 : Int32))), .val (.long p0.toInt64), .second, .val (.long p1.toInt64), .second, .val (.long (p2 % (3 : Int32)).toInt64), .second, .val (.long (own_v p0 p1 p2 (own_md p3))), .second, .val (.ref b1), .val (.int (own_in (own_bit p3 (1 : Int32)) p0.toInt64.toInt (own_bit p3 (2 : Int32)) p1.toInt64.toInt (own_v p0 p1 p2 (own_md p3)).toInt)), .unset] [(.long p1.toInt64), (.long (own_v p0 p1 p2 (own_md p3)))])) _
            refine XS.lcmp X30.here hx rfl (hb hby at_191) rfl ?_
            show Steps p.tables e below (T30.setTop (mkF m 192 #[.val (.int p0), .val (.int p1), .val (.int p2), .val (.int p3), .val (.int (own_bit p3 (1 : Int32))), .val (.int (own_bit p3 (2 : Int32))), .val (.int (own_md p3)), .val (.int (own_bit p3 (16 : Int32))), .val (.int (own_bit p3 (32 : Int32))), .val (.int (own_bit p3 (64 : Int32))), .val (.long p0.toInt64), .second, .val (.long p1.toInt64), .second, .val (.long (p2 % (3 : Int32)).toInt64), .second, .val (.long (own_v p0 p1 p2 (own_md p3))), .second, .val (.ref b1), .val (.int (own_in (own_bit p3 (1 : Int32)) p0.toInt64.toInt (own_bit p3 (2 : Int32)) p1.toInt64.toInt (own_v p0 p1 p2 (own_md p3)).toInt)), .unset] [(.int (lcmpW (own_v p0 p1 p2 (own_md p3)) p1.toInt64))])) _
            refine XS.ifNo X30.here hx rfl (hb hby at_192) rfl ((if0 _ _).trans (flt q2).2.2.1) ?_
            show Steps p.tables e below (T30.setTop (mkF m 195 #[.val (.int p0), .val (.int p1), .val (.int p2), .val (.int p3), .val (.int (own_bit p3 (1 : Int32))), .val (.int (own_bit p3 (2 : Int32))), .val (.int (own_md p3)), .val (.int (own_bit p3 (16 : Int32))), .val (.int (own_bit p3 (32 : Int32))), .val (.int (own_bit p3 (64 : Int32))), .val (.long p0.toInt64), .second, .val (.long p1.toInt64), .second, .val (.long (p2 % (3 : Int32)).toInt64), .second, .val (.long (own_v p0 p1 p2 (own_md p3))), .second, .val (.ref b1), .val (.int (own_in (own_bit p3 (1 : Int32)) p0.toInt64.toInt (own_bit p3 (2 : Int32)) p1.toInt64.toInt (own_v p0 p1 p2 (own_md p3)).toInt)), .unset] [])) _
            refine XS.lload X30.here hx rfl (hb hby at_195) rfl ?_
            show Steps p.tables e below (T30.setTop (mkF m 197 #[.val (.int p0), .val (.int p1), .val (.int p2), .val (.int p3), .val (.int (own_bit p3 (1 : Int32))), .val (.int (own_bit p3 (2 : Int32))), .val (.int (own_md p3)), .val (.int (own_bit p3 (16 : Int32))), .val (.int (own_bit p3 (32 : Int32))), .val (.int (own_bit p3 (64 : Int32))), .val (.long p0.toInt64), .second, .val (.long p1.toInt64), .second, .val (.long (p2 % (3 : Int32)).toInt64), .second, .val (.long (own_v p0 p1 p2 (own_md p3))), .second, .val (.ref b1), .val (.int (own_in (own_bit p3 (1 : Int32)) p0.toInt64.toInt (own_bit p3 (2 : Int32)) p1.toInt64.toInt (own_v p0 p1 p2 (own_md p3)).toInt)), .unset] [(.long (own_v p0 p1 p2 (own_md p3)))])) _
            refine XS.lload X30.here hx rfl (hb hby at_197) rfl ?_
            show Steps p.tables e below (T30.setTop (mkF m 199 #[.val (.int p0), .val (.int p1), .val (.int p2), .val (.int p3), .val (.int (own_bit p3 (1 : Int32))), .val (.int (own_bit p3 (2 : Int32))), .val (.int (own_md p3)), .val (.int (own_bit p3 (16 : Int32))), .val (.int (own_bit p3 (32 : Int32))), .val (.int (own_bit p3 (64 : Int32))), .val (.long p0.toInt64), .second, .val (.long p1.toInt64), .second, .val (.long (p2 % (3 : Int32)).toInt64), .second, .val (.long (own_v p0 p1 p2 (own_md p3))), .second, .val (.ref b1), .val (.int (own_in (own_bit p3 (1 : Int32)) p0.toInt64.toInt (own_bit p3 (2 : Int32)) p1.toInt64.toInt (own_v p0 p1 p2 (own_md p3)).toInt)), .unset] [(.long p0.toInt64), (.long (own_v p0 p1 p2 (own_md p3)))])) _
            refine XS.lcmp X30.here hx rfl (hb hby at_199) rfl ?_
            show Steps p.tables e below (T30.setTop (mkF m 200 #[.val (.int p0), .val (.int p1), .val (.int p2), .val (.int p3), .val (.int (own_bit p3 (1 : Int32))), .val (.int (own_bit p3 (2 : Int32))), .val (.int (own_md p3)), .val (.int (own_bit p3 (16 : Int32))), .val (.int (own_bit p3 (32 : Int32))), .val (.int (own_bit p3 (64 : Int32))), .val (.long p0.toInt64), .second, .val (.long p1.toInt64), .second, .val (.long (p2 % (3 : Int32)).toInt64), .second, .val (.long (own_v p0 p1 p2 (own_md p3))), .second, .val (.ref b1), .val (.int (own_in (own_bit p3 (1 : Int32)) p0.toInt64.toInt (own_bit p3 (2 : Int32)) p1.toInt64.toInt (own_v p0 p1 p2 (own_md p3)).toInt)), .unset] [(.int (lcmpW (own_v p0 p1 p2 (own_md p3)) p0.toInt64))])) _
            refine XS.ifYes X30.here hx rfl (pc0 := 200) (pc' := 208) rfl (hb hby at_200) rfl ((if0 _ _).trans (feq q3).2) (by decide) (by decide) ?_
            show Steps p.tables e below (T30.setTop (mkF m 208 #[.val (.int p0), .val (.int p1), .val (.int p2), .val (.int p3), .val (.int (own_bit p3 (1 : Int32))), .val (.int (own_bit p3 (2 : Int32))), .val (.int (own_md p3)), .val (.int (own_bit p3 (16 : Int32))), .val (.int (own_bit p3 (32 : Int32))), .val (.int (own_bit p3 (64 : Int32))), .val (.long p0.toInt64), .second, .val (.long p1.toInt64), .second, .val (.long (p2 % (3 : Int32)).toInt64), .second, .val (.long (own_v p0 p1 p2 (own_md p3))), .second, .val (.ref b1), .val (.int (own_in (own_bit p3 (1 : Int32)) p0.toInt64.toInt (own_bit p3 (2 : Int32)) p1.toInt64.toInt (own_v p0 p1 p2 (own_md p3)).toInt)), .unset] [])) _
            refine XS.lload X30.here hx rfl (hb hby at_208) rfl ?_
            show Steps p.tables e below (T30.setTop (mkF m 210 #[.val (.int p0), .val (.int p1), .val (.int p2), .val (.int p3), .val (.int (own_bit p3 (1 : Int32))), .val (.int (own_bit p3 (2 : Int32))), .val (.int (own_md p3)), .val (.int (own_bit p3 (16 : Int32))), .val (.int (own_bit p3 (32 : Int32))), .val (.int (own_bit p3 (64 : Int32))), .val (.long p0.toInt64), .second, .val (.long p1.toInt64), .second, .val (.long (p2 % (3 : Int32)).toInt64), .second, .val (.long (own_v p0 p1 p2 (own_md p3))), .second, .val (.ref b1), .val (.int (own_in (own_bit p3 (1 : Int32)) p0.toInt64.toInt (own_bit p3 (2 : Int32)) p1.toInt64.toInt (own_v p0 p1 p2 (own_md p3)).toInt)), .unset] [(.long (own_v p0 p1 p2 (own_md p3)))])) _
            refine XS.lload X30.here hx rfl (hb hby at_210) rfl ?_
            show Steps p.tables e below (T30.setTop (mkF m 212 #[.val (.int p0), .val (.int p1), .val (.int p2), .val (.int p3), .val (.int (own_bit p3 (1 : Int32))), .val (.int (own_bit p3 (2 : Int32))), .val (.int (own_md p3)), .val (.int (own_bit p3 (16 : Int32))), .val (.int (own_bit p3 (32 : Int32))), .val (.int (own_bit p3 (64 : Int32))), .val (.long p0.toInt64), .second, .val (.long p1.toInt64), .second, .val (.long (p2 % (3 : Int32)).toInt64), .second, .val (.long (own_v p0 p1 p2 (own_md p3))), .second, .val (.ref b1), .val (.int (own_in (own_bit p3 (1 : Int32)) p0.toInt64.toInt (own_bit p3 (2 : Int32)) p1.toInt64.toInt (own_v p0 p1 p2 (own_md p3)).toInt)), .unset] [(.long p1.toInt64), (.long (own_v p0 p1 p2 (own_md p3)))])) _
            refine XS.lcmp X30.here hx rfl (hb hby at_212) rfl ?_
            show Steps p.tables e below (T30.setTop (mkF m 213 #[.val (.int p0), .val (.int p1), .val (.int p2), .val (.int p3), .val (.int (own_bit p3 (1 : Int32))), .val (.int (own_bit p3 (2 : Int32))), .val (.int (own_md p3)), .val (.int (own_bit p3 (16 : Int32))), .val (.int (own_bit p3 (32 : Int32))), .val (.int (own_bit p3 (64 : Int32))), .val (.long p0.toInt64), .second, .val (.long p1.toInt64), .second, .val (.long (p2 % (3 : Int32)).toInt64), .second, .val (.long (own_v p0 p1 p2 (own_md p3))), .second, .val (.ref b1), .val (.int (own_in (own_bit p3 (1 : Int32)) p0.toInt64.toInt (own_bit p3 (2 : Int32)) p1.toInt64.toInt (own_v p0 p1 p2 (own_md p3)).toInt)), .unset] [(.int (lcmpW (own_v p0 p1 p2 (own_md p3)) p1.toInt64))])) _
            refine XS.ifYes X30.here hx rfl (pc0 := 213) (pc' := 221) rfl (hb hby at_213) rfl ((if0 _ _).trans (feq q5).2) (by decide) (by decide) ?_
            show Steps p.tables e below (T30.setTop (mkF m 221 #[.val (.int p0), .val (.int p1), .val (.int p2), .val (.int p3), .val (.int (own_bit p3 (1 : Int32))), .val (.int (own_bit p3 (2 : Int32))), .val (.int (own_md p3)), .val (.int (own_bit p3 (16 : Int32))), .val (.int (own_bit p3 (32 : Int32))), .val (.int (own_bit p3 (64 : Int32))), .val (.long p0.toInt64), .second, .val (.long p1.toInt64), .second, .val (.long (p2 % (3 : Int32)).toInt64), .second, .val (.long (own_v p0 p1 p2 (own_md p3))), .second, .val (.ref b1), .val (.int (own_in (own_bit p3 (1 : Int32)) p0.toInt64.toInt (own_bit p3 (2 : Int32)) p1.toInt64.toInt (own_v p0 p1 p2 (own_md p3)).toInt)), .unset] [])) _
            refine XS.iconst X30.here hx rfl (hb hby at_221) ?_
            show Steps p.tables e below (T30.setTop (mkF m 222 #[.val (.int p0), .val (.int p1), .val (.int p2), .val (.int p3), .val (.int (own_bit p3 (1 : Int32))), .val (.int (own_bit p3 (2 : Int32))), .val (.int (own_md p3)), .val (.int (own_bit p3 (16 : Int32))), .val (.int (own_bit p3 (32 : Int32))), .val (.int (own_bit p3 (64 : Int32))), .val (.long p0.toInt64), .second, .val (.long p1.toInt64), .second, .val (.long (p2 % (3 : Int32)).toInt64), .second, .val (.long (own_v p0 p1 p2 (own_md p3))), .second, .val (.ref b1), .val (.int (own_in (own_bit p3 (1 : Int32)) p0.toInt64.toInt (own_bit p3 (2 : Int32)) p1.toInt64.toInt (own_v p0 p1 p2 (own_md p3)).toInt)), .unset] [(.int (1 : Int32))])) _
            refine XS.goto X30.here hx rfl (pc0 := 222) (pc' := 226) rfl (hb hby at_222) (by decide) (by decide) ?_
            show Steps p.tables e below (T30.setTop (mkF m 226 #[.val (.int p0), .val (.int p1), .val (.int p2), .val (.int p3), .val (.int (own_bit p3 (1 : Int32))), .val (.int (own_bit p3 (2 : Int32))), .val (.int (own_md p3)), .val (.int (own_bit p3 (16 : Int32))), .val (.int (own_bit p3 (32 : Int32))), .val (.int (own_bit p3 (64 : Int32))), .val (.long p0.toInt64), .second, .val (.long p1.toInt64), .second, .val (.long (p2 % (3 : Int32)).toInt64), .second, .val (.long (own_v p0 p1 p2 (own_md p3))), .second, .val (.ref b1), .val (.int (own_in (own_bit p3 (1 : Int32)) p0.toInt64.toInt (own_bit p3 (2 : Int32)) p1.toInt64.toInt (own_v p0 p1 p2 (own_md p3)).toInt)), .unset] [(.int (1 : Int32))])) _
            have eI : (own_in (own_bit p3 (1 : Int32)) p0.toInt64.toInt (own_bit p3 (2 : Int32)) p1.toInt64.toInt (own_v p0 p1 p2 (own_md p3)).toInt) = (1 : Int32) := own_b1 ⟨own_d1 (fun g => q1 (c1.mpr g)) (Or.inr (fun g => q3 (c3.mpr g))), own_d2 (fun g => q2 (c2.mpr g)) (Or.inr (fun g => q5 (c4.mpr g)))⟩
            rw [eI] at k226 ⊢
            exact k226
  have k138 : Steps p.tables e below (s₁.setTop (mkF m 138 #[.val (.int p0), .val (.int p1), .val (.int p2), .val (.int p3), .val (.int (own_bit p3 (1 : Int32))), .val (.int (own_bit p3 (2 : Int32))), .val (.int (own_md p3)), .val (.int (own_bit p3 (16 : Int32))), .val (.int (own_bit p3 (32 : Int32))), .val (.int (own_bit p3 (64 : Int32))), .val (.long p0.toInt64), .second, .val (.long p1.toInt64), .second, .val (.long (p2 % (3 : Int32)).toInt64), .second, .val (.long (own_v p0 p1 p2 (own_md p3))), .second, .unset, .unset, .unset] [])) (T30.setFrames fs) := by
    show Steps p.tables e below (s₁.setTop (mkF m 138 #[.val (.int p0), .val (.int p1), .val (.int p2), .val (.int p3), .val (.int (own_bit p3 (1 : Int32))), .val (.int (own_bit p3 (2 : Int32))), .val (.int (own_md p3)), .val (.int (own_bit p3 (16 : Int32))), .val (.int (own_bit p3 (32 : Int32))), .val (.int (own_bit p3 (64 : Int32))), .val (.long p0.toInt64), .second, .val (.long p1.toInt64), .second, .val (.long (p2 % (3 : Int32)).toInt64), .second, .val (.long (own_v p0 p1 p2 (own_md p3))), .second, .unset, .unset, .unset] [])) _
    refine st25 _ ?_
    show Steps p.tables e below (T25.setTop (mkF m 141 #[.val (.int p0), .val (.int p1), .val (.int p2), .val (.int p3), .val (.int (own_bit p3 (1 : Int32))), .val (.int (own_bit p3 (2 : Int32))), .val (.int (own_md p3)), .val (.int (own_bit p3 (16 : Int32))), .val (.int (own_bit p3 (32 : Int32))), .val (.int (own_bit p3 (64 : Int32))), .val (.long p0.toInt64), .second, .val (.long p1.toInt64), .second, .val (.long (p2 % (3 : Int32)).toInt64), .second, .val (.long (own_v p0 p1 p2 (own_md p3))), .second, .unset, .unset, .unset] [(.ref b1)])) _
    refine XS.dup X25.here hx rfl (hb hby at_141) rfl rfl ?_
    show Steps p.tables e below (T25.setTop (mkF m 142 #[.val (.int p0), .val (.int p1), .val (.int p2), .val (.int p3), .val (.int (own_bit p3 (1 : Int32))), .val (.int (own_bit p3 (2 : Int32))), .val (.int (own_md p3)), .val (.int (own_bit p3 (16 : Int32))), .val (.int (own_bit p3 (32 : Int32))), .val (.int (own_bit p3 (64 : Int32))), .val (.long p0.toInt64), .second, .val (.long p1.toInt64), .second, .val (.long (p2 % (3 : Int32)).toInt64), .second, .val (.long (own_v p0 p1 p2 (own_md p3))), .second, .unset, .unset, .unset] [(.ref b1), (.ref b1)])) _
    refine XS.lload X25.here hx rfl (hb hby at_142) rfl ?_
    show Steps p.tables e below (T25.setTop (mkF m 144 #[.val (.int p0), .val (.int p1), .val (.int p2), .val (.int p3), .val (.int (own_bit p3 (1 : Int32))), .val (.int (own_bit p3 (2 : Int32))), .val (.int (own_md p3)), .val (.int (own_bit p3 (16 : Int32))), .val (.int (own_bit p3 (32 : Int32))), .val (.int (own_bit p3 (64 : Int32))), .val (.long p0.toInt64), .second, .val (.long p1.toInt64), .second, .val (.long (p2 % (3 : Int32)).toInt64), .second, .val (.long (own_v p0 p1 p2 (own_md p3))), .second, .unset, .unset, .unset] [(.long p0.toInt64), (.ref b1), (.ref b1)])) _
    refine XS.iload X25.here hx rfl (hb hby at_144) rfl ?_
    show Steps p.tables e below (T25.setTop (mkF m 146 #[.val (.int p0), .val (.int p1), .val (.int p2), .val (.int p3), .val (.int (own_bit p3 (1 : Int32))), .val (.int (own_bit p3 (2 : Int32))), .val (.int (own_md p3)), .val (.int (own_bit p3 (16 : Int32))), .val (.int (own_bit p3 (32 : Int32))), .val (.int (own_bit p3 (64 : Int32))), .val (.long p0.toInt64), .second, .val (.long p1.toInt64), .second, .val (.long (p2 % (3 : Int32)).toInt64), .second, .val (.long (own_v p0 p1 p2 (own_md p3))), .second, .unset, .unset, .unset] [(.int (own_bit p3 (16 : Int32))), (.long p0.toInt64), (.ref b1), (.ref b1)])) _
    refine st26 _ ?_
    show Steps p.tables e below (T26.setTop (mkF m 149 #[.val (.int p0), .val (.int p1), .val (.int p2), .val (.int p3), .val (.int (own_bit p3 (1 : Int32))), .val (.int (own_bit p3 (2 : Int32))), .val (.int (own_md p3)), .val (.int (own_bit p3 (16 : Int32))), .val (.int (own_bit p3 (32 : Int32))), .val (.int (own_bit p3 (64 : Int32))), .val (.long p0.toInt64), .second, .val (.long p1.toInt64), .second, .val (.long (p2 % (3 : Int32)).toInt64), .second, .val (.long (own_v p0 p1 p2 (own_md p3))), .second, .unset, .unset, .unset] [(.double (own_toD p0.toInt64 (own_bit p3 (16 : Int32)))), (.ref b1), (.ref b1)])) _
    refine XS.iload X26.here hx rfl (hb hby at_149) rfl ?_
    show Steps p.tables e below (T26.setTop (mkF m 151 #[.val (.int p0), .val (.int p1), .val (.int p2), .val (.int p3), .val (.int (own_bit p3 (1 : Int32))), .val (.int (own_bit p3 (2 : Int32))), .val (.int (own_md p3)), .val (.int (own_bit p3 (16 : Int32))), .val (.int (own_bit p3 (32 : Int32))), .val (.int (own_bit p3 (64 : Int32))), .val (.long p0.toInt64), .second, .val (.long p1.toInt64), .second, .val (.long (p2 % (3 : Int32)).toInt64), .second, .val (.long (own_v p0 p1 p2 (own_md p3))), .second, .unset, .unset, .unset] [(.int (own_bit p3 (1 : Int32))), (.double (own_toD p0.toInt64 (own_bit p3 (16 : Int32)))), (.ref b1), (.ref b1)])) _
    refine XS.lload X26.here hx rfl (hb hby at_151) rfl ?_
    show Steps p.tables e below (T26.setTop (mkF m 153 #[.val (.int p0), .val (.int p1), .val (.int p2), .val (.int p3), .val (.int (own_bit p3 (1 : Int32))), .val (.int (own_bit p3 (2 : Int32))), .val (.int (own_md p3)), .val (.int (own_bit p3 (16 : Int32))), .val (.int (own_bit p3 (32 : Int32))), .val (.int (own_bit p3 (64 : Int32))), .val (.long p0.toInt64), .second, .val (.long p1.toInt64), .second, .val (.long (p2 % (3 : Int32)).toInt64), .second, .val (.long (own_v p0 p1 p2 (own_md p3))), .second, .unset, .unset, .unset] [(.long p1.toInt64), (.int (own_bit p3 (1 : Int32))), (.double (own_toD p0.toInt64 (own_bit p3 (16 : Int32)))), (.ref b1), (.ref b1)])) _
    refine XS.iload X26.here hx rfl (hb hby at_153) rfl ?_
    show Steps p.tables e below (T26.setTop (mkF m 155 #[.val (.int p0), .val (.int p1), .val (.int p2), .val (.int p3), .val (.int (own_bit p3 (1 : Int32))), .val (.int (own_bit p3 (2 : Int32))), .val (.int (own_md p3)), .val (.int (own_bit p3 (16 : Int32))), .val (.int (own_bit p3 (32 : Int32))), .val (.int (own_bit p3 (64 : Int32))), .val (.long p0.toInt64), .second, .val (.long p1.toInt64), .second, .val (.long (p2 % (3 : Int32)).toInt64), .second, .val (.long (own_v p0 p1 p2 (own_md p3))), .second, .unset, .unset, .unset] [(.int (own_bit p3 (32 : Int32))), (.long p1.toInt64), (.int (own_bit p3 (1 : Int32))), (.double (own_toD p0.toInt64 (own_bit p3 (16 : Int32)))), (.ref b1), (.ref b1)])) _
    refine st27 _ ?_
    show Steps p.tables e below (T27.setTop (mkF m 158 #[.val (.int p0), .val (.int p1), .val (.int p2), .val (.int p3), .val (.int (own_bit p3 (1 : Int32))), .val (.int (own_bit p3 (2 : Int32))), .val (.int (own_md p3)), .val (.int (own_bit p3 (16 : Int32))), .val (.int (own_bit p3 (32 : Int32))), .val (.int (own_bit p3 (64 : Int32))), .val (.long p0.toInt64), .second, .val (.long p1.toInt64), .second, .val (.long (p2 % (3 : Int32)).toInt64), .second, .val (.long (own_v p0 p1 p2 (own_md p3))), .second, .unset, .unset, .unset] [(.double (own_toD p1.toInt64 (own_bit p3 (32 : Int32)))), (.int (own_bit p3 (1 : Int32))), (.double (own_toD p0.toInt64 (own_bit p3 (16 : Int32)))), (.ref b1), (.ref b1)])) _
    refine XS.iload X27.here hx rfl (hb hby at_158) rfl ?_
    show Steps p.tables e below (T27.setTop (mkF m 160 #[.val (.int p0), .val (.int p1), .val (.int p2), .val (.int p3), .val (.int (own_bit p3 (1 : Int32))), .val (.int (own_bit p3 (2 : Int32))), .val (.int (own_md p3)), .val (.int (own_bit p3 (16 : Int32))), .val (.int (own_bit p3 (32 : Int32))), .val (.int (own_bit p3 (64 : Int32))), .val (.long p0.toInt64), .second, .val (.long p1.toInt64), .second, .val (.long (p2 % (3 : Int32)).toInt64), .second, .val (.long (own_v p0 p1 p2 (own_md p3))), .second, .unset, .unset, .unset] [(.int (own_bit p3 (2 : Int32))), (.double (own_toD p1.toInt64 (own_bit p3 (32 : Int32)))), (.int (own_bit p3 (1 : Int32))), (.double (own_toD p0.toInt64 (own_bit p3 (16 : Int32)))), (.ref b1), (.ref b1)])) _
    refine st28.trans ?_
    show Steps p.tables e below (T28.setTop (mkF m 163 #[.val (.int p0), .val (.int p1), .val (.int p2), .val (.int p3), .val (.int (own_bit p3 (1 : Int32))), .val (.int (own_bit p3 (2 : Int32))), .val (.int (own_md p3)), .val (.int (own_bit p3 (16 : Int32))), .val (.int (own_bit p3 (32 : Int32))), .val (.int (own_bit p3 (64 : Int32))), .val (.long p0.toInt64), .second, .val (.long p1.toInt64), .second, .val (.long (p2 % (3 : Int32)).toInt64), .second, .val (.long (own_v p0 p1 p2 (own_md p3))), .second, .unset, .unset, .unset] [(.ref b1)])) _
    refine XS.astore X28.here hx rfl (hb hby at_163) rfl rfl (l' := #[.val (.int p0), .val (.int p1), .val (.int p2), .val (.int p3), .val (.int (own_bit p3 (1 : Int32))), .val (.int (own_bit p3 (2 : Int32))), .val (.int (own_md p3)), .val (.int (own_bit p3 (16 : Int32))), .val (.int (own_bit p3 (32 : Int32))), .val (.int (own_bit p3 (64 : Int32))), .val (.long p0.toInt64), .second, .val (.long p1.toInt64), .second, .val (.long (p2 % (3 : Int32)).toInt64), .second, .val (.long (own_v p0 p1 p2 (own_md p3))), .second, .val (.ref b1), .unset, .unset]) rfl ?_
    show Steps p.tables e below (T28.setTop (mkF m 165 #[.val (.int p0), .val (.int p1), .val (.int p2), .val (.int p3), .val (.int (own_bit p3 (1 : Int32))), .val (.int (own_bit p3 (2 : Int32))), .val (.int (own_md p3)), .val (.int (own_bit p3 (16 : Int32))), .val (.int (own_bit p3 (32 : Int32))), .val (.int (own_bit p3 (64 : Int32))), .val (.long p0.toInt64), .second, .val (.long p1.toInt64), .second, .val (.long (p2 % (3 : Int32)).toInt64), .second, .val (.long (own_v p0 p1 p2 (own_md p3))), .second, .val (.ref b1), .unset, .unset] [])) _
    refine XS.aload X28.here hx rfl (hb hby at_165) rfl rfl ?_
    show Steps p.tables e below (T28.setTop (mkF m 167 #[.val (.int p0), .val (.int p1), .val (.int p2), .val (.int p3), .val (.int (own_bit p3 (1 : Int32))), .val (.int (own_bit p3 (2 : Int32))), .val (.int (own_md p3)), .val (.int (own_bit p3 (16 : Int32))), .val (.int (own_bit p3 (32 : Int32))), .val (.int (own_bit p3 (64 : Int32))), .val (.long p0.toInt64), .second, .val (.long p1.toInt64), .second, .val (.long (p2 % (3 : Int32)).toInt64), .second, .val (.long (own_v p0 p1 p2 (own_md p3))), .second, .val (.ref b1), .unset, .unset] [(.ref b1)])) _
    refine XS.lload X28.here hx rfl (hb hby at_167) rfl ?_
    show Steps p.tables e below (T28.setTop (mkF m 169 #[.val (.int p0), .val (.int p1), .val (.int p2), .val (.int p3), .val (.int (own_bit p3 (1 : Int32))), .val (.int (own_bit p3 (2 : Int32))), .val (.int (own_md p3)), .val (.int (own_bit p3 (16 : Int32))), .val (.int (own_bit p3 (32 : Int32))), .val (.int (own_bit p3 (64 : Int32))), .val (.long p0.toInt64), .second, .val (.long p1.toInt64), .second, .val (.long (p2 % (3 : Int32)).toInt64), .second, .val (.long (own_v p0 p1 p2 (own_md p3))), .second, .val (.ref b1), .unset, .unset] [(.long (own_v p0 p1 p2 (own_md p3))), (.ref b1)])) _
    refine XS.iload X28.here hx rfl (hb hby at_169) rfl ?_
    show Steps p.tables e below (T28.setTop (mkF m 171 #[.val (.int p0), .val (.int p1), .val (.int p2), .val (.int p3), .val (.int (own_bit p3 (1 : Int32))), .val (.int (own_bit p3 (2 : Int32))), .val (.int (own_md p3)), .val (.int (own_bit p3 (16 : Int32))), .val (.int (own_bit p3 (32 : Int32))), .val (.int (own_bit p3 (64 : Int32))), .val (.long p0.toInt64), .second, .val (.long p1.toInt64), .second, .val (.long (p2 % (3 : Int32)).toInt64), .second, .val (.long (own_v p0 p1 p2 (own_md p3))), .second, .val (.ref b1), .unset, .unset] [(.int (own_bit p3 (64 : Int32))), (.long (own_v p0 p1 p2 (own_md p3))), (.ref b1)])) _
    refine st29 _ ?_
    show Steps p.tables e below (T29.setTop (mkF m 174 #[.val (.int p0), .val (.int p1), .val (.int p2), .val (.int p3), .val (.int (own_bit p3 (1 : Int32))), .val (.int (own_bit p3 (2 : Int32))), .val (.int (own_md p3)), .val (.int (own_bit p3 (16 : Int32))), .val (.int (own_bit p3 (32 : Int32))), .val (.int (own_bit p3 (64 : Int32))), .val (.long p0.toInt64), .second, .val (.long p1.toInt64), .second, .val (.long (p2 % (3 : Int32)).toInt64), .second, .val (.long (own_v p0 p1 p2 (own_md p3))), .second, .val (.ref b1), .unset, .unset] [(.double (own_toD (own_v p0 p1 p2 (own_md p3)) (own_bit p3 (64 : Int32)))), (.ref b1)])) _
    refine st30.trans ?_
    show Steps p.tables e below (T30.setTop (mkF m 177 #[.val (.int p0), .val (.int p1), .val (.int p2), .val (.int p3), .val (.int (own_bit p3 (1 : Int32))), .val (.int (own_bit p3 (2 : Int32))), .val (.int (own_md p3)), .val (.int (own_bit p3 (16 : Int32))), .val (.int (own_bit p3 (32 : Int32))), .val (.int (own_bit p3 (64 : Int32))), .val (.long p0.toInt64), .second, .val (.long p1.toInt64), .second, .val (.long (p2 % (3 : Int32)).toInt64), .second, .val (.long (own_v p0 p1 p2 (own_md p3))), .second, .val (.ref b1), .unset, .unset] [(.int (own_in (own_bit p3 (1 : Int32)) p0.toInt64.toInt (own_bit p3 (2 : Int32)) p1.toInt64.toInt (own_v p0 p1 p2 (own_md p3)).toInt))])) _
    refine XS.istore X30.here hx rfl (hb hby at_177) rfl (l' := #[.val (.int p0), .val (.int p1), .val (.int p2), .val (.int p3), .val (.int (own_bit p3 (1 : Int32))), .val (.int (own_bit p3 (2 : Int32))), .val (.int (own_md p3)), .val (.int (own_bit p3 (16 : Int32))), .val (.int (own_bit p3 (32 : Int32))), .val (.int (own_bit p3 (64 : Int32))), .val (.long p0.toInt64), .second, .val (.long p1.toInt64), .second, .val (.long (p2 % (3 : Int32)).toInt64), .second, .val (.long (own_v p0 p1 p2 (own_md p3))), .second, .val (.ref b1), .val (.int (own_in (own_bit p3 (1 : Int32)) p0.toInt64.toInt (own_bit p3 (2 : Int32)) p1.toInt64.toInt (own_v p0 p1 p2 (own_md p3)).toInt)), .unset]) rfl ?_
    exact k179
  have k138' := k138
  have k89 : Steps p.tables e below (s₁.setTop (mkF m 89 #[.val (.int p0), .val (.int p1), .val (.int p2), .val (.int p3), .val (.int (own_bit p3 (1 : Int32))), .val (.int (own_bit p3 (2 : Int32))), .val (.int (own_md p3)), .val (.int (own_bit p3 (16 : Int32))), .val (.int (own_bit p3 (32 : Int32))), .val (.int (own_bit p3 (64 : Int32))), .val (.long p0.toInt64), .second, .val (.long p1.toInt64), .second, .val (.long (p2 % (3 : Int32)).toInt64), .second, .unset, .unset, .unset, .unset, .unset] [])) (T30.setFrames fs) := by
    by_cases r1 : (own_md p3) = (1 : Int32)
    · show Steps p.tables e below (s₁.setTop (mkF m 89 #[.val (.int p0), .val (.int p1), .val (.int p2), .val (.int p3), .val (.int (own_bit p3 (1 : Int32))), .val (.int (own_bit p3 (2 : Int32))), .val (.int (own_md p3)), .val (.int (own_bit p3 (16 : Int32))), .val (.int (own_bit p3 (32 : Int32))), .val (.int (own_bit p3 (64 : Int32))), .val (.long p0.toInt64), .second, .val (.long p1.toInt64), .second, .val (.long (p2 % (3 : Int32)).toInt64), .second, .unset, .unset, .unset, .unset, .unset] [])) _
      refine XS.iload X0.here hx rfl (hb hby at_89) rfl ?_
      show Steps p.tables e below (s₁.setTop (mkF m 91 #[.val (.int p0), .val (.int p1), .val (.int p2), .val (.int p3), .val (.int (own_bit p3 (1 : Int32))), .val (.int (own_bit p3 (2 : Int32))), .val (.int (own_md p3)), .val (.int (own_bit p3 (16 : Int32))), .val (.int (own_bit p3 (32 : Int32))), .val (.int (own_bit p3 (64 : Int32))), .val (.long p0.toInt64), .second, .val (.long p1.toInt64), .second, .val (.long (p2 % (3 : Int32)).toInt64), .second, .unset, .unset, .unset, .unset, .unset] [(.int (own_md p3))])) _
      refine XS.iconst X0.here hx rfl (hb hby at_91) ?_
      show Steps p.tables e below (s₁.setTop (mkF m 92 #[.val (.int p0), .val (.int p1), .val (.int p2), .val (.int p3), .val (.int (own_bit p3 (1 : Int32))), .val (.int (own_bit p3 (2 : Int32))), .val (.int (own_md p3)), .val (.int (own_bit p3 (16 : Int32))), .val (.int (own_bit p3 (32 : Int32))), .val (.int (own_bit p3 (64 : Int32))), .val (.long p0.toInt64), .second, .val (.long p1.toInt64), .second, .val (.long (p2 % (3 : Int32)).toInt64), .second, .unset, .unset, .unset, .unset, .unset] [(.int (1 : Int32)), (.int (own_md p3))])) _
      refine XS.icmpNo X0.here hx rfl (hb hby at_92) rfl (teq r1).2 ?_
      show Steps p.tables e below (s₁.setTop (mkF m 95 #[.val (.int p0), .val (.int p1), .val (.int p2), .val (.int p3), .val (.int (own_bit p3 (1 : Int32))), .val (.int (own_bit p3 (2 : Int32))), .val (.int (own_md p3)), .val (.int (own_bit p3 (16 : Int32))), .val (.int (own_bit p3 (32 : Int32))), .val (.int (own_bit p3 (64 : Int32))), .val (.long p0.toInt64), .second, .val (.long p1.toInt64), .second, .val (.long (p2 % (3 : Int32)).toInt64), .second, .unset, .unset, .unset, .unset, .unset] [])) _
      refine XS.lload X0.here hx rfl (hb hby at_95) rfl ?_
      show Steps p.tables e below (s₁.setTop (mkF m 97 #[.val (.int p0), .val (.int p1), .val (.int p2), .val (.int p3), .val (.int (own_bit p3 (1 : Int32))), .val (.int (own_bit p3 (2 : Int32))), .val (.int (own_md p3)), .val (.int (own_bit p3 (16 : Int32))), .val (.int (own_bit p3 (32 : Int32))), .val (.int (own_bit p3 (64 : Int32))), .val (.long p0.toInt64), .second, .val (.long p1.toInt64), .second, .val (.long (p2 % (3 : Int32)).toInt64), .second, .unset, .unset, .unset, .unset, .unset] [(.long p0.toInt64)])) _
      refine XS.lload X0.here hx rfl (hb hby at_97) rfl ?_
      show Steps p.tables e below (s₁.setTop (mkF m 99 #[.val (.int p0), .val (.int p1), .val (.int p2), .val (.int p3), .val (.int (own_bit p3 (1 : Int32))), .val (.int (own_bit p3 (2 : Int32))), .val (.int (own_md p3)), .val (.int (own_bit p3 (16 : Int32))), .val (.int (own_bit p3 (32 : Int32))), .val (.int (own_bit p3 (64 : Int32))), .val (.long p0.toInt64), .second, .val (.long p1.toInt64), .second, .val (.long (p2 % (3 : Int32)).toInt64), .second, .unset, .unset, .unset, .unset, .unset] [(.long (p2 % (3 : Int32)).toInt64), (.long p0.toInt64)])) _
      refine XS.ladd X0.here hx rfl (hb hby at_99) rfl ?_
      show Steps p.tables e below (s₁.setTop (mkF m 100 #[.val (.int p0), .val (.int p1), .val (.int p2), .val (.int p3), .val (.int (own_bit p3 (1 : Int32))), .val (.int (own_bit p3 (2 : Int32))), .val (.int (own_md p3)), .val (.int (own_bit p3 (16 : Int32))), .val (.int (own_bit p3 (32 : Int32))), .val (.int (own_bit p3 (64 : Int32))), .val (.long p0.toInt64), .second, .val (.long p1.toInt64), .second, .val (.long (p2 % (3 : Int32)).toInt64), .second, .unset, .unset, .unset, .unset, .unset] [(.long (p0.toInt64 + (p2 % (3 : Int32)).toInt64))])) _
      refine XS.lstore X0.here hx rfl (hb hby at_100) rfl (l' := #[.val (.int p0), .val (.int p1), .val (.int p2), .val (.int p3), .val (.int (own_bit p3 (1 : Int32))), .val (.int (own_bit p3 (2 : Int32))), .val (.int (own_md p3)), .val (.int (own_bit p3 (16 : Int32))), .val (.int (own_bit p3 (32 : Int32))), .val (.int (own_bit p3 (64 : Int32))), .val (.long p0.toInt64), .second, .val (.long p1.toInt64), .second, .val (.long (p2 % (3 : Int32)).toInt64), .second, .val (.long (p0.toInt64 + (p2 % (3 : Int32)).toInt64)), .second, .unset, .unset, .unset]) rfl ?_
      show Steps p.tables e below (s₁.setTop (mkF m 102 #[.val (.int p0), .val (.int p1), .val (.int p2), .val (.int p3), .val (.int (own_bit p3 (1 : Int32))), .val (.int (own_bit p3 (2 : Int32))), .val (.int (own_md p3)), .val (.int (own_bit p3 (16 : Int32))), .val (.int (own_bit p3 (32 : Int32))), .val (.int (own_bit p3 (64 : Int32))), .val (.long p0.toInt64), .second, .val (.long p1.toInt64), .second, .val (.long (p2 % (3 : Int32)).toInt64), .second, .val (.long (p0.toInt64 + (p2 % (3 : Int32)).toInt64)), .second, .unset, .unset, .unset] [])) _
      refine XS.goto X0.here hx rfl (pc0 := 102) (pc' := 138) rfl (hb hby at_102) (by decide) (by decide) ?_
      show Steps p.tables e below (s₁.setTop (mkF m 138 #[.val (.int p0), .val (.int p1), .val (.int p2), .val (.int p3), .val (.int (own_bit p3 (1 : Int32))), .val (.int (own_bit p3 (2 : Int32))), .val (.int (own_md p3)), .val (.int (own_bit p3 (16 : Int32))), .val (.int (own_bit p3 (32 : Int32))), .val (.int (own_bit p3 (64 : Int32))), .val (.long p0.toInt64), .second, .val (.long p1.toInt64), .second, .val (.long (p2 % (3 : Int32)).toInt64), .second, .val (.long (p0.toInt64 + (p2 % (3 : Int32)).toInt64)), .second, .unset, .unset, .unset] [])) _
      have eV : (own_v p0 p1 p2 (own_md p3)) = (p0.toInt64 + (p2 % (3 : Int32)).toInt64) := if_pos r1
      have kk := k138'
      rw [eV] at kk
      exact kk
    · by_cases r2 : (own_md p3) = (2 : Int32)
      · show Steps p.tables e below (s₁.setTop (mkF m 89 #[.val (.int p0), .val (.int p1), .val (.int p2), .val (.int p3), .val (.int (own_bit p3 (1 : Int32))), .val (.int (own_bit p3 (2 : Int32))), .val (.int (own_md p3)), .val (.int (own_bit p3 (16 : Int32))), .val (.int (own_bit p3 (32 : Int32))), .val (.int (own_bit p3 (64 : Int32))), .val (.long p0.toInt64), .second, .val (.long p1.toInt64), .second, .val (.long (p2 % (3 : Int32)).toInt64), .second, .unset, .unset, .unset, .unset, .unset] [])) _
        refine XS.iload X0.here hx rfl (hb hby at_89) rfl ?_
        show Steps p.tables e below (s₁.setTop (mkF m 91 #[.val (.int p0), .val (.int p1), .val (.int p2), .val (.int p3), .val (.int (own_bit p3 (1 : Int32))), .val (.int (own_bit p3 (2 : Int32))), .val (.int (own_md p3)), .val (.int (own_bit p3 (16 : Int32))), .val (.int (own_bit p3 (32 : Int32))), .val (.int (own_bit p3 (64 : Int32))), .val (.long p0.toInt64), .second, .val (.long p1.toInt64), .second, .val (.long (p2 % (3 : Int32)).toInt64), .second, .unset, .unset, .unset, .unset, .unset] [(.int (own_md p3))])) _
        refine XS.iconst X0.here hx rfl (hb hby at_91) ?_
        show Steps p.tables e below (s₁.setTop (mkF m 92 #[.val (.int p0), .val (.int p1), .val (.int p2), .val (.int p3), .val (.int (own_bit p3 (1 : Int32))), .val (.int (own_bit p3 (2 : Int32))), .val (.int (own_md p3)), .val (.int (own_bit p3 (16 : Int32))), .val (.int (own_bit p3 (32 : Int32))), .val (.int (own_bit p3 (64 : Int32))), .val (.long p0.toInt64), .second, .val (.long p1.toInt64), .second, .val (.long (p2 % (3 : Int32)).toInt64), .second, .unset, .unset, .unset, .unset, .unset] [(.int (1 : Int32)), (.int (own_md p3))])) _
        refine XS.icmpYes X0.here hx rfl (pc0 := 92) (pc' := 105) rfl (hb hby at_92) rfl (feq r1).2 (by decide) (by decide) ?_
        show Steps p.tables e below (s₁.setTop (mkF m 105 #[.val (.int p0), .val (.int p1), .val (.int p2), .val (.int p3), .val (.int (own_bit p3 (1 : Int32))), .val (.int (own_bit p3 (2 : Int32))), .val (.int (own_md p3)), .val (.int (own_bit p3 (16 : Int32))), .val (.int (own_bit p3 (32 : Int32))), .val (.int (own_bit p3 (64 : Int32))), .val (.long p0.toInt64), .second, .val (.long p1.toInt64), .second, .val (.long (p2 % (3 : Int32)).toInt64), .second, .unset, .unset, .unset, .unset, .unset] [])) _
        refine XS.iload X0.here hx rfl (hb hby at_105) rfl ?_
        show Steps p.tables e below (s₁.setTop (mkF m 107 #[.val (.int p0), .val (.int p1), .val (.int p2), .val (.int p3), .val (.int (own_bit p3 (1 : Int32))), .val (.int (own_bit p3 (2 : Int32))), .val (.int (own_md p3)), .val (.int (own_bit p3 (16 : Int32))), .val (.int (own_bit p3 (32 : Int32))), .val (.int (own_bit p3 (64 : Int32))), .val (.long p0.toInt64), .second, .val (.long p1.toInt64), .second, .val (.long (p2 % (3 : Int32)).toInt64), .second, .unset, .unset, .unset, .unset, .unset] [(.int (own_md p3))])) _
        refine XS.iconst X0.here hx rfl (hb hby at_107) ?_
        show Steps p.tables e below (s₁.setTop (mkF m 108 #[.val (.int p0), .val (.int p1), .val (.int p2), .val (.int p3), .val (.int (own_bit p3 (1 : Int32))), .val (.int (own_bit p3 (2 : Int32))), .val (.int (own_md p3)), .val (.int (own_bit p3 (16 : Int32))), .val (.int (own_bit p3 (32 : Int32))), .val (.int (own_bit p3 (64 : Int32))), .val (.long p0.toInt64), .second, .val (.long p1.toInt64), .second, .val (.long (p2 % (3 : Int32)).toInt64), .second, .unset, .unset, .unset, .unset, .unset] [(.int (2 : Int32)), (.int (own_md p3))])) _
        refine XS.icmpNo X0.here hx rfl (hb hby at_108) rfl (teq r2).2 ?_
        show Steps p.tables e below (s₁.setTop (mkF m 111 #[.val (.int p0), .val (.int p1), .val (.int p2), .val (.int p3), .val (.int (own_bit p3 (1 : Int32))), .val (.int (own_bit p3 (2 : Int32))), .val (.int (own_md p3)), .val (.int (own_bit p3 (16 : Int32))), .val (.int (own_bit p3 (32 : Int32))), .val (.int (own_bit p3 (64 : Int32))), .val (.long p0.toInt64), .second, .val (.long p1.toInt64), .second, .val (.long (p2 % (3 : Int32)).toInt64), .second, .unset, .unset, .unset, .unset, .unset] [])) _
        refine XS.lload X0.here hx rfl (hb hby at_111) rfl ?_
        show Steps p.tables e below (s₁.setTop (mkF m 113 #[.val (.int p0), .val (.int p1), .val (.int p2), .val (.int p3), .val (.int (own_bit p3 (1 : Int32))), .val (.int (own_bit p3 (2 : Int32))), .val (.int (own_md p3)), .val (.int (own_bit p3 (16 : Int32))), .val (.int (own_bit p3 (32 : Int32))), .val (.int (own_bit p3 (64 : Int32))), .val (.long p0.toInt64), .second, .val (.long p1.toInt64), .second, .val (.long (p2 % (3 : Int32)).toInt64), .second, .unset, .unset, .unset, .unset, .unset] [(.long p1.toInt64)])) _
        refine XS.lload X0.here hx rfl (hb hby at_113) rfl ?_
        show Steps p.tables e below (s₁.setTop (mkF m 115 #[.val (.int p0), .val (.int p1), .val (.int p2), .val (.int p3), .val (.int (own_bit p3 (1 : Int32))), .val (.int (own_bit p3 (2 : Int32))), .val (.int (own_md p3)), .val (.int (own_bit p3 (16 : Int32))), .val (.int (own_bit p3 (32 : Int32))), .val (.int (own_bit p3 (64 : Int32))), .val (.long p0.toInt64), .second, .val (.long p1.toInt64), .second, .val (.long (p2 % (3 : Int32)).toInt64), .second, .unset, .unset, .unset, .unset, .unset] [(.long (p2 % (3 : Int32)).toInt64), (.long p1.toInt64)])) _
        refine XS.ladd X0.here hx rfl (hb hby at_115) rfl ?_
        show Steps p.tables e below (s₁.setTop (mkF m 116 #[.val (.int p0), .val (.int p1), .val (.int p2), .val (.int p3), .val (.int (own_bit p3 (1 : Int32))), .val (.int (own_bit p3 (2 : Int32))), .val (.int (own_md p3)), .val (.int (own_bit p3 (16 : Int32))), .val (.int (own_bit p3 (32 : Int32))), .val (.int (own_bit p3 (64 : Int32))), .val (.long p0.toInt64), .second, .val (.long p1.toInt64), .second, .val (.long (p2 % (3 : Int32)).toInt64), .second, .unset, .unset, .unset, .unset, .unset] [(.long (p1.toInt64 + (p2 % (3 : Int32)).toInt64))])) _
        refine XS.lstore X0.here hx rfl (hb hby at_116) rfl (l' := #[.val (.int p0), .val (.int p1), .val (.int p2), .val (.int p3), .val (.int (own_bit p3 (1 : Int32))), .val (.int (own_bit p3 (2 : Int32))), .val (.int (own_md p3)), .val (.int (own_bit p3 (16 : Int32))), .val (.int (own_bit p3 (32 : Int32))), .val (.int (own_bit p3 (64 : Int32))), .val (.long p0.toInt64), .second, .val (.long p1.toInt64), .second, .val (.long (p2 % (3 : Int32)).toInt64), .second, .val (.long (p1.toInt64 + (p2 % (3 : Int32)).toInt64)), .second, .unset, .unset, .unset]) rfl ?_
        show Steps p.tables e below (s₁.setTop (mkF m 118 #[.val (.int p0), .val (.int p1), .val (.int p2), .val (.int p3), .val (.int (own_bit p3 (1 : Int32))), .val (.int (own_bit p3 (2 : Int32))), .val (.int (own_md p3)), .val (.int (own_bit p3 (16 : Int32))), .val (.int (own_bit p3 (32 : Int32))), .val (.int (own_bit p3 (64 : Int32))), .val (.long p0.toInt64), .second, .val (.long p1.toInt64), .second, .val (.long (p2 % (3 : Int32)).toInt64), .second, .val (.long (p1.toInt64 + (p2 % (3 : Int32)).toInt64)), .second, .unset, .unset, .unset] [])) _
        refine XS.goto X0.here hx rfl (pc0 := 118) (pc' := 138) rfl (hb hby at_118) (by decide) (by decide) ?_
        show Steps p.tables e below (s₁.setTop (mkF m 138 #[.val (.int p0), .val (.int p1), .val (.int p2), .val (.int p3), .val (.int (own_bit p3 (1 : Int32))), .val (.int (own_bit p3 (2 : Int32))), .val (.int (own_md p3)), .val (.int (own_bit p3 (16 : Int32))), .val (.int (own_bit p3 (32 : Int32))), .val (.int (own_bit p3 (64 : Int32))), .val (.long p0.toInt64), .second, .val (.long p1.toInt64), .second, .val (.long (p2 % (3 : Int32)).toInt64), .second, .val (.long (p1.toInt64 + (p2 % (3 : Int32)).toInt64)), .second, .unset, .unset, .unset] [])) _
        have eV : (own_v p0 p1 p2 (own_md p3)) = (p1.toInt64 + (p2 % (3 : Int32)).toInt64) := (if_neg r1).trans (if_pos r2)
        have kk := k138'
        rw [eV] at kk
        exact kk
      · by_cases r3 : (own_md p3) = (3 : Int32)
        · show Steps p.tables e below (s₁.setTop (mkF m 89 #[.val (.int p0), .val (.int p1), .val (.int p2), .val (.int p3), .val (.int (own_bit p3 (1 : Int32))), .val (.int (own_bit p3 (2 : Int32))), .val (.int (own_md p3)), .val (.int (own_bit p3 (16 : Int32))), .val (.int (own_bit p3 (32 : Int32))), .val (.int (own_bit p3 (64 : Int32))), .val (.long p0.toInt64), .second, .val (.long p1.toInt64), .second, .val (.long (p2 % (3 : Int32)).toInt64), .second, .unset, .unset, .unset, .unset, .unset] [])) _
          refine XS.iload X0.here hx rfl (hb hby at_89) rfl ?_
          show Steps p.tables e below (s₁.setTop (mkF m 91 #[.val (.int p0), .val (.int p1), .val (.int p2), .val (.int p3), .val (.int (own_bit p3 (1 : Int32))), .val (.int (own_bit p3 (2 : Int32))), .val (.int (own_md p3)), .val (.int (own_bit p3 (16 : Int32))), .val (.int (own_bit p3 (32 : Int32))), .val (.int (own_bit p3 (64 : Int32))), .val (.long p0.toInt64), .second, .val (.long p1.toInt64), .second, .val (.long (p2 % (3 : Int32)).toInt64), .second, .unset, .unset, .unset, .unset, .unset] [(.int (own_md p3))])) _
          refine XS.iconst X0.here hx rfl (hb hby at_91) ?_
          show Steps p.tables e below (s₁.setTop (mkF m 92 #[.val (.int p0), .val (.int p1), .val (.int p2), .val (.int p3), .val (.int (own_bit p3 (1 : Int32))), .val (.int (own_bit p3 (2 : Int32))), .val (.int (own_md p3)), .val (.int (own_bit p3 (16 : Int32))), .val (.int (own_bit p3 (32 : Int32))), .val (.int (own_bit p3 (64 : Int32))), .val (.long p0.toInt64), .second, .val (.long p1.toInt64), .second, .val (.long (p2 % (3 : Int32)).toInt64), .second, .unset, .unset, .unset, .unset, .unset] [(.int (1 : Int32)), (.int (own_md p3))])) _
          refine XS.icmpYes X0.here hx rfl (pc0 := 92) (pc' := 105) rfl (hb hby at_92) rfl (feq r1).2 (by decide) (by decide) ?_
          show Steps p.tables e below (s₁.setTop (mkF m 105 #[.val (.int p0), .val (.int p1), .val (.int p2), .val (.int p3), .val (.int (own_bit p3 (1 : Int32))), .val (.int (own_bit p3 (2 : Int32))), .val (.int (own_md p3)), .val (.int (own_bit p3 (16 : Int32))), .val (.int (own_bit p3 (32 : Int32))), .val (.int (own_bit p3 (64 : Int32))), .val (.long p0.toInt64), .second, .val (.long p1.toInt64), .second, .val (.long (p2 % (3 : Int32)).toInt64), .second, .unset, .unset, .unset, .unset, .unset] [])) _
          refine XS.iload X0.here hx rfl (hb hby at_105) rfl ?_
          show Steps p.tables e below (s₁.setTop (mkF m 107 #[.val (.int p0), .val (.int p1), .val (.int p2), .val (.int p3), .val (.int (own_bit p3 (1 : Int32))), .val (.int (own_bit p3 (2 : Int32))), .val (.int (own_md p3)), .val (.int (own_bit p3 (16 : Int32))), .val (.int (own_bit p3 (32 : Int32))), .val (.int (own_bit p3 (64 : Int32))), .val (.long p0.toInt64), .second, .val (.long p1.toInt64), .second, .val (.long (p2 % (3 : Int32)).toInt64), .second, .unset, .unset, .unset, .unset, .unset] [(.int (own_md p3))])) _
          refine XS.iconst X0.here hx rfl (hb hby at_107) ?_
          show Steps p.tables e below (s₁.setTop (mkF m 108 #[.val (.int p0), .val (.int p1), .val (.int p2), .val (.int p3), .val (.int (own_bit p3 (1 : Int32))), .val (.int (own_bit p3 (2 : Int32))), .val (.int (own_md p3)), .val (.int (own_bit p3 (16 : Int32))), .val (.int (own_bit p3 (32 : Int32))), .val (.int (own_bit p3 (64 : Int32))), .val (.long p0.toInt64), .second, .val (.long p1.toInt64), .second, .val (.long (p2 % (3 : Int32)).toInt64), .second, .unset, .unset, .unset, .unset, .unset] [(.int (2 : Int32)), (.int (own_md p3))])) _
          refine XS.icmpYes X0.here hx rfl (pc0 := 108) (pc' := 121) rfl (hb hby at_108) rfl (feq r2).2 (by decide) (by decide) ?_
          show Steps p.tables e below (s₁.setTop (mkF m 121 #[.val (.int p0), .val (.int p1), .val (.int p2), .val (.int p3), .val (.int (own_bit p3 (1 : Int32))), .val (.int (own_bit p3 (2 : Int32))), .val (.int (own_md p3)), .val (.int (own_bit p3 (16 : Int32))), .val (.int (own_bit p3 (32 : Int32))), .val (.int (own_bit p3 (64 : Int32))), .val (.long p0.toInt64), .second, .val (.long p1.toInt64), .second, .val (.long (p2 % (3 : Int32)).toInt64), .second, .unset, .unset, .unset, .unset, .unset] [])) _
          refine XS.iload X0.here hx rfl (hb hby at_121) rfl ?_
          show Steps p.tables e below (s₁.setTop (mkF m 123 #[.val (.int p0), .val (.int p1), .val (.int p2), .val (.int p3), .val (.int (own_bit p3 (1 : Int32))), .val (.int (own_bit p3 (2 : Int32))), .val (.int (own_md p3)), .val (.int (own_bit p3 (16 : Int32))), .val (.int (own_bit p3 (32 : Int32))), .val (.int (own_bit p3 (64 : Int32))), .val (.long p0.toInt64), .second, .val (.long p1.toInt64), .second, .val (.long (p2 % (3 : Int32)).toInt64), .second, .unset, .unset, .unset, .unset, .unset] [(.int (own_md p3))])) _
          refine XS.iconst X0.here hx rfl (hb hby at_123) ?_
          show Steps p.tables e below (s₁.setTop (mkF m 124 #[.val (.int p0), .val (.int p1), .val (.int p2), .val (.int p3), .val (.int (own_bit p3 (1 : Int32))), .val (.int (own_bit p3 (2 : Int32))), .val (.int (own_md p3)), .val (.int (own_bit p3 (16 : Int32))), .val (.int (own_bit p3 (32 : Int32))), .val (.int (own_bit p3 (64 : Int32))), .val (.long p0.toInt64), .second, .val (.long p1.toInt64), .second, .val (.long (p2 % (3 : Int32)).toInt64), .second, .unset, .unset, .unset, .unset, .unset] [(.int (3 : Int32)), (.int (own_md p3))])) _
          refine XS.icmpNo X0.here hx rfl (hb hby at_124) rfl (teq r3).2 ?_
          show Steps p.tables e below (s₁.setTop (mkF m 127 #[.val (.int p0), .val (.int p1), .val (.int p2), .val (.int p3), .val (.int (own_bit p3 (1 : Int32))), .val (.int (own_bit p3 (2 : Int32))), .val (.int (own_md p3)), .val (.int (own_bit p3 (16 : Int32))), .val (.int (own_bit p3 (32 : Int32))), .val (.int (own_bit p3 (64 : Int32))), .val (.long p0.toInt64), .second, .val (.long p1.toInt64), .second, .val (.long (p2 % (3 : Int32)).toInt64), .second, .unset, .unset, .unset, .unset, .unset] [])) _
          refine XS.lload X0.here hx rfl (hb hby at_127) rfl ?_
          show Steps p.tables e below (s₁.setTop (mkF m 129 #[.val (.int p0), .val (.int p1), .val (.int p2), .val (.int p3), .val (.int (own_bit p3 (1 : Int32))), .val (.int (own_bit p3 (2 : Int32))), .val (.int (own_md p3)), .val (.int (own_bit p3 (16 : Int32))), .val (.int (own_bit p3 (32 : Int32))), .val (.int (own_bit p3 (64 : Int32))), .val (.long p0.toInt64), .second, .val (.long p1.toInt64), .second, .val (.long (p2 % (3 : Int32)).toInt64), .second, .unset, .unset, .unset, .unset, .unset] [(.long p1.toInt64)])) _
          refine XS.lstore X0.here hx rfl (hb hby at_129) rfl (l' := #[.val (.int p0), .val (.int p1), .val (.int p2), .val (.int p3), .val (.int (own_bit p3 (1 : Int32))), .val (.int (own_bit p3 (2 : Int32))), .val (.int (own_md p3)), .val (.int (own_bit p3 (16 : Int32))), .val (.int (own_bit p3 (32 : Int32))), .val (.int (own_bit p3 (64 : Int32))), .val (.long p0.toInt64), .second, .val (.long p1.toInt64), .second, .val (.long (p2 % (3 : Int32)).toInt64), .second, .val (.long p1.toInt64), .second, .unset, .unset, .unset]) rfl ?_
          show Steps p.tables e below (s₁.setTop (mkF m 131 #[.val (.int p0), .val (.int p1), .val (.int p2), .val (.int p3), .val (.int (own_bit p3 (1 : Int32))), .val (.int (own_bit p3 (2 : Int32))), .val (.int (own_md p3)), .val (.int (own_bit p3 (16 : Int32))), .val (.int (own_bit p3 (32 : Int32))), .val (.int (own_bit p3 (64 : Int32))), .val (.long p0.toInt64), .second, .val (.long p1.toInt64), .second, .val (.long (p2 % (3 : Int32)).toInt64), .second, .val (.long p1.toInt64), .second, .unset, .unset, .unset] [])) _
          refine XS.goto X0.here hx rfl (pc0 := 131) (pc' := 138) rfl (hb hby at_131) (by decide) (by decide) ?_
          show Steps p.tables e below (s₁.setTop (mkF m 138 #[.val (.int p0), .val (.int p1), .val (.int p2), .val (.int p3), .val (.int (own_bit p3 (1 : Int32))), .val (.int (own_bit p3 (2 : Int32))), .val (.int (own_md p3)), .val (.int (own_bit p3 (16 : Int32))), .val (.int (own_bit p3 (32 : Int32))), .val (.int (own_bit p3 (64 : Int32))), .val (.long p0.toInt64), .second, .val (.long p1.toInt64), .second, .val (.long (p2 % (3 : Int32)).toInt64), .second, .val (.long p1.toInt64), .second, .unset, .unset, .unset] [])) _
          have eV : (own_v p0 p1 p2 (own_md p3)) = p1.toInt64 := (if_neg r1).trans ((if_neg r2).trans (if_pos r3))
          have kk := k138'
          rw [eV] at kk
          exact kk
        · show Steps p.tables e below (s₁.setTop (mkF m 89 #[.val (.int p0), .val (.int p1), .val (.int p2), .val (.int p3), .val (.int (own_bit p3 (1 : Int32))), .val (.int (own_bit p3 (2 : Int32))), .val (.int (own_md p3)), .val (.int (own_bit p3 (16 : Int32))), .val (.int (own_bit p3 (32 : Int32))), .val (.int (own_bit p3 (64 : Int32))), .val (.long p0.toInt64), .second, .val (.long p1.toInt64), .second, .val (.long (p2 % (3 : Int32)).toInt64), .second, .unset, .unset, .unset, .unset, .unset] [])) _
          refine XS.iload X0.here hx rfl (hb hby at_89) rfl ?_
          show Steps p.tables e below (s₁.setTop (mkF m 91 #[.val (.int p0), .val (.int p1), .val (.int p2), .val (.int p3), .val (.int (own_bit p3 (1 : Int32))), .val (.int (own_bit p3 (2 : Int32))), .val (.int (own_md p3)), .val (.int (own_bit p3 (16 : Int32))), .val (.int (own_bit p3 (32 : Int32))), .val (.int (own_bit p3 (64 : Int32))), .val (.long p0.toInt64), .second, .val (.long p1.toInt64), .second, .val (.long (p2 % (3 : Int32)).toInt64), .second, .unset, .unset, .unset, .unset, .unset] [(.int (own_md p3))])) _
          refine XS.iconst X0.here hx rfl (hb hby at_91) ?_
          show Steps p.tables e below (s₁.setTop (mkF m 92 #[.val (.int p0), .val (.int p1), .val (.int p2), .val (.int p3), .val (.int (own_bit p3 (1 : Int32))), .val (.int (own_bit p3 (2 : Int32))), .val (.int (own_md p3)), .val (.int (own_bit p3 (16 : Int32))), .val (.int (own_bit p3 (32 : Int32))), .val (.int (own_bit p3 (64 : Int32))), .val (.long p0.toInt64), .second, .val (.long p1.toInt64), .second, .val (.long (p2 % (3 : Int32)).toInt64), .second, .unset, .unset, .unset, .unset, .unset] [(.int (1 : Int32)), (.int (own_md p3))])) _
          refine XS.icmpYes X0.here hx rfl (pc0 := 92) (pc' := 105) rfl (hb hby at_92) rfl (feq r1).2 (by decide) (by decide) ?_
          show Steps p.tables e below (s₁.setTop (mkF m 105 #[.val (.int p0), .val (.int p1), .val (.int p2), .val (.int p3), .val (.int (own_bit p3 (1 : Int32))), .val (.int (own_bit p3 (2 : Int32))), .val (.int (own_md p3)), .val (.int (own_bit p3 (16 : Int32))), .val (.int (own_bit p3 (32 : Int32))), .val (.int (own_bit p3 (64 : Int32))), .val (.long p0.toInt64), .second, .val (.long p1.toInt64), .second, .val (.long (p2 % (3 : Int32)).toInt64), .second, .unset, .unset, .unset, .unset, .unset] [])) _
          refine XS.iload X0.here hx rfl (hb hby at_105) rfl ?_
          show Steps p.tables e below (s₁.setTop (mkF m 107 #[.val (.int p0), .val (.int p1), .val (.int p2), .val (.int p3), .val (.int (own_bit p3 (1 : Int32))), .val (.int (own_bit p3 (2 : Int32))), .val (.int (own_md p3)), .val (.int (own_bit p3 (16 : Int32))), .val (.int (own_bit p3 (32 : Int32))), .val (.int (own_bit p3 (64 : Int32))), .val (.long p0.toInt64), .second, .val (.long p1.toInt64), .second, .val (.long (p2 % (3 : Int32)).toInt64), .second, .unset, .unset, .unset, .unset, .unset] [(.int (own_md p3))])) _
          refine XS.iconst X0.here hx rfl (hb hby at_107) ?_
          show Steps p.tables e below (s₁.setTop (mkF m 108 #[.val (.int p0), .val (.int p1), .val (.int p2), .val (.int p3), .val (.int (own_bit p3 (1 : Int32))), .val (.int (own_bit p3 (2 : Int32))), .val (.int (own_md p3)), .val (.int (own_bit p3 (16 : Int32))), .val (.int (own_bit p3 (32 : Int32))), .val (.int (own_bit p3 (64 : Int32))), .val (.long p0.toInt64), .second, .val (.long p1.toInt64), .second, .val (.long (p2 % (3 : Int32)).toInt64), .second, .unset, .unset, .unset, .unset, .unset] [(.int (2 : Int32)), (.int (own_md p3))])) _
          refine XS.icmpYes X0.here hx rfl (pc0 := 108) (pc' := 121) rfl (hb hby at_108) rfl (feq r2).2 (by decide) (by decide) ?_
          show Steps p.tables e below (s₁.setTop (mkF m 121 #[.val (.int p0), .val (.int p1), .val (.int p2), .val (.int p3), .val (.int (own_bit p3 (1 : Int32))), .val (.int (own_bit p3 (2 : Int32))), .val (.int (own_md p3)), .val (.int (own_bit p3 (16 : Int32))), .val (.int (own_bit p3 (32 : Int32))), .val (.int (own_bit p3 (64 : Int32))), .val (.long p0.toInt64), .second, .val (.long p1.toInt64), .second, .val (.long (p2 % (3 : Int32)).toInt64), .second, .unset, .unset, .unset, .unset, .unset] [])) _
          refine XS.iload X0.here hx rfl (hb hby at_121) rfl ?_
          show Steps p.tables e below (s₁.setTop (mkF m 123 #[.val (.int p0), .val (.int p1), .val (.int p2), .val (.int p3), .val (.int (own_bit p3 (1 : Int32))), .val (.int (own_bit p3 (2 : Int32))), .val (.int (own_md p3)), .val (.int (own_bit p3 (16 : Int32))), .val (.int (own_bit p3 (32 : Int32))), .val (.int (own_bit p3 (64 : Int32))), .val (.long p0.toInt64), .second, .val (.long p1.toInt64), .second, .val (.long (p2 % (3 : Int32)).toInt64), .second, .unset, .unset, .unset, .unset, .unset] [(.int (own_md p3))])) _
          refine XS.iconst X0.here hx rfl (hb hby at_123) ?_
          show Steps p.tables e below (s₁.setTop (mkF m 124 #[.val (.int p0), .val (.int p1), .val (.int p2), .val (.int p3), .val (.int (own_bit p3 (1 : Int32))), .val (.int (own_bit p3 (2 : Int32))), .val (.int (own_md p3)), .val (.int (own_bit p3 (16 : Int32))), .val (.int (own_bit p3 (32 : Int32))), .val (.int (own_bit p3 (64 : Int32))), .val (.long p0.toInt64), .second, .val (.long p1.toInt64), .second, .val (.long (p2 % (3 : Int32)).toInt64), .second, .unset, .unset, .unset, .unset, .unset] [(.int (3 : Int32)), (.int (own_md p3))])) _
          refine XS.icmpYes X0.here hx rfl (pc0 := 124) (pc' := 134) rfl (hb hby at_124) rfl (feq r3).2 (by decide) (by decide) ?_
          show Steps p.tables e below (s₁.setTop (mkF m 134 #[.val (.int p0), .val (.int p1), .val (.int p2), .val (.int p3), .val (.int (own_bit p3 (1 : Int32))), .val (.int (own_bit p3 (2 : Int32))), .val (.int (own_md p3)), .val (.int (own_bit p3 (16 : Int32))), .val (.int (own_bit p3 (32 : Int32))), .val (.int (own_bit p3 (64 : Int32))), .val (.long p0.toInt64), .second, .val (.long p1.toInt64), .second, .val (.long (p2 % (3 : Int32)).toInt64), .second, .unset, .unset, .unset, .unset, .unset] [])) _
          refine XS.iloadN X0.here hx rfl (hb hby at_134) rfl ?_
          show Steps p.tables e below (s₁.setTop (mkF m 135 #[.val (.int p0), .val (.int p1), .val (.int p2), .val (.int p3), .val (.int (own_bit p3 (1 : Int32))), .val (.int (own_bit p3 (2 : Int32))), .val (.int (own_md p3)), .val (.int (own_bit p3 (16 : Int32))), .val (.int (own_bit p3 (32 : Int32))), .val (.int (own_bit p3 (64 : Int32))), .val (.long p0.toInt64), .second, .val (.long p1.toInt64), .second, .val (.long (p2 % (3 : Int32)).toInt64), .second, .unset, .unset, .unset, .unset, .unset] [(.int p2)])) _
          refine XS.i2l X0.here hx rfl (hb hby at_135) rfl ?_
          show Steps p.tables e below (s₁.setTop (mkF m 136 #[.val (.int p0), .val (.int p1), .val (.int p2), .val (.int p3), .val (.int (own_bit p3 (1 : Int32))), .val (.int (own_bit p3 (2 : Int32))), .val (.int (own_md p3)), .val (.int (own_bit p3 (16 : Int32))), .val (.int (own_bit p3 (32 : Int32))), .val (.int (own_bit p3 (64 : Int32))), .val (.long p0.toInt64), .second, .val (.long p1.toInt64), .second, .val (.long (p2 % (3 : Int32)).toInt64), .second, .unset, .unset, .unset, .unset, .unset] [(.long p2.toInt64)])) _
          refine XS.lstore X0.here hx rfl (hb hby at_136) rfl (l' := #[.val (.int p0), .val (.int p1), .val (.int p2), .val (.int p3), .val (.int (own_bit p3 (1 : Int32))), .val (.int (own_bit p3 (2 : Int32))), .val (.int (own_md p3)), .val (.int (own_bit p3 (16 : Int32))), .val (.int (own_bit p3 (32 : Int32))), .val (.int (own_bit p3 (64 : Int32))), .val (.long p0.toInt64), .second, .val (.long p1.toInt64), .second, .val (.long (p2 % (3 : Int32)).toInt64), .second, .val (.long p2.toInt64), .second, .unset, .unset, .unset]) rfl ?_
          show Steps p.tables e below (s₁.setTop (mkF m 138 #[.val (.int p0), .val (.int p1), .val (.int p2), .val (.int p3), .val (.int (own_bit p3 (1 : Int32))), .val (.int (own_bit p3 (2 : Int32))), .val (.int (own_md p3)), .val (.int (own_bit p3 (16 : Int32))), .val (.int (own_bit p3 (32 : Int32))), .val (.int (own_bit p3 (64 : Int32))), .val (.long p0.toInt64), .second, .val (.long p1.toInt64), .second, .val (.long (p2 % (3 : Int32)).toInt64), .second, .val (.long p2.toInt64), .second, .unset, .unset, .unset] [])) _
          have eV : (own_v p0 p1 p2 (own_md p3)) = p2.toInt64 := (if_neg r1).trans ((if_neg r2).trans (if_neg r3))
          have kk := k138'
          rw [eV] at kk
          exact kk
  have k75 : Steps p.tables e below (s₁.setTop (mkF m 75 #[.val (.int p0), .val (.int p1), .val (.int p2), .val (.int p3), .val (.int (own_bit p3 (1 : Int32))), .val (.int (own_bit p3 (2 : Int32))), .val (.int (own_md p3)), .val (.int (own_bit p3 (16 : Int32))), .val (.int (own_bit p3 (32 : Int32))), .val (.int (own_bit p3 (64 : Int32))), .unset, .unset, .unset, .unset, .unset, .unset, .unset, .unset, .unset, .unset, .unset] [])) (T30.setFrames fs) := by
    show Steps p.tables e below (s₁.setTop (mkF m 75 #[.val (.int p0), .val (.int p1), .val (.int p2), .val (.int p3), .val (.int (own_bit p3 (1 : Int32))), .val (.int (own_bit p3 (2 : Int32))), .val (.int (own_md p3)), .val (.int (own_bit p3 (16 : Int32))), .val (.int (own_bit p3 (32 : Int32))), .val (.int (own_bit p3 (64 : Int32))), .unset, .unset, .unset, .unset, .unset, .unset, .unset, .unset, .unset, .unset, .unset] [])) _
    refine XS.iloadN X0.here hx rfl (hb hby at_75) rfl ?_
    show Steps p.tables e below (s₁.setTop (mkF m 76 #[.val (.int p0), .val (.int p1), .val (.int p2), .val (.int p3), .val (.int (own_bit p3 (1 : Int32))), .val (.int (own_bit p3 (2 : Int32))), .val (.int (own_md p3)), .val (.int (own_bit p3 (16 : Int32))), .val (.int (own_bit p3 (32 : Int32))), .val (.int (own_bit p3 (64 : Int32))), .unset, .unset, .unset, .unset, .unset, .unset, .unset, .unset, .unset, .unset, .unset] [(.int p0)])) _
    refine XS.i2l X0.here hx rfl (hb hby at_76) rfl ?_
    show Steps p.tables e below (s₁.setTop (mkF m 77 #[.val (.int p0), .val (.int p1), .val (.int p2), .val (.int p3), .val (.int (own_bit p3 (1 : Int32))), .val (.int (own_bit p3 (2 : Int32))), .val (.int (own_md p3)), .val (.int (own_bit p3 (16 : Int32))), .val (.int (own_bit p3 (32 : Int32))), .val (.int (own_bit p3 (64 : Int32))), .unset, .unset, .unset, .unset, .unset, .unset, .unset, .unset, .unset, .unset, .unset] [(.long p0.toInt64)])) _
    refine XS.lstore X0.here hx rfl (hb hby at_77) rfl (l' := #[.val (.int p0), .val (.int p1), .val (.int p2), .val (.int p3), .val (.int (own_bit p3 (1 : Int32))), .val (.int (own_bit p3 (2 : Int32))), .val (.int (own_md p3)), .val (.int (own_bit p3 (16 : Int32))), .val (.int (own_bit p3 (32 : Int32))), .val (.int (own_bit p3 (64 : Int32))), .val (.long p0.toInt64), .second, .unset, .unset, .unset, .unset, .unset, .unset, .unset, .unset, .unset]) rfl ?_
    show Steps p.tables e below (s₁.setTop (mkF m 79 #[.val (.int p0), .val (.int p1), .val (.int p2), .val (.int p3), .val (.int (own_bit p3 (1 : Int32))), .val (.int (own_bit p3 (2 : Int32))), .val (.int (own_md p3)), .val (.int (own_bit p3 (16 : Int32))), .val (.int (own_bit p3 (32 : Int32))), .val (.int (own_bit p3 (64 : Int32))), .val (.long p0.toInt64), .second, .unset, .unset, .unset, .unset, .unset, .unset, .unset, .unset, .unset] [])) _
    refine XS.iloadN X0.here hx rfl (hb hby at_79) rfl ?_
    show Steps p.tables e below (s₁.setTop (mkF m 80 #[.val (.int p0), .val (.int p1), .val (.int p2), .val (.int p3), .val (.int (own_bit p3 (1 : Int32))), .val (.int (own_bit p3 (2 : Int32))), .val (.int (own_md p3)), .val (.int (own_bit p3 (16 : Int32))), .val (.int (own_bit p3 (32 : Int32))), .val (.int (own_bit p3 (64 : Int32))), .val (.long p0.toInt64), .second, .unset, .unset, .unset, .unset, .unset, .unset, .unset, .unset, .unset] [(.int p1)])) _
    refine XS.i2l X0.here hx rfl (hb hby at_80) rfl ?_
    show Steps p.tables e below (s₁.setTop (mkF m 81 #[.val (.int p0), .val (.int p1), .val (.int p2), .val (.int p3), .val (.int (own_bit p3 (1 : Int32))), .val (.int (own_bit p3 (2 : Int32))), .val (.int (own_md p3)), .val (.int (own_bit p3 (16 : Int32))), .val (.int (own_bit p3 (32 : Int32))), .val (.int (own_bit p3 (64 : Int32))), .val (.long p0.toInt64), .second, .unset, .unset, .unset, .unset, .unset, .unset, .unset, .unset, .unset] [(.long p1.toInt64)])) _
    refine XS.lstore X0.here hx rfl (hb hby at_81) rfl (l' := #[.val (.int p0), .val (.int p1), .val (.int p2), .val (.int p3), .val (.int (own_bit p3 (1 : Int32))), .val (.int (own_bit p3 (2 : Int32))), .val (.int (own_md p3)), .val (.int (own_bit p3 (16 : Int32))), .val (.int (own_bit p3 (32 : Int32))), .val (.int (own_bit p3 (64 : Int32))), .val (.long p0.toInt64), .second, .val (.long p1.toInt64), .second, .unset, .unset, .unset, .unset, .unset, .unset, .unset]) rfl ?_
    show Steps p.tables e below (s₁.setTop (mkF m 83 #[.val (.int p0), .val (.int p1), .val (.int p2), .val (.int p3), .val (.int (own_bit p3 (1 : Int32))), .val (.int (own_bit p3 (2 : Int32))), .val (.int (own_md p3)), .val (.int (own_bit p3 (16 : Int32))), .val (.int (own_bit p3 (32 : Int32))), .val (.int (own_bit p3 (64 : Int32))), .val (.long p0.toInt64), .second, .val (.long p1.toInt64), .second, .unset, .unset, .unset, .unset, .unset, .unset, .unset] [])) _
    refine XS.iloadN X0.here hx rfl (hb hby at_83) rfl ?_
    show Steps p.tables e below (s₁.setTop (mkF m 84 #[.val (.int p0), .val (.int p1), .val (.int p2), .val (.int p3), .val (.int (own_bit p3 (1 : Int32))), .val (.int (own_bit p3 (2 : Int32))), .val (.int (own_md p3)), .val (.int (own_bit p3 (16 : Int32))), .val (.int (own_bit p3 (32 : Int32))), .val (.int (own_bit p3 (64 : Int32))), .val (.long p0.toInt64), .second, .val (.long p1.toInt64), .second, .unset, .unset, .unset, .unset, .unset, .unset, .unset] [(.int p2)])) _
    refine XS.iconst X0.here hx rfl (hb hby at_84) ?_
    show Steps p.tables e below (s₁.setTop (mkF m 85 #[.val (.int p0), .val (.int p1), .val (.int p2), .val (.int p3), .val (.int (own_bit p3 (1 : Int32))), .val (.int (own_bit p3 (2 : Int32))), .val (.int (own_md p3)), .val (.int (own_bit p3 (16 : Int32))), .val (.int (own_bit p3 (32 : Int32))), .val (.int (own_bit p3 (64 : Int32))), .val (.long p0.toInt64), .second, .val (.long p1.toInt64), .second, .unset, .unset, .unset, .unset, .unset, .unset, .unset] [(.int (3 : Int32)), (.int p2)])) _
    refine iremM X0 hx rfl (hb hby at_85) rfl (by decide) ?_
    show Steps p.tables e below (s₁.setTop (mkF m 86 #[.val (.int p0), .val (.int p1), .val (.int p2), .val (.int p3), .val (.int (own_bit p3 (1 : Int32))), .val (.int (own_bit p3 (2 : Int32))), .val (.int (own_md p3)), .val (.int (own_bit p3 (16 : Int32))), .val (.int (own_bit p3 (32 : Int32))), .val (.int (own_bit p3 (64 : Int32))), .val (.long p0.toInt64), .second, .val (.long p1.toInt64), .second, .unset, .unset, .unset, .unset, .unset, .unset, .unset] [(.int (p2 % (3 : Int32)))])) _
    refine XS.i2l X0.here hx rfl (hb hby at_86) rfl ?_
    show Steps p.tables e below (s₁.setTop (mkF m 87 #[.val (.int p0), .val (.int p1), .val (.int p2), .val (.int p3), .val (.int (own_bit p3 (1 : Int32))), .val (.int (own_bit p3 (2 : Int32))), .val (.int (own_md p3)), .val (.int (own_bit p3 (16 : Int32))), .val (.int (own_bit p3 (32 : Int32))), .val (.int (own_bit p3 (64 : Int32))), .val (.long p0.toInt64), .second, .val (.long p1.toInt64), .second, .unset, .unset, .unset, .unset, .unset, .unset, .unset] [(.long (p2 % (3 : Int32)).toInt64)])) _
    refine XS.lstore X0.here hx rfl (hb hby at_87) rfl (l' := #[.val (.int p0), .val (.int p1), .val (.int p2), .val (.int p3), .val (.int (own_bit p3 (1 : Int32))), .val (.int (own_bit p3 (2 : Int32))), .val (.int (own_md p3)), .val (.int (own_bit p3 (16 : Int32))), .val (.int (own_bit p3 (32 : Int32))), .val (.int (own_bit p3 (64 : Int32))), .val (.long p0.toInt64), .second, .val (.long p1.toInt64), .second, .val (.long (p2 % (3 : Int32)).toInt64), .second, .unset, .unset, .unset, .unset, .unset]) rfl ?_
    exact k89
  have k61 : Steps p.tables e below (s₁.setTop (mkF m 61 #[.val (.int p0), .val (.int p1), .val (.int p2), .val (.int p3), .val (.int (own_bit p3 (1 : Int32))), .val (.int (own_bit p3 (2 : Int32))), .val (.int (own_md p3)), .val (.int (own_bit p3 (16 : Int32))), .val (.int (own_bit p3 (32 : Int32))), .unset, .unset, .unset, .unset, .unset, .unset, .unset, .unset, .unset, .unset, .unset, .unset] [])) (T30.setFrames fs) := by
    by_cases hq : p3 &&& (64 : Int32) = (0 : Int32)
    · show Steps p.tables e below (s₁.setTop (mkF m 61 #[.val (.int p0), .val (.int p1), .val (.int p2), .val (.int p3), .val (.int (own_bit p3 (1 : Int32))), .val (.int (own_bit p3 (2 : Int32))), .val (.int (own_md p3)), .val (.int (own_bit p3 (16 : Int32))), .val (.int (own_bit p3 (32 : Int32))), .unset, .unset, .unset, .unset, .unset, .unset, .unset, .unset, .unset, .unset, .unset, .unset] [])) _
      refine XS.iloadN X0.here hx rfl (hb hby at_61) rfl ?_
      show Steps p.tables e below (s₁.setTop (mkF m 62 #[.val (.int p0), .val (.int p1), .val (.int p2), .val (.int p3), .val (.int (own_bit p3 (1 : Int32))), .val (.int (own_bit p3 (2 : Int32))), .val (.int (own_md p3)), .val (.int (own_bit p3 (16 : Int32))), .val (.int (own_bit p3 (32 : Int32))), .unset, .unset, .unset, .unset, .unset, .unset, .unset, .unset, .unset, .unset, .unset, .unset] [(.int p3)])) _
      refine XS.bipush X0.here hx rfl (hb hby at_62) ?_
      show Steps p.tables e below (s₁.setTop (mkF m 64 #[.val (.int p0), .val (.int p1), .val (.int p2), .val (.int p3), .val (.int (own_bit p3 (1 : Int32))), .val (.int (own_bit p3 (2 : Int32))), .val (.int (own_md p3)), .val (.int (own_bit p3 (16 : Int32))), .val (.int (own_bit p3 (32 : Int32))), .unset, .unset, .unset, .unset, .unset, .unset, .unset, .unset, .unset, .unset, .unset, .unset] [(.int (64 : Int32)), (.int p3)])) _
      refine XS.iand X0.here hx rfl (hb hby at_64) rfl ?_
      show Steps p.tables e below (s₁.setTop (mkF m 65 #[.val (.int p0), .val (.int p1), .val (.int p2), .val (.int p3), .val (.int (own_bit p3 (1 : Int32))), .val (.int (own_bit p3 (2 : Int32))), .val (.int (own_md p3)), .val (.int (own_bit p3 (16 : Int32))), .val (.int (own_bit p3 (32 : Int32))), .unset, .unset, .unset, .unset, .unset, .unset, .unset, .unset, .unset, .unset, .unset, .unset] [(.int (p3 &&& (64 : Int32)))])) _
      refine XS.ifYes X0.here hx rfl (pc0 := 65) (pc' := 72) rfl (hb hby at_65) rfl ((if0 _ _).trans (teq hq).1) (by decide) (by decide) ?_
      show Steps p.tables e below (s₁.setTop (mkF m 72 #[.val (.int p0), .val (.int p1), .val (.int p2), .val (.int p3), .val (.int (own_bit p3 (1 : Int32))), .val (.int (own_bit p3 (2 : Int32))), .val (.int (own_md p3)), .val (.int (own_bit p3 (16 : Int32))), .val (.int (own_bit p3 (32 : Int32))), .unset, .unset, .unset, .unset, .unset, .unset, .unset, .unset, .unset, .unset, .unset, .unset] [])) _
      refine XS.iconst X0.here hx rfl (hb hby at_72) ?_
      show Steps p.tables e below (s₁.setTop (mkF m 73 #[.val (.int p0), .val (.int p1), .val (.int p2), .val (.int p3), .val (.int (own_bit p3 (1 : Int32))), .val (.int (own_bit p3 (2 : Int32))), .val (.int (own_md p3)), .val (.int (own_bit p3 (16 : Int32))), .val (.int (own_bit p3 (32 : Int32))), .unset, .unset, .unset, .unset, .unset, .unset, .unset, .unset, .unset, .unset, .unset, .unset] [(.int (0 : Int32))])) _
      refine XS.istore X0.here hx rfl (hb hby at_73) rfl (l' := #[.val (.int p0), .val (.int p1), .val (.int p2), .val (.int p3), .val (.int (own_bit p3 (1 : Int32))), .val (.int (own_bit p3 (2 : Int32))), .val (.int (own_md p3)), .val (.int (own_bit p3 (16 : Int32))), .val (.int (own_bit p3 (32 : Int32))), .val (.int (0 : Int32)), .unset, .unset, .unset, .unset, .unset, .unset, .unset, .unset, .unset, .unset, .unset]) rfl ?_
      show Steps p.tables e below (s₁.setTop (mkF m 75 #[.val (.int p0), .val (.int p1), .val (.int p2), .val (.int p3), .val (.int (own_bit p3 (1 : Int32))), .val (.int (own_bit p3 (2 : Int32))), .val (.int (own_md p3)), .val (.int (own_bit p3 (16 : Int32))), .val (.int (own_bit p3 (32 : Int32))), .val (.int (0 : Int32)), .unset, .unset, .unset, .unset, .unset, .unset, .unset, .unset, .unset, .unset, .unset] [])) _
      have kk := k75
      rw [show (own_bit p3 (64 : Int32)) = (0 : Int32) from if_pos hq] at kk
      exact kk
    · show Steps p.tables e below (s₁.setTop (mkF m 61 #[.val (.int p0), .val (.int p1), .val (.int p2), .val (.int p3), .val (.int (own_bit p3 (1 : Int32))), .val (.int (own_bit p3 (2 : Int32))), .val (.int (own_md p3)), .val (.int (own_bit p3 (16 : Int32))), .val (.int (own_bit p3 (32 : Int32))), .unset, .unset, .unset, .unset, .unset, .unset, .unset, .unset, .unset, .unset, .unset, .unset] [])) _
      refine XS.iloadN X0.here hx rfl (hb hby at_61) rfl ?_
      show Steps p.tables e below (s₁.setTop (mkF m 62 #[.val (.int p0), .val (.int p1), .val (.int p2), .val (.int p3), .val (.int (own_bit p3 (1 : Int32))), .val (.int (own_bit p3 (2 : Int32))), .val (.int (own_md p3)), .val (.int (own_bit p3 (16 : Int32))), .val (.int (own_bit p3 (32 : Int32))), .unset, .unset, .unset, .unset, .unset, .unset, .unset, .unset, .unset, .unset, .unset, .unset] [(.int p3)])) _
      refine XS.bipush X0.here hx rfl (hb hby at_62) ?_
      show Steps p.tables e below (s₁.setTop (mkF m 64 #[.val (.int p0), .val (.int p1), .val (.int p2), .val (.int p3), .val (.int (own_bit p3 (1 : Int32))), .val (.int (own_bit p3 (2 : Int32))), .val (.int (own_md p3)), .val (.int (own_bit p3 (16 : Int32))), .val (.int (own_bit p3 (32 : Int32))), .unset, .unset, .unset, .unset, .unset, .unset, .unset, .unset, .unset, .unset, .unset, .unset] [(.int (64 : Int32)), (.int p3)])) _
      refine XS.iand X0.here hx rfl (hb hby at_64) rfl ?_
      show Steps p.tables e below (s₁.setTop (mkF m 65 #[.val (.int p0), .val (.int p1), .val (.int p2), .val (.int p3), .val (.int (own_bit p3 (1 : Int32))), .val (.int (own_bit p3 (2 : Int32))), .val (.int (own_md p3)), .val (.int (own_bit p3 (16 : Int32))), .val (.int (own_bit p3 (32 : Int32))), .unset, .unset, .unset, .unset, .unset, .unset, .unset, .unset, .unset, .unset, .unset, .unset] [(.int (p3 &&& (64 : Int32)))])) _
      refine XS.ifNo X0.here hx rfl (hb hby at_65) rfl ((if0 _ _).trans (feq hq).1) ?_
      show Steps p.tables e below (s₁.setTop (mkF m 68 #[.val (.int p0), .val (.int p1), .val (.int p2), .val (.int p3), .val (.int (own_bit p3 (1 : Int32))), .val (.int (own_bit p3 (2 : Int32))), .val (.int (own_md p3)), .val (.int (own_bit p3 (16 : Int32))), .val (.int (own_bit p3 (32 : Int32))), .unset, .unset, .unset, .unset, .unset, .unset, .unset, .unset, .unset, .unset, .unset, .unset] [])) _
      refine XS.iconst X0.here hx rfl (hb hby at_68) ?_
      show Steps p.tables e below (s₁.setTop (mkF m 69 #[.val (.int p0), .val (.int p1), .val (.int p2), .val (.int p3), .val (.int (own_bit p3 (1 : Int32))), .val (.int (own_bit p3 (2 : Int32))), .val (.int (own_md p3)), .val (.int (own_bit p3 (16 : Int32))), .val (.int (own_bit p3 (32 : Int32))), .unset, .unset, .unset, .unset, .unset, .unset, .unset, .unset, .unset, .unset, .unset, .unset] [(.int (1 : Int32))])) _
      refine XS.goto X0.here hx rfl (pc0 := 69) (pc' := 73) rfl (hb hby at_69) (by decide) (by decide) ?_
      show Steps p.tables e below (s₁.setTop (mkF m 73 #[.val (.int p0), .val (.int p1), .val (.int p2), .val (.int p3), .val (.int (own_bit p3 (1 : Int32))), .val (.int (own_bit p3 (2 : Int32))), .val (.int (own_md p3)), .val (.int (own_bit p3 (16 : Int32))), .val (.int (own_bit p3 (32 : Int32))), .unset, .unset, .unset, .unset, .unset, .unset, .unset, .unset, .unset, .unset, .unset, .unset] [(.int (1 : Int32))])) _
      refine XS.istore X0.here hx rfl (hb hby at_73) rfl (l' := #[.val (.int p0), .val (.int p1), .val (.int p2), .val (.int p3), .val (.int (own_bit p3 (1 : Int32))), .val (.int (own_bit p3 (2 : Int32))), .val (.int (own_md p3)), .val (.int (own_bit p3 (16 : Int32))), .val (.int (own_bit p3 (32 : Int32))), .val (.int (1 : Int32)), .unset, .unset, .unset, .unset, .unset, .unset, .unset, .unset, .unset, .unset, .unset]) rfl ?_
      show Steps p.tables e below (s₁.setTop (mkF m 75 #[.val (.int p0), .val (.int p1), .val (.int p2), .val (.int p3), .val (.int (own_bit p3 (1 : Int32))), .val (.int (own_bit p3 (2 : Int32))), .val (.int (own_md p3)), .val (.int (own_bit p3 (16 : Int32))), .val (.int (own_bit p3 (32 : Int32))), .val (.int (1 : Int32)), .unset, .unset, .unset, .unset, .unset, .unset, .unset, .unset, .unset, .unset, .unset] [])) _
      have kk := k75
      rw [show (own_bit p3 (64 : Int32)) = (1 : Int32) from if_neg hq] at kk
      exact kk
  have k47 : Steps p.tables e below (s₁.setTop (mkF m 47 #[.val (.int p0), .val (.int p1), .val (.int p2), .val (.int p3), .val (.int (own_bit p3 (1 : Int32))), .val (.int (own_bit p3 (2 : Int32))), .val (.int (own_md p3)), .val (.int (own_bit p3 (16 : Int32))), .unset, .unset, .unset, .unset, .unset, .unset, .unset, .unset, .unset, .unset, .unset, .unset, .unset] [])) (T30.setFrames fs) := by
    by_cases hq : p3 &&& (32 : Int32) = (0 : Int32)
    · show Steps p.tables e below (s₁.setTop (mkF m 47 #[.val (.int p0), .val (.int p1), .val (.int p2), .val (.int p3), .val (.int (own_bit p3 (1 : Int32))), .val (.int (own_bit p3 (2 : Int32))), .val (.int (own_md p3)), .val (.int (own_bit p3 (16 : Int32))), .unset, .unset, .unset, .unset, .unset, .unset, .unset, .unset, .unset, .unset, .unset, .unset, .unset] [])) _
      refine XS.iloadN X0.here hx rfl (hb hby at_47) rfl ?_
      show Steps p.tables e below (s₁.setTop (mkF m 48 #[.val (.int p0), .val (.int p1), .val (.int p2), .val (.int p3), .val (.int (own_bit p3 (1 : Int32))), .val (.int (own_bit p3 (2 : Int32))), .val (.int (own_md p3)), .val (.int (own_bit p3 (16 : Int32))), .unset, .unset, .unset, .unset, .unset, .unset, .unset, .unset, .unset, .unset, .unset, .unset, .unset] [(.int p3)])) _
      refine XS.bipush X0.here hx rfl (hb hby at_48) ?_
      show Steps p.tables e below (s₁.setTop (mkF m 50 #[.val (.int p0), .val (.int p1), .val (.int p2), .val (.int p3), .val (.int (own_bit p3 (1 : Int32))), .val (.int (own_bit p3 (2 : Int32))), .val (.int (own_md p3)), .val (.int (own_bit p3 (16 : Int32))), .unset, .unset, .unset, .unset, .unset, .unset, .unset, .unset, .unset, .unset, .unset, .unset, .unset] [(.int (32 : Int32)), (.int p3)])) _
      refine XS.iand X0.here hx rfl (hb hby at_50) rfl ?_
      show Steps p.tables e below (s₁.setTop (mkF m 51 #[.val (.int p0), .val (.int p1), .val (.int p2), .val (.int p3), .val (.int (own_bit p3 (1 : Int32))), .val (.int (own_bit p3 (2 : Int32))), .val (.int (own_md p3)), .val (.int (own_bit p3 (16 : Int32))), .unset, .unset, .unset, .unset, .unset, .unset, .unset, .unset, .unset, .unset, .unset, .unset, .unset] [(.int (p3 &&& (32 : Int32)))])) _
      refine XS.ifYes X0.here hx rfl (pc0 := 51) (pc' := 58) rfl (hb hby at_51) rfl ((if0 _ _).trans (teq hq).1) (by decide) (by decide) ?_
      show Steps p.tables e below (s₁.setTop (mkF m 58 #[.val (.int p0), .val (.int p1), .val (.int p2), .val (.int p3), .val (.int (own_bit p3 (1 : Int32))), .val (.int (own_bit p3 (2 : Int32))), .val (.int (own_md p3)), .val (.int (own_bit p3 (16 : Int32))), .unset, .unset, .unset, .unset, .unset, .unset, .unset, .unset, .unset, .unset, .unset, .unset, .unset] [])) _
      refine XS.iconst X0.here hx rfl (hb hby at_58) ?_
      show Steps p.tables e below (s₁.setTop (mkF m 59 #[.val (.int p0), .val (.int p1), .val (.int p2), .val (.int p3), .val (.int (own_bit p3 (1 : Int32))), .val (.int (own_bit p3 (2 : Int32))), .val (.int (own_md p3)), .val (.int (own_bit p3 (16 : Int32))), .unset, .unset, .unset, .unset, .unset, .unset, .unset, .unset, .unset, .unset, .unset, .unset, .unset] [(.int (0 : Int32))])) _
      refine XS.istore X0.here hx rfl (hb hby at_59) rfl (l' := #[.val (.int p0), .val (.int p1), .val (.int p2), .val (.int p3), .val (.int (own_bit p3 (1 : Int32))), .val (.int (own_bit p3 (2 : Int32))), .val (.int (own_md p3)), .val (.int (own_bit p3 (16 : Int32))), .val (.int (0 : Int32)), .unset, .unset, .unset, .unset, .unset, .unset, .unset, .unset, .unset, .unset, .unset, .unset]) rfl ?_
      show Steps p.tables e below (s₁.setTop (mkF m 61 #[.val (.int p0), .val (.int p1), .val (.int p2), .val (.int p3), .val (.int (own_bit p3 (1 : Int32))), .val (.int (own_bit p3 (2 : Int32))), .val (.int (own_md p3)), .val (.int (own_bit p3 (16 : Int32))), .val (.int (0 : Int32)), .unset, .unset, .unset, .unset, .unset, .unset, .unset, .unset, .unset, .unset, .unset, .unset] [])) _
      have kk := k61
      rw [show (own_bit p3 (32 : Int32)) = (0 : Int32) from if_pos hq] at kk
      exact kk
    · show Steps p.tables e below (s₁.setTop (mkF m 47 #[.val (.int p0), .val (.int p1), .val (.int p2), .val (.int p3), .val (.int (own_bit p3 (1 : Int32))), .val (.int (own_bit p3 (2 : Int32))), .val (.int (own_md p3)), .val (.int (own_bit p3 (16 : Int32))), .unset, .unset, .unset, .unset, .unset, .unset, .unset, .unset, .unset, .unset, .unset, .unset, .unset] [])) _
      refine XS.iloadN X0.here hx rfl (hb hby at_47) rfl ?_
      show Steps p.tables e below (s₁.setTop (mkF m 48 #[.val (.int p0), .val (.int p1), .val (.int p2), .val (.int p3), .val (.int (own_bit p3 (1 : Int32))), .val (.int (own_bit p3 (2 : Int32))), .val (.int (own_md p3)), .val (.int (own_bit p3 (16 : Int32))), .unset, .unset, .unset, .unset, .unset, .unset, .unset, .unset, .unset, .unset, .unset, .unset, .unset] [(.int p3)])) _
      refine XS.bipush X0.here hx rfl (hb hby at_48) ?_
      show Steps p.tables e below (s₁.setTop (mkF m 50 #[.val (.int p0), .val (.int p1), .val (.int p2), .val (.int p3), .val (.int (own_bit p3 (1 : Int32))), .val (.int (own_bit p3 (2 : Int32))), .val (.int (own_md p3)), .val (.int (own_bit p3 (16 : Int32))), .unset, .unset, .unset, .unset, .unset, .unset, .unset, .unset, .unset, .unset, .unset, .unset, .unset] [(.int (32 : Int32)), (.int p3)])) _
      refine XS.iand X0.here hx rfl (hb hby at_50) rfl ?_
      show Steps p.tables e below (s₁.setTop (mkF m 51 #[.val (.int p0), .val (.int p1), .val (.int p2), .val (.int p3), .val (.int (own_bit p3 (1 : Int32))), .val (.int (own_bit p3 (2 : Int32))), .val (.int (own_md p3)), .val (.int (own_bit p3 (16 : Int32))), .unset, .unset, .unset, .unset, .unset, .unset, .unset, .unset, .unset, .unset, .unset, .unset, .unset] [(.int (p3 &&& (32 : Int32)))])) _
      refine XS.ifNo X0.here hx rfl (hb hby at_51) rfl ((if0 _ _).trans (feq hq).1) ?_
      show Steps p.tables e below (s₁.setTop (mkF m 54 #[.val (.int p0), .val (.int p1), .val (.int p2), .val (.int p3), .val (.int (own_bit p3 (1 : Int32))), .val (.int (own_bit p3 (2 : Int32))), .val (.int (own_md p3)), .val (.int (own_bit p3 (16 : Int32))), .unset, .unset, .unset, .unset, .unset, .unset, .unset, .unset, .unset, .unset, .unset, .unset, .unset] [])) _
      refine XS.iconst X0.here hx rfl (hb hby at_54) ?_
      show Steps p.tables e below (s₁.setTop (mkF m 55 #[.val (.int p0), .val (.int p1), .val (.int p2), .val (.int p3), .val (.int (own_bit p3 (1 : Int32))), .val (.int (own_bit p3 (2 : Int32))), .val (.int (own_md p3)), .val (.int (own_bit p3 (16 : Int32))), .unset, .unset, .unset, .unset, .unset, .unset, .unset, .unset, .unset, .unset, .unset, .unset, .unset] [(.int (1 : Int32))])) _
      refine XS.goto X0.here hx rfl (pc0 := 55) (pc' := 59) rfl (hb hby at_55) (by decide) (by decide) ?_
      show Steps p.tables e below (s₁.setTop (mkF m 59 #[.val (.int p0), .val (.int p1), .val (.int p2), .val (.int p3), .val (.int (own_bit p3 (1 : Int32))), .val (.int (own_bit p3 (2 : Int32))), .val (.int (own_md p3)), .val (.int (own_bit p3 (16 : Int32))), .unset, .unset, .unset, .unset, .unset, .unset, .unset, .unset, .unset, .unset, .unset, .unset, .unset] [(.int (1 : Int32))])) _
      refine XS.istore X0.here hx rfl (hb hby at_59) rfl (l' := #[.val (.int p0), .val (.int p1), .val (.int p2), .val (.int p3), .val (.int (own_bit p3 (1 : Int32))), .val (.int (own_bit p3 (2 : Int32))), .val (.int (own_md p3)), .val (.int (own_bit p3 (16 : Int32))), .val (.int (1 : Int32)), .unset, .unset, .unset, .unset, .unset, .unset, .unset, .unset, .unset, .unset, .unset, .unset]) rfl ?_
      show Steps p.tables e below (s₁.setTop (mkF m 61 #[.val (.int p0), .val (.int p1), .val (.int p2), .val (.int p3), .val (.int (own_bit p3 (1 : Int32))), .val (.int (own_bit p3 (2 : Int32))), .val (.int (own_md p3)), .val (.int (own_bit p3 (16 : Int32))), .val (.int (1 : Int32)), .unset, .unset, .unset, .unset, .unset, .unset, .unset, .unset, .unset, .unset, .unset, .unset] [])) _
      have kk := k61
      rw [show (own_bit p3 (32 : Int32)) = (1 : Int32) from if_neg hq] at kk
      exact kk
  have k33 : Steps p.tables e below (s₁.setTop (mkF m 33 #[.val (.int p0), .val (.int p1), .val (.int p2), .val (.int p3), .val (.int (own_bit p3 (1 : Int32))), .val (.int (own_bit p3 (2 : Int32))), .val (.int (own_md p3)), .unset, .unset, .unset, .unset, .unset, .unset, .unset, .unset, .unset, .unset, .unset, .unset, .unset, .unset] [])) (T30.setFrames fs) := by
    by_cases hq : p3 &&& (16 : Int32) = (0 : Int32)
    · show Steps p.tables e below (s₁.setTop (mkF m 33 #[.val (.int p0), .val (.int p1), .val (.int p2), .val (.int p3), .val (.int (own_bit p3 (1 : Int32))), .val (.int (own_bit p3 (2 : Int32))), .val (.int (own_md p3)), .unset, .unset, .unset, .unset, .unset, .unset, .unset, .unset, .unset, .unset, .unset, .unset, .unset, .unset] [])) _
      refine XS.iloadN X0.here hx rfl (hb hby at_33) rfl ?_
      show Steps p.tables e below (s₁.setTop (mkF m 34 #[.val (.int p0), .val (.int p1), .val (.int p2), .val (.int p3), .val (.int (own_bit p3 (1 : Int32))), .val (.int (own_bit p3 (2 : Int32))), .val (.int (own_md p3)), .unset, .unset, .unset, .unset, .unset, .unset, .unset, .unset, .unset, .unset, .unset, .unset, .unset, .unset] [(.int p3)])) _
      refine XS.bipush X0.here hx rfl (hb hby at_34) ?_
      show Steps p.tables e below (s₁.setTop (mkF m 36 #[.val (.int p0), .val (.int p1), .val (.int p2), .val (.int p3), .val (.int (own_bit p3 (1 : Int32))), .val (.int (own_bit p3 (2 : Int32))), .val (.int (own_md p3)), .unset, .unset, .unset, .unset, .unset, .unset, .unset, .unset, .unset, .unset, .unset, .unset, .unset, .unset] [(.int (16 : Int32)), (.int p3)])) _
      refine XS.iand X0.here hx rfl (hb hby at_36) rfl ?_
      show Steps p.tables e below (s₁.setTop (mkF m 37 #[.val (.int p0), .val (.int p1), .val (.int p2), .val (.int p3), .val (.int (own_bit p3 (1 : Int32))), .val (.int (own_bit p3 (2 : Int32))), .val (.int (own_md p3)), .unset, .unset, .unset, .unset, .unset, .unset, .unset, .unset, .unset, .unset, .unset, .unset, .unset, .unset] [(.int (p3 &&& (16 : Int32)))])) _
      refine XS.ifYes X0.here hx rfl (pc0 := 37) (pc' := 44) rfl (hb hby at_37) rfl ((if0 _ _).trans (teq hq).1) (by decide) (by decide) ?_
      show Steps p.tables e below (s₁.setTop (mkF m 44 #[.val (.int p0), .val (.int p1), .val (.int p2), .val (.int p3), .val (.int (own_bit p3 (1 : Int32))), .val (.int (own_bit p3 (2 : Int32))), .val (.int (own_md p3)), .unset, .unset, .unset, .unset, .unset, .unset, .unset, .unset, .unset, .unset, .unset, .unset, .unset, .unset] [])) _
      refine XS.iconst X0.here hx rfl (hb hby at_44) ?_
      show Steps p.tables e below (s₁.setTop (mkF m 45 #[.val (.int p0), .val (.int p1), .val (.int p2), .val (.int p3), .val (.int (own_bit p3 (1 : Int32))), .val (.int (own_bit p3 (2 : Int32))), .val (.int (own_md p3)), .unset, .unset, .unset, .unset, .unset, .unset, .unset, .unset, .unset, .unset, .unset, .unset, .unset, .unset] [(.int (0 : Int32))])) _
      refine XS.istore X0.here hx rfl (hb hby at_45) rfl (l' := #[.val (.int p0), .val (.int p1), .val (.int p2), .val (.int p3), .val (.int (own_bit p3 (1 : Int32))), .val (.int (own_bit p3 (2 : Int32))), .val (.int (own_md p3)), .val (.int (0 : Int32)), .unset, .unset, .unset, .unset, .unset, .unset, .unset, .unset, .unset, .unset, .unset, .unset, .unset]) rfl ?_
      show Steps p.tables e below (s₁.setTop (mkF m 47 #[.val (.int p0), .val (.int p1), .val (.int p2), .val (.int p3), .val (.int (own_bit p3 (1 : Int32))), .val (.int (own_bit p3 (2 : Int32))), .val (.int (own_md p3)), .val (.int (0 : Int32)), .unset, .unset, .unset, .unset, .unset, .unset, .unset, .unset, .unset, .unset, .unset, .unset, .unset] [])) _
      have kk := k47
      rw [show (own_bit p3 (16 : Int32)) = (0 : Int32) from if_pos hq] at kk
      exact kk
    · show Steps p.tables e below (s₁.setTop (mkF m 33 #[.val (.int p0), .val (.int p1), .val (.int p2), .val (.int p3), .val (.int (own_bit p3 (1 : Int32))), .val (.int (own_bit p3 (2 : Int32))), .val (.int (own_md p3)), .unset, .unset, .unset, .unset, .unset, .unset, .unset, .unset, .unset, .unset, .unset, .unset, .unset, .unset] [])) _
      refine XS.iloadN X0.here hx rfl (hb hby at_33) rfl ?_
      show Steps p.tables e below (s₁.setTop (mkF m 34 #[.val (.int p0), .val (.int p1), .val (.int p2), .val (.int p3), .val (.int (own_bit p3 (1 : Int32))), .val (.int (own_bit p3 (2 : Int32))), .val (.int (own_md p3)), .unset, .unset, .unset, .unset, .unset, .unset, .unset, .unset, .unset, .unset, .unset, .unset, .unset, .unset] [(.int p3)])) _
      refine XS.bipush X0.here hx rfl (hb hby at_34) ?_
      show Steps p.tables e below (s₁.setTop (mkF m 36 #[.val (.int p0), .val (.int p1), .val (.int p2), .val (.int p3), .val (.int (own_bit p3 (1 : Int32))), .val (.int (own_bit p3 (2 : Int32))), .val (.int (own_md p3)), .unset, .unset, .unset, .unset, .unset, .unset, .unset, .unset, .unset, .unset, .unset, .unset, .unset, .unset] [(.int (16 : Int32)), (.int p3)])) _
      refine XS.iand X0.here hx rfl (hb hby at_36) rfl ?_
      show Steps p.tables e below (s₁.setTop (mkF m 37 #[.val (.int p0), .val (.int p1), .val (.int p2), .val (.int p3), .val (.int (own_bit p3 (1 : Int32))), .val (.int (own_bit p3 (2 : Int32))), .val (.int (own_md p3)), .unset, .unset, .unset, .unset, .unset, .unset, .unset, .unset, .unset, .unset, .unset, .unset, .unset, .unset] [(.int (p3 &&& (16 : Int32)))])) _
      refine XS.ifNo X0.here hx rfl (hb hby at_37) rfl ((if0 _ _).trans (feq hq).1) ?_
      show Steps p.tables e below (s₁.setTop (mkF m 40 #[.val (.int p0), .val (.int p1), .val (.int p2), .val (.int p3), .val (.int (own_bit p3 (1 : Int32))), .val (.int (own_bit p3 (2 : Int32))), .val (.int (own_md p3)), .unset, .unset, .unset, .unset, .unset, .unset, .unset, .unset, .unset, .unset, .unset, .unset, .unset, .unset] [])) _
      refine XS.iconst X0.here hx rfl (hb hby at_40) ?_
      show Steps p.tables e below (s₁.setTop (mkF m 41 #[.val (.int p0), .val (.int p1), .val (.int p2), .val (.int p3), .val (.int (own_bit p3 (1 : Int32))), .val (.int (own_bit p3 (2 : Int32))), .val (.int (own_md p3)), .unset, .unset, .unset, .unset, .unset, .unset, .unset, .unset, .unset, .unset, .unset, .unset, .unset, .unset] [(.int (1 : Int32))])) _
      refine XS.goto X0.here hx rfl (pc0 := 41) (pc' := 45) rfl (hb hby at_41) (by decide) (by decide) ?_
      show Steps p.tables e below (s₁.setTop (mkF m 45 #[.val (.int p0), .val (.int p1), .val (.int p2), .val (.int p3), .val (.int (own_bit p3 (1 : Int32))), .val (.int (own_bit p3 (2 : Int32))), .val (.int (own_md p3)), .unset, .unset, .unset, .unset, .unset, .unset, .unset, .unset, .unset, .unset, .unset, .unset, .unset, .unset] [(.int (1 : Int32))])) _
      refine XS.istore X0.here hx rfl (hb hby at_45) rfl (l' := #[.val (.int p0), .val (.int p1), .val (.int p2), .val (.int p3), .val (.int (own_bit p3 (1 : Int32))), .val (.int (own_bit p3 (2 : Int32))), .val (.int (own_md p3)), .val (.int (1 : Int32)), .unset, .unset, .unset, .unset, .unset, .unset, .unset, .unset, .unset, .unset, .unset, .unset, .unset]) rfl ?_
      show Steps p.tables e below (s₁.setTop (mkF m 47 #[.val (.int p0), .val (.int p1), .val (.int p2), .val (.int p3), .val (.int (own_bit p3 (1 : Int32))), .val (.int (own_bit p3 (2 : Int32))), .val (.int (own_md p3)), .val (.int (1 : Int32)), .unset, .unset, .unset, .unset, .unset, .unset, .unset, .unset, .unset, .unset, .unset, .unset, .unset] [])) _
      have kk := k47
      rw [show (own_bit p3 (16 : Int32)) = (1 : Int32) from if_neg hq] at kk
      exact kk
  have k26 : Steps p.tables e below (s₁.setTop (mkF m 26 #[.val (.int p0), .val (.int p1), .val (.int p2), .val (.int p3), .val (.int (own_bit p3 (1 : Int32))), .val (.int (own_bit p3 (2 : Int32))), .unset, .unset, .unset, .unset, .unset, .unset, .unset, .unset, .unset, .unset, .unset, .unset, .unset, .unset, .unset] [])) (T30.setFrames fs) := by
    show Steps p.tables e below (s₁.setTop (mkF m 26 #[.val (.int p0), .val (.int p1), .val (.int p2), .val (.int p3), .val (.int (own_bit p3 (1 : Int32))), .val (.int (own_bit p3 (2 : Int32))), .unset, .unset, .unset, .unset, .unset, .unset, .unset, .unset, .unset, .unset, .unset, .unset, .unset, .unset, .unset] [])) _
    refine XS.iloadN X0.here hx rfl (hb hby at_26) rfl ?_
    show Steps p.tables e below (s₁.setTop (mkF m 27 #[.val (.int p0), .val (.int p1), .val (.int p2), .val (.int p3), .val (.int (own_bit p3 (1 : Int32))), .val (.int (own_bit p3 (2 : Int32))), .unset, .unset, .unset, .unset, .unset, .unset, .unset, .unset, .unset, .unset, .unset, .unset, .unset, .unset, .unset] [(.int p3)])) _
    refine XS.iconst X0.here hx rfl (hb hby at_27) ?_
    show Steps p.tables e below (s₁.setTop (mkF m 28 #[.val (.int p0), .val (.int p1), .val (.int p2), .val (.int p3), .val (.int (own_bit p3 (1 : Int32))), .val (.int (own_bit p3 (2 : Int32))), .unset, .unset, .unset, .unset, .unset, .unset, .unset, .unset, .unset, .unset, .unset, .unset, .unset, .unset, .unset] [(.int (2 : Int32)), (.int p3)])) _
    refine XS.iushr X0.here hx rfl (hb hby at_28) rfl ?_
    show Steps p.tables e below (s₁.setTop (mkF m 29 #[.val (.int p0), .val (.int p1), .val (.int p2), .val (.int p3), .val (.int (own_bit p3 (1 : Int32))), .val (.int (own_bit p3 (2 : Int32))), .unset, .unset, .unset, .unset, .unset, .unset, .unset, .unset, .unset, .unset, .unset, .unset, .unset, .unset, .unset] [(.int ((p3.toUInt32 >>> ((2 : Int32) &&& 31).toUInt32).toInt32))])) _
    refine XS.iconst X0.here hx rfl (hb hby at_29) ?_
    show Steps p.tables e below (s₁.setTop (mkF m 30 #[.val (.int p0), .val (.int p1), .val (.int p2), .val (.int p3), .val (.int (own_bit p3 (1 : Int32))), .val (.int (own_bit p3 (2 : Int32))), .unset, .unset, .unset, .unset, .unset, .unset, .unset, .unset, .unset, .unset, .unset, .unset, .unset, .unset, .unset] [(.int (3 : Int32)), (.int ((p3.toUInt32 >>> ((2 : Int32) &&& 31).toUInt32).toInt32))])) _
    refine XS.iand X0.here hx rfl (hb hby at_30) rfl ?_
    show Steps p.tables e below (s₁.setTop (mkF m 31 #[.val (.int p0), .val (.int p1), .val (.int p2), .val (.int p3), .val (.int (own_bit p3 (1 : Int32))), .val (.int (own_bit p3 (2 : Int32))), .unset, .unset, .unset, .unset, .unset, .unset, .unset, .unset, .unset, .unset, .unset, .unset, .unset, .unset, .unset] [(.int (own_md p3))])) _
    refine XS.istore X0.here hx rfl (hb hby at_31) rfl (l' := #[.val (.int p0), .val (.int p1), .val (.int p2), .val (.int p3), .val (.int (own_bit p3 (1 : Int32))), .val (.int (own_bit p3 (2 : Int32))), .val (.int (own_md p3)), .unset, .unset, .unset, .unset, .unset, .unset, .unset, .unset, .unset, .unset, .unset, .unset, .unset, .unset]) rfl ?_
    exact k33
  have k13 : Steps p.tables e below (s₁.setTop (mkF m 13 #[.val (.int p0), .val (.int p1), .val (.int p2), .val (.int p3), .val (.int (own_bit p3 (1 : Int32))), .unset, .unset, .unset, .unset, .unset, .unset, .unset, .unset, .unset, .unset, .unset, .unset, .unset, .unset, .unset, .unset] [])) (T30.setFrames fs) := by
    by_cases hq : p3 &&& (2 : Int32) = (0 : Int32)
    · show Steps p.tables e below (s₁.setTop (mkF m 13 #[.val (.int p0), .val (.int p1), .val (.int p2), .val (.int p3), .val (.int (own_bit p3 (1 : Int32))), .unset, .unset, .unset, .unset, .unset, .unset, .unset, .unset, .unset, .unset, .unset, .unset, .unset, .unset, .unset, .unset] [])) _
      refine XS.iloadN X0.here hx rfl (hb hby at_13) rfl ?_
      show Steps p.tables e below (s₁.setTop (mkF m 14 #[.val (.int p0), .val (.int p1), .val (.int p2), .val (.int p3), .val (.int (own_bit p3 (1 : Int32))), .unset, .unset, .unset, .unset, .unset, .unset, .unset, .unset, .unset, .unset, .unset, .unset, .unset, .unset, .unset, .unset] [(.int p3)])) _
      refine XS.iconst X0.here hx rfl (hb hby at_14) ?_
      show Steps p.tables e below (s₁.setTop (mkF m 15 #[.val (.int p0), .val (.int p1), .val (.int p2), .val (.int p3), .val (.int (own_bit p3 (1 : Int32))), .unset, .unset, .unset, .unset, .unset, .unset, .unset, .unset, .unset, .unset, .unset, .unset, .unset, .unset, .unset, .unset] [(.int (2 : Int32)), (.int p3)])) _
      refine XS.iand X0.here hx rfl (hb hby at_15) rfl ?_
      show Steps p.tables e below (s₁.setTop (mkF m 16 #[.val (.int p0), .val (.int p1), .val (.int p2), .val (.int p3), .val (.int (own_bit p3 (1 : Int32))), .unset, .unset, .unset, .unset, .unset, .unset, .unset, .unset, .unset, .unset, .unset, .unset, .unset, .unset, .unset, .unset] [(.int (p3 &&& (2 : Int32)))])) _
      refine XS.ifYes X0.here hx rfl (pc0 := 16) (pc' := 23) rfl (hb hby at_16) rfl ((if0 _ _).trans (teq hq).1) (by decide) (by decide) ?_
      show Steps p.tables e below (s₁.setTop (mkF m 23 #[.val (.int p0), .val (.int p1), .val (.int p2), .val (.int p3), .val (.int (own_bit p3 (1 : Int32))), .unset, .unset, .unset, .unset, .unset, .unset, .unset, .unset, .unset, .unset, .unset, .unset, .unset, .unset, .unset, .unset] [])) _
      refine XS.iconst X0.here hx rfl (hb hby at_23) ?_
      show Steps p.tables e below (s₁.setTop (mkF m 24 #[.val (.int p0), .val (.int p1), .val (.int p2), .val (.int p3), .val (.int (own_bit p3 (1 : Int32))), .unset, .unset, .unset, .unset, .unset, .unset, .unset, .unset, .unset, .unset, .unset, .unset, .unset, .unset, .unset, .unset] [(.int (0 : Int32))])) _
      refine XS.istore X0.here hx rfl (hb hby at_24) rfl (l' := #[.val (.int p0), .val (.int p1), .val (.int p2), .val (.int p3), .val (.int (own_bit p3 (1 : Int32))), .val (.int (0 : Int32)), .unset, .unset, .unset, .unset, .unset, .unset, .unset, .unset, .unset, .unset, .unset, .unset, .unset, .unset, .unset]) rfl ?_
      show Steps p.tables e below (s₁.setTop (mkF m 26 #[.val (.int p0), .val (.int p1), .val (.int p2), .val (.int p3), .val (.int (own_bit p3 (1 : Int32))), .val (.int (0 : Int32)), .unset, .unset, .unset, .unset, .unset, .unset, .unset, .unset, .unset, .unset, .unset, .unset, .unset, .unset, .unset] [])) _
      have kk := k26
      rw [show (own_bit p3 (2 : Int32)) = (0 : Int32) from if_pos hq] at kk
      exact kk
    · show Steps p.tables e below (s₁.setTop (mkF m 13 #[.val (.int p0), .val (.int p1), .val (.int p2), .val (.int p3), .val (.int (own_bit p3 (1 : Int32))), .unset, .unset, .unset, .unset, .unset, .unset, .unset, .unset, .unset, .unset, .unset, .unset, .unset, .unset, .unset, .unset] [])) _
      refine XS.iloadN X0.here hx rfl (hb hby at_13) rfl ?_
      show Steps p.tables e below (s₁.setTop (mkF m 14 #[.val (.int p0), .val (.int p1), .val (.int p2), .val (.int p3), .val (.int (own_bit p3 (1 : Int32))), .unset, .unset, .unset, .unset, .unset, .unset, .unset, .unset, .unset, .unset, .unset, .unset, .unset, .unset, .unset, .unset] [(.int p3)])) _
      refine XS.iconst X0.here hx rfl (hb hby at_14) ?_
      show Steps p.tables e below (s₁.setTop (mkF m 15 #[.val (.int p0), .val (.int p1), .val (.int p2), .val (.int p3), .val (.int (own_bit p3 (1 : Int32))), .unset, .unset, .unset, .unset, .unset, .unset, .unset, .unset, .unset, .unset, .unset, .unset, .unset, .unset, .unset, .unset] [(.int (2 : Int32)), (.int p3)])) _
      refine XS.iand X0.here hx rfl (hb hby at_15) rfl ?_
      show Steps p.tables e below (s₁.setTop (mkF m 16 #[.val (.int p0), .val (.int p1), .val (.int p2), .val (.int p3), .val (.int (own_bit p3 (1 : Int32))), .unset, .unset, .unset, .unset, .unset, .unset, .unset, .unset, .unset, .unset, .unset, .unset, .unset, .unset, .unset, .unset] [(.int (p3 &&& (2 : Int32)))])) _
      refine XS.ifNo X0.here hx rfl (hb hby at_16) rfl ((if0 _ _).trans (feq hq).1) ?_
      show Steps p.tables e below (s₁.setTop (mkF m 19 #[.val (.int p0), .val (.int p1), .val (.int p2), .val (.int p3), .val (.int (own_bit p3 (1 : Int32))), .unset, .unset, .unset, .unset, .unset, .unset, .unset, .unset, .unset, .unset, .unset, .unset, .unset, .unset, .unset, .unset] [])) _
      refine XS.iconst X0.here hx rfl (hb hby at_19) ?_
      show Steps p.tables e below (s₁.setTop (mkF m 20 #[.val (.int p0), .val (.int p1), .val (.int p2), .val (.int p3), .val (.int (own_bit p3 (1 : Int32))), .unset, .unset, .unset, .unset, .unset, .unset, .unset, .unset, .unset, .unset, .unset, .unset, .unset, .unset, .unset, .unset] [(.int (1 : Int32))])) _
      refine XS.goto X0.here hx rfl (pc0 := 20) (pc' := 24) rfl (hb hby at_20) (by decide) (by decide) ?_
      show Steps p.tables e below (s₁.setTop (mkF m 24 #[.val (.int p0), .val (.int p1), .val (.int p2), .val (.int p3), .val (.int (own_bit p3 (1 : Int32))), .unset, .unset, .unset, .unset, .unset, .unset, .unset, .unset, .unset, .unset, .unset, .unset, .unset, .unset, .unset, .unset] [(.int (1 : Int32))])) _
      refine XS.istore X0.here hx rfl (hb hby at_24) rfl (l' := #[.val (.int p0), .val (.int p1), .val (.int p2), .val (.int p3), .val (.int (own_bit p3 (1 : Int32))), .val (.int (1 : Int32)), .unset, .unset, .unset, .unset, .unset, .unset, .unset, .unset, .unset, .unset, .unset, .unset, .unset, .unset, .unset]) rfl ?_
      show Steps p.tables e below (s₁.setTop (mkF m 26 #[.val (.int p0), .val (.int p1), .val (.int p2), .val (.int p3), .val (.int (own_bit p3 (1 : Int32))), .val (.int (1 : Int32)), .unset, .unset, .unset, .unset, .unset, .unset, .unset, .unset, .unset, .unset, .unset, .unset, .unset, .unset, .unset] [])) _
      have kk := k26
      rw [show (own_bit p3 (2 : Int32)) = (1 : Int32) from if_neg hq] at kk
      exact kk
  have k0 : Steps p.tables e below (s₁.setTop (mkF m 0 #[.val (.int p0), .val (.int p1), .val (.int p2), .val (.int p3), .unset, .unset, .unset, .unset, .unset, .unset, .unset, .unset, .unset, .unset, .unset, .unset, .unset, .unset, .unset, .unset, .unset] [])) (T30.setFrames fs) := by
    by_cases hq : p3 &&& (1 : Int32) = (0 : Int32)
    · show Steps p.tables e below (s₁.setTop (mkF m 0 #[.val (.int p0), .val (.int p1), .val (.int p2), .val (.int p3), .unset, .unset, .unset, .unset, .unset, .unset, .unset, .unset, .unset, .unset, .unset, .unset, .unset, .unset, .unset, .unset, .unset] [])) _
      refine XS.iloadN X0.here hx rfl (hb hby at_0) rfl ?_
      show Steps p.tables e below (s₁.setTop (mkF m 1 #[.val (.int p0), .val (.int p1), .val (.int p2), .val (.int p3), .unset, .unset, .unset, .unset, .unset, .unset, .unset, .unset, .unset, .unset, .unset, .unset, .unset, .unset, .unset, .unset, .unset] [(.int p3)])) _
      refine XS.iconst X0.here hx rfl (hb hby at_1) ?_
      show Steps p.tables e below (s₁.setTop (mkF m 2 #[.val (.int p0), .val (.int p1), .val (.int p2), .val (.int p3), .unset, .unset, .unset, .unset, .unset, .unset, .unset, .unset, .unset, .unset, .unset, .unset, .unset, .unset, .unset, .unset, .unset] [(.int (1 : Int32)), (.int p3)])) _
      refine XS.iand X0.here hx rfl (hb hby at_2) rfl ?_
      show Steps p.tables e below (s₁.setTop (mkF m 3 #[.val (.int p0), .val (.int p1), .val (.int p2), .val (.int p3), .unset, .unset, .unset, .unset, .unset, .unset, .unset, .unset, .unset, .unset, .unset, .unset, .unset, .unset, .unset, .unset, .unset] [(.int (p3 &&& (1 : Int32)))])) _
      refine XS.ifYes X0.here hx rfl (pc0 := 3) (pc' := 10) rfl (hb hby at_3) rfl ((if0 _ _).trans (teq hq).1) (by decide) (by decide) ?_
      show Steps p.tables e below (s₁.setTop (mkF m 10 #[.val (.int p0), .val (.int p1), .val (.int p2), .val (.int p3), .unset, .unset, .unset, .unset, .unset, .unset, .unset, .unset, .unset, .unset, .unset, .unset, .unset, .unset, .unset, .unset, .unset] [])) _
      refine XS.iconst X0.here hx rfl (hb hby at_10) ?_
      show Steps p.tables e below (s₁.setTop (mkF m 11 #[.val (.int p0), .val (.int p1), .val (.int p2), .val (.int p3), .unset, .unset, .unset, .unset, .unset, .unset, .unset, .unset, .unset, .unset, .unset, .unset, .unset, .unset, .unset, .unset, .unset] [(.int (0 : Int32))])) _
      refine XS.istore X0.here hx rfl (hb hby at_11) rfl (l' := #[.val (.int p0), .val (.int p1), .val (.int p2), .val (.int p3), .val (.int (0 : Int32)), .unset, .unset, .unset, .unset, .unset, .unset, .unset, .unset, .unset, .unset, .unset, .unset, .unset, .unset, .unset, .unset]) rfl ?_
      show Steps p.tables e below (s₁.setTop (mkF m 13 #[.val (.int p0), .val (.int p1), .val (.int p2), .val (.int p3), .val (.int (0 : Int32)), .unset, .unset, .unset, .unset, .unset, .unset, .unset, .unset, .unset, .unset, .unset, .unset, .unset, .unset, .unset, .unset] [])) _
      have kk := k13
      rw [show (own_bit p3 (1 : Int32)) = (0 : Int32) from if_pos hq] at kk
      exact kk
    · show Steps p.tables e below (s₁.setTop (mkF m 0 #[.val (.int p0), .val (.int p1), .val (.int p2), .val (.int p3), .unset, .unset, .unset, .unset, .unset, .unset, .unset, .unset, .unset, .unset, .unset, .unset, .unset, .unset, .unset, .unset, .unset] [])) _
      refine XS.iloadN X0.here hx rfl (hb hby at_0) rfl ?_
      show Steps p.tables e below (s₁.setTop (mkF m 1 #[.val (.int p0), .val (.int p1), .val (.int p2), .val (.int p3), .unset, .unset, .unset, .unset, .unset, .unset, .unset, .unset, .unset, .unset, .unset, .unset, .unset, .unset, .unset, .unset, .unset] [(.int p3)])) _
      refine XS.iconst X0.here hx rfl (hb hby at_1) ?_
      show Steps p.tables e below (s₁.setTop (mkF m 2 #[.val (.int p0), .val (.int p1), .val (.int p2), .val (.int p3), .unset, .unset, .unset, .unset, .unset, .unset, .unset, .unset, .unset, .unset, .unset, .unset, .unset, .unset, .unset, .unset, .unset] [(.int (1 : Int32)), (.int p3)])) _
      refine XS.iand X0.here hx rfl (hb hby at_2) rfl ?_
      show Steps p.tables e below (s₁.setTop (mkF m 3 #[.val (.int p0), .val (.int p1), .val (.int p2), .val (.int p3), .unset, .unset, .unset, .unset, .unset, .unset, .unset, .unset, .unset, .unset, .unset, .unset, .unset, .unset, .unset, .unset, .unset] [(.int (p3 &&& (1 : Int32)))])) _
      refine XS.ifNo X0.here hx rfl (hb hby at_3) rfl ((if0 _ _).trans (feq hq).1) ?_
      show Steps p.tables e below (s₁.setTop (mkF m 6 #[.val (.int p0), .val (.int p1), .val (.int p2), .val (.int p3), .unset, .unset, .unset, .unset, .unset, .unset, .unset, .unset, .unset, .unset, .unset, .unset, .unset, .unset, .unset, .unset, .unset] [])) _
      refine XS.iconst X0.here hx rfl (hb hby at_6) ?_
      show Steps p.tables e below (s₁.setTop (mkF m 7 #[.val (.int p0), .val (.int p1), .val (.int p2), .val (.int p3), .unset, .unset, .unset, .unset, .unset, .unset, .unset, .unset, .unset, .unset, .unset, .unset, .unset, .unset, .unset, .unset, .unset] [(.int (1 : Int32))])) _
      refine XS.goto X0.here hx rfl (pc0 := 7) (pc' := 11) rfl (hb hby at_7) (by decide) (by decide) ?_
      show Steps p.tables e below (s₁.setTop (mkF m 11 #[.val (.int p0), .val (.int p1), .val (.int p2), .val (.int p3), .unset, .unset, .unset, .unset, .unset, .unset, .unset, .unset, .unset, .unset, .unset, .unset, .unset, .unset, .unset, .unset, .unset] [(.int (1 : Int32))])) _
      refine XS.istore X0.here hx rfl (hb hby at_11) rfl (l' := #[.val (.int p0), .val (.int p1), .val (.int p2), .val (.int p3), .val (.int (1 : Int32)), .unset, .unset, .unset, .unset, .unset, .unset, .unset, .unset, .unset, .unset, .unset, .unset, .unset, .unset, .unset, .unset]) rfl ?_
      show Steps p.tables e below (s₁.setTop (mkF m 13 #[.val (.int p0), .val (.int p1), .val (.int p2), .val (.int p3), .val (.int (1 : Int32)), .unset, .unset, .unset, .unset, .unset, .unset, .unset, .unset, .unset, .unset, .unset, .unset, .unset, .unset, .unset, .unset] [])) _
      have kk := k13
      rw [show (own_bit p3 (1 : Int32)) = (1 : Int32) from if_neg hq] at kk
      exact kk
  refine ⟨_, _, pre0 _ k0, hrun, hended, _, _, rfl, ?_, ⟨_, rfl⟩, hW, hsame.mono (by decide) (by decide)⟩
  show Q0 Z p0 p1 p2 p3 h0 n0 _ T30.heap _
  exact ⟨rfl, N30⟩
set_option maxRecDepth 65536 in
set_option maxHeartbeats 40000000 in
theorem comes_1 {Post : Tables → Env → Array Value → State → Outcome → State → Prop} (hpost : ∀ tb e args s v u, (limb_1_1.after args s (.returned v) u = true ∧ limb_1_2.after args s (.returned v) u = true ∧ True) → FrameEnd s (.returned v) u (Jvm.fieldLocs frame_1_writes args s ++ Jvm.arrayLocs frame_1_arrays args s ++ Jvm.staticLocs frame_1_statics s) 16 128 → Post tb e args s (.returned v) u) :
    ArmFor flags0 classFile x code maxLocals ret World_1 tables_1 room_1 Calls_1 rest_1 Pre_1 Post := by
  intro l hfl _ _ p e ha hc hk s m args below hf hA hF happ hP
  obtain ⟨hcalls, hrest, hpre⟩ := hP
  obtain ⟨-, -, -, hnamed, -, -, -, hat⟩ := (Spec.applies_iff hf).mp happ
  obtain ⟨hg, hn⟩ := and_e (Cond.before_iff.mp (show (Jvm.Cond.and given_1 narrow_1).before args s = true from hpre))
  obtain ⟨gc, gr0⟩ := and_e hg
  obtain ⟨ga0, gr1⟩ := and_e gr0
  obtain ⟨ga1, gr2⟩ := and_e gr1
  obtain ⟨ga2, gr3⟩ := and_e gr2
  have ga3 := gr3
  obtain ⟨w0, w1, w2, w3, rfl⟩ : ∃ w0 w1 w2 w3 : Value, args = #[w0, w1, w2, w3] := by
    have hs : args.size = 4 := by simpa [Cond.value, given_1] using gc
    obtain ⟨L⟩ := args
    match L, hs with
    | [w0, w1, w2, w3], _ => exact ⟨w0, w1, w2, w3, rfl⟩
  have hw := fun d (hd : d ∈ tables_1) => atoms_spec (ws := Jvm.Cond.code x code maxLocals ret :: tables_1) hat d (List.mem_cons_of_mem _ hd)
  obtain ⟨i0, ei0⟩ := is_v ga0
  obtain rfl : w0 = (.int i0) := Option.some.inj ei0
  obtain ⟨i1, ei1⟩ := is_v ga1
  obtain rfl : w1 = (.int i1) := Option.some.inj ei1
  obtain ⟨i2, ei2⟩ := is_v ga2
  obtain rfl : w2 = (.int i2) := Option.some.inj ei2
  obtain ⟨i3, ei3⟩ := is_v ga3
  obtain rfl : w3 = (.int i3) := Option.some.inj ei3
  obtain ⟨n, o, h1, h2, h3, _, L, rfl, ⟨rfl, N⟩, hq⟩ := rm0 l s _ hw tables_1 i0 i1 i2 i3 s.heap s.heap.size (Nat.le_refl _) p e ha hc hk s m _ below hf ((Spec.applies_iff_loose hf).mp happ).1 ⟨rfl, State.Warmed39.refl s, rfl⟩ trivial
  refine ⟨n, _, h1, h2, h3, hpost _ _ _ _ _ _ ⟨Cond.after_iff.mpr rfl, Cond.after_iff.mpr (eq_i res_at (Term.int_eval (1)) rfl), trivial⟩ ⟨hq.1, hq.2.1, (hq.2.2.sift fun y hy => Or.inr (N y hy)).mono (by decide) (by decide)⟩⟩
theorem main_1_1 : Claimed_1_1 := comes_1 fun _ _ _ _ _ _ h hF => ⟨h.1, hF⟩
theorem main_1_2 : Claimed_1_2 := comes_1 fun _ _ _ _ _ _ h hF => ⟨h.2.1, hF⟩
end Jvm.Pilot.@@N@@
namespace Jvm.Pilot.@@N@@
open Jvm Jvm.ClassFile Sem Op Lib Jvm.Free Jvm.Stand Jvm.Pilot.@@N@@.Jvm.D
/-! MADE BY PROGRAM (witnessworld.py) out of the Statement's table words and the real class files: 15 classes; the members and pool entries that the words name. The judged class is class 1, her method 2. -/
namespace start1
open Jvm.ClassFile
def u (s : String) : CpInfo := .utf8 (stringToUtf16 s)
/-- a pool by its gaps: so many unusable entries, then the entry; so many at the end -/
def gap : Nat → List CpInfo → List CpInfo
  | 0, r => r
  | n + 1, r => .unusable :: gap n r
def poolList (es : List (Nat × CpInfo)) (last : Nat) : List CpInfo := es.foldr (fun e r => gap e.1 (e.2 :: r)) (gap last [])
def pool (es : List (Nat × CpInfo)) (last : Nat) : Array CpInfo := ⟨poolList es last⟩
def fileOf (pool : Array CpInfo) (this : Nat) (attrs : Array Attribute := #[]) (ms : Array MethodInfo := #[]) (fl : Nat := 33) (sup : Nat := 0) (ifs : Array Nat := #[]) (fds : Array FieldInfo := #[]) : ClassFile where
  minorVersion := 0
  majorVersion := 65
  constantPool := pool
  accessFlags := fl
  thisClass := this
  superClass := sup
  interfaces := ifs
  fields := fds
  methods := ms
  attributes := attrs
def plain (name : String) (sup : Option ClassId) : Class where
  name := name
  kind := .ordinary
  loader := none
  accessFlags := 33
  super := sup
  interfaces := #[]
  cf := none
  fields := #[]
  methods := #[]
  instanceTypes := #[]
  staticTypes := #[]
  resolved := #[]
  callSites := []
  init := .initialized
  statics := none
  mirror := none

def pool0 : Array CpInfo := pool [(5, u "<init>"), (0, u "()V"), (1, .class_ 10), (1, u "java/lang/Object")] 113

def k0c0 : Code := { maxStack := 0, maxLocals := 1, code := object_method_1_code, exceptionTable := #[], attributes := #[] }
def k0m0 : Method := { name := "<init>", desc := "()V", sig := { parameters := [], returnType := none }, accessFlags := 1, code := some k0c0 }
/-- java/lang/Object -/
def k0 : Class := { plain "java/lang/Object" none with
  accessFlags := 33
  interfaces := #[]
  cf := some (fileOf pool0 8 #[] #[{ accessFlags := 1, nameIndex := 5, descriptorIndex := 6, attributes := #[] }] 33 0 #[] #[])
  fields := #[]
  methods := #[k0m0]
  instanceTypes := #[]
  staticTypes := #[]
  resolved := Array.replicate 124 none
  statics := none }

def pool1 : Array CpInfo := pool [(2, .class_ 4), (1, u "java/lang/Object"), (0, u "<init>"), (0, u "()V"), (0, .class_ 8), (0, u "com/example/fanworm/fanworm/engine/Interval"), (0, .methodref 10 11), (0, .class_ 12), (0, .nameAndType 13 14), (0, u "com/example/fanworm/fanworm/engine/IntervalContainsPinLaw"), (0, u "toD"), (0, u "(JZ)D"), (0, .methodref 7 16), (0, .nameAndType 5 17), (0, u "(DZDZ)V"), (0, .methodref 7 19), (0, .nameAndType 20 21), (0, u "contains"), (0, u "(D)Z"), (3, u "law"), (0, u "(IIII)Z")] 2

def k1m0 : Method := { name := "<init>", desc := "()V", sig := { parameters := [], returnType := none }, accessFlags := 1, code := none }
def k1c1 : Code := { maxStack := 4, maxLocals := 5, code := method_2_code, exceptionTable := #[], attributes := #[] }
def k1m1 : Method := { name := "toD", desc := "(JZ)D", sig := { parameters := [.long, .boolean], returnType := some .double }, accessFlags := 10, code := some k1c1 }
def k1c2 : Code := { maxStack := 8, maxLocals := 21, code := code, exceptionTable := #[], attributes := #[] }
def k1m2 : Method := { name := "law", desc := "(IIII)Z", sig := { parameters := [.int, .int, .int, .int], returnType := some .boolean }, accessFlags := 9, code := some k1c2 }
/-- com/example/fanworm/fanworm/engine/IntervalContainsPinLaw -/
def k1 : Class := { plain "com/example/fanworm/fanworm/engine/IntervalContainsPinLaw" (some 0) with
  accessFlags := 49
  interfaces := #[]
  cf := some (fileOf pool1 10 #[] #[{ accessFlags := 1, nameIndex := 5, descriptorIndex := 6, attributes := #[] }, { accessFlags := 10, nameIndex := 13, descriptorIndex := 14, attributes := #[] }, { accessFlags := 9, nameIndex := 25, descriptorIndex := 26, attributes := #[] }] 49 2 #[] #[])
  fields := #[]
  methods := #[k1m0, k1m1, k1m2]
  instanceTypes := #[]
  staticTypes := #[]
  resolved := Array.replicate 29 none
  statics := none }

def pool2 : Array CpInfo := pool [(1, .methodref 2 3), (0, .class_ 4), (0, .nameAndType 5 6), (0, u "java/lang/Object"), (0, u "<init>"), (0, u "()V"), (0, .class_ 8), (0, u "java/lang/Record")] 13

def k2c0 : Code := { maxStack := 1, maxLocals := 1, code := jdk_30_method_1_code, exceptionTable := #[], attributes := #[] }
def k2m0 : Method := { name := "<init>", desc := "()V", sig := { parameters := [], returnType := none }, accessFlags := 4, code := some k2c0 }
/-- java/lang/Record -/
def k2 : Class := { plain "java/lang/Record" (some 0) with
  accessFlags := 1057
  interfaces := #[]
  cf := some (fileOf pool2 7 #[] #[{ accessFlags := 4, nameIndex := 5, descriptorIndex := 6, attributes := #[] }] 1057 2 #[] #[])
  fields := #[]
  methods := #[k2m0]
  instanceTypes := #[]
  staticTypes := #[]
  resolved := Array.replicate 22 none
  statics := none }

def pool3 : Array CpInfo := pool [(1, .methodref 2 3), (0, .class_ 4), (0, .nameAndType 5 6), (0, u "java/lang/Record"), (0, u "<init>"), (0, u "()V"), (0, .methodref 8 9), (0, .class_ 10), (0, .nameAndType 11 12), (0, u "java/lang/Double"), (0, u "isNaN"), (0, u "(D)Z"), (7, .fieldref 21 22), (0, .class_ 23), (0, .nameAndType 24 25), (0, u "com/example/fanworm/fanworm/engine/Interval"), (0, u "low"), (0, u "D"), (0, .fieldref 21 27), (0, .nameAndType 28 29), (0, u "lowIncluded"), (0, u "Z"), (0, .fieldref 21 31), (0, .nameAndType 32 25), (0, u "high"), (0, .fieldref 21 34), (0, .nameAndType 35 29), (0, u "highIncluded"), (2, u "(DZDZ)V"), (28, u "contains")] 29

def k3c0 : Code := { maxStack := 3, maxLocals := 7, code := prog_16_method_1_code, exceptionTable := #[], attributes := #[] }
def k3m0 : Method := { name := "<init>", desc := "(DZDZ)V", sig := { parameters := [.double, .boolean, .double, .boolean], returnType := none }, accessFlags := 1, code := some k3c0 }
def k3c1 : Code := { maxStack := 4, maxLocals := 5, code := prog_16_method_8_code, exceptionTable := #[], attributes := #[] }
def k3m1 : Method := { name := "contains", desc := "(D)Z", sig := { parameters := [.double], returnType := some .boolean }, accessFlags := 1, code := some k3c1 }
/-- com/example/fanworm/fanworm/engine/Interval -/
def k3 : Class := { plain "com/example/fanworm/fanworm/engine/Interval" (some 2) with
  accessFlags := 49
  interfaces := #[]
  cf := some (fileOf pool3 21 #[] #[{ accessFlags := 1, nameIndex := 5, descriptorIndex := 38, attributes := #[] }, { accessFlags := 1, nameIndex := 67, descriptorIndex := 12, attributes := #[] }] 49 2 #[] #[{ accessFlags := 18, nameIndex := 24, descriptorIndex := 25, attributes := #[] }, { accessFlags := 18, nameIndex := 28, descriptorIndex := 29, attributes := #[] }, { accessFlags := 18, nameIndex := 32, descriptorIndex := 25, attributes := #[] }, { accessFlags := 18, nameIndex := 35, descriptorIndex := 29, attributes := #[] }])
  fields := #[{ name := "low", type := .double, accessFlags := 18, slot := 0, constantValue := 0 }, { name := "lowIncluded", type := .boolean, accessFlags := 18, slot := 1, constantValue := 0 }, { name := "high", type := .double, accessFlags := 18, slot := 2, constantValue := 0 }, { name := "highIncluded", type := .boolean, accessFlags := 18, slot := 3, constantValue := 0 }]
  methods := #[k3m0, k3m1]
  instanceTypes := #[.double, .boolean, .double, .boolean]
  staticTypes := #[]
  resolved := Array.replicate 97 none
  statics := none }

def pool4 : Array CpInfo := pool [(1, .class_ 2), (0, u "java/io/Serializable"), (0, .class_ 4), (0, u "java/lang/Object")] 2

/-- java/io/Serializable -/
def k4 : Class := { plain "java/io/Serializable" (some 0) with
  accessFlags := 1537
  interfaces := #[]
  cf := some (fileOf pool4 1 #[] #[] 1537 3 #[] #[])
  fields := #[]
  methods := #[]
  instanceTypes := #[]
  staticTypes := #[]
  resolved := Array.replicate 7 none
  statics := none }

def pool5 : Array CpInfo := pool [(2, .class_ 4), (1, u "java/lang/Object"), (0, u "<init>"), (0, u "()V"), (1, .class_ 10), (1, u "java/lang/Number"), (2, .class_ 14), (0, u "java/io/Serializable"), (0, u "serialVersionUID"), (0, u "J")] 20

def k5m0 : Method := { name := "<init>", desc := "()V", sig := { parameters := [], returnType := none }, accessFlags := 1, code := none }
/-- java/lang/Number -/
def k5 : Class := { plain "java/lang/Number" (some 0) with
  accessFlags := 1057
  interfaces := #[4]
  cf := some (fileOf pool5 8 #[] #[{ accessFlags := 1, nameIndex := 5, descriptorIndex := 6, attributes := #[] }] 1057 2 #[13] #[{ accessFlags := 26, nameIndex := 15, descriptorIndex := 16, attributes := #[] }])
  fields := #[{ name := "serialVersionUID", type := .long, accessFlags := 26, slot := 0, constantValue := 0 }]
  methods := #[k5m0]
  instanceTypes := #[]
  staticTypes := #[.long]
  resolved := Array.replicate 37 none
  statics := none }

def pool6 : Array CpInfo := pool [(1, .class_ 2), (0, u "java/lang/Comparable"), (0, .class_ 4), (0, u "java/lang/Object")] 7

/-- java/lang/Comparable -/
def k6 : Class := { plain "java/lang/Comparable" (some 0) with
  accessFlags := 1537
  interfaces := #[]
  cf := some (fileOf pool6 1 #[] #[] 1537 3 #[] #[])
  fields := #[]
  methods := #[]
  instanceTypes := #[]
  staticTypes := #[]
  resolved := Array.replicate 12 none
  statics := none }

def pool7 : Array CpInfo := pool [(1, .class_ 2), (0, u "java/lang/constant/Constable"), (0, .class_ 4), (0, u "java/lang/Object")] 6

/-- java/lang/constant/Constable -/
def k7 : Class := { plain "java/lang/constant/Constable" (some 0) with
  accessFlags := 1537
  interfaces := #[]
  cf := some (fileOf pool7 1 #[] #[] 1537 3 #[] #[])
  fields := #[]
  methods := #[]
  instanceTypes := #[]
  staticTypes := #[]
  resolved := Array.replicate 11 none
  statics := none }

def pool8 : Array CpInfo := pool [(1, .class_ 2), (0, u "java/lang/constant/ConstantDesc"), (0, .class_ 4), (0, u "java/lang/Object")] 32

/-- java/lang/constant/ConstantDesc -/
def k8 : Class := { plain "java/lang/constant/ConstantDesc" (some 0) with
  accessFlags := 1537
  interfaces := #[]
  cf := some (fileOf pool8 1 #[] #[] 1537 3 #[] #[])
  fields := #[]
  methods := #[]
  instanceTypes := #[]
  staticTypes := #[]
  resolved := Array.replicate 37 none
  statics := none }

def pool9 : Array CpInfo := pool [(1, .class_ 2), (0, u "java/lang/Double"), (11, u "(D)Z"), (99, .class_ 116), (1, u "java/lang/Number"), (3, u "value"), (0, u "D"), (2, u "isNaN"), (48, u "TYPE"), (0, u "Ljava/lang/Class;"), (0, .class_ 176), (0, u "java/lang/Comparable"), (0, .class_ 178), (0, u "java/lang/constant/Constable"), (0, .class_ 180), (0, u "java/lang/constant/ConstantDesc"), (0, u "POSITIVE_INFINITY"), (3, u "NEGATIVE_INFINITY"), (2, u "NaN"), (2, u "MAX_VALUE"), (0, u "MIN_NORMAL"), (0, u "MIN_VALUE"), (2, u "SIZE"), (0, u "I"), (1, u "PRECISION"), (1, u "MAX_EXPONENT"), (1, u "MIN_EXPONENT"), (1, u "BYTES"), (3, u "serialVersionUID"), (0, u "J")] 79

def k9c0 : Code := { maxStack := 4, maxLocals := 2, code := jdk_117_method_6_code, exceptionTable := #[], attributes := #[] }
def k9m0 : Method := { name := "isNaN", desc := "(D)Z", sig := { parameters := [.double], returnType := some .boolean }, accessFlags := 9, code := some k9c0 }
/-- java/lang/Double -/
def k9 : Class := { plain "java/lang/Double" (some 5) with
  accessFlags := 49
  interfaces := #[6, 7, 8]
  cf := some (fileOf pool9 1 #[] #[{ accessFlags := 9, nameIndex := 124, descriptorIndex := 14, attributes := #[] }] 49 114 #[175, 177, 179] #[{ accessFlags := 25, nameIndex := 181, descriptorIndex := 121, attributes := #[] }, { accessFlags := 25, nameIndex := 185, descriptorIndex := 121, attributes := #[] }, { accessFlags := 25, nameIndex := 188, descriptorIndex := 121, attributes := #[] }, { accessFlags := 25, nameIndex := 191, descriptorIndex := 121, attributes := #[] }, { accessFlags := 25, nameIndex := 192, descriptorIndex := 121, attributes := #[] }, { accessFlags := 25, nameIndex := 193, descriptorIndex := 121, attributes := #[] }, { accessFlags := 25, nameIndex := 196, descriptorIndex := 197, attributes := #[] }, { accessFlags := 25, nameIndex := 199, descriptorIndex := 197, attributes := #[] }, { accessFlags := 25, nameIndex := 201, descriptorIndex := 197, attributes := #[] }, { accessFlags := 25, nameIndex := 203, descriptorIndex := 197, attributes := #[] }, { accessFlags := 25, nameIndex := 205, descriptorIndex := 197, attributes := #[] }, { accessFlags := 25, nameIndex := 173, descriptorIndex := 174, attributes := #[] }, { accessFlags := 18, nameIndex := 120, descriptorIndex := 121, attributes := #[] }, { accessFlags := 26, nameIndex := 209, descriptorIndex := 210, attributes := #[] }])
  fields := #[{ name := "POSITIVE_INFINITY", type := .double, accessFlags := 25, slot := 0, constantValue := 0 }, { name := "NEGATIVE_INFINITY", type := .double, accessFlags := 25, slot := 1, constantValue := 0 }, { name := "NaN", type := .double, accessFlags := 25, slot := 2, constantValue := 0 }, { name := "MAX_VALUE", type := .double, accessFlags := 25, slot := 3, constantValue := 0 }, { name := "MIN_NORMAL", type := .double, accessFlags := 25, slot := 4, constantValue := 0 }, { name := "MIN_VALUE", type := .double, accessFlags := 25, slot := 5, constantValue := 0 }, { name := "SIZE", type := .int, accessFlags := 25, slot := 6, constantValue := 0 }, { name := "PRECISION", type := .int, accessFlags := 25, slot := 7, constantValue := 0 }, { name := "MAX_EXPONENT", type := .int, accessFlags := 25, slot := 8, constantValue := 0 }, { name := "MIN_EXPONENT", type := .int, accessFlags := 25, slot := 9, constantValue := 0 }, { name := "BYTES", type := .int, accessFlags := 25, slot := 10, constantValue := 0 }, { name := "TYPE", type := (.object "java/lang/Class"), accessFlags := 25, slot := 11, constantValue := 0 }, { name := "value", type := .double, accessFlags := 18, slot := 0, constantValue := 0 }, { name := "serialVersionUID", type := .long, accessFlags := 26, slot := 12, constantValue := 0 }]
  methods := #[k9m0]
  instanceTypes := #[.double]
  staticTypes := #[.double, .double, .double, .double, .double, .double, .int, .int, .int, .int, .int, (.object "java/lang/Class"), .long]
  resolved := Array.replicate 290 none
  statics := none }

def pool10 : Array CpInfo := pool [(1, u "java/lang/Cloneable"), (0, .class_ 1), (0, u "java/lang/Object"), (0, .class_ 3)] 3

/-- java/lang/Cloneable -/
def k10 : Class := { plain "java/lang/Cloneable" (some 0) with
  accessFlags := 1537
  interfaces := #[]
  cf := some (fileOf pool10 2 #[] #[] 1537 4 #[] #[])
  fields := #[]
  methods := #[]
  instanceTypes := #[]
  staticTypes := #[]
  resolved := Array.replicate 8 none
  statics := none }

/-- the primitive byte -/
def k11 : Class := { plain "byte" none with kind := .primitive 'B', accessFlags := 0x411 }
/-- [B -/
def k12 : Class := { plain "[B" (some 0) with kind := .array 11 .byte, interfaces := #[10, 4], accessFlags := 1041 }

/-- the primitive int -/
def k13 : Class := { plain "int" none with kind := .primitive 'I', accessFlags := 0x411 }
/-- [I -/
def k14 : Class := { plain "[I" (some 0) with kind := .array 13 .int, interfaces := #[10, 4], accessFlags := 1041 }

def heap : Heap := #[]
def classes : Array Class := #[k0, k1, k2, k3, k4, k5, k6, k7, k8, k9, k10, k11, k12, k13, k14]
def interned : List (Array UInt16 × Addr) := []
def slotsUsed : Nat := 0
def theMethod : MethodId := ⟨1, 2⟩
def args0 : Array Value := #[.int 5, .int 5, .int 5, .int 5]
def aboutOver (below : List Frame) : State where
  vm := { classes := classes, interned := interned.toArray }
  heap := heap
  slotsUsed := slotsUsed
  threads := #[{ frames := .invoking theMethod args0 :: below }]
def below0 : List Frame := [.native { method := ⟨0, 0⟩, args := #[] }]
def about1 : State := aboutOver below0
def p0 : Program := .bare "" "" ""
def e0 : Env := launch0.env 0 0 0
theorem w_frames : about1.frames = Frame.invoking theMethod args0 :: below0 := rfl
set_option maxRecDepth 65536 in
theorem w_args : argsFit about1.vm theMethod args0 = true := by decide +kernel
set_option maxRecDepth 65536 in
theorem w_heap : heapFits about1 = true := by decide +kernel
set_option maxRecDepth 65536 in
theorem w_runnable : about1.curStatus? = some .runnable := by decide +kernel
set_option maxRecDepth 65536 in
theorem w_alone : about1.alone = true := by decide +kernel
set_option maxRecDepth 65536 in
theorem w_named : about1.methodNamed? x = some theMethod := by decide +kernel
set_option maxRecDepth 65536 in
theorem w_hears : about1.hears theMethod below0 = true := by decide +kernel
set_option maxRecDepth 65536 in
theorem w_ripe : about1.ripe theMethod args0 below0 = true := by decide +kernel
theorem w_running : about1.status = .running := rfl
set_option maxRecDepth 65536 in
theorem w_room : about1.hasRoom e0.platform room_1 = true :=
  launch0.hasRoom_least _ room_1 (by decide +kernel) (by decide +kernel) (by decide +kernel) (by decide +kernel) (by decide +kernel) (by decide +kernel)
theorem allAtoms_all (ts : List Jvm.Cond) (a : Array Jvm.Value) (st : Jvm.State) : (allAtoms ts).before a st = ts.all (fun c => c.before a st) := by
  induction ts with
  | nil => rfl
  | cons c t ih =>
    show (Jvm.Cond.and c (allAtoms t)).before a st = _
    rw [Jvm.Cond.before_and, ih, List.all_cons]
def words1 : List Jvm.Cond := Jvm.Cond.code x code maxLocals ret :: tables_1
/-- a 'code' word, met by the world's own term for the bytes: nothing is compared byte by byte -/
theorem code_word {y : MethodName} {bytes : ByteArray} {mx : Nat} {rt : Option FieldType} {a : Array Value} {s : State} {m : MethodId} {meth : Method} {c : Code} (h1 : s.methodNamed? y = some m) (h2 : s.vm.method? m = some meth) (h3 : meth.code = some c) (h4 : c.code = bytes)
    (h5 : (c.maxLocals == mx && c.exceptionTable.isEmpty && decide (c.maxStack ≤ mostOperands) && decide (meth.sig.returnType = rt) && !meth.locks && decide (parseMethodDescriptor y.desc = some meth.sig)) = true) : (Jvm.Cond.code y bytes mx rt).before a s = true := by
  simp only [Bool.and_eq_true, beq_iff_eq, Bool.not_eq_true', decide_eq_true_eq] at h5
  obtain ⟨⟨⟨⟨⟨g1, g2⟩, g3⟩, g4⟩, g5⟩, g6⟩ := h5
  simp [Cond.before, Cond.holds, Cond.value, h1, h2, h3, h4, g1, g2, g3, g4, g5, g6]
def isCode : Jvm.Cond → Bool
  | .code _ _ _ _ => true
  | _ => false
theorem all_split {L : List Jvm.Cond} {P : Jvm.Cond → Bool} (h1 : L.all (fun c => isCode c || P c) = true) (h2 : ∀ c ∈ L.filter isCode, P c = true) : L.all P = true := by
  refine List.all_eq_true.mpr fun c hc => ?_
  have h := List.all_eq_true.mp h1 c hc
  rcases Bool.eq_false_or_eq_true (isCode c) with hi | hi
  · exact h2 c (List.mem_filter.mpr ⟨hc, hi⟩)
  · simpa [hi] using h
set_option maxRecDepth 65536 in
theorem w_c0 : (Jvm.Cond.code x code maxLocals ret).before args0 about1 = true := code_word (m := ⟨1, 2⟩) (meth := k1m2) (c := k1c2) (by decide +kernel) rfl rfl rfl (by decide +kernel)
set_option maxRecDepth 65536 in
theorem w_c1 : (Jvm.Cond.code ({ cls := "com/example/fanworm/fanworm/engine/IntervalContainsPinLaw", name := "toD", desc := "(JZ)D" } : Jvm.MethodName) method_2_code (5 : Nat) (Option.some Jvm.ClassFile.FieldType.double)).before args0 about1 = true := code_word (m := ⟨1, 1⟩) (meth := k1m1) (c := k1c1) (by decide +kernel) rfl rfl rfl (by decide +kernel)
set_option maxRecDepth 65536 in
theorem w_c2 : (Jvm.Cond.code ({ cls := "com/example/fanworm/fanworm/engine/Interval", name := "<init>", desc := "(DZDZ)V" } : Jvm.MethodName) prog_16_method_1_code (7 : Nat) (Option.none : Option Jvm.ClassFile.FieldType)).before args0 about1 = true := code_word (m := ⟨3, 0⟩) (meth := k3m0) (c := k3c0) (by decide +kernel) rfl rfl rfl (by decide +kernel)
set_option maxRecDepth 65536 in
theorem w_c3 : (Jvm.Cond.code ({ cls := "java/lang/Record", name := "<init>", desc := "()V" } : Jvm.MethodName) jdk_30_method_1_code (1 : Nat) (Option.none : Option Jvm.ClassFile.FieldType)).before args0 about1 = true := code_word (m := ⟨2, 0⟩) (meth := k2m0) (c := k2c0) (by decide +kernel) rfl rfl rfl (by decide +kernel)
set_option maxRecDepth 65536 in
theorem w_c4 : (Jvm.Cond.code ({ cls := "java/lang/Object", name := "<init>", desc := "()V" } : Jvm.MethodName) object_method_1_code (1 : Nat) (Option.none : Option Jvm.ClassFile.FieldType)).before args0 about1 = true := code_word (m := ⟨0, 0⟩) (meth := k0m0) (c := k0c0) (by decide +kernel) rfl rfl rfl (by decide +kernel)
set_option maxRecDepth 65536 in
theorem w_c5 : (Jvm.Cond.code ({ cls := "java/lang/Double", name := "isNaN", desc := "(D)Z" } : Jvm.MethodName) jdk_117_method_6_code (2 : Nat) (Option.some Jvm.ClassFile.FieldType.boolean)).before args0 about1 = true := code_word (m := ⟨9, 0⟩) (meth := k9m0) (c := k9c0) (by decide +kernel) rfl rfl rfl (by decide +kernel)
set_option maxRecDepth 65536 in
theorem w_c6 : (Jvm.Cond.code ({ cls := "com/example/fanworm/fanworm/engine/Interval", name := "contains", desc := "(D)Z" } : Jvm.MethodName) prog_16_method_8_code (5 : Nat) (Option.some Jvm.ClassFile.FieldType.boolean)).before args0 about1 = true := code_word (m := ⟨3, 1⟩) (meth := k3m1) (c := k3c1) (by decide +kernel) rfl rfl rfl (by decide +kernel)
def codes1 : List Jvm.Cond := [Jvm.Cond.code x code maxLocals ret, Jvm.Cond.code ({ cls := "com/example/fanworm/fanworm/engine/IntervalContainsPinLaw", name := "toD", desc := "(JZ)D" } : Jvm.MethodName) method_2_code (5 : Nat) (Option.some Jvm.ClassFile.FieldType.double), Jvm.Cond.code ({ cls := "com/example/fanworm/fanworm/engine/Interval", name := "<init>", desc := "(DZDZ)V" } : Jvm.MethodName) prog_16_method_1_code (7 : Nat) (Option.none : Option Jvm.ClassFile.FieldType), Jvm.Cond.code ({ cls := "java/lang/Record", name := "<init>", desc := "()V" } : Jvm.MethodName) jdk_30_method_1_code (1 : Nat) (Option.none : Option Jvm.ClassFile.FieldType), Jvm.Cond.code ({ cls := "java/lang/Object", name := "<init>", desc := "()V" } : Jvm.MethodName) object_method_1_code (1 : Nat) (Option.none : Option Jvm.ClassFile.FieldType), Jvm.Cond.code ({ cls := "java/lang/Double", name := "isNaN", desc := "(D)Z" } : Jvm.MethodName) jdk_117_method_6_code (2 : Nat) (Option.some Jvm.ClassFile.FieldType.boolean), Jvm.Cond.code ({ cls := "com/example/fanworm/fanworm/engine/Interval", name := "contains", desc := "(D)Z" } : Jvm.MethodName) prog_16_method_8_code (5 : Nat) (Option.some Jvm.ClassFile.FieldType.boolean)]
set_option maxRecDepth 65536 in
theorem codes_eq : words1.filter isCode = codes1 := rfl
theorem w_codes : ∀ c ∈ words1.filter isCode, c.before args0 about1 = true := by
  rw [codes_eq]
  intro c hc
  simp only [codes1, List.mem_cons, List.not_mem_nil, or_false] at hc
  rcases hc with rfl | rfl | rfl | rfl | rfl | rfl | rfl
  · exact w_c0
  · exact w_c1
  · exact w_c2
  · exact w_c3
  · exact w_c4
  · exact w_c5
  · exact w_c6
set_option maxRecDepth 65536 in
theorem w_t1 : (words1.take 24).all (fun c => isCode c || c.before args0 about1) = true := by decide +kernel
set_option maxRecDepth 65536 in
theorem w_t2 : (words1.drop 24).all (fun c => isCode c || c.before args0 about1) = true := by decide +kernel
theorem w_tables : (allAtoms (Jvm.Cond.code x code maxLocals ret :: tables_1)).before args0 about1 = true := by
  rw [allAtoms_all]
  show words1.all (fun c => c.before args0 about1) = true
  refine all_split ?_ w_codes
  rw [← List.take_append_drop 24 words1, List.all_append, w_t1, w_t2]
  rfl
set_option maxRecDepth 65536 in
theorem w_case : (Jvm.Cond.and given_1 narrow_1).before args0 about1 = true := by decide +kernel
theorem w_applies : (headSpec (Jvm.Cond.code x code maxLocals ret :: tables_1) room_1).applies x e0.platform about1 = true :=
  (Spec.applies_iff w_frames).mpr ⟨w_running, w_runnable, w_alone, w_named, w_hears, w_ripe, w_room, w_tables⟩
theorem atStart : AtStart classFile x code maxLocals ret World_1 tables_1 room_1 Calls_1 rest_1 Pre_1 launch0 p0 e0 about1 theMethod args0 below0 :=
  ⟨lists_1, trivial, launch0.admits_env _ _ _, launch0.least_env, fairChoices_fair.cas, fairChoices_fair.clock, w_frames, w_args, w_heap, w_applies, trivial, trivial, w_case⟩
end start1
theorem witness_1 : WitnessClaimed_1 := ⟨start1.p0, start1.e0, start1.about1, start1.theMethod, start1.args0, start1.below0, start1.atStart⟩
end Jvm.Pilot.@@N@@
