import JvmDerived
import JvmDerived.Pilot.@@N@@Statement
import JvmDerived.Pilot.@@N@@Code
set_option linter.unusedVariables false
set_option linter.unusedSimpArgs false
@@BLOCK:NumsL.lean.txt@@
namespace Jvm.Pilot.@@N@@
section OwnA
open Jvm Jvm.FP Jvm.Free.Fl Jvm.RoadKit Jvm.ClassFile
def own_bit (f k : Int32) : Int32 := if f &&& k = (0 : Int32) then (0 : Int32) else (1 : Int32)
def own_if (w : Int32) (x y : Int64) : Int64 := if w = (0 : Int32) then x else y
def own_upd (k t x : Int64) : Int64 := if k = (0 : Int64) then t else t + x
def own_nan : UInt64 := 9221120237041090560
def own_mean (t k : Int64) : UInt64 := if k = (0 : Int64) then own_nan else FP.ddiv (FP.l2d t) (FP.l2d k)
def own_bd (n : Int) (x : Int64) : Prop := -n ≤ x.toInt ∧ x.toInt ≤ n
theorem own_bd_mono {n n' : Int} {x : Int64} (h : own_bd n x) (q : n ≤ n') : own_bd n' x := by unfold own_bd at *; omega
theorem own_bd_add {n n' : Int} {x y : Int64} (h : own_bd n x) (h' : own_bd n' y) (q : n + n' ≤ 2 ^ 50) : own_bd (n + n') (x + y) := by
  unfold own_bd at *
  rw [Jvm.Kit.i64_add (by omega) (by omega)]; omega
theorem own_bd_if {n : Int} {w : Int32} {x y : Int64} (h : own_bd n x) (h' : own_bd n y) : own_bd n (own_if w x y) := by unfold own_if; split <;> assumption
theorem own_bd_upd {n n' : Int} {k t x : Int64} (h : own_bd n t) (h' : own_bd n' x) (h0 : 0 ≤ n') (q : n + n' ≤ 2 ^ 50) : own_bd (n + n') (own_upd k t x) := by
  unfold own_upd; split
  · exact own_bd_mono h (by omega)
  · exact own_bd_add h h' q
theorem own_bd_i (x : Int32) : own_bd (2 ^ 31) x.toInt64 := by
  have h := x.toInt_lt; have h' := x.le_toInt
  unfold own_bd; rw [Int32.toInt_toInt64]; omega
theorem own_bd_0 : own_bd 0 0 := ⟨by decide, by decide⟩
theorem own_bd_1 : own_bd 1 1 := ⟨by decide, by decide⟩
theorem own_b53 {n : Int} {x : Int64} (h : own_bd n x) (q : n ≤ 2 ^ 50) : B53 x := by unfold own_bd at h; unfold B53; omega
theorem own_addw {t : Int64} (x : Int32) (ht : B53 t) : FP.dadd (FP.l2d t) (FP.i2d x) = FP.l2d (t + x.toInt64) := by
  rw [i2d_w]; exact dadd_w ht (own_b53 (own_bd_i x) (by decide))
theorem own_ninf {K : Nat} {x : UInt64} (h : Mag64 K x) (hK : K ≤ 2047) : NoNaN64 x := (h.fin hK).noNaN
theorem own_mu {t k : Int64} (hk : ¬ k = 0) : Mag64 1089 (FP.ddiv (FP.l2d t) (FP.l2d k)) := by
  have a : Mag64 (1088 + 1021 - 1023 + 3) (FP.ddiv (FP.l2d t) (FP.l2d k)) := RoadKit.ddiv_mag (l2d_mag t) (RoadKit.l2d_big hk) (by decide) (by decide)
  exact a.mono (by decide)
/-- what one turn of Tally.add does with the mean of means and the squares -/
def own_d (t k : Int64) (m : UInt64) : UInt64 := FP.dsub (FP.ddiv (FP.l2d t) (FP.l2d k)) m
def own_m (t k u : Int64) (m : UInt64) : UInt64 := FP.dadd m (FP.ddiv (own_d t k m) (FP.l2d (u + (1 : Int64))))
def own_e (t k u : Int64) (m : UInt64) : UInt64 := FP.dsub (FP.ddiv (FP.l2d t) (FP.l2d k)) (own_m t k u m)
def own_q (t k u : Int64) (m q : UInt64) : UInt64 := FP.dadd q (FP.dmul (own_d t k m) (own_e t k u m))
theorem own_turn {t k u : Int64} {m q : UInt64} {K Kq : Nat} (hk : ¬ k = 0) (hu : ¬ (u + (1 : Int64)) = 0) (hm : Mag64 K m) (hq : Mag64 Kq q) (h1 : 1089 ≤ K) (h2 : K ≤ 1200) (h3 : 1400 ≤ Kq) (h4 : Kq ≤ 2000) :
    NoNaN64 (own_d t k m) ∧ NoNaN64 (FP.ddiv (own_d t k m) (FP.l2d (u + (1 : Int64)))) ∧ NoNaN64 (own_m t k u m) ∧ NoNaN64 (own_e t k u m) ∧ NoNaN64 (FP.dmul (own_d t k m) (own_e t k u m)) ∧ NoNaN64 (own_q t k u m q) ∧
      Mag64 (K + 5) (own_m t k u m) ∧ Mag64 (Kq + 2) (own_q t k u m q) := by
  have a1 : Mag64 (K + 2) (own_d t k m) := dsub_mag ((own_mu hk).mono h1) hm (by omega)
  have a2 : Mag64 (K + 2 + 1021 - 1023 + 3) (FP.ddiv (own_d t k m) (FP.l2d (u + (1 : Int64)))) := RoadKit.ddiv_mag a1 (RoadKit.l2d_big hu) (by omega) (by decide)
  have a2' : Mag64 (K + 3) (FP.ddiv (own_d t k m) (FP.l2d (u + (1 : Int64)))) := a2.mono (by omega)
  have a3 : Mag64 (K + 3 + 2) (own_m t k u m) := dadd_mag (hm.mono (by omega)) a2' (by omega)
  have a4 : Mag64 (K + 5 + 2) (own_e t k u m) := dsub_mag ((own_mu hk).mono (by omega)) (a3.mono (by omega)) (by omega)
  have a5 : Mag64 (K + 2 + (K + 5 + 2) - 1025 + 3) (FP.dmul (own_d t k m) (own_e t k u m)) := dmul_mag a1 a4 (by omega) (by omega)
  have a6 : Mag64 (Kq + 2) (own_q t k u m q) := dadd_mag hq (a5.mono (by omega)) (by omega)
  exact ⟨own_ninf a1 (by omega), own_ninf a2' (by omega), own_ninf a3 (by omega), own_ninf a4 (by omega), own_ninf a5 (by omega), own_ninf a6 (by omega), a3.mono (by omega), a6⟩
theorem own_u1 {n : Int} {u : Int64} (h0 : 0 ≤ u.toInt) (h : own_bd n u) (hn : n ≤ 2 ^ 40) : ¬ (u + (1 : Int64)) = 0 ∧ 0 ≤ (u + (1 : Int64)).toInt := by
  have e1 : (1 : Int64).toInt = 1 := by decide
  have e : (u + (1 : Int64)).toInt = u.toInt + 1 := by
    unfold own_bd at h
    rw [Jvm.Kit.i64_add (by omega) (by omega), e1]
  refine ⟨fun q => ?_, by omega⟩
  rw [q] at e
  have : (0 : Int64).toInt = 0 := rfl
  omega
theorem own_mean_nn {t k : Int64} (hk : ¬ k = 0) : NoNaN64 (FP.ddiv (FP.l2d t) (FP.l2d k)) := own_ninf (own_mu hk) (by decide)
/-- a row of the law's: one or two doubles -/
def own_row (Z : State) (h : Heap) (b : Addr) (w x0 x1 : Int32) : Prop :=
  (w = 0 ∧ ∃ k, Arv Z h b k .double (1 : Int32) [(.double (FP.i2d x0))] (.double (FP.l2d 0))) ∨ (¬ w = 0 ∧ ∃ k, Arv Z h b k .double (2 : Int32) [(.double (FP.i2d x0)), (.double (FP.i2d x1))] (.double (FP.l2d 0)))
theorem own_row.ext {Z : State} {h h' : Heap} {b : Addr} {w x0 x1 : Int32} (F : own_row Z h b w x0 x1) (E : Ext h h') : own_row Z h' b w x0 x1 := by
  rcases F with ⟨a, k, F⟩ | ⟨a, k, F⟩
  · exact Or.inl ⟨a, k, F.ext E⟩
  · exact Or.inr ⟨a, k, F.ext E⟩
theorem own_row.other {Z : State} {h h' : Heap} {b a : Addr} {w x0 x1 : Int32} {sl : Nat} {v : Value} (F : own_row Z h b w x0 x1) (W : Wr h h' a sl v) (q : b ≠ a) : own_row Z h' b w x0 x1 := by
  rcases F with ⟨a, k, F⟩ | ⟨a, k, F⟩
  · exact Or.inl ⟨a, k, F.other W q⟩
  · exact Or.inr ⟨a, k, F.other W q⟩
theorem own_row.keep {Z : State} {h h' : Heap} {b : Addr} {ws : List Addr} {w x0 x1 : Int32} (F : own_row Z h b w x0 x1) (K : Keep h h' ws) (q : b ∉ ws) : own_row Z h' b w x0 x1 := by
  rcases F with ⟨a, k, F⟩ | ⟨a, k, F⟩
  · exact Or.inl ⟨a, k, F.keep K q⟩
  · exact Or.inr ⟨a, k, F.keep K q⟩
theorem own_row.lt {Z : State} {h : Heap} {b : Addr} {w x0 x1 : Int32} (F : own_row Z h b w x0 x1) : b < h.size := by
  rcases F with ⟨a, k, F⟩ | ⟨a, k, F⟩
  · exact F.lt
  · exact F.lt
theorem own_if0 {w : Int32} {x y : Int64} (h : w = 0) : own_if w x y = x := if_pos h
theorem own_if1 {w : Int32} {x y : Int64} (h : ¬ w = 0) : own_if w x y = y := if_neg h
theorem own_upd0 {k t x : Int64} (h : k = 0) : own_upd k t x = t := if_pos h
theorem own_upd1 {k t x : Int64} (h : ¬ k = 0) : own_upd k t x = t + x := if_neg h
end OwnA
end Jvm.Pilot.@@N@@
namespace Jvm.Pilot.@@N@@
open Jvm Jvm.ClassFile Sem Op Lib Jvm.Free Jvm.Stand Jvm.LawKit Jvm.RoadKit Bundle Jvm.Pilot.@@N@@.Jvm.D
open Jvm.FP Jvm.Free.Fl
theorem own_lc0 (x : Int64) : lcmpW x (0 : Int64) = (0 : Int32) ↔ x = (0 : Int64) := by rw [lcW]; exact lc_eq _ _
theorem own_final (two second w1 w2 w3 : Int32) (A B C D : Int64) {a0 a1 c0 c1 t10 t11 c10 c11 t20 t21 c20 c21 g0 g1 n0 n1 : Int64} (ea0 : a0 = 0 + A) (ea1 : a1 = own_if w1 0 (0 + D)) (ec0 : c0 = 0 + 1) (ec1 : c1 = own_if w1 0 (0 + 1))
    (et10 : t10 = own_if two a0 (a0 + B)) (et11 : t11 = own_if two a1 (own_if w2 a1 (a1 + A))) (ec10 : c10 = own_if two c0 (c0 + 1)) (ec11 : c11 = own_if two c1 (own_if w2 c1 (c1 + 1)))
    (et20 : t20 = own_if second 0 (0 + C)) (et21 : t21 = own_if second 0 (own_if w3 0 (0 + B))) (ec20 : c20 = own_if second 0 (0 + 1)) (ec21 : c21 = own_if second 0 (own_if w3 0 (0 + 1)))
    (eg0 : g0 = own_upd c10 0 t10) (eg1 : g1 = own_upd c11 0 t11) (en0 : n0 = own_upd c10 0 c10) (en1 : n1 = own_upd c11 0 c11) :
    own_upd c20 g0 t20 = own_if second (own_if two A (A + B)) (own_if two A (A + B) + C) ∧ own_upd c20 n0 c20 = own_if second (own_if two 1 (1 + 1)) (own_if two 1 (1 + 1) + 1) ∧
      own_upd c21 g1 t21 = own_if second (own_if two (own_if w1 0 (0 + D)) (own_if w2 (own_if w1 0 (0 + D)) (own_if w1 0 (0 + D) + A))) (own_if w3 (own_if two (own_if w1 0 (0 + D)) (own_if w2 (own_if w1 0 (0 + D)) (own_if w1 0 (0 + D) + A))) (own_if two (own_if w1 0 (0 + D)) (own_if w2 (own_if w1 0 (0 + D)) (own_if w1 0 (0 + D) + A)) + B)) ∧
      own_upd c21 n1 c21 = own_if second (own_if two (own_if w1 0 (0 + 1)) (own_if w2 (own_if w1 0 (0 + 1)) (own_if w1 0 (0 + 1) + 1))) (own_if w3 (own_if two (own_if w1 0 (0 + 1)) (own_if w2 (own_if w1 0 (0 + 1)) (own_if w1 0 (0 + 1) + 1))) (own_if two (own_if w1 0 (0 + 1)) (own_if w2 (own_if w1 0 (0 + 1)) (own_if w1 0 (0 + 1) + 1)) + 1)) := by
  subst eg0 eg1 en0 en1 et10 et11 ec10 ec11 et20 et21 ec20 ec21 ea0 ea1 ec0 ec1
  by_cases h1 : two = 0 <;> by_cases h2 : second = 0 <;> by_cases h3 : w1 = 0 <;> by_cases h4 : w2 = 0 <;> by_cases h5 : w3 = 0 <;> simp [own_if, own_upd, h1, h2, h3, h4, h5, Int64.zero_add, Int64.add_zero]
theorem own_cnt (two second : Int32) : ¬ own_if second (own_if two 1 (1 + 1)) (own_if two 1 (1 + 1) + 1) = (0 : Int64) := by
  by_cases h1 : two = 0 <;> by_cases h2 : second = 0 <;> simp [own_if, h1, h2]
theorem own_at {Z : State} {h : Heap} {a : Addr} {k : ClassId} {ty : FieldType} {z : Int32} {vs : List Value} {dv : Value} (F : Arv Z h a k ty z vs dv) (j : Int32) (i : Nat) (hj : j.toNatClampNeg = i) (hn : ¬ j < 0) (hi : j < z) :
    ∃ cl : Cell, Arr Z h a cl ty ∧ ¬ (j < 0 ∨ cl.slots.size ≤ j.toNatClampNeg) ∧ cl.slots[j.toNatClampNeg]? = some (vs.getD i dv) := by
  obtain ⟨cl, A, -, S, N, H, -⟩ := F
  have hin := inb_of (j := j) S ⟨hn, hi⟩
  refine ⟨cl, A, hin, ?_⟩
  subst hj
  exact H _ (Nat.lt_of_not_le fun q => hin (Or.inr q))
section GetR
variable {p : Program} {l : Launch} {e : Env} {R : Room} {s : State} {m : MethodId} {args : Array Value} {below : List Frame} {meth : Method} {c : Code} {T : State} {locs : List Loc} {cells slots : Nat} {Z : State} {h : Heap}
/-- getfield where the pool's entry has been resolved ahead (fieldRef) -/
theorem getR (X : Stand p l e R s m args below meth c T locs cells slots) (hx : p.tables.exec = Jvm.exec) (hZ : Z.Warmed39 s.vm) {a0 : Array Value} {own O n d : String} {index : Nat} (hown : s.vm.findClass own = some m.cls) (w : (Cond.fieldRef own index O n d).before a0 Z = true)
    (eT : T.heap = h) {a : Addr} {v : Value} (F : Fld Z h a O n d v) {g : JFrame} (hg : g.method = m) {rest : List Value} (hs : g.stack = .ref a :: rest) (hd : decode c.code g.pc = .ok (.getfield index, 3)) {target : State}
    (hr : Steps p.tables e below (T.setTop { g with pc := g.pc + 3, stack := v :: rest }) target) : Steps p.tables e below (T.setTop g) target := by
  obtain ⟨cell, cf, k, i, f, h1, h2, h3, h4, -, -, h7⟩ := F
  have hU : Z.Warmed39 T.vm := wtrans hZ X.warmed
  obtain ⟨k', hi, -⟩ := State.fieldFound?_setVm (s := Z) hU.alike h2
  have hown' : (Z.setVm T.vm).vm.findClass own = some m.cls := by
    show T.vm.findClass own = some m.cls
    rw [X.warmed.alike.findClass]; exact hown
  obtain ⟨c1, k1, i1, f1, hf1, hready⟩ := Cond.fieldRef_spec hown' (Cond.fieldRef_warmed39 hU w)
  cases hi.symm.trans hf1
  have hc : T.heap[a]? = some cell := by rw [eT]; exact h1
  obtain ⟨gm, gp, gl, gs, gk, ge, gr⟩ := g
  simp only at hs hd hg
  subst hs hg
  jvm_step X.here [X.here.top, hx, hd, getfield.at_ready X.here.top hready h3 hc h4 h7]
  exact hr
end GetR
theorem d_jdk_117_method_6_code_0 : decode jdk_117_method_6_code 0 = .ok (.dload_n 0, 1) := by decide +kernel
theorem d_jdk_117_method_6_code_1 : decode jdk_117_method_6_code 1 = .ok (.dload_n 0, 1) := by decide +kernel
theorem d_jdk_117_method_6_code_2 : decode jdk_117_method_6_code 2 = .ok (.dcmp .l, 1) := by decide +kernel
theorem d_jdk_117_method_6_code_3 : decode jdk_117_method_6_code 3 = .ok (.ifCond .eq 7, 3) := by decide +kernel
theorem d_jdk_117_method_6_code_10 : decode jdk_117_method_6_code 10 = .ok (.iconst 0, 1) := by decide +kernel
theorem d_jdk_117_method_6_code_11 : decode jdk_117_method_6_code 11 = .ok (.ireturn, 1) := by decide +kernel
theorem d_prog_38_method_1_code_0 : decode prog_38_method_1_code 0 = .ok (.aload_n 0, 1) := by decide +kernel
theorem d_prog_38_method_1_code_1 : decode prog_38_method_1_code 1 = .ok (.invokespecial 1, 3) := by decide +kernel
theorem d_prog_38_method_1_code_4 : decode prog_38_method_1_code 4 = .ok (.aload_n 0, 1) := by decide +kernel
theorem d_prog_38_method_1_code_5 : decode prog_38_method_1_code 5 = .ok (.iload_n 1, 1) := by decide +kernel
theorem d_prog_38_method_1_code_6 : decode prog_38_method_1_code 6 = .ok (.newarray .double, 2) := by decide +kernel
theorem d_prog_38_method_1_code_8 : decode prog_38_method_1_code 8 = .ok (.putfield 7, 3) := by decide +kernel
theorem d_prog_38_method_1_code_11 : decode prog_38_method_1_code 11 = .ok (.aload_n 0, 1) := by decide +kernel
theorem d_prog_38_method_1_code_12 : decode prog_38_method_1_code 12 = .ok (.iload_n 1, 1) := by decide +kernel
theorem d_prog_38_method_1_code_13 : decode prog_38_method_1_code 13 = .ok (.newarray .long, 2) := by decide +kernel
theorem d_prog_38_method_1_code_15 : decode prog_38_method_1_code 15 = .ok (.putfield 13, 3) := by decide +kernel
theorem d_prog_38_method_1_code_18 : decode prog_38_method_1_code 18 = .ok (.return_, 1) := by decide +kernel
theorem d_prog_37_method_1_code_0 : decode prog_37_method_1_code 0 = .ok (.aload_n 0, 1) := by decide +kernel
theorem d_prog_37_method_1_code_1 : decode prog_37_method_1_code 1 = .ok (.invokespecial 1, 3) := by decide +kernel
theorem d_prog_37_method_1_code_4 : decode prog_37_method_1_code 4 = .ok (.aload_n 0, 1) := by decide +kernel
theorem d_prog_37_method_1_code_5 : decode prog_37_method_1_code 5 = .ok (.iload_n 1, 1) := by decide +kernel
theorem d_prog_37_method_1_code_6 : decode prog_37_method_1_code 6 = .ok (.newarray .double, 2) := by decide +kernel
theorem d_prog_37_method_1_code_8 : decode prog_37_method_1_code 8 = .ok (.putfield 7, 3) := by decide +kernel
theorem d_prog_37_method_1_code_11 : decode prog_37_method_1_code 11 = .ok (.aload_n 0, 1) := by decide +kernel
theorem d_prog_37_method_1_code_12 : decode prog_37_method_1_code 12 = .ok (.iload_n 1, 1) := by decide +kernel
theorem d_prog_37_method_1_code_13 : decode prog_37_method_1_code 13 = .ok (.newarray .long, 2) := by decide +kernel
theorem d_prog_37_method_1_code_15 : decode prog_37_method_1_code 15 = .ok (.putfield 13, 3) := by decide +kernel
theorem d_prog_37_method_1_code_18 : decode prog_37_method_1_code 18 = .ok (.aload_n 0, 1) := by decide +kernel
theorem d_prog_37_method_1_code_19 : decode prog_37_method_1_code 19 = .ok (.iload_n 1, 1) := by decide +kernel
theorem d_prog_37_method_1_code_20 : decode prog_37_method_1_code 20 = .ok (.newarray .long, 2) := by decide +kernel
theorem d_prog_37_method_1_code_22 : decode prog_37_method_1_code 22 = .ok (.putfield 17, 3) := by decide +kernel
theorem d_prog_37_method_1_code_25 : decode prog_37_method_1_code 25 = .ok (.aload_n 0, 1) := by decide +kernel
theorem d_prog_37_method_1_code_26 : decode prog_37_method_1_code 26 = .ok (.iload_n 1, 1) := by decide +kernel
theorem d_prog_37_method_1_code_27 : decode prog_37_method_1_code 27 = .ok (.newarray .double, 2) := by decide +kernel
theorem d_prog_37_method_1_code_29 : decode prog_37_method_1_code 29 = .ok (.putfield 20, 3) := by decide +kernel
theorem d_prog_37_method_1_code_32 : decode prog_37_method_1_code 32 = .ok (.aload_n 0, 1) := by decide +kernel
theorem d_prog_37_method_1_code_33 : decode prog_37_method_1_code 33 = .ok (.iload_n 1, 1) := by decide +kernel
theorem d_prog_37_method_1_code_34 : decode prog_37_method_1_code 34 = .ok (.newarray .double, 2) := by decide +kernel
theorem d_prog_37_method_1_code_36 : decode prog_37_method_1_code 36 = .ok (.putfield 23, 3) := by decide +kernel
theorem d_prog_37_method_1_code_39 : decode prog_37_method_1_code 39 = .ok (.return_, 1) := by decide +kernel
theorem d_prog_38_method_2_code_0 : decode prog_38_method_2_code 0 = .ok (.iconst 0, 1) := by decide +kernel
theorem d_prog_38_method_2_code_1 : decode prog_38_method_2_code 1 = .ok (.istore_n 2, 1) := by decide +kernel
theorem d_prog_38_method_2_code_2 : decode prog_38_method_2_code 2 = .ok (.iload_n 2, 1) := by decide +kernel
theorem d_prog_38_method_2_code_3 : decode prog_38_method_2_code 3 = .ok (.aload_n 1, 1) := by decide +kernel
theorem d_prog_38_method_2_code_4 : decode prog_38_method_2_code 4 = .ok (.arraylength, 1) := by decide +kernel
theorem d_prog_38_method_2_code_5 : decode prog_38_method_2_code 5 = .ok (.if_icmp .ge 40, 3) := by decide +kernel
theorem d_prog_38_method_2_code_8 : decode prog_38_method_2_code 8 = .ok (.aload_n 1, 1) := by decide +kernel
theorem d_prog_38_method_2_code_9 : decode prog_38_method_2_code 9 = .ok (.iload_n 2, 1) := by decide +kernel
theorem d_prog_38_method_2_code_10 : decode prog_38_method_2_code 10 = .ok (.daload, 1) := by decide +kernel
theorem d_prog_38_method_2_code_11 : decode prog_38_method_2_code 11 = .ok (.invokestatic 17, 3) := by decide +kernel
theorem d_prog_38_method_2_code_14 : decode prog_38_method_2_code 14 = .ok (.ifCond .ne 25, 3) := by decide +kernel
theorem d_prog_38_method_2_code_17 : decode prog_38_method_2_code 17 = .ok (.aload_n 0, 1) := by decide +kernel
theorem d_prog_38_method_2_code_18 : decode prog_38_method_2_code 18 = .ok (.getfield 7, 3) := by decide +kernel
theorem d_prog_38_method_2_code_21 : decode prog_38_method_2_code 21 = .ok (.iload_n 2, 1) := by decide +kernel
theorem d_prog_38_method_2_code_22 : decode prog_38_method_2_code 22 = .ok (.dup2, 1) := by decide +kernel
theorem d_prog_38_method_2_code_23 : decode prog_38_method_2_code 23 = .ok (.daload, 1) := by decide +kernel
theorem d_prog_38_method_2_code_24 : decode prog_38_method_2_code 24 = .ok (.aload_n 1, 1) := by decide +kernel
theorem d_prog_38_method_2_code_25 : decode prog_38_method_2_code 25 = .ok (.iload_n 2, 1) := by decide +kernel
theorem d_prog_38_method_2_code_26 : decode prog_38_method_2_code 26 = .ok (.daload, 1) := by decide +kernel
theorem d_prog_38_method_2_code_27 : decode prog_38_method_2_code 27 = .ok (.dadd, 1) := by decide +kernel
theorem d_prog_38_method_2_code_28 : decode prog_38_method_2_code 28 = .ok (.dastore, 1) := by decide +kernel
theorem d_prog_38_method_2_code_29 : decode prog_38_method_2_code 29 = .ok (.aload_n 0, 1) := by decide +kernel
theorem d_prog_38_method_2_code_30 : decode prog_38_method_2_code 30 = .ok (.getfield 13, 3) := by decide +kernel
theorem d_prog_38_method_2_code_33 : decode prog_38_method_2_code 33 = .ok (.iload_n 2, 1) := by decide +kernel
theorem d_prog_38_method_2_code_34 : decode prog_38_method_2_code 34 = .ok (.dup2, 1) := by decide +kernel
theorem d_prog_38_method_2_code_35 : decode prog_38_method_2_code 35 = .ok (.laload, 1) := by decide +kernel
theorem d_prog_38_method_2_code_36 : decode prog_38_method_2_code 36 = .ok (.lconst 1, 1) := by decide +kernel
theorem d_prog_38_method_2_code_37 : decode prog_38_method_2_code 37 = .ok (.ladd, 1) := by decide +kernel
theorem d_prog_38_method_2_code_38 : decode prog_38_method_2_code 38 = .ok (.lastore, 1) := by decide +kernel
theorem d_prog_38_method_2_code_39 : decode prog_38_method_2_code 39 = .ok (.iinc 2 1, 3) := by decide +kernel
theorem d_prog_38_method_2_code_42 : decode prog_38_method_2_code 42 = .ok (.goto (-40), 3) := by decide +kernel
theorem d_prog_38_method_2_code_45 : decode prog_38_method_2_code 45 = .ok (.return_, 1) := by decide +kernel
theorem d_prog_37_method_2_code_0 : decode prog_37_method_2_code 0 = .ok (.iconst 0, 1) := by decide +kernel
theorem d_prog_37_method_2_code_1 : decode prog_37_method_2_code 1 = .ok (.istore_n 2, 1) := by decide +kernel
theorem d_prog_37_method_2_code_2 : decode prog_37_method_2_code 2 = .ok (.iload_n 2, 1) := by decide +kernel
theorem d_prog_37_method_2_code_3 : decode prog_37_method_2_code 3 = .ok (.aload_n 0, 1) := by decide +kernel
theorem d_prog_37_method_2_code_4 : decode prog_37_method_2_code 4 = .ok (.getfield 7, 3) := by decide +kernel
theorem d_prog_37_method_2_code_7 : decode prog_37_method_2_code 7 = .ok (.arraylength, 1) := by decide +kernel
theorem d_prog_37_method_2_code_8 : decode prog_37_method_2_code 8 = .ok (.if_icmp .ge 127, 3) := by decide +kernel
theorem d_prog_37_method_2_code_11 : decode prog_37_method_2_code 11 = .ok (.aload_n 1, 1) := by decide +kernel
theorem d_prog_37_method_2_code_12 : decode prog_37_method_2_code 12 = .ok (.getfield 26, 3) := by decide +kernel
theorem d_prog_37_method_2_code_15 : decode prog_37_method_2_code 15 = .ok (.iload_n 2, 1) := by decide +kernel
theorem d_prog_37_method_2_code_16 : decode prog_37_method_2_code 16 = .ok (.laload, 1) := by decide +kernel
theorem d_prog_37_method_2_code_17 : decode prog_37_method_2_code 17 = .ok (.lconst 0, 1) := by decide +kernel
theorem d_prog_37_method_2_code_18 : decode prog_37_method_2_code 18 = .ok (.lcmp, 1) := by decide +kernel
theorem d_prog_37_method_2_code_19 : decode prog_37_method_2_code 19 = .ok (.ifCond .ne 6, 3) := by decide +kernel
theorem d_prog_37_method_2_code_22 : decode prog_37_method_2_code 22 = .ok (.goto 107, 3) := by decide +kernel
theorem d_prog_37_method_2_code_25 : decode prog_37_method_2_code 25 = .ok (.aload_n 1, 1) := by decide +kernel
theorem d_prog_37_method_2_code_26 : decode prog_37_method_2_code 26 = .ok (.getfield 29, 3) := by decide +kernel
theorem d_prog_37_method_2_code_29 : decode prog_37_method_2_code 29 = .ok (.iload_n 2, 1) := by decide +kernel
theorem d_prog_37_method_2_code_30 : decode prog_37_method_2_code 30 = .ok (.daload, 1) := by decide +kernel
theorem d_prog_37_method_2_code_31 : decode prog_37_method_2_code 31 = .ok (.aload_n 1, 1) := by decide +kernel
theorem d_prog_37_method_2_code_32 : decode prog_37_method_2_code 32 = .ok (.getfield 26, 3) := by decide +kernel
theorem d_prog_37_method_2_code_35 : decode prog_37_method_2_code 35 = .ok (.iload_n 2, 1) := by decide +kernel
theorem d_prog_37_method_2_code_36 : decode prog_37_method_2_code 36 = .ok (.laload, 1) := by decide +kernel
theorem d_prog_37_method_2_code_37 : decode prog_37_method_2_code 37 = .ok (.l2d, 1) := by decide +kernel
theorem d_prog_37_method_2_code_38 : decode prog_37_method_2_code 38 = .ok (.ddiv, 1) := by decide +kernel
theorem d_prog_37_method_2_code_39 : decode prog_37_method_2_code 39 = .ok (.dstore_n 3, 1) := by decide +kernel
theorem d_prog_37_method_2_code_40 : decode prog_37_method_2_code 40 = .ok (.aload_n 0, 1) := by decide +kernel
theorem d_prog_37_method_2_code_41 : decode prog_37_method_2_code 41 = .ok (.getfield 17, 3) := by decide +kernel
theorem d_prog_37_method_2_code_44 : decode prog_37_method_2_code 44 = .ok (.iload_n 2, 1) := by decide +kernel
theorem d_prog_37_method_2_code_45 : decode prog_37_method_2_code 45 = .ok (.dup2, 1) := by decide +kernel
theorem d_prog_37_method_2_code_46 : decode prog_37_method_2_code 46 = .ok (.laload, 1) := by decide +kernel
theorem d_prog_37_method_2_code_47 : decode prog_37_method_2_code 47 = .ok (.lconst 1, 1) := by decide +kernel
theorem d_prog_37_method_2_code_48 : decode prog_37_method_2_code 48 = .ok (.ladd, 1) := by decide +kernel
theorem d_prog_37_method_2_code_49 : decode prog_37_method_2_code 49 = .ok (.lastore, 1) := by decide +kernel
theorem d_prog_37_method_2_code_50 : decode prog_37_method_2_code 50 = .ok (.dload_n 3, 1) := by decide +kernel
theorem d_prog_37_method_2_code_51 : decode prog_37_method_2_code 51 = .ok (.aload_n 0, 1) := by decide +kernel
theorem d_prog_37_method_2_code_52 : decode prog_37_method_2_code 52 = .ok (.getfield 20, 3) := by decide +kernel
theorem d_prog_37_method_2_code_55 : decode prog_37_method_2_code 55 = .ok (.iload_n 2, 1) := by decide +kernel
theorem d_prog_37_method_2_code_56 : decode prog_37_method_2_code 56 = .ok (.daload, 1) := by decide +kernel
theorem d_prog_37_method_2_code_57 : decode prog_37_method_2_code 57 = .ok (.dsub, 1) := by decide +kernel
theorem d_prog_37_method_2_code_58 : decode prog_37_method_2_code 58 = .ok (.dstore 5, 2) := by decide +kernel
theorem d_prog_37_method_2_code_60 : decode prog_37_method_2_code 60 = .ok (.aload_n 0, 1) := by decide +kernel
theorem d_prog_37_method_2_code_61 : decode prog_37_method_2_code 61 = .ok (.getfield 20, 3) := by decide +kernel
theorem d_prog_37_method_2_code_64 : decode prog_37_method_2_code 64 = .ok (.iload_n 2, 1) := by decide +kernel
theorem d_prog_37_method_2_code_65 : decode prog_37_method_2_code 65 = .ok (.dup2, 1) := by decide +kernel
theorem d_prog_37_method_2_code_66 : decode prog_37_method_2_code 66 = .ok (.daload, 1) := by decide +kernel
theorem d_prog_37_method_2_code_67 : decode prog_37_method_2_code 67 = .ok (.dload 5, 2) := by decide +kernel
theorem d_prog_37_method_2_code_69 : decode prog_37_method_2_code 69 = .ok (.aload_n 0, 1) := by decide +kernel
theorem d_prog_37_method_2_code_70 : decode prog_37_method_2_code 70 = .ok (.getfield 17, 3) := by decide +kernel
theorem d_prog_37_method_2_code_73 : decode prog_37_method_2_code 73 = .ok (.iload_n 2, 1) := by decide +kernel
theorem d_prog_37_method_2_code_74 : decode prog_37_method_2_code 74 = .ok (.laload, 1) := by decide +kernel
theorem d_prog_37_method_2_code_75 : decode prog_37_method_2_code 75 = .ok (.l2d, 1) := by decide +kernel
theorem d_prog_37_method_2_code_76 : decode prog_37_method_2_code 76 = .ok (.ddiv, 1) := by decide +kernel
theorem d_prog_37_method_2_code_77 : decode prog_37_method_2_code 77 = .ok (.dadd, 1) := by decide +kernel
theorem d_prog_37_method_2_code_78 : decode prog_37_method_2_code 78 = .ok (.dastore, 1) := by decide +kernel
theorem d_prog_37_method_2_code_79 : decode prog_37_method_2_code 79 = .ok (.aload_n 0, 1) := by decide +kernel
theorem d_prog_37_method_2_code_80 : decode prog_37_method_2_code 80 = .ok (.getfield 23, 3) := by decide +kernel
theorem d_prog_37_method_2_code_83 : decode prog_37_method_2_code 83 = .ok (.iload_n 2, 1) := by decide +kernel
theorem d_prog_37_method_2_code_84 : decode prog_37_method_2_code 84 = .ok (.dup2, 1) := by decide +kernel
theorem d_prog_37_method_2_code_85 : decode prog_37_method_2_code 85 = .ok (.daload, 1) := by decide +kernel
theorem d_prog_37_method_2_code_86 : decode prog_37_method_2_code 86 = .ok (.dload 5, 2) := by decide +kernel
theorem d_prog_37_method_2_code_88 : decode prog_37_method_2_code 88 = .ok (.dload_n 3, 1) := by decide +kernel
theorem d_prog_37_method_2_code_89 : decode prog_37_method_2_code 89 = .ok (.aload_n 0, 1) := by decide +kernel
theorem d_prog_37_method_2_code_90 : decode prog_37_method_2_code 90 = .ok (.getfield 20, 3) := by decide +kernel
theorem d_prog_37_method_2_code_93 : decode prog_37_method_2_code 93 = .ok (.iload_n 2, 1) := by decide +kernel
theorem d_prog_37_method_2_code_94 : decode prog_37_method_2_code 94 = .ok (.daload, 1) := by decide +kernel
theorem d_prog_37_method_2_code_95 : decode prog_37_method_2_code 95 = .ok (.dsub, 1) := by decide +kernel
theorem d_prog_37_method_2_code_96 : decode prog_37_method_2_code 96 = .ok (.dmul, 1) := by decide +kernel
theorem d_prog_37_method_2_code_97 : decode prog_37_method_2_code 97 = .ok (.dadd, 1) := by decide +kernel
theorem d_prog_37_method_2_code_98 : decode prog_37_method_2_code 98 = .ok (.dastore, 1) := by decide +kernel
theorem d_prog_37_method_2_code_99 : decode prog_37_method_2_code 99 = .ok (.aload_n 0, 1) := by decide +kernel
theorem d_prog_37_method_2_code_100 : decode prog_37_method_2_code 100 = .ok (.getfield 7, 3) := by decide +kernel
theorem d_prog_37_method_2_code_103 : decode prog_37_method_2_code 103 = .ok (.iload_n 2, 1) := by decide +kernel
theorem d_prog_37_method_2_code_104 : decode prog_37_method_2_code 104 = .ok (.dup2, 1) := by decide +kernel
theorem d_prog_37_method_2_code_105 : decode prog_37_method_2_code 105 = .ok (.daload, 1) := by decide +kernel
theorem d_prog_37_method_2_code_106 : decode prog_37_method_2_code 106 = .ok (.aload_n 1, 1) := by decide +kernel
theorem d_prog_37_method_2_code_107 : decode prog_37_method_2_code 107 = .ok (.getfield 29, 3) := by decide +kernel
theorem d_prog_37_method_2_code_110 : decode prog_37_method_2_code 110 = .ok (.iload_n 2, 1) := by decide +kernel
theorem d_prog_37_method_2_code_111 : decode prog_37_method_2_code 111 = .ok (.daload, 1) := by decide +kernel
theorem d_prog_37_method_2_code_112 : decode prog_37_method_2_code 112 = .ok (.dadd, 1) := by decide +kernel
theorem d_prog_37_method_2_code_113 : decode prog_37_method_2_code 113 = .ok (.dastore, 1) := by decide +kernel
theorem d_prog_37_method_2_code_114 : decode prog_37_method_2_code 114 = .ok (.aload_n 0, 1) := by decide +kernel
theorem d_prog_37_method_2_code_115 : decode prog_37_method_2_code 115 = .ok (.getfield 13, 3) := by decide +kernel
theorem d_prog_37_method_2_code_118 : decode prog_37_method_2_code 118 = .ok (.iload_n 2, 1) := by decide +kernel
theorem d_prog_37_method_2_code_119 : decode prog_37_method_2_code 119 = .ok (.dup2, 1) := by decide +kernel
theorem d_prog_37_method_2_code_120 : decode prog_37_method_2_code 120 = .ok (.laload, 1) := by decide +kernel
theorem d_prog_37_method_2_code_121 : decode prog_37_method_2_code 121 = .ok (.aload_n 1, 1) := by decide +kernel
theorem d_prog_37_method_2_code_122 : decode prog_37_method_2_code 122 = .ok (.getfield 26, 3) := by decide +kernel
theorem d_prog_37_method_2_code_125 : decode prog_37_method_2_code 125 = .ok (.iload_n 2, 1) := by decide +kernel
theorem d_prog_37_method_2_code_126 : decode prog_37_method_2_code 126 = .ok (.laload, 1) := by decide +kernel
theorem d_prog_37_method_2_code_127 : decode prog_37_method_2_code 127 = .ok (.ladd, 1) := by decide +kernel
theorem d_prog_37_method_2_code_128 : decode prog_37_method_2_code 128 = .ok (.lastore, 1) := by decide +kernel
theorem d_prog_37_method_2_code_129 : decode prog_37_method_2_code 129 = .ok (.iinc 2 1, 3) := by decide +kernel
theorem d_prog_37_method_2_code_132 : decode prog_37_method_2_code 132 = .ok (.goto (-130), 3) := by decide +kernel
theorem d_prog_37_method_2_code_135 : decode prog_37_method_2_code 135 = .ok (.return_, 1) := by decide +kernel
theorem d_prog_37_method_3_code_0 : decode prog_37_method_3_code 0 = .ok (.aload_n 0, 1) := by decide +kernel
theorem d_prog_37_method_3_code_1 : decode prog_37_method_3_code 1 = .ok (.getfield 13, 3) := by decide +kernel
theorem d_prog_37_method_3_code_4 : decode prog_37_method_3_code 4 = .ok (.iload_n 1, 1) := by decide +kernel
theorem d_prog_37_method_3_code_5 : decode prog_37_method_3_code 5 = .ok (.laload, 1) := by decide +kernel
theorem d_prog_37_method_3_code_6 : decode prog_37_method_3_code 6 = .ok (.lconst 0, 1) := by decide +kernel
theorem d_prog_37_method_3_code_7 : decode prog_37_method_3_code 7 = .ok (.lcmp, 1) := by decide +kernel
theorem d_prog_37_method_3_code_8 : decode prog_37_method_3_code 8 = .ok (.ifCond .ne 9, 3) := by decide +kernel
theorem d_prog_37_method_3_code_11 : decode prog_37_method_3_code 11 = .ok (.ldc2_w 32, 3) := by decide +kernel
theorem d_prog_37_method_3_code_14 : decode prog_37_method_3_code 14 = .ok (.goto 17, 3) := by decide +kernel
theorem d_prog_37_method_3_code_17 : decode prog_37_method_3_code 17 = .ok (.aload_n 0, 1) := by decide +kernel
theorem d_prog_37_method_3_code_18 : decode prog_37_method_3_code 18 = .ok (.getfield 7, 3) := by decide +kernel
theorem d_prog_37_method_3_code_21 : decode prog_37_method_3_code 21 = .ok (.iload_n 1, 1) := by decide +kernel
theorem d_prog_37_method_3_code_22 : decode prog_37_method_3_code 22 = .ok (.daload, 1) := by decide +kernel
theorem d_prog_37_method_3_code_23 : decode prog_37_method_3_code 23 = .ok (.aload_n 0, 1) := by decide +kernel
theorem d_prog_37_method_3_code_24 : decode prog_37_method_3_code 24 = .ok (.getfield 13, 3) := by decide +kernel
theorem d_prog_37_method_3_code_27 : decode prog_37_method_3_code 27 = .ok (.iload_n 1, 1) := by decide +kernel
theorem d_prog_37_method_3_code_28 : decode prog_37_method_3_code 28 = .ok (.laload, 1) := by decide +kernel
theorem d_prog_37_method_3_code_29 : decode prog_37_method_3_code 29 = .ok (.l2d, 1) := by decide +kernel
theorem d_prog_37_method_3_code_30 : decode prog_37_method_3_code 30 = .ok (.ddiv, 1) := by decide +kernel
theorem d_prog_37_method_3_code_31 : decode prog_37_method_3_code 31 = .ok (.dreturn, 1) := by decide +kernel
theorem pd_0 : parseMethodDescriptor "(D)Z" = some ⟨[.double], some .boolean⟩ := by decide +kernel
theorem pd_1 : parseMethodDescriptor "(I)V" = some ⟨[.int], none⟩ := by decide +kernel
theorem pd_2 : parseMethodDescriptor "([D)V" = some ⟨[(.array .double)], none⟩ := by decide +kernel
theorem pd_3 : parseMethodDescriptor "(Lcom/example/outcry/outcry/core/Tally$RunSums;)V" = some ⟨[(.object "com/example/outcry/outcry/core/Tally$RunSums")], none⟩ := by decide +kernel
theorem pd_4 : parseMethodDescriptor "(I)D" = some ⟨[.int], some .double⟩ := by decide +kernel
theorem ef_9 (m : MethodId) (x0 : UInt64) : entryFrame m #[(.double x0)] 2 = mkF m 0 #[.val (.double x0), .second] [] := by first | (simp [entryFrame, mkF, argsToLocals, Value.category]; done) | rfl
theorem pn_9 : plainName "java/lang/Double" = true := by first | (simp [plainName, overriddenIn]; done) | decide +kernel
def Q9 (Z : State) (r1 : UInt64) (h0 : Heap) (n0 : Nat) (v : Option Value) (h : Heap) (L : List Loc) : Prop := v = some (.int 0) ∧ Fr n0 L ∧ h = h0
set_option maxRecDepth 65536 in
set_option maxHeartbeats 40000000 in
theorem rm9 (l : Launch) (Z : State) (a0 : Array Value) (hw : ∀ d ∈ tables_1, d.before a0 Z = true) (ws : List Jvm.Cond) (r1 : UInt64) (h0 : Heap) (n0 : Nat) (Z0 : n0 ≤ h0.size) (hn : NoNaN64 r1) :
    MetFree l (⟨"java/lang/Double", "isNaN", "(D)Z"⟩ : MethodName) (head1 (Jvm.Cond.code (⟨"java/lang/Double", "isNaN", "(D)Z"⟩ : MethodName) jdk_117_method_6_code 2 (some .boolean) :: ws) ({ frames := 0, cells := 0, slots := 0, locals := 0 } : Room)) (fun a U => a = #[(.double r1)] ∧ Z.Warmed39 U.vm ∧ U.heap = h0) (fun _ _ _ _ _ => True) (fun _ U o U' => ∃ v L, o = .returned v ∧ Q9 Z r1 h0 n0 v U'.heap L ∧ FrameEnd U o U' L ({ frames := 0, cells := 0, slots := 0, locals := 0 } : Room).cells ({ frames := 0, cells := 0, slots := 0, locals := 0 } : Room).slots) := by
  refine MetFree.of_bodySF (plainFor_of_name pn_9) hisR ?_
  intro p e s m args below meth c s₁ Bd hml0 hP hK
  obtain ⟨rfl, hZ, hh⟩ := hP
  have hx := Bd.exec
  have hby := Bd.bytes
  have hml : c.maxLocals = 2 := hml0
  have hown : s.vm.findClass "java/lang/Double" = some m.cls := findClass_of_methodNamed Bd.named
  have hnm := (name_of_methodNamed Bd.named Bd.method).1
  have X0 : Stand p l e ({ frames := 0, cells := 0, slots := 0, locals := 0 } : Room) s m #[(.double r1)] below meth c s₁ [] 0 0 := Stand.of_body Bd
  have e0 : s₁.heap = h0 := by rw [← hh, Bd.state]; rfl
  have N0 := Fr.nil n0
  have pre0 : ∀ t, Steps p.tables e below (s₁.setTop (mkF m 0 #[.val (.double r1), .second] [])) t → Steps p.tables e below (s₁.setTop (entryFrame m #[(.double r1)] 2)) t := fun t k => castTop (ef_9 m r1) k
  obtain ⟨fs, hr, hrun, hended, hW, hsame⟩ := X0.leave (v := some (.int (0 : Int32))) (fun h => by rw [Bd.returns] at h; cases h)
  refine ⟨_, _, pre0 _ ?_, hrun, hended, _, _, rfl, ?_, ⟨_, rfl⟩, hW, hsame.mono (by decide) (by decide)⟩
  · show Steps p.tables e below (s₁.setTop (mkF m 0 #[.val (.double r1), .second] [])) _
    refine XS.dloadN X0.here hx rfl (hb hby d_jdk_117_method_6_code_0) rfl ?_
    show Steps p.tables e below (s₁.setTop (mkF m 1 #[.val (.double r1), .second] [(.double r1)])) _
    refine XS.dloadN X0.here hx rfl (hb hby d_jdk_117_method_6_code_1) rfl ?_
    show Steps p.tables e below (s₁.setTop (mkF m 2 #[.val (.double r1), .second] [(.double r1), (.double r1)])) _
    refine XS.dcmpS X0.here hx rfl (v := (0 : Int32)) (hb hby d_jdk_117_method_6_code_2) rfl (dcmpV_self hn .l) ?_
    show Steps p.tables e below (s₁.setTop (mkF m 3 #[.val (.double r1), .second] [(.int (0 : Int32))])) _
    refine XS.ifYes X0.here hx rfl (pc0 := 3) (pc' := 10) rfl (hb hby d_jdk_117_method_6_code_3) rfl (by decide) (by decide) (by decide) ?_
    show Steps p.tables e below (s₁.setTop (mkF m 10 #[.val (.double r1), .second] [])) _
    refine XS.iconst X0.here hx rfl (hb hby d_jdk_117_method_6_code_10) ?_
    show Steps p.tables e below (s₁.setTop (mkF m 11 #[.val (.double r1), .second] [(.int (0 : Int32))])) _
    exact retN X0 hx (t := .boolean) Bd.returns (by simp) (hb hby d_jdk_117_method_6_code_11) hr
  · show Q9 Z r1 h0 n0 _ s₁.heap _
    rw [e0]
    exact ⟨rfl, N0, rfl⟩
theorem ef_2 (m : MethodId) (x0 : Addr) (x1 : Int32) : entryFrame m #[(.ref x0), (.int x1)] 2 = mkF m 0 #[.val (.ref x0), .val (.int x1)] [] := by first | (simp [entryFrame, mkF, argsToLocals, Value.category]; done) | rfl
theorem pn_2 : plainName "com/example/outcry/outcry/core/Tally$RunSums" = true := by first | (simp [plainName, overriddenIn]; done) | decide +kernel
def Q2 (Z : State) (a1 : Nat) (h0 : Heap) (n0 : Nat) (v : Option Value) (h : Heap) (L : List Loc) : Prop := ∃ (tb cb : Nat) (ktb kcb : ClassId), v = none ∧ Fr n0 L ∧ Keep h0 h [a1] ∧ Exa Z h a1 "com/example/outcry/outcry/core/Tally$RunSums" ∧ Fld Z h a1 "com/example/outcry/outcry/core/Tally$RunSums" "total" "[D" (.ref tb) ∧ Fld Z h a1 "com/example/outcry/outcry/core/Tally$RunSums" "count" "[J" (.ref cb) ∧ Arv Z h tb ktb .double (2 : Int32) [(.double (FP.l2d 0)), (.double (FP.l2d 0))] (.double (FP.l2d 0)) ∧ Arv Z h cb kcb .long (2 : Int32) [(.long (0 : Int64)), (.long (0 : Int64))] (.long (0 : Int64)) ∧ h0.size ≤ tb ∧ tb < cb
set_option maxRecDepth 65536 in
set_option maxHeartbeats 40000000 in
theorem rm2 (l : Launch) (Z : State) (a0 : Array Value) (hw : ∀ d ∈ tables_1, d.before a0 Z = true) (ws : List Jvm.Cond) (a1 : Nat) (h0 : Heap) (n0 : Nat) (Z0 : n0 ≤ h0.size) (F_total : Fld Z h0 a1 "com/example/outcry/outcry/core/Tally$RunSums" "total" "[D" .null) (F_count : Fld Z h0 a1 "com/example/outcry/outcry/core/Tally$RunSums" "count" "[J" .null) (E_a : Exa Z h0 a1 "com/example/outcry/outcry/core/Tally$RunSums") (g_a : n0 ≤ a1) :
    MetFree l (⟨"com/example/outcry/outcry/core/Tally$RunSums", "<init>", "(I)V"⟩ : MethodName) (head1 (Jvm.Cond.code (⟨"com/example/outcry/outcry/core/Tally$RunSums", "<init>", "(I)V"⟩ : MethodName) prog_38_method_1_code 2 none :: ws) ({ frames := 1, cells := 2, slots := 4, locals := 12 } : Room)) (fun a U => a = #[(.ref a1), (.int (2 : Int32))] ∧ Z.Warmed39 U.vm ∧ U.heap = h0) (fun _ _ _ _ _ => True) (fun _ U o U' => ∃ v L, o = .returned v ∧ Q2 Z a1 h0 n0 v U'.heap L ∧ FrameEnd U o U' L ({ frames := 1, cells := 2, slots := 4, locals := 12 } : Room).cells ({ frames := 1, cells := 2, slots := 4, locals := 12 } : Room).slots) := by
  refine MetFree.of_bodySF (plainFor_of_name pn_2) hisR ?_
  intro p e s m args below meth c s₁ Bd hml0 hP hK
  obtain ⟨rfl, hZ, hh⟩ := hP
  have hx := Bd.exec
  have hby := Bd.bytes
  have hml : c.maxLocals = 2 := hml0
  have hown : s.vm.findClass "com/example/outcry/outcry/core/Tally$RunSums" = some m.cls := findClass_of_methodNamed Bd.named
  have hnm := (name_of_methodNamed Bd.named Bd.method).1
  have X0 : Stand p l e ({ frames := 1, cells := 2, slots := 4, locals := 12 } : Room) s m #[(.ref a1), (.int (2 : Int32))] below meth c s₁ [] 0 0 := Stand.of_body Bd
  have e0 : s₁.heap = h0 := by rw [← hh, Bd.state]; rfl
  have N0 := Fr.nil n0
  have pre0 : ∀ t, Steps p.tables e below (s₁.setTop (mkF m 0 #[.val (.ref a1), .val (.int (2 : Int32))] [])) t → Steps p.tables e below (s₁.setTop (entryFrame m #[(.ref a1), (.int (2 : Int32))] 2)) t := fun t k => castTop (ef_2 m a1 (2 : Int32)) k
  obtain ⟨T1, X1, e1, st1⟩ := initO X0 hx hZ hown (hw _ (List.mem_of_getElem? (i := 27) rfl)) (hw _ (List.mem_of_getElem? (i := 8) rfl)) (hw _ (List.mem_of_getElem? (i := 9) rfl)) e0 (g := (mkF m 1 #[.val (.ref a1), .val (.int (2 : Int32))] [(.ref a1)])) rfl (by rw [hml]; rfl) rfl (hb hby d_prog_38_method_1_code_1) (by decide) (W := 0) (by show 2 * 0 + _ ≤ _; exact Nat.le_of_eq rfl) (by decide)
  obtain ⟨T2, h2, k2, X2, e2, E2, A2, st2⟩ := newP X1 hx hZ (hw _ (List.mem_of_getElem? (i := 0) rfl)) e1 (g := (mkF m 6 #[.val (.ref a1), .val (.int (2 : Int32))] [(.int (2 : Int32)), (.ref a1)])) rfl (hb hby d_prog_38_method_1_code_6) rfl (by decide) (cap := 2) (by decide) (by decide) (by decide) (by decide)
  obtain ⟨tb, g2⟩ : ∃ z, z = h0.size := ⟨_, rfl⟩
  rw [← g2] at A2 st2
  have lt_a1_tb : (a1 : Nat) < tb := by rw [g2]; exact E_a.lt
  have sz_h0_tb : h0.size ≤ (tb : Nat) := by rw [g2]; exact (Keep.refl h0 [a1]).1
  have f3 : Arv Z h2 tb k2 .double (2 : Int32) [(.double (FP.l2d 0)), (.double (FP.l2d 0))] (.double (FP.l2d 0)) := (Arv.newD A2 (by decide)).pad (pad_rep [] (.double (FP.l2d 0)) 2)
  have f4 := (F_total.ext E2)
  have f5 := (E_a.ext E2)
  obtain ⟨T6, h6, X6, e6, W6, st6⟩ := putF X2 hx hZ hown (host := "") (Or.inl (hw _ (List.mem_of_getElem? (i := 28) rfl))) Via.refl e2 f4 f5 (Or.inr ⟨(hw _ (List.mem_of_getElem? (i := 29) rfl)), rfl, hnm⟩) (hw _ (List.mem_of_getElem? (i := 22) rfl)) (ty := (.array .double)) (by decide) rfl rfl (g := (mkF m 8 #[.val (.ref a1), .val (.int (2 : Int32))] [(.ref tb), (.ref a1)])) rfl rfl (hb hby d_prog_38_method_1_code_8)
  have N6 := Fr.snoc X6 N0 g_a
  have f7 := f4.same W6
  have f8 := (f5.wr W6)
  have f9 := (f3.other W6 (by omega : (tb : Nat) ≠ a1))
  have f10 := (((Keep.refl h0 [a1]).ext E2).wr W6 (Or.inl (List.mem_of_getElem? (i := 0) rfl)))
  obtain ⟨T11, h11, k11, X11, e11, E11, A11, st11⟩ := newP X6 hx hZ (hw _ (List.mem_of_getElem? (i := 12) rfl)) e6 (g := (mkF m 13 #[.val (.ref a1), .val (.int (2 : Int32))] [(.int (2 : Int32)), (.ref a1)])) rfl (hb hby d_prog_38_method_1_code_13) rfl (by decide) (cap := 2) (by decide) (by decide) (by decide) (by decide)
  obtain ⟨cb, g11⟩ : ∃ z, z = h6.size := ⟨_, rfl⟩
  rw [← g11] at A11 st11
  have lt_a1_cb : (a1 : Nat) < cb := by rw [g11]; exact f8.lt
  have lt_tb_cb : (tb : Nat) < cb := by rw [g11]; exact f9.lt
  have sz_h0_cb : h0.size ≤ (cb : Nat) := by rw [g11]; exact f10.1
  have f12 : Arv Z h11 cb k11 .long (2 : Int32) [(.long (0 : Int64)), (.long (0 : Int64))] (.long (0 : Int64)) := (Arv.new A11 (by decide)).pad (pad_rep [] (.long (0 : Int64)) 2)
  have f13 := (((F_count.ext E2).other W6 (Or.inr (slot_ne (Or.inr (hw _ (List.mem_of_getElem? (i := 31) rfl))) (Or.inr (hw _ (List.mem_of_getElem? (i := 29) rfl))) (by decide) (t := (.array .long)) (t' := (.array .double)) (by decide) (by decide)))).ext E11)
  have f14 := (f8.ext E11)
  obtain ⟨T15, h15, X15, e15, W15, st15⟩ := putF X11 hx hZ hown (host := "") (Or.inl (hw _ (List.mem_of_getElem? (i := 30) rfl))) Via.refl e11 f13 f14 (Or.inr ⟨(hw _ (List.mem_of_getElem? (i := 31) rfl)), rfl, hnm⟩) (hw _ (List.mem_of_getElem? (i := 22) rfl)) (ty := (.array .long)) (by decide) rfl rfl (g := (mkF m 15 #[.val (.ref a1), .val (.int (2 : Int32))] [(.ref cb), (.ref a1)])) rfl rfl (hb hby d_prog_38_method_1_code_15)
  have N15 := Fr.snoc X15 N6 g_a
  have f16 := f13.same W15
  have f17 := ((f10.ext E11).wr W15 (Or.inl (List.mem_of_getElem? (i := 0) rfl)))
  have f18 := (f14.wr W15)
  have f19 := ((f7.ext E11).other W15 (Or.inr (slot_ne (Or.inr (hw _ (List.mem_of_getElem? (i := 29) rfl))) (Or.inr (hw _ (List.mem_of_getElem? (i := 31) rfl))) (by decide) (t := (.array .double)) (t' := (.array .long)) (by decide) (by decide))))
  have f20 := ((f9.ext E11).other W15 (by omega : (tb : Nat) ≠ a1))
  have f21 := (f12.other W15 (by omega : (cb : Nat) ≠ a1))
  obtain ⟨fs, hr, hrun, hended, hW, hsame⟩ := X15.leave (v := none) (fun _ => rfl)
  refine ⟨_, _, pre0 _ ?_, hrun, hended, _, _, rfl, ?_, ⟨_, rfl⟩, hW, hsame.mono (by decide) (by decide)⟩
  · show Steps p.tables e below (s₁.setTop (mkF m 0 #[.val (.ref a1), .val (.int (2 : Int32))] [])) _
    refine XS.aloadN X0.here hx rfl (hb hby d_prog_38_method_1_code_0) rfl rfl ?_
    show Steps p.tables e below (s₁.setTop (mkF m 1 #[.val (.ref a1), .val (.int (2 : Int32))] [(.ref a1)])) _
    refine st1 _ ?_
    show Steps p.tables e below (T1.setTop (mkF m 4 #[.val (.ref a1), .val (.int (2 : Int32))] [])) _
    refine XS.aloadN X1.here hx rfl (hb hby d_prog_38_method_1_code_4) rfl rfl ?_
    show Steps p.tables e below (T1.setTop (mkF m 5 #[.val (.ref a1), .val (.int (2 : Int32))] [(.ref a1)])) _
    refine XS.iloadN X1.here hx rfl (hb hby d_prog_38_method_1_code_5) rfl ?_
    show Steps p.tables e below (T1.setTop (mkF m 6 #[.val (.ref a1), .val (.int (2 : Int32))] [(.int (2 : Int32)), (.ref a1)])) _
    refine st2 _ ?_
    show Steps p.tables e below (T2.setTop (mkF m 8 #[.val (.ref a1), .val (.int (2 : Int32))] [(.ref tb), (.ref a1)])) _
    refine st6 _ ?_
    show Steps p.tables e below (T6.setTop (mkF m 11 #[.val (.ref a1), .val (.int (2 : Int32))] [])) _
    refine XS.aloadN X6.here hx rfl (hb hby d_prog_38_method_1_code_11) rfl rfl ?_
    show Steps p.tables e below (T6.setTop (mkF m 12 #[.val (.ref a1), .val (.int (2 : Int32))] [(.ref a1)])) _
    refine XS.iloadN X6.here hx rfl (hb hby d_prog_38_method_1_code_12) rfl ?_
    show Steps p.tables e below (T6.setTop (mkF m 13 #[.val (.ref a1), .val (.int (2 : Int32))] [(.int (2 : Int32)), (.ref a1)])) _
    refine st11 _ ?_
    show Steps p.tables e below (T11.setTop (mkF m 15 #[.val (.ref a1), .val (.int (2 : Int32))] [(.ref cb), (.ref a1)])) _
    refine st15 _ ?_
    show Steps p.tables e below (T15.setTop (mkF m 18 #[.val (.ref a1), .val (.int (2 : Int32))] [])) _
    exact X15.returnOut hx Bd.returns (hb hby d_prog_38_method_1_code_18) hr
  · show Q2 Z a1 h0 n0 _ T15.heap _
    rw [e15]
    exact ⟨tb, cb, k2, k11, rfl, N15, f17, f18, f19, f16, f20, f21, sz_h0_tb, lt_tb_cb⟩
theorem ef_1 (m : MethodId) (x0 : Addr) (x1 : Int32) : entryFrame m #[(.ref x0), (.int x1)] 2 = mkF m 0 #[.val (.ref x0), .val (.int x1)] [] := by first | (simp [entryFrame, mkF, argsToLocals, Value.category]; done) | rfl
theorem pn_1 : plainName "com/example/outcry/outcry/core/Tally" = true := by first | (simp [plainName, overriddenIn]; done) | decide +kernel
def Q1 (Z : State) (a1 : Nat) (h0 : Heap) (n0 : Nat) (v : Option Value) (h : Heap) (L : List Loc) : Prop := ∃ (tb cb rb mb qb : Nat) (ktb kcb krb kmb kqb : ClassId), v = none ∧ Fr n0 L ∧ Keep h0 h [a1] ∧ Exa Z h a1 "com/example/outcry/outcry/core/Tally" ∧ Fld Z h a1 "com/example/outcry/outcry/core/Tally" "total" "[D" (.ref tb) ∧ Fld Z h a1 "com/example/outcry/outcry/core/Tally" "count" "[J" (.ref cb) ∧ Fld Z h a1 "com/example/outcry/outcry/core/Tally" "runsObserved" "[J" (.ref rb) ∧ Fld Z h a1 "com/example/outcry/outcry/core/Tally" "meanOfRunMeans" "[D" (.ref mb) ∧ Fld Z h a1 "com/example/outcry/outcry/core/Tally" "squaredDeviations" "[D" (.ref qb) ∧ Arv Z h tb ktb .double (2 : Int32) [(.double (FP.l2d 0)), (.double (FP.l2d 0))] (.double (FP.l2d 0)) ∧ Arv Z h cb kcb .long (2 : Int32) [(.long (0 : Int64)), (.long (0 : Int64))] (.long (0 : Int64)) ∧ Arv Z h rb krb .long (2 : Int32) [(.long (0 : Int64)), (.long (0 : Int64))] (.long (0 : Int64)) ∧ Arv Z h mb kmb .double (2 : Int32) [(.double (FP.l2d 0)), (.double (FP.l2d 0))] (.double (FP.l2d 0)) ∧ Arv Z h qb kqb .double (2 : Int32) [(.double (FP.l2d 0)), (.double (FP.l2d 0))] (.double (FP.l2d 0)) ∧ h0.size ≤ tb ∧ tb < cb ∧ cb < rb ∧ rb < mb ∧ mb < qb
set_option maxRecDepth 65536 in
set_option maxHeartbeats 40000000 in
theorem rm1 (l : Launch) (Z : State) (a0 : Array Value) (hw : ∀ d ∈ tables_1, d.before a0 Z = true) (ws : List Jvm.Cond) (a1 : Nat) (h0 : Heap) (n0 : Nat) (Z0 : n0 ≤ h0.size) (F_total : Fld Z h0 a1 "com/example/outcry/outcry/core/Tally" "total" "[D" .null) (F_count : Fld Z h0 a1 "com/example/outcry/outcry/core/Tally" "count" "[J" .null) (F_runsObserved : Fld Z h0 a1 "com/example/outcry/outcry/core/Tally" "runsObserved" "[J" .null) (F_meanOfRunMeans : Fld Z h0 a1 "com/example/outcry/outcry/core/Tally" "meanOfRunMeans" "[D" .null) (F_squaredDeviations : Fld Z h0 a1 "com/example/outcry/outcry/core/Tally" "squaredDeviations" "[D" .null) (E_a : Exa Z h0 a1 "com/example/outcry/outcry/core/Tally") (g_a : n0 ≤ a1) :
    MetFree l (⟨"com/example/outcry/outcry/core/Tally", "<init>", "(I)V"⟩ : MethodName) (head1 (Jvm.Cond.code (⟨"com/example/outcry/outcry/core/Tally", "<init>", "(I)V"⟩ : MethodName) prog_37_method_1_code 2 none :: ws) ({ frames := 1, cells := 5, slots := 10, locals := 12 } : Room)) (fun a U => a = #[(.ref a1), (.int (2 : Int32))] ∧ Z.Warmed39 U.vm ∧ U.heap = h0) (fun _ _ _ _ _ => True) (fun _ U o U' => ∃ v L, o = .returned v ∧ Q1 Z a1 h0 n0 v U'.heap L ∧ FrameEnd U o U' L ({ frames := 1, cells := 5, slots := 10, locals := 12 } : Room).cells ({ frames := 1, cells := 5, slots := 10, locals := 12 } : Room).slots) := by
  refine MetFree.of_bodySF (plainFor_of_name pn_1) hisR ?_
  intro p e s m args below meth c s₁ Bd hml0 hP hK
  obtain ⟨rfl, hZ, hh⟩ := hP
  have hx := Bd.exec
  have hby := Bd.bytes
  have hml : c.maxLocals = 2 := hml0
  have hown : s.vm.findClass "com/example/outcry/outcry/core/Tally" = some m.cls := findClass_of_methodNamed Bd.named
  have hnm := (name_of_methodNamed Bd.named Bd.method).1
  have X0 : Stand p l e ({ frames := 1, cells := 5, slots := 10, locals := 12 } : Room) s m #[(.ref a1), (.int (2 : Int32))] below meth c s₁ [] 0 0 := Stand.of_body Bd
  have e0 : s₁.heap = h0 := by rw [← hh, Bd.state]; rfl
  have N0 := Fr.nil n0
  have pre0 : ∀ t, Steps p.tables e below (s₁.setTop (mkF m 0 #[.val (.ref a1), .val (.int (2 : Int32))] [])) t → Steps p.tables e below (s₁.setTop (entryFrame m #[(.ref a1), (.int (2 : Int32))] 2)) t := fun t k => castTop (ef_1 m a1 (2 : Int32)) k
  obtain ⟨T22, X22, e22, st22⟩ := initO X0 hx hZ hown (hw _ (List.mem_of_getElem? (i := 7) rfl)) (hw _ (List.mem_of_getElem? (i := 8) rfl)) (hw _ (List.mem_of_getElem? (i := 9) rfl)) e0 (g := (mkF m 1 #[.val (.ref a1), .val (.int (2 : Int32))] [(.ref a1)])) rfl (by rw [hml]; rfl) rfl (hb hby d_prog_37_method_1_code_1) (by decide) (W := 0) (by show 2 * 0 + _ ≤ _; exact Nat.le_of_eq rfl) (by decide)
  obtain ⟨T23, h23, k23, X23, e23, E23, A23, st23⟩ := newP X22 hx hZ (hw _ (List.mem_of_getElem? (i := 0) rfl)) e22 (g := (mkF m 6 #[.val (.ref a1), .val (.int (2 : Int32))] [(.int (2 : Int32)), (.ref a1)])) rfl (hb hby d_prog_37_method_1_code_6) rfl (by decide) (cap := 2) (by decide) (by decide) (by decide) (by decide)
  obtain ⟨tb, g23⟩ : ∃ z, z = h0.size := ⟨_, rfl⟩
  rw [← g23] at A23 st23
  have lt_a1_tb : (a1 : Nat) < tb := by rw [g23]; exact E_a.lt
  have sz_h0_tb : h0.size ≤ (tb : Nat) := by rw [g23]; exact (Keep.refl h0 [a1]).1
  have f24 : Arv Z h23 tb k23 .double (2 : Int32) [(.double (FP.l2d 0)), (.double (FP.l2d 0))] (.double (FP.l2d 0)) := (Arv.newD A23 (by decide)).pad (pad_rep [] (.double (FP.l2d 0)) 2)
  have f25 := (F_total.ext E23)
  have f26 := (E_a.ext E23)
  obtain ⟨T27, h27, X27, e27, W27, st27⟩ := putF X23 hx hZ hown (host := "") (Or.inl (hw _ (List.mem_of_getElem? (i := 10) rfl))) Via.refl e23 f25 f26 (Or.inr ⟨(hw _ (List.mem_of_getElem? (i := 11) rfl)), rfl, hnm⟩) (hw _ (List.mem_of_getElem? (i := 2) rfl)) (ty := (.array .double)) (by decide) rfl rfl (g := (mkF m 8 #[.val (.ref a1), .val (.int (2 : Int32))] [(.ref tb), (.ref a1)])) rfl rfl (hb hby d_prog_37_method_1_code_8)
  have N27 := Fr.snoc X27 N0 g_a
  have f28 := f25.same W27
  have f29 := (f26.wr W27)
  have f30 := (f24.other W27 (by omega : (tb : Nat) ≠ a1))
  have f31 := (((Keep.refl h0 [a1]).ext E23).wr W27 (Or.inl (List.mem_of_getElem? (i := 0) rfl)))
  obtain ⟨T32, h32, k32, X32, e32, E32, A32, st32⟩ := newP X27 hx hZ (hw _ (List.mem_of_getElem? (i := 12) rfl)) e27 (g := (mkF m 13 #[.val (.ref a1), .val (.int (2 : Int32))] [(.int (2 : Int32)), (.ref a1)])) rfl (hb hby d_prog_37_method_1_code_13) rfl (by decide) (cap := 2) (by decide) (by decide) (by decide) (by decide)
  obtain ⟨cb, g32⟩ : ∃ z, z = h27.size := ⟨_, rfl⟩
  rw [← g32] at A32 st32
  have lt_a1_cb : (a1 : Nat) < cb := by rw [g32]; exact f29.lt
  have lt_tb_cb : (tb : Nat) < cb := by rw [g32]; exact f30.lt
  have sz_h0_cb : h0.size ≤ (cb : Nat) := by rw [g32]; exact f31.1
  have f33 : Arv Z h32 cb k32 .long (2 : Int32) [(.long (0 : Int64)), (.long (0 : Int64))] (.long (0 : Int64)) := (Arv.new A32 (by decide)).pad (pad_rep [] (.long (0 : Int64)) 2)
  have f34 := (((F_count.ext E23).other W27 (Or.inr (slot_ne (Or.inr (hw _ (List.mem_of_getElem? (i := 14) rfl))) (Or.inr (hw _ (List.mem_of_getElem? (i := 11) rfl))) (by decide) (t := (.array .long)) (t' := (.array .double)) (by decide) (by decide)))).ext E32)
  have f35 := (f29.ext E32)
  obtain ⟨T36, h36, X36, e36, W36, st36⟩ := putF X32 hx hZ hown (host := "") (Or.inl (hw _ (List.mem_of_getElem? (i := 13) rfl))) Via.refl e32 f34 f35 (Or.inr ⟨(hw _ (List.mem_of_getElem? (i := 14) rfl)), rfl, hnm⟩) (hw _ (List.mem_of_getElem? (i := 2) rfl)) (ty := (.array .long)) (by decide) rfl rfl (g := (mkF m 15 #[.val (.ref a1), .val (.int (2 : Int32))] [(.ref cb), (.ref a1)])) rfl rfl (hb hby d_prog_37_method_1_code_15)
  have N36 := Fr.snoc X36 N27 g_a
  have f37 := f34.same W36
  have f38 := (f35.wr W36)
  have f39 := (f33.other W36 (by omega : (cb : Nat) ≠ a1))
  have f40 := ((f30.ext E32).other W36 (by omega : (tb : Nat) ≠ a1))
  have f41 := ((f31.ext E32).wr W36 (Or.inl (List.mem_of_getElem? (i := 0) rfl)))
  obtain ⟨T42, h42, k42, X42, e42, E42, A42, st42⟩ := newP X36 hx hZ (hw _ (List.mem_of_getElem? (i := 12) rfl)) e36 (g := (mkF m 20 #[.val (.ref a1), .val (.int (2 : Int32))] [(.int (2 : Int32)), (.ref a1)])) rfl (hb hby d_prog_37_method_1_code_20) rfl (by decide) (cap := 2) (by decide) (by decide) (by decide) (by decide)
  obtain ⟨rb, g42⟩ : ∃ z, z = h36.size := ⟨_, rfl⟩
  rw [← g42] at A42 st42
  have lt_a1_rb : (a1 : Nat) < rb := by rw [g42]; exact f38.lt
  have lt_cb_rb : (cb : Nat) < rb := by rw [g42]; exact f39.lt
  have lt_tb_rb : (tb : Nat) < rb := by rw [g42]; exact f40.lt
  have sz_h0_rb : h0.size ≤ (rb : Nat) := by rw [g42]; exact f41.1
  have f43 : Arv Z h42 rb k42 .long (2 : Int32) [(.long (0 : Int64)), (.long (0 : Int64))] (.long (0 : Int64)) := (Arv.new A42 (by decide)).pad (pad_rep [] (.long (0 : Int64)) 2)
  have f44 := (((((F_runsObserved.ext E23).other W27 (Or.inr (slot_ne (Or.inr (hw _ (List.mem_of_getElem? (i := 16) rfl))) (Or.inr (hw _ (List.mem_of_getElem? (i := 11) rfl))) (by decide) (t := (.array .long)) (t' := (.array .double)) (by decide) (by decide)))).ext E32).other W36 (Or.inr (slot_ne (Or.inr (hw _ (List.mem_of_getElem? (i := 16) rfl))) (Or.inr (hw _ (List.mem_of_getElem? (i := 14) rfl))) (by decide) (t := (.array .long)) (t' := (.array .long)) (by decide) (by decide)))).ext E42)
  have f45 := (f38.ext E42)
  obtain ⟨T46, h46, X46, e46, W46, st46⟩ := putF X42 hx hZ hown (host := "") (Or.inl (hw _ (List.mem_of_getElem? (i := 15) rfl))) Via.refl e42 f44 f45 (Or.inr ⟨(hw _ (List.mem_of_getElem? (i := 16) rfl)), rfl, hnm⟩) (hw _ (List.mem_of_getElem? (i := 2) rfl)) (ty := (.array .long)) (by decide) rfl rfl (g := (mkF m 22 #[.val (.ref a1), .val (.int (2 : Int32))] [(.ref rb), (.ref a1)])) rfl rfl (hb hby d_prog_37_method_1_code_22)
  have N46 := Fr.snoc X46 N36 g_a
  have f47 := f44.same W46
  have f48 := (f45.wr W46)
  have f49 := ((f39.ext E42).other W46 (by omega : (cb : Nat) ≠ a1))
  have f50 := (f43.other W46 (by omega : (rb : Nat) ≠ a1))
  have f51 := ((f40.ext E42).other W46 (by omega : (tb : Nat) ≠ a1))
  have f52 := ((f41.ext E42).wr W46 (Or.inl (List.mem_of_getElem? (i := 0) rfl)))
  obtain ⟨T53, h53, k53, X53, e53, E53, A53, st53⟩ := newP X46 hx hZ (hw _ (List.mem_of_getElem? (i := 0) rfl)) e46 (g := (mkF m 27 #[.val (.ref a1), .val (.int (2 : Int32))] [(.int (2 : Int32)), (.ref a1)])) rfl (hb hby d_prog_37_method_1_code_27) rfl (by decide) (cap := 2) (by decide) (by decide) (by decide) (by decide)
  obtain ⟨mb, g53⟩ : ∃ z, z = h46.size := ⟨_, rfl⟩
  rw [← g53] at A53 st53
  have lt_a1_mb : (a1 : Nat) < mb := by rw [g53]; exact f48.lt
  have lt_cb_mb : (cb : Nat) < mb := by rw [g53]; exact f49.lt
  have lt_rb_mb : (rb : Nat) < mb := by rw [g53]; exact f50.lt
  have lt_tb_mb : (tb : Nat) < mb := by rw [g53]; exact f51.lt
  have sz_h0_mb : h0.size ≤ (mb : Nat) := by rw [g53]; exact f52.1
  have f54 : Arv Z h53 mb k53 .double (2 : Int32) [(.double (FP.l2d 0)), (.double (FP.l2d 0))] (.double (FP.l2d 0)) := (Arv.newD A53 (by decide)).pad (pad_rep [] (.double (FP.l2d 0)) 2)
  have f55 := (((((((F_meanOfRunMeans.ext E23).other W27 (Or.inr (slot_ne (Or.inr (hw _ (List.mem_of_getElem? (i := 18) rfl))) (Or.inr (hw _ (List.mem_of_getElem? (i := 11) rfl))) (by decide) (t := (.array .double)) (t' := (.array .double)) (by decide) (by decide)))).ext E32).other W36 (Or.inr (slot_ne (Or.inr (hw _ (List.mem_of_getElem? (i := 18) rfl))) (Or.inr (hw _ (List.mem_of_getElem? (i := 14) rfl))) (by decide) (t := (.array .double)) (t' := (.array .long)) (by decide) (by decide)))).ext E42).other W46 (Or.inr (slot_ne (Or.inr (hw _ (List.mem_of_getElem? (i := 18) rfl))) (Or.inr (hw _ (List.mem_of_getElem? (i := 16) rfl))) (by decide) (t := (.array .double)) (t' := (.array .long)) (by decide) (by decide)))).ext E53)
  have f56 := (f48.ext E53)
  obtain ⟨T57, h57, X57, e57, W57, st57⟩ := putF X53 hx hZ hown (host := "") (Or.inl (hw _ (List.mem_of_getElem? (i := 17) rfl))) Via.refl e53 f55 f56 (Or.inr ⟨(hw _ (List.mem_of_getElem? (i := 18) rfl)), rfl, hnm⟩) (hw _ (List.mem_of_getElem? (i := 2) rfl)) (ty := (.array .double)) (by decide) rfl rfl (g := (mkF m 29 #[.val (.ref a1), .val (.int (2 : Int32))] [(.ref mb), (.ref a1)])) rfl rfl (hb hby d_prog_37_method_1_code_29)
  have N57 := Fr.snoc X57 N46 g_a
  have f58 := f55.same W57
  have f59 := (f56.wr W57)
  have f60 := ((f49.ext E53).other W57 (by omega : (cb : Nat) ≠ a1))
  have f61 := (f54.other W57 (by omega : (mb : Nat) ≠ a1))
  have f62 := ((f50.ext E53).other W57 (by omega : (rb : Nat) ≠ a1))
  have f63 := ((f51.ext E53).other W57 (by omega : (tb : Nat) ≠ a1))
  have f64 := ((f52.ext E53).wr W57 (Or.inl (List.mem_of_getElem? (i := 0) rfl)))
  obtain ⟨T65, h65, k65, X65, e65, E65, A65, st65⟩ := newP X57 hx hZ (hw _ (List.mem_of_getElem? (i := 0) rfl)) e57 (g := (mkF m 34 #[.val (.ref a1), .val (.int (2 : Int32))] [(.int (2 : Int32)), (.ref a1)])) rfl (hb hby d_prog_37_method_1_code_34) rfl (by decide) (cap := 2) (by decide) (by decide) (by decide) (by decide)
  obtain ⟨qb, g65⟩ : ∃ z, z = h57.size := ⟨_, rfl⟩
  rw [← g65] at A65 st65
  have lt_a1_qb : (a1 : Nat) < qb := by rw [g65]; exact f59.lt
  have lt_cb_qb : (cb : Nat) < qb := by rw [g65]; exact f60.lt
  have lt_mb_qb : (mb : Nat) < qb := by rw [g65]; exact f61.lt
  have lt_rb_qb : (rb : Nat) < qb := by rw [g65]; exact f62.lt
  have lt_tb_qb : (tb : Nat) < qb := by rw [g65]; exact f63.lt
  have sz_h0_qb : h0.size ≤ (qb : Nat) := by rw [g65]; exact f64.1
  have f66 : Arv Z h65 qb k65 .double (2 : Int32) [(.double (FP.l2d 0)), (.double (FP.l2d 0))] (.double (FP.l2d 0)) := (Arv.newD A65 (by decide)).pad (pad_rep [] (.double (FP.l2d 0)) 2)
  have f67 := (((((((((F_squaredDeviations.ext E23).other W27 (Or.inr (slot_ne (Or.inr (hw _ (List.mem_of_getElem? (i := 20) rfl))) (Or.inr (hw _ (List.mem_of_getElem? (i := 11) rfl))) (by decide) (t := (.array .double)) (t' := (.array .double)) (by decide) (by decide)))).ext E32).other W36 (Or.inr (slot_ne (Or.inr (hw _ (List.mem_of_getElem? (i := 20) rfl))) (Or.inr (hw _ (List.mem_of_getElem? (i := 14) rfl))) (by decide) (t := (.array .double)) (t' := (.array .long)) (by decide) (by decide)))).ext E42).other W46 (Or.inr (slot_ne (Or.inr (hw _ (List.mem_of_getElem? (i := 20) rfl))) (Or.inr (hw _ (List.mem_of_getElem? (i := 16) rfl))) (by decide) (t := (.array .double)) (t' := (.array .long)) (by decide) (by decide)))).ext E53).other W57 (Or.inr (slot_ne (Or.inr (hw _ (List.mem_of_getElem? (i := 20) rfl))) (Or.inr (hw _ (List.mem_of_getElem? (i := 18) rfl))) (by decide) (t := (.array .double)) (t' := (.array .double)) (by decide) (by decide)))).ext E65)
  have f68 := (f59.ext E65)
  obtain ⟨T69, h69, X69, e69, W69, st69⟩ := putF X65 hx hZ hown (host := "") (Or.inl (hw _ (List.mem_of_getElem? (i := 19) rfl))) Via.refl e65 f67 f68 (Or.inr ⟨(hw _ (List.mem_of_getElem? (i := 20) rfl)), rfl, hnm⟩) (hw _ (List.mem_of_getElem? (i := 2) rfl)) (ty := (.array .double)) (by decide) rfl rfl (g := (mkF m 36 #[.val (.ref a1), .val (.int (2 : Int32))] [(.ref qb), (.ref a1)])) rfl rfl (hb hby d_prog_37_method_1_code_36)
  have N69 := Fr.snoc X69 N57 g_a
  have f70 := f67.same W69
  have f71 := ((f64.ext E65).wr W69 (Or.inl (List.mem_of_getElem? (i := 0) rfl)))
  have f72 := (f68.wr W69)
  have f73 := ((((((((f28.ext E32).other W36 (Or.inr (slot_ne (Or.inr (hw _ (List.mem_of_getElem? (i := 11) rfl))) (Or.inr (hw _ (List.mem_of_getElem? (i := 14) rfl))) (by decide) (t := (.array .double)) (t' := (.array .long)) (by decide) (by decide)))).ext E42).other W46 (Or.inr (slot_ne (Or.inr (hw _ (List.mem_of_getElem? (i := 11) rfl))) (Or.inr (hw _ (List.mem_of_getElem? (i := 16) rfl))) (by decide) (t := (.array .double)) (t' := (.array .long)) (by decide) (by decide)))).ext E53).other W57 (Or.inr (slot_ne (Or.inr (hw _ (List.mem_of_getElem? (i := 11) rfl))) (Or.inr (hw _ (List.mem_of_getElem? (i := 18) rfl))) (by decide) (t := (.array .double)) (t' := (.array .double)) (by decide) (by decide)))).ext E65).other W69 (Or.inr (slot_ne (Or.inr (hw _ (List.mem_of_getElem? (i := 11) rfl))) (Or.inr (hw _ (List.mem_of_getElem? (i := 20) rfl))) (by decide) (t := (.array .double)) (t' := (.array .double)) (by decide) (by decide))))
  have f74 := ((((((f37.ext E42).other W46 (Or.inr (slot_ne (Or.inr (hw _ (List.mem_of_getElem? (i := 14) rfl))) (Or.inr (hw _ (List.mem_of_getElem? (i := 16) rfl))) (by decide) (t := (.array .long)) (t' := (.array .long)) (by decide) (by decide)))).ext E53).other W57 (Or.inr (slot_ne (Or.inr (hw _ (List.mem_of_getElem? (i := 14) rfl))) (Or.inr (hw _ (List.mem_of_getElem? (i := 18) rfl))) (by decide) (t := (.array .long)) (t' := (.array .double)) (by decide) (by decide)))).ext E65).other W69 (Or.inr (slot_ne (Or.inr (hw _ (List.mem_of_getElem? (i := 14) rfl))) (Or.inr (hw _ (List.mem_of_getElem? (i := 20) rfl))) (by decide) (t := (.array .long)) (t' := (.array .double)) (by decide) (by decide))))
  have f75 := ((((f47.ext E53).other W57 (Or.inr (slot_ne (Or.inr (hw _ (List.mem_of_getElem? (i := 16) rfl))) (Or.inr (hw _ (List.mem_of_getElem? (i := 18) rfl))) (by decide) (t := (.array .long)) (t' := (.array .double)) (by decide) (by decide)))).ext E65).other W69 (Or.inr (slot_ne (Or.inr (hw _ (List.mem_of_getElem? (i := 16) rfl))) (Or.inr (hw _ (List.mem_of_getElem? (i := 20) rfl))) (by decide) (t := (.array .long)) (t' := (.array .double)) (by decide) (by decide))))
  have f76 := ((f58.ext E65).other W69 (Or.inr (slot_ne (Or.inr (hw _ (List.mem_of_getElem? (i := 18) rfl))) (Or.inr (hw _ (List.mem_of_getElem? (i := 20) rfl))) (by decide) (t := (.array .double)) (t' := (.array .double)) (by decide) (by decide))))
  have f77 := ((f63.ext E65).other W69 (by omega : (tb : Nat) ≠ a1))
  have f78 := ((f60.ext E65).other W69 (by omega : (cb : Nat) ≠ a1))
  have f79 := ((f62.ext E65).other W69 (by omega : (rb : Nat) ≠ a1))
  have f80 := ((f61.ext E65).other W69 (by omega : (mb : Nat) ≠ a1))
  have f81 := (f66.other W69 (by omega : (qb : Nat) ≠ a1))
  obtain ⟨fs, hr, hrun, hended, hW, hsame⟩ := X69.leave (v := none) (fun _ => rfl)
  refine ⟨_, _, pre0 _ ?_, hrun, hended, _, _, rfl, ?_, ⟨_, rfl⟩, hW, hsame.mono (by decide) (by decide)⟩
  · show Steps p.tables e below (s₁.setTop (mkF m 0 #[.val (.ref a1), .val (.int (2 : Int32))] [])) _
    refine XS.aloadN X0.here hx rfl (hb hby d_prog_37_method_1_code_0) rfl rfl ?_
    show Steps p.tables e below (s₁.setTop (mkF m 1 #[.val (.ref a1), .val (.int (2 : Int32))] [(.ref a1)])) _
    refine st22 _ ?_
    show Steps p.tables e below (T22.setTop (mkF m 4 #[.val (.ref a1), .val (.int (2 : Int32))] [])) _
    refine XS.aloadN X22.here hx rfl (hb hby d_prog_37_method_1_code_4) rfl rfl ?_
    show Steps p.tables e below (T22.setTop (mkF m 5 #[.val (.ref a1), .val (.int (2 : Int32))] [(.ref a1)])) _
    refine XS.iloadN X22.here hx rfl (hb hby d_prog_37_method_1_code_5) rfl ?_
    show Steps p.tables e below (T22.setTop (mkF m 6 #[.val (.ref a1), .val (.int (2 : Int32))] [(.int (2 : Int32)), (.ref a1)])) _
    refine st23 _ ?_
    show Steps p.tables e below (T23.setTop (mkF m 8 #[.val (.ref a1), .val (.int (2 : Int32))] [(.ref tb), (.ref a1)])) _
    refine st27 _ ?_
    show Steps p.tables e below (T27.setTop (mkF m 11 #[.val (.ref a1), .val (.int (2 : Int32))] [])) _
    refine XS.aloadN X27.here hx rfl (hb hby d_prog_37_method_1_code_11) rfl rfl ?_
    show Steps p.tables e below (T27.setTop (mkF m 12 #[.val (.ref a1), .val (.int (2 : Int32))] [(.ref a1)])) _
    refine XS.iloadN X27.here hx rfl (hb hby d_prog_37_method_1_code_12) rfl ?_
    show Steps p.tables e below (T27.setTop (mkF m 13 #[.val (.ref a1), .val (.int (2 : Int32))] [(.int (2 : Int32)), (.ref a1)])) _
    refine st32 _ ?_
    show Steps p.tables e below (T32.setTop (mkF m 15 #[.val (.ref a1), .val (.int (2 : Int32))] [(.ref cb), (.ref a1)])) _
    refine st36 _ ?_
    show Steps p.tables e below (T36.setTop (mkF m 18 #[.val (.ref a1), .val (.int (2 : Int32))] [])) _
    refine XS.aloadN X36.here hx rfl (hb hby d_prog_37_method_1_code_18) rfl rfl ?_
    show Steps p.tables e below (T36.setTop (mkF m 19 #[.val (.ref a1), .val (.int (2 : Int32))] [(.ref a1)])) _
    refine XS.iloadN X36.here hx rfl (hb hby d_prog_37_method_1_code_19) rfl ?_
    show Steps p.tables e below (T36.setTop (mkF m 20 #[.val (.ref a1), .val (.int (2 : Int32))] [(.int (2 : Int32)), (.ref a1)])) _
    refine st42 _ ?_
    show Steps p.tables e below (T42.setTop (mkF m 22 #[.val (.ref a1), .val (.int (2 : Int32))] [(.ref rb), (.ref a1)])) _
    refine st46 _ ?_
    show Steps p.tables e below (T46.setTop (mkF m 25 #[.val (.ref a1), .val (.int (2 : Int32))] [])) _
    refine XS.aloadN X46.here hx rfl (hb hby d_prog_37_method_1_code_25) rfl rfl ?_
    show Steps p.tables e below (T46.setTop (mkF m 26 #[.val (.ref a1), .val (.int (2 : Int32))] [(.ref a1)])) _
    refine XS.iloadN X46.here hx rfl (hb hby d_prog_37_method_1_code_26) rfl ?_
    show Steps p.tables e below (T46.setTop (mkF m 27 #[.val (.ref a1), .val (.int (2 : Int32))] [(.int (2 : Int32)), (.ref a1)])) _
    refine st53 _ ?_
    show Steps p.tables e below (T53.setTop (mkF m 29 #[.val (.ref a1), .val (.int (2 : Int32))] [(.ref mb), (.ref a1)])) _
    refine st57 _ ?_
    show Steps p.tables e below (T57.setTop (mkF m 32 #[.val (.ref a1), .val (.int (2 : Int32))] [])) _
    refine XS.aloadN X57.here hx rfl (hb hby d_prog_37_method_1_code_32) rfl rfl ?_
    show Steps p.tables e below (T57.setTop (mkF m 33 #[.val (.ref a1), .val (.int (2 : Int32))] [(.ref a1)])) _
    refine XS.iloadN X57.here hx rfl (hb hby d_prog_37_method_1_code_33) rfl ?_
    show Steps p.tables e below (T57.setTop (mkF m 34 #[.val (.ref a1), .val (.int (2 : Int32))] [(.int (2 : Int32)), (.ref a1)])) _
    refine st65 _ ?_
    show Steps p.tables e below (T65.setTop (mkF m 36 #[.val (.ref a1), .val (.int (2 : Int32))] [(.ref qb), (.ref a1)])) _
    refine st69 _ ?_
    show Steps p.tables e below (T69.setTop (mkF m 39 #[.val (.ref a1), .val (.int (2 : Int32))] [])) _
    exact X69.returnOut hx Bd.returns (hb hby d_prog_37_method_1_code_39) hr
  · show Q1 Z a1 h0 n0 _ T69.heap _
    rw [e69]
    exact ⟨tb, cb, rb, mb, qb, k23, k32, k42, k53, k65, rfl, N69, f71, f72, f73, f74, f75, f76, f70, f77, f78, f79, f80, f81, sz_h0_tb, lt_tb_cb, lt_cb_rb, lt_rb_mb, lt_mb_qb⟩
theorem ef_3 (m : MethodId) (x0 : Addr) (x1 : Addr) : entryFrame m #[(.ref x0), (.ref x1)] 3 = mkF m 0 #[.val (.ref x0), .val (.ref x1), .unset] [] := by first | (simp [entryFrame, mkF, argsToLocals, Value.category]; done) | rfl
theorem pn_3 : plainName "com/example/outcry/outcry/core/Tally$RunSums" = true := by first | (simp [plainName, overriddenIn]; done) | decide +kernel
def Q3 (Z : State) (a1 : Nat) (v1 : Nat) (tb : Nat) (cb : Nat) (kt : ClassId) (kc : ClassId) (w1 : Int32) (x0 : Int32) (x1 : Int32) (t0 : Int64) (t1 : Int64) (c0 : Int64) (c1 : Int64) (h0 : Heap) (n0 : Nat) (v : Option Value) (h : Heap) (L : List Loc) : Prop := v = none ∧ Fr n0 L ∧ Keep h0 h [tb, cb] ∧ Arv Z h tb kt .double (2 : Int32) [(.double (FP.l2d (t0 + x0.toInt64))), (.double (FP.l2d (own_if w1 t1 (t1 + x1.toInt64))))] (.double (FP.l2d 0)) ∧ Arv Z h cb kc .long (2 : Int32) [(.long (c0 + (1 : Int64))), (.long (own_if w1 c1 (c1 + (1 : Int64))))] (.long (0 : Int64))
set_option maxRecDepth 65536 in
set_option maxHeartbeats 40000000 in
theorem rm3 (l : Launch) (Z : State) (a0 : Array Value) (hw : ∀ d ∈ tables_1, d.before a0 Z = true) (ws : List Jvm.Cond) (a1 : Nat) (v1 : Nat) (tb : Nat) (cb : Nat) (kt : ClassId) (kc : ClassId) (w1 : Int32) (x0 : Int32) (x1 : Int32) (t0 : Int64) (t1 : Int64) (c0 : Int64) (c1 : Int64) (h0 : Heap) (n0 : Nat) (Z0 : n0 ≤ h0.size) (F_total : Fld Z h0 a1 "com/example/outcry/outcry/core/Tally$RunSums" "total" "[D" (.ref tb)) (F_count : Fld Z h0 a1 "com/example/outcry/outcry/core/Tally$RunSums" "count" "[J" (.ref cb)) (V_t : Arv Z h0 tb kt .double (2 : Int32) [(.double (FP.l2d t0)), (.double (FP.l2d t1))] (.double (FP.l2d 0))) (V_c : Arv Z h0 cb kc .long (2 : Int32) [(.long c0), (.long c1)] (.long (0 : Int64))) (V_r : own_row Z h0 v1 w1 x0 x1) (g_t : n0 ≤ tb) (g_c : n0 ≤ cb) (o1 : v1 < a1) (o2 : a1 < tb) (o3 : tb < cb) (ht0 : B53 t0) (ht1 : B53 t1) :
    MetFree l (⟨"com/example/outcry/outcry/core/Tally$RunSums", "add", "([D)V"⟩ : MethodName) (head1 (Jvm.Cond.code (⟨"com/example/outcry/outcry/core/Tally$RunSums", "add", "([D)V"⟩ : MethodName) prog_38_method_2_code 3 none :: ws) ({ frames := 1, cells := 0, slots := 0, locals := 20 } : Room)) (fun a U => a = #[(.ref a1), (.ref v1)] ∧ Z.Warmed39 U.vm ∧ U.heap = h0) (fun _ _ _ _ _ => True) (fun _ U o U' => ∃ v L, o = .returned v ∧ Q3 Z a1 v1 tb cb kt kc w1 x0 x1 t0 t1 c0 c1 h0 n0 v U'.heap L ∧ FrameEnd U o U' L ({ frames := 1, cells := 0, slots := 0, locals := 20 } : Room).cells ({ frames := 1, cells := 0, slots := 0, locals := 20 } : Room).slots) := by
  refine MetFree.of_bodySF (plainFor_of_name pn_3) hisR ?_
  intro p e s m args below meth c s₁ Bd hml0 hP hK
  obtain ⟨rfl, hZ, hh⟩ := hP
  have hx := Bd.exec
  have hby := Bd.bytes
  have hml : c.maxLocals = 3 := hml0
  have hown : s.vm.findClass "com/example/outcry/outcry/core/Tally$RunSums" = some m.cls := findClass_of_methodNamed Bd.named
  have hnm := (name_of_methodNamed Bd.named Bd.method).1
  have X0 : Stand p l e ({ frames := 1, cells := 0, slots := 0, locals := 20 } : Room) s m #[(.ref a1), (.ref v1)] below meth c s₁ [] 0 0 := Stand.of_body Bd
  have e0 : s₁.heap = h0 := by rw [← hh, Bd.state]; rfl
  have N0 := Fr.nil n0
  have pre0 : ∀ t, Steps p.tables e below (s₁.setTop (mkF m 0 #[.val (.ref a1), .val (.ref v1), .unset] [])) t → Steps p.tables e below (s₁.setTop (entryFrame m #[(.ref a1), (.ref v1)] 3)) t := fun t k => castTop (ef_3 m a1 v1) k
  rcases V_r with ⟨hw0, kv, V_v⟩ | ⟨hw0, kv, V_v⟩
  · obtain ⟨cl82, Ar82, -, S82, M82, -, -⟩ := id V_v
    obtain ⟨cl83, Ar83, hin83, hat83⟩ := own_at V_v (0 : Int32) 0 rfl (by decide) (by decide)
    have Z84 : n0 ≤ h0.size := Nat.le_trans Z0 (Keep.refl h0 [tb, cb]).1
    obtain ⟨_, _, ⟨T85, L85, k85, n85⟩, -, X85, ⟨Lc85, hQ85, l85, y85, z85⟩, st85⟩ := Jvm.LawKit.callS X0 hx (y := (⟨"java/lang/Double", "isNaN", "(D)Z"⟩ : MethodName)) hown (mvT hZ (hw _ (List.mem_of_getElem? (i := 37) rfl))) (mvT hZ (hw _ (List.mem_of_getElem? (i := 38) rfl))) (mvT hZ (hw _ (List.mem_of_getElem? (i := 39) rfl))) (mvT hZ (hw _ (List.mem_of_getElem? (i := 40) rfl))) (by decide) (backOf (W := 0) (rm9 l Z a0 hw [] (FP.i2d x0) h0 n0 Z84 (own_ninf (i2d_mag x0) (by decide))) hZ (hw _ (List.mem_of_getElem? (i := 40) rfl)) (hw _ (List.mem_of_getElem? (i := 39) rfl)) (by decide) (by decide)) (g := (mkF m 11 #[.val (.ref a1), .val (.ref v1), .val (.int (0 : Int32))] [(.double (FP.i2d x0))])) rfl (by rw [hml]; rfl) (argsL := [(.double (FP.i2d x0))]) (rest := []) (lenOf pd_0 rfl) rfl (by show 2 * 0 + _ ≤ _; exact Nat.le_of_eq rfl) (hb hby d_prog_38_method_2_code_11) (fun _ _ => ⟨rfl, e0, (by decide : 0 + 0 ≤ _), (by decide : 0 + 0 ≤ _)⟩)
    dsimp only [Pt.U, Pt.locs, Pt.cells, Pt.slots] at X85 l85 y85 z85 st85 hQ85
    subst l85 y85 z85
    obtain ⟨rfl, N85q, eh85⟩ := hQ85
    have N85 := Fr.app N0 N85q
    obtain ⟨T86, X86, e86, st86⟩ := getF X85 hx hZ hown (host := "") (Or.inl (hw _ (List.mem_of_getElem? (i := 28) rfl))) Via.refl eh85 F_total (g := (mkF m 18 #[.val (.ref a1), .val (.ref v1), .val (.int (0 : Int32))] [(.ref a1)])) rfl rfl (hb hby d_prog_38_method_2_code_18)
    obtain ⟨cl87, Ar87, hin87, hat87⟩ := own_at V_t (0 : Int32) 0 rfl (by decide) (by decide)
    obtain ⟨cl88, Ar88, hin88, hat88⟩ := own_at V_v (0 : Int32) 0 rfl (by decide) (by decide)
    obtain ⟨cl89, Ar89, q89, S89, M89, Hh89, G89⟩ := id V_t
    obtain ⟨T90, h90, X90, e90, W90, st90⟩ := stD X86 hx hZ e86 Ar89 (j := (0 : Int32)) (inb_of S89 ⟨by decide, by decide⟩) (g := (mkF m 28 #[.val (.ref a1), .val (.ref v1), .val (.int (0 : Int32))] [(.double (FP.l2d (t0 + x0.toInt64))), (.int (0 : Int32)), (.ref tb)])) rfl rfl (hb hby d_prog_38_method_2_code_28)
    have f91 : Arv Z h90 tb kt .double (2 : Int32) [(.double (FP.l2d (t0 + x0.toInt64))), (.double (FP.l2d t1))] (.double (FP.l2d 0)) := Arv.set Ar89 q89 S89 M89 Hh89 G89 rfl W90 0 rfl (Nat.le_of_ble_eq_true rfl)
    have N90 := Fr.snoc X90 N85 g_t
    have f92 := (F_count.other W90 (Or.inl (by omega : (a1 : Nat) ≠ tb)))
    obtain ⟨T93, X93, e93, st93⟩ := getF X90 hx hZ hown (host := "") (Or.inl (hw _ (List.mem_of_getElem? (i := 30) rfl))) Via.refl e90 f92 (g := (mkF m 30 #[.val (.ref a1), .val (.ref v1), .val (.int (0 : Int32))] [(.ref a1)])) rfl rfl (hb hby d_prog_38_method_2_code_30)
    have f94 := (V_c.other W90 (by omega : (cb : Nat) ≠ tb))
    obtain ⟨cl95, Ar95, hin95, hat95⟩ := own_at f94 (0 : Int32) 0 rfl (by decide) (by decide)
    obtain ⟨cl96, Ar96, q96, S96, M96, Hh96, G96⟩ := id f94
    obtain ⟨T97, h97, X97, e97, W97, st97⟩ := stJ X93 hx hZ e93 Ar96 (j := (0 : Int32)) (inb_of S96 ⟨by decide, by decide⟩) (g := (mkF m 38 #[.val (.ref a1), .val (.ref v1), .val (.int (0 : Int32))] [(.long (c0 + (1 : Int64))), (.int (0 : Int32)), (.ref cb)])) rfl rfl (hb hby d_prog_38_method_2_code_38)
    have f98 : Arv Z h97 cb kc .long (2 : Int32) [(.long (c0 + (1 : Int64))), (.long c1)] (.long (0 : Int64)) := Arv.set Ar96 q96 S96 M96 Hh96 G96 rfl W97 0 rfl (Nat.le_of_ble_eq_true rfl)
    have N97 := Fr.snoc X97 N90 g_c
    have f99 := ((V_v.other W90 (by omega : (v1 : Nat) ≠ tb)).other W97 (by omega : (v1 : Nat) ≠ cb))
    obtain ⟨cl100, Ar100, -, S100, M100, -, -⟩ := id f99
    have f101 := (((Keep.refl h0 [tb, cb]).wr W90 (Or.inl (List.mem_of_getElem? (i := 0) rfl))).wr W97 (Or.inl (List.mem_of_getElem? (i := 1) rfl)))
    have f102 := (f91.other W97 (by omega : (tb : Nat) ≠ cb))
    obtain ⟨fs, hr, hrun, hended, hW, hsame⟩ := X97.leave (v := none) (fun _ => rfl)
    refine ⟨_, _, pre0 _ ?_, hrun, hended, _, _, rfl, ?_, ⟨_, rfl⟩, hW, hsame.mono (by decide) (by decide)⟩
    · show Steps p.tables e below (s₁.setTop (mkF m 0 #[.val (.ref a1), .val (.ref v1), .unset] [])) _
      refine XS.iconst X0.here hx rfl (hb hby d_prog_38_method_2_code_0) ?_
      show Steps p.tables e below (s₁.setTop (mkF m 1 #[.val (.ref a1), .val (.ref v1), .unset] [(.int (0 : Int32))])) _
      refine XS.istoreN X0.here hx rfl (hb hby d_prog_38_method_2_code_1) rfl (l' := #[.val (.ref a1), .val (.ref v1), .val (.int (0 : Int32))]) rfl ?_
      show Steps p.tables e below (s₁.setTop (mkF m 2 #[.val (.ref a1), .val (.ref v1), .val (.int (0 : Int32))] [])) _
      refine XS.iloadN X0.here hx rfl (hb hby d_prog_38_method_2_code_2) rfl ?_
      show Steps p.tables e below (s₁.setTop (mkF m 3 #[.val (.ref a1), .val (.ref v1), .val (.int (0 : Int32))] [(.int (0 : Int32))])) _
      refine XS.aloadN X0.here hx rfl (hb hby d_prog_38_method_2_code_3) rfl rfl ?_
      show Steps p.tables e below (s₁.setTop (mkF m 4 #[.val (.ref a1), .val (.ref v1), .val (.int (0 : Int32))] [(.ref v1), (.int (0 : Int32))])) _
      refine X0.arraylength hx (by rw [e0]; exact Ar82.1) (State.isArrayOf_alike hZ.alike Ar82.2.1) (g := (mkF m 4 #[.val (.ref a1), .val (.ref v1), .val (.int (0 : Int32))] [(.ref v1), (.int (0 : Int32))])) rfl rfl (hb hby d_prog_38_method_2_code_4) _ ?_
      rw [len_of S82 M82]
      show Steps p.tables e below (s₁.setTop (mkF m 5 #[.val (.ref a1), .val (.ref v1), .val (.int (0 : Int32))] [(.int (1 : Int32)), (.int (0 : Int32))])) _
      refine XS.icmpNo X0.here hx rfl (hb hby d_prog_38_method_2_code_5) rfl (by decide) ?_
      show Steps p.tables e below (s₁.setTop (mkF m 8 #[.val (.ref a1), .val (.ref v1), .val (.int (0 : Int32))] [])) _
      refine XS.aloadN X0.here hx rfl (hb hby d_prog_38_method_2_code_8) rfl rfl ?_
      show Steps p.tables e below (s₁.setTop (mkF m 9 #[.val (.ref a1), .val (.ref v1), .val (.int (0 : Int32))] [(.ref v1)])) _
      refine XS.iloadN X0.here hx rfl (hb hby d_prog_38_method_2_code_9) rfl ?_
      show Steps p.tables e below (s₁.setTop (mkF m 10 #[.val (.ref a1), .val (.ref v1), .val (.int (0 : Int32))] [(.int (0 : Int32)), (.ref v1)])) _
      refine X0.daload hx (j := (0 : Int32)) (v := (.double (FP.i2d x0))) (by rw [e0]; exact Ar83.1) (State.isArrayOf_alike hZ.alike Ar83.2.1) Ar83.2.2 hin83 hat83 (g := (mkF m 10 #[.val (.ref a1), .val (.ref v1), .val (.int (0 : Int32))] [(.int (0 : Int32)), (.ref v1)])) rfl rfl (hb hby d_prog_38_method_2_code_10) _ ?_
      show Steps p.tables e below (s₁.setTop (mkF m 11 #[.val (.ref a1), .val (.ref v1), .val (.int (0 : Int32))] [(.double (FP.i2d x0))])) _
      refine st85 _ ?_
      show Steps p.tables e below (T85.setTop (mkF m 14 #[.val (.ref a1), .val (.ref v1), .val (.int (0 : Int32))] [(.int (0 : Int32))])) _
      refine XS.ifNo X85.here hx rfl (hb hby d_prog_38_method_2_code_14) rfl (by decide) ?_
      show Steps p.tables e below (T85.setTop (mkF m 17 #[.val (.ref a1), .val (.ref v1), .val (.int (0 : Int32))] [])) _
      refine XS.aloadN X85.here hx rfl (hb hby d_prog_38_method_2_code_17) rfl rfl ?_
      show Steps p.tables e below (T85.setTop (mkF m 18 #[.val (.ref a1), .val (.ref v1), .val (.int (0 : Int32))] [(.ref a1)])) _
      refine st86 _ ?_
      show Steps p.tables e below (T86.setTop (mkF m 21 #[.val (.ref a1), .val (.ref v1), .val (.int (0 : Int32))] [(.ref tb)])) _
      refine XS.iloadN X86.here hx rfl (hb hby d_prog_38_method_2_code_21) rfl ?_
      show Steps p.tables e below (T86.setTop (mkF m 22 #[.val (.ref a1), .val (.ref v1), .val (.int (0 : Int32))] [(.int (0 : Int32)), (.ref tb)])) _
      jvm_step X86.here [X86.here.top, hx, (hb hby d_prog_38_method_2_code_22), Value.category]
      show Steps p.tables e below (T86.setTop (mkF m 23 #[.val (.ref a1), .val (.ref v1), .val (.int (0 : Int32))] [(.int (0 : Int32)), (.ref tb), (.int (0 : Int32)), (.ref tb)])) _
      refine X86.daload hx (j := (0 : Int32)) (v := (.double (FP.l2d t0))) (by rw [e86]; exact Ar87.1) (State.isArrayOf_alike hZ.alike Ar87.2.1) Ar87.2.2 hin87 hat87 (g := (mkF m 23 #[.val (.ref a1), .val (.ref v1), .val (.int (0 : Int32))] [(.int (0 : Int32)), (.ref tb), (.int (0 : Int32)), (.ref tb)])) rfl rfl (hb hby d_prog_38_method_2_code_23) _ ?_
      show Steps p.tables e below (T86.setTop (mkF m 24 #[.val (.ref a1), .val (.ref v1), .val (.int (0 : Int32))] [(.double (FP.l2d t0)), (.int (0 : Int32)), (.ref tb)])) _
      refine XS.aloadN X86.here hx rfl (hb hby d_prog_38_method_2_code_24) rfl rfl ?_
      show Steps p.tables e below (T86.setTop (mkF m 25 #[.val (.ref a1), .val (.ref v1), .val (.int (0 : Int32))] [(.ref v1), (.double (FP.l2d t0)), (.int (0 : Int32)), (.ref tb)])) _
      refine XS.iloadN X86.here hx rfl (hb hby d_prog_38_method_2_code_25) rfl ?_
      show Steps p.tables e below (T86.setTop (mkF m 26 #[.val (.ref a1), .val (.ref v1), .val (.int (0 : Int32))] [(.int (0 : Int32)), (.ref v1), (.double (FP.l2d t0)), (.int (0 : Int32)), (.ref tb)])) _
      refine X86.daload hx (j := (0 : Int32)) (v := (.double (FP.i2d x0))) (by rw [e86]; exact Ar88.1) (State.isArrayOf_alike hZ.alike Ar88.2.1) Ar88.2.2 hin88 hat88 (g := (mkF m 26 #[.val (.ref a1), .val (.ref v1), .val (.int (0 : Int32))] [(.int (0 : Int32)), (.ref v1), (.double (FP.l2d t0)), (.int (0 : Int32)), (.ref tb)])) rfl rfl (hb hby d_prog_38_method_2_code_26) _ ?_
      show Steps p.tables e below (T86.setTop (mkF m 27 #[.val (.ref a1), .val (.ref v1), .val (.int (0 : Int32))] [(.double (FP.i2d x0)), (.double (FP.l2d t0)), (.int (0 : Int32)), (.ref tb)])) _
      refine XS.daddS X86.here hx rfl (v := (FP.l2d (t0 + x0.toInt64))) (hb hby d_prog_38_method_2_code_27) rfl (nn_w (own_addw x0 ht0)) (own_addw x0 ht0) ?_
      show Steps p.tables e below (T86.setTop (mkF m 28 #[.val (.ref a1), .val (.ref v1), .val (.int (0 : Int32))] [(.double (FP.l2d (t0 + x0.toInt64))), (.int (0 : Int32)), (.ref tb)])) _
      refine st90 _ ?_
      show Steps p.tables e below (T90.setTop (mkF m 29 #[.val (.ref a1), .val (.ref v1), .val (.int (0 : Int32))] [])) _
      refine XS.aloadN X90.here hx rfl (hb hby d_prog_38_method_2_code_29) rfl rfl ?_
      show Steps p.tables e below (T90.setTop (mkF m 30 #[.val (.ref a1), .val (.ref v1), .val (.int (0 : Int32))] [(.ref a1)])) _
      refine st93 _ ?_
      show Steps p.tables e below (T93.setTop (mkF m 33 #[.val (.ref a1), .val (.ref v1), .val (.int (0 : Int32))] [(.ref cb)])) _
      refine XS.iloadN X93.here hx rfl (hb hby d_prog_38_method_2_code_33) rfl ?_
      show Steps p.tables e below (T93.setTop (mkF m 34 #[.val (.ref a1), .val (.ref v1), .val (.int (0 : Int32))] [(.int (0 : Int32)), (.ref cb)])) _
      jvm_step X93.here [X93.here.top, hx, (hb hby d_prog_38_method_2_code_34), Value.category]
      show Steps p.tables e below (T93.setTop (mkF m 35 #[.val (.ref a1), .val (.ref v1), .val (.int (0 : Int32))] [(.int (0 : Int32)), (.ref cb), (.int (0 : Int32)), (.ref cb)])) _
      refine X93.laload hx (j := (0 : Int32)) (v := (.long c0)) (by rw [e93]; exact Ar95.1) (State.isArrayOf_alike hZ.alike Ar95.2.1) Ar95.2.2 hin95 hat95 (g := (mkF m 35 #[.val (.ref a1), .val (.ref v1), .val (.int (0 : Int32))] [(.int (0 : Int32)), (.ref cb), (.int (0 : Int32)), (.ref cb)])) rfl rfl (hb hby d_prog_38_method_2_code_35) _ ?_
      show Steps p.tables e below (T93.setTop (mkF m 36 #[.val (.ref a1), .val (.ref v1), .val (.int (0 : Int32))] [(.long c0), (.int (0 : Int32)), (.ref cb)])) _
      refine XS.lconst X93.here hx rfl (hb hby d_prog_38_method_2_code_36) ?_
      show Steps p.tables e below (T93.setTop (mkF m 37 #[.val (.ref a1), .val (.ref v1), .val (.int (0 : Int32))] [(.long (1 : Int64)), (.long c0), (.int (0 : Int32)), (.ref cb)])) _
      refine XS.ladd X93.here hx rfl (hb hby d_prog_38_method_2_code_37) rfl ?_
      show Steps p.tables e below (T93.setTop (mkF m 38 #[.val (.ref a1), .val (.ref v1), .val (.int (0 : Int32))] [(.long (c0 + (1 : Int64))), (.int (0 : Int32)), (.ref cb)])) _
      refine st97 _ ?_
      show Steps p.tables e below (T97.setTop (mkF m 39 #[.val (.ref a1), .val (.ref v1), .val (.int (0 : Int32))] [])) _
      refine XS.iinc X97.here hx rfl (hb hby d_prog_38_method_2_code_39) rfl (l' := #[.val (.ref a1), .val (.ref v1), .val (.int (1 : Int32))]) rfl ?_
      show Steps p.tables e below (T97.setTop (mkF m 42 #[.val (.ref a1), .val (.ref v1), .val (.int (1 : Int32))] [])) _
      refine XS.goto X97.here hx rfl (pc0 := 42) (pc' := 2) rfl (hb hby d_prog_38_method_2_code_42) (by decide) (by decide) ?_
      show Steps p.tables e below (T97.setTop (mkF m 2 #[.val (.ref a1), .val (.ref v1), .val (.int (1 : Int32))] [])) _
      refine XS.iloadN X97.here hx rfl (hb hby d_prog_38_method_2_code_2) rfl ?_
      show Steps p.tables e below (T97.setTop (mkF m 3 #[.val (.ref a1), .val (.ref v1), .val (.int (1 : Int32))] [(.int (1 : Int32))])) _
      refine XS.aloadN X97.here hx rfl (hb hby d_prog_38_method_2_code_3) rfl rfl ?_
      show Steps p.tables e below (T97.setTop (mkF m 4 #[.val (.ref a1), .val (.ref v1), .val (.int (1 : Int32))] [(.ref v1), (.int (1 : Int32))])) _
      refine X97.arraylength hx (by rw [e97]; exact Ar100.1) (State.isArrayOf_alike hZ.alike Ar100.2.1) (g := (mkF m 4 #[.val (.ref a1), .val (.ref v1), .val (.int (1 : Int32))] [(.ref v1), (.int (1 : Int32))])) rfl rfl (hb hby d_prog_38_method_2_code_4) _ ?_
      rw [len_of S100 M100]
      show Steps p.tables e below (T97.setTop (mkF m 5 #[.val (.ref a1), .val (.ref v1), .val (.int (1 : Int32))] [(.int (1 : Int32)), (.int (1 : Int32))])) _
      refine XS.icmpYes X97.here hx rfl (pc0 := 5) (pc' := 45) rfl (hb hby d_prog_38_method_2_code_5) rfl (by decide) (by decide) (by decide) ?_
      show Steps p.tables e below (T97.setTop (mkF m 45 #[.val (.ref a1), .val (.ref v1), .val (.int (1 : Int32))] [])) _
      exact X97.returnOut hx Bd.returns (hb hby d_prog_38_method_2_code_45) hr
    · show Q3 Z a1 v1 tb cb kt kc w1 x0 x1 t0 t1 c0 c1 h0 n0 _ T97.heap _
      rw [e97]
      exact ⟨rfl, N97, f101, by rw [own_if0 hw0]; exact f102, by rw [own_if0 hw0]; exact f98⟩
  · obtain ⟨cl103, Ar103, -, S103, M103, -, -⟩ := id V_v
    obtain ⟨cl104, Ar104, hin104, hat104⟩ := own_at V_v (0 : Int32) 0 rfl (by decide) (by decide)
    have Z105 : n0 ≤ h0.size := Nat.le_trans Z0 (Keep.refl h0 [tb, cb]).1
    obtain ⟨_, _, ⟨T106, L106, k106, n106⟩, -, X106, ⟨Lc106, hQ106, l106, y106, z106⟩, st106⟩ := Jvm.LawKit.callS X0 hx (y := (⟨"java/lang/Double", "isNaN", "(D)Z"⟩ : MethodName)) hown (mvT hZ (hw _ (List.mem_of_getElem? (i := 37) rfl))) (mvT hZ (hw _ (List.mem_of_getElem? (i := 38) rfl))) (mvT hZ (hw _ (List.mem_of_getElem? (i := 39) rfl))) (mvT hZ (hw _ (List.mem_of_getElem? (i := 40) rfl))) (by decide) (backOf (W := 0) (rm9 l Z a0 hw [] (FP.i2d x0) h0 n0 Z105 (own_ninf (i2d_mag x0) (by decide))) hZ (hw _ (List.mem_of_getElem? (i := 40) rfl)) (hw _ (List.mem_of_getElem? (i := 39) rfl)) (by decide) (by decide)) (g := (mkF m 11 #[.val (.ref a1), .val (.ref v1), .val (.int (0 : Int32))] [(.double (FP.i2d x0))])) rfl (by rw [hml]; rfl) (argsL := [(.double (FP.i2d x0))]) (rest := []) (lenOf pd_0 rfl) rfl (by show 2 * 0 + _ ≤ _; exact Nat.le_of_eq rfl) (hb hby d_prog_38_method_2_code_11) (fun _ _ => ⟨rfl, e0, (by decide : 0 + 0 ≤ _), (by decide : 0 + 0 ≤ _)⟩)
    dsimp only [Pt.U, Pt.locs, Pt.cells, Pt.slots] at X106 l106 y106 z106 st106 hQ106
    subst l106 y106 z106
    obtain ⟨rfl, N106q, eh106⟩ := hQ106
    have N106 := Fr.app N0 N106q
    obtain ⟨T107, X107, e107, st107⟩ := getF X106 hx hZ hown (host := "") (Or.inl (hw _ (List.mem_of_getElem? (i := 28) rfl))) Via.refl eh106 F_total (g := (mkF m 18 #[.val (.ref a1), .val (.ref v1), .val (.int (0 : Int32))] [(.ref a1)])) rfl rfl (hb hby d_prog_38_method_2_code_18)
    obtain ⟨cl108, Ar108, hin108, hat108⟩ := own_at V_t (0 : Int32) 0 rfl (by decide) (by decide)
    obtain ⟨cl109, Ar109, hin109, hat109⟩ := own_at V_v (0 : Int32) 0 rfl (by decide) (by decide)
    obtain ⟨cl110, Ar110, q110, S110, M110, Hh110, G110⟩ := id V_t
    obtain ⟨T111, h111, X111, e111, W111, st111⟩ := stD X107 hx hZ e107 Ar110 (j := (0 : Int32)) (inb_of S110 ⟨by decide, by decide⟩) (g := (mkF m 28 #[.val (.ref a1), .val (.ref v1), .val (.int (0 : Int32))] [(.double (FP.l2d (t0 + x0.toInt64))), (.int (0 : Int32)), (.ref tb)])) rfl rfl (hb hby d_prog_38_method_2_code_28)
    have f112 : Arv Z h111 tb kt .double (2 : Int32) [(.double (FP.l2d (t0 + x0.toInt64))), (.double (FP.l2d t1))] (.double (FP.l2d 0)) := Arv.set Ar110 q110 S110 M110 Hh110 G110 rfl W111 0 rfl (Nat.le_of_ble_eq_true rfl)
    have N111 := Fr.snoc X111 N106 g_t
    have f113 := (F_count.other W111 (Or.inl (by omega : (a1 : Nat) ≠ tb)))
    obtain ⟨T114, X114, e114, st114⟩ := getF X111 hx hZ hown (host := "") (Or.inl (hw _ (List.mem_of_getElem? (i := 30) rfl))) Via.refl e111 f113 (g := (mkF m 30 #[.val (.ref a1), .val (.ref v1), .val (.int (0 : Int32))] [(.ref a1)])) rfl rfl (hb hby d_prog_38_method_2_code_30)
    have f115 := (V_c.other W111 (by omega : (cb : Nat) ≠ tb))
    obtain ⟨cl116, Ar116, hin116, hat116⟩ := own_at f115 (0 : Int32) 0 rfl (by decide) (by decide)
    obtain ⟨cl117, Ar117, q117, S117, M117, Hh117, G117⟩ := id f115
    obtain ⟨T118, h118, X118, e118, W118, st118⟩ := stJ X114 hx hZ e114 Ar117 (j := (0 : Int32)) (inb_of S117 ⟨by decide, by decide⟩) (g := (mkF m 38 #[.val (.ref a1), .val (.ref v1), .val (.int (0 : Int32))] [(.long (c0 + (1 : Int64))), (.int (0 : Int32)), (.ref cb)])) rfl rfl (hb hby d_prog_38_method_2_code_38)
    have f119 : Arv Z h118 cb kc .long (2 : Int32) [(.long (c0 + (1 : Int64))), (.long c1)] (.long (0 : Int64)) := Arv.set Ar117 q117 S117 M117 Hh117 G117 rfl W118 0 rfl (Nat.le_of_ble_eq_true rfl)
    have N118 := Fr.snoc X118 N111 g_c
    have f120 := ((V_v.other W111 (by omega : (v1 : Nat) ≠ tb)).other W118 (by omega : (v1 : Nat) ≠ cb))
    obtain ⟨cl121, Ar121, -, S121, M121, -, -⟩ := id f120
    obtain ⟨cl122, Ar122, hin122, hat122⟩ := own_at f120 (1 : Int32) 1 rfl (by decide) (by decide)
    have f124 := (((Keep.refl h0 [tb, cb]).wr W111 (Or.inl (List.mem_of_getElem? (i := 0) rfl))).wr W118 (Or.inl (List.mem_of_getElem? (i := 1) rfl)))
    have Z123 : n0 ≤ h118.size := Nat.le_trans Z0 f124.1
    obtain ⟨_, _, ⟨T125, L125, k125, n125⟩, -, X125, ⟨Lc125, hQ125, l125, y125, z125⟩, st125⟩ := Jvm.LawKit.callS X118 hx (y := (⟨"java/lang/Double", "isNaN", "(D)Z"⟩ : MethodName)) hown (mvT hZ (hw _ (List.mem_of_getElem? (i := 37) rfl))) (mvT hZ (hw _ (List.mem_of_getElem? (i := 38) rfl))) (mvT hZ (hw _ (List.mem_of_getElem? (i := 39) rfl))) (mvT hZ (hw _ (List.mem_of_getElem? (i := 40) rfl))) (by decide) (backOf (W := 0) (rm9 l Z a0 hw [] (FP.i2d x1) h118 n0 Z123 (own_ninf (i2d_mag x1) (by decide))) hZ (hw _ (List.mem_of_getElem? (i := 40) rfl)) (hw _ (List.mem_of_getElem? (i := 39) rfl)) (by decide) (by decide)) (g := (mkF m 11 #[.val (.ref a1), .val (.ref v1), .val (.int (1 : Int32))] [(.double (FP.i2d x1))])) rfl (by rw [hml]; rfl) (argsL := [(.double (FP.i2d x1))]) (rest := []) (lenOf pd_0 rfl) rfl (by show 2 * 0 + _ ≤ _; exact Nat.le_of_eq rfl) (hb hby d_prog_38_method_2_code_11) (fun _ _ => ⟨rfl, e118, (by decide : 0 + 0 ≤ _), (by decide : 0 + 0 ≤ _)⟩)
    dsimp only [Pt.U, Pt.locs, Pt.cells, Pt.slots] at X125 l125 y125 z125 st125 hQ125
    subst l125 y125 z125
    obtain ⟨rfl, N125q, eh125⟩ := hQ125
    have N125 := Fr.app N118 N125q
    have f126 := ((F_total.other W111 (Or.inl (by omega : (a1 : Nat) ≠ tb))).other W118 (Or.inl (by omega : (a1 : Nat) ≠ cb)))
    obtain ⟨T127, X127, e127, st127⟩ := getF X125 hx hZ hown (host := "") (Or.inl (hw _ (List.mem_of_getElem? (i := 28) rfl))) Via.refl eh125 f126 (g := (mkF m 18 #[.val (.ref a1), .val (.ref v1), .val (.int (1 : Int32))] [(.ref a1)])) rfl rfl (hb hby d_prog_38_method_2_code_18)
    have f128 := (f112.other W118 (by omega : (tb : Nat) ≠ cb))
    obtain ⟨cl129, Ar129, hin129, hat129⟩ := own_at f128 (1 : Int32) 1 rfl (by decide) (by decide)
    obtain ⟨cl130, Ar130, hin130, hat130⟩ := own_at f120 (1 : Int32) 1 rfl (by decide) (by decide)
    obtain ⟨cl131, Ar131, q131, S131, M131, Hh131, G131⟩ := id f128
    obtain ⟨T132, h132, X132, e132, W132, st132⟩ := stD X127 hx hZ e127 Ar131 (j := (1 : Int32)) (inb_of S131 ⟨by decide, by decide⟩) (g := (mkF m 28 #[.val (.ref a1), .val (.ref v1), .val (.int (1 : Int32))] [(.double (FP.l2d (t1 + x1.toInt64))), (.int (1 : Int32)), (.ref tb)])) rfl rfl (hb hby d_prog_38_method_2_code_28)
    have f133 : Arv Z h132 tb kt .double (2 : Int32) [(.double (FP.l2d (t0 + x0.toInt64))), (.double (FP.l2d (t1 + x1.toInt64)))] (.double (FP.l2d 0)) := Arv.set Ar131 q131 S131 M131 Hh131 G131 rfl W132 1 rfl (Nat.le_of_ble_eq_true rfl)
    have N132 := Fr.snoc X132 N125 g_t
    have f134 := ((f113.other W118 (Or.inl (by omega : (a1 : Nat) ≠ cb))).other W132 (Or.inl (by omega : (a1 : Nat) ≠ tb)))
    obtain ⟨T135, X135, e135, st135⟩ := getF X132 hx hZ hown (host := "") (Or.inl (hw _ (List.mem_of_getElem? (i := 30) rfl))) Via.refl e132 f134 (g := (mkF m 30 #[.val (.ref a1), .val (.ref v1), .val (.int (1 : Int32))] [(.ref a1)])) rfl rfl (hb hby d_prog_38_method_2_code_30)
    have f136 := (f119.other W132 (by omega : (cb : Nat) ≠ tb))
    obtain ⟨cl137, Ar137, hin137, hat137⟩ := own_at f136 (1 : Int32) 1 rfl (by decide) (by decide)
    obtain ⟨cl138, Ar138, q138, S138, M138, Hh138, G138⟩ := id f136
    obtain ⟨T139, h139, X139, e139, W139, st139⟩ := stJ X135 hx hZ e135 Ar138 (j := (1 : Int32)) (inb_of S138 ⟨by decide, by decide⟩) (g := (mkF m 38 #[.val (.ref a1), .val (.ref v1), .val (.int (1 : Int32))] [(.long (c1 + (1 : Int64))), (.int (1 : Int32)), (.ref cb)])) rfl rfl (hb hby d_prog_38_method_2_code_38)
    have f140 : Arv Z h139 cb kc .long (2 : Int32) [(.long (c0 + (1 : Int64))), (.long (c1 + (1 : Int64)))] (.long (0 : Int64)) := Arv.set Ar138 q138 S138 M138 Hh138 G138 rfl W139 1 rfl (Nat.le_of_ble_eq_true rfl)
    have N139 := Fr.snoc X139 N132 g_c
    have f141 := ((f120.other W132 (by omega : (v1 : Nat) ≠ tb)).other W139 (by omega : (v1 : Nat) ≠ cb))
    obtain ⟨cl142, Ar142, -, S142, M142, -, -⟩ := id f141
    have f143 := ((f124.wr W132 (Or.inl (List.mem_of_getElem? (i := 0) rfl))).wr W139 (Or.inl (List.mem_of_getElem? (i := 1) rfl)))
    have f144 := (f133.other W139 (by omega : (tb : Nat) ≠ cb))
    obtain ⟨fs, hr, hrun, hended, hW, hsame⟩ := X139.leave (v := none) (fun _ => rfl)
    refine ⟨_, _, pre0 _ ?_, hrun, hended, _, _, rfl, ?_, ⟨_, rfl⟩, hW, hsame.mono (by decide) (by decide)⟩
    · show Steps p.tables e below (s₁.setTop (mkF m 0 #[.val (.ref a1), .val (.ref v1), .unset] [])) _
      refine XS.iconst X0.here hx rfl (hb hby d_prog_38_method_2_code_0) ?_
      show Steps p.tables e below (s₁.setTop (mkF m 1 #[.val (.ref a1), .val (.ref v1), .unset] [(.int (0 : Int32))])) _
      refine XS.istoreN X0.here hx rfl (hb hby d_prog_38_method_2_code_1) rfl (l' := #[.val (.ref a1), .val (.ref v1), .val (.int (0 : Int32))]) rfl ?_
      show Steps p.tables e below (s₁.setTop (mkF m 2 #[.val (.ref a1), .val (.ref v1), .val (.int (0 : Int32))] [])) _
      refine XS.iloadN X0.here hx rfl (hb hby d_prog_38_method_2_code_2) rfl ?_
      show Steps p.tables e below (s₁.setTop (mkF m 3 #[.val (.ref a1), .val (.ref v1), .val (.int (0 : Int32))] [(.int (0 : Int32))])) _
      refine XS.aloadN X0.here hx rfl (hb hby d_prog_38_method_2_code_3) rfl rfl ?_
      show Steps p.tables e below (s₁.setTop (mkF m 4 #[.val (.ref a1), .val (.ref v1), .val (.int (0 : Int32))] [(.ref v1), (.int (0 : Int32))])) _
      refine X0.arraylength hx (by rw [e0]; exact Ar103.1) (State.isArrayOf_alike hZ.alike Ar103.2.1) (g := (mkF m 4 #[.val (.ref a1), .val (.ref v1), .val (.int (0 : Int32))] [(.ref v1), (.int (0 : Int32))])) rfl rfl (hb hby d_prog_38_method_2_code_4) _ ?_
      rw [len_of S103 M103]
      show Steps p.tables e below (s₁.setTop (mkF m 5 #[.val (.ref a1), .val (.ref v1), .val (.int (0 : Int32))] [(.int (2 : Int32)), (.int (0 : Int32))])) _
      refine XS.icmpNo X0.here hx rfl (hb hby d_prog_38_method_2_code_5) rfl (by decide) ?_
      show Steps p.tables e below (s₁.setTop (mkF m 8 #[.val (.ref a1), .val (.ref v1), .val (.int (0 : Int32))] [])) _
      refine XS.aloadN X0.here hx rfl (hb hby d_prog_38_method_2_code_8) rfl rfl ?_
      show Steps p.tables e below (s₁.setTop (mkF m 9 #[.val (.ref a1), .val (.ref v1), .val (.int (0 : Int32))] [(.ref v1)])) _
      refine XS.iloadN X0.here hx rfl (hb hby d_prog_38_method_2_code_9) rfl ?_
      show Steps p.tables e below (s₁.setTop (mkF m 10 #[.val (.ref a1), .val (.ref v1), .val (.int (0 : Int32))] [(.int (0 : Int32)), (.ref v1)])) _
      refine X0.daload hx (j := (0 : Int32)) (v := (.double (FP.i2d x0))) (by rw [e0]; exact Ar104.1) (State.isArrayOf_alike hZ.alike Ar104.2.1) Ar104.2.2 hin104 hat104 (g := (mkF m 10 #[.val (.ref a1), .val (.ref v1), .val (.int (0 : Int32))] [(.int (0 : Int32)), (.ref v1)])) rfl rfl (hb hby d_prog_38_method_2_code_10) _ ?_
      show Steps p.tables e below (s₁.setTop (mkF m 11 #[.val (.ref a1), .val (.ref v1), .val (.int (0 : Int32))] [(.double (FP.i2d x0))])) _
      refine st106 _ ?_
      show Steps p.tables e below (T106.setTop (mkF m 14 #[.val (.ref a1), .val (.ref v1), .val (.int (0 : Int32))] [(.int (0 : Int32))])) _
      refine XS.ifNo X106.here hx rfl (hb hby d_prog_38_method_2_code_14) rfl (by decide) ?_
      show Steps p.tables e below (T106.setTop (mkF m 17 #[.val (.ref a1), .val (.ref v1), .val (.int (0 : Int32))] [])) _
      refine XS.aloadN X106.here hx rfl (hb hby d_prog_38_method_2_code_17) rfl rfl ?_
      show Steps p.tables e below (T106.setTop (mkF m 18 #[.val (.ref a1), .val (.ref v1), .val (.int (0 : Int32))] [(.ref a1)])) _
      refine st107 _ ?_
      show Steps p.tables e below (T107.setTop (mkF m 21 #[.val (.ref a1), .val (.ref v1), .val (.int (0 : Int32))] [(.ref tb)])) _
      refine XS.iloadN X107.here hx rfl (hb hby d_prog_38_method_2_code_21) rfl ?_
      show Steps p.tables e below (T107.setTop (mkF m 22 #[.val (.ref a1), .val (.ref v1), .val (.int (0 : Int32))] [(.int (0 : Int32)), (.ref tb)])) _
      jvm_step X107.here [X107.here.top, hx, (hb hby d_prog_38_method_2_code_22), Value.category]
      show Steps p.tables e below (T107.setTop (mkF m 23 #[.val (.ref a1), .val (.ref v1), .val (.int (0 : Int32))] [(.int (0 : Int32)), (.ref tb), (.int (0 : Int32)), (.ref tb)])) _
      refine X107.daload hx (j := (0 : Int32)) (v := (.double (FP.l2d t0))) (by rw [e107]; exact Ar108.1) (State.isArrayOf_alike hZ.alike Ar108.2.1) Ar108.2.2 hin108 hat108 (g := (mkF m 23 #[.val (.ref a1), .val (.ref v1), .val (.int (0 : Int32))] [(.int (0 : Int32)), (.ref tb), (.int (0 : Int32)), (.ref tb)])) rfl rfl (hb hby d_prog_38_method_2_code_23) _ ?_
      show Steps p.tables e below (T107.setTop (mkF m 24 #[.val (.ref a1), .val (.ref v1), .val (.int (0 : Int32))] [(.double (FP.l2d t0)), (.int (0 : Int32)), (.ref tb)])) _
      refine XS.aloadN X107.here hx rfl (hb hby d_prog_38_method_2_code_24) rfl rfl ?_
      show Steps p.tables e below (T107.setTop (mkF m 25 #[.val (.ref a1), .val (.ref v1), .val (.int (0 : Int32))] [(.ref v1), (.double (FP.l2d t0)), (.int (0 : Int32)), (.ref tb)])) _
      refine XS.iloadN X107.here hx rfl (hb hby d_prog_38_method_2_code_25) rfl ?_
      show Steps p.tables e below (T107.setTop (mkF m 26 #[.val (.ref a1), .val (.ref v1), .val (.int (0 : Int32))] [(.int (0 : Int32)), (.ref v1), (.double (FP.l2d t0)), (.int (0 : Int32)), (.ref tb)])) _
      refine X107.daload hx (j := (0 : Int32)) (v := (.double (FP.i2d x0))) (by rw [e107]; exact Ar109.1) (State.isArrayOf_alike hZ.alike Ar109.2.1) Ar109.2.2 hin109 hat109 (g := (mkF m 26 #[.val (.ref a1), .val (.ref v1), .val (.int (0 : Int32))] [(.int (0 : Int32)), (.ref v1), (.double (FP.l2d t0)), (.int (0 : Int32)), (.ref tb)])) rfl rfl (hb hby d_prog_38_method_2_code_26) _ ?_
      show Steps p.tables e below (T107.setTop (mkF m 27 #[.val (.ref a1), .val (.ref v1), .val (.int (0 : Int32))] [(.double (FP.i2d x0)), (.double (FP.l2d t0)), (.int (0 : Int32)), (.ref tb)])) _
      refine XS.daddS X107.here hx rfl (v := (FP.l2d (t0 + x0.toInt64))) (hb hby d_prog_38_method_2_code_27) rfl (nn_w (own_addw x0 ht0)) (own_addw x0 ht0) ?_
      show Steps p.tables e below (T107.setTop (mkF m 28 #[.val (.ref a1), .val (.ref v1), .val (.int (0 : Int32))] [(.double (FP.l2d (t0 + x0.toInt64))), (.int (0 : Int32)), (.ref tb)])) _
      refine st111 _ ?_
      show Steps p.tables e below (T111.setTop (mkF m 29 #[.val (.ref a1), .val (.ref v1), .val (.int (0 : Int32))] [])) _
      refine XS.aloadN X111.here hx rfl (hb hby d_prog_38_method_2_code_29) rfl rfl ?_
      show Steps p.tables e below (T111.setTop (mkF m 30 #[.val (.ref a1), .val (.ref v1), .val (.int (0 : Int32))] [(.ref a1)])) _
      refine st114 _ ?_
      show Steps p.tables e below (T114.setTop (mkF m 33 #[.val (.ref a1), .val (.ref v1), .val (.int (0 : Int32))] [(.ref cb)])) _
      refine XS.iloadN X114.here hx rfl (hb hby d_prog_38_method_2_code_33) rfl ?_
      show Steps p.tables e below (T114.setTop (mkF m 34 #[.val (.ref a1), .val (.ref v1), .val (.int (0 : Int32))] [(.int (0 : Int32)), (.ref cb)])) _
      jvm_step X114.here [X114.here.top, hx, (hb hby d_prog_38_method_2_code_34), Value.category]
      show Steps p.tables e below (T114.setTop (mkF m 35 #[.val (.ref a1), .val (.ref v1), .val (.int (0 : Int32))] [(.int (0 : Int32)), (.ref cb), (.int (0 : Int32)), (.ref cb)])) _
      refine X114.laload hx (j := (0 : Int32)) (v := (.long c0)) (by rw [e114]; exact Ar116.1) (State.isArrayOf_alike hZ.alike Ar116.2.1) Ar116.2.2 hin116 hat116 (g := (mkF m 35 #[.val (.ref a1), .val (.ref v1), .val (.int (0 : Int32))] [(.int (0 : Int32)), (.ref cb), (.int (0 : Int32)), (.ref cb)])) rfl rfl (hb hby d_prog_38_method_2_code_35) _ ?_
      show Steps p.tables e below (T114.setTop (mkF m 36 #[.val (.ref a1), .val (.ref v1), .val (.int (0 : Int32))] [(.long c0), (.int (0 : Int32)), (.ref cb)])) _
      refine XS.lconst X114.here hx rfl (hb hby d_prog_38_method_2_code_36) ?_
      show Steps p.tables e below (T114.setTop (mkF m 37 #[.val (.ref a1), .val (.ref v1), .val (.int (0 : Int32))] [(.long (1 : Int64)), (.long c0), (.int (0 : Int32)), (.ref cb)])) _
      refine XS.ladd X114.here hx rfl (hb hby d_prog_38_method_2_code_37) rfl ?_
      show Steps p.tables e below (T114.setTop (mkF m 38 #[.val (.ref a1), .val (.ref v1), .val (.int (0 : Int32))] [(.long (c0 + (1 : Int64))), (.int (0 : Int32)), (.ref cb)])) _
      refine st118 _ ?_
      show Steps p.tables e below (T118.setTop (mkF m 39 #[.val (.ref a1), .val (.ref v1), .val (.int (0 : Int32))] [])) _
      refine XS.iinc X118.here hx rfl (hb hby d_prog_38_method_2_code_39) rfl (l' := #[.val (.ref a1), .val (.ref v1), .val (.int (1 : Int32))]) rfl ?_
      show Steps p.tables e below (T118.setTop (mkF m 42 #[.val (.ref a1), .val (.ref v1), .val (.int (1 : Int32))] [])) _
      refine XS.goto X118.here hx rfl (pc0 := 42) (pc' := 2) rfl (hb hby d_prog_38_method_2_code_42) (by decide) (by decide) ?_
      show Steps p.tables e below (T118.setTop (mkF m 2 #[.val (.ref a1), .val (.ref v1), .val (.int (1 : Int32))] [])) _
      refine XS.iloadN X118.here hx rfl (hb hby d_prog_38_method_2_code_2) rfl ?_
      show Steps p.tables e below (T118.setTop (mkF m 3 #[.val (.ref a1), .val (.ref v1), .val (.int (1 : Int32))] [(.int (1 : Int32))])) _
      refine XS.aloadN X118.here hx rfl (hb hby d_prog_38_method_2_code_3) rfl rfl ?_
      show Steps p.tables e below (T118.setTop (mkF m 4 #[.val (.ref a1), .val (.ref v1), .val (.int (1 : Int32))] [(.ref v1), (.int (1 : Int32))])) _
      refine X118.arraylength hx (by rw [e118]; exact Ar121.1) (State.isArrayOf_alike hZ.alike Ar121.2.1) (g := (mkF m 4 #[.val (.ref a1), .val (.ref v1), .val (.int (1 : Int32))] [(.ref v1), (.int (1 : Int32))])) rfl rfl (hb hby d_prog_38_method_2_code_4) _ ?_
      rw [len_of S121 M121]
      show Steps p.tables e below (T118.setTop (mkF m 5 #[.val (.ref a1), .val (.ref v1), .val (.int (1 : Int32))] [(.int (2 : Int32)), (.int (1 : Int32))])) _
      refine XS.icmpNo X118.here hx rfl (hb hby d_prog_38_method_2_code_5) rfl (by decide) ?_
      show Steps p.tables e below (T118.setTop (mkF m 8 #[.val (.ref a1), .val (.ref v1), .val (.int (1 : Int32))] [])) _
      refine XS.aloadN X118.here hx rfl (hb hby d_prog_38_method_2_code_8) rfl rfl ?_
      show Steps p.tables e below (T118.setTop (mkF m 9 #[.val (.ref a1), .val (.ref v1), .val (.int (1 : Int32))] [(.ref v1)])) _
      refine XS.iloadN X118.here hx rfl (hb hby d_prog_38_method_2_code_9) rfl ?_
      show Steps p.tables e below (T118.setTop (mkF m 10 #[.val (.ref a1), .val (.ref v1), .val (.int (1 : Int32))] [(.int (1 : Int32)), (.ref v1)])) _
      refine X118.daload hx (j := (1 : Int32)) (v := (.double (FP.i2d x1))) (by rw [e118]; exact Ar122.1) (State.isArrayOf_alike hZ.alike Ar122.2.1) Ar122.2.2 hin122 hat122 (g := (mkF m 10 #[.val (.ref a1), .val (.ref v1), .val (.int (1 : Int32))] [(.int (1 : Int32)), (.ref v1)])) rfl rfl (hb hby d_prog_38_method_2_code_10) _ ?_
      show Steps p.tables e below (T118.setTop (mkF m 11 #[.val (.ref a1), .val (.ref v1), .val (.int (1 : Int32))] [(.double (FP.i2d x1))])) _
      refine st125 _ ?_
      show Steps p.tables e below (T125.setTop (mkF m 14 #[.val (.ref a1), .val (.ref v1), .val (.int (1 : Int32))] [(.int (0 : Int32))])) _
      refine XS.ifNo X125.here hx rfl (hb hby d_prog_38_method_2_code_14) rfl (by decide) ?_
      show Steps p.tables e below (T125.setTop (mkF m 17 #[.val (.ref a1), .val (.ref v1), .val (.int (1 : Int32))] [])) _
      refine XS.aloadN X125.here hx rfl (hb hby d_prog_38_method_2_code_17) rfl rfl ?_
      show Steps p.tables e below (T125.setTop (mkF m 18 #[.val (.ref a1), .val (.ref v1), .val (.int (1 : Int32))] [(.ref a1)])) _
      refine st127 _ ?_
      show Steps p.tables e below (T127.setTop (mkF m 21 #[.val (.ref a1), .val (.ref v1), .val (.int (1 : Int32))] [(.ref tb)])) _
      refine XS.iloadN X127.here hx rfl (hb hby d_prog_38_method_2_code_21) rfl ?_
      show Steps p.tables e below (T127.setTop (mkF m 22 #[.val (.ref a1), .val (.ref v1), .val (.int (1 : Int32))] [(.int (1 : Int32)), (.ref tb)])) _
      jvm_step X127.here [X127.here.top, hx, (hb hby d_prog_38_method_2_code_22), Value.category]
      show Steps p.tables e below (T127.setTop (mkF m 23 #[.val (.ref a1), .val (.ref v1), .val (.int (1 : Int32))] [(.int (1 : Int32)), (.ref tb), (.int (1 : Int32)), (.ref tb)])) _
      refine X127.daload hx (j := (1 : Int32)) (v := (.double (FP.l2d t1))) (by rw [e127]; exact Ar129.1) (State.isArrayOf_alike hZ.alike Ar129.2.1) Ar129.2.2 hin129 hat129 (g := (mkF m 23 #[.val (.ref a1), .val (.ref v1), .val (.int (1 : Int32))] [(.int (1 : Int32)), (.ref tb), (.int (1 : Int32)), (.ref tb)])) rfl rfl (hb hby d_prog_38_method_2_code_23) _ ?_
      show Steps p.tables e below (T127.setTop (mkF m 24 #[.val (.ref a1), .val (.ref v1), .val (.int (1 : Int32))] [(.double (FP.l2d t1)), (.int (1 : Int32)), (.ref tb)])) _
      refine XS.aloadN X127.here hx rfl (hb hby d_prog_38_method_2_code_24) rfl rfl ?_
      show Steps p.tables e below (T127.setTop (mkF m 25 #[.val (.ref a1), .val (.ref v1), .val (.int (1 : Int32))] [(.ref v1), (.double (FP.l2d t1)), (.int (1 : Int32)), (.ref tb)])) _
      refine XS.iloadN X127.here hx rfl (hb hby d_prog_38_method_2_code_25) rfl ?_
      show Steps p.tables e below (T127.setTop (mkF m 26 #[.val (.ref a1), .val (.ref v1), .val (.int (1 : Int32))] [(.int (1 : Int32)), (.ref v1), (.double (FP.l2d t1)), (.int (1 : Int32)), (.ref tb)])) _
      refine X127.daload hx (j := (1 : Int32)) (v := (.double (FP.i2d x1))) (by rw [e127]; exact Ar130.1) (State.isArrayOf_alike hZ.alike Ar130.2.1) Ar130.2.2 hin130 hat130 (g := (mkF m 26 #[.val (.ref a1), .val (.ref v1), .val (.int (1 : Int32))] [(.int (1 : Int32)), (.ref v1), (.double (FP.l2d t1)), (.int (1 : Int32)), (.ref tb)])) rfl rfl (hb hby d_prog_38_method_2_code_26) _ ?_
      show Steps p.tables e below (T127.setTop (mkF m 27 #[.val (.ref a1), .val (.ref v1), .val (.int (1 : Int32))] [(.double (FP.i2d x1)), (.double (FP.l2d t1)), (.int (1 : Int32)), (.ref tb)])) _
      refine XS.daddS X127.here hx rfl (v := (FP.l2d (t1 + x1.toInt64))) (hb hby d_prog_38_method_2_code_27) rfl (nn_w (own_addw x1 ht1)) (own_addw x1 ht1) ?_
      show Steps p.tables e below (T127.setTop (mkF m 28 #[.val (.ref a1), .val (.ref v1), .val (.int (1 : Int32))] [(.double (FP.l2d (t1 + x1.toInt64))), (.int (1 : Int32)), (.ref tb)])) _
      refine st132 _ ?_
      show Steps p.tables e below (T132.setTop (mkF m 29 #[.val (.ref a1), .val (.ref v1), .val (.int (1 : Int32))] [])) _
      refine XS.aloadN X132.here hx rfl (hb hby d_prog_38_method_2_code_29) rfl rfl ?_
      show Steps p.tables e below (T132.setTop (mkF m 30 #[.val (.ref a1), .val (.ref v1), .val (.int (1 : Int32))] [(.ref a1)])) _
      refine st135 _ ?_
      show Steps p.tables e below (T135.setTop (mkF m 33 #[.val (.ref a1), .val (.ref v1), .val (.int (1 : Int32))] [(.ref cb)])) _
      refine XS.iloadN X135.here hx rfl (hb hby d_prog_38_method_2_code_33) rfl ?_
      show Steps p.tables e below (T135.setTop (mkF m 34 #[.val (.ref a1), .val (.ref v1), .val (.int (1 : Int32))] [(.int (1 : Int32)), (.ref cb)])) _
      jvm_step X135.here [X135.here.top, hx, (hb hby d_prog_38_method_2_code_34), Value.category]
      show Steps p.tables e below (T135.setTop (mkF m 35 #[.val (.ref a1), .val (.ref v1), .val (.int (1 : Int32))] [(.int (1 : Int32)), (.ref cb), (.int (1 : Int32)), (.ref cb)])) _
      refine X135.laload hx (j := (1 : Int32)) (v := (.long c1)) (by rw [e135]; exact Ar137.1) (State.isArrayOf_alike hZ.alike Ar137.2.1) Ar137.2.2 hin137 hat137 (g := (mkF m 35 #[.val (.ref a1), .val (.ref v1), .val (.int (1 : Int32))] [(.int (1 : Int32)), (.ref cb), (.int (1 : Int32)), (.ref cb)])) rfl rfl (hb hby d_prog_38_method_2_code_35) _ ?_
      show Steps p.tables e below (T135.setTop (mkF m 36 #[.val (.ref a1), .val (.ref v1), .val (.int (1 : Int32))] [(.long c1), (.int (1 : Int32)), (.ref cb)])) _
      refine XS.lconst X135.here hx rfl (hb hby d_prog_38_method_2_code_36) ?_
      show Steps p.tables e below (T135.setTop (mkF m 37 #[.val (.ref a1), .val (.ref v1), .val (.int (1 : Int32))] [(.long (1 : Int64)), (.long c1), (.int (1 : Int32)), (.ref cb)])) _
      refine XS.ladd X135.here hx rfl (hb hby d_prog_38_method_2_code_37) rfl ?_
      show Steps p.tables e below (T135.setTop (mkF m 38 #[.val (.ref a1), .val (.ref v1), .val (.int (1 : Int32))] [(.long (c1 + (1 : Int64))), (.int (1 : Int32)), (.ref cb)])) _
      refine st139 _ ?_
      show Steps p.tables e below (T139.setTop (mkF m 39 #[.val (.ref a1), .val (.ref v1), .val (.int (1 : Int32))] [])) _
      refine XS.iinc X139.here hx rfl (hb hby d_prog_38_method_2_code_39) rfl (l' := #[.val (.ref a1), .val (.ref v1), .val (.int (2 : Int32))]) rfl ?_
      show Steps p.tables e below (T139.setTop (mkF m 42 #[.val (.ref a1), .val (.ref v1), .val (.int (2 : Int32))] [])) _
      refine XS.goto X139.here hx rfl (pc0 := 42) (pc' := 2) rfl (hb hby d_prog_38_method_2_code_42) (by decide) (by decide) ?_
      show Steps p.tables e below (T139.setTop (mkF m 2 #[.val (.ref a1), .val (.ref v1), .val (.int (2 : Int32))] [])) _
      refine XS.iloadN X139.here hx rfl (hb hby d_prog_38_method_2_code_2) rfl ?_
      show Steps p.tables e below (T139.setTop (mkF m 3 #[.val (.ref a1), .val (.ref v1), .val (.int (2 : Int32))] [(.int (2 : Int32))])) _
      refine XS.aloadN X139.here hx rfl (hb hby d_prog_38_method_2_code_3) rfl rfl ?_
      show Steps p.tables e below (T139.setTop (mkF m 4 #[.val (.ref a1), .val (.ref v1), .val (.int (2 : Int32))] [(.ref v1), (.int (2 : Int32))])) _
      refine X139.arraylength hx (by rw [e139]; exact Ar142.1) (State.isArrayOf_alike hZ.alike Ar142.2.1) (g := (mkF m 4 #[.val (.ref a1), .val (.ref v1), .val (.int (2 : Int32))] [(.ref v1), (.int (2 : Int32))])) rfl rfl (hb hby d_prog_38_method_2_code_4) _ ?_
      rw [len_of S142 M142]
      show Steps p.tables e below (T139.setTop (mkF m 5 #[.val (.ref a1), .val (.ref v1), .val (.int (2 : Int32))] [(.int (2 : Int32)), (.int (2 : Int32))])) _
      refine XS.icmpYes X139.here hx rfl (pc0 := 5) (pc' := 45) rfl (hb hby d_prog_38_method_2_code_5) rfl (by decide) (by decide) (by decide) ?_
      show Steps p.tables e below (T139.setTop (mkF m 45 #[.val (.ref a1), .val (.ref v1), .val (.int (2 : Int32))] [])) _
      exact X139.returnOut hx Bd.returns (hb hby d_prog_38_method_2_code_45) hr
    · show Q3 Z a1 v1 tb cb kt kc w1 x0 x1 t0 t1 c0 c1 h0 n0 _ T139.heap _
      rw [e139]
      exact ⟨rfl, N139, f143, by rw [own_if1 hw0]; exact f144, by rw [own_if1 hw0]; exact f140⟩
theorem ef_4 (m : MethodId) (x0 : Addr) (x1 : Addr) : entryFrame m #[(.ref x0), (.ref x1)] 7 = mkF m 0 #[.val (.ref x0), .val (.ref x1), .unset, .unset, .unset, .unset, .unset] [] := by first | (simp [entryFrame, mkF, argsToLocals, Value.category]; done) | rfl
theorem pn_4 : plainName "com/example/outcry/outcry/core/Tally" = true := by first | (simp [plainName, overriddenIn]; done) | decide +kernel
def Q4 (Z : State) (a1 : Nat) (s1 : Nat) (tb : Nat) (cb : Nat) (rb : Nat) (mb : Nat) (qb : Nat) (st : Nat) (sc : Nat) (k_tb : ClassId) (k_cb : ClassId) (k_rb : ClassId) (k_mb : ClassId) (k_qb : ClassId) (k_st : ClassId) (k_sc : ClassId) (t0 : Int64) (t1 : Int64) (c0 : Int64) (c1 : Int64) (u0 : Int64) (u1 : Int64) (x0 : Int64) (x1 : Int64) (k0 : Int64) (k1 : Int64) (m0 : UInt64) (m1 : UInt64) (q0 : UInt64) (q1 : UInt64) (K : Nat) (Kq : Nat) (B : Int) (h0 : Heap) (n0 : Nat) (v : Option Value) (h : Heap) (L : List Loc) : Prop := v = none ∧ Fr n0 L ∧ Keep h0 h [tb, cb, rb, mb, qb] ∧ Arv Z h tb k_tb .double (2 : Int32) [(.double (FP.l2d (own_upd k0 t0 x0))), (.double (FP.l2d (own_upd k1 t1 x1)))] (.double (FP.l2d 0)) ∧ Arv Z h cb k_cb .long (2 : Int32) [(.long (own_upd k0 c0 k0)), (.long (own_upd k1 c1 k1))] (.long (0 : Int64)) ∧ ∃ (v0 v1 : Int64) (y0 y1 z0 z1 : UInt64), Arv Z h rb k_rb .long (2 : Int32) [(.long v0), (.long v1)] (.long (0 : Int64)) ∧ Arv Z h mb k_mb .double (2 : Int32) [(.double y0), (.double y1)] (.double (FP.l2d 0)) ∧ Arv Z h qb k_qb .double (2 : Int32) [(.double z0), (.double z1)] (.double (FP.l2d 0)) ∧ (0 ≤ v0.toInt ∧ own_bd (B + 1) v0) ∧ (0 ≤ v1.toInt ∧ own_bd (B + 1) v1) ∧ (Mag64 (K + 5) y0 ∧ Mag64 (K + 5) y1) ∧ (Mag64 (Kq + 2) z0 ∧ Mag64 (Kq + 2) z1)
set_option maxRecDepth 65536 in
set_option maxHeartbeats 40000000 in
theorem rm4 (l : Launch) (Z : State) (a0 : Array Value) (hw : ∀ d ∈ tables_1, d.before a0 Z = true) (ws : List Jvm.Cond) (a1 : Nat) (s1 : Nat) (tb : Nat) (cb : Nat) (rb : Nat) (mb : Nat) (qb : Nat) (st : Nat) (sc : Nat) (k_tb : ClassId) (k_cb : ClassId) (k_rb : ClassId) (k_mb : ClassId) (k_qb : ClassId) (k_st : ClassId) (k_sc : ClassId) (t0 : Int64) (t1 : Int64) (c0 : Int64) (c1 : Int64) (u0 : Int64) (u1 : Int64) (x0 : Int64) (x1 : Int64) (k0 : Int64) (k1 : Int64) (m0 : UInt64) (m1 : UInt64) (q0 : UInt64) (q1 : UInt64) (K : Nat) (Kq : Nat) (B : Int) (h0 : Heap) (n0 : Nat) (Z0 : n0 ≤ h0.size) (F_total : Fld Z h0 a1 "com/example/outcry/outcry/core/Tally" "total" "[D" (.ref tb)) (F_count : Fld Z h0 a1 "com/example/outcry/outcry/core/Tally" "count" "[J" (.ref cb)) (F_runsObserved : Fld Z h0 a1 "com/example/outcry/outcry/core/Tally" "runsObserved" "[J" (.ref rb)) (F_meanOfRunMeans : Fld Z h0 a1 "com/example/outcry/outcry/core/Tally" "meanOfRunMeans" "[D" (.ref mb)) (F_squaredDeviations : Fld Z h0 a1 "com/example/outcry/outcry/core/Tally" "squaredDeviations" "[D" (.ref qb)) (G_total : Fld Z h0 s1 "com/example/outcry/outcry/core/Tally$RunSums" "total" "[D" (.ref st)) (G_count : Fld Z h0 s1 "com/example/outcry/outcry/core/Tally$RunSums" "count" "[J" (.ref sc)) (V_tb : Arv Z h0 tb k_tb .double (2 : Int32) [(.double (FP.l2d t0)), (.double (FP.l2d t1))] (.double (FP.l2d 0))) (V_cb : Arv Z h0 cb k_cb .long (2 : Int32) [(.long c0), (.long c1)] (.long (0 : Int64))) (V_rb : Arv Z h0 rb k_rb .long (2 : Int32) [(.long u0), (.long u1)] (.long (0 : Int64))) (V_mb : Arv Z h0 mb k_mb .double (2 : Int32) [(.double m0), (.double m1)] (.double (FP.l2d 0))) (V_qb : Arv Z h0 qb k_qb .double (2 : Int32) [(.double q0), (.double q1)] (.double (FP.l2d 0))) (V_st : Arv Z h0 st k_st .double (2 : Int32) [(.double (FP.l2d x0)), (.double (FP.l2d x1))] (.double (FP.l2d 0))) (V_sc : Arv Z h0 sc k_sc .long (2 : Int32) [(.long k0), (.long k1)] (.long (0 : Int64))) (g_a : n0 ≤ a1) (o0 : a1 < tb) (o1 : tb < cb) (o2 : cb < rb) (o3 : rb < mb) (o4 : mb < qb) (o5 : qb < s1) (o6 : s1 < st) (o7 : st < sc) (ht0 : B53 t0) (ht1 : B53 t1) (hx0 : B53 x0) (hx1 : B53 x1) (hu0 : 0 ≤ u0.toInt) (hv0 : own_bd B u0) (hu1 : 0 ≤ u1.toInt) (hv1 : own_bd B u1) (hB : B ≤ 2 ^ 40) (hm0 : Mag64 K m0) (hm1 : Mag64 K m1) (hq0 : Mag64 Kq q0) (hq1 : Mag64 Kq q1) (hK1 : 1089 ≤ K) (hK2 : K ≤ 1200) (hK3 : 1400 ≤ Kq) (hK4 : Kq ≤ 2000) :
    MetFree l (⟨"com/example/outcry/outcry/core/Tally", "add", "(Lcom/example/outcry/outcry/core/Tally$RunSums;)V"⟩ : MethodName) (head1 (Jvm.Cond.code (⟨"com/example/outcry/outcry/core/Tally", "add", "(Lcom/example/outcry/outcry/core/Tally$RunSums;)V"⟩ : MethodName) prog_37_method_2_code 7 none :: ws) ({ frames := 0, cells := 0, slots := 0, locals := 0 } : Room)) (fun a U => a = #[(.ref a1), (.ref s1)] ∧ Z.Warmed39 U.vm ∧ U.heap = h0) (fun _ _ _ _ _ => True) (fun _ U o U' => ∃ v L, o = .returned v ∧ Q4 Z a1 s1 tb cb rb mb qb st sc k_tb k_cb k_rb k_mb k_qb k_st k_sc t0 t1 c0 c1 u0 u1 x0 x1 k0 k1 m0 m1 q0 q1 K Kq B h0 n0 v U'.heap L ∧ FrameEnd U o U' L ({ frames := 0, cells := 0, slots := 0, locals := 0 } : Room).cells ({ frames := 0, cells := 0, slots := 0, locals := 0 } : Room).slots) := by
  refine MetFree.of_bodySF (plainFor_of_name pn_4) hisR ?_
  intro p e s m args below meth c s₁ Bd hml0 hP hK
  obtain ⟨rfl, hZ, hh⟩ := hP
  have hx := Bd.exec
  have hby := Bd.bytes
  have hml : c.maxLocals = 7 := hml0
  have hown : s.vm.findClass "com/example/outcry/outcry/core/Tally" = some m.cls := findClass_of_methodNamed Bd.named
  have hnm := (name_of_methodNamed Bd.named Bd.method).1
  have X0 : Stand p l e ({ frames := 0, cells := 0, slots := 0, locals := 0 } : Room) s m #[(.ref a1), (.ref s1)] below meth c s₁ [] 0 0 := Stand.of_body Bd
  have e0 : s₁.heap = h0 := by rw [← hh, Bd.state]; rfl
  have N0 := Fr.nil n0
  have pre0 : ∀ t, Steps p.tables e below (s₁.setTop (mkF m 0 #[.val (.ref a1), .val (.ref s1), .unset, .unset, .unset, .unset, .unset] [])) t → Steps p.tables e below (s₁.setTop (entryFrame m #[(.ref a1), (.ref s1)] 7)) t := fun t k => castTop (ef_4 m a1 s1) k
  by_cases hk0 : k0 = (0 : Int64)
  · by_cases hk1 : k1 = (0 : Int64)
    · obtain ⟨T145, X145, e145, st145⟩ := getF X0 hx hZ hown (host := "") (Or.inl (hw _ (List.mem_of_getElem? (i := 10) rfl))) Via.refl e0 F_total (g := (mkF m 4 #[.val (.ref a1), .val (.ref s1), .val (.int (0 : Int32)), .unset, .unset, .unset, .unset] [(.ref a1), (.int (0 : Int32))])) rfl rfl (hb hby d_prog_37_method_2_code_4)
      obtain ⟨cl146, Ar146, -, S146, M146, -, -⟩ := id V_tb
      obtain ⟨cl147, Ar147, hin147, hat147⟩ := own_at V_sc (0 : Int32) 0 rfl (by decide) (by decide)
      obtain ⟨T148, X148, e148, st148⟩ := getF X145 hx hZ hown (host := "") (Or.inl (hw _ (List.mem_of_getElem? (i := 10) rfl))) Via.refl e145 F_total (g := (mkF m 4 #[.val (.ref a1), .val (.ref s1), .val (.int (1 : Int32)), .unset, .unset, .unset, .unset] [(.ref a1), (.int (1 : Int32))])) rfl rfl (hb hby d_prog_37_method_2_code_4)
      obtain ⟨cl149, Ar149, -, S149, M149, -, -⟩ := id V_tb
      obtain ⟨cl150, Ar150, hin150, hat150⟩ := own_at V_sc (1 : Int32) 1 rfl (by decide) (by decide)
      obtain ⟨T151, X151, e151, st151⟩ := getF X148 hx hZ hown (host := "") (Or.inl (hw _ (List.mem_of_getElem? (i := 10) rfl))) Via.refl e148 F_total (g := (mkF m 4 #[.val (.ref a1), .val (.ref s1), .val (.int (2 : Int32)), .unset, .unset, .unset, .unset] [(.ref a1), (.int (2 : Int32))])) rfl rfl (hb hby d_prog_37_method_2_code_4)
      obtain ⟨cl152, Ar152, -, S152, M152, -, -⟩ := id V_tb
      obtain ⟨fs, hr, hrun, hended, hW, hsame⟩ := X151.leave (v := none) (fun _ => rfl)
      refine ⟨_, _, pre0 _ ?_, hrun, hended, _, _, rfl, ?_, ⟨_, rfl⟩, hW, hsame.mono (by decide) (by decide)⟩
      · show Steps p.tables e below (s₁.setTop (mkF m 0 #[.val (.ref a1), .val (.ref s1), .unset, .unset, .unset, .unset, .unset] [])) _
        refine XS.iconst X0.here hx rfl (hb hby d_prog_37_method_2_code_0) ?_
        show Steps p.tables e below (s₁.setTop (mkF m 1 #[.val (.ref a1), .val (.ref s1), .unset, .unset, .unset, .unset, .unset] [(.int (0 : Int32))])) _
        refine XS.istoreN X0.here hx rfl (hb hby d_prog_37_method_2_code_1) rfl (l' := #[.val (.ref a1), .val (.ref s1), .val (.int (0 : Int32)), .unset, .unset, .unset, .unset]) rfl ?_
        show Steps p.tables e below (s₁.setTop (mkF m 2 #[.val (.ref a1), .val (.ref s1), .val (.int (0 : Int32)), .unset, .unset, .unset, .unset] [])) _
        refine XS.iloadN X0.here hx rfl (hb hby d_prog_37_method_2_code_2) rfl ?_
        show Steps p.tables e below (s₁.setTop (mkF m 3 #[.val (.ref a1), .val (.ref s1), .val (.int (0 : Int32)), .unset, .unset, .unset, .unset] [(.int (0 : Int32))])) _
        refine XS.aloadN X0.here hx rfl (hb hby d_prog_37_method_2_code_3) rfl rfl ?_
        show Steps p.tables e below (s₁.setTop (mkF m 4 #[.val (.ref a1), .val (.ref s1), .val (.int (0 : Int32)), .unset, .unset, .unset, .unset] [(.ref a1), (.int (0 : Int32))])) _
        refine st145 _ ?_
        show Steps p.tables e below (T145.setTop (mkF m 7 #[.val (.ref a1), .val (.ref s1), .val (.int (0 : Int32)), .unset, .unset, .unset, .unset] [(.ref tb), (.int (0 : Int32))])) _
        refine X145.arraylength hx (by rw [e145]; exact Ar146.1) (State.isArrayOf_alike hZ.alike Ar146.2.1) (g := (mkF m 7 #[.val (.ref a1), .val (.ref s1), .val (.int (0 : Int32)), .unset, .unset, .unset, .unset] [(.ref tb), (.int (0 : Int32))])) rfl rfl (hb hby d_prog_37_method_2_code_7) _ ?_
        rw [len_of S146 M146]
        show Steps p.tables e below (T145.setTop (mkF m 8 #[.val (.ref a1), .val (.ref s1), .val (.int (0 : Int32)), .unset, .unset, .unset, .unset] [(.int (2 : Int32)), (.int (0 : Int32))])) _
        refine XS.icmpNo X145.here hx rfl (hb hby d_prog_37_method_2_code_8) rfl (by decide) ?_
        show Steps p.tables e below (T145.setTop (mkF m 11 #[.val (.ref a1), .val (.ref s1), .val (.int (0 : Int32)), .unset, .unset, .unset, .unset] [])) _
        refine XS.aloadN X145.here hx rfl (hb hby d_prog_37_method_2_code_11) rfl rfl ?_
        show Steps p.tables e below (T145.setTop (mkF m 12 #[.val (.ref a1), .val (.ref s1), .val (.int (0 : Int32)), .unset, .unset, .unset, .unset] [(.ref s1)])) _
        refine getR X145 hx hZ hown (hw _ (List.mem_of_getElem? (i := 46) rfl)) e145 G_count (g := (mkF m 12 #[.val (.ref a1), .val (.ref s1), .val (.int (0 : Int32)), .unset, .unset, .unset, .unset] [(.ref s1)])) rfl rfl (hb hby d_prog_37_method_2_code_12) ?_
        show Steps p.tables e below (T145.setTop (mkF m 15 #[.val (.ref a1), .val (.ref s1), .val (.int (0 : Int32)), .unset, .unset, .unset, .unset] [(.ref sc)])) _
        refine XS.iloadN X145.here hx rfl (hb hby d_prog_37_method_2_code_15) rfl ?_
        show Steps p.tables e below (T145.setTop (mkF m 16 #[.val (.ref a1), .val (.ref s1), .val (.int (0 : Int32)), .unset, .unset, .unset, .unset] [(.int (0 : Int32)), (.ref sc)])) _
        refine X145.laload hx (j := (0 : Int32)) (v := (.long k0)) (by rw [e145]; exact Ar147.1) (State.isArrayOf_alike hZ.alike Ar147.2.1) Ar147.2.2 hin147 hat147 (g := (mkF m 16 #[.val (.ref a1), .val (.ref s1), .val (.int (0 : Int32)), .unset, .unset, .unset, .unset] [(.int (0 : Int32)), (.ref sc)])) rfl rfl (hb hby d_prog_37_method_2_code_16) _ ?_
        show Steps p.tables e below (T145.setTop (mkF m 17 #[.val (.ref a1), .val (.ref s1), .val (.int (0 : Int32)), .unset, .unset, .unset, .unset] [(.long k0)])) _
        refine XS.lconst X145.here hx rfl (hb hby d_prog_37_method_2_code_17) ?_
        show Steps p.tables e below (T145.setTop (mkF m 18 #[.val (.ref a1), .val (.ref s1), .val (.int (0 : Int32)), .unset, .unset, .unset, .unset] [(.long (0 : Int64)), (.long k0)])) _
        refine XS.lcmp X145.here hx rfl (hb hby d_prog_37_method_2_code_18) rfl ?_
        show Steps p.tables e below (T145.setTop (mkF m 19 #[.val (.ref a1), .val (.ref s1), .val (.int (0 : Int32)), .unset, .unset, .unset, .unset] [(.int (lcmpW k0 (0 : Int64)))])) _
        refine XS.ifNo X145.here hx rfl (hb hby d_prog_37_method_2_code_19) rfl ((if0 _ _).trans (teq ((own_lc0 k0).mpr hk0)).2) ?_
        show Steps p.tables e below (T145.setTop (mkF m 22 #[.val (.ref a1), .val (.ref s1), .val (.int (0 : Int32)), .unset, .unset, .unset, .unset] [])) _
        refine XS.goto X145.here hx rfl (pc0 := 22) (pc' := 129) rfl (hb hby d_prog_37_method_2_code_22) (by decide) (by decide) ?_
        show Steps p.tables e below (T145.setTop (mkF m 129 #[.val (.ref a1), .val (.ref s1), .val (.int (0 : Int32)), .unset, .unset, .unset, .unset] [])) _
        refine XS.iinc X145.here hx rfl (hb hby d_prog_37_method_2_code_129) rfl (l' := #[.val (.ref a1), .val (.ref s1), .val (.int (1 : Int32)), .unset, .unset, .unset, .unset]) rfl ?_
        show Steps p.tables e below (T145.setTop (mkF m 132 #[.val (.ref a1), .val (.ref s1), .val (.int (1 : Int32)), .unset, .unset, .unset, .unset] [])) _
        refine XS.goto X145.here hx rfl (pc0 := 132) (pc' := 2) rfl (hb hby d_prog_37_method_2_code_132) (by decide) (by decide) ?_
        show Steps p.tables e below (T145.setTop (mkF m 2 #[.val (.ref a1), .val (.ref s1), .val (.int (1 : Int32)), .unset, .unset, .unset, .unset] [])) _
        refine XS.iloadN X145.here hx rfl (hb hby d_prog_37_method_2_code_2) rfl ?_
        show Steps p.tables e below (T145.setTop (mkF m 3 #[.val (.ref a1), .val (.ref s1), .val (.int (1 : Int32)), .unset, .unset, .unset, .unset] [(.int (1 : Int32))])) _
        refine XS.aloadN X145.here hx rfl (hb hby d_prog_37_method_2_code_3) rfl rfl ?_
        show Steps p.tables e below (T145.setTop (mkF m 4 #[.val (.ref a1), .val (.ref s1), .val (.int (1 : Int32)), .unset, .unset, .unset, .unset] [(.ref a1), (.int (1 : Int32))])) _
        refine st148 _ ?_
        show Steps p.tables e below (T148.setTop (mkF m 7 #[.val (.ref a1), .val (.ref s1), .val (.int (1 : Int32)), .unset, .unset, .unset, .unset] [(.ref tb), (.int (1 : Int32))])) _
        refine X148.arraylength hx (by rw [e148]; exact Ar149.1) (State.isArrayOf_alike hZ.alike Ar149.2.1) (g := (mkF m 7 #[.val (.ref a1), .val (.ref s1), .val (.int (1 : Int32)), .unset, .unset, .unset, .unset] [(.ref tb), (.int (1 : Int32))])) rfl rfl (hb hby d_prog_37_method_2_code_7) _ ?_
        rw [len_of S149 M149]
        show Steps p.tables e below (T148.setTop (mkF m 8 #[.val (.ref a1), .val (.ref s1), .val (.int (1 : Int32)), .unset, .unset, .unset, .unset] [(.int (2 : Int32)), (.int (1 : Int32))])) _
        refine XS.icmpNo X148.here hx rfl (hb hby d_prog_37_method_2_code_8) rfl (by decide) ?_
        show Steps p.tables e below (T148.setTop (mkF m 11 #[.val (.ref a1), .val (.ref s1), .val (.int (1 : Int32)), .unset, .unset, .unset, .unset] [])) _
        refine XS.aloadN X148.here hx rfl (hb hby d_prog_37_method_2_code_11) rfl rfl ?_
        show Steps p.tables e below (T148.setTop (mkF m 12 #[.val (.ref a1), .val (.ref s1), .val (.int (1 : Int32)), .unset, .unset, .unset, .unset] [(.ref s1)])) _
        refine getR X148 hx hZ hown (hw _ (List.mem_of_getElem? (i := 46) rfl)) e148 G_count (g := (mkF m 12 #[.val (.ref a1), .val (.ref s1), .val (.int (1 : Int32)), .unset, .unset, .unset, .unset] [(.ref s1)])) rfl rfl (hb hby d_prog_37_method_2_code_12) ?_
        show Steps p.tables e below (T148.setTop (mkF m 15 #[.val (.ref a1), .val (.ref s1), .val (.int (1 : Int32)), .unset, .unset, .unset, .unset] [(.ref sc)])) _
        refine XS.iloadN X148.here hx rfl (hb hby d_prog_37_method_2_code_15) rfl ?_
        show Steps p.tables e below (T148.setTop (mkF m 16 #[.val (.ref a1), .val (.ref s1), .val (.int (1 : Int32)), .unset, .unset, .unset, .unset] [(.int (1 : Int32)), (.ref sc)])) _
        refine X148.laload hx (j := (1 : Int32)) (v := (.long k1)) (by rw [e148]; exact Ar150.1) (State.isArrayOf_alike hZ.alike Ar150.2.1) Ar150.2.2 hin150 hat150 (g := (mkF m 16 #[.val (.ref a1), .val (.ref s1), .val (.int (1 : Int32)), .unset, .unset, .unset, .unset] [(.int (1 : Int32)), (.ref sc)])) rfl rfl (hb hby d_prog_37_method_2_code_16) _ ?_
        show Steps p.tables e below (T148.setTop (mkF m 17 #[.val (.ref a1), .val (.ref s1), .val (.int (1 : Int32)), .unset, .unset, .unset, .unset] [(.long k1)])) _
        refine XS.lconst X148.here hx rfl (hb hby d_prog_37_method_2_code_17) ?_
        show Steps p.tables e below (T148.setTop (mkF m 18 #[.val (.ref a1), .val (.ref s1), .val (.int (1 : Int32)), .unset, .unset, .unset, .unset] [(.long (0 : Int64)), (.long k1)])) _
        refine XS.lcmp X148.here hx rfl (hb hby d_prog_37_method_2_code_18) rfl ?_
        show Steps p.tables e below (T148.setTop (mkF m 19 #[.val (.ref a1), .val (.ref s1), .val (.int (1 : Int32)), .unset, .unset, .unset, .unset] [(.int (lcmpW k1 (0 : Int64)))])) _
        refine XS.ifNo X148.here hx rfl (hb hby d_prog_37_method_2_code_19) rfl ((if0 _ _).trans (teq ((own_lc0 k1).mpr hk1)).2) ?_
        show Steps p.tables e below (T148.setTop (mkF m 22 #[.val (.ref a1), .val (.ref s1), .val (.int (1 : Int32)), .unset, .unset, .unset, .unset] [])) _
        refine XS.goto X148.here hx rfl (pc0 := 22) (pc' := 129) rfl (hb hby d_prog_37_method_2_code_22) (by decide) (by decide) ?_
        show Steps p.tables e below (T148.setTop (mkF m 129 #[.val (.ref a1), .val (.ref s1), .val (.int (1 : Int32)), .unset, .unset, .unset, .unset] [])) _
        refine XS.iinc X148.here hx rfl (hb hby d_prog_37_method_2_code_129) rfl (l' := #[.val (.ref a1), .val (.ref s1), .val (.int (2 : Int32)), .unset, .unset, .unset, .unset]) rfl ?_
        show Steps p.tables e below (T148.setTop (mkF m 132 #[.val (.ref a1), .val (.ref s1), .val (.int (2 : Int32)), .unset, .unset, .unset, .unset] [])) _
        refine XS.goto X148.here hx rfl (pc0 := 132) (pc' := 2) rfl (hb hby d_prog_37_method_2_code_132) (by decide) (by decide) ?_
        show Steps p.tables e below (T148.setTop (mkF m 2 #[.val (.ref a1), .val (.ref s1), .val (.int (2 : Int32)), .unset, .unset, .unset, .unset] [])) _
        refine XS.iloadN X148.here hx rfl (hb hby d_prog_37_method_2_code_2) rfl ?_
        show Steps p.tables e below (T148.setTop (mkF m 3 #[.val (.ref a1), .val (.ref s1), .val (.int (2 : Int32)), .unset, .unset, .unset, .unset] [(.int (2 : Int32))])) _
        refine XS.aloadN X148.here hx rfl (hb hby d_prog_37_method_2_code_3) rfl rfl ?_
        show Steps p.tables e below (T148.setTop (mkF m 4 #[.val (.ref a1), .val (.ref s1), .val (.int (2 : Int32)), .unset, .unset, .unset, .unset] [(.ref a1), (.int (2 : Int32))])) _
        refine st151 _ ?_
        show Steps p.tables e below (T151.setTop (mkF m 7 #[.val (.ref a1), .val (.ref s1), .val (.int (2 : Int32)), .unset, .unset, .unset, .unset] [(.ref tb), (.int (2 : Int32))])) _
        refine X151.arraylength hx (by rw [e151]; exact Ar152.1) (State.isArrayOf_alike hZ.alike Ar152.2.1) (g := (mkF m 7 #[.val (.ref a1), .val (.ref s1), .val (.int (2 : Int32)), .unset, .unset, .unset, .unset] [(.ref tb), (.int (2 : Int32))])) rfl rfl (hb hby d_prog_37_method_2_code_7) _ ?_
        rw [len_of S152 M152]
        show Steps p.tables e below (T151.setTop (mkF m 8 #[.val (.ref a1), .val (.ref s1), .val (.int (2 : Int32)), .unset, .unset, .unset, .unset] [(.int (2 : Int32)), (.int (2 : Int32))])) _
        refine XS.icmpYes X151.here hx rfl (pc0 := 8) (pc' := 135) rfl (hb hby d_prog_37_method_2_code_8) rfl (by decide) (by decide) (by decide) ?_
        show Steps p.tables e below (T151.setTop (mkF m 135 #[.val (.ref a1), .val (.ref s1), .val (.int (2 : Int32)), .unset, .unset, .unset, .unset] [])) _
        exact X151.returnOut hx Bd.returns (hb hby d_prog_37_method_2_code_135) hr
      · show Q4 Z a1 s1 tb cb rb mb qb st sc k_tb k_cb k_rb k_mb k_qb k_st k_sc t0 t1 c0 c1 u0 u1 x0 x1 k0 k1 m0 m1 q0 q1 K Kq B h0 n0 _ T151.heap _
        rw [e151]
        exact ⟨rfl, N0, (Keep.refl h0 [tb, cb, rb, mb, qb]), by rw [own_upd0 hk0, own_upd0 hk1]; exact V_tb, by rw [own_upd0 hk0, own_upd0 hk1]; exact V_cb, u0, u1, m0, m1, q0, q1, V_rb, V_mb, V_qb, ⟨hu0, own_bd_mono hv0 (by omega)⟩, ⟨hu1, own_bd_mono hv1 (by omega)⟩, ⟨hm0.mono (by omega), hm1.mono (by omega)⟩, ⟨hq0.mono (by omega), hq1.mono (by omega)⟩⟩
    · obtain ⟨T153, X153, e153, st153⟩ := getF X0 hx hZ hown (host := "") (Or.inl (hw _ (List.mem_of_getElem? (i := 10) rfl))) Via.refl e0 F_total (g := (mkF m 4 #[.val (.ref a1), .val (.ref s1), .val (.int (0 : Int32)), .unset, .unset, .unset, .unset] [(.ref a1), (.int (0 : Int32))])) rfl rfl (hb hby d_prog_37_method_2_code_4)
      obtain ⟨cl154, Ar154, -, S154, M154, -, -⟩ := id V_tb
      obtain ⟨cl155, Ar155, hin155, hat155⟩ := own_at V_sc (0 : Int32) 0 rfl (by decide) (by decide)
      obtain ⟨n11, n12, n13, n14, n15, n16, n17, n18⟩ := own_turn (t := x1) hk1 (own_u1 hu1 hv1 hB).1 hm1 hq1 hK1 hK2 hK3 hK4
      obtain ⟨T156, X156, e156, st156⟩ := getF X153 hx hZ hown (host := "") (Or.inl (hw _ (List.mem_of_getElem? (i := 10) rfl))) Via.refl e153 F_total (g := (mkF m 4 #[.val (.ref a1), .val (.ref s1), .val (.int (1 : Int32)), .unset, .unset, .unset, .unset] [(.ref a1), (.int (1 : Int32))])) rfl rfl (hb hby d_prog_37_method_2_code_4)
      obtain ⟨cl157, Ar157, -, S157, M157, -, -⟩ := id V_tb
      obtain ⟨cl158, Ar158, hin158, hat158⟩ := own_at V_sc (1 : Int32) 1 rfl (by decide) (by decide)
      obtain ⟨cl159, Ar159, hin159, hat159⟩ := own_at V_st (1 : Int32) 1 rfl (by decide) (by decide)
      obtain ⟨cl160, Ar160, hin160, hat160⟩ := own_at V_sc (1 : Int32) 1 rfl (by decide) (by decide)
      obtain ⟨T161, X161, e161, st161⟩ := getF X156 hx hZ hown (host := "") (Or.inl (hw _ (List.mem_of_getElem? (i := 15) rfl))) Via.refl e156 F_runsObserved (g := (mkF m 41 #[.val (.ref a1), .val (.ref s1), .val (.int (1 : Int32)), .val (.double (FP.ddiv (FP.l2d x1) (FP.l2d k1))), .second, .unset, .unset] [(.ref a1)])) rfl rfl (hb hby d_prog_37_method_2_code_41)
      obtain ⟨cl162, Ar162, hin162, hat162⟩ := own_at V_rb (1 : Int32) 1 rfl (by decide) (by decide)
      obtain ⟨cl163, Ar163, q163, S163, M163, Hh163, G163⟩ := id V_rb
      obtain ⟨T164, h164, X164, e164, W164, st164⟩ := stJ X161 hx hZ e161 Ar163 (j := (1 : Int32)) (inb_of S163 ⟨by decide, by decide⟩) (g := (mkF m 49 #[.val (.ref a1), .val (.ref s1), .val (.int (1 : Int32)), .val (.double (FP.ddiv (FP.l2d x1) (FP.l2d k1))), .second, .unset, .unset] [(.long (u1 + (1 : Int64))), (.int (1 : Int32)), (.ref rb)])) rfl rfl (hb hby d_prog_37_method_2_code_49)
      have f165 : Arv Z h164 rb k_rb .long (2 : Int32) [(.long u0), (.long (u1 + (1 : Int64)))] (.long (0 : Int64)) := Arv.set Ar163 q163 S163 M163 Hh163 G163 rfl W164 1 rfl (Nat.le_of_ble_eq_true rfl)
      have N164 := Fr.snoc X164 N0 (by omega : n0 ≤ (rb : Nat))
      have f166 := (F_meanOfRunMeans.other W164 (Or.inl (by omega : (a1 : Nat) ≠ rb)))
      obtain ⟨T167, X167, e167, st167⟩ := getF X164 hx hZ hown (host := "") (Or.inl (hw _ (List.mem_of_getElem? (i := 17) rfl))) Via.refl e164 f166 (g := (mkF m 52 #[.val (.ref a1), .val (.ref s1), .val (.int (1 : Int32)), .val (.double (FP.ddiv (FP.l2d x1) (FP.l2d k1))), .second, .unset, .unset] [(.ref a1), (.double (FP.ddiv (FP.l2d x1) (FP.l2d k1)))])) rfl rfl (hb hby d_prog_37_method_2_code_52)
      have f168 := (V_mb.other W164 (by omega : (mb : Nat) ≠ rb))
      obtain ⟨cl169, Ar169, hin169, hat169⟩ := own_at f168 (1 : Int32) 1 rfl (by decide) (by decide)
      obtain ⟨T170, X170, e170, st170⟩ := getF X167 hx hZ hown (host := "") (Or.inl (hw _ (List.mem_of_getElem? (i := 17) rfl))) Via.refl e167 f166 (g := (mkF m 61 #[.val (.ref a1), .val (.ref s1), .val (.int (1 : Int32)), .val (.double (FP.ddiv (FP.l2d x1) (FP.l2d k1))), .second, .val (.double (own_d x1 k1 m1)), .second] [(.ref a1)])) rfl rfl (hb hby d_prog_37_method_2_code_61)
      obtain ⟨cl171, Ar171, hin171, hat171⟩ := own_at f168 (1 : Int32) 1 rfl (by decide) (by decide)
      have f172 := (F_runsObserved.other W164 (Or.inl (by omega : (a1 : Nat) ≠ rb)))
      obtain ⟨T173, X173, e173, st173⟩ := getF X170 hx hZ hown (host := "") (Or.inl (hw _ (List.mem_of_getElem? (i := 15) rfl))) Via.refl e170 f172 (g := (mkF m 70 #[.val (.ref a1), .val (.ref s1), .val (.int (1 : Int32)), .val (.double (FP.ddiv (FP.l2d x1) (FP.l2d k1))), .second, .val (.double (own_d x1 k1 m1)), .second] [(.ref a1), (.double (own_d x1 k1 m1)), (.double m1), (.int (1 : Int32)), (.ref mb)])) rfl rfl (hb hby d_prog_37_method_2_code_70)
      obtain ⟨cl174, Ar174, hin174, hat174⟩ := own_at f165 (1 : Int32) 1 rfl (by decide) (by decide)
      obtain ⟨cl175, Ar175, q175, S175, M175, Hh175, G175⟩ := id f168
      obtain ⟨T176, h176, X176, e176, W176, st176⟩ := stD X173 hx hZ e173 Ar175 (j := (1 : Int32)) (inb_of S175 ⟨by decide, by decide⟩) (g := (mkF m 78 #[.val (.ref a1), .val (.ref s1), .val (.int (1 : Int32)), .val (.double (FP.ddiv (FP.l2d x1) (FP.l2d k1))), .second, .val (.double (own_d x1 k1 m1)), .second] [(.double (own_m x1 k1 u1 m1)), (.int (1 : Int32)), (.ref mb)])) rfl rfl (hb hby d_prog_37_method_2_code_78)
      have f177 : Arv Z h176 mb k_mb .double (2 : Int32) [(.double m0), (.double (own_m x1 k1 u1 m1))] (.double (FP.l2d 0)) := Arv.set Ar175 q175 S175 M175 Hh175 G175 rfl W176 1 rfl (Nat.le_of_ble_eq_true rfl)
      have N176 := Fr.snoc X176 N164 (by omega : n0 ≤ (mb : Nat))
      have f178 := ((F_squaredDeviations.other W164 (Or.inl (by omega : (a1 : Nat) ≠ rb))).other W176 (Or.inl (by omega : (a1 : Nat) ≠ mb)))
      obtain ⟨T179, X179, e179, st179⟩ := getF X176 hx hZ hown (host := "") (Or.inl (hw _ (List.mem_of_getElem? (i := 19) rfl))) Via.refl e176 f178 (g := (mkF m 80 #[.val (.ref a1), .val (.ref s1), .val (.int (1 : Int32)), .val (.double (FP.ddiv (FP.l2d x1) (FP.l2d k1))), .second, .val (.double (own_d x1 k1 m1)), .second] [(.ref a1)])) rfl rfl (hb hby d_prog_37_method_2_code_80)
      have f180 := ((V_qb.other W164 (by omega : (qb : Nat) ≠ rb)).other W176 (by omega : (qb : Nat) ≠ mb))
      obtain ⟨cl181, Ar181, hin181, hat181⟩ := own_at f180 (1 : Int32) 1 rfl (by decide) (by decide)
      have f182 := (f166.other W176 (Or.inl (by omega : (a1 : Nat) ≠ mb)))
      obtain ⟨T183, X183, e183, st183⟩ := getF X179 hx hZ hown (host := "") (Or.inl (hw _ (List.mem_of_getElem? (i := 17) rfl))) Via.refl e179 f182 (g := (mkF m 90 #[.val (.ref a1), .val (.ref s1), .val (.int (1 : Int32)), .val (.double (FP.ddiv (FP.l2d x1) (FP.l2d k1))), .second, .val (.double (own_d x1 k1 m1)), .second] [(.ref a1), (.double (FP.ddiv (FP.l2d x1) (FP.l2d k1))), (.double (own_d x1 k1 m1)), (.double q1), (.int (1 : Int32)), (.ref qb)])) rfl rfl (hb hby d_prog_37_method_2_code_90)
      obtain ⟨cl184, Ar184, hin184, hat184⟩ := own_at f177 (1 : Int32) 1 rfl (by decide) (by decide)
      obtain ⟨cl185, Ar185, q185, S185, M185, Hh185, G185⟩ := id f180
      obtain ⟨T186, h186, X186, e186, W186, st186⟩ := stD X183 hx hZ e183 Ar185 (j := (1 : Int32)) (inb_of S185 ⟨by decide, by decide⟩) (g := (mkF m 98 #[.val (.ref a1), .val (.ref s1), .val (.int (1 : Int32)), .val (.double (FP.ddiv (FP.l2d x1) (FP.l2d k1))), .second, .val (.double (own_d x1 k1 m1)), .second] [(.double (own_q x1 k1 u1 m1 q1)), (.int (1 : Int32)), (.ref qb)])) rfl rfl (hb hby d_prog_37_method_2_code_98)
      have f187 : Arv Z h186 qb k_qb .double (2 : Int32) [(.double q0), (.double (own_q x1 k1 u1 m1 q1))] (.double (FP.l2d 0)) := Arv.set Ar185 q185 S185 M185 Hh185 G185 rfl W186 1 rfl (Nat.le_of_ble_eq_true rfl)
      have N186 := Fr.snoc X186 N176 (by omega : n0 ≤ (qb : Nat))
      have f188 := (((F_total.other W164 (Or.inl (by omega : (a1 : Nat) ≠ rb))).other W176 (Or.inl (by omega : (a1 : Nat) ≠ mb))).other W186 (Or.inl (by omega : (a1 : Nat) ≠ qb)))
      obtain ⟨T189, X189, e189, st189⟩ := getF X186 hx hZ hown (host := "") (Or.inl (hw _ (List.mem_of_getElem? (i := 10) rfl))) Via.refl e186 f188 (g := (mkF m 100 #[.val (.ref a1), .val (.ref s1), .val (.int (1 : Int32)), .val (.double (FP.ddiv (FP.l2d x1) (FP.l2d k1))), .second, .val (.double (own_d x1 k1 m1)), .second] [(.ref a1)])) rfl rfl (hb hby d_prog_37_method_2_code_100)
      have f190 := (((V_tb.other W164 (by omega : (tb : Nat) ≠ rb)).other W176 (by omega : (tb : Nat) ≠ mb)).other W186 (by omega : (tb : Nat) ≠ qb))
      obtain ⟨cl191, Ar191, hin191, hat191⟩ := own_at f190 (1 : Int32) 1 rfl (by decide) (by decide)
      have f192 := (((G_total.other W164 (Or.inl (by omega : (s1 : Nat) ≠ rb))).other W176 (Or.inl (by omega : (s1 : Nat) ≠ mb))).other W186 (Or.inl (by omega : (s1 : Nat) ≠ qb)))
      have f193 := (((V_st.other W164 (by omega : (st : Nat) ≠ rb)).other W176 (by omega : (st : Nat) ≠ mb)).other W186 (by omega : (st : Nat) ≠ qb))
      obtain ⟨cl194, Ar194, hin194, hat194⟩ := own_at f193 (1 : Int32) 1 rfl (by decide) (by decide)
      obtain ⟨cl195, Ar195, q195, S195, M195, Hh195, G195⟩ := id f190
      obtain ⟨T196, h196, X196, e196, W196, st196⟩ := stD X189 hx hZ e189 Ar195 (j := (1 : Int32)) (inb_of S195 ⟨by decide, by decide⟩) (g := (mkF m 113 #[.val (.ref a1), .val (.ref s1), .val (.int (1 : Int32)), .val (.double (FP.ddiv (FP.l2d x1) (FP.l2d k1))), .second, .val (.double (own_d x1 k1 m1)), .second] [(.double (FP.l2d (t1 + x1))), (.int (1 : Int32)), (.ref tb)])) rfl rfl (hb hby d_prog_37_method_2_code_113)
      have f197 : Arv Z h196 tb k_tb .double (2 : Int32) [(.double (FP.l2d t0)), (.double (FP.l2d (t1 + x1)))] (.double (FP.l2d 0)) := Arv.set Ar195 q195 S195 M195 Hh195 G195 rfl W196 1 rfl (Nat.le_of_ble_eq_true rfl)
      have N196 := Fr.snoc X196 N186 (by omega : n0 ≤ (tb : Nat))
      have f198 := ((((F_count.other W164 (Or.inl (by omega : (a1 : Nat) ≠ rb))).other W176 (Or.inl (by omega : (a1 : Nat) ≠ mb))).other W186 (Or.inl (by omega : (a1 : Nat) ≠ qb))).other W196 (Or.inl (by omega : (a1 : Nat) ≠ tb)))
      obtain ⟨T199, X199, e199, st199⟩ := getF X196 hx hZ hown (host := "") (Or.inl (hw _ (List.mem_of_getElem? (i := 13) rfl))) Via.refl e196 f198 (g := (mkF m 115 #[.val (.ref a1), .val (.ref s1), .val (.int (1 : Int32)), .val (.double (FP.ddiv (FP.l2d x1) (FP.l2d k1))), .second, .val (.double (own_d x1 k1 m1)), .second] [(.ref a1)])) rfl rfl (hb hby d_prog_37_method_2_code_115)
      have f200 := ((((V_cb.other W164 (by omega : (cb : Nat) ≠ rb)).other W176 (by omega : (cb : Nat) ≠ mb)).other W186 (by omega : (cb : Nat) ≠ qb)).other W196 (by omega : (cb : Nat) ≠ tb))
      obtain ⟨cl201, Ar201, hin201, hat201⟩ := own_at f200 (1 : Int32) 1 rfl (by decide) (by decide)
      have f202 := ((((G_count.other W164 (Or.inl (by omega : (s1 : Nat) ≠ rb))).other W176 (Or.inl (by omega : (s1 : Nat) ≠ mb))).other W186 (Or.inl (by omega : (s1 : Nat) ≠ qb))).other W196 (Or.inl (by omega : (s1 : Nat) ≠ tb)))
      have f203 := ((((V_sc.other W164 (by omega : (sc : Nat) ≠ rb)).other W176 (by omega : (sc : Nat) ≠ mb)).other W186 (by omega : (sc : Nat) ≠ qb)).other W196 (by omega : (sc : Nat) ≠ tb))
      obtain ⟨cl204, Ar204, hin204, hat204⟩ := own_at f203 (1 : Int32) 1 rfl (by decide) (by decide)
      obtain ⟨cl205, Ar205, q205, S205, M205, Hh205, G205⟩ := id f200
      obtain ⟨T206, h206, X206, e206, W206, st206⟩ := stJ X199 hx hZ e199 Ar205 (j := (1 : Int32)) (inb_of S205 ⟨by decide, by decide⟩) (g := (mkF m 128 #[.val (.ref a1), .val (.ref s1), .val (.int (1 : Int32)), .val (.double (FP.ddiv (FP.l2d x1) (FP.l2d k1))), .second, .val (.double (own_d x1 k1 m1)), .second] [(.long (c1 + k1)), (.int (1 : Int32)), (.ref cb)])) rfl rfl (hb hby d_prog_37_method_2_code_128)
      have f207 : Arv Z h206 cb k_cb .long (2 : Int32) [(.long c0), (.long (c1 + k1))] (.long (0 : Int64)) := Arv.set Ar205 q205 S205 M205 Hh205 G205 rfl W206 1 rfl (Nat.le_of_ble_eq_true rfl)
      have N206 := Fr.snoc X206 N196 (by omega : n0 ≤ (cb : Nat))
      have f208 := ((f188.other W196 (Or.inl (by omega : (a1 : Nat) ≠ tb))).other W206 (Or.inl (by omega : (a1 : Nat) ≠ cb)))
      obtain ⟨T209, X209, e209, st209⟩ := getF X206 hx hZ hown (host := "") (Or.inl (hw _ (List.mem_of_getElem? (i := 10) rfl))) Via.refl e206 f208 (g := (mkF m 4 #[.val (.ref a1), .val (.ref s1), .val (.int (2 : Int32)), .val (.double (FP.ddiv (FP.l2d x1) (FP.l2d k1))), .second, .val (.double (own_d x1 k1 m1)), .second] [(.ref a1), (.int (2 : Int32))])) rfl rfl (hb hby d_prog_37_method_2_code_4)
      have f210 := (f197.other W206 (by omega : (tb : Nat) ≠ cb))
      obtain ⟨cl211, Ar211, -, S211, M211, -, -⟩ := id f210
      have f212 := ((((((Keep.refl h0 [tb, cb, rb, mb, qb]).wr W164 (Or.inl (List.mem_of_getElem? (i := 2) rfl))).wr W176 (Or.inl (List.mem_of_getElem? (i := 3) rfl))).wr W186 (Or.inl (List.mem_of_getElem? (i := 4) rfl))).wr W196 (Or.inl (List.mem_of_getElem? (i := 0) rfl))).wr W206 (Or.inl (List.mem_of_getElem? (i := 1) rfl)))
      have f213 := ((((f165.other W176 (by omega : (rb : Nat) ≠ mb)).other W186 (by omega : (rb : Nat) ≠ qb)).other W196 (by omega : (rb : Nat) ≠ tb)).other W206 (by omega : (rb : Nat) ≠ cb))
      have f214 := (((f177.other W186 (by omega : (mb : Nat) ≠ qb)).other W196 (by omega : (mb : Nat) ≠ tb)).other W206 (by omega : (mb : Nat) ≠ cb))
      have f215 := ((f187.other W196 (by omega : (qb : Nat) ≠ tb)).other W206 (by omega : (qb : Nat) ≠ cb))
      obtain ⟨fs, hr, hrun, hended, hW, hsame⟩ := X209.leave (v := none) (fun _ => rfl)
      refine ⟨_, _, pre0 _ ?_, hrun, hended, _, _, rfl, ?_, ⟨_, rfl⟩, hW, hsame.mono (by decide) (by decide)⟩
      · show Steps p.tables e below (s₁.setTop (mkF m 0 #[.val (.ref a1), .val (.ref s1), .unset, .unset, .unset, .unset, .unset] [])) _
        refine XS.iconst X0.here hx rfl (hb hby d_prog_37_method_2_code_0) ?_
        show Steps p.tables e below (s₁.setTop (mkF m 1 #[.val (.ref a1), .val (.ref s1), .unset, .unset, .unset, .unset, .unset] [(.int (0 : Int32))])) _
        refine XS.istoreN X0.here hx rfl (hb hby d_prog_37_method_2_code_1) rfl (l' := #[.val (.ref a1), .val (.ref s1), .val (.int (0 : Int32)), .unset, .unset, .unset, .unset]) rfl ?_
        show Steps p.tables e below (s₁.setTop (mkF m 2 #[.val (.ref a1), .val (.ref s1), .val (.int (0 : Int32)), .unset, .unset, .unset, .unset] [])) _
        refine XS.iloadN X0.here hx rfl (hb hby d_prog_37_method_2_code_2) rfl ?_
        show Steps p.tables e below (s₁.setTop (mkF m 3 #[.val (.ref a1), .val (.ref s1), .val (.int (0 : Int32)), .unset, .unset, .unset, .unset] [(.int (0 : Int32))])) _
        refine XS.aloadN X0.here hx rfl (hb hby d_prog_37_method_2_code_3) rfl rfl ?_
        show Steps p.tables e below (s₁.setTop (mkF m 4 #[.val (.ref a1), .val (.ref s1), .val (.int (0 : Int32)), .unset, .unset, .unset, .unset] [(.ref a1), (.int (0 : Int32))])) _
        refine st153 _ ?_
        show Steps p.tables e below (T153.setTop (mkF m 7 #[.val (.ref a1), .val (.ref s1), .val (.int (0 : Int32)), .unset, .unset, .unset, .unset] [(.ref tb), (.int (0 : Int32))])) _
        refine X153.arraylength hx (by rw [e153]; exact Ar154.1) (State.isArrayOf_alike hZ.alike Ar154.2.1) (g := (mkF m 7 #[.val (.ref a1), .val (.ref s1), .val (.int (0 : Int32)), .unset, .unset, .unset, .unset] [(.ref tb), (.int (0 : Int32))])) rfl rfl (hb hby d_prog_37_method_2_code_7) _ ?_
        rw [len_of S154 M154]
        show Steps p.tables e below (T153.setTop (mkF m 8 #[.val (.ref a1), .val (.ref s1), .val (.int (0 : Int32)), .unset, .unset, .unset, .unset] [(.int (2 : Int32)), (.int (0 : Int32))])) _
        refine XS.icmpNo X153.here hx rfl (hb hby d_prog_37_method_2_code_8) rfl (by decide) ?_
        show Steps p.tables e below (T153.setTop (mkF m 11 #[.val (.ref a1), .val (.ref s1), .val (.int (0 : Int32)), .unset, .unset, .unset, .unset] [])) _
        refine XS.aloadN X153.here hx rfl (hb hby d_prog_37_method_2_code_11) rfl rfl ?_
        show Steps p.tables e below (T153.setTop (mkF m 12 #[.val (.ref a1), .val (.ref s1), .val (.int (0 : Int32)), .unset, .unset, .unset, .unset] [(.ref s1)])) _
        refine getR X153 hx hZ hown (hw _ (List.mem_of_getElem? (i := 46) rfl)) e153 G_count (g := (mkF m 12 #[.val (.ref a1), .val (.ref s1), .val (.int (0 : Int32)), .unset, .unset, .unset, .unset] [(.ref s1)])) rfl rfl (hb hby d_prog_37_method_2_code_12) ?_
        show Steps p.tables e below (T153.setTop (mkF m 15 #[.val (.ref a1), .val (.ref s1), .val (.int (0 : Int32)), .unset, .unset, .unset, .unset] [(.ref sc)])) _
        refine XS.iloadN X153.here hx rfl (hb hby d_prog_37_method_2_code_15) rfl ?_
        show Steps p.tables e below (T153.setTop (mkF m 16 #[.val (.ref a1), .val (.ref s1), .val (.int (0 : Int32)), .unset, .unset, .unset, .unset] [(.int (0 : Int32)), (.ref sc)])) _
        refine X153.laload hx (j := (0 : Int32)) (v := (.long k0)) (by rw [e153]; exact Ar155.1) (State.isArrayOf_alike hZ.alike Ar155.2.1) Ar155.2.2 hin155 hat155 (g := (mkF m 16 #[.val (.ref a1), .val (.ref s1), .val (.int (0 : Int32)), .unset, .unset, .unset, .unset] [(.int (0 : Int32)), (.ref sc)])) rfl rfl (hb hby d_prog_37_method_2_code_16) _ ?_
        show Steps p.tables e below (T153.setTop (mkF m 17 #[.val (.ref a1), .val (.ref s1), .val (.int (0 : Int32)), .unset, .unset, .unset, .unset] [(.long k0)])) _
        refine XS.lconst X153.here hx rfl (hb hby d_prog_37_method_2_code_17) ?_
        show Steps p.tables e below (T153.setTop (mkF m 18 #[.val (.ref a1), .val (.ref s1), .val (.int (0 : Int32)), .unset, .unset, .unset, .unset] [(.long (0 : Int64)), (.long k0)])) _
        refine XS.lcmp X153.here hx rfl (hb hby d_prog_37_method_2_code_18) rfl ?_
        show Steps p.tables e below (T153.setTop (mkF m 19 #[.val (.ref a1), .val (.ref s1), .val (.int (0 : Int32)), .unset, .unset, .unset, .unset] [(.int (lcmpW k0 (0 : Int64)))])) _
        refine XS.ifNo X153.here hx rfl (hb hby d_prog_37_method_2_code_19) rfl ((if0 _ _).trans (teq ((own_lc0 k0).mpr hk0)).2) ?_
        show Steps p.tables e below (T153.setTop (mkF m 22 #[.val (.ref a1), .val (.ref s1), .val (.int (0 : Int32)), .unset, .unset, .unset, .unset] [])) _
        refine XS.goto X153.here hx rfl (pc0 := 22) (pc' := 129) rfl (hb hby d_prog_37_method_2_code_22) (by decide) (by decide) ?_
        show Steps p.tables e below (T153.setTop (mkF m 129 #[.val (.ref a1), .val (.ref s1), .val (.int (0 : Int32)), .unset, .unset, .unset, .unset] [])) _
        refine XS.iinc X153.here hx rfl (hb hby d_prog_37_method_2_code_129) rfl (l' := #[.val (.ref a1), .val (.ref s1), .val (.int (1 : Int32)), .unset, .unset, .unset, .unset]) rfl ?_
        show Steps p.tables e below (T153.setTop (mkF m 132 #[.val (.ref a1), .val (.ref s1), .val (.int (1 : Int32)), .unset, .unset, .unset, .unset] [])) _
        refine XS.goto X153.here hx rfl (pc0 := 132) (pc' := 2) rfl (hb hby d_prog_37_method_2_code_132) (by decide) (by decide) ?_
        show Steps p.tables e below (T153.setTop (mkF m 2 #[.val (.ref a1), .val (.ref s1), .val (.int (1 : Int32)), .unset, .unset, .unset, .unset] [])) _
        refine XS.iloadN X153.here hx rfl (hb hby d_prog_37_method_2_code_2) rfl ?_
        show Steps p.tables e below (T153.setTop (mkF m 3 #[.val (.ref a1), .val (.ref s1), .val (.int (1 : Int32)), .unset, .unset, .unset, .unset] [(.int (1 : Int32))])) _
        refine XS.aloadN X153.here hx rfl (hb hby d_prog_37_method_2_code_3) rfl rfl ?_
        show Steps p.tables e below (T153.setTop (mkF m 4 #[.val (.ref a1), .val (.ref s1), .val (.int (1 : Int32)), .unset, .unset, .unset, .unset] [(.ref a1), (.int (1 : Int32))])) _
        refine st156 _ ?_
        show Steps p.tables e below (T156.setTop (mkF m 7 #[.val (.ref a1), .val (.ref s1), .val (.int (1 : Int32)), .unset, .unset, .unset, .unset] [(.ref tb), (.int (1 : Int32))])) _
        refine X156.arraylength hx (by rw [e156]; exact Ar157.1) (State.isArrayOf_alike hZ.alike Ar157.2.1) (g := (mkF m 7 #[.val (.ref a1), .val (.ref s1), .val (.int (1 : Int32)), .unset, .unset, .unset, .unset] [(.ref tb), (.int (1 : Int32))])) rfl rfl (hb hby d_prog_37_method_2_code_7) _ ?_
        rw [len_of S157 M157]
        show Steps p.tables e below (T156.setTop (mkF m 8 #[.val (.ref a1), .val (.ref s1), .val (.int (1 : Int32)), .unset, .unset, .unset, .unset] [(.int (2 : Int32)), (.int (1 : Int32))])) _
        refine XS.icmpNo X156.here hx rfl (hb hby d_prog_37_method_2_code_8) rfl (by decide) ?_
        show Steps p.tables e below (T156.setTop (mkF m 11 #[.val (.ref a1), .val (.ref s1), .val (.int (1 : Int32)), .unset, .unset, .unset, .unset] [])) _
        refine XS.aloadN X156.here hx rfl (hb hby d_prog_37_method_2_code_11) rfl rfl ?_
        show Steps p.tables e below (T156.setTop (mkF m 12 #[.val (.ref a1), .val (.ref s1), .val (.int (1 : Int32)), .unset, .unset, .unset, .unset] [(.ref s1)])) _
        refine getR X156 hx hZ hown (hw _ (List.mem_of_getElem? (i := 46) rfl)) e156 G_count (g := (mkF m 12 #[.val (.ref a1), .val (.ref s1), .val (.int (1 : Int32)), .unset, .unset, .unset, .unset] [(.ref s1)])) rfl rfl (hb hby d_prog_37_method_2_code_12) ?_
        show Steps p.tables e below (T156.setTop (mkF m 15 #[.val (.ref a1), .val (.ref s1), .val (.int (1 : Int32)), .unset, .unset, .unset, .unset] [(.ref sc)])) _
        refine XS.iloadN X156.here hx rfl (hb hby d_prog_37_method_2_code_15) rfl ?_
        show Steps p.tables e below (T156.setTop (mkF m 16 #[.val (.ref a1), .val (.ref s1), .val (.int (1 : Int32)), .unset, .unset, .unset, .unset] [(.int (1 : Int32)), (.ref sc)])) _
        refine X156.laload hx (j := (1 : Int32)) (v := (.long k1)) (by rw [e156]; exact Ar158.1) (State.isArrayOf_alike hZ.alike Ar158.2.1) Ar158.2.2 hin158 hat158 (g := (mkF m 16 #[.val (.ref a1), .val (.ref s1), .val (.int (1 : Int32)), .unset, .unset, .unset, .unset] [(.int (1 : Int32)), (.ref sc)])) rfl rfl (hb hby d_prog_37_method_2_code_16) _ ?_
        show Steps p.tables e below (T156.setTop (mkF m 17 #[.val (.ref a1), .val (.ref s1), .val (.int (1 : Int32)), .unset, .unset, .unset, .unset] [(.long k1)])) _
        refine XS.lconst X156.here hx rfl (hb hby d_prog_37_method_2_code_17) ?_
        show Steps p.tables e below (T156.setTop (mkF m 18 #[.val (.ref a1), .val (.ref s1), .val (.int (1 : Int32)), .unset, .unset, .unset, .unset] [(.long (0 : Int64)), (.long k1)])) _
        refine XS.lcmp X156.here hx rfl (hb hby d_prog_37_method_2_code_18) rfl ?_
        show Steps p.tables e below (T156.setTop (mkF m 19 #[.val (.ref a1), .val (.ref s1), .val (.int (1 : Int32)), .unset, .unset, .unset, .unset] [(.int (lcmpW k1 (0 : Int64)))])) _
        refine XS.ifYes X156.here hx rfl (pc0 := 19) (pc' := 25) rfl (hb hby d_prog_37_method_2_code_19) rfl ((if0 _ _).trans (feq (fun q => hk1 ((own_lc0 k1).mp q))).2) (by decide) (by decide) ?_
        show Steps p.tables e below (T156.setTop (mkF m 25 #[.val (.ref a1), .val (.ref s1), .val (.int (1 : Int32)), .unset, .unset, .unset, .unset] [])) _
        refine XS.aloadN X156.here hx rfl (hb hby d_prog_37_method_2_code_25) rfl rfl ?_
        show Steps p.tables e below (T156.setTop (mkF m 26 #[.val (.ref a1), .val (.ref s1), .val (.int (1 : Int32)), .unset, .unset, .unset, .unset] [(.ref s1)])) _
        refine getR X156 hx hZ hown (hw _ (List.mem_of_getElem? (i := 47) rfl)) e156 G_total (g := (mkF m 26 #[.val (.ref a1), .val (.ref s1), .val (.int (1 : Int32)), .unset, .unset, .unset, .unset] [(.ref s1)])) rfl rfl (hb hby d_prog_37_method_2_code_26) ?_
        show Steps p.tables e below (T156.setTop (mkF m 29 #[.val (.ref a1), .val (.ref s1), .val (.int (1 : Int32)), .unset, .unset, .unset, .unset] [(.ref st)])) _
        refine XS.iloadN X156.here hx rfl (hb hby d_prog_37_method_2_code_29) rfl ?_
        show Steps p.tables e below (T156.setTop (mkF m 30 #[.val (.ref a1), .val (.ref s1), .val (.int (1 : Int32)), .unset, .unset, .unset, .unset] [(.int (1 : Int32)), (.ref st)])) _
        refine X156.daload hx (j := (1 : Int32)) (v := (.double (FP.l2d x1))) (by rw [e156]; exact Ar159.1) (State.isArrayOf_alike hZ.alike Ar159.2.1) Ar159.2.2 hin159 hat159 (g := (mkF m 30 #[.val (.ref a1), .val (.ref s1), .val (.int (1 : Int32)), .unset, .unset, .unset, .unset] [(.int (1 : Int32)), (.ref st)])) rfl rfl (hb hby d_prog_37_method_2_code_30) _ ?_
        show Steps p.tables e below (T156.setTop (mkF m 31 #[.val (.ref a1), .val (.ref s1), .val (.int (1 : Int32)), .unset, .unset, .unset, .unset] [(.double (FP.l2d x1))])) _
        refine XS.aloadN X156.here hx rfl (hb hby d_prog_37_method_2_code_31) rfl rfl ?_
        show Steps p.tables e below (T156.setTop (mkF m 32 #[.val (.ref a1), .val (.ref s1), .val (.int (1 : Int32)), .unset, .unset, .unset, .unset] [(.ref s1), (.double (FP.l2d x1))])) _
        refine getR X156 hx hZ hown (hw _ (List.mem_of_getElem? (i := 46) rfl)) e156 G_count (g := (mkF m 32 #[.val (.ref a1), .val (.ref s1), .val (.int (1 : Int32)), .unset, .unset, .unset, .unset] [(.ref s1), (.double (FP.l2d x1))])) rfl rfl (hb hby d_prog_37_method_2_code_32) ?_
        show Steps p.tables e below (T156.setTop (mkF m 35 #[.val (.ref a1), .val (.ref s1), .val (.int (1 : Int32)), .unset, .unset, .unset, .unset] [(.ref sc), (.double (FP.l2d x1))])) _
        refine XS.iloadN X156.here hx rfl (hb hby d_prog_37_method_2_code_35) rfl ?_
        show Steps p.tables e below (T156.setTop (mkF m 36 #[.val (.ref a1), .val (.ref s1), .val (.int (1 : Int32)), .unset, .unset, .unset, .unset] [(.int (1 : Int32)), (.ref sc), (.double (FP.l2d x1))])) _
        refine X156.laload hx (j := (1 : Int32)) (v := (.long k1)) (by rw [e156]; exact Ar160.1) (State.isArrayOf_alike hZ.alike Ar160.2.1) Ar160.2.2 hin160 hat160 (g := (mkF m 36 #[.val (.ref a1), .val (.ref s1), .val (.int (1 : Int32)), .unset, .unset, .unset, .unset] [(.int (1 : Int32)), (.ref sc), (.double (FP.l2d x1))])) rfl rfl (hb hby d_prog_37_method_2_code_36) _ ?_
        show Steps p.tables e below (T156.setTop (mkF m 37 #[.val (.ref a1), .val (.ref s1), .val (.int (1 : Int32)), .unset, .unset, .unset, .unset] [(.long k1), (.double (FP.l2d x1))])) _
        refine XS.l2dS X156.here hx rfl (v := (FP.l2d k1)) (hb hby d_prog_37_method_2_code_37) rfl rfl ?_
        show Steps p.tables e below (T156.setTop (mkF m 38 #[.val (.ref a1), .val (.ref s1), .val (.int (1 : Int32)), .unset, .unset, .unset, .unset] [(.double (FP.l2d k1)), (.double (FP.l2d x1))])) _
        refine XS.ddivS X156.here hx rfl (v := (FP.ddiv (FP.l2d x1) (FP.l2d k1))) (hb hby d_prog_37_method_2_code_38) rfl (own_mean_nn hk1) rfl ?_
        show Steps p.tables e below (T156.setTop (mkF m 39 #[.val (.ref a1), .val (.ref s1), .val (.int (1 : Int32)), .unset, .unset, .unset, .unset] [(.double (FP.ddiv (FP.l2d x1) (FP.l2d k1)))])) _
        refine XS.dstoreN X156.here hx rfl (hb hby d_prog_37_method_2_code_39) rfl (l' := #[.val (.ref a1), .val (.ref s1), .val (.int (1 : Int32)), .val (.double (FP.ddiv (FP.l2d x1) (FP.l2d k1))), .second, .unset, .unset]) rfl ?_
        show Steps p.tables e below (T156.setTop (mkF m 40 #[.val (.ref a1), .val (.ref s1), .val (.int (1 : Int32)), .val (.double (FP.ddiv (FP.l2d x1) (FP.l2d k1))), .second, .unset, .unset] [])) _
        refine XS.aloadN X156.here hx rfl (hb hby d_prog_37_method_2_code_40) rfl rfl ?_
        show Steps p.tables e below (T156.setTop (mkF m 41 #[.val (.ref a1), .val (.ref s1), .val (.int (1 : Int32)), .val (.double (FP.ddiv (FP.l2d x1) (FP.l2d k1))), .second, .unset, .unset] [(.ref a1)])) _
        refine st161 _ ?_
        show Steps p.tables e below (T161.setTop (mkF m 44 #[.val (.ref a1), .val (.ref s1), .val (.int (1 : Int32)), .val (.double (FP.ddiv (FP.l2d x1) (FP.l2d k1))), .second, .unset, .unset] [(.ref rb)])) _
        refine XS.iloadN X161.here hx rfl (hb hby d_prog_37_method_2_code_44) rfl ?_
        show Steps p.tables e below (T161.setTop (mkF m 45 #[.val (.ref a1), .val (.ref s1), .val (.int (1 : Int32)), .val (.double (FP.ddiv (FP.l2d x1) (FP.l2d k1))), .second, .unset, .unset] [(.int (1 : Int32)), (.ref rb)])) _
        jvm_step X161.here [X161.here.top, hx, (hb hby d_prog_37_method_2_code_45), Value.category]
        show Steps p.tables e below (T161.setTop (mkF m 46 #[.val (.ref a1), .val (.ref s1), .val (.int (1 : Int32)), .val (.double (FP.ddiv (FP.l2d x1) (FP.l2d k1))), .second, .unset, .unset] [(.int (1 : Int32)), (.ref rb), (.int (1 : Int32)), (.ref rb)])) _
        refine X161.laload hx (j := (1 : Int32)) (v := (.long u1)) (by rw [e161]; exact Ar162.1) (State.isArrayOf_alike hZ.alike Ar162.2.1) Ar162.2.2 hin162 hat162 (g := (mkF m 46 #[.val (.ref a1), .val (.ref s1), .val (.int (1 : Int32)), .val (.double (FP.ddiv (FP.l2d x1) (FP.l2d k1))), .second, .unset, .unset] [(.int (1 : Int32)), (.ref rb), (.int (1 : Int32)), (.ref rb)])) rfl rfl (hb hby d_prog_37_method_2_code_46) _ ?_
        show Steps p.tables e below (T161.setTop (mkF m 47 #[.val (.ref a1), .val (.ref s1), .val (.int (1 : Int32)), .val (.double (FP.ddiv (FP.l2d x1) (FP.l2d k1))), .second, .unset, .unset] [(.long u1), (.int (1 : Int32)), (.ref rb)])) _
        refine XS.lconst X161.here hx rfl (hb hby d_prog_37_method_2_code_47) ?_
        show Steps p.tables e below (T161.setTop (mkF m 48 #[.val (.ref a1), .val (.ref s1), .val (.int (1 : Int32)), .val (.double (FP.ddiv (FP.l2d x1) (FP.l2d k1))), .second, .unset, .unset] [(.long (1 : Int64)), (.long u1), (.int (1 : Int32)), (.ref rb)])) _
        refine XS.ladd X161.here hx rfl (hb hby d_prog_37_method_2_code_48) rfl ?_
        show Steps p.tables e below (T161.setTop (mkF m 49 #[.val (.ref a1), .val (.ref s1), .val (.int (1 : Int32)), .val (.double (FP.ddiv (FP.l2d x1) (FP.l2d k1))), .second, .unset, .unset] [(.long (u1 + (1 : Int64))), (.int (1 : Int32)), (.ref rb)])) _
        refine st164 _ ?_
        show Steps p.tables e below (T164.setTop (mkF m 50 #[.val (.ref a1), .val (.ref s1), .val (.int (1 : Int32)), .val (.double (FP.ddiv (FP.l2d x1) (FP.l2d k1))), .second, .unset, .unset] [])) _
        refine XS.dloadN X164.here hx rfl (hb hby d_prog_37_method_2_code_50) rfl ?_
        show Steps p.tables e below (T164.setTop (mkF m 51 #[.val (.ref a1), .val (.ref s1), .val (.int (1 : Int32)), .val (.double (FP.ddiv (FP.l2d x1) (FP.l2d k1))), .second, .unset, .unset] [(.double (FP.ddiv (FP.l2d x1) (FP.l2d k1)))])) _
        refine XS.aloadN X164.here hx rfl (hb hby d_prog_37_method_2_code_51) rfl rfl ?_
        show Steps p.tables e below (T164.setTop (mkF m 52 #[.val (.ref a1), .val (.ref s1), .val (.int (1 : Int32)), .val (.double (FP.ddiv (FP.l2d x1) (FP.l2d k1))), .second, .unset, .unset] [(.ref a1), (.double (FP.ddiv (FP.l2d x1) (FP.l2d k1)))])) _
        refine st167 _ ?_
        show Steps p.tables e below (T167.setTop (mkF m 55 #[.val (.ref a1), .val (.ref s1), .val (.int (1 : Int32)), .val (.double (FP.ddiv (FP.l2d x1) (FP.l2d k1))), .second, .unset, .unset] [(.ref mb), (.double (FP.ddiv (FP.l2d x1) (FP.l2d k1)))])) _
        refine XS.iloadN X167.here hx rfl (hb hby d_prog_37_method_2_code_55) rfl ?_
        show Steps p.tables e below (T167.setTop (mkF m 56 #[.val (.ref a1), .val (.ref s1), .val (.int (1 : Int32)), .val (.double (FP.ddiv (FP.l2d x1) (FP.l2d k1))), .second, .unset, .unset] [(.int (1 : Int32)), (.ref mb), (.double (FP.ddiv (FP.l2d x1) (FP.l2d k1)))])) _
        refine X167.daload hx (j := (1 : Int32)) (v := (.double m1)) (by rw [e167]; exact Ar169.1) (State.isArrayOf_alike hZ.alike Ar169.2.1) Ar169.2.2 hin169 hat169 (g := (mkF m 56 #[.val (.ref a1), .val (.ref s1), .val (.int (1 : Int32)), .val (.double (FP.ddiv (FP.l2d x1) (FP.l2d k1))), .second, .unset, .unset] [(.int (1 : Int32)), (.ref mb), (.double (FP.ddiv (FP.l2d x1) (FP.l2d k1)))])) rfl rfl (hb hby d_prog_37_method_2_code_56) _ ?_
        show Steps p.tables e below (T167.setTop (mkF m 57 #[.val (.ref a1), .val (.ref s1), .val (.int (1 : Int32)), .val (.double (FP.ddiv (FP.l2d x1) (FP.l2d k1))), .second, .unset, .unset] [(.double m1), (.double (FP.ddiv (FP.l2d x1) (FP.l2d k1)))])) _
        refine XS.dsubS X167.here hx rfl (v := (own_d x1 k1 m1)) (hb hby d_prog_37_method_2_code_57) rfl n11 rfl ?_
        show Steps p.tables e below (T167.setTop (mkF m 58 #[.val (.ref a1), .val (.ref s1), .val (.int (1 : Int32)), .val (.double (FP.ddiv (FP.l2d x1) (FP.l2d k1))), .second, .unset, .unset] [(.double (own_d x1 k1 m1))])) _
        refine XS.dstore X167.here hx rfl (hb hby d_prog_37_method_2_code_58) rfl (l' := #[.val (.ref a1), .val (.ref s1), .val (.int (1 : Int32)), .val (.double (FP.ddiv (FP.l2d x1) (FP.l2d k1))), .second, .val (.double (own_d x1 k1 m1)), .second]) rfl ?_
        show Steps p.tables e below (T167.setTop (mkF m 60 #[.val (.ref a1), .val (.ref s1), .val (.int (1 : Int32)), .val (.double (FP.ddiv (FP.l2d x1) (FP.l2d k1))), .second, .val (.double (own_d x1 k1 m1)), .second] [])) _
        refine XS.aloadN X167.here hx rfl (hb hby d_prog_37_method_2_code_60) rfl rfl ?_
        show Steps p.tables e below (T167.setTop (mkF m 61 #[.val (.ref a1), .val (.ref s1), .val (.int (1 : Int32)), .val (.double (FP.ddiv (FP.l2d x1) (FP.l2d k1))), .second, .val (.double (own_d x1 k1 m1)), .second] [(.ref a1)])) _
        refine st170 _ ?_
        show Steps p.tables e below (T170.setTop (mkF m 64 #[.val (.ref a1), .val (.ref s1), .val (.int (1 : Int32)), .val (.double (FP.ddiv (FP.l2d x1) (FP.l2d k1))), .second, .val (.double (own_d x1 k1 m1)), .second] [(.ref mb)])) _
        refine XS.iloadN X170.here hx rfl (hb hby d_prog_37_method_2_code_64) rfl ?_
        show Steps p.tables e below (T170.setTop (mkF m 65 #[.val (.ref a1), .val (.ref s1), .val (.int (1 : Int32)), .val (.double (FP.ddiv (FP.l2d x1) (FP.l2d k1))), .second, .val (.double (own_d x1 k1 m1)), .second] [(.int (1 : Int32)), (.ref mb)])) _
        jvm_step X170.here [X170.here.top, hx, (hb hby d_prog_37_method_2_code_65), Value.category]
        show Steps p.tables e below (T170.setTop (mkF m 66 #[.val (.ref a1), .val (.ref s1), .val (.int (1 : Int32)), .val (.double (FP.ddiv (FP.l2d x1) (FP.l2d k1))), .second, .val (.double (own_d x1 k1 m1)), .second] [(.int (1 : Int32)), (.ref mb), (.int (1 : Int32)), (.ref mb)])) _
        refine X170.daload hx (j := (1 : Int32)) (v := (.double m1)) (by rw [e170]; exact Ar171.1) (State.isArrayOf_alike hZ.alike Ar171.2.1) Ar171.2.2 hin171 hat171 (g := (mkF m 66 #[.val (.ref a1), .val (.ref s1), .val (.int (1 : Int32)), .val (.double (FP.ddiv (FP.l2d x1) (FP.l2d k1))), .second, .val (.double (own_d x1 k1 m1)), .second] [(.int (1 : Int32)), (.ref mb), (.int (1 : Int32)), (.ref mb)])) rfl rfl (hb hby d_prog_37_method_2_code_66) _ ?_
        show Steps p.tables e below (T170.setTop (mkF m 67 #[.val (.ref a1), .val (.ref s1), .val (.int (1 : Int32)), .val (.double (FP.ddiv (FP.l2d x1) (FP.l2d k1))), .second, .val (.double (own_d x1 k1 m1)), .second] [(.double m1), (.int (1 : Int32)), (.ref mb)])) _
        refine XS.dload X170.here hx rfl (hb hby d_prog_37_method_2_code_67) rfl ?_
        show Steps p.tables e below (T170.setTop (mkF m 69 #[.val (.ref a1), .val (.ref s1), .val (.int (1 : Int32)), .val (.double (FP.ddiv (FP.l2d x1) (FP.l2d k1))), .second, .val (.double (own_d x1 k1 m1)), .second] [(.double (own_d x1 k1 m1)), (.double m1), (.int (1 : Int32)), (.ref mb)])) _
        refine XS.aloadN X170.here hx rfl (hb hby d_prog_37_method_2_code_69) rfl rfl ?_
        show Steps p.tables e below (T170.setTop (mkF m 70 #[.val (.ref a1), .val (.ref s1), .val (.int (1 : Int32)), .val (.double (FP.ddiv (FP.l2d x1) (FP.l2d k1))), .second, .val (.double (own_d x1 k1 m1)), .second] [(.ref a1), (.double (own_d x1 k1 m1)), (.double m1), (.int (1 : Int32)), (.ref mb)])) _
        refine st173 _ ?_
        show Steps p.tables e below (T173.setTop (mkF m 73 #[.val (.ref a1), .val (.ref s1), .val (.int (1 : Int32)), .val (.double (FP.ddiv (FP.l2d x1) (FP.l2d k1))), .second, .val (.double (own_d x1 k1 m1)), .second] [(.ref rb), (.double (own_d x1 k1 m1)), (.double m1), (.int (1 : Int32)), (.ref mb)])) _
        refine XS.iloadN X173.here hx rfl (hb hby d_prog_37_method_2_code_73) rfl ?_
        show Steps p.tables e below (T173.setTop (mkF m 74 #[.val (.ref a1), .val (.ref s1), .val (.int (1 : Int32)), .val (.double (FP.ddiv (FP.l2d x1) (FP.l2d k1))), .second, .val (.double (own_d x1 k1 m1)), .second] [(.int (1 : Int32)), (.ref rb), (.double (own_d x1 k1 m1)), (.double m1), (.int (1 : Int32)), (.ref mb)])) _
        refine X173.laload hx (j := (1 : Int32)) (v := (.long (u1 + (1 : Int64)))) (by rw [e173]; exact Ar174.1) (State.isArrayOf_alike hZ.alike Ar174.2.1) Ar174.2.2 hin174 hat174 (g := (mkF m 74 #[.val (.ref a1), .val (.ref s1), .val (.int (1 : Int32)), .val (.double (FP.ddiv (FP.l2d x1) (FP.l2d k1))), .second, .val (.double (own_d x1 k1 m1)), .second] [(.int (1 : Int32)), (.ref rb), (.double (own_d x1 k1 m1)), (.double m1), (.int (1 : Int32)), (.ref mb)])) rfl rfl (hb hby d_prog_37_method_2_code_74) _ ?_
        show Steps p.tables e below (T173.setTop (mkF m 75 #[.val (.ref a1), .val (.ref s1), .val (.int (1 : Int32)), .val (.double (FP.ddiv (FP.l2d x1) (FP.l2d k1))), .second, .val (.double (own_d x1 k1 m1)), .second] [(.long (u1 + (1 : Int64))), (.double (own_d x1 k1 m1)), (.double m1), (.int (1 : Int32)), (.ref mb)])) _
        refine XS.l2dS X173.here hx rfl (v := (FP.l2d (u1 + (1 : Int64)))) (hb hby d_prog_37_method_2_code_75) rfl rfl ?_
        show Steps p.tables e below (T173.setTop (mkF m 76 #[.val (.ref a1), .val (.ref s1), .val (.int (1 : Int32)), .val (.double (FP.ddiv (FP.l2d x1) (FP.l2d k1))), .second, .val (.double (own_d x1 k1 m1)), .second] [(.double (FP.l2d (u1 + (1 : Int64)))), (.double (own_d x1 k1 m1)), (.double m1), (.int (1 : Int32)), (.ref mb)])) _
        refine XS.ddivS X173.here hx rfl (v := (FP.ddiv (own_d x1 k1 m1) (FP.l2d (u1 + (1 : Int64))))) (hb hby d_prog_37_method_2_code_76) rfl n12 rfl ?_
        show Steps p.tables e below (T173.setTop (mkF m 77 #[.val (.ref a1), .val (.ref s1), .val (.int (1 : Int32)), .val (.double (FP.ddiv (FP.l2d x1) (FP.l2d k1))), .second, .val (.double (own_d x1 k1 m1)), .second] [(.double (FP.ddiv (own_d x1 k1 m1) (FP.l2d (u1 + (1 : Int64))))), (.double m1), (.int (1 : Int32)), (.ref mb)])) _
        refine XS.daddS X173.here hx rfl (v := (own_m x1 k1 u1 m1)) (hb hby d_prog_37_method_2_code_77) rfl n13 rfl ?_
        show Steps p.tables e below (T173.setTop (mkF m 78 #[.val (.ref a1), .val (.ref s1), .val (.int (1 : Int32)), .val (.double (FP.ddiv (FP.l2d x1) (FP.l2d k1))), .second, .val (.double (own_d x1 k1 m1)), .second] [(.double (own_m x1 k1 u1 m1)), (.int (1 : Int32)), (.ref mb)])) _
        refine st176 _ ?_
        show Steps p.tables e below (T176.setTop (mkF m 79 #[.val (.ref a1), .val (.ref s1), .val (.int (1 : Int32)), .val (.double (FP.ddiv (FP.l2d x1) (FP.l2d k1))), .second, .val (.double (own_d x1 k1 m1)), .second] [])) _
        refine XS.aloadN X176.here hx rfl (hb hby d_prog_37_method_2_code_79) rfl rfl ?_
        show Steps p.tables e below (T176.setTop (mkF m 80 #[.val (.ref a1), .val (.ref s1), .val (.int (1 : Int32)), .val (.double (FP.ddiv (FP.l2d x1) (FP.l2d k1))), .second, .val (.double (own_d x1 k1 m1)), .second] [(.ref a1)])) _
        refine st179 _ ?_
        show Steps p.tables e below (T179.setTop (mkF m 83 #[.val (.ref a1), .val (.ref s1), .val (.int (1 : Int32)), .val (.double (FP.ddiv (FP.l2d x1) (FP.l2d k1))), .second, .val (.double (own_d x1 k1 m1)), .second] [(.ref qb)])) _
        refine XS.iloadN X179.here hx rfl (hb hby d_prog_37_method_2_code_83) rfl ?_
        show Steps p.tables e below (T179.setTop (mkF m 84 #[.val (.ref a1), .val (.ref s1), .val (.int (1 : Int32)), .val (.double (FP.ddiv (FP.l2d x1) (FP.l2d k1))), .second, .val (.double (own_d x1 k1 m1)), .second] [(.int (1 : Int32)), (.ref qb)])) _
        jvm_step X179.here [X179.here.top, hx, (hb hby d_prog_37_method_2_code_84), Value.category]
        show Steps p.tables e below (T179.setTop (mkF m 85 #[.val (.ref a1), .val (.ref s1), .val (.int (1 : Int32)), .val (.double (FP.ddiv (FP.l2d x1) (FP.l2d k1))), .second, .val (.double (own_d x1 k1 m1)), .second] [(.int (1 : Int32)), (.ref qb), (.int (1 : Int32)), (.ref qb)])) _
        refine X179.daload hx (j := (1 : Int32)) (v := (.double q1)) (by rw [e179]; exact Ar181.1) (State.isArrayOf_alike hZ.alike Ar181.2.1) Ar181.2.2 hin181 hat181 (g := (mkF m 85 #[.val (.ref a1), .val (.ref s1), .val (.int (1 : Int32)), .val (.double (FP.ddiv (FP.l2d x1) (FP.l2d k1))), .second, .val (.double (own_d x1 k1 m1)), .second] [(.int (1 : Int32)), (.ref qb), (.int (1 : Int32)), (.ref qb)])) rfl rfl (hb hby d_prog_37_method_2_code_85) _ ?_
        show Steps p.tables e below (T179.setTop (mkF m 86 #[.val (.ref a1), .val (.ref s1), .val (.int (1 : Int32)), .val (.double (FP.ddiv (FP.l2d x1) (FP.l2d k1))), .second, .val (.double (own_d x1 k1 m1)), .second] [(.double q1), (.int (1 : Int32)), (.ref qb)])) _
        refine XS.dload X179.here hx rfl (hb hby d_prog_37_method_2_code_86) rfl ?_
        show Steps p.tables e below (T179.setTop (mkF m 88 #[.val (.ref a1), .val (.ref s1), .val (.int (1 : Int32)), .val (.double (FP.ddiv (FP.l2d x1) (FP.l2d k1))), .second, .val (.double (own_d x1 k1 m1)), .second] [(.double (own_d x1 k1 m1)), (.double q1), (.int (1 : Int32)), (.ref qb)])) _
        refine XS.dloadN X179.here hx rfl (hb hby d_prog_37_method_2_code_88) rfl ?_
        show Steps p.tables e below (T179.setTop (mkF m 89 #[.val (.ref a1), .val (.ref s1), .val (.int (1 : Int32)), .val (.double (FP.ddiv (FP.l2d x1) (FP.l2d k1))), .second, .val (.double (own_d x1 k1 m1)), .second] [(.double (FP.ddiv (FP.l2d x1) (FP.l2d k1))), (.double (own_d x1 k1 m1)), (.double q1), (.int (1 : Int32)), (.ref qb)])) _
        refine XS.aloadN X179.here hx rfl (hb hby d_prog_37_method_2_code_89) rfl rfl ?_
        show Steps p.tables e below (T179.setTop (mkF m 90 #[.val (.ref a1), .val (.ref s1), .val (.int (1 : Int32)), .val (.double (FP.ddiv (FP.l2d x1) (FP.l2d k1))), .second, .val (.double (own_d x1 k1 m1)), .second] [(.ref a1), (.double (FP.ddiv (FP.l2d x1) (FP.l2d k1))), (.double (own_d x1 k1 m1)), (.double q1), (.int (1 : Int32)), (.ref qb)])) _
        refine st183 _ ?_
        show Steps p.tables e below (T183.setTop (mkF m 93 #[.val (.ref a1), .val (.ref s1), .val (.int (1 : Int32)), .val (.double (FP.ddiv (FP.l2d x1) (FP.l2d k1))), .second, .val (.double (own_d x1 k1 m1)), .second] [(.ref mb), (.double (FP.ddiv (FP.l2d x1) (FP.l2d k1))), (.double (own_d x1 k1 m1)), (.double q1), (.int (1 : Int32)), (.ref qb)])) _
        refine XS.iloadN X183.here hx rfl (hb hby d_prog_37_method_2_code_93) rfl ?_
        show Steps p.tables e below (T183.setTop (mkF m 94 #[.val (.ref a1), .val (.ref s1), .val (.int (1 : Int32)), .val (.double (FP.ddiv (FP.l2d x1) (FP.l2d k1))), .second, .val (.double (own_d x1 k1 m1)), .second] [(.int (1 : Int32)), (.ref mb), (.double (FP.ddiv (FP.l2d x1) (FP.l2d k1))), (.double (own_d x1 k1 m1)), (.double q1), (.int (1 : Int32)), (.ref qb)])) _
        refine X183.daload hx (j := (1 : Int32)) (v := (.double (own_m x1 k1 u1 m1))) (by rw [e183]; exact Ar184.1) (State.isArrayOf_alike hZ.alike Ar184.2.1) Ar184.2.2 hin184 hat184 (g := (mkF m 94 #[.val (.ref a1), .val (.ref s1), .val (.int (1 : Int32)), .val (.double (FP.ddiv (FP.l2d x1) (FP.l2d k1))), .second, .val (.double (own_d x1 k1 m1)), .second] [(.int (1 : Int32)), (.ref mb), (.double (FP.ddiv (FP.l2d x1) (FP.l2d k1))), (.double (own_d x1 k1 m1)), (.double q1), (.int (1 : Int32)), (.ref qb)])) rfl rfl (hb hby d_prog_37_method_2_code_94) _ ?_
        show Steps p.tables e below (T183.setTop (mkF m 95 #[.val (.ref a1), .val (.ref s1), .val (.int (1 : Int32)), .val (.double (FP.ddiv (FP.l2d x1) (FP.l2d k1))), .second, .val (.double (own_d x1 k1 m1)), .second] [(.double (own_m x1 k1 u1 m1)), (.double (FP.ddiv (FP.l2d x1) (FP.l2d k1))), (.double (own_d x1 k1 m1)), (.double q1), (.int (1 : Int32)), (.ref qb)])) _
        refine XS.dsubS X183.here hx rfl (v := (own_e x1 k1 u1 m1)) (hb hby d_prog_37_method_2_code_95) rfl n14 rfl ?_
        show Steps p.tables e below (T183.setTop (mkF m 96 #[.val (.ref a1), .val (.ref s1), .val (.int (1 : Int32)), .val (.double (FP.ddiv (FP.l2d x1) (FP.l2d k1))), .second, .val (.double (own_d x1 k1 m1)), .second] [(.double (own_e x1 k1 u1 m1)), (.double (own_d x1 k1 m1)), (.double q1), (.int (1 : Int32)), (.ref qb)])) _
        refine XS.dmulS X183.here hx rfl (v := (FP.dmul (own_d x1 k1 m1) (own_e x1 k1 u1 m1))) (hb hby d_prog_37_method_2_code_96) rfl n15 rfl ?_
        show Steps p.tables e below (T183.setTop (mkF m 97 #[.val (.ref a1), .val (.ref s1), .val (.int (1 : Int32)), .val (.double (FP.ddiv (FP.l2d x1) (FP.l2d k1))), .second, .val (.double (own_d x1 k1 m1)), .second] [(.double (FP.dmul (own_d x1 k1 m1) (own_e x1 k1 u1 m1))), (.double q1), (.int (1 : Int32)), (.ref qb)])) _
        refine XS.daddS X183.here hx rfl (v := (own_q x1 k1 u1 m1 q1)) (hb hby d_prog_37_method_2_code_97) rfl n16 rfl ?_
        show Steps p.tables e below (T183.setTop (mkF m 98 #[.val (.ref a1), .val (.ref s1), .val (.int (1 : Int32)), .val (.double (FP.ddiv (FP.l2d x1) (FP.l2d k1))), .second, .val (.double (own_d x1 k1 m1)), .second] [(.double (own_q x1 k1 u1 m1 q1)), (.int (1 : Int32)), (.ref qb)])) _
        refine st186 _ ?_
        show Steps p.tables e below (T186.setTop (mkF m 99 #[.val (.ref a1), .val (.ref s1), .val (.int (1 : Int32)), .val (.double (FP.ddiv (FP.l2d x1) (FP.l2d k1))), .second, .val (.double (own_d x1 k1 m1)), .second] [])) _
        refine XS.aloadN X186.here hx rfl (hb hby d_prog_37_method_2_code_99) rfl rfl ?_
        show Steps p.tables e below (T186.setTop (mkF m 100 #[.val (.ref a1), .val (.ref s1), .val (.int (1 : Int32)), .val (.double (FP.ddiv (FP.l2d x1) (FP.l2d k1))), .second, .val (.double (own_d x1 k1 m1)), .second] [(.ref a1)])) _
        refine st189 _ ?_
        show Steps p.tables e below (T189.setTop (mkF m 103 #[.val (.ref a1), .val (.ref s1), .val (.int (1 : Int32)), .val (.double (FP.ddiv (FP.l2d x1) (FP.l2d k1))), .second, .val (.double (own_d x1 k1 m1)), .second] [(.ref tb)])) _
        refine XS.iloadN X189.here hx rfl (hb hby d_prog_37_method_2_code_103) rfl ?_
        show Steps p.tables e below (T189.setTop (mkF m 104 #[.val (.ref a1), .val (.ref s1), .val (.int (1 : Int32)), .val (.double (FP.ddiv (FP.l2d x1) (FP.l2d k1))), .second, .val (.double (own_d x1 k1 m1)), .second] [(.int (1 : Int32)), (.ref tb)])) _
        jvm_step X189.here [X189.here.top, hx, (hb hby d_prog_37_method_2_code_104), Value.category]
        show Steps p.tables e below (T189.setTop (mkF m 105 #[.val (.ref a1), .val (.ref s1), .val (.int (1 : Int32)), .val (.double (FP.ddiv (FP.l2d x1) (FP.l2d k1))), .second, .val (.double (own_d x1 k1 m1)), .second] [(.int (1 : Int32)), (.ref tb), (.int (1 : Int32)), (.ref tb)])) _
        refine X189.daload hx (j := (1 : Int32)) (v := (.double (FP.l2d t1))) (by rw [e189]; exact Ar191.1) (State.isArrayOf_alike hZ.alike Ar191.2.1) Ar191.2.2 hin191 hat191 (g := (mkF m 105 #[.val (.ref a1), .val (.ref s1), .val (.int (1 : Int32)), .val (.double (FP.ddiv (FP.l2d x1) (FP.l2d k1))), .second, .val (.double (own_d x1 k1 m1)), .second] [(.int (1 : Int32)), (.ref tb), (.int (1 : Int32)), (.ref tb)])) rfl rfl (hb hby d_prog_37_method_2_code_105) _ ?_
        show Steps p.tables e below (T189.setTop (mkF m 106 #[.val (.ref a1), .val (.ref s1), .val (.int (1 : Int32)), .val (.double (FP.ddiv (FP.l2d x1) (FP.l2d k1))), .second, .val (.double (own_d x1 k1 m1)), .second] [(.double (FP.l2d t1)), (.int (1 : Int32)), (.ref tb)])) _
        refine XS.aloadN X189.here hx rfl (hb hby d_prog_37_method_2_code_106) rfl rfl ?_
        show Steps p.tables e below (T189.setTop (mkF m 107 #[.val (.ref a1), .val (.ref s1), .val (.int (1 : Int32)), .val (.double (FP.ddiv (FP.l2d x1) (FP.l2d k1))), .second, .val (.double (own_d x1 k1 m1)), .second] [(.ref s1), (.double (FP.l2d t1)), (.int (1 : Int32)), (.ref tb)])) _
        refine getR X189 hx hZ hown (hw _ (List.mem_of_getElem? (i := 47) rfl)) e189 f192 (g := (mkF m 107 #[.val (.ref a1), .val (.ref s1), .val (.int (1 : Int32)), .val (.double (FP.ddiv (FP.l2d x1) (FP.l2d k1))), .second, .val (.double (own_d x1 k1 m1)), .second] [(.ref s1), (.double (FP.l2d t1)), (.int (1 : Int32)), (.ref tb)])) rfl rfl (hb hby d_prog_37_method_2_code_107) ?_
        show Steps p.tables e below (T189.setTop (mkF m 110 #[.val (.ref a1), .val (.ref s1), .val (.int (1 : Int32)), .val (.double (FP.ddiv (FP.l2d x1) (FP.l2d k1))), .second, .val (.double (own_d x1 k1 m1)), .second] [(.ref st), (.double (FP.l2d t1)), (.int (1 : Int32)), (.ref tb)])) _
        refine XS.iloadN X189.here hx rfl (hb hby d_prog_37_method_2_code_110) rfl ?_
        show Steps p.tables e below (T189.setTop (mkF m 111 #[.val (.ref a1), .val (.ref s1), .val (.int (1 : Int32)), .val (.double (FP.ddiv (FP.l2d x1) (FP.l2d k1))), .second, .val (.double (own_d x1 k1 m1)), .second] [(.int (1 : Int32)), (.ref st), (.double (FP.l2d t1)), (.int (1 : Int32)), (.ref tb)])) _
        refine X189.daload hx (j := (1 : Int32)) (v := (.double (FP.l2d x1))) (by rw [e189]; exact Ar194.1) (State.isArrayOf_alike hZ.alike Ar194.2.1) Ar194.2.2 hin194 hat194 (g := (mkF m 111 #[.val (.ref a1), .val (.ref s1), .val (.int (1 : Int32)), .val (.double (FP.ddiv (FP.l2d x1) (FP.l2d k1))), .second, .val (.double (own_d x1 k1 m1)), .second] [(.int (1 : Int32)), (.ref st), (.double (FP.l2d t1)), (.int (1 : Int32)), (.ref tb)])) rfl rfl (hb hby d_prog_37_method_2_code_111) _ ?_
        show Steps p.tables e below (T189.setTop (mkF m 112 #[.val (.ref a1), .val (.ref s1), .val (.int (1 : Int32)), .val (.double (FP.ddiv (FP.l2d x1) (FP.l2d k1))), .second, .val (.double (own_d x1 k1 m1)), .second] [(.double (FP.l2d x1)), (.double (FP.l2d t1)), (.int (1 : Int32)), (.ref tb)])) _
        refine XS.daddS X189.here hx rfl (v := (FP.l2d (t1 + x1))) (hb hby d_prog_37_method_2_code_112) rfl (nn_w (dadd_w ht1 hx1)) (dadd_w ht1 hx1) ?_
        show Steps p.tables e below (T189.setTop (mkF m 113 #[.val (.ref a1), .val (.ref s1), .val (.int (1 : Int32)), .val (.double (FP.ddiv (FP.l2d x1) (FP.l2d k1))), .second, .val (.double (own_d x1 k1 m1)), .second] [(.double (FP.l2d (t1 + x1))), (.int (1 : Int32)), (.ref tb)])) _
        refine st196 _ ?_
        show Steps p.tables e below (T196.setTop (mkF m 114 #[.val (.ref a1), .val (.ref s1), .val (.int (1 : Int32)), .val (.double (FP.ddiv (FP.l2d x1) (FP.l2d k1))), .second, .val (.double (own_d x1 k1 m1)), .second] [])) _
        refine XS.aloadN X196.here hx rfl (hb hby d_prog_37_method_2_code_114) rfl rfl ?_
        show Steps p.tables e below (T196.setTop (mkF m 115 #[.val (.ref a1), .val (.ref s1), .val (.int (1 : Int32)), .val (.double (FP.ddiv (FP.l2d x1) (FP.l2d k1))), .second, .val (.double (own_d x1 k1 m1)), .second] [(.ref a1)])) _
        refine st199 _ ?_
        show Steps p.tables e below (T199.setTop (mkF m 118 #[.val (.ref a1), .val (.ref s1), .val (.int (1 : Int32)), .val (.double (FP.ddiv (FP.l2d x1) (FP.l2d k1))), .second, .val (.double (own_d x1 k1 m1)), .second] [(.ref cb)])) _
        refine XS.iloadN X199.here hx rfl (hb hby d_prog_37_method_2_code_118) rfl ?_
        show Steps p.tables e below (T199.setTop (mkF m 119 #[.val (.ref a1), .val (.ref s1), .val (.int (1 : Int32)), .val (.double (FP.ddiv (FP.l2d x1) (FP.l2d k1))), .second, .val (.double (own_d x1 k1 m1)), .second] [(.int (1 : Int32)), (.ref cb)])) _
        jvm_step X199.here [X199.here.top, hx, (hb hby d_prog_37_method_2_code_119), Value.category]
        show Steps p.tables e below (T199.setTop (mkF m 120 #[.val (.ref a1), .val (.ref s1), .val (.int (1 : Int32)), .val (.double (FP.ddiv (FP.l2d x1) (FP.l2d k1))), .second, .val (.double (own_d x1 k1 m1)), .second] [(.int (1 : Int32)), (.ref cb), (.int (1 : Int32)), (.ref cb)])) _
        refine X199.laload hx (j := (1 : Int32)) (v := (.long c1)) (by rw [e199]; exact Ar201.1) (State.isArrayOf_alike hZ.alike Ar201.2.1) Ar201.2.2 hin201 hat201 (g := (mkF m 120 #[.val (.ref a1), .val (.ref s1), .val (.int (1 : Int32)), .val (.double (FP.ddiv (FP.l2d x1) (FP.l2d k1))), .second, .val (.double (own_d x1 k1 m1)), .second] [(.int (1 : Int32)), (.ref cb), (.int (1 : Int32)), (.ref cb)])) rfl rfl (hb hby d_prog_37_method_2_code_120) _ ?_
        show Steps p.tables e below (T199.setTop (mkF m 121 #[.val (.ref a1), .val (.ref s1), .val (.int (1 : Int32)), .val (.double (FP.ddiv (FP.l2d x1) (FP.l2d k1))), .second, .val (.double (own_d x1 k1 m1)), .second] [(.long c1), (.int (1 : Int32)), (.ref cb)])) _
        refine XS.aloadN X199.here hx rfl (hb hby d_prog_37_method_2_code_121) rfl rfl ?_
        show Steps p.tables e below (T199.setTop (mkF m 122 #[.val (.ref a1), .val (.ref s1), .val (.int (1 : Int32)), .val (.double (FP.ddiv (FP.l2d x1) (FP.l2d k1))), .second, .val (.double (own_d x1 k1 m1)), .second] [(.ref s1), (.long c1), (.int (1 : Int32)), (.ref cb)])) _
        refine getR X199 hx hZ hown (hw _ (List.mem_of_getElem? (i := 46) rfl)) e199 f202 (g := (mkF m 122 #[.val (.ref a1), .val (.ref s1), .val (.int (1 : Int32)), .val (.double (FP.ddiv (FP.l2d x1) (FP.l2d k1))), .second, .val (.double (own_d x1 k1 m1)), .second] [(.ref s1), (.long c1), (.int (1 : Int32)), (.ref cb)])) rfl rfl (hb hby d_prog_37_method_2_code_122) ?_
        show Steps p.tables e below (T199.setTop (mkF m 125 #[.val (.ref a1), .val (.ref s1), .val (.int (1 : Int32)), .val (.double (FP.ddiv (FP.l2d x1) (FP.l2d k1))), .second, .val (.double (own_d x1 k1 m1)), .second] [(.ref sc), (.long c1), (.int (1 : Int32)), (.ref cb)])) _
        refine XS.iloadN X199.here hx rfl (hb hby d_prog_37_method_2_code_125) rfl ?_
        show Steps p.tables e below (T199.setTop (mkF m 126 #[.val (.ref a1), .val (.ref s1), .val (.int (1 : Int32)), .val (.double (FP.ddiv (FP.l2d x1) (FP.l2d k1))), .second, .val (.double (own_d x1 k1 m1)), .second] [(.int (1 : Int32)), (.ref sc), (.long c1), (.int (1 : Int32)), (.ref cb)])) _
        refine X199.laload hx (j := (1 : Int32)) (v := (.long k1)) (by rw [e199]; exact Ar204.1) (State.isArrayOf_alike hZ.alike Ar204.2.1) Ar204.2.2 hin204 hat204 (g := (mkF m 126 #[.val (.ref a1), .val (.ref s1), .val (.int (1 : Int32)), .val (.double (FP.ddiv (FP.l2d x1) (FP.l2d k1))), .second, .val (.double (own_d x1 k1 m1)), .second] [(.int (1 : Int32)), (.ref sc), (.long c1), (.int (1 : Int32)), (.ref cb)])) rfl rfl (hb hby d_prog_37_method_2_code_126) _ ?_
        show Steps p.tables e below (T199.setTop (mkF m 127 #[.val (.ref a1), .val (.ref s1), .val (.int (1 : Int32)), .val (.double (FP.ddiv (FP.l2d x1) (FP.l2d k1))), .second, .val (.double (own_d x1 k1 m1)), .second] [(.long k1), (.long c1), (.int (1 : Int32)), (.ref cb)])) _
        refine XS.ladd X199.here hx rfl (hb hby d_prog_37_method_2_code_127) rfl ?_
        show Steps p.tables e below (T199.setTop (mkF m 128 #[.val (.ref a1), .val (.ref s1), .val (.int (1 : Int32)), .val (.double (FP.ddiv (FP.l2d x1) (FP.l2d k1))), .second, .val (.double (own_d x1 k1 m1)), .second] [(.long (c1 + k1)), (.int (1 : Int32)), (.ref cb)])) _
        refine st206 _ ?_
        show Steps p.tables e below (T206.setTop (mkF m 129 #[.val (.ref a1), .val (.ref s1), .val (.int (1 : Int32)), .val (.double (FP.ddiv (FP.l2d x1) (FP.l2d k1))), .second, .val (.double (own_d x1 k1 m1)), .second] [])) _
        refine XS.iinc X206.here hx rfl (hb hby d_prog_37_method_2_code_129) rfl (l' := #[.val (.ref a1), .val (.ref s1), .val (.int (2 : Int32)), .val (.double (FP.ddiv (FP.l2d x1) (FP.l2d k1))), .second, .val (.double (own_d x1 k1 m1)), .second]) rfl ?_
        show Steps p.tables e below (T206.setTop (mkF m 132 #[.val (.ref a1), .val (.ref s1), .val (.int (2 : Int32)), .val (.double (FP.ddiv (FP.l2d x1) (FP.l2d k1))), .second, .val (.double (own_d x1 k1 m1)), .second] [])) _
        refine XS.goto X206.here hx rfl (pc0 := 132) (pc' := 2) rfl (hb hby d_prog_37_method_2_code_132) (by decide) (by decide) ?_
        show Steps p.tables e below (T206.setTop (mkF m 2 #[.val (.ref a1), .val (.ref s1), .val (.int (2 : Int32)), .val (.double (FP.ddiv (FP.l2d x1) (FP.l2d k1))), .second, .val (.double (own_d x1 k1 m1)), .second] [])) _
        refine XS.iloadN X206.here hx rfl (hb hby d_prog_37_method_2_code_2) rfl ?_
        show Steps p.tables e below (T206.setTop (mkF m 3 #[.val (.ref a1), .val (.ref s1), .val (.int (2 : Int32)), .val (.double (FP.ddiv (FP.l2d x1) (FP.l2d k1))), .second, .val (.double (own_d x1 k1 m1)), .second] [(.int (2 : Int32))])) _
        refine XS.aloadN X206.here hx rfl (hb hby d_prog_37_method_2_code_3) rfl rfl ?_
        show Steps p.tables e below (T206.setTop (mkF m 4 #[.val (.ref a1), .val (.ref s1), .val (.int (2 : Int32)), .val (.double (FP.ddiv (FP.l2d x1) (FP.l2d k1))), .second, .val (.double (own_d x1 k1 m1)), .second] [(.ref a1), (.int (2 : Int32))])) _
        refine st209 _ ?_
        show Steps p.tables e below (T209.setTop (mkF m 7 #[.val (.ref a1), .val (.ref s1), .val (.int (2 : Int32)), .val (.double (FP.ddiv (FP.l2d x1) (FP.l2d k1))), .second, .val (.double (own_d x1 k1 m1)), .second] [(.ref tb), (.int (2 : Int32))])) _
        refine X209.arraylength hx (by rw [e209]; exact Ar211.1) (State.isArrayOf_alike hZ.alike Ar211.2.1) (g := (mkF m 7 #[.val (.ref a1), .val (.ref s1), .val (.int (2 : Int32)), .val (.double (FP.ddiv (FP.l2d x1) (FP.l2d k1))), .second, .val (.double (own_d x1 k1 m1)), .second] [(.ref tb), (.int (2 : Int32))])) rfl rfl (hb hby d_prog_37_method_2_code_7) _ ?_
        rw [len_of S211 M211]
        show Steps p.tables e below (T209.setTop (mkF m 8 #[.val (.ref a1), .val (.ref s1), .val (.int (2 : Int32)), .val (.double (FP.ddiv (FP.l2d x1) (FP.l2d k1))), .second, .val (.double (own_d x1 k1 m1)), .second] [(.int (2 : Int32)), (.int (2 : Int32))])) _
        refine XS.icmpYes X209.here hx rfl (pc0 := 8) (pc' := 135) rfl (hb hby d_prog_37_method_2_code_8) rfl (by decide) (by decide) (by decide) ?_
        show Steps p.tables e below (T209.setTop (mkF m 135 #[.val (.ref a1), .val (.ref s1), .val (.int (2 : Int32)), .val (.double (FP.ddiv (FP.l2d x1) (FP.l2d k1))), .second, .val (.double (own_d x1 k1 m1)), .second] [])) _
        exact X209.returnOut hx Bd.returns (hb hby d_prog_37_method_2_code_135) hr
      · show Q4 Z a1 s1 tb cb rb mb qb st sc k_tb k_cb k_rb k_mb k_qb k_st k_sc t0 t1 c0 c1 u0 u1 x0 x1 k0 k1 m0 m1 q0 q1 K Kq B h0 n0 _ T209.heap _
        rw [e209]
        exact ⟨rfl, N206, f212, by rw [own_upd0 hk0, own_upd1 hk1]; exact f210, by rw [own_upd0 hk0, own_upd1 hk1]; exact f207, u0, (u1 + (1 : Int64)), m0, (own_m x1 k1 u1 m1), q0, (own_q x1 k1 u1 m1 q1), f213, f214, f215, ⟨hu0, own_bd_mono hv0 (by omega)⟩, ⟨(own_u1 hu1 hv1 hB).2, own_bd_add hv1 own_bd_1 (by omega)⟩, ⟨hm0.mono (by omega), n17⟩, ⟨hq0.mono (by omega), n18⟩⟩
  · by_cases hk1 : k1 = (0 : Int64)
    · obtain ⟨n01, n02, n03, n04, n05, n06, n07, n08⟩ := own_turn (t := x0) hk0 (own_u1 hu0 hv0 hB).1 hm0 hq0 hK1 hK2 hK3 hK4
      obtain ⟨T216, X216, e216, st216⟩ := getF X0 hx hZ hown (host := "") (Or.inl (hw _ (List.mem_of_getElem? (i := 10) rfl))) Via.refl e0 F_total (g := (mkF m 4 #[.val (.ref a1), .val (.ref s1), .val (.int (0 : Int32)), .unset, .unset, .unset, .unset] [(.ref a1), (.int (0 : Int32))])) rfl rfl (hb hby d_prog_37_method_2_code_4)
      obtain ⟨cl217, Ar217, -, S217, M217, -, -⟩ := id V_tb
      obtain ⟨cl218, Ar218, hin218, hat218⟩ := own_at V_sc (0 : Int32) 0 rfl (by decide) (by decide)
      obtain ⟨cl219, Ar219, hin219, hat219⟩ := own_at V_st (0 : Int32) 0 rfl (by decide) (by decide)
      obtain ⟨cl220, Ar220, hin220, hat220⟩ := own_at V_sc (0 : Int32) 0 rfl (by decide) (by decide)
      obtain ⟨T221, X221, e221, st221⟩ := getF X216 hx hZ hown (host := "") (Or.inl (hw _ (List.mem_of_getElem? (i := 15) rfl))) Via.refl e216 F_runsObserved (g := (mkF m 41 #[.val (.ref a1), .val (.ref s1), .val (.int (0 : Int32)), .val (.double (FP.ddiv (FP.l2d x0) (FP.l2d k0))), .second, .unset, .unset] [(.ref a1)])) rfl rfl (hb hby d_prog_37_method_2_code_41)
      obtain ⟨cl222, Ar222, hin222, hat222⟩ := own_at V_rb (0 : Int32) 0 rfl (by decide) (by decide)
      obtain ⟨cl223, Ar223, q223, S223, M223, Hh223, G223⟩ := id V_rb
      obtain ⟨T224, h224, X224, e224, W224, st224⟩ := stJ X221 hx hZ e221 Ar223 (j := (0 : Int32)) (inb_of S223 ⟨by decide, by decide⟩) (g := (mkF m 49 #[.val (.ref a1), .val (.ref s1), .val (.int (0 : Int32)), .val (.double (FP.ddiv (FP.l2d x0) (FP.l2d k0))), .second, .unset, .unset] [(.long (u0 + (1 : Int64))), (.int (0 : Int32)), (.ref rb)])) rfl rfl (hb hby d_prog_37_method_2_code_49)
      have f225 : Arv Z h224 rb k_rb .long (2 : Int32) [(.long (u0 + (1 : Int64))), (.long u1)] (.long (0 : Int64)) := Arv.set Ar223 q223 S223 M223 Hh223 G223 rfl W224 0 rfl (Nat.le_of_ble_eq_true rfl)
      have N224 := Fr.snoc X224 N0 (by omega : n0 ≤ (rb : Nat))
      have f226 := (F_meanOfRunMeans.other W224 (Or.inl (by omega : (a1 : Nat) ≠ rb)))
      obtain ⟨T227, X227, e227, st227⟩ := getF X224 hx hZ hown (host := "") (Or.inl (hw _ (List.mem_of_getElem? (i := 17) rfl))) Via.refl e224 f226 (g := (mkF m 52 #[.val (.ref a1), .val (.ref s1), .val (.int (0 : Int32)), .val (.double (FP.ddiv (FP.l2d x0) (FP.l2d k0))), .second, .unset, .unset] [(.ref a1), (.double (FP.ddiv (FP.l2d x0) (FP.l2d k0)))])) rfl rfl (hb hby d_prog_37_method_2_code_52)
      have f228 := (V_mb.other W224 (by omega : (mb : Nat) ≠ rb))
      obtain ⟨cl229, Ar229, hin229, hat229⟩ := own_at f228 (0 : Int32) 0 rfl (by decide) (by decide)
      obtain ⟨T230, X230, e230, st230⟩ := getF X227 hx hZ hown (host := "") (Or.inl (hw _ (List.mem_of_getElem? (i := 17) rfl))) Via.refl e227 f226 (g := (mkF m 61 #[.val (.ref a1), .val (.ref s1), .val (.int (0 : Int32)), .val (.double (FP.ddiv (FP.l2d x0) (FP.l2d k0))), .second, .val (.double (own_d x0 k0 m0)), .second] [(.ref a1)])) rfl rfl (hb hby d_prog_37_method_2_code_61)
      obtain ⟨cl231, Ar231, hin231, hat231⟩ := own_at f228 (0 : Int32) 0 rfl (by decide) (by decide)
      have f232 := (F_runsObserved.other W224 (Or.inl (by omega : (a1 : Nat) ≠ rb)))
      obtain ⟨T233, X233, e233, st233⟩ := getF X230 hx hZ hown (host := "") (Or.inl (hw _ (List.mem_of_getElem? (i := 15) rfl))) Via.refl e230 f232 (g := (mkF m 70 #[.val (.ref a1), .val (.ref s1), .val (.int (0 : Int32)), .val (.double (FP.ddiv (FP.l2d x0) (FP.l2d k0))), .second, .val (.double (own_d x0 k0 m0)), .second] [(.ref a1), (.double (own_d x0 k0 m0)), (.double m0), (.int (0 : Int32)), (.ref mb)])) rfl rfl (hb hby d_prog_37_method_2_code_70)
      obtain ⟨cl234, Ar234, hin234, hat234⟩ := own_at f225 (0 : Int32) 0 rfl (by decide) (by decide)
      obtain ⟨cl235, Ar235, q235, S235, M235, Hh235, G235⟩ := id f228
      obtain ⟨T236, h236, X236, e236, W236, st236⟩ := stD X233 hx hZ e233 Ar235 (j := (0 : Int32)) (inb_of S235 ⟨by decide, by decide⟩) (g := (mkF m 78 #[.val (.ref a1), .val (.ref s1), .val (.int (0 : Int32)), .val (.double (FP.ddiv (FP.l2d x0) (FP.l2d k0))), .second, .val (.double (own_d x0 k0 m0)), .second] [(.double (own_m x0 k0 u0 m0)), (.int (0 : Int32)), (.ref mb)])) rfl rfl (hb hby d_prog_37_method_2_code_78)
      have f237 : Arv Z h236 mb k_mb .double (2 : Int32) [(.double (own_m x0 k0 u0 m0)), (.double m1)] (.double (FP.l2d 0)) := Arv.set Ar235 q235 S235 M235 Hh235 G235 rfl W236 0 rfl (Nat.le_of_ble_eq_true rfl)
      have N236 := Fr.snoc X236 N224 (by omega : n0 ≤ (mb : Nat))
      have f238 := ((F_squaredDeviations.other W224 (Or.inl (by omega : (a1 : Nat) ≠ rb))).other W236 (Or.inl (by omega : (a1 : Nat) ≠ mb)))
      obtain ⟨T239, X239, e239, st239⟩ := getF X236 hx hZ hown (host := "") (Or.inl (hw _ (List.mem_of_getElem? (i := 19) rfl))) Via.refl e236 f238 (g := (mkF m 80 #[.val (.ref a1), .val (.ref s1), .val (.int (0 : Int32)), .val (.double (FP.ddiv (FP.l2d x0) (FP.l2d k0))), .second, .val (.double (own_d x0 k0 m0)), .second] [(.ref a1)])) rfl rfl (hb hby d_prog_37_method_2_code_80)
      have f240 := ((V_qb.other W224 (by omega : (qb : Nat) ≠ rb)).other W236 (by omega : (qb : Nat) ≠ mb))
      obtain ⟨cl241, Ar241, hin241, hat241⟩ := own_at f240 (0 : Int32) 0 rfl (by decide) (by decide)
      have f242 := (f226.other W236 (Or.inl (by omega : (a1 : Nat) ≠ mb)))
      obtain ⟨T243, X243, e243, st243⟩ := getF X239 hx hZ hown (host := "") (Or.inl (hw _ (List.mem_of_getElem? (i := 17) rfl))) Via.refl e239 f242 (g := (mkF m 90 #[.val (.ref a1), .val (.ref s1), .val (.int (0 : Int32)), .val (.double (FP.ddiv (FP.l2d x0) (FP.l2d k0))), .second, .val (.double (own_d x0 k0 m0)), .second] [(.ref a1), (.double (FP.ddiv (FP.l2d x0) (FP.l2d k0))), (.double (own_d x0 k0 m0)), (.double q0), (.int (0 : Int32)), (.ref qb)])) rfl rfl (hb hby d_prog_37_method_2_code_90)
      obtain ⟨cl244, Ar244, hin244, hat244⟩ := own_at f237 (0 : Int32) 0 rfl (by decide) (by decide)
      obtain ⟨cl245, Ar245, q245, S245, M245, Hh245, G245⟩ := id f240
      obtain ⟨T246, h246, X246, e246, W246, st246⟩ := stD X243 hx hZ e243 Ar245 (j := (0 : Int32)) (inb_of S245 ⟨by decide, by decide⟩) (g := (mkF m 98 #[.val (.ref a1), .val (.ref s1), .val (.int (0 : Int32)), .val (.double (FP.ddiv (FP.l2d x0) (FP.l2d k0))), .second, .val (.double (own_d x0 k0 m0)), .second] [(.double (own_q x0 k0 u0 m0 q0)), (.int (0 : Int32)), (.ref qb)])) rfl rfl (hb hby d_prog_37_method_2_code_98)
      have f247 : Arv Z h246 qb k_qb .double (2 : Int32) [(.double (own_q x0 k0 u0 m0 q0)), (.double q1)] (.double (FP.l2d 0)) := Arv.set Ar245 q245 S245 M245 Hh245 G245 rfl W246 0 rfl (Nat.le_of_ble_eq_true rfl)
      have N246 := Fr.snoc X246 N236 (by omega : n0 ≤ (qb : Nat))
      have f248 := (((F_total.other W224 (Or.inl (by omega : (a1 : Nat) ≠ rb))).other W236 (Or.inl (by omega : (a1 : Nat) ≠ mb))).other W246 (Or.inl (by omega : (a1 : Nat) ≠ qb)))
      obtain ⟨T249, X249, e249, st249⟩ := getF X246 hx hZ hown (host := "") (Or.inl (hw _ (List.mem_of_getElem? (i := 10) rfl))) Via.refl e246 f248 (g := (mkF m 100 #[.val (.ref a1), .val (.ref s1), .val (.int (0 : Int32)), .val (.double (FP.ddiv (FP.l2d x0) (FP.l2d k0))), .second, .val (.double (own_d x0 k0 m0)), .second] [(.ref a1)])) rfl rfl (hb hby d_prog_37_method_2_code_100)
      have f250 := (((V_tb.other W224 (by omega : (tb : Nat) ≠ rb)).other W236 (by omega : (tb : Nat) ≠ mb)).other W246 (by omega : (tb : Nat) ≠ qb))
      obtain ⟨cl251, Ar251, hin251, hat251⟩ := own_at f250 (0 : Int32) 0 rfl (by decide) (by decide)
      have f252 := (((G_total.other W224 (Or.inl (by omega : (s1 : Nat) ≠ rb))).other W236 (Or.inl (by omega : (s1 : Nat) ≠ mb))).other W246 (Or.inl (by omega : (s1 : Nat) ≠ qb)))
      have f253 := (((V_st.other W224 (by omega : (st : Nat) ≠ rb)).other W236 (by omega : (st : Nat) ≠ mb)).other W246 (by omega : (st : Nat) ≠ qb))
      obtain ⟨cl254, Ar254, hin254, hat254⟩ := own_at f253 (0 : Int32) 0 rfl (by decide) (by decide)
      obtain ⟨cl255, Ar255, q255, S255, M255, Hh255, G255⟩ := id f250
      obtain ⟨T256, h256, X256, e256, W256, st256⟩ := stD X249 hx hZ e249 Ar255 (j := (0 : Int32)) (inb_of S255 ⟨by decide, by decide⟩) (g := (mkF m 113 #[.val (.ref a1), .val (.ref s1), .val (.int (0 : Int32)), .val (.double (FP.ddiv (FP.l2d x0) (FP.l2d k0))), .second, .val (.double (own_d x0 k0 m0)), .second] [(.double (FP.l2d (t0 + x0))), (.int (0 : Int32)), (.ref tb)])) rfl rfl (hb hby d_prog_37_method_2_code_113)
      have f257 : Arv Z h256 tb k_tb .double (2 : Int32) [(.double (FP.l2d (t0 + x0))), (.double (FP.l2d t1))] (.double (FP.l2d 0)) := Arv.set Ar255 q255 S255 M255 Hh255 G255 rfl W256 0 rfl (Nat.le_of_ble_eq_true rfl)
      have N256 := Fr.snoc X256 N246 (by omega : n0 ≤ (tb : Nat))
      have f258 := ((((F_count.other W224 (Or.inl (by omega : (a1 : Nat) ≠ rb))).other W236 (Or.inl (by omega : (a1 : Nat) ≠ mb))).other W246 (Or.inl (by omega : (a1 : Nat) ≠ qb))).other W256 (Or.inl (by omega : (a1 : Nat) ≠ tb)))
      obtain ⟨T259, X259, e259, st259⟩ := getF X256 hx hZ hown (host := "") (Or.inl (hw _ (List.mem_of_getElem? (i := 13) rfl))) Via.refl e256 f258 (g := (mkF m 115 #[.val (.ref a1), .val (.ref s1), .val (.int (0 : Int32)), .val (.double (FP.ddiv (FP.l2d x0) (FP.l2d k0))), .second, .val (.double (own_d x0 k0 m0)), .second] [(.ref a1)])) rfl rfl (hb hby d_prog_37_method_2_code_115)
      have f260 := ((((V_cb.other W224 (by omega : (cb : Nat) ≠ rb)).other W236 (by omega : (cb : Nat) ≠ mb)).other W246 (by omega : (cb : Nat) ≠ qb)).other W256 (by omega : (cb : Nat) ≠ tb))
      obtain ⟨cl261, Ar261, hin261, hat261⟩ := own_at f260 (0 : Int32) 0 rfl (by decide) (by decide)
      have f262 := ((((G_count.other W224 (Or.inl (by omega : (s1 : Nat) ≠ rb))).other W236 (Or.inl (by omega : (s1 : Nat) ≠ mb))).other W246 (Or.inl (by omega : (s1 : Nat) ≠ qb))).other W256 (Or.inl (by omega : (s1 : Nat) ≠ tb)))
      have f263 := ((((V_sc.other W224 (by omega : (sc : Nat) ≠ rb)).other W236 (by omega : (sc : Nat) ≠ mb)).other W246 (by omega : (sc : Nat) ≠ qb)).other W256 (by omega : (sc : Nat) ≠ tb))
      obtain ⟨cl264, Ar264, hin264, hat264⟩ := own_at f263 (0 : Int32) 0 rfl (by decide) (by decide)
      obtain ⟨cl265, Ar265, q265, S265, M265, Hh265, G265⟩ := id f260
      obtain ⟨T266, h266, X266, e266, W266, st266⟩ := stJ X259 hx hZ e259 Ar265 (j := (0 : Int32)) (inb_of S265 ⟨by decide, by decide⟩) (g := (mkF m 128 #[.val (.ref a1), .val (.ref s1), .val (.int (0 : Int32)), .val (.double (FP.ddiv (FP.l2d x0) (FP.l2d k0))), .second, .val (.double (own_d x0 k0 m0)), .second] [(.long (c0 + k0)), (.int (0 : Int32)), (.ref cb)])) rfl rfl (hb hby d_prog_37_method_2_code_128)
      have f267 : Arv Z h266 cb k_cb .long (2 : Int32) [(.long (c0 + k0)), (.long c1)] (.long (0 : Int64)) := Arv.set Ar265 q265 S265 M265 Hh265 G265 rfl W266 0 rfl (Nat.le_of_ble_eq_true rfl)
      have N266 := Fr.snoc X266 N256 (by omega : n0 ≤ (cb : Nat))
      have f268 := ((f248.other W256 (Or.inl (by omega : (a1 : Nat) ≠ tb))).other W266 (Or.inl (by omega : (a1 : Nat) ≠ cb)))
      obtain ⟨T269, X269, e269, st269⟩ := getF X266 hx hZ hown (host := "") (Or.inl (hw _ (List.mem_of_getElem? (i := 10) rfl))) Via.refl e266 f268 (g := (mkF m 4 #[.val (.ref a1), .val (.ref s1), .val (.int (1 : Int32)), .val (.double (FP.ddiv (FP.l2d x0) (FP.l2d k0))), .second, .val (.double (own_d x0 k0 m0)), .second] [(.ref a1), (.int (1 : Int32))])) rfl rfl (hb hby d_prog_37_method_2_code_4)
      have f270 := (f257.other W266 (by omega : (tb : Nat) ≠ cb))
      obtain ⟨cl271, Ar271, -, S271, M271, -, -⟩ := id f270
      have f272 := (f262.other W266 (Or.inl (by omega : (s1 : Nat) ≠ cb)))
      have f273 := (f263.other W266 (by omega : (sc : Nat) ≠ cb))
      obtain ⟨cl274, Ar274, hin274, hat274⟩ := own_at f273 (1 : Int32) 1 rfl (by decide) (by decide)
      obtain ⟨T275, X275, e275, st275⟩ := getF X269 hx hZ hown (host := "") (Or.inl (hw _ (List.mem_of_getElem? (i := 10) rfl))) Via.refl e269 f268 (g := (mkF m 4 #[.val (.ref a1), .val (.ref s1), .val (.int (2 : Int32)), .val (.double (FP.ddiv (FP.l2d x0) (FP.l2d k0))), .second, .val (.double (own_d x0 k0 m0)), .second] [(.ref a1), (.int (2 : Int32))])) rfl rfl (hb hby d_prog_37_method_2_code_4)
      obtain ⟨cl276, Ar276, -, S276, M276, -, -⟩ := id f270
      have f277 := ((((((Keep.refl h0 [tb, cb, rb, mb, qb]).wr W224 (Or.inl (List.mem_of_getElem? (i := 2) rfl))).wr W236 (Or.inl (List.mem_of_getElem? (i := 3) rfl))).wr W246 (Or.inl (List.mem_of_getElem? (i := 4) rfl))).wr W256 (Or.inl (List.mem_of_getElem? (i := 0) rfl))).wr W266 (Or.inl (List.mem_of_getElem? (i := 1) rfl)))
      have f278 := ((((f225.other W236 (by omega : (rb : Nat) ≠ mb)).other W246 (by omega : (rb : Nat) ≠ qb)).other W256 (by omega : (rb : Nat) ≠ tb)).other W266 (by omega : (rb : Nat) ≠ cb))
      have f279 := (((f237.other W246 (by omega : (mb : Nat) ≠ qb)).other W256 (by omega : (mb : Nat) ≠ tb)).other W266 (by omega : (mb : Nat) ≠ cb))
      have f280 := ((f247.other W256 (by omega : (qb : Nat) ≠ tb)).other W266 (by omega : (qb : Nat) ≠ cb))
      obtain ⟨fs, hr, hrun, hended, hW, hsame⟩ := X275.leave (v := none) (fun _ => rfl)
      refine ⟨_, _, pre0 _ ?_, hrun, hended, _, _, rfl, ?_, ⟨_, rfl⟩, hW, hsame.mono (by decide) (by decide)⟩
      · show Steps p.tables e below (s₁.setTop (mkF m 0 #[.val (.ref a1), .val (.ref s1), .unset, .unset, .unset, .unset, .unset] [])) _
        refine XS.iconst X0.here hx rfl (hb hby d_prog_37_method_2_code_0) ?_
        show Steps p.tables e below (s₁.setTop (mkF m 1 #[.val (.ref a1), .val (.ref s1), .unset, .unset, .unset, .unset, .unset] [(.int (0 : Int32))])) _
        refine XS.istoreN X0.here hx rfl (hb hby d_prog_37_method_2_code_1) rfl (l' := #[.val (.ref a1), .val (.ref s1), .val (.int (0 : Int32)), .unset, .unset, .unset, .unset]) rfl ?_
        show Steps p.tables e below (s₁.setTop (mkF m 2 #[.val (.ref a1), .val (.ref s1), .val (.int (0 : Int32)), .unset, .unset, .unset, .unset] [])) _
        refine XS.iloadN X0.here hx rfl (hb hby d_prog_37_method_2_code_2) rfl ?_
        show Steps p.tables e below (s₁.setTop (mkF m 3 #[.val (.ref a1), .val (.ref s1), .val (.int (0 : Int32)), .unset, .unset, .unset, .unset] [(.int (0 : Int32))])) _
        refine XS.aloadN X0.here hx rfl (hb hby d_prog_37_method_2_code_3) rfl rfl ?_
        show Steps p.tables e below (s₁.setTop (mkF m 4 #[.val (.ref a1), .val (.ref s1), .val (.int (0 : Int32)), .unset, .unset, .unset, .unset] [(.ref a1), (.int (0 : Int32))])) _
        refine st216 _ ?_
        show Steps p.tables e below (T216.setTop (mkF m 7 #[.val (.ref a1), .val (.ref s1), .val (.int (0 : Int32)), .unset, .unset, .unset, .unset] [(.ref tb), (.int (0 : Int32))])) _
        refine X216.arraylength hx (by rw [e216]; exact Ar217.1) (State.isArrayOf_alike hZ.alike Ar217.2.1) (g := (mkF m 7 #[.val (.ref a1), .val (.ref s1), .val (.int (0 : Int32)), .unset, .unset, .unset, .unset] [(.ref tb), (.int (0 : Int32))])) rfl rfl (hb hby d_prog_37_method_2_code_7) _ ?_
        rw [len_of S217 M217]
        show Steps p.tables e below (T216.setTop (mkF m 8 #[.val (.ref a1), .val (.ref s1), .val (.int (0 : Int32)), .unset, .unset, .unset, .unset] [(.int (2 : Int32)), (.int (0 : Int32))])) _
        refine XS.icmpNo X216.here hx rfl (hb hby d_prog_37_method_2_code_8) rfl (by decide) ?_
        show Steps p.tables e below (T216.setTop (mkF m 11 #[.val (.ref a1), .val (.ref s1), .val (.int (0 : Int32)), .unset, .unset, .unset, .unset] [])) _
        refine XS.aloadN X216.here hx rfl (hb hby d_prog_37_method_2_code_11) rfl rfl ?_
        show Steps p.tables e below (T216.setTop (mkF m 12 #[.val (.ref a1), .val (.ref s1), .val (.int (0 : Int32)), .unset, .unset, .unset, .unset] [(.ref s1)])) _
        refine getR X216 hx hZ hown (hw _ (List.mem_of_getElem? (i := 46) rfl)) e216 G_count (g := (mkF m 12 #[.val (.ref a1), .val (.ref s1), .val (.int (0 : Int32)), .unset, .unset, .unset, .unset] [(.ref s1)])) rfl rfl (hb hby d_prog_37_method_2_code_12) ?_
        show Steps p.tables e below (T216.setTop (mkF m 15 #[.val (.ref a1), .val (.ref s1), .val (.int (0 : Int32)), .unset, .unset, .unset, .unset] [(.ref sc)])) _
        refine XS.iloadN X216.here hx rfl (hb hby d_prog_37_method_2_code_15) rfl ?_
        show Steps p.tables e below (T216.setTop (mkF m 16 #[.val (.ref a1), .val (.ref s1), .val (.int (0 : Int32)), .unset, .unset, .unset, .unset] [(.int (0 : Int32)), (.ref sc)])) _
        refine X216.laload hx (j := (0 : Int32)) (v := (.long k0)) (by rw [e216]; exact Ar218.1) (State.isArrayOf_alike hZ.alike Ar218.2.1) Ar218.2.2 hin218 hat218 (g := (mkF m 16 #[.val (.ref a1), .val (.ref s1), .val (.int (0 : Int32)), .unset, .unset, .unset, .unset] [(.int (0 : Int32)), (.ref sc)])) rfl rfl (hb hby d_prog_37_method_2_code_16) _ ?_
        show Steps p.tables e below (T216.setTop (mkF m 17 #[.val (.ref a1), .val (.ref s1), .val (.int (0 : Int32)), .unset, .unset, .unset, .unset] [(.long k0)])) _
        refine XS.lconst X216.here hx rfl (hb hby d_prog_37_method_2_code_17) ?_
        show Steps p.tables e below (T216.setTop (mkF m 18 #[.val (.ref a1), .val (.ref s1), .val (.int (0 : Int32)), .unset, .unset, .unset, .unset] [(.long (0 : Int64)), (.long k0)])) _
        refine XS.lcmp X216.here hx rfl (hb hby d_prog_37_method_2_code_18) rfl ?_
        show Steps p.tables e below (T216.setTop (mkF m 19 #[.val (.ref a1), .val (.ref s1), .val (.int (0 : Int32)), .unset, .unset, .unset, .unset] [(.int (lcmpW k0 (0 : Int64)))])) _
        refine XS.ifYes X216.here hx rfl (pc0 := 19) (pc' := 25) rfl (hb hby d_prog_37_method_2_code_19) rfl ((if0 _ _).trans (feq (fun q => hk0 ((own_lc0 k0).mp q))).2) (by decide) (by decide) ?_
        show Steps p.tables e below (T216.setTop (mkF m 25 #[.val (.ref a1), .val (.ref s1), .val (.int (0 : Int32)), .unset, .unset, .unset, .unset] [])) _
        refine XS.aloadN X216.here hx rfl (hb hby d_prog_37_method_2_code_25) rfl rfl ?_
        show Steps p.tables e below (T216.setTop (mkF m 26 #[.val (.ref a1), .val (.ref s1), .val (.int (0 : Int32)), .unset, .unset, .unset, .unset] [(.ref s1)])) _
        refine getR X216 hx hZ hown (hw _ (List.mem_of_getElem? (i := 47) rfl)) e216 G_total (g := (mkF m 26 #[.val (.ref a1), .val (.ref s1), .val (.int (0 : Int32)), .unset, .unset, .unset, .unset] [(.ref s1)])) rfl rfl (hb hby d_prog_37_method_2_code_26) ?_
        show Steps p.tables e below (T216.setTop (mkF m 29 #[.val (.ref a1), .val (.ref s1), .val (.int (0 : Int32)), .unset, .unset, .unset, .unset] [(.ref st)])) _
        refine XS.iloadN X216.here hx rfl (hb hby d_prog_37_method_2_code_29) rfl ?_
        show Steps p.tables e below (T216.setTop (mkF m 30 #[.val (.ref a1), .val (.ref s1), .val (.int (0 : Int32)), .unset, .unset, .unset, .unset] [(.int (0 : Int32)), (.ref st)])) _
        refine X216.daload hx (j := (0 : Int32)) (v := (.double (FP.l2d x0))) (by rw [e216]; exact Ar219.1) (State.isArrayOf_alike hZ.alike Ar219.2.1) Ar219.2.2 hin219 hat219 (g := (mkF m 30 #[.val (.ref a1), .val (.ref s1), .val (.int (0 : Int32)), .unset, .unset, .unset, .unset] [(.int (0 : Int32)), (.ref st)])) rfl rfl (hb hby d_prog_37_method_2_code_30) _ ?_
        show Steps p.tables e below (T216.setTop (mkF m 31 #[.val (.ref a1), .val (.ref s1), .val (.int (0 : Int32)), .unset, .unset, .unset, .unset] [(.double (FP.l2d x0))])) _
        refine XS.aloadN X216.here hx rfl (hb hby d_prog_37_method_2_code_31) rfl rfl ?_
        show Steps p.tables e below (T216.setTop (mkF m 32 #[.val (.ref a1), .val (.ref s1), .val (.int (0 : Int32)), .unset, .unset, .unset, .unset] [(.ref s1), (.double (FP.l2d x0))])) _
        refine getR X216 hx hZ hown (hw _ (List.mem_of_getElem? (i := 46) rfl)) e216 G_count (g := (mkF m 32 #[.val (.ref a1), .val (.ref s1), .val (.int (0 : Int32)), .unset, .unset, .unset, .unset] [(.ref s1), (.double (FP.l2d x0))])) rfl rfl (hb hby d_prog_37_method_2_code_32) ?_
        show Steps p.tables e below (T216.setTop (mkF m 35 #[.val (.ref a1), .val (.ref s1), .val (.int (0 : Int32)), .unset, .unset, .unset, .unset] [(.ref sc), (.double (FP.l2d x0))])) _
        refine XS.iloadN X216.here hx rfl (hb hby d_prog_37_method_2_code_35) rfl ?_
        show Steps p.tables e below (T216.setTop (mkF m 36 #[.val (.ref a1), .val (.ref s1), .val (.int (0 : Int32)), .unset, .unset, .unset, .unset] [(.int (0 : Int32)), (.ref sc), (.double (FP.l2d x0))])) _
        refine X216.laload hx (j := (0 : Int32)) (v := (.long k0)) (by rw [e216]; exact Ar220.1) (State.isArrayOf_alike hZ.alike Ar220.2.1) Ar220.2.2 hin220 hat220 (g := (mkF m 36 #[.val (.ref a1), .val (.ref s1), .val (.int (0 : Int32)), .unset, .unset, .unset, .unset] [(.int (0 : Int32)), (.ref sc), (.double (FP.l2d x0))])) rfl rfl (hb hby d_prog_37_method_2_code_36) _ ?_
        show Steps p.tables e below (T216.setTop (mkF m 37 #[.val (.ref a1), .val (.ref s1), .val (.int (0 : Int32)), .unset, .unset, .unset, .unset] [(.long k0), (.double (FP.l2d x0))])) _
        refine XS.l2dS X216.here hx rfl (v := (FP.l2d k0)) (hb hby d_prog_37_method_2_code_37) rfl rfl ?_
        show Steps p.tables e below (T216.setTop (mkF m 38 #[.val (.ref a1), .val (.ref s1), .val (.int (0 : Int32)), .unset, .unset, .unset, .unset] [(.double (FP.l2d k0)), (.double (FP.l2d x0))])) _
        refine XS.ddivS X216.here hx rfl (v := (FP.ddiv (FP.l2d x0) (FP.l2d k0))) (hb hby d_prog_37_method_2_code_38) rfl (own_mean_nn hk0) rfl ?_
        show Steps p.tables e below (T216.setTop (mkF m 39 #[.val (.ref a1), .val (.ref s1), .val (.int (0 : Int32)), .unset, .unset, .unset, .unset] [(.double (FP.ddiv (FP.l2d x0) (FP.l2d k0)))])) _
        refine XS.dstoreN X216.here hx rfl (hb hby d_prog_37_method_2_code_39) rfl (l' := #[.val (.ref a1), .val (.ref s1), .val (.int (0 : Int32)), .val (.double (FP.ddiv (FP.l2d x0) (FP.l2d k0))), .second, .unset, .unset]) rfl ?_
        show Steps p.tables e below (T216.setTop (mkF m 40 #[.val (.ref a1), .val (.ref s1), .val (.int (0 : Int32)), .val (.double (FP.ddiv (FP.l2d x0) (FP.l2d k0))), .second, .unset, .unset] [])) _
        refine XS.aloadN X216.here hx rfl (hb hby d_prog_37_method_2_code_40) rfl rfl ?_
        show Steps p.tables e below (T216.setTop (mkF m 41 #[.val (.ref a1), .val (.ref s1), .val (.int (0 : Int32)), .val (.double (FP.ddiv (FP.l2d x0) (FP.l2d k0))), .second, .unset, .unset] [(.ref a1)])) _
        refine st221 _ ?_
        show Steps p.tables e below (T221.setTop (mkF m 44 #[.val (.ref a1), .val (.ref s1), .val (.int (0 : Int32)), .val (.double (FP.ddiv (FP.l2d x0) (FP.l2d k0))), .second, .unset, .unset] [(.ref rb)])) _
        refine XS.iloadN X221.here hx rfl (hb hby d_prog_37_method_2_code_44) rfl ?_
        show Steps p.tables e below (T221.setTop (mkF m 45 #[.val (.ref a1), .val (.ref s1), .val (.int (0 : Int32)), .val (.double (FP.ddiv (FP.l2d x0) (FP.l2d k0))), .second, .unset, .unset] [(.int (0 : Int32)), (.ref rb)])) _
        jvm_step X221.here [X221.here.top, hx, (hb hby d_prog_37_method_2_code_45), Value.category]
        show Steps p.tables e below (T221.setTop (mkF m 46 #[.val (.ref a1), .val (.ref s1), .val (.int (0 : Int32)), .val (.double (FP.ddiv (FP.l2d x0) (FP.l2d k0))), .second, .unset, .unset] [(.int (0 : Int32)), (.ref rb), (.int (0 : Int32)), (.ref rb)])) _
        refine X221.laload hx (j := (0 : Int32)) (v := (.long u0)) (by rw [e221]; exact Ar222.1) (State.isArrayOf_alike hZ.alike Ar222.2.1) Ar222.2.2 hin222 hat222 (g := (mkF m 46 #[.val (.ref a1), .val (.ref s1), .val (.int (0 : Int32)), .val (.double (FP.ddiv (FP.l2d x0) (FP.l2d k0))), .second, .unset, .unset] [(.int (0 : Int32)), (.ref rb), (.int (0 : Int32)), (.ref rb)])) rfl rfl (hb hby d_prog_37_method_2_code_46) _ ?_
        show Steps p.tables e below (T221.setTop (mkF m 47 #[.val (.ref a1), .val (.ref s1), .val (.int (0 : Int32)), .val (.double (FP.ddiv (FP.l2d x0) (FP.l2d k0))), .second, .unset, .unset] [(.long u0), (.int (0 : Int32)), (.ref rb)])) _
        refine XS.lconst X221.here hx rfl (hb hby d_prog_37_method_2_code_47) ?_
        show Steps p.tables e below (T221.setTop (mkF m 48 #[.val (.ref a1), .val (.ref s1), .val (.int (0 : Int32)), .val (.double (FP.ddiv (FP.l2d x0) (FP.l2d k0))), .second, .unset, .unset] [(.long (1 : Int64)), (.long u0), (.int (0 : Int32)), (.ref rb)])) _
        refine XS.ladd X221.here hx rfl (hb hby d_prog_37_method_2_code_48) rfl ?_
        show Steps p.tables e below (T221.setTop (mkF m 49 #[.val (.ref a1), .val (.ref s1), .val (.int (0 : Int32)), .val (.double (FP.ddiv (FP.l2d x0) (FP.l2d k0))), .second, .unset, .unset] [(.long (u0 + (1 : Int64))), (.int (0 : Int32)), (.ref rb)])) _
        refine st224 _ ?_
        show Steps p.tables e below (T224.setTop (mkF m 50 #[.val (.ref a1), .val (.ref s1), .val (.int (0 : Int32)), .val (.double (FP.ddiv (FP.l2d x0) (FP.l2d k0))), .second, .unset, .unset] [])) _
        refine XS.dloadN X224.here hx rfl (hb hby d_prog_37_method_2_code_50) rfl ?_
        show Steps p.tables e below (T224.setTop (mkF m 51 #[.val (.ref a1), .val (.ref s1), .val (.int (0 : Int32)), .val (.double (FP.ddiv (FP.l2d x0) (FP.l2d k0))), .second, .unset, .unset] [(.double (FP.ddiv (FP.l2d x0) (FP.l2d k0)))])) _
        refine XS.aloadN X224.here hx rfl (hb hby d_prog_37_method_2_code_51) rfl rfl ?_
        show Steps p.tables e below (T224.setTop (mkF m 52 #[.val (.ref a1), .val (.ref s1), .val (.int (0 : Int32)), .val (.double (FP.ddiv (FP.l2d x0) (FP.l2d k0))), .second, .unset, .unset] [(.ref a1), (.double (FP.ddiv (FP.l2d x0) (FP.l2d k0)))])) _
        refine st227 _ ?_
        show Steps p.tables e below (T227.setTop (mkF m 55 #[.val (.ref a1), .val (.ref s1), .val (.int (0 : Int32)), .val (.double (FP.ddiv (FP.l2d x0) (FP.l2d k0))), .second, .unset, .unset] [(.ref mb), (.double (FP.ddiv (FP.l2d x0) (FP.l2d k0)))])) _
        refine XS.iloadN X227.here hx rfl (hb hby d_prog_37_method_2_code_55) rfl ?_
        show Steps p.tables e below (T227.setTop (mkF m 56 #[.val (.ref a1), .val (.ref s1), .val (.int (0 : Int32)), .val (.double (FP.ddiv (FP.l2d x0) (FP.l2d k0))), .second, .unset, .unset] [(.int (0 : Int32)), (.ref mb), (.double (FP.ddiv (FP.l2d x0) (FP.l2d k0)))])) _
        refine X227.daload hx (j := (0 : Int32)) (v := (.double m0)) (by rw [e227]; exact Ar229.1) (State.isArrayOf_alike hZ.alike Ar229.2.1) Ar229.2.2 hin229 hat229 (g := (mkF m 56 #[.val (.ref a1), .val (.ref s1), .val (.int (0 : Int32)), .val (.double (FP.ddiv (FP.l2d x0) (FP.l2d k0))), .second, .unset, .unset] [(.int (0 : Int32)), (.ref mb), (.double (FP.ddiv (FP.l2d x0) (FP.l2d k0)))])) rfl rfl (hb hby d_prog_37_method_2_code_56) _ ?_
        show Steps p.tables e below (T227.setTop (mkF m 57 #[.val (.ref a1), .val (.ref s1), .val (.int (0 : Int32)), .val (.double (FP.ddiv (FP.l2d x0) (FP.l2d k0))), .second, .unset, .unset] [(.double m0), (.double (FP.ddiv (FP.l2d x0) (FP.l2d k0)))])) _
        refine XS.dsubS X227.here hx rfl (v := (own_d x0 k0 m0)) (hb hby d_prog_37_method_2_code_57) rfl n01 rfl ?_
        show Steps p.tables e below (T227.setTop (mkF m 58 #[.val (.ref a1), .val (.ref s1), .val (.int (0 : Int32)), .val (.double (FP.ddiv (FP.l2d x0) (FP.l2d k0))), .second, .unset, .unset] [(.double (own_d x0 k0 m0))])) _
        refine XS.dstore X227.here hx rfl (hb hby d_prog_37_method_2_code_58) rfl (l' := #[.val (.ref a1), .val (.ref s1), .val (.int (0 : Int32)), .val (.double (FP.ddiv (FP.l2d x0) (FP.l2d k0))), .second, .val (.double (own_d x0 k0 m0)), .second]) rfl ?_
        show Steps p.tables e below (T227.setTop (mkF m 60 #[.val (.ref a1), .val (.ref s1), .val (.int (0 : Int32)), .val (.double (FP.ddiv (FP.l2d x0) (FP.l2d k0))), .second, .val (.double (own_d x0 k0 m0)), .second] [])) _
        refine XS.aloadN X227.here hx rfl (hb hby d_prog_37_method_2_code_60) rfl rfl ?_
        show Steps p.tables e below (T227.setTop (mkF m 61 #[.val (.ref a1), .val (.ref s1), .val (.int (0 : Int32)), .val (.double (FP.ddiv (FP.l2d x0) (FP.l2d k0))), .second, .val (.double (own_d x0 k0 m0)), .second] [(.ref a1)])) _
        refine st230 _ ?_
        show Steps p.tables e below (T230.setTop (mkF m 64 #[.val (.ref a1), .val (.ref s1), .val (.int (0 : Int32)), .val (.double (FP.ddiv (FP.l2d x0) (FP.l2d k0))), .second, .val (.double (own_d x0 k0 m0)), .second] [(.ref mb)])) _
        refine XS.iloadN X230.here hx rfl (hb hby d_prog_37_method_2_code_64) rfl ?_
        show Steps p.tables e below (T230.setTop (mkF m 65 #[.val (.ref a1), .val (.ref s1), .val (.int (0 : Int32)), .val (.double (FP.ddiv (FP.l2d x0) (FP.l2d k0))), .second, .val (.double (own_d x0 k0 m0)), .second] [(.int (0 : Int32)), (.ref mb)])) _
        jvm_step X230.here [X230.here.top, hx, (hb hby d_prog_37_method_2_code_65), Value.category]
        show Steps p.tables e below (T230.setTop (mkF m 66 #[.val (.ref a1), .val (.ref s1), .val (.int (0 : Int32)), .val (.double (FP.ddiv (FP.l2d x0) (FP.l2d k0))), .second, .val (.double (own_d x0 k0 m0)), .second] [(.int (0 : Int32)), (.ref mb), (.int (0 : Int32)), (.ref mb)])) _
        refine X230.daload hx (j := (0 : Int32)) (v := (.double m0)) (by rw [e230]; exact Ar231.1) (State.isArrayOf_alike hZ.alike Ar231.2.1) Ar231.2.2 hin231 hat231 (g := (mkF m 66 #[.val (.ref a1), .val (.ref s1), .val (.int (0 : Int32)), .val (.double (FP.ddiv (FP.l2d x0) (FP.l2d k0))), .second, .val (.double (own_d x0 k0 m0)), .second] [(.int (0 : Int32)), (.ref mb), (.int (0 : Int32)), (.ref mb)])) rfl rfl (hb hby d_prog_37_method_2_code_66) _ ?_
        show Steps p.tables e below (T230.setTop (mkF m 67 #[.val (.ref a1), .val (.ref s1), .val (.int (0 : Int32)), .val (.double (FP.ddiv (FP.l2d x0) (FP.l2d k0))), .second, .val (.double (own_d x0 k0 m0)), .second] [(.double m0), (.int (0 : Int32)), (.ref mb)])) _
        refine XS.dload X230.here hx rfl (hb hby d_prog_37_method_2_code_67) rfl ?_
        show Steps p.tables e below (T230.setTop (mkF m 69 #[.val (.ref a1), .val (.ref s1), .val (.int (0 : Int32)), .val (.double (FP.ddiv (FP.l2d x0) (FP.l2d k0))), .second, .val (.double (own_d x0 k0 m0)), .second] [(.double (own_d x0 k0 m0)), (.double m0), (.int (0 : Int32)), (.ref mb)])) _
        refine XS.aloadN X230.here hx rfl (hb hby d_prog_37_method_2_code_69) rfl rfl ?_
        show Steps p.tables e below (T230.setTop (mkF m 70 #[.val (.ref a1), .val (.ref s1), .val (.int (0 : Int32)), .val (.double (FP.ddiv (FP.l2d x0) (FP.l2d k0))), .second, .val (.double (own_d x0 k0 m0)), .second] [(.ref a1), (.double (own_d x0 k0 m0)), (.double m0), (.int (0 : Int32)), (.ref mb)])) _
        refine st233 _ ?_
        show Steps p.tables e below (T233.setTop (mkF m 73 #[.val (.ref a1), .val (.ref s1), .val (.int (0 : Int32)), .val (.double (FP.ddiv (FP.l2d x0) (FP.l2d k0))), .second, .val (.double (own_d x0 k0 m0)), .second] [(.ref rb), (.double (own_d x0 k0 m0)), (.double m0), (.int (0 : Int32)), (.ref mb)])) _
        refine XS.iloadN X233.here hx rfl (hb hby d_prog_37_method_2_code_73) rfl ?_
        show Steps p.tables e below (T233.setTop (mkF m 74 #[.val (.ref a1), .val (.ref s1), .val (.int (0 : Int32)), .val (.double (FP.ddiv (FP.l2d x0) (FP.l2d k0))), .second, .val (.double (own_d x0 k0 m0)), .second] [(.int (0 : Int32)), (.ref rb), (.double (own_d x0 k0 m0)), (.double m0), (.int (0 : Int32)), (.ref mb)])) _
        refine X233.laload hx (j := (0 : Int32)) (v := (.long (u0 + (1 : Int64)))) (by rw [e233]; exact Ar234.1) (State.isArrayOf_alike hZ.alike Ar234.2.1) Ar234.2.2 hin234 hat234 (g := (mkF m 74 #[.val (.ref a1), .val (.ref s1), .val (.int (0 : Int32)), .val (.double (FP.ddiv (FP.l2d x0) (FP.l2d k0))), .second, .val (.double (own_d x0 k0 m0)), .second] [(.int (0 : Int32)), (.ref rb), (.double (own_d x0 k0 m0)), (.double m0), (.int (0 : Int32)), (.ref mb)])) rfl rfl (hb hby d_prog_37_method_2_code_74) _ ?_
        show Steps p.tables e below (T233.setTop (mkF m 75 #[.val (.ref a1), .val (.ref s1), .val (.int (0 : Int32)), .val (.double (FP.ddiv (FP.l2d x0) (FP.l2d k0))), .second, .val (.double (own_d x0 k0 m0)), .second] [(.long (u0 + (1 : Int64))), (.double (own_d x0 k0 m0)), (.double m0), (.int (0 : Int32)), (.ref mb)])) _
        refine XS.l2dS X233.here hx rfl (v := (FP.l2d (u0 + (1 : Int64)))) (hb hby d_prog_37_method_2_code_75) rfl rfl ?_
        show Steps p.tables e below (T233.setTop (mkF m 76 #[.val (.ref a1), .val (.ref s1), .val (.int (0 : Int32)), .val (.double (FP.ddiv (FP.l2d x0) (FP.l2d k0))), .second, .val (.double (own_d x0 k0 m0)), .second] [(.double (FP.l2d (u0 + (1 : Int64)))), (.double (own_d x0 k0 m0)), (.double m0), (.int (0 : Int32)), (.ref mb)])) _
        refine XS.ddivS X233.here hx rfl (v := (FP.ddiv (own_d x0 k0 m0) (FP.l2d (u0 + (1 : Int64))))) (hb hby d_prog_37_method_2_code_76) rfl n02 rfl ?_
        show Steps p.tables e below (T233.setTop (mkF m 77 #[.val (.ref a1), .val (.ref s1), .val (.int (0 : Int32)), .val (.double (FP.ddiv (FP.l2d x0) (FP.l2d k0))), .second, .val (.double (own_d x0 k0 m0)), .second] [(.double (FP.ddiv (own_d x0 k0 m0) (FP.l2d (u0 + (1 : Int64))))), (.double m0), (.int (0 : Int32)), (.ref mb)])) _
        refine XS.daddS X233.here hx rfl (v := (own_m x0 k0 u0 m0)) (hb hby d_prog_37_method_2_code_77) rfl n03 rfl ?_
        show Steps p.tables e below (T233.setTop (mkF m 78 #[.val (.ref a1), .val (.ref s1), .val (.int (0 : Int32)), .val (.double (FP.ddiv (FP.l2d x0) (FP.l2d k0))), .second, .val (.double (own_d x0 k0 m0)), .second] [(.double (own_m x0 k0 u0 m0)), (.int (0 : Int32)), (.ref mb)])) _
        refine st236 _ ?_
        show Steps p.tables e below (T236.setTop (mkF m 79 #[.val (.ref a1), .val (.ref s1), .val (.int (0 : Int32)), .val (.double (FP.ddiv (FP.l2d x0) (FP.l2d k0))), .second, .val (.double (own_d x0 k0 m0)), .second] [])) _
        refine XS.aloadN X236.here hx rfl (hb hby d_prog_37_method_2_code_79) rfl rfl ?_
        show Steps p.tables e below (T236.setTop (mkF m 80 #[.val (.ref a1), .val (.ref s1), .val (.int (0 : Int32)), .val (.double (FP.ddiv (FP.l2d x0) (FP.l2d k0))), .second, .val (.double (own_d x0 k0 m0)), .second] [(.ref a1)])) _
        refine st239 _ ?_
        show Steps p.tables e below (T239.setTop (mkF m 83 #[.val (.ref a1), .val (.ref s1), .val (.int (0 : Int32)), .val (.double (FP.ddiv (FP.l2d x0) (FP.l2d k0))), .second, .val (.double (own_d x0 k0 m0)), .second] [(.ref qb)])) _
        refine XS.iloadN X239.here hx rfl (hb hby d_prog_37_method_2_code_83) rfl ?_
        show Steps p.tables e below (T239.setTop (mkF m 84 #[.val (.ref a1), .val (.ref s1), .val (.int (0 : Int32)), .val (.double (FP.ddiv (FP.l2d x0) (FP.l2d k0))), .second, .val (.double (own_d x0 k0 m0)), .second] [(.int (0 : Int32)), (.ref qb)])) _
        jvm_step X239.here [X239.here.top, hx, (hb hby d_prog_37_method_2_code_84), Value.category]
        show Steps p.tables e below (T239.setTop (mkF m 85 #[.val (.ref a1), .val (.ref s1), .val (.int (0 : Int32)), .val (.double (FP.ddiv (FP.l2d x0) (FP.l2d k0))), .second, .val (.double (own_d x0 k0 m0)), .second] [(.int (0 : Int32)), (.ref qb), (.int (0 : Int32)), (.ref qb)])) _
        refine X239.daload hx (j := (0 : Int32)) (v := (.double q0)) (by rw [e239]; exact Ar241.1) (State.isArrayOf_alike hZ.alike Ar241.2.1) Ar241.2.2 hin241 hat241 (g := (mkF m 85 #[.val (.ref a1), .val (.ref s1), .val (.int (0 : Int32)), .val (.double (FP.ddiv (FP.l2d x0) (FP.l2d k0))), .second, .val (.double (own_d x0 k0 m0)), .second] [(.int (0 : Int32)), (.ref qb), (.int (0 : Int32)), (.ref qb)])) rfl rfl (hb hby d_prog_37_method_2_code_85) _ ?_
        show Steps p.tables e below (T239.setTop (mkF m 86 #[.val (.ref a1), .val (.ref s1), .val (.int (0 : Int32)), .val (.double (FP.ddiv (FP.l2d x0) (FP.l2d k0))), .second, .val (.double (own_d x0 k0 m0)), .second] [(.double q0), (.int (0 : Int32)), (.ref qb)])) _
        refine XS.dload X239.here hx rfl (hb hby d_prog_37_method_2_code_86) rfl ?_
        show Steps p.tables e below (T239.setTop (mkF m 88 #[.val (.ref a1), .val (.ref s1), .val (.int (0 : Int32)), .val (.double (FP.ddiv (FP.l2d x0) (FP.l2d k0))), .second, .val (.double (own_d x0 k0 m0)), .second] [(.double (own_d x0 k0 m0)), (.double q0), (.int (0 : Int32)), (.ref qb)])) _
        refine XS.dloadN X239.here hx rfl (hb hby d_prog_37_method_2_code_88) rfl ?_
        show Steps p.tables e below (T239.setTop (mkF m 89 #[.val (.ref a1), .val (.ref s1), .val (.int (0 : Int32)), .val (.double (FP.ddiv (FP.l2d x0) (FP.l2d k0))), .second, .val (.double (own_d x0 k0 m0)), .second] [(.double (FP.ddiv (FP.l2d x0) (FP.l2d k0))), (.double (own_d x0 k0 m0)), (.double q0), (.int (0 : Int32)), (.ref qb)])) _
        refine XS.aloadN X239.here hx rfl (hb hby d_prog_37_method_2_code_89) rfl rfl ?_
        show Steps p.tables e below (T239.setTop (mkF m 90 #[.val (.ref a1), .val (.ref s1), .val (.int (0 : Int32)), .val (.double (FP.ddiv (FP.l2d x0) (FP.l2d k0))), .second, .val (.double (own_d x0 k0 m0)), .second] [(.ref a1), (.double (FP.ddiv (FP.l2d x0) (FP.l2d k0))), (.double (own_d x0 k0 m0)), (.double q0), (.int (0 : Int32)), (.ref qb)])) _
        refine st243 _ ?_
        show Steps p.tables e below (T243.setTop (mkF m 93 #[.val (.ref a1), .val (.ref s1), .val (.int (0 : Int32)), .val (.double (FP.ddiv (FP.l2d x0) (FP.l2d k0))), .second, .val (.double (own_d x0 k0 m0)), .second] [(.ref mb), (.double (FP.ddiv (FP.l2d x0) (FP.l2d k0))), (.double (own_d x0 k0 m0)), (.double q0), (.int (0 : Int32)), (.ref qb)])) _
        refine XS.iloadN X243.here hx rfl (hb hby d_prog_37_method_2_code_93) rfl ?_
        show Steps p.tables e below (T243.setTop (mkF m 94 #[.val (.ref a1), .val (.ref s1), .val (.int (0 : Int32)), .val (.double (FP.ddiv (FP.l2d x0) (FP.l2d k0))), .second, .val (.double (own_d x0 k0 m0)), .second] [(.int (0 : Int32)), (.ref mb), (.double (FP.ddiv (FP.l2d x0) (FP.l2d k0))), (.double (own_d x0 k0 m0)), (.double q0), (.int (0 : Int32)), (.ref qb)])) _
        refine X243.daload hx (j := (0 : Int32)) (v := (.double (own_m x0 k0 u0 m0))) (by rw [e243]; exact Ar244.1) (State.isArrayOf_alike hZ.alike Ar244.2.1) Ar244.2.2 hin244 hat244 (g := (mkF m 94 #[.val (.ref a1), .val (.ref s1), .val (.int (0 : Int32)), .val (.double (FP.ddiv (FP.l2d x0) (FP.l2d k0))), .second, .val (.double (own_d x0 k0 m0)), .second] [(.int (0 : Int32)), (.ref mb), (.double (FP.ddiv (FP.l2d x0) (FP.l2d k0))), (.double (own_d x0 k0 m0)), (.double q0), (.int (0 : Int32)), (.ref qb)])) rfl rfl (hb hby d_prog_37_method_2_code_94) _ ?_
        show Steps p.tables e below (T243.setTop (mkF m 95 #[.val (.ref a1), .val (.ref s1), .val (.int (0 : Int32)), .val (.double (FP.ddiv (FP.l2d x0) (FP.l2d k0))), .second, .val (.double (own_d x0 k0 m0)), .second] [(.double (own_m x0 k0 u0 m0)), (.double (FP.ddiv (FP.l2d x0) (FP.l2d k0))), (.double (own_d x0 k0 m0)), (.double q0), (.int (0 : Int32)), (.ref qb)])) _
        refine XS.dsubS X243.here hx rfl (v := (own_e x0 k0 u0 m0)) (hb hby d_prog_37_method_2_code_95) rfl n04 rfl ?_
        show Steps p.tables e below (T243.setTop (mkF m 96 #[.val (.ref a1), .val (.ref s1), .val (.int (0 : Int32)), .val (.double (FP.ddiv (FP.l2d x0) (FP.l2d k0))), .second, .val (.double (own_d x0 k0 m0)), .second] [(.double (own_e x0 k0 u0 m0)), (.double (own_d x0 k0 m0)), (.double q0), (.int (0 : Int32)), (.ref qb)])) _
        refine XS.dmulS X243.here hx rfl (v := (FP.dmul (own_d x0 k0 m0) (own_e x0 k0 u0 m0))) (hb hby d_prog_37_method_2_code_96) rfl n05 rfl ?_
        show Steps p.tables e below (T243.setTop (mkF m 97 #[.val (.ref a1), .val (.ref s1), .val (.int (0 : Int32)), .val (.double (FP.ddiv (FP.l2d x0) (FP.l2d k0))), .second, .val (.double (own_d x0 k0 m0)), .second] [(.double (FP.dmul (own_d x0 k0 m0) (own_e x0 k0 u0 m0))), (.double q0), (.int (0 : Int32)), (.ref qb)])) _
        refine XS.daddS X243.here hx rfl (v := (own_q x0 k0 u0 m0 q0)) (hb hby d_prog_37_method_2_code_97) rfl n06 rfl ?_
        show Steps p.tables e below (T243.setTop (mkF m 98 #[.val (.ref a1), .val (.ref s1), .val (.int (0 : Int32)), .val (.double (FP.ddiv (FP.l2d x0) (FP.l2d k0))), .second, .val (.double (own_d x0 k0 m0)), .second] [(.double (own_q x0 k0 u0 m0 q0)), (.int (0 : Int32)), (.ref qb)])) _
        refine st246 _ ?_
        show Steps p.tables e below (T246.setTop (mkF m 99 #[.val (.ref a1), .val (.ref s1), .val (.int (0 : Int32)), .val (.double (FP.ddiv (FP.l2d x0) (FP.l2d k0))), .second, .val (.double (own_d x0 k0 m0)), .second] [])) _
        refine XS.aloadN X246.here hx rfl (hb hby d_prog_37_method_2_code_99) rfl rfl ?_
        show Steps p.tables e below (T246.setTop (mkF m 100 #[.val (.ref a1), .val (.ref s1), .val (.int (0 : Int32)), .val (.double (FP.ddiv (FP.l2d x0) (FP.l2d k0))), .second, .val (.double (own_d x0 k0 m0)), .second] [(.ref a1)])) _
        refine st249 _ ?_
        show Steps p.tables e below (T249.setTop (mkF m 103 #[.val (.ref a1), .val (.ref s1), .val (.int (0 : Int32)), .val (.double (FP.ddiv (FP.l2d x0) (FP.l2d k0))), .second, .val (.double (own_d x0 k0 m0)), .second] [(.ref tb)])) _
        refine XS.iloadN X249.here hx rfl (hb hby d_prog_37_method_2_code_103) rfl ?_
        show Steps p.tables e below (T249.setTop (mkF m 104 #[.val (.ref a1), .val (.ref s1), .val (.int (0 : Int32)), .val (.double (FP.ddiv (FP.l2d x0) (FP.l2d k0))), .second, .val (.double (own_d x0 k0 m0)), .second] [(.int (0 : Int32)), (.ref tb)])) _
        jvm_step X249.here [X249.here.top, hx, (hb hby d_prog_37_method_2_code_104), Value.category]
        show Steps p.tables e below (T249.setTop (mkF m 105 #[.val (.ref a1), .val (.ref s1), .val (.int (0 : Int32)), .val (.double (FP.ddiv (FP.l2d x0) (FP.l2d k0))), .second, .val (.double (own_d x0 k0 m0)), .second] [(.int (0 : Int32)), (.ref tb), (.int (0 : Int32)), (.ref tb)])) _
        refine X249.daload hx (j := (0 : Int32)) (v := (.double (FP.l2d t0))) (by rw [e249]; exact Ar251.1) (State.isArrayOf_alike hZ.alike Ar251.2.1) Ar251.2.2 hin251 hat251 (g := (mkF m 105 #[.val (.ref a1), .val (.ref s1), .val (.int (0 : Int32)), .val (.double (FP.ddiv (FP.l2d x0) (FP.l2d k0))), .second, .val (.double (own_d x0 k0 m0)), .second] [(.int (0 : Int32)), (.ref tb), (.int (0 : Int32)), (.ref tb)])) rfl rfl (hb hby d_prog_37_method_2_code_105) _ ?_
        show Steps p.tables e below (T249.setTop (mkF m 106 #[.val (.ref a1), .val (.ref s1), .val (.int (0 : Int32)), .val (.double (FP.ddiv (FP.l2d x0) (FP.l2d k0))), .second, .val (.double (own_d x0 k0 m0)), .second] [(.double (FP.l2d t0)), (.int (0 : Int32)), (.ref tb)])) _
        refine XS.aloadN X249.here hx rfl (hb hby d_prog_37_method_2_code_106) rfl rfl ?_
        show Steps p.tables e below (T249.setTop (mkF m 107 #[.val (.ref a1), .val (.ref s1), .val (.int (0 : Int32)), .val (.double (FP.ddiv (FP.l2d x0) (FP.l2d k0))), .second, .val (.double (own_d x0 k0 m0)), .second] [(.ref s1), (.double (FP.l2d t0)), (.int (0 : Int32)), (.ref tb)])) _
        refine getR X249 hx hZ hown (hw _ (List.mem_of_getElem? (i := 47) rfl)) e249 f252 (g := (mkF m 107 #[.val (.ref a1), .val (.ref s1), .val (.int (0 : Int32)), .val (.double (FP.ddiv (FP.l2d x0) (FP.l2d k0))), .second, .val (.double (own_d x0 k0 m0)), .second] [(.ref s1), (.double (FP.l2d t0)), (.int (0 : Int32)), (.ref tb)])) rfl rfl (hb hby d_prog_37_method_2_code_107) ?_
        show Steps p.tables e below (T249.setTop (mkF m 110 #[.val (.ref a1), .val (.ref s1), .val (.int (0 : Int32)), .val (.double (FP.ddiv (FP.l2d x0) (FP.l2d k0))), .second, .val (.double (own_d x0 k0 m0)), .second] [(.ref st), (.double (FP.l2d t0)), (.int (0 : Int32)), (.ref tb)])) _
        refine XS.iloadN X249.here hx rfl (hb hby d_prog_37_method_2_code_110) rfl ?_
        show Steps p.tables e below (T249.setTop (mkF m 111 #[.val (.ref a1), .val (.ref s1), .val (.int (0 : Int32)), .val (.double (FP.ddiv (FP.l2d x0) (FP.l2d k0))), .second, .val (.double (own_d x0 k0 m0)), .second] [(.int (0 : Int32)), (.ref st), (.double (FP.l2d t0)), (.int (0 : Int32)), (.ref tb)])) _
        refine X249.daload hx (j := (0 : Int32)) (v := (.double (FP.l2d x0))) (by rw [e249]; exact Ar254.1) (State.isArrayOf_alike hZ.alike Ar254.2.1) Ar254.2.2 hin254 hat254 (g := (mkF m 111 #[.val (.ref a1), .val (.ref s1), .val (.int (0 : Int32)), .val (.double (FP.ddiv (FP.l2d x0) (FP.l2d k0))), .second, .val (.double (own_d x0 k0 m0)), .second] [(.int (0 : Int32)), (.ref st), (.double (FP.l2d t0)), (.int (0 : Int32)), (.ref tb)])) rfl rfl (hb hby d_prog_37_method_2_code_111) _ ?_
        show Steps p.tables e below (T249.setTop (mkF m 112 #[.val (.ref a1), .val (.ref s1), .val (.int (0 : Int32)), .val (.double (FP.ddiv (FP.l2d x0) (FP.l2d k0))), .second, .val (.double (own_d x0 k0 m0)), .second] [(.double (FP.l2d x0)), (.double (FP.l2d t0)), (.int (0 : Int32)), (.ref tb)])) _
        refine XS.daddS X249.here hx rfl (v := (FP.l2d (t0 + x0))) (hb hby d_prog_37_method_2_code_112) rfl (nn_w (dadd_w ht0 hx0)) (dadd_w ht0 hx0) ?_
        show Steps p.tables e below (T249.setTop (mkF m 113 #[.val (.ref a1), .val (.ref s1), .val (.int (0 : Int32)), .val (.double (FP.ddiv (FP.l2d x0) (FP.l2d k0))), .second, .val (.double (own_d x0 k0 m0)), .second] [(.double (FP.l2d (t0 + x0))), (.int (0 : Int32)), (.ref tb)])) _
        refine st256 _ ?_
        show Steps p.tables e below (T256.setTop (mkF m 114 #[.val (.ref a1), .val (.ref s1), .val (.int (0 : Int32)), .val (.double (FP.ddiv (FP.l2d x0) (FP.l2d k0))), .second, .val (.double (own_d x0 k0 m0)), .second] [])) _
        refine XS.aloadN X256.here hx rfl (hb hby d_prog_37_method_2_code_114) rfl rfl ?_
        show Steps p.tables e below (T256.setTop (mkF m 115 #[.val (.ref a1), .val (.ref s1), .val (.int (0 : Int32)), .val (.double (FP.ddiv (FP.l2d x0) (FP.l2d k0))), .second, .val (.double (own_d x0 k0 m0)), .second] [(.ref a1)])) _
        refine st259 _ ?_
        show Steps p.tables e below (T259.setTop (mkF m 118 #[.val (.ref a1), .val (.ref s1), .val (.int (0 : Int32)), .val (.double (FP.ddiv (FP.l2d x0) (FP.l2d k0))), .second, .val (.double (own_d x0 k0 m0)), .second] [(.ref cb)])) _
        refine XS.iloadN X259.here hx rfl (hb hby d_prog_37_method_2_code_118) rfl ?_
        show Steps p.tables e below (T259.setTop (mkF m 119 #[.val (.ref a1), .val (.ref s1), .val (.int (0 : Int32)), .val (.double (FP.ddiv (FP.l2d x0) (FP.l2d k0))), .second, .val (.double (own_d x0 k0 m0)), .second] [(.int (0 : Int32)), (.ref cb)])) _
        jvm_step X259.here [X259.here.top, hx, (hb hby d_prog_37_method_2_code_119), Value.category]
        show Steps p.tables e below (T259.setTop (mkF m 120 #[.val (.ref a1), .val (.ref s1), .val (.int (0 : Int32)), .val (.double (FP.ddiv (FP.l2d x0) (FP.l2d k0))), .second, .val (.double (own_d x0 k0 m0)), .second] [(.int (0 : Int32)), (.ref cb), (.int (0 : Int32)), (.ref cb)])) _
        refine X259.laload hx (j := (0 : Int32)) (v := (.long c0)) (by rw [e259]; exact Ar261.1) (State.isArrayOf_alike hZ.alike Ar261.2.1) Ar261.2.2 hin261 hat261 (g := (mkF m 120 #[.val (.ref a1), .val (.ref s1), .val (.int (0 : Int32)), .val (.double (FP.ddiv (FP.l2d x0) (FP.l2d k0))), .second, .val (.double (own_d x0 k0 m0)), .second] [(.int (0 : Int32)), (.ref cb), (.int (0 : Int32)), (.ref cb)])) rfl rfl (hb hby d_prog_37_method_2_code_120) _ ?_
        show Steps p.tables e below (T259.setTop (mkF m 121 #[.val (.ref a1), .val (.ref s1), .val (.int (0 : Int32)), .val (.double (FP.ddiv (FP.l2d x0) (FP.l2d k0))), .second, .val (.double (own_d x0 k0 m0)), .second] [(.long c0), (.int (0 : Int32)), (.ref cb)])) _
        refine XS.aloadN X259.here hx rfl (hb hby d_prog_37_method_2_code_121) rfl rfl ?_
        show Steps p.tables e below (T259.setTop (mkF m 122 #[.val (.ref a1), .val (.ref s1), .val (.int (0 : Int32)), .val (.double (FP.ddiv (FP.l2d x0) (FP.l2d k0))), .second, .val (.double (own_d x0 k0 m0)), .second] [(.ref s1), (.long c0), (.int (0 : Int32)), (.ref cb)])) _
        refine getR X259 hx hZ hown (hw _ (List.mem_of_getElem? (i := 46) rfl)) e259 f262 (g := (mkF m 122 #[.val (.ref a1), .val (.ref s1), .val (.int (0 : Int32)), .val (.double (FP.ddiv (FP.l2d x0) (FP.l2d k0))), .second, .val (.double (own_d x0 k0 m0)), .second] [(.ref s1), (.long c0), (.int (0 : Int32)), (.ref cb)])) rfl rfl (hb hby d_prog_37_method_2_code_122) ?_
        show Steps p.tables e below (T259.setTop (mkF m 125 #[.val (.ref a1), .val (.ref s1), .val (.int (0 : Int32)), .val (.double (FP.ddiv (FP.l2d x0) (FP.l2d k0))), .second, .val (.double (own_d x0 k0 m0)), .second] [(.ref sc), (.long c0), (.int (0 : Int32)), (.ref cb)])) _
        refine XS.iloadN X259.here hx rfl (hb hby d_prog_37_method_2_code_125) rfl ?_
        show Steps p.tables e below (T259.setTop (mkF m 126 #[.val (.ref a1), .val (.ref s1), .val (.int (0 : Int32)), .val (.double (FP.ddiv (FP.l2d x0) (FP.l2d k0))), .second, .val (.double (own_d x0 k0 m0)), .second] [(.int (0 : Int32)), (.ref sc), (.long c0), (.int (0 : Int32)), (.ref cb)])) _
        refine X259.laload hx (j := (0 : Int32)) (v := (.long k0)) (by rw [e259]; exact Ar264.1) (State.isArrayOf_alike hZ.alike Ar264.2.1) Ar264.2.2 hin264 hat264 (g := (mkF m 126 #[.val (.ref a1), .val (.ref s1), .val (.int (0 : Int32)), .val (.double (FP.ddiv (FP.l2d x0) (FP.l2d k0))), .second, .val (.double (own_d x0 k0 m0)), .second] [(.int (0 : Int32)), (.ref sc), (.long c0), (.int (0 : Int32)), (.ref cb)])) rfl rfl (hb hby d_prog_37_method_2_code_126) _ ?_
        show Steps p.tables e below (T259.setTop (mkF m 127 #[.val (.ref a1), .val (.ref s1), .val (.int (0 : Int32)), .val (.double (FP.ddiv (FP.l2d x0) (FP.l2d k0))), .second, .val (.double (own_d x0 k0 m0)), .second] [(.long k0), (.long c0), (.int (0 : Int32)), (.ref cb)])) _
        refine XS.ladd X259.here hx rfl (hb hby d_prog_37_method_2_code_127) rfl ?_
        show Steps p.tables e below (T259.setTop (mkF m 128 #[.val (.ref a1), .val (.ref s1), .val (.int (0 : Int32)), .val (.double (FP.ddiv (FP.l2d x0) (FP.l2d k0))), .second, .val (.double (own_d x0 k0 m0)), .second] [(.long (c0 + k0)), (.int (0 : Int32)), (.ref cb)])) _
        refine st266 _ ?_
        show Steps p.tables e below (T266.setTop (mkF m 129 #[.val (.ref a1), .val (.ref s1), .val (.int (0 : Int32)), .val (.double (FP.ddiv (FP.l2d x0) (FP.l2d k0))), .second, .val (.double (own_d x0 k0 m0)), .second] [])) _
        refine XS.iinc X266.here hx rfl (hb hby d_prog_37_method_2_code_129) rfl (l' := #[.val (.ref a1), .val (.ref s1), .val (.int (1 : Int32)), .val (.double (FP.ddiv (FP.l2d x0) (FP.l2d k0))), .second, .val (.double (own_d x0 k0 m0)), .second]) rfl ?_
        show Steps p.tables e below (T266.setTop (mkF m 132 #[.val (.ref a1), .val (.ref s1), .val (.int (1 : Int32)), .val (.double (FP.ddiv (FP.l2d x0) (FP.l2d k0))), .second, .val (.double (own_d x0 k0 m0)), .second] [])) _
        refine XS.goto X266.here hx rfl (pc0 := 132) (pc' := 2) rfl (hb hby d_prog_37_method_2_code_132) (by decide) (by decide) ?_
        show Steps p.tables e below (T266.setTop (mkF m 2 #[.val (.ref a1), .val (.ref s1), .val (.int (1 : Int32)), .val (.double (FP.ddiv (FP.l2d x0) (FP.l2d k0))), .second, .val (.double (own_d x0 k0 m0)), .second] [])) _
        refine XS.iloadN X266.here hx rfl (hb hby d_prog_37_method_2_code_2) rfl ?_
        show Steps p.tables e below (T266.setTop (mkF m 3 #[.val (.ref a1), .val (.ref s1), .val (.int (1 : Int32)), .val (.double (FP.ddiv (FP.l2d x0) (FP.l2d k0))), .second, .val (.double (own_d x0 k0 m0)), .second] [(.int (1 : Int32))])) _
        refine XS.aloadN X266.here hx rfl (hb hby d_prog_37_method_2_code_3) rfl rfl ?_
        show Steps p.tables e below (T266.setTop (mkF m 4 #[.val (.ref a1), .val (.ref s1), .val (.int (1 : Int32)), .val (.double (FP.ddiv (FP.l2d x0) (FP.l2d k0))), .second, .val (.double (own_d x0 k0 m0)), .second] [(.ref a1), (.int (1 : Int32))])) _
        refine st269 _ ?_
        show Steps p.tables e below (T269.setTop (mkF m 7 #[.val (.ref a1), .val (.ref s1), .val (.int (1 : Int32)), .val (.double (FP.ddiv (FP.l2d x0) (FP.l2d k0))), .second, .val (.double (own_d x0 k0 m0)), .second] [(.ref tb), (.int (1 : Int32))])) _
        refine X269.arraylength hx (by rw [e269]; exact Ar271.1) (State.isArrayOf_alike hZ.alike Ar271.2.1) (g := (mkF m 7 #[.val (.ref a1), .val (.ref s1), .val (.int (1 : Int32)), .val (.double (FP.ddiv (FP.l2d x0) (FP.l2d k0))), .second, .val (.double (own_d x0 k0 m0)), .second] [(.ref tb), (.int (1 : Int32))])) rfl rfl (hb hby d_prog_37_method_2_code_7) _ ?_
        rw [len_of S271 M271]
        show Steps p.tables e below (T269.setTop (mkF m 8 #[.val (.ref a1), .val (.ref s1), .val (.int (1 : Int32)), .val (.double (FP.ddiv (FP.l2d x0) (FP.l2d k0))), .second, .val (.double (own_d x0 k0 m0)), .second] [(.int (2 : Int32)), (.int (1 : Int32))])) _
        refine XS.icmpNo X269.here hx rfl (hb hby d_prog_37_method_2_code_8) rfl (by decide) ?_
        show Steps p.tables e below (T269.setTop (mkF m 11 #[.val (.ref a1), .val (.ref s1), .val (.int (1 : Int32)), .val (.double (FP.ddiv (FP.l2d x0) (FP.l2d k0))), .second, .val (.double (own_d x0 k0 m0)), .second] [])) _
        refine XS.aloadN X269.here hx rfl (hb hby d_prog_37_method_2_code_11) rfl rfl ?_
        show Steps p.tables e below (T269.setTop (mkF m 12 #[.val (.ref a1), .val (.ref s1), .val (.int (1 : Int32)), .val (.double (FP.ddiv (FP.l2d x0) (FP.l2d k0))), .second, .val (.double (own_d x0 k0 m0)), .second] [(.ref s1)])) _
        refine getR X269 hx hZ hown (hw _ (List.mem_of_getElem? (i := 46) rfl)) e269 f272 (g := (mkF m 12 #[.val (.ref a1), .val (.ref s1), .val (.int (1 : Int32)), .val (.double (FP.ddiv (FP.l2d x0) (FP.l2d k0))), .second, .val (.double (own_d x0 k0 m0)), .second] [(.ref s1)])) rfl rfl (hb hby d_prog_37_method_2_code_12) ?_
        show Steps p.tables e below (T269.setTop (mkF m 15 #[.val (.ref a1), .val (.ref s1), .val (.int (1 : Int32)), .val (.double (FP.ddiv (FP.l2d x0) (FP.l2d k0))), .second, .val (.double (own_d x0 k0 m0)), .second] [(.ref sc)])) _
        refine XS.iloadN X269.here hx rfl (hb hby d_prog_37_method_2_code_15) rfl ?_
        show Steps p.tables e below (T269.setTop (mkF m 16 #[.val (.ref a1), .val (.ref s1), .val (.int (1 : Int32)), .val (.double (FP.ddiv (FP.l2d x0) (FP.l2d k0))), .second, .val (.double (own_d x0 k0 m0)), .second] [(.int (1 : Int32)), (.ref sc)])) _
        refine X269.laload hx (j := (1 : Int32)) (v := (.long k1)) (by rw [e269]; exact Ar274.1) (State.isArrayOf_alike hZ.alike Ar274.2.1) Ar274.2.2 hin274 hat274 (g := (mkF m 16 #[.val (.ref a1), .val (.ref s1), .val (.int (1 : Int32)), .val (.double (FP.ddiv (FP.l2d x0) (FP.l2d k0))), .second, .val (.double (own_d x0 k0 m0)), .second] [(.int (1 : Int32)), (.ref sc)])) rfl rfl (hb hby d_prog_37_method_2_code_16) _ ?_
        show Steps p.tables e below (T269.setTop (mkF m 17 #[.val (.ref a1), .val (.ref s1), .val (.int (1 : Int32)), .val (.double (FP.ddiv (FP.l2d x0) (FP.l2d k0))), .second, .val (.double (own_d x0 k0 m0)), .second] [(.long k1)])) _
        refine XS.lconst X269.here hx rfl (hb hby d_prog_37_method_2_code_17) ?_
        show Steps p.tables e below (T269.setTop (mkF m 18 #[.val (.ref a1), .val (.ref s1), .val (.int (1 : Int32)), .val (.double (FP.ddiv (FP.l2d x0) (FP.l2d k0))), .second, .val (.double (own_d x0 k0 m0)), .second] [(.long (0 : Int64)), (.long k1)])) _
        refine XS.lcmp X269.here hx rfl (hb hby d_prog_37_method_2_code_18) rfl ?_
        show Steps p.tables e below (T269.setTop (mkF m 19 #[.val (.ref a1), .val (.ref s1), .val (.int (1 : Int32)), .val (.double (FP.ddiv (FP.l2d x0) (FP.l2d k0))), .second, .val (.double (own_d x0 k0 m0)), .second] [(.int (lcmpW k1 (0 : Int64)))])) _
        refine XS.ifNo X269.here hx rfl (hb hby d_prog_37_method_2_code_19) rfl ((if0 _ _).trans (teq ((own_lc0 k1).mpr hk1)).2) ?_
        show Steps p.tables e below (T269.setTop (mkF m 22 #[.val (.ref a1), .val (.ref s1), .val (.int (1 : Int32)), .val (.double (FP.ddiv (FP.l2d x0) (FP.l2d k0))), .second, .val (.double (own_d x0 k0 m0)), .second] [])) _
        refine XS.goto X269.here hx rfl (pc0 := 22) (pc' := 129) rfl (hb hby d_prog_37_method_2_code_22) (by decide) (by decide) ?_
        show Steps p.tables e below (T269.setTop (mkF m 129 #[.val (.ref a1), .val (.ref s1), .val (.int (1 : Int32)), .val (.double (FP.ddiv (FP.l2d x0) (FP.l2d k0))), .second, .val (.double (own_d x0 k0 m0)), .second] [])) _
        refine XS.iinc X269.here hx rfl (hb hby d_prog_37_method_2_code_129) rfl (l' := #[.val (.ref a1), .val (.ref s1), .val (.int (2 : Int32)), .val (.double (FP.ddiv (FP.l2d x0) (FP.l2d k0))), .second, .val (.double (own_d x0 k0 m0)), .second]) rfl ?_
        show Steps p.tables e below (T269.setTop (mkF m 132 #[.val (.ref a1), .val (.ref s1), .val (.int (2 : Int32)), .val (.double (FP.ddiv (FP.l2d x0) (FP.l2d k0))), .second, .val (.double (own_d x0 k0 m0)), .second] [])) _
        refine XS.goto X269.here hx rfl (pc0 := 132) (pc' := 2) rfl (hb hby d_prog_37_method_2_code_132) (by decide) (by decide) ?_
        show Steps p.tables e below (T269.setTop (mkF m 2 #[.val (.ref a1), .val (.ref s1), .val (.int (2 : Int32)), .val (.double (FP.ddiv (FP.l2d x0) (FP.l2d k0))), .second, .val (.double (own_d x0 k0 m0)), .second] [])) _
        refine XS.iloadN X269.here hx rfl (hb hby d_prog_37_method_2_code_2) rfl ?_
        show Steps p.tables e below (T269.setTop (mkF m 3 #[.val (.ref a1), .val (.ref s1), .val (.int (2 : Int32)), .val (.double (FP.ddiv (FP.l2d x0) (FP.l2d k0))), .second, .val (.double (own_d x0 k0 m0)), .second] [(.int (2 : Int32))])) _
        refine XS.aloadN X269.here hx rfl (hb hby d_prog_37_method_2_code_3) rfl rfl ?_
        show Steps p.tables e below (T269.setTop (mkF m 4 #[.val (.ref a1), .val (.ref s1), .val (.int (2 : Int32)), .val (.double (FP.ddiv (FP.l2d x0) (FP.l2d k0))), .second, .val (.double (own_d x0 k0 m0)), .second] [(.ref a1), (.int (2 : Int32))])) _
        refine st275 _ ?_
        show Steps p.tables e below (T275.setTop (mkF m 7 #[.val (.ref a1), .val (.ref s1), .val (.int (2 : Int32)), .val (.double (FP.ddiv (FP.l2d x0) (FP.l2d k0))), .second, .val (.double (own_d x0 k0 m0)), .second] [(.ref tb), (.int (2 : Int32))])) _
        refine X275.arraylength hx (by rw [e275]; exact Ar276.1) (State.isArrayOf_alike hZ.alike Ar276.2.1) (g := (mkF m 7 #[.val (.ref a1), .val (.ref s1), .val (.int (2 : Int32)), .val (.double (FP.ddiv (FP.l2d x0) (FP.l2d k0))), .second, .val (.double (own_d x0 k0 m0)), .second] [(.ref tb), (.int (2 : Int32))])) rfl rfl (hb hby d_prog_37_method_2_code_7) _ ?_
        rw [len_of S276 M276]
        show Steps p.tables e below (T275.setTop (mkF m 8 #[.val (.ref a1), .val (.ref s1), .val (.int (2 : Int32)), .val (.double (FP.ddiv (FP.l2d x0) (FP.l2d k0))), .second, .val (.double (own_d x0 k0 m0)), .second] [(.int (2 : Int32)), (.int (2 : Int32))])) _
        refine XS.icmpYes X275.here hx rfl (pc0 := 8) (pc' := 135) rfl (hb hby d_prog_37_method_2_code_8) rfl (by decide) (by decide) (by decide) ?_
        show Steps p.tables e below (T275.setTop (mkF m 135 #[.val (.ref a1), .val (.ref s1), .val (.int (2 : Int32)), .val (.double (FP.ddiv (FP.l2d x0) (FP.l2d k0))), .second, .val (.double (own_d x0 k0 m0)), .second] [])) _
        exact X275.returnOut hx Bd.returns (hb hby d_prog_37_method_2_code_135) hr
      · show Q4 Z a1 s1 tb cb rb mb qb st sc k_tb k_cb k_rb k_mb k_qb k_st k_sc t0 t1 c0 c1 u0 u1 x0 x1 k0 k1 m0 m1 q0 q1 K Kq B h0 n0 _ T275.heap _
        rw [e275]
        exact ⟨rfl, N266, f277, by rw [own_upd1 hk0, own_upd0 hk1]; exact f270, by rw [own_upd1 hk0, own_upd0 hk1]; exact f267, (u0 + (1 : Int64)), u1, (own_m x0 k0 u0 m0), m1, (own_q x0 k0 u0 m0 q0), q1, f278, f279, f280, ⟨(own_u1 hu0 hv0 hB).2, own_bd_add hv0 own_bd_1 (by omega)⟩, ⟨hu1, own_bd_mono hv1 (by omega)⟩, ⟨n07, hm1.mono (by omega)⟩, ⟨n08, hq1.mono (by omega)⟩⟩
    · obtain ⟨n01, n02, n03, n04, n05, n06, n07, n08⟩ := own_turn (t := x0) hk0 (own_u1 hu0 hv0 hB).1 hm0 hq0 hK1 hK2 hK3 hK4
      obtain ⟨T281, X281, e281, st281⟩ := getF X0 hx hZ hown (host := "") (Or.inl (hw _ (List.mem_of_getElem? (i := 10) rfl))) Via.refl e0 F_total (g := (mkF m 4 #[.val (.ref a1), .val (.ref s1), .val (.int (0 : Int32)), .unset, .unset, .unset, .unset] [(.ref a1), (.int (0 : Int32))])) rfl rfl (hb hby d_prog_37_method_2_code_4)
      obtain ⟨cl282, Ar282, -, S282, M282, -, -⟩ := id V_tb
      obtain ⟨cl283, Ar283, hin283, hat283⟩ := own_at V_sc (0 : Int32) 0 rfl (by decide) (by decide)
      obtain ⟨cl284, Ar284, hin284, hat284⟩ := own_at V_st (0 : Int32) 0 rfl (by decide) (by decide)
      obtain ⟨cl285, Ar285, hin285, hat285⟩ := own_at V_sc (0 : Int32) 0 rfl (by decide) (by decide)
      obtain ⟨T286, X286, e286, st286⟩ := getF X281 hx hZ hown (host := "") (Or.inl (hw _ (List.mem_of_getElem? (i := 15) rfl))) Via.refl e281 F_runsObserved (g := (mkF m 41 #[.val (.ref a1), .val (.ref s1), .val (.int (0 : Int32)), .val (.double (FP.ddiv (FP.l2d x0) (FP.l2d k0))), .second, .unset, .unset] [(.ref a1)])) rfl rfl (hb hby d_prog_37_method_2_code_41)
      obtain ⟨cl287, Ar287, hin287, hat287⟩ := own_at V_rb (0 : Int32) 0 rfl (by decide) (by decide)
      obtain ⟨cl288, Ar288, q288, S288, M288, Hh288, G288⟩ := id V_rb
      obtain ⟨T289, h289, X289, e289, W289, st289⟩ := stJ X286 hx hZ e286 Ar288 (j := (0 : Int32)) (inb_of S288 ⟨by decide, by decide⟩) (g := (mkF m 49 #[.val (.ref a1), .val (.ref s1), .val (.int (0 : Int32)), .val (.double (FP.ddiv (FP.l2d x0) (FP.l2d k0))), .second, .unset, .unset] [(.long (u0 + (1 : Int64))), (.int (0 : Int32)), (.ref rb)])) rfl rfl (hb hby d_prog_37_method_2_code_49)
      have f290 : Arv Z h289 rb k_rb .long (2 : Int32) [(.long (u0 + (1 : Int64))), (.long u1)] (.long (0 : Int64)) := Arv.set Ar288 q288 S288 M288 Hh288 G288 rfl W289 0 rfl (Nat.le_of_ble_eq_true rfl)
      have N289 := Fr.snoc X289 N0 (by omega : n0 ≤ (rb : Nat))
      have f291 := (F_meanOfRunMeans.other W289 (Or.inl (by omega : (a1 : Nat) ≠ rb)))
      obtain ⟨T292, X292, e292, st292⟩ := getF X289 hx hZ hown (host := "") (Or.inl (hw _ (List.mem_of_getElem? (i := 17) rfl))) Via.refl e289 f291 (g := (mkF m 52 #[.val (.ref a1), .val (.ref s1), .val (.int (0 : Int32)), .val (.double (FP.ddiv (FP.l2d x0) (FP.l2d k0))), .second, .unset, .unset] [(.ref a1), (.double (FP.ddiv (FP.l2d x0) (FP.l2d k0)))])) rfl rfl (hb hby d_prog_37_method_2_code_52)
      have f293 := (V_mb.other W289 (by omega : (mb : Nat) ≠ rb))
      obtain ⟨cl294, Ar294, hin294, hat294⟩ := own_at f293 (0 : Int32) 0 rfl (by decide) (by decide)
      obtain ⟨T295, X295, e295, st295⟩ := getF X292 hx hZ hown (host := "") (Or.inl (hw _ (List.mem_of_getElem? (i := 17) rfl))) Via.refl e292 f291 (g := (mkF m 61 #[.val (.ref a1), .val (.ref s1), .val (.int (0 : Int32)), .val (.double (FP.ddiv (FP.l2d x0) (FP.l2d k0))), .second, .val (.double (own_d x0 k0 m0)), .second] [(.ref a1)])) rfl rfl (hb hby d_prog_37_method_2_code_61)
      obtain ⟨cl296, Ar296, hin296, hat296⟩ := own_at f293 (0 : Int32) 0 rfl (by decide) (by decide)
      have f297 := (F_runsObserved.other W289 (Or.inl (by omega : (a1 : Nat) ≠ rb)))
      obtain ⟨T298, X298, e298, st298⟩ := getF X295 hx hZ hown (host := "") (Or.inl (hw _ (List.mem_of_getElem? (i := 15) rfl))) Via.refl e295 f297 (g := (mkF m 70 #[.val (.ref a1), .val (.ref s1), .val (.int (0 : Int32)), .val (.double (FP.ddiv (FP.l2d x0) (FP.l2d k0))), .second, .val (.double (own_d x0 k0 m0)), .second] [(.ref a1), (.double (own_d x0 k0 m0)), (.double m0), (.int (0 : Int32)), (.ref mb)])) rfl rfl (hb hby d_prog_37_method_2_code_70)
      obtain ⟨cl299, Ar299, hin299, hat299⟩ := own_at f290 (0 : Int32) 0 rfl (by decide) (by decide)
      obtain ⟨cl300, Ar300, q300, S300, M300, Hh300, G300⟩ := id f293
      obtain ⟨T301, h301, X301, e301, W301, st301⟩ := stD X298 hx hZ e298 Ar300 (j := (0 : Int32)) (inb_of S300 ⟨by decide, by decide⟩) (g := (mkF m 78 #[.val (.ref a1), .val (.ref s1), .val (.int (0 : Int32)), .val (.double (FP.ddiv (FP.l2d x0) (FP.l2d k0))), .second, .val (.double (own_d x0 k0 m0)), .second] [(.double (own_m x0 k0 u0 m0)), (.int (0 : Int32)), (.ref mb)])) rfl rfl (hb hby d_prog_37_method_2_code_78)
      have f302 : Arv Z h301 mb k_mb .double (2 : Int32) [(.double (own_m x0 k0 u0 m0)), (.double m1)] (.double (FP.l2d 0)) := Arv.set Ar300 q300 S300 M300 Hh300 G300 rfl W301 0 rfl (Nat.le_of_ble_eq_true rfl)
      have N301 := Fr.snoc X301 N289 (by omega : n0 ≤ (mb : Nat))
      have f303 := ((F_squaredDeviations.other W289 (Or.inl (by omega : (a1 : Nat) ≠ rb))).other W301 (Or.inl (by omega : (a1 : Nat) ≠ mb)))
      obtain ⟨T304, X304, e304, st304⟩ := getF X301 hx hZ hown (host := "") (Or.inl (hw _ (List.mem_of_getElem? (i := 19) rfl))) Via.refl e301 f303 (g := (mkF m 80 #[.val (.ref a1), .val (.ref s1), .val (.int (0 : Int32)), .val (.double (FP.ddiv (FP.l2d x0) (FP.l2d k0))), .second, .val (.double (own_d x0 k0 m0)), .second] [(.ref a1)])) rfl rfl (hb hby d_prog_37_method_2_code_80)
      have f305 := ((V_qb.other W289 (by omega : (qb : Nat) ≠ rb)).other W301 (by omega : (qb : Nat) ≠ mb))
      obtain ⟨cl306, Ar306, hin306, hat306⟩ := own_at f305 (0 : Int32) 0 rfl (by decide) (by decide)
      have f307 := (f291.other W301 (Or.inl (by omega : (a1 : Nat) ≠ mb)))
      obtain ⟨T308, X308, e308, st308⟩ := getF X304 hx hZ hown (host := "") (Or.inl (hw _ (List.mem_of_getElem? (i := 17) rfl))) Via.refl e304 f307 (g := (mkF m 90 #[.val (.ref a1), .val (.ref s1), .val (.int (0 : Int32)), .val (.double (FP.ddiv (FP.l2d x0) (FP.l2d k0))), .second, .val (.double (own_d x0 k0 m0)), .second] [(.ref a1), (.double (FP.ddiv (FP.l2d x0) (FP.l2d k0))), (.double (own_d x0 k0 m0)), (.double q0), (.int (0 : Int32)), (.ref qb)])) rfl rfl (hb hby d_prog_37_method_2_code_90)
      obtain ⟨cl309, Ar309, hin309, hat309⟩ := own_at f302 (0 : Int32) 0 rfl (by decide) (by decide)
      obtain ⟨cl310, Ar310, q310, S310, M310, Hh310, G310⟩ := id f305
      obtain ⟨T311, h311, X311, e311, W311, st311⟩ := stD X308 hx hZ e308 Ar310 (j := (0 : Int32)) (inb_of S310 ⟨by decide, by decide⟩) (g := (mkF m 98 #[.val (.ref a1), .val (.ref s1), .val (.int (0 : Int32)), .val (.double (FP.ddiv (FP.l2d x0) (FP.l2d k0))), .second, .val (.double (own_d x0 k0 m0)), .second] [(.double (own_q x0 k0 u0 m0 q0)), (.int (0 : Int32)), (.ref qb)])) rfl rfl (hb hby d_prog_37_method_2_code_98)
      have f312 : Arv Z h311 qb k_qb .double (2 : Int32) [(.double (own_q x0 k0 u0 m0 q0)), (.double q1)] (.double (FP.l2d 0)) := Arv.set Ar310 q310 S310 M310 Hh310 G310 rfl W311 0 rfl (Nat.le_of_ble_eq_true rfl)
      have N311 := Fr.snoc X311 N301 (by omega : n0 ≤ (qb : Nat))
      have f313 := (((F_total.other W289 (Or.inl (by omega : (a1 : Nat) ≠ rb))).other W301 (Or.inl (by omega : (a1 : Nat) ≠ mb))).other W311 (Or.inl (by omega : (a1 : Nat) ≠ qb)))
      obtain ⟨T314, X314, e314, st314⟩ := getF X311 hx hZ hown (host := "") (Or.inl (hw _ (List.mem_of_getElem? (i := 10) rfl))) Via.refl e311 f313 (g := (mkF m 100 #[.val (.ref a1), .val (.ref s1), .val (.int (0 : Int32)), .val (.double (FP.ddiv (FP.l2d x0) (FP.l2d k0))), .second, .val (.double (own_d x0 k0 m0)), .second] [(.ref a1)])) rfl rfl (hb hby d_prog_37_method_2_code_100)
      have f315 := (((V_tb.other W289 (by omega : (tb : Nat) ≠ rb)).other W301 (by omega : (tb : Nat) ≠ mb)).other W311 (by omega : (tb : Nat) ≠ qb))
      obtain ⟨cl316, Ar316, hin316, hat316⟩ := own_at f315 (0 : Int32) 0 rfl (by decide) (by decide)
      have f317 := (((G_total.other W289 (Or.inl (by omega : (s1 : Nat) ≠ rb))).other W301 (Or.inl (by omega : (s1 : Nat) ≠ mb))).other W311 (Or.inl (by omega : (s1 : Nat) ≠ qb)))
      have f318 := (((V_st.other W289 (by omega : (st : Nat) ≠ rb)).other W301 (by omega : (st : Nat) ≠ mb)).other W311 (by omega : (st : Nat) ≠ qb))
      obtain ⟨cl319, Ar319, hin319, hat319⟩ := own_at f318 (0 : Int32) 0 rfl (by decide) (by decide)
      obtain ⟨cl320, Ar320, q320, S320, M320, Hh320, G320⟩ := id f315
      obtain ⟨T321, h321, X321, e321, W321, st321⟩ := stD X314 hx hZ e314 Ar320 (j := (0 : Int32)) (inb_of S320 ⟨by decide, by decide⟩) (g := (mkF m 113 #[.val (.ref a1), .val (.ref s1), .val (.int (0 : Int32)), .val (.double (FP.ddiv (FP.l2d x0) (FP.l2d k0))), .second, .val (.double (own_d x0 k0 m0)), .second] [(.double (FP.l2d (t0 + x0))), (.int (0 : Int32)), (.ref tb)])) rfl rfl (hb hby d_prog_37_method_2_code_113)
      have f322 : Arv Z h321 tb k_tb .double (2 : Int32) [(.double (FP.l2d (t0 + x0))), (.double (FP.l2d t1))] (.double (FP.l2d 0)) := Arv.set Ar320 q320 S320 M320 Hh320 G320 rfl W321 0 rfl (Nat.le_of_ble_eq_true rfl)
      have N321 := Fr.snoc X321 N311 (by omega : n0 ≤ (tb : Nat))
      have f323 := ((((F_count.other W289 (Or.inl (by omega : (a1 : Nat) ≠ rb))).other W301 (Or.inl (by omega : (a1 : Nat) ≠ mb))).other W311 (Or.inl (by omega : (a1 : Nat) ≠ qb))).other W321 (Or.inl (by omega : (a1 : Nat) ≠ tb)))
      obtain ⟨T324, X324, e324, st324⟩ := getF X321 hx hZ hown (host := "") (Or.inl (hw _ (List.mem_of_getElem? (i := 13) rfl))) Via.refl e321 f323 (g := (mkF m 115 #[.val (.ref a1), .val (.ref s1), .val (.int (0 : Int32)), .val (.double (FP.ddiv (FP.l2d x0) (FP.l2d k0))), .second, .val (.double (own_d x0 k0 m0)), .second] [(.ref a1)])) rfl rfl (hb hby d_prog_37_method_2_code_115)
      have f325 := ((((V_cb.other W289 (by omega : (cb : Nat) ≠ rb)).other W301 (by omega : (cb : Nat) ≠ mb)).other W311 (by omega : (cb : Nat) ≠ qb)).other W321 (by omega : (cb : Nat) ≠ tb))
      obtain ⟨cl326, Ar326, hin326, hat326⟩ := own_at f325 (0 : Int32) 0 rfl (by decide) (by decide)
      have f327 := ((((G_count.other W289 (Or.inl (by omega : (s1 : Nat) ≠ rb))).other W301 (Or.inl (by omega : (s1 : Nat) ≠ mb))).other W311 (Or.inl (by omega : (s1 : Nat) ≠ qb))).other W321 (Or.inl (by omega : (s1 : Nat) ≠ tb)))
      have f328 := ((((V_sc.other W289 (by omega : (sc : Nat) ≠ rb)).other W301 (by omega : (sc : Nat) ≠ mb)).other W311 (by omega : (sc : Nat) ≠ qb)).other W321 (by omega : (sc : Nat) ≠ tb))
      obtain ⟨cl329, Ar329, hin329, hat329⟩ := own_at f328 (0 : Int32) 0 rfl (by decide) (by decide)
      obtain ⟨cl330, Ar330, q330, S330, M330, Hh330, G330⟩ := id f325
      obtain ⟨T331, h331, X331, e331, W331, st331⟩ := stJ X324 hx hZ e324 Ar330 (j := (0 : Int32)) (inb_of S330 ⟨by decide, by decide⟩) (g := (mkF m 128 #[.val (.ref a1), .val (.ref s1), .val (.int (0 : Int32)), .val (.double (FP.ddiv (FP.l2d x0) (FP.l2d k0))), .second, .val (.double (own_d x0 k0 m0)), .second] [(.long (c0 + k0)), (.int (0 : Int32)), (.ref cb)])) rfl rfl (hb hby d_prog_37_method_2_code_128)
      have f332 : Arv Z h331 cb k_cb .long (2 : Int32) [(.long (c0 + k0)), (.long c1)] (.long (0 : Int64)) := Arv.set Ar330 q330 S330 M330 Hh330 G330 rfl W331 0 rfl (Nat.le_of_ble_eq_true rfl)
      have N331 := Fr.snoc X331 N321 (by omega : n0 ≤ (cb : Nat))
      obtain ⟨n11, n12, n13, n14, n15, n16, n17, n18⟩ := own_turn (t := x1) hk1 (own_u1 hu1 hv1 hB).1 hm1 hq1 hK1 hK2 hK3 hK4
      have f333 := ((f313.other W321 (Or.inl (by omega : (a1 : Nat) ≠ tb))).other W331 (Or.inl (by omega : (a1 : Nat) ≠ cb)))
      obtain ⟨T334, X334, e334, st334⟩ := getF X331 hx hZ hown (host := "") (Or.inl (hw _ (List.mem_of_getElem? (i := 10) rfl))) Via.refl e331 f333 (g := (mkF m 4 #[.val (.ref a1), .val (.ref s1), .val (.int (1 : Int32)), .val (.double (FP.ddiv (FP.l2d x0) (FP.l2d k0))), .second, .val (.double (own_d x0 k0 m0)), .second] [(.ref a1), (.int (1 : Int32))])) rfl rfl (hb hby d_prog_37_method_2_code_4)
      have f335 := (f322.other W331 (by omega : (tb : Nat) ≠ cb))
      obtain ⟨cl336, Ar336, -, S336, M336, -, -⟩ := id f335
      have f337 := (f327.other W331 (Or.inl (by omega : (s1 : Nat) ≠ cb)))
      have f338 := (f328.other W331 (by omega : (sc : Nat) ≠ cb))
      obtain ⟨cl339, Ar339, hin339, hat339⟩ := own_at f338 (1 : Int32) 1 rfl (by decide) (by decide)
      have f340 := ((f317.other W321 (Or.inl (by omega : (s1 : Nat) ≠ tb))).other W331 (Or.inl (by omega : (s1 : Nat) ≠ cb)))
      have f341 := ((f318.other W321 (by omega : (st : Nat) ≠ tb)).other W331 (by omega : (st : Nat) ≠ cb))
      obtain ⟨cl342, Ar342, hin342, hat342⟩ := own_at f341 (1 : Int32) 1 rfl (by decide) (by decide)
      obtain ⟨cl343, Ar343, hin343, hat343⟩ := own_at f338 (1 : Int32) 1 rfl (by decide) (by decide)
      have f344 := ((((f297.other W301 (Or.inl (by omega : (a1 : Nat) ≠ mb))).other W311 (Or.inl (by omega : (a1 : Nat) ≠ qb))).other W321 (Or.inl (by omega : (a1 : Nat) ≠ tb))).other W331 (Or.inl (by omega : (a1 : Nat) ≠ cb)))
      obtain ⟨T345, X345, e345, st345⟩ := getF X334 hx hZ hown (host := "") (Or.inl (hw _ (List.mem_of_getElem? (i := 15) rfl))) Via.refl e334 f344 (g := (mkF m 41 #[.val (.ref a1), .val (.ref s1), .val (.int (1 : Int32)), .val (.double (FP.ddiv (FP.l2d x1) (FP.l2d k1))), .second, .val (.double (own_d x0 k0 m0)), .second] [(.ref a1)])) rfl rfl (hb hby d_prog_37_method_2_code_41)
      have f346 := ((((f290.other W301 (by omega : (rb : Nat) ≠ mb)).other W311 (by omega : (rb : Nat) ≠ qb)).other W321 (by omega : (rb : Nat) ≠ tb)).other W331 (by omega : (rb : Nat) ≠ cb))
      obtain ⟨cl347, Ar347, hin347, hat347⟩ := own_at f346 (1 : Int32) 1 rfl (by decide) (by decide)
      obtain ⟨cl348, Ar348, q348, S348, M348, Hh348, G348⟩ := id f346
      obtain ⟨T349, h349, X349, e349, W349, st349⟩ := stJ X345 hx hZ e345 Ar348 (j := (1 : Int32)) (inb_of S348 ⟨by decide, by decide⟩) (g := (mkF m 49 #[.val (.ref a1), .val (.ref s1), .val (.int (1 : Int32)), .val (.double (FP.ddiv (FP.l2d x1) (FP.l2d k1))), .second, .val (.double (own_d x0 k0 m0)), .second] [(.long (u1 + (1 : Int64))), (.int (1 : Int32)), (.ref rb)])) rfl rfl (hb hby d_prog_37_method_2_code_49)
      have f350 : Arv Z h349 rb k_rb .long (2 : Int32) [(.long (u0 + (1 : Int64))), (.long (u1 + (1 : Int64)))] (.long (0 : Int64)) := Arv.set Ar348 q348 S348 M348 Hh348 G348 rfl W349 1 rfl (Nat.le_of_ble_eq_true rfl)
      have N349 := Fr.snoc X349 N331 (by omega : n0 ≤ (rb : Nat))
      have f351 := ((((f307.other W311 (Or.inl (by omega : (a1 : Nat) ≠ qb))).other W321 (Or.inl (by omega : (a1 : Nat) ≠ tb))).other W331 (Or.inl (by omega : (a1 : Nat) ≠ cb))).other W349 (Or.inl (by omega : (a1 : Nat) ≠ rb)))
      obtain ⟨T352, X352, e352, st352⟩ := getF X349 hx hZ hown (host := "") (Or.inl (hw _ (List.mem_of_getElem? (i := 17) rfl))) Via.refl e349 f351 (g := (mkF m 52 #[.val (.ref a1), .val (.ref s1), .val (.int (1 : Int32)), .val (.double (FP.ddiv (FP.l2d x1) (FP.l2d k1))), .second, .val (.double (own_d x0 k0 m0)), .second] [(.ref a1), (.double (FP.ddiv (FP.l2d x1) (FP.l2d k1)))])) rfl rfl (hb hby d_prog_37_method_2_code_52)
      have f353 := ((((f302.other W311 (by omega : (mb : Nat) ≠ qb)).other W321 (by omega : (mb : Nat) ≠ tb)).other W331 (by omega : (mb : Nat) ≠ cb)).other W349 (by omega : (mb : Nat) ≠ rb))
      obtain ⟨cl354, Ar354, hin354, hat354⟩ := own_at f353 (1 : Int32) 1 rfl (by decide) (by decide)
      obtain ⟨T355, X355, e355, st355⟩ := getF X352 hx hZ hown (host := "") (Or.inl (hw _ (List.mem_of_getElem? (i := 17) rfl))) Via.refl e352 f351 (g := (mkF m 61 #[.val (.ref a1), .val (.ref s1), .val (.int (1 : Int32)), .val (.double (FP.ddiv (FP.l2d x1) (FP.l2d k1))), .second, .val (.double (own_d x1 k1 m1)), .second] [(.ref a1)])) rfl rfl (hb hby d_prog_37_method_2_code_61)
      obtain ⟨cl356, Ar356, hin356, hat356⟩ := own_at f353 (1 : Int32) 1 rfl (by decide) (by decide)
      have f357 := (f344.other W349 (Or.inl (by omega : (a1 : Nat) ≠ rb)))
      obtain ⟨T358, X358, e358, st358⟩ := getF X355 hx hZ hown (host := "") (Or.inl (hw _ (List.mem_of_getElem? (i := 15) rfl))) Via.refl e355 f357 (g := (mkF m 70 #[.val (.ref a1), .val (.ref s1), .val (.int (1 : Int32)), .val (.double (FP.ddiv (FP.l2d x1) (FP.l2d k1))), .second, .val (.double (own_d x1 k1 m1)), .second] [(.ref a1), (.double (own_d x1 k1 m1)), (.double m1), (.int (1 : Int32)), (.ref mb)])) rfl rfl (hb hby d_prog_37_method_2_code_70)
      obtain ⟨cl359, Ar359, hin359, hat359⟩ := own_at f350 (1 : Int32) 1 rfl (by decide) (by decide)
      obtain ⟨cl360, Ar360, q360, S360, M360, Hh360, G360⟩ := id f353
      obtain ⟨T361, h361, X361, e361, W361, st361⟩ := stD X358 hx hZ e358 Ar360 (j := (1 : Int32)) (inb_of S360 ⟨by decide, by decide⟩) (g := (mkF m 78 #[.val (.ref a1), .val (.ref s1), .val (.int (1 : Int32)), .val (.double (FP.ddiv (FP.l2d x1) (FP.l2d k1))), .second, .val (.double (own_d x1 k1 m1)), .second] [(.double (own_m x1 k1 u1 m1)), (.int (1 : Int32)), (.ref mb)])) rfl rfl (hb hby d_prog_37_method_2_code_78)
      have f362 : Arv Z h361 mb k_mb .double (2 : Int32) [(.double (own_m x0 k0 u0 m0)), (.double (own_m x1 k1 u1 m1))] (.double (FP.l2d 0)) := Arv.set Ar360 q360 S360 M360 Hh360 G360 rfl W361 1 rfl (Nat.le_of_ble_eq_true rfl)
      have N361 := Fr.snoc X361 N349 (by omega : n0 ≤ (mb : Nat))
      have f363 := (((((f303.other W311 (Or.inl (by omega : (a1 : Nat) ≠ qb))).other W321 (Or.inl (by omega : (a1 : Nat) ≠ tb))).other W331 (Or.inl (by omega : (a1 : Nat) ≠ cb))).other W349 (Or.inl (by omega : (a1 : Nat) ≠ rb))).other W361 (Or.inl (by omega : (a1 : Nat) ≠ mb)))
      obtain ⟨T364, X364, e364, st364⟩ := getF X361 hx hZ hown (host := "") (Or.inl (hw _ (List.mem_of_getElem? (i := 19) rfl))) Via.refl e361 f363 (g := (mkF m 80 #[.val (.ref a1), .val (.ref s1), .val (.int (1 : Int32)), .val (.double (FP.ddiv (FP.l2d x1) (FP.l2d k1))), .second, .val (.double (own_d x1 k1 m1)), .second] [(.ref a1)])) rfl rfl (hb hby d_prog_37_method_2_code_80)
      have f365 := ((((f312.other W321 (by omega : (qb : Nat) ≠ tb)).other W331 (by omega : (qb : Nat) ≠ cb)).other W349 (by omega : (qb : Nat) ≠ rb)).other W361 (by omega : (qb : Nat) ≠ mb))
      obtain ⟨cl366, Ar366, hin366, hat366⟩ := own_at f365 (1 : Int32) 1 rfl (by decide) (by decide)
      have f367 := (f351.other W361 (Or.inl (by omega : (a1 : Nat) ≠ mb)))
      obtain ⟨T368, X368, e368, st368⟩ := getF X364 hx hZ hown (host := "") (Or.inl (hw _ (List.mem_of_getElem? (i := 17) rfl))) Via.refl e364 f367 (g := (mkF m 90 #[.val (.ref a1), .val (.ref s1), .val (.int (1 : Int32)), .val (.double (FP.ddiv (FP.l2d x1) (FP.l2d k1))), .second, .val (.double (own_d x1 k1 m1)), .second] [(.ref a1), (.double (FP.ddiv (FP.l2d x1) (FP.l2d k1))), (.double (own_d x1 k1 m1)), (.double q1), (.int (1 : Int32)), (.ref qb)])) rfl rfl (hb hby d_prog_37_method_2_code_90)
      obtain ⟨cl369, Ar369, hin369, hat369⟩ := own_at f362 (1 : Int32) 1 rfl (by decide) (by decide)
      obtain ⟨cl370, Ar370, q370, S370, M370, Hh370, G370⟩ := id f365
      obtain ⟨T371, h371, X371, e371, W371, st371⟩ := stD X368 hx hZ e368 Ar370 (j := (1 : Int32)) (inb_of S370 ⟨by decide, by decide⟩) (g := (mkF m 98 #[.val (.ref a1), .val (.ref s1), .val (.int (1 : Int32)), .val (.double (FP.ddiv (FP.l2d x1) (FP.l2d k1))), .second, .val (.double (own_d x1 k1 m1)), .second] [(.double (own_q x1 k1 u1 m1 q1)), (.int (1 : Int32)), (.ref qb)])) rfl rfl (hb hby d_prog_37_method_2_code_98)
      have f372 : Arv Z h371 qb k_qb .double (2 : Int32) [(.double (own_q x0 k0 u0 m0 q0)), (.double (own_q x1 k1 u1 m1 q1))] (.double (FP.l2d 0)) := Arv.set Ar370 q370 S370 M370 Hh370 G370 rfl W371 1 rfl (Nat.le_of_ble_eq_true rfl)
      have N371 := Fr.snoc X371 N361 (by omega : n0 ≤ (qb : Nat))
      have f373 := (((f333.other W349 (Or.inl (by omega : (a1 : Nat) ≠ rb))).other W361 (Or.inl (by omega : (a1 : Nat) ≠ mb))).other W371 (Or.inl (by omega : (a1 : Nat) ≠ qb)))
      obtain ⟨T374, X374, e374, st374⟩ := getF X371 hx hZ hown (host := "") (Or.inl (hw _ (List.mem_of_getElem? (i := 10) rfl))) Via.refl e371 f373 (g := (mkF m 100 #[.val (.ref a1), .val (.ref s1), .val (.int (1 : Int32)), .val (.double (FP.ddiv (FP.l2d x1) (FP.l2d k1))), .second, .val (.double (own_d x1 k1 m1)), .second] [(.ref a1)])) rfl rfl (hb hby d_prog_37_method_2_code_100)
      have f375 := (((f335.other W349 (by omega : (tb : Nat) ≠ rb)).other W361 (by omega : (tb : Nat) ≠ mb)).other W371 (by omega : (tb : Nat) ≠ qb))
      obtain ⟨cl376, Ar376, hin376, hat376⟩ := own_at f375 (1 : Int32) 1 rfl (by decide) (by decide)
      have f377 := (((f340.other W349 (Or.inl (by omega : (s1 : Nat) ≠ rb))).other W361 (Or.inl (by omega : (s1 : Nat) ≠ mb))).other W371 (Or.inl (by omega : (s1 : Nat) ≠ qb)))
      have f378 := (((f341.other W349 (by omega : (st : Nat) ≠ rb)).other W361 (by omega : (st : Nat) ≠ mb)).other W371 (by omega : (st : Nat) ≠ qb))
      obtain ⟨cl379, Ar379, hin379, hat379⟩ := own_at f378 (1 : Int32) 1 rfl (by decide) (by decide)
      obtain ⟨cl380, Ar380, q380, S380, M380, Hh380, G380⟩ := id f375
      obtain ⟨T381, h381, X381, e381, W381, st381⟩ := stD X374 hx hZ e374 Ar380 (j := (1 : Int32)) (inb_of S380 ⟨by decide, by decide⟩) (g := (mkF m 113 #[.val (.ref a1), .val (.ref s1), .val (.int (1 : Int32)), .val (.double (FP.ddiv (FP.l2d x1) (FP.l2d k1))), .second, .val (.double (own_d x1 k1 m1)), .second] [(.double (FP.l2d (t1 + x1))), (.int (1 : Int32)), (.ref tb)])) rfl rfl (hb hby d_prog_37_method_2_code_113)
      have f382 : Arv Z h381 tb k_tb .double (2 : Int32) [(.double (FP.l2d (t0 + x0))), (.double (FP.l2d (t1 + x1)))] (.double (FP.l2d 0)) := Arv.set Ar380 q380 S380 M380 Hh380 G380 rfl W381 1 rfl (Nat.le_of_ble_eq_true rfl)
      have N381 := Fr.snoc X381 N371 (by omega : n0 ≤ (tb : Nat))
      have f383 := (((((f323.other W331 (Or.inl (by omega : (a1 : Nat) ≠ cb))).other W349 (Or.inl (by omega : (a1 : Nat) ≠ rb))).other W361 (Or.inl (by omega : (a1 : Nat) ≠ mb))).other W371 (Or.inl (by omega : (a1 : Nat) ≠ qb))).other W381 (Or.inl (by omega : (a1 : Nat) ≠ tb)))
      obtain ⟨T384, X384, e384, st384⟩ := getF X381 hx hZ hown (host := "") (Or.inl (hw _ (List.mem_of_getElem? (i := 13) rfl))) Via.refl e381 f383 (g := (mkF m 115 #[.val (.ref a1), .val (.ref s1), .val (.int (1 : Int32)), .val (.double (FP.ddiv (FP.l2d x1) (FP.l2d k1))), .second, .val (.double (own_d x1 k1 m1)), .second] [(.ref a1)])) rfl rfl (hb hby d_prog_37_method_2_code_115)
      have f385 := ((((f332.other W349 (by omega : (cb : Nat) ≠ rb)).other W361 (by omega : (cb : Nat) ≠ mb)).other W371 (by omega : (cb : Nat) ≠ qb)).other W381 (by omega : (cb : Nat) ≠ tb))
      obtain ⟨cl386, Ar386, hin386, hat386⟩ := own_at f385 (1 : Int32) 1 rfl (by decide) (by decide)
      have f387 := ((((f337.other W349 (Or.inl (by omega : (s1 : Nat) ≠ rb))).other W361 (Or.inl (by omega : (s1 : Nat) ≠ mb))).other W371 (Or.inl (by omega : (s1 : Nat) ≠ qb))).other W381 (Or.inl (by omega : (s1 : Nat) ≠ tb)))
      have f388 := ((((f338.other W349 (by omega : (sc : Nat) ≠ rb)).other W361 (by omega : (sc : Nat) ≠ mb)).other W371 (by omega : (sc : Nat) ≠ qb)).other W381 (by omega : (sc : Nat) ≠ tb))
      obtain ⟨cl389, Ar389, hin389, hat389⟩ := own_at f388 (1 : Int32) 1 rfl (by decide) (by decide)
      obtain ⟨cl390, Ar390, q390, S390, M390, Hh390, G390⟩ := id f385
      obtain ⟨T391, h391, X391, e391, W391, st391⟩ := stJ X384 hx hZ e384 Ar390 (j := (1 : Int32)) (inb_of S390 ⟨by decide, by decide⟩) (g := (mkF m 128 #[.val (.ref a1), .val (.ref s1), .val (.int (1 : Int32)), .val (.double (FP.ddiv (FP.l2d x1) (FP.l2d k1))), .second, .val (.double (own_d x1 k1 m1)), .second] [(.long (c1 + k1)), (.int (1 : Int32)), (.ref cb)])) rfl rfl (hb hby d_prog_37_method_2_code_128)
      have f392 : Arv Z h391 cb k_cb .long (2 : Int32) [(.long (c0 + k0)), (.long (c1 + k1))] (.long (0 : Int64)) := Arv.set Ar390 q390 S390 M390 Hh390 G390 rfl W391 1 rfl (Nat.le_of_ble_eq_true rfl)
      have N391 := Fr.snoc X391 N381 (by omega : n0 ≤ (cb : Nat))
      have f393 := ((f373.other W381 (Or.inl (by omega : (a1 : Nat) ≠ tb))).other W391 (Or.inl (by omega : (a1 : Nat) ≠ cb)))
      obtain ⟨T394, X394, e394, st394⟩ := getF X391 hx hZ hown (host := "") (Or.inl (hw _ (List.mem_of_getElem? (i := 10) rfl))) Via.refl e391 f393 (g := (mkF m 4 #[.val (.ref a1), .val (.ref s1), .val (.int (2 : Int32)), .val (.double (FP.ddiv (FP.l2d x1) (FP.l2d k1))), .second, .val (.double (own_d x1 k1 m1)), .second] [(.ref a1), (.int (2 : Int32))])) rfl rfl (hb hby d_prog_37_method_2_code_4)
      have f395 := (f382.other W391 (by omega : (tb : Nat) ≠ cb))
      obtain ⟨cl396, Ar396, -, S396, M396, -, -⟩ := id f395
      have f397 := (((((((((((Keep.refl h0 [tb, cb, rb, mb, qb]).wr W289 (Or.inl (List.mem_of_getElem? (i := 2) rfl))).wr W301 (Or.inl (List.mem_of_getElem? (i := 3) rfl))).wr W311 (Or.inl (List.mem_of_getElem? (i := 4) rfl))).wr W321 (Or.inl (List.mem_of_getElem? (i := 0) rfl))).wr W331 (Or.inl (List.mem_of_getElem? (i := 1) rfl))).wr W349 (Or.inl (List.mem_of_getElem? (i := 2) rfl))).wr W361 (Or.inl (List.mem_of_getElem? (i := 3) rfl))).wr W371 (Or.inl (List.mem_of_getElem? (i := 4) rfl))).wr W381 (Or.inl (List.mem_of_getElem? (i := 0) rfl))).wr W391 (Or.inl (List.mem_of_getElem? (i := 1) rfl)))
      have f398 := ((((f350.other W361 (by omega : (rb : Nat) ≠ mb)).other W371 (by omega : (rb : Nat) ≠ qb)).other W381 (by omega : (rb : Nat) ≠ tb)).other W391 (by omega : (rb : Nat) ≠ cb))
      have f399 := (((f362.other W371 (by omega : (mb : Nat) ≠ qb)).other W381 (by omega : (mb : Nat) ≠ tb)).other W391 (by omega : (mb : Nat) ≠ cb))
      have f400 := ((f372.other W381 (by omega : (qb : Nat) ≠ tb)).other W391 (by omega : (qb : Nat) ≠ cb))
      obtain ⟨fs, hr, hrun, hended, hW, hsame⟩ := X394.leave (v := none) (fun _ => rfl)
      refine ⟨_, _, pre0 _ ?_, hrun, hended, _, _, rfl, ?_, ⟨_, rfl⟩, hW, hsame.mono (by decide) (by decide)⟩
      · show Steps p.tables e below (s₁.setTop (mkF m 0 #[.val (.ref a1), .val (.ref s1), .unset, .unset, .unset, .unset, .unset] [])) _
        refine XS.iconst X0.here hx rfl (hb hby d_prog_37_method_2_code_0) ?_
        show Steps p.tables e below (s₁.setTop (mkF m 1 #[.val (.ref a1), .val (.ref s1), .unset, .unset, .unset, .unset, .unset] [(.int (0 : Int32))])) _
        refine XS.istoreN X0.here hx rfl (hb hby d_prog_37_method_2_code_1) rfl (l' := #[.val (.ref a1), .val (.ref s1), .val (.int (0 : Int32)), .unset, .unset, .unset, .unset]) rfl ?_
        show Steps p.tables e below (s₁.setTop (mkF m 2 #[.val (.ref a1), .val (.ref s1), .val (.int (0 : Int32)), .unset, .unset, .unset, .unset] [])) _
        refine XS.iloadN X0.here hx rfl (hb hby d_prog_37_method_2_code_2) rfl ?_
        show Steps p.tables e below (s₁.setTop (mkF m 3 #[.val (.ref a1), .val (.ref s1), .val (.int (0 : Int32)), .unset, .unset, .unset, .unset] [(.int (0 : Int32))])) _
        refine XS.aloadN X0.here hx rfl (hb hby d_prog_37_method_2_code_3) rfl rfl ?_
        show Steps p.tables e below (s₁.setTop (mkF m 4 #[.val (.ref a1), .val (.ref s1), .val (.int (0 : Int32)), .unset, .unset, .unset, .unset] [(.ref a1), (.int (0 : Int32))])) _
        refine st281 _ ?_
        show Steps p.tables e below (T281.setTop (mkF m 7 #[.val (.ref a1), .val (.ref s1), .val (.int (0 : Int32)), .unset, .unset, .unset, .unset] [(.ref tb), (.int (0 : Int32))])) _
        refine X281.arraylength hx (by rw [e281]; exact Ar282.1) (State.isArrayOf_alike hZ.alike Ar282.2.1) (g := (mkF m 7 #[.val (.ref a1), .val (.ref s1), .val (.int (0 : Int32)), .unset, .unset, .unset, .unset] [(.ref tb), (.int (0 : Int32))])) rfl rfl (hb hby d_prog_37_method_2_code_7) _ ?_
        rw [len_of S282 M282]
        show Steps p.tables e below (T281.setTop (mkF m 8 #[.val (.ref a1), .val (.ref s1), .val (.int (0 : Int32)), .unset, .unset, .unset, .unset] [(.int (2 : Int32)), (.int (0 : Int32))])) _
        refine XS.icmpNo X281.here hx rfl (hb hby d_prog_37_method_2_code_8) rfl (by decide) ?_
        show Steps p.tables e below (T281.setTop (mkF m 11 #[.val (.ref a1), .val (.ref s1), .val (.int (0 : Int32)), .unset, .unset, .unset, .unset] [])) _
        refine XS.aloadN X281.here hx rfl (hb hby d_prog_37_method_2_code_11) rfl rfl ?_
        show Steps p.tables e below (T281.setTop (mkF m 12 #[.val (.ref a1), .val (.ref s1), .val (.int (0 : Int32)), .unset, .unset, .unset, .unset] [(.ref s1)])) _
        refine getR X281 hx hZ hown (hw _ (List.mem_of_getElem? (i := 46) rfl)) e281 G_count (g := (mkF m 12 #[.val (.ref a1), .val (.ref s1), .val (.int (0 : Int32)), .unset, .unset, .unset, .unset] [(.ref s1)])) rfl rfl (hb hby d_prog_37_method_2_code_12) ?_
        show Steps p.tables e below (T281.setTop (mkF m 15 #[.val (.ref a1), .val (.ref s1), .val (.int (0 : Int32)), .unset, .unset, .unset, .unset] [(.ref sc)])) _
        refine XS.iloadN X281.here hx rfl (hb hby d_prog_37_method_2_code_15) rfl ?_
        show Steps p.tables e below (T281.setTop (mkF m 16 #[.val (.ref a1), .val (.ref s1), .val (.int (0 : Int32)), .unset, .unset, .unset, .unset] [(.int (0 : Int32)), (.ref sc)])) _
        refine X281.laload hx (j := (0 : Int32)) (v := (.long k0)) (by rw [e281]; exact Ar283.1) (State.isArrayOf_alike hZ.alike Ar283.2.1) Ar283.2.2 hin283 hat283 (g := (mkF m 16 #[.val (.ref a1), .val (.ref s1), .val (.int (0 : Int32)), .unset, .unset, .unset, .unset] [(.int (0 : Int32)), (.ref sc)])) rfl rfl (hb hby d_prog_37_method_2_code_16) _ ?_
        show Steps p.tables e below (T281.setTop (mkF m 17 #[.val (.ref a1), .val (.ref s1), .val (.int (0 : Int32)), .unset, .unset, .unset, .unset] [(.long k0)])) _
        refine XS.lconst X281.here hx rfl (hb hby d_prog_37_method_2_code_17) ?_
        show Steps p.tables e below (T281.setTop (mkF m 18 #[.val (.ref a1), .val (.ref s1), .val (.int (0 : Int32)), .unset, .unset, .unset, .unset] [(.long (0 : Int64)), (.long k0)])) _
        refine XS.lcmp X281.here hx rfl (hb hby d_prog_37_method_2_code_18) rfl ?_
        show Steps p.tables e below (T281.setTop (mkF m 19 #[.val (.ref a1), .val (.ref s1), .val (.int (0 : Int32)), .unset, .unset, .unset, .unset] [(.int (lcmpW k0 (0 : Int64)))])) _
        refine XS.ifYes X281.here hx rfl (pc0 := 19) (pc' := 25) rfl (hb hby d_prog_37_method_2_code_19) rfl ((if0 _ _).trans (feq (fun q => hk0 ((own_lc0 k0).mp q))).2) (by decide) (by decide) ?_
        show Steps p.tables e below (T281.setTop (mkF m 25 #[.val (.ref a1), .val (.ref s1), .val (.int (0 : Int32)), .unset, .unset, .unset, .unset] [])) _
        refine XS.aloadN X281.here hx rfl (hb hby d_prog_37_method_2_code_25) rfl rfl ?_
        show Steps p.tables e below (T281.setTop (mkF m 26 #[.val (.ref a1), .val (.ref s1), .val (.int (0 : Int32)), .unset, .unset, .unset, .unset] [(.ref s1)])) _
        refine getR X281 hx hZ hown (hw _ (List.mem_of_getElem? (i := 47) rfl)) e281 G_total (g := (mkF m 26 #[.val (.ref a1), .val (.ref s1), .val (.int (0 : Int32)), .unset, .unset, .unset, .unset] [(.ref s1)])) rfl rfl (hb hby d_prog_37_method_2_code_26) ?_
        show Steps p.tables e below (T281.setTop (mkF m 29 #[.val (.ref a1), .val (.ref s1), .val (.int (0 : Int32)), .unset, .unset, .unset, .unset] [(.ref st)])) _
        refine XS.iloadN X281.here hx rfl (hb hby d_prog_37_method_2_code_29) rfl ?_
        show Steps p.tables e below (T281.setTop (mkF m 30 #[.val (.ref a1), .val (.ref s1), .val (.int (0 : Int32)), .unset, .unset, .unset, .unset] [(.int (0 : Int32)), (.ref st)])) _
        refine X281.daload hx (j := (0 : Int32)) (v := (.double (FP.l2d x0))) (by rw [e281]; exact Ar284.1) (State.isArrayOf_alike hZ.alike Ar284.2.1) Ar284.2.2 hin284 hat284 (g := (mkF m 30 #[.val (.ref a1), .val (.ref s1), .val (.int (0 : Int32)), .unset, .unset, .unset, .unset] [(.int (0 : Int32)), (.ref st)])) rfl rfl (hb hby d_prog_37_method_2_code_30) _ ?_
        show Steps p.tables e below (T281.setTop (mkF m 31 #[.val (.ref a1), .val (.ref s1), .val (.int (0 : Int32)), .unset, .unset, .unset, .unset] [(.double (FP.l2d x0))])) _
        refine XS.aloadN X281.here hx rfl (hb hby d_prog_37_method_2_code_31) rfl rfl ?_
        show Steps p.tables e below (T281.setTop (mkF m 32 #[.val (.ref a1), .val (.ref s1), .val (.int (0 : Int32)), .unset, .unset, .unset, .unset] [(.ref s1), (.double (FP.l2d x0))])) _
        refine getR X281 hx hZ hown (hw _ (List.mem_of_getElem? (i := 46) rfl)) e281 G_count (g := (mkF m 32 #[.val (.ref a1), .val (.ref s1), .val (.int (0 : Int32)), .unset, .unset, .unset, .unset] [(.ref s1), (.double (FP.l2d x0))])) rfl rfl (hb hby d_prog_37_method_2_code_32) ?_
        show Steps p.tables e below (T281.setTop (mkF m 35 #[.val (.ref a1), .val (.ref s1), .val (.int (0 : Int32)), .unset, .unset, .unset, .unset] [(.ref sc), (.double (FP.l2d x0))])) _
        refine XS.iloadN X281.here hx rfl (hb hby d_prog_37_method_2_code_35) rfl ?_
        show Steps p.tables e below (T281.setTop (mkF m 36 #[.val (.ref a1), .val (.ref s1), .val (.int (0 : Int32)), .unset, .unset, .unset, .unset] [(.int (0 : Int32)), (.ref sc), (.double (FP.l2d x0))])) _
        refine X281.laload hx (j := (0 : Int32)) (v := (.long k0)) (by rw [e281]; exact Ar285.1) (State.isArrayOf_alike hZ.alike Ar285.2.1) Ar285.2.2 hin285 hat285 (g := (mkF m 36 #[.val (.ref a1), .val (.ref s1), .val (.int (0 : Int32)), .unset, .unset, .unset, .unset] [(.int (0 : Int32)), (.ref sc), (.double (FP.l2d x0))])) rfl rfl (hb hby d_prog_37_method_2_code_36) _ ?_
        show Steps p.tables e below (T281.setTop (mkF m 37 #[.val (.ref a1), .val (.ref s1), .val (.int (0 : Int32)), .unset, .unset, .unset, .unset] [(.long k0), (.double (FP.l2d x0))])) _
        refine XS.l2dS X281.here hx rfl (v := (FP.l2d k0)) (hb hby d_prog_37_method_2_code_37) rfl rfl ?_
        show Steps p.tables e below (T281.setTop (mkF m 38 #[.val (.ref a1), .val (.ref s1), .val (.int (0 : Int32)), .unset, .unset, .unset, .unset] [(.double (FP.l2d k0)), (.double (FP.l2d x0))])) _
        refine XS.ddivS X281.here hx rfl (v := (FP.ddiv (FP.l2d x0) (FP.l2d k0))) (hb hby d_prog_37_method_2_code_38) rfl (own_mean_nn hk0) rfl ?_
        show Steps p.tables e below (T281.setTop (mkF m 39 #[.val (.ref a1), .val (.ref s1), .val (.int (0 : Int32)), .unset, .unset, .unset, .unset] [(.double (FP.ddiv (FP.l2d x0) (FP.l2d k0)))])) _
        refine XS.dstoreN X281.here hx rfl (hb hby d_prog_37_method_2_code_39) rfl (l' := #[.val (.ref a1), .val (.ref s1), .val (.int (0 : Int32)), .val (.double (FP.ddiv (FP.l2d x0) (FP.l2d k0))), .second, .unset, .unset]) rfl ?_
        show Steps p.tables e below (T281.setTop (mkF m 40 #[.val (.ref a1), .val (.ref s1), .val (.int (0 : Int32)), .val (.double (FP.ddiv (FP.l2d x0) (FP.l2d k0))), .second, .unset, .unset] [])) _
        refine XS.aloadN X281.here hx rfl (hb hby d_prog_37_method_2_code_40) rfl rfl ?_
        show Steps p.tables e below (T281.setTop (mkF m 41 #[.val (.ref a1), .val (.ref s1), .val (.int (0 : Int32)), .val (.double (FP.ddiv (FP.l2d x0) (FP.l2d k0))), .second, .unset, .unset] [(.ref a1)])) _
        refine st286 _ ?_
        show Steps p.tables e below (T286.setTop (mkF m 44 #[.val (.ref a1), .val (.ref s1), .val (.int (0 : Int32)), .val (.double (FP.ddiv (FP.l2d x0) (FP.l2d k0))), .second, .unset, .unset] [(.ref rb)])) _
        refine XS.iloadN X286.here hx rfl (hb hby d_prog_37_method_2_code_44) rfl ?_
        show Steps p.tables e below (T286.setTop (mkF m 45 #[.val (.ref a1), .val (.ref s1), .val (.int (0 : Int32)), .val (.double (FP.ddiv (FP.l2d x0) (FP.l2d k0))), .second, .unset, .unset] [(.int (0 : Int32)), (.ref rb)])) _
        jvm_step X286.here [X286.here.top, hx, (hb hby d_prog_37_method_2_code_45), Value.category]
        show Steps p.tables e below (T286.setTop (mkF m 46 #[.val (.ref a1), .val (.ref s1), .val (.int (0 : Int32)), .val (.double (FP.ddiv (FP.l2d x0) (FP.l2d k0))), .second, .unset, .unset] [(.int (0 : Int32)), (.ref rb), (.int (0 : Int32)), (.ref rb)])) _
        refine X286.laload hx (j := (0 : Int32)) (v := (.long u0)) (by rw [e286]; exact Ar287.1) (State.isArrayOf_alike hZ.alike Ar287.2.1) Ar287.2.2 hin287 hat287 (g := (mkF m 46 #[.val (.ref a1), .val (.ref s1), .val (.int (0 : Int32)), .val (.double (FP.ddiv (FP.l2d x0) (FP.l2d k0))), .second, .unset, .unset] [(.int (0 : Int32)), (.ref rb), (.int (0 : Int32)), (.ref rb)])) rfl rfl (hb hby d_prog_37_method_2_code_46) _ ?_
        show Steps p.tables e below (T286.setTop (mkF m 47 #[.val (.ref a1), .val (.ref s1), .val (.int (0 : Int32)), .val (.double (FP.ddiv (FP.l2d x0) (FP.l2d k0))), .second, .unset, .unset] [(.long u0), (.int (0 : Int32)), (.ref rb)])) _
        refine XS.lconst X286.here hx rfl (hb hby d_prog_37_method_2_code_47) ?_
        show Steps p.tables e below (T286.setTop (mkF m 48 #[.val (.ref a1), .val (.ref s1), .val (.int (0 : Int32)), .val (.double (FP.ddiv (FP.l2d x0) (FP.l2d k0))), .second, .unset, .unset] [(.long (1 : Int64)), (.long u0), (.int (0 : Int32)), (.ref rb)])) _
        refine XS.ladd X286.here hx rfl (hb hby d_prog_37_method_2_code_48) rfl ?_
        show Steps p.tables e below (T286.setTop (mkF m 49 #[.val (.ref a1), .val (.ref s1), .val (.int (0 : Int32)), .val (.double (FP.ddiv (FP.l2d x0) (FP.l2d k0))), .second, .unset, .unset] [(.long (u0 + (1 : Int64))), (.int (0 : Int32)), (.ref rb)])) _
        refine st289 _ ?_
        show Steps p.tables e below (T289.setTop (mkF m 50 #[.val (.ref a1), .val (.ref s1), .val (.int (0 : Int32)), .val (.double (FP.ddiv (FP.l2d x0) (FP.l2d k0))), .second, .unset, .unset] [])) _
        refine XS.dloadN X289.here hx rfl (hb hby d_prog_37_method_2_code_50) rfl ?_
        show Steps p.tables e below (T289.setTop (mkF m 51 #[.val (.ref a1), .val (.ref s1), .val (.int (0 : Int32)), .val (.double (FP.ddiv (FP.l2d x0) (FP.l2d k0))), .second, .unset, .unset] [(.double (FP.ddiv (FP.l2d x0) (FP.l2d k0)))])) _
        refine XS.aloadN X289.here hx rfl (hb hby d_prog_37_method_2_code_51) rfl rfl ?_
        show Steps p.tables e below (T289.setTop (mkF m 52 #[.val (.ref a1), .val (.ref s1), .val (.int (0 : Int32)), .val (.double (FP.ddiv (FP.l2d x0) (FP.l2d k0))), .second, .unset, .unset] [(.ref a1), (.double (FP.ddiv (FP.l2d x0) (FP.l2d k0)))])) _
        refine st292 _ ?_
        show Steps p.tables e below (T292.setTop (mkF m 55 #[.val (.ref a1), .val (.ref s1), .val (.int (0 : Int32)), .val (.double (FP.ddiv (FP.l2d x0) (FP.l2d k0))), .second, .unset, .unset] [(.ref mb), (.double (FP.ddiv (FP.l2d x0) (FP.l2d k0)))])) _
        refine XS.iloadN X292.here hx rfl (hb hby d_prog_37_method_2_code_55) rfl ?_
        show Steps p.tables e below (T292.setTop (mkF m 56 #[.val (.ref a1), .val (.ref s1), .val (.int (0 : Int32)), .val (.double (FP.ddiv (FP.l2d x0) (FP.l2d k0))), .second, .unset, .unset] [(.int (0 : Int32)), (.ref mb), (.double (FP.ddiv (FP.l2d x0) (FP.l2d k0)))])) _
        refine X292.daload hx (j := (0 : Int32)) (v := (.double m0)) (by rw [e292]; exact Ar294.1) (State.isArrayOf_alike hZ.alike Ar294.2.1) Ar294.2.2 hin294 hat294 (g := (mkF m 56 #[.val (.ref a1), .val (.ref s1), .val (.int (0 : Int32)), .val (.double (FP.ddiv (FP.l2d x0) (FP.l2d k0))), .second, .unset, .unset] [(.int (0 : Int32)), (.ref mb), (.double (FP.ddiv (FP.l2d x0) (FP.l2d k0)))])) rfl rfl (hb hby d_prog_37_method_2_code_56) _ ?_
        show Steps p.tables e below (T292.setTop (mkF m 57 #[.val (.ref a1), .val (.ref s1), .val (.int (0 : Int32)), .val (.double (FP.ddiv (FP.l2d x0) (FP.l2d k0))), .second, .unset, .unset] [(.double m0), (.double (FP.ddiv (FP.l2d x0) (FP.l2d k0)))])) _
        refine XS.dsubS X292.here hx rfl (v := (own_d x0 k0 m0)) (hb hby d_prog_37_method_2_code_57) rfl n01 rfl ?_
        show Steps p.tables e below (T292.setTop (mkF m 58 #[.val (.ref a1), .val (.ref s1), .val (.int (0 : Int32)), .val (.double (FP.ddiv (FP.l2d x0) (FP.l2d k0))), .second, .unset, .unset] [(.double (own_d x0 k0 m0))])) _
        refine XS.dstore X292.here hx rfl (hb hby d_prog_37_method_2_code_58) rfl (l' := #[.val (.ref a1), .val (.ref s1), .val (.int (0 : Int32)), .val (.double (FP.ddiv (FP.l2d x0) (FP.l2d k0))), .second, .val (.double (own_d x0 k0 m0)), .second]) rfl ?_
        show Steps p.tables e below (T292.setTop (mkF m 60 #[.val (.ref a1), .val (.ref s1), .val (.int (0 : Int32)), .val (.double (FP.ddiv (FP.l2d x0) (FP.l2d k0))), .second, .val (.double (own_d x0 k0 m0)), .second] [])) _
        refine XS.aloadN X292.here hx rfl (hb hby d_prog_37_method_2_code_60) rfl rfl ?_
        show Steps p.tables e below (T292.setTop (mkF m 61 #[.val (.ref a1), .val (.ref s1), .val (.int (0 : Int32)), .val (.double (FP.ddiv (FP.l2d x0) (FP.l2d k0))), .second, .val (.double (own_d x0 k0 m0)), .second] [(.ref a1)])) _
        refine st295 _ ?_
        show Steps p.tables e below (T295.setTop (mkF m 64 #[.val (.ref a1), .val (.ref s1), .val (.int (0 : Int32)), .val (.double (FP.ddiv (FP.l2d x0) (FP.l2d k0))), .second, .val (.double (own_d x0 k0 m0)), .second] [(.ref mb)])) _
        refine XS.iloadN X295.here hx rfl (hb hby d_prog_37_method_2_code_64) rfl ?_
        show Steps p.tables e below (T295.setTop (mkF m 65 #[.val (.ref a1), .val (.ref s1), .val (.int (0 : Int32)), .val (.double (FP.ddiv (FP.l2d x0) (FP.l2d k0))), .second, .val (.double (own_d x0 k0 m0)), .second] [(.int (0 : Int32)), (.ref mb)])) _
        jvm_step X295.here [X295.here.top, hx, (hb hby d_prog_37_method_2_code_65), Value.category]
        show Steps p.tables e below (T295.setTop (mkF m 66 #[.val (.ref a1), .val (.ref s1), .val (.int (0 : Int32)), .val (.double (FP.ddiv (FP.l2d x0) (FP.l2d k0))), .second, .val (.double (own_d x0 k0 m0)), .second] [(.int (0 : Int32)), (.ref mb), (.int (0 : Int32)), (.ref mb)])) _
        refine X295.daload hx (j := (0 : Int32)) (v := (.double m0)) (by rw [e295]; exact Ar296.1) (State.isArrayOf_alike hZ.alike Ar296.2.1) Ar296.2.2 hin296 hat296 (g := (mkF m 66 #[.val (.ref a1), .val (.ref s1), .val (.int (0 : Int32)), .val (.double (FP.ddiv (FP.l2d x0) (FP.l2d k0))), .second, .val (.double (own_d x0 k0 m0)), .second] [(.int (0 : Int32)), (.ref mb), (.int (0 : Int32)), (.ref mb)])) rfl rfl (hb hby d_prog_37_method_2_code_66) _ ?_
        show Steps p.tables e below (T295.setTop (mkF m 67 #[.val (.ref a1), .val (.ref s1), .val (.int (0 : Int32)), .val (.double (FP.ddiv (FP.l2d x0) (FP.l2d k0))), .second, .val (.double (own_d x0 k0 m0)), .second] [(.double m0), (.int (0 : Int32)), (.ref mb)])) _
        refine XS.dload X295.here hx rfl (hb hby d_prog_37_method_2_code_67) rfl ?_
        show Steps p.tables e below (T295.setTop (mkF m 69 #[.val (.ref a1), .val (.ref s1), .val (.int (0 : Int32)), .val (.double (FP.ddiv (FP.l2d x0) (FP.l2d k0))), .second, .val (.double (own_d x0 k0 m0)), .second] [(.double (own_d x0 k0 m0)), (.double m0), (.int (0 : Int32)), (.ref mb)])) _
        refine XS.aloadN X295.here hx rfl (hb hby d_prog_37_method_2_code_69) rfl rfl ?_
        show Steps p.tables e below (T295.setTop (mkF m 70 #[.val (.ref a1), .val (.ref s1), .val (.int (0 : Int32)), .val (.double (FP.ddiv (FP.l2d x0) (FP.l2d k0))), .second, .val (.double (own_d x0 k0 m0)), .second] [(.ref a1), (.double (own_d x0 k0 m0)), (.double m0), (.int (0 : Int32)), (.ref mb)])) _
        refine st298 _ ?_
        show Steps p.tables e below (T298.setTop (mkF m 73 #[.val (.ref a1), .val (.ref s1), .val (.int (0 : Int32)), .val (.double (FP.ddiv (FP.l2d x0) (FP.l2d k0))), .second, .val (.double (own_d x0 k0 m0)), .second] [(.ref rb), (.double (own_d x0 k0 m0)), (.double m0), (.int (0 : Int32)), (.ref mb)])) _
        refine XS.iloadN X298.here hx rfl (hb hby d_prog_37_method_2_code_73) rfl ?_
        show Steps p.tables e below (T298.setTop (mkF m 74 #[.val (.ref a1), .val (.ref s1), .val (.int (0 : Int32)), .val (.double (FP.ddiv (FP.l2d x0) (FP.l2d k0))), .second, .val (.double (own_d x0 k0 m0)), .second] [(.int (0 : Int32)), (.ref rb), (.double (own_d x0 k0 m0)), (.double m0), (.int (0 : Int32)), (.ref mb)])) _
        refine X298.laload hx (j := (0 : Int32)) (v := (.long (u0 + (1 : Int64)))) (by rw [e298]; exact Ar299.1) (State.isArrayOf_alike hZ.alike Ar299.2.1) Ar299.2.2 hin299 hat299 (g := (mkF m 74 #[.val (.ref a1), .val (.ref s1), .val (.int (0 : Int32)), .val (.double (FP.ddiv (FP.l2d x0) (FP.l2d k0))), .second, .val (.double (own_d x0 k0 m0)), .second] [(.int (0 : Int32)), (.ref rb), (.double (own_d x0 k0 m0)), (.double m0), (.int (0 : Int32)), (.ref mb)])) rfl rfl (hb hby d_prog_37_method_2_code_74) _ ?_
        show Steps p.tables e below (T298.setTop (mkF m 75 #[.val (.ref a1), .val (.ref s1), .val (.int (0 : Int32)), .val (.double (FP.ddiv (FP.l2d x0) (FP.l2d k0))), .second, .val (.double (own_d x0 k0 m0)), .second] [(.long (u0 + (1 : Int64))), (.double (own_d x0 k0 m0)), (.double m0), (.int (0 : Int32)), (.ref mb)])) _
        refine XS.l2dS X298.here hx rfl (v := (FP.l2d (u0 + (1 : Int64)))) (hb hby d_prog_37_method_2_code_75) rfl rfl ?_
        show Steps p.tables e below (T298.setTop (mkF m 76 #[.val (.ref a1), .val (.ref s1), .val (.int (0 : Int32)), .val (.double (FP.ddiv (FP.l2d x0) (FP.l2d k0))), .second, .val (.double (own_d x0 k0 m0)), .second] [(.double (FP.l2d (u0 + (1 : Int64)))), (.double (own_d x0 k0 m0)), (.double m0), (.int (0 : Int32)), (.ref mb)])) _
        refine XS.ddivS X298.here hx rfl (v := (FP.ddiv (own_d x0 k0 m0) (FP.l2d (u0 + (1 : Int64))))) (hb hby d_prog_37_method_2_code_76) rfl n02 rfl ?_
        show Steps p.tables e below (T298.setTop (mkF m 77 #[.val (.ref a1), .val (.ref s1), .val (.int (0 : Int32)), .val (.double (FP.ddiv (FP.l2d x0) (FP.l2d k0))), .second, .val (.double (own_d x0 k0 m0)), .second] [(.double (FP.ddiv (own_d x0 k0 m0) (FP.l2d (u0 + (1 : Int64))))), (.double m0), (.int (0 : Int32)), (.ref mb)])) _
        refine XS.daddS X298.here hx rfl (v := (own_m x0 k0 u0 m0)) (hb hby d_prog_37_method_2_code_77) rfl n03 rfl ?_
        show Steps p.tables e below (T298.setTop (mkF m 78 #[.val (.ref a1), .val (.ref s1), .val (.int (0 : Int32)), .val (.double (FP.ddiv (FP.l2d x0) (FP.l2d k0))), .second, .val (.double (own_d x0 k0 m0)), .second] [(.double (own_m x0 k0 u0 m0)), (.int (0 : Int32)), (.ref mb)])) _
        refine st301 _ ?_
        show Steps p.tables e below (T301.setTop (mkF m 79 #[.val (.ref a1), .val (.ref s1), .val (.int (0 : Int32)), .val (.double (FP.ddiv (FP.l2d x0) (FP.l2d k0))), .second, .val (.double (own_d x0 k0 m0)), .second] [])) _
        refine XS.aloadN X301.here hx rfl (hb hby d_prog_37_method_2_code_79) rfl rfl ?_
        show Steps p.tables e below (T301.setTop (mkF m 80 #[.val (.ref a1), .val (.ref s1), .val (.int (0 : Int32)), .val (.double (FP.ddiv (FP.l2d x0) (FP.l2d k0))), .second, .val (.double (own_d x0 k0 m0)), .second] [(.ref a1)])) _
        refine st304 _ ?_
        show Steps p.tables e below (T304.setTop (mkF m 83 #[.val (.ref a1), .val (.ref s1), .val (.int (0 : Int32)), .val (.double (FP.ddiv (FP.l2d x0) (FP.l2d k0))), .second, .val (.double (own_d x0 k0 m0)), .second] [(.ref qb)])) _
        refine XS.iloadN X304.here hx rfl (hb hby d_prog_37_method_2_code_83) rfl ?_
        show Steps p.tables e below (T304.setTop (mkF m 84 #[.val (.ref a1), .val (.ref s1), .val (.int (0 : Int32)), .val (.double (FP.ddiv (FP.l2d x0) (FP.l2d k0))), .second, .val (.double (own_d x0 k0 m0)), .second] [(.int (0 : Int32)), (.ref qb)])) _
        jvm_step X304.here [X304.here.top, hx, (hb hby d_prog_37_method_2_code_84), Value.category]
        show Steps p.tables e below (T304.setTop (mkF m 85 #[.val (.ref a1), .val (.ref s1), .val (.int (0 : Int32)), .val (.double (FP.ddiv (FP.l2d x0) (FP.l2d k0))), .second, .val (.double (own_d x0 k0 m0)), .second] [(.int (0 : Int32)), (.ref qb), (.int (0 : Int32)), (.ref qb)])) _
        refine X304.daload hx (j := (0 : Int32)) (v := (.double q0)) (by rw [e304]; exact Ar306.1) (State.isArrayOf_alike hZ.alike Ar306.2.1) Ar306.2.2 hin306 hat306 (g := (mkF m 85 #[.val (.ref a1), .val (.ref s1), .val (.int (0 : Int32)), .val (.double (FP.ddiv (FP.l2d x0) (FP.l2d k0))), .second, .val (.double (own_d x0 k0 m0)), .second] [(.int (0 : Int32)), (.ref qb), (.int (0 : Int32)), (.ref qb)])) rfl rfl (hb hby d_prog_37_method_2_code_85) _ ?_
        show Steps p.tables e below (T304.setTop (mkF m 86 #[.val (.ref a1), .val (.ref s1), .val (.int (0 : Int32)), .val (.double (FP.ddiv (FP.l2d x0) (FP.l2d k0))), .second, .val (.double (own_d x0 k0 m0)), .second] [(.double q0), (.int (0 : Int32)), (.ref qb)])) _
        refine XS.dload X304.here hx rfl (hb hby d_prog_37_method_2_code_86) rfl ?_
        show Steps p.tables e below (T304.setTop (mkF m 88 #[.val (.ref a1), .val (.ref s1), .val (.int (0 : Int32)), .val (.double (FP.ddiv (FP.l2d x0) (FP.l2d k0))), .second, .val (.double (own_d x0 k0 m0)), .second] [(.double (own_d x0 k0 m0)), (.double q0), (.int (0 : Int32)), (.ref qb)])) _
        refine XS.dloadN X304.here hx rfl (hb hby d_prog_37_method_2_code_88) rfl ?_
        show Steps p.tables e below (T304.setTop (mkF m 89 #[.val (.ref a1), .val (.ref s1), .val (.int (0 : Int32)), .val (.double (FP.ddiv (FP.l2d x0) (FP.l2d k0))), .second, .val (.double (own_d x0 k0 m0)), .second] [(.double (FP.ddiv (FP.l2d x0) (FP.l2d k0))), (.double (own_d x0 k0 m0)), (.double q0), (.int (0 : Int32)), (.ref qb)])) _
        refine XS.aloadN X304.here hx rfl (hb hby d_prog_37_method_2_code_89) rfl rfl ?_
        show Steps p.tables e below (T304.setTop (mkF m 90 #[.val (.ref a1), .val (.ref s1), .val (.int (0 : Int32)), .val (.double (FP.ddiv (FP.l2d x0) (FP.l2d k0))), .second, .val (.double (own_d x0 k0 m0)), .second] [(.ref a1), (.double (FP.ddiv (FP.l2d x0) (FP.l2d k0))), (.double (own_d x0 k0 m0)), (.double q0), (.int (0 : Int32)), (.ref qb)])) _
        refine st308 _ ?_
        show Steps p.tables e below (T308.setTop (mkF m 93 #[.val (.ref a1), .val (.ref s1), .val (.int (0 : Int32)), .val (.double (FP.ddiv (FP.l2d x0) (FP.l2d k0))), .second, .val (.double (own_d x0 k0 m0)), .second] [(.ref mb), (.double (FP.ddiv (FP.l2d x0) (FP.l2d k0))), (.double (own_d x0 k0 m0)), (.double q0), (.int (0 : Int32)), (.ref qb)])) _
        refine XS.iloadN X308.here hx rfl (hb hby d_prog_37_method_2_code_93) rfl ?_
        show Steps p.tables e below (T308.setTop (mkF m 94 #[.val (.ref a1), .val (.ref s1), .val (.int (0 : Int32)), .val (.double (FP.ddiv (FP.l2d x0) (FP.l2d k0))), .second, .val (.double (own_d x0 k0 m0)), .second] [(.int (0 : Int32)), (.ref mb), (.double (FP.ddiv (FP.l2d x0) (FP.l2d k0))), (.double (own_d x0 k0 m0)), (.double q0), (.int (0 : Int32)), (.ref qb)])) _
        refine X308.daload hx (j := (0 : Int32)) (v := (.double (own_m x0 k0 u0 m0))) (by rw [e308]; exact Ar309.1) (State.isArrayOf_alike hZ.alike Ar309.2.1) Ar309.2.2 hin309 hat309 (g := (mkF m 94 #[.val (.ref a1), .val (.ref s1), .val (.int (0 : Int32)), .val (.double (FP.ddiv (FP.l2d x0) (FP.l2d k0))), .second, .val (.double (own_d x0 k0 m0)), .second] [(.int (0 : Int32)), (.ref mb), (.double (FP.ddiv (FP.l2d x0) (FP.l2d k0))), (.double (own_d x0 k0 m0)), (.double q0), (.int (0 : Int32)), (.ref qb)])) rfl rfl (hb hby d_prog_37_method_2_code_94) _ ?_
        show Steps p.tables e below (T308.setTop (mkF m 95 #[.val (.ref a1), .val (.ref s1), .val (.int (0 : Int32)), .val (.double (FP.ddiv (FP.l2d x0) (FP.l2d k0))), .second, .val (.double (own_d x0 k0 m0)), .second] [(.double (own_m x0 k0 u0 m0)), (.double (FP.ddiv (FP.l2d x0) (FP.l2d k0))), (.double (own_d x0 k0 m0)), (.double q0), (.int (0 : Int32)), (.ref qb)])) _
        refine XS.dsubS X308.here hx rfl (v := (own_e x0 k0 u0 m0)) (hb hby d_prog_37_method_2_code_95) rfl n04 rfl ?_
        show Steps p.tables e below (T308.setTop (mkF m 96 #[.val (.ref a1), .val (.ref s1), .val (.int (0 : Int32)), .val (.double (FP.ddiv (FP.l2d x0) (FP.l2d k0))), .second, .val (.double (own_d x0 k0 m0)), .second] [(.double (own_e x0 k0 u0 m0)), (.double (own_d x0 k0 m0)), (.double q0), (.int (0 : Int32)), (.ref qb)])) _
        refine XS.dmulS X308.here hx rfl (v := (FP.dmul (own_d x0 k0 m0) (own_e x0 k0 u0 m0))) (hb hby d_prog_37_method_2_code_96) rfl n05 rfl ?_
        show Steps p.tables e below (T308.setTop (mkF m 97 #[.val (.ref a1), .val (.ref s1), .val (.int (0 : Int32)), .val (.double (FP.ddiv (FP.l2d x0) (FP.l2d k0))), .second, .val (.double (own_d x0 k0 m0)), .second] [(.double (FP.dmul (own_d x0 k0 m0) (own_e x0 k0 u0 m0))), (.double q0), (.int (0 : Int32)), (.ref qb)])) _
        refine XS.daddS X308.here hx rfl (v := (own_q x0 k0 u0 m0 q0)) (hb hby d_prog_37_method_2_code_97) rfl n06 rfl ?_
        show Steps p.tables e below (T308.setTop (mkF m 98 #[.val (.ref a1), .val (.ref s1), .val (.int (0 : Int32)), .val (.double (FP.ddiv (FP.l2d x0) (FP.l2d k0))), .second, .val (.double (own_d x0 k0 m0)), .second] [(.double (own_q x0 k0 u0 m0 q0)), (.int (0 : Int32)), (.ref qb)])) _
        refine st311 _ ?_
        show Steps p.tables e below (T311.setTop (mkF m 99 #[.val (.ref a1), .val (.ref s1), .val (.int (0 : Int32)), .val (.double (FP.ddiv (FP.l2d x0) (FP.l2d k0))), .second, .val (.double (own_d x0 k0 m0)), .second] [])) _
        refine XS.aloadN X311.here hx rfl (hb hby d_prog_37_method_2_code_99) rfl rfl ?_
        show Steps p.tables e below (T311.setTop (mkF m 100 #[.val (.ref a1), .val (.ref s1), .val (.int (0 : Int32)), .val (.double (FP.ddiv (FP.l2d x0) (FP.l2d k0))), .second, .val (.double (own_d x0 k0 m0)), .second] [(.ref a1)])) _
        refine st314 _ ?_
        show Steps p.tables e below (T314.setTop (mkF m 103 #[.val (.ref a1), .val (.ref s1), .val (.int (0 : Int32)), .val (.double (FP.ddiv (FP.l2d x0) (FP.l2d k0))), .second, .val (.double (own_d x0 k0 m0)), .second] [(.ref tb)])) _
        refine XS.iloadN X314.here hx rfl (hb hby d_prog_37_method_2_code_103) rfl ?_
        show Steps p.tables e below (T314.setTop (mkF m 104 #[.val (.ref a1), .val (.ref s1), .val (.int (0 : Int32)), .val (.double (FP.ddiv (FP.l2d x0) (FP.l2d k0))), .second, .val (.double (own_d x0 k0 m0)), .second] [(.int (0 : Int32)), (.ref tb)])) _
        jvm_step X314.here [X314.here.top, hx, (hb hby d_prog_37_method_2_code_104), Value.category]
        show Steps p.tables e below (T314.setTop (mkF m 105 #[.val (.ref a1), .val (.ref s1), .val (.int (0 : Int32)), .val (.double (FP.ddiv (FP.l2d x0) (FP.l2d k0))), .second, .val (.double (own_d x0 k0 m0)), .second] [(.int (0 : Int32)), (.ref tb), (.int (0 : Int32)), (.ref tb)])) _
        refine X314.daload hx (j := (0 : Int32)) (v := (.double (FP.l2d t0))) (by rw [e314]; exact Ar316.1) (State.isArrayOf_alike hZ.alike Ar316.2.1) Ar316.2.2 hin316 hat316 (g := (mkF m 105 #[.val (.ref a1), .val (.ref s1), .val (.int (0 : Int32)), .val (.double (FP.ddiv (FP.l2d x0) (FP.l2d k0))), .second, .val (.double (own_d x0 k0 m0)), .second] [(.int (0 : Int32)), (.ref tb), (.int (0 : Int32)), (.ref tb)])) rfl rfl (hb hby d_prog_37_method_2_code_105) _ ?_
        show Steps p.tables e below (T314.setTop (mkF m 106 #[.val (.ref a1), .val (.ref s1), .val (.int (0 : Int32)), .val (.double (FP.ddiv (FP.l2d x0) (FP.l2d k0))), .second, .val (.double (own_d x0 k0 m0)), .second] [(.double (FP.l2d t0)), (.int (0 : Int32)), (.ref tb)])) _
        refine XS.aloadN X314.here hx rfl (hb hby d_prog_37_method_2_code_106) rfl rfl ?_
        show Steps p.tables e below (T314.setTop (mkF m 107 #[.val (.ref a1), .val (.ref s1), .val (.int (0 : Int32)), .val (.double (FP.ddiv (FP.l2d x0) (FP.l2d k0))), .second, .val (.double (own_d x0 k0 m0)), .second] [(.ref s1), (.double (FP.l2d t0)), (.int (0 : Int32)), (.ref tb)])) _
        refine getR X314 hx hZ hown (hw _ (List.mem_of_getElem? (i := 47) rfl)) e314 f317 (g := (mkF m 107 #[.val (.ref a1), .val (.ref s1), .val (.int (0 : Int32)), .val (.double (FP.ddiv (FP.l2d x0) (FP.l2d k0))), .second, .val (.double (own_d x0 k0 m0)), .second] [(.ref s1), (.double (FP.l2d t0)), (.int (0 : Int32)), (.ref tb)])) rfl rfl (hb hby d_prog_37_method_2_code_107) ?_
        show Steps p.tables e below (T314.setTop (mkF m 110 #[.val (.ref a1), .val (.ref s1), .val (.int (0 : Int32)), .val (.double (FP.ddiv (FP.l2d x0) (FP.l2d k0))), .second, .val (.double (own_d x0 k0 m0)), .second] [(.ref st), (.double (FP.l2d t0)), (.int (0 : Int32)), (.ref tb)])) _
        refine XS.iloadN X314.here hx rfl (hb hby d_prog_37_method_2_code_110) rfl ?_
        show Steps p.tables e below (T314.setTop (mkF m 111 #[.val (.ref a1), .val (.ref s1), .val (.int (0 : Int32)), .val (.double (FP.ddiv (FP.l2d x0) (FP.l2d k0))), .second, .val (.double (own_d x0 k0 m0)), .second] [(.int (0 : Int32)), (.ref st), (.double (FP.l2d t0)), (.int (0 : Int32)), (.ref tb)])) _
        refine X314.daload hx (j := (0 : Int32)) (v := (.double (FP.l2d x0))) (by rw [e314]; exact Ar319.1) (State.isArrayOf_alike hZ.alike Ar319.2.1) Ar319.2.2 hin319 hat319 (g := (mkF m 111 #[.val (.ref a1), .val (.ref s1), .val (.int (0 : Int32)), .val (.double (FP.ddiv (FP.l2d x0) (FP.l2d k0))), .second, .val (.double (own_d x0 k0 m0)), .second] [(.int (0 : Int32)), (.ref st), (.double (FP.l2d t0)), (.int (0 : Int32)), (.ref tb)])) rfl rfl (hb hby d_prog_37_method_2_code_111) _ ?_
        show Steps p.tables e below (T314.setTop (mkF m 112 #[.val (.ref a1), .val (.ref s1), .val (.int (0 : Int32)), .val (.double (FP.ddiv (FP.l2d x0) (FP.l2d k0))), .second, .val (.double (own_d x0 k0 m0)), .second] [(.double (FP.l2d x0)), (.double (FP.l2d t0)), (.int (0 : Int32)), (.ref tb)])) _
        refine XS.daddS X314.here hx rfl (v := (FP.l2d (t0 + x0))) (hb hby d_prog_37_method_2_code_112) rfl (nn_w (dadd_w ht0 hx0)) (dadd_w ht0 hx0) ?_
        show Steps p.tables e below (T314.setTop (mkF m 113 #[.val (.ref a1), .val (.ref s1), .val (.int (0 : Int32)), .val (.double (FP.ddiv (FP.l2d x0) (FP.l2d k0))), .second, .val (.double (own_d x0 k0 m0)), .second] [(.double (FP.l2d (t0 + x0))), (.int (0 : Int32)), (.ref tb)])) _
        refine st321 _ ?_
        show Steps p.tables e below (T321.setTop (mkF m 114 #[.val (.ref a1), .val (.ref s1), .val (.int (0 : Int32)), .val (.double (FP.ddiv (FP.l2d x0) (FP.l2d k0))), .second, .val (.double (own_d x0 k0 m0)), .second] [])) _
        refine XS.aloadN X321.here hx rfl (hb hby d_prog_37_method_2_code_114) rfl rfl ?_
        show Steps p.tables e below (T321.setTop (mkF m 115 #[.val (.ref a1), .val (.ref s1), .val (.int (0 : Int32)), .val (.double (FP.ddiv (FP.l2d x0) (FP.l2d k0))), .second, .val (.double (own_d x0 k0 m0)), .second] [(.ref a1)])) _
        refine st324 _ ?_
        show Steps p.tables e below (T324.setTop (mkF m 118 #[.val (.ref a1), .val (.ref s1), .val (.int (0 : Int32)), .val (.double (FP.ddiv (FP.l2d x0) (FP.l2d k0))), .second, .val (.double (own_d x0 k0 m0)), .second] [(.ref cb)])) _
        refine XS.iloadN X324.here hx rfl (hb hby d_prog_37_method_2_code_118) rfl ?_
        show Steps p.tables e below (T324.setTop (mkF m 119 #[.val (.ref a1), .val (.ref s1), .val (.int (0 : Int32)), .val (.double (FP.ddiv (FP.l2d x0) (FP.l2d k0))), .second, .val (.double (own_d x0 k0 m0)), .second] [(.int (0 : Int32)), (.ref cb)])) _
        jvm_step X324.here [X324.here.top, hx, (hb hby d_prog_37_method_2_code_119), Value.category]
        show Steps p.tables e below (T324.setTop (mkF m 120 #[.val (.ref a1), .val (.ref s1), .val (.int (0 : Int32)), .val (.double (FP.ddiv (FP.l2d x0) (FP.l2d k0))), .second, .val (.double (own_d x0 k0 m0)), .second] [(.int (0 : Int32)), (.ref cb), (.int (0 : Int32)), (.ref cb)])) _
        refine X324.laload hx (j := (0 : Int32)) (v := (.long c0)) (by rw [e324]; exact Ar326.1) (State.isArrayOf_alike hZ.alike Ar326.2.1) Ar326.2.2 hin326 hat326 (g := (mkF m 120 #[.val (.ref a1), .val (.ref s1), .val (.int (0 : Int32)), .val (.double (FP.ddiv (FP.l2d x0) (FP.l2d k0))), .second, .val (.double (own_d x0 k0 m0)), .second] [(.int (0 : Int32)), (.ref cb), (.int (0 : Int32)), (.ref cb)])) rfl rfl (hb hby d_prog_37_method_2_code_120) _ ?_
        show Steps p.tables e below (T324.setTop (mkF m 121 #[.val (.ref a1), .val (.ref s1), .val (.int (0 : Int32)), .val (.double (FP.ddiv (FP.l2d x0) (FP.l2d k0))), .second, .val (.double (own_d x0 k0 m0)), .second] [(.long c0), (.int (0 : Int32)), (.ref cb)])) _
        refine XS.aloadN X324.here hx rfl (hb hby d_prog_37_method_2_code_121) rfl rfl ?_
        show Steps p.tables e below (T324.setTop (mkF m 122 #[.val (.ref a1), .val (.ref s1), .val (.int (0 : Int32)), .val (.double (FP.ddiv (FP.l2d x0) (FP.l2d k0))), .second, .val (.double (own_d x0 k0 m0)), .second] [(.ref s1), (.long c0), (.int (0 : Int32)), (.ref cb)])) _
        refine getR X324 hx hZ hown (hw _ (List.mem_of_getElem? (i := 46) rfl)) e324 f327 (g := (mkF m 122 #[.val (.ref a1), .val (.ref s1), .val (.int (0 : Int32)), .val (.double (FP.ddiv (FP.l2d x0) (FP.l2d k0))), .second, .val (.double (own_d x0 k0 m0)), .second] [(.ref s1), (.long c0), (.int (0 : Int32)), (.ref cb)])) rfl rfl (hb hby d_prog_37_method_2_code_122) ?_
        show Steps p.tables e below (T324.setTop (mkF m 125 #[.val (.ref a1), .val (.ref s1), .val (.int (0 : Int32)), .val (.double (FP.ddiv (FP.l2d x0) (FP.l2d k0))), .second, .val (.double (own_d x0 k0 m0)), .second] [(.ref sc), (.long c0), (.int (0 : Int32)), (.ref cb)])) _
        refine XS.iloadN X324.here hx rfl (hb hby d_prog_37_method_2_code_125) rfl ?_
        show Steps p.tables e below (T324.setTop (mkF m 126 #[.val (.ref a1), .val (.ref s1), .val (.int (0 : Int32)), .val (.double (FP.ddiv (FP.l2d x0) (FP.l2d k0))), .second, .val (.double (own_d x0 k0 m0)), .second] [(.int (0 : Int32)), (.ref sc), (.long c0), (.int (0 : Int32)), (.ref cb)])) _
        refine X324.laload hx (j := (0 : Int32)) (v := (.long k0)) (by rw [e324]; exact Ar329.1) (State.isArrayOf_alike hZ.alike Ar329.2.1) Ar329.2.2 hin329 hat329 (g := (mkF m 126 #[.val (.ref a1), .val (.ref s1), .val (.int (0 : Int32)), .val (.double (FP.ddiv (FP.l2d x0) (FP.l2d k0))), .second, .val (.double (own_d x0 k0 m0)), .second] [(.int (0 : Int32)), (.ref sc), (.long c0), (.int (0 : Int32)), (.ref cb)])) rfl rfl (hb hby d_prog_37_method_2_code_126) _ ?_
        show Steps p.tables e below (T324.setTop (mkF m 127 #[.val (.ref a1), .val (.ref s1), .val (.int (0 : Int32)), .val (.double (FP.ddiv (FP.l2d x0) (FP.l2d k0))), .second, .val (.double (own_d x0 k0 m0)), .second] [(.long k0), (.long c0), (.int (0 : Int32)), (.ref cb)])) _
        refine XS.ladd X324.here hx rfl (hb hby d_prog_37_method_2_code_127) rfl ?_
        show Steps p.tables e below (T324.setTop (mkF m 128 #[.val (.ref a1), .val (.ref s1), .val (.int (0 : Int32)), .val (.double (FP.ddiv (FP.l2d x0) (FP.l2d k0))), .second, .val (.double (own_d x0 k0 m0)), .second] [(.long (c0 + k0)), (.int (0 : Int32)), (.ref cb)])) _
        refine st331 _ ?_
        show Steps p.tables e below (T331.setTop (mkF m 129 #[.val (.ref a1), .val (.ref s1), .val (.int (0 : Int32)), .val (.double (FP.ddiv (FP.l2d x0) (FP.l2d k0))), .second, .val (.double (own_d x0 k0 m0)), .second] [])) _
        refine XS.iinc X331.here hx rfl (hb hby d_prog_37_method_2_code_129) rfl (l' := #[.val (.ref a1), .val (.ref s1), .val (.int (1 : Int32)), .val (.double (FP.ddiv (FP.l2d x0) (FP.l2d k0))), .second, .val (.double (own_d x0 k0 m0)), .second]) rfl ?_
        show Steps p.tables e below (T331.setTop (mkF m 132 #[.val (.ref a1), .val (.ref s1), .val (.int (1 : Int32)), .val (.double (FP.ddiv (FP.l2d x0) (FP.l2d k0))), .second, .val (.double (own_d x0 k0 m0)), .second] [])) _
        refine XS.goto X331.here hx rfl (pc0 := 132) (pc' := 2) rfl (hb hby d_prog_37_method_2_code_132) (by decide) (by decide) ?_
        show Steps p.tables e below (T331.setTop (mkF m 2 #[.val (.ref a1), .val (.ref s1), .val (.int (1 : Int32)), .val (.double (FP.ddiv (FP.l2d x0) (FP.l2d k0))), .second, .val (.double (own_d x0 k0 m0)), .second] [])) _
        refine XS.iloadN X331.here hx rfl (hb hby d_prog_37_method_2_code_2) rfl ?_
        show Steps p.tables e below (T331.setTop (mkF m 3 #[.val (.ref a1), .val (.ref s1), .val (.int (1 : Int32)), .val (.double (FP.ddiv (FP.l2d x0) (FP.l2d k0))), .second, .val (.double (own_d x0 k0 m0)), .second] [(.int (1 : Int32))])) _
        refine XS.aloadN X331.here hx rfl (hb hby d_prog_37_method_2_code_3) rfl rfl ?_
        show Steps p.tables e below (T331.setTop (mkF m 4 #[.val (.ref a1), .val (.ref s1), .val (.int (1 : Int32)), .val (.double (FP.ddiv (FP.l2d x0) (FP.l2d k0))), .second, .val (.double (own_d x0 k0 m0)), .second] [(.ref a1), (.int (1 : Int32))])) _
        refine st334 _ ?_
        show Steps p.tables e below (T334.setTop (mkF m 7 #[.val (.ref a1), .val (.ref s1), .val (.int (1 : Int32)), .val (.double (FP.ddiv (FP.l2d x0) (FP.l2d k0))), .second, .val (.double (own_d x0 k0 m0)), .second] [(.ref tb), (.int (1 : Int32))])) _
        refine X334.arraylength hx (by rw [e334]; exact Ar336.1) (State.isArrayOf_alike hZ.alike Ar336.2.1) (g := (mkF m 7 #[.val (.ref a1), .val (.ref s1), .val (.int (1 : Int32)), .val (.double (FP.ddiv (FP.l2d x0) (FP.l2d k0))), .second, .val (.double (own_d x0 k0 m0)), .second] [(.ref tb), (.int (1 : Int32))])) rfl rfl (hb hby d_prog_37_method_2_code_7) _ ?_
        rw [len_of S336 M336]
        show Steps p.tables e below (T334.setTop (mkF m 8 #[.val (.ref a1), .val (.ref s1), .val (.int (1 : Int32)), .val (.double (FP.ddiv (FP.l2d x0) (FP.l2d k0))), .second, .val (.double (own_d x0 k0 m0)), .second] [(.int (2 : Int32)), (.int (1 : Int32))])) _
        refine XS.icmpNo X334.here hx rfl (hb hby d_prog_37_method_2_code_8) rfl (by decide) ?_
        show Steps p.tables e below (T334.setTop (mkF m 11 #[.val (.ref a1), .val (.ref s1), .val (.int (1 : Int32)), .val (.double (FP.ddiv (FP.l2d x0) (FP.l2d k0))), .second, .val (.double (own_d x0 k0 m0)), .second] [])) _
        refine XS.aloadN X334.here hx rfl (hb hby d_prog_37_method_2_code_11) rfl rfl ?_
        show Steps p.tables e below (T334.setTop (mkF m 12 #[.val (.ref a1), .val (.ref s1), .val (.int (1 : Int32)), .val (.double (FP.ddiv (FP.l2d x0) (FP.l2d k0))), .second, .val (.double (own_d x0 k0 m0)), .second] [(.ref s1)])) _
        refine getR X334 hx hZ hown (hw _ (List.mem_of_getElem? (i := 46) rfl)) e334 f337 (g := (mkF m 12 #[.val (.ref a1), .val (.ref s1), .val (.int (1 : Int32)), .val (.double (FP.ddiv (FP.l2d x0) (FP.l2d k0))), .second, .val (.double (own_d x0 k0 m0)), .second] [(.ref s1)])) rfl rfl (hb hby d_prog_37_method_2_code_12) ?_
        show Steps p.tables e below (T334.setTop (mkF m 15 #[.val (.ref a1), .val (.ref s1), .val (.int (1 : Int32)), .val (.double (FP.ddiv (FP.l2d x0) (FP.l2d k0))), .second, .val (.double (own_d x0 k0 m0)), .second] [(.ref sc)])) _
        refine XS.iloadN X334.here hx rfl (hb hby d_prog_37_method_2_code_15) rfl ?_
        show Steps p.tables e below (T334.setTop (mkF m 16 #[.val (.ref a1), .val (.ref s1), .val (.int (1 : Int32)), .val (.double (FP.ddiv (FP.l2d x0) (FP.l2d k0))), .second, .val (.double (own_d x0 k0 m0)), .second] [(.int (1 : Int32)), (.ref sc)])) _
        refine X334.laload hx (j := (1 : Int32)) (v := (.long k1)) (by rw [e334]; exact Ar339.1) (State.isArrayOf_alike hZ.alike Ar339.2.1) Ar339.2.2 hin339 hat339 (g := (mkF m 16 #[.val (.ref a1), .val (.ref s1), .val (.int (1 : Int32)), .val (.double (FP.ddiv (FP.l2d x0) (FP.l2d k0))), .second, .val (.double (own_d x0 k0 m0)), .second] [(.int (1 : Int32)), (.ref sc)])) rfl rfl (hb hby d_prog_37_method_2_code_16) _ ?_
        show Steps p.tables e below (T334.setTop (mkF m 17 #[.val (.ref a1), .val (.ref s1), .val (.int (1 : Int32)), .val (.double (FP.ddiv (FP.l2d x0) (FP.l2d k0))), .second, .val (.double (own_d x0 k0 m0)), .second] [(.long k1)])) _
        refine XS.lconst X334.here hx rfl (hb hby d_prog_37_method_2_code_17) ?_
        show Steps p.tables e below (T334.setTop (mkF m 18 #[.val (.ref a1), .val (.ref s1), .val (.int (1 : Int32)), .val (.double (FP.ddiv (FP.l2d x0) (FP.l2d k0))), .second, .val (.double (own_d x0 k0 m0)), .second] [(.long (0 : Int64)), (.long k1)])) _
        refine XS.lcmp X334.here hx rfl (hb hby d_prog_37_method_2_code_18) rfl ?_
        show Steps p.tables e below (T334.setTop (mkF m 19 #[.val (.ref a1), .val (.ref s1), .val (.int (1 : Int32)), .val (.double (FP.ddiv (FP.l2d x0) (FP.l2d k0))), .second, .val (.double (own_d x0 k0 m0)), .second] [(.int (lcmpW k1 (0 : Int64)))])) _
        refine XS.ifYes X334.here hx rfl (pc0 := 19) (pc' := 25) rfl (hb hby d_prog_37_method_2_code_19) rfl ((if0 _ _).trans (feq (fun q => hk1 ((own_lc0 k1).mp q))).2) (by decide) (by decide) ?_
        show Steps p.tables e below (T334.setTop (mkF m 25 #[.val (.ref a1), .val (.ref s1), .val (.int (1 : Int32)), .val (.double (FP.ddiv (FP.l2d x0) (FP.l2d k0))), .second, .val (.double (own_d x0 k0 m0)), .second] [])) _
        refine XS.aloadN X334.here hx rfl (hb hby d_prog_37_method_2_code_25) rfl rfl ?_
        show Steps p.tables e below (T334.setTop (mkF m 26 #[.val (.ref a1), .val (.ref s1), .val (.int (1 : Int32)), .val (.double (FP.ddiv (FP.l2d x0) (FP.l2d k0))), .second, .val (.double (own_d x0 k0 m0)), .second] [(.ref s1)])) _
        refine getR X334 hx hZ hown (hw _ (List.mem_of_getElem? (i := 47) rfl)) e334 f340 (g := (mkF m 26 #[.val (.ref a1), .val (.ref s1), .val (.int (1 : Int32)), .val (.double (FP.ddiv (FP.l2d x0) (FP.l2d k0))), .second, .val (.double (own_d x0 k0 m0)), .second] [(.ref s1)])) rfl rfl (hb hby d_prog_37_method_2_code_26) ?_
        show Steps p.tables e below (T334.setTop (mkF m 29 #[.val (.ref a1), .val (.ref s1), .val (.int (1 : Int32)), .val (.double (FP.ddiv (FP.l2d x0) (FP.l2d k0))), .second, .val (.double (own_d x0 k0 m0)), .second] [(.ref st)])) _
        refine XS.iloadN X334.here hx rfl (hb hby d_prog_37_method_2_code_29) rfl ?_
        show Steps p.tables e below (T334.setTop (mkF m 30 #[.val (.ref a1), .val (.ref s1), .val (.int (1 : Int32)), .val (.double (FP.ddiv (FP.l2d x0) (FP.l2d k0))), .second, .val (.double (own_d x0 k0 m0)), .second] [(.int (1 : Int32)), (.ref st)])) _
        refine X334.daload hx (j := (1 : Int32)) (v := (.double (FP.l2d x1))) (by rw [e334]; exact Ar342.1) (State.isArrayOf_alike hZ.alike Ar342.2.1) Ar342.2.2 hin342 hat342 (g := (mkF m 30 #[.val (.ref a1), .val (.ref s1), .val (.int (1 : Int32)), .val (.double (FP.ddiv (FP.l2d x0) (FP.l2d k0))), .second, .val (.double (own_d x0 k0 m0)), .second] [(.int (1 : Int32)), (.ref st)])) rfl rfl (hb hby d_prog_37_method_2_code_30) _ ?_
        show Steps p.tables e below (T334.setTop (mkF m 31 #[.val (.ref a1), .val (.ref s1), .val (.int (1 : Int32)), .val (.double (FP.ddiv (FP.l2d x0) (FP.l2d k0))), .second, .val (.double (own_d x0 k0 m0)), .second] [(.double (FP.l2d x1))])) _
        refine XS.aloadN X334.here hx rfl (hb hby d_prog_37_method_2_code_31) rfl rfl ?_
        show Steps p.tables e below (T334.setTop (mkF m 32 #[.val (.ref a1), .val (.ref s1), .val (.int (1 : Int32)), .val (.double (FP.ddiv (FP.l2d x0) (FP.l2d k0))), .second, .val (.double (own_d x0 k0 m0)), .second] [(.ref s1), (.double (FP.l2d x1))])) _
        refine getR X334 hx hZ hown (hw _ (List.mem_of_getElem? (i := 46) rfl)) e334 f337 (g := (mkF m 32 #[.val (.ref a1), .val (.ref s1), .val (.int (1 : Int32)), .val (.double (FP.ddiv (FP.l2d x0) (FP.l2d k0))), .second, .val (.double (own_d x0 k0 m0)), .second] [(.ref s1), (.double (FP.l2d x1))])) rfl rfl (hb hby d_prog_37_method_2_code_32) ?_
        show Steps p.tables e below (T334.setTop (mkF m 35 #[.val (.ref a1), .val (.ref s1), .val (.int (1 : Int32)), .val (.double (FP.ddiv (FP.l2d x0) (FP.l2d k0))), .second, .val (.double (own_d x0 k0 m0)), .second] [(.ref sc), (.double (FP.l2d x1))])) _
        refine XS.iloadN X334.here hx rfl (hb hby d_prog_37_method_2_code_35) rfl ?_
        show Steps p.tables e below (T334.setTop (mkF m 36 #[.val (.ref a1), .val (.ref s1), .val (.int (1 : Int32)), .val (.double (FP.ddiv (FP.l2d x0) (FP.l2d k0))), .second, .val (.double (own_d x0 k0 m0)), .second] [(.int (1 : Int32)), (.ref sc), (.double (FP.l2d x1))])) _
        refine X334.laload hx (j := (1 : Int32)) (v := (.long k1)) (by rw [e334]; exact Ar343.1) (State.isArrayOf_alike hZ.alike Ar343.2.1) Ar343.2.2 hin343 hat343 (g := (mkF m 36 #[.val (.ref a1), .val (.ref s1), .val (.int (1 : Int32)), .val (.double (FP.ddiv (FP.l2d x0) (FP.l2d k0))), .second, .val (.double (own_d x0 k0 m0)), .second] [(.int (1 : Int32)), (.ref sc), (.double (FP.l2d x1))])) rfl rfl (hb hby d_prog_37_method_2_code_36) _ ?_
        show Steps p.tables e below (T334.setTop (mkF m 37 #[.val (.ref a1), .val (.ref s1), .val (.int (1 : Int32)), .val (.double (FP.ddiv (FP.l2d x0) (FP.l2d k0))), .second, .val (.double (own_d x0 k0 m0)), .second] [(.long k1), (.double (FP.l2d x1))])) _
        refine XS.l2dS X334.here hx rfl (v := (FP.l2d k1)) (hb hby d_prog_37_method_2_code_37) rfl rfl ?_
        show Steps p.tables e below (T334.setTop (mkF m 38 #[.val (.ref a1), .val (.ref s1), .val (.int (1 : Int32)), .val (.double (FP.ddiv (FP.l2d x0) (FP.l2d k0))), .second, .val (.double (own_d x0 k0 m0)), .second] [(.double (FP.l2d k1)), (.double (FP.l2d x1))])) _
        refine XS.ddivS X334.here hx rfl (v := (FP.ddiv (FP.l2d x1) (FP.l2d k1))) (hb hby d_prog_37_method_2_code_38) rfl (own_mean_nn hk1) rfl ?_
        show Steps p.tables e below (T334.setTop (mkF m 39 #[.val (.ref a1), .val (.ref s1), .val (.int (1 : Int32)), .val (.double (FP.ddiv (FP.l2d x0) (FP.l2d k0))), .second, .val (.double (own_d x0 k0 m0)), .second] [(.double (FP.ddiv (FP.l2d x1) (FP.l2d k1)))])) _
        refine XS.dstoreN X334.here hx rfl (hb hby d_prog_37_method_2_code_39) rfl (l' := #[.val (.ref a1), .val (.ref s1), .val (.int (1 : Int32)), .val (.double (FP.ddiv (FP.l2d x1) (FP.l2d k1))), .second, .val (.double (own_d x0 k0 m0)), .second]) rfl ?_
        show Steps p.tables e below (T334.setTop (mkF m 40 #[.val (.ref a1), .val (.ref s1), .val (.int (1 : Int32)), .val (.double (FP.ddiv (FP.l2d x1) (FP.l2d k1))), .second, .val (.double (own_d x0 k0 m0)), .second] [])) _
        refine XS.aloadN X334.here hx rfl (hb hby d_prog_37_method_2_code_40) rfl rfl ?_
        show Steps p.tables e below (T334.setTop (mkF m 41 #[.val (.ref a1), .val (.ref s1), .val (.int (1 : Int32)), .val (.double (FP.ddiv (FP.l2d x1) (FP.l2d k1))), .second, .val (.double (own_d x0 k0 m0)), .second] [(.ref a1)])) _
        refine st345 _ ?_
        show Steps p.tables e below (T345.setTop (mkF m 44 #[.val (.ref a1), .val (.ref s1), .val (.int (1 : Int32)), .val (.double (FP.ddiv (FP.l2d x1) (FP.l2d k1))), .second, .val (.double (own_d x0 k0 m0)), .second] [(.ref rb)])) _
        refine XS.iloadN X345.here hx rfl (hb hby d_prog_37_method_2_code_44) rfl ?_
        show Steps p.tables e below (T345.setTop (mkF m 45 #[.val (.ref a1), .val (.ref s1), .val (.int (1 : Int32)), .val (.double (FP.ddiv (FP.l2d x1) (FP.l2d k1))), .second, .val (.double (own_d x0 k0 m0)), .second] [(.int (1 : Int32)), (.ref rb)])) _
        jvm_step X345.here [X345.here.top, hx, (hb hby d_prog_37_method_2_code_45), Value.category]
        show Steps p.tables e below (T345.setTop (mkF m 46 #[.val (.ref a1), .val (.ref s1), .val (.int (1 : Int32)), .val (.double (FP.ddiv (FP.l2d x1) (FP.l2d k1))), .second, .val (.double (own_d x0 k0 m0)), .second] [(.int (1 : Int32)), (.ref rb), (.int (1 : Int32)), (.ref rb)])) _
        refine X345.laload hx (j := (1 : Int32)) (v := (.long u1)) (by rw [e345]; exact Ar347.1) (State.isArrayOf_alike hZ.alike Ar347.2.1) Ar347.2.2 hin347 hat347 (g := (mkF m 46 #[.val (.ref a1), .val (.ref s1), .val (.int (1 : Int32)), .val (.double (FP.ddiv (FP.l2d x1) (FP.l2d k1))), .second, .val (.double (own_d x0 k0 m0)), .second] [(.int (1 : Int32)), (.ref rb), (.int (1 : Int32)), (.ref rb)])) rfl rfl (hb hby d_prog_37_method_2_code_46) _ ?_
        show Steps p.tables e below (T345.setTop (mkF m 47 #[.val (.ref a1), .val (.ref s1), .val (.int (1 : Int32)), .val (.double (FP.ddiv (FP.l2d x1) (FP.l2d k1))), .second, .val (.double (own_d x0 k0 m0)), .second] [(.long u1), (.int (1 : Int32)), (.ref rb)])) _
        refine XS.lconst X345.here hx rfl (hb hby d_prog_37_method_2_code_47) ?_
        show Steps p.tables e below (T345.setTop (mkF m 48 #[.val (.ref a1), .val (.ref s1), .val (.int (1 : Int32)), .val (.double (FP.ddiv (FP.l2d x1) (FP.l2d k1))), .second, .val (.double (own_d x0 k0 m0)), .second] [(.long (1 : Int64)), (.long u1), (.int (1 : Int32)), (.ref rb)])) _
        refine XS.ladd X345.here hx rfl (hb hby d_prog_37_method_2_code_48) rfl ?_
        show Steps p.tables e below (T345.setTop (mkF m 49 #[.val (.ref a1), .val (.ref s1), .val (.int (1 : Int32)), .val (.double (FP.ddiv (FP.l2d x1) (FP.l2d k1))), .second, .val (.double (own_d x0 k0 m0)), .second] [(.long (u1 + (1 : Int64))), (.int (1 : Int32)), (.ref rb)])) _
        refine st349 _ ?_
        show Steps p.tables e below (T349.setTop (mkF m 50 #[.val (.ref a1), .val (.ref s1), .val (.int (1 : Int32)), .val (.double (FP.ddiv (FP.l2d x1) (FP.l2d k1))), .second, .val (.double (own_d x0 k0 m0)), .second] [])) _
        refine XS.dloadN X349.here hx rfl (hb hby d_prog_37_method_2_code_50) rfl ?_
        show Steps p.tables e below (T349.setTop (mkF m 51 #[.val (.ref a1), .val (.ref s1), .val (.int (1 : Int32)), .val (.double (FP.ddiv (FP.l2d x1) (FP.l2d k1))), .second, .val (.double (own_d x0 k0 m0)), .second] [(.double (FP.ddiv (FP.l2d x1) (FP.l2d k1)))])) _
        refine XS.aloadN X349.here hx rfl (hb hby d_prog_37_method_2_code_51) rfl rfl ?_
        show Steps p.tables e below (T349.setTop (mkF m 52 #[.val (.ref a1), .val (.ref s1), .val (.int (1 : Int32)), .val (.double (FP.ddiv (FP.l2d x1) (FP.l2d k1))), .second, .val (.double (own_d x0 k0 m0)), .second] [(.ref a1), (.double (FP.ddiv (FP.l2d x1) (FP.l2d k1)))])) _
        refine st352 _ ?_
        show Steps p.tables e below (T352.setTop (mkF m 55 #[.val (.ref a1), .val (.ref s1), .val (.int (1 : Int32)), .val (.double (FP.ddiv (FP.l2d x1) (FP.l2d k1))), .second, .val (.double (own_d x0 k0 m0)), .second] [(.ref mb), (.double (FP.ddiv (FP.l2d x1) (FP.l2d k1)))])) _
        refine XS.iloadN X352.here hx rfl (hb hby d_prog_37_method_2_code_55) rfl ?_
        show Steps p.tables e below (T352.setTop (mkF m 56 #[.val (.ref a1), .val (.ref s1), .val (.int (1 : Int32)), .val (.double (FP.ddiv (FP.l2d x1) (FP.l2d k1))), .second, .val (.double (own_d x0 k0 m0)), .second] [(.int (1 : Int32)), (.ref mb), (.double (FP.ddiv (FP.l2d x1) (FP.l2d k1)))])) _
        refine X352.daload hx (j := (1 : Int32)) (v := (.double m1)) (by rw [e352]; exact Ar354.1) (State.isArrayOf_alike hZ.alike Ar354.2.1) Ar354.2.2 hin354 hat354 (g := (mkF m 56 #[.val (.ref a1), .val (.ref s1), .val (.int (1 : Int32)), .val (.double (FP.ddiv (FP.l2d x1) (FP.l2d k1))), .second, .val (.double (own_d x0 k0 m0)), .second] [(.int (1 : Int32)), (.ref mb), (.double (FP.ddiv (FP.l2d x1) (FP.l2d k1)))])) rfl rfl (hb hby d_prog_37_method_2_code_56) _ ?_
        show Steps p.tables e below (T352.setTop (mkF m 57 #[.val (.ref a1), .val (.ref s1), .val (.int (1 : Int32)), .val (.double (FP.ddiv (FP.l2d x1) (FP.l2d k1))), .second, .val (.double (own_d x0 k0 m0)), .second] [(.double m1), (.double (FP.ddiv (FP.l2d x1) (FP.l2d k1)))])) _
        refine XS.dsubS X352.here hx rfl (v := (own_d x1 k1 m1)) (hb hby d_prog_37_method_2_code_57) rfl n11 rfl ?_
        show Steps p.tables e below (T352.setTop (mkF m 58 #[.val (.ref a1), .val (.ref s1), .val (.int (1 : Int32)), .val (.double (FP.ddiv (FP.l2d x1) (FP.l2d k1))), .second, .val (.double (own_d x0 k0 m0)), .second] [(.double (own_d x1 k1 m1))])) _
        refine XS.dstore X352.here hx rfl (hb hby d_prog_37_method_2_code_58) rfl (l' := #[.val (.ref a1), .val (.ref s1), .val (.int (1 : Int32)), .val (.double (FP.ddiv (FP.l2d x1) (FP.l2d k1))), .second, .val (.double (own_d x1 k1 m1)), .second]) rfl ?_
        show Steps p.tables e below (T352.setTop (mkF m 60 #[.val (.ref a1), .val (.ref s1), .val (.int (1 : Int32)), .val (.double (FP.ddiv (FP.l2d x1) (FP.l2d k1))), .second, .val (.double (own_d x1 k1 m1)), .second] [])) _
        refine XS.aloadN X352.here hx rfl (hb hby d_prog_37_method_2_code_60) rfl rfl ?_
        show Steps p.tables e below (T352.setTop (mkF m 61 #[.val (.ref a1), .val (.ref s1), .val (.int (1 : Int32)), .val (.double (FP.ddiv (FP.l2d x1) (FP.l2d k1))), .second, .val (.double (own_d x1 k1 m1)), .second] [(.ref a1)])) _
        refine st355 _ ?_
        show Steps p.tables e below (T355.setTop (mkF m 64 #[.val (.ref a1), .val (.ref s1), .val (.int (1 : Int32)), .val (.double (FP.ddiv (FP.l2d x1) (FP.l2d k1))), .second, .val (.double (own_d x1 k1 m1)), .second] [(.ref mb)])) _
        refine XS.iloadN X355.here hx rfl (hb hby d_prog_37_method_2_code_64) rfl ?_
        show Steps p.tables e below (T355.setTop (mkF m 65 #[.val (.ref a1), .val (.ref s1), .val (.int (1 : Int32)), .val (.double (FP.ddiv (FP.l2d x1) (FP.l2d k1))), .second, .val (.double (own_d x1 k1 m1)), .second] [(.int (1 : Int32)), (.ref mb)])) _
        jvm_step X355.here [X355.here.top, hx, (hb hby d_prog_37_method_2_code_65), Value.category]
        show Steps p.tables e below (T355.setTop (mkF m 66 #[.val (.ref a1), .val (.ref s1), .val (.int (1 : Int32)), .val (.double (FP.ddiv (FP.l2d x1) (FP.l2d k1))), .second, .val (.double (own_d x1 k1 m1)), .second] [(.int (1 : Int32)), (.ref mb), (.int (1 : Int32)), (.ref mb)])) _
        refine X355.daload hx (j := (1 : Int32)) (v := (.double m1)) (by rw [e355]; exact Ar356.1) (State.isArrayOf_alike hZ.alike Ar356.2.1) Ar356.2.2 hin356 hat356 (g := (mkF m 66 #[.val (.ref a1), .val (.ref s1), .val (.int (1 : Int32)), .val (.double (FP.ddiv (FP.l2d x1) (FP.l2d k1))), .second, .val (.double (own_d x1 k1 m1)), .second] [(.int (1 : Int32)), (.ref mb), (.int (1 : Int32)), (.ref mb)])) rfl rfl (hb hby d_prog_37_method_2_code_66) _ ?_
        show Steps p.tables e below (T355.setTop (mkF m 67 #[.val (.ref a1), .val (.ref s1), .val (.int (1 : Int32)), .val (.double (FP.ddiv (FP.l2d x1) (FP.l2d k1))), .second, .val (.double (own_d x1 k1 m1)), .second] [(.double m1), (.int (1 : Int32)), (.ref mb)])) _
        refine XS.dload X355.here hx rfl (hb hby d_prog_37_method_2_code_67) rfl ?_
        show Steps p.tables e below (T355.setTop (mkF m 69 #[.val (.ref a1), .val (.ref s1), .val (.int (1 : Int32)), .val (.double (FP.ddiv (FP.l2d x1) (FP.l2d k1))), .second, .val (.double (own_d x1 k1 m1)), .second] [(.double (own_d x1 k1 m1)), (.double m1), (.int (1 : Int32)), (.ref mb)])) _
        refine XS.aloadN X355.here hx rfl (hb hby d_prog_37_method_2_code_69) rfl rfl ?_
        show Steps p.tables e below (T355.setTop (mkF m 70 #[.val (.ref a1), .val (.ref s1), .val (.int (1 : Int32)), .val (.double (FP.ddiv (FP.l2d x1) (FP.l2d k1))), .second, .val (.double (own_d x1 k1 m1)), .second] [(.ref a1), (.double (own_d x1 k1 m1)), (.double m1), (.int (1 : Int32)), (.ref mb)])) _
        refine st358 _ ?_
        show Steps p.tables e below (T358.setTop (mkF m 73 #[.val (.ref a1), .val (.ref s1), .val (.int (1 : Int32)), .val (.double (FP.ddiv (FP.l2d x1) (FP.l2d k1))), .second, .val (.double (own_d x1 k1 m1)), .second] [(.ref rb), (.double (own_d x1 k1 m1)), (.double m1), (.int (1 : Int32)), (.ref mb)])) _
        refine XS.iloadN X358.here hx rfl (hb hby d_prog_37_method_2_code_73) rfl ?_
        show Steps p.tables e below (T358.setTop (mkF m 74 #[.val (.ref a1), .val (.ref s1), .val (.int (1 : Int32)), .val (.double (FP.ddiv (FP.l2d x1) (FP.l2d k1))), .second, .val (.double (own_d x1 k1 m1)), .second] [(.int (1 : Int32)), (.ref rb), (.double (own_d x1 k1 m1)), (.double m1), (.int (1 : Int32)), (.ref mb)])) _
        refine X358.laload hx (j := (1 : Int32)) (v := (.long (u1 + (1 : Int64)))) (by rw [e358]; exact Ar359.1) (State.isArrayOf_alike hZ.alike Ar359.2.1) Ar359.2.2 hin359 hat359 (g := (mkF m 74 #[.val (.ref a1), .val (.ref s1), .val (.int (1 : Int32)), .val (.double (FP.ddiv (FP.l2d x1) (FP.l2d k1))), .second, .val (.double (own_d x1 k1 m1)), .second] [(.int (1 : Int32)), (.ref rb), (.double (own_d x1 k1 m1)), (.double m1), (.int (1 : Int32)), (.ref mb)])) rfl rfl (hb hby d_prog_37_method_2_code_74) _ ?_
        show Steps p.tables e below (T358.setTop (mkF m 75 #[.val (.ref a1), .val (.ref s1), .val (.int (1 : Int32)), .val (.double (FP.ddiv (FP.l2d x1) (FP.l2d k1))), .second, .val (.double (own_d x1 k1 m1)), .second] [(.long (u1 + (1 : Int64))), (.double (own_d x1 k1 m1)), (.double m1), (.int (1 : Int32)), (.ref mb)])) _
        refine XS.l2dS X358.here hx rfl (v := (FP.l2d (u1 + (1 : Int64)))) (hb hby d_prog_37_method_2_code_75) rfl rfl ?_
        show Steps p.tables e below (T358.setTop (mkF m 76 #[.val (.ref a1), .val (.ref s1), .val (.int (1 : Int32)), .val (.double (FP.ddiv (FP.l2d x1) (FP.l2d k1))), .second, .val (.double (own_d x1 k1 m1)), .second] [(.double (FP.l2d (u1 + (1 : Int64)))), (.double (own_d x1 k1 m1)), (.double m1), (.int (1 : Int32)), (.ref mb)])) _
        refine XS.ddivS X358.here hx rfl (v := (FP.ddiv (own_d x1 k1 m1) (FP.l2d (u1 + (1 : Int64))))) (hb hby d_prog_37_method_2_code_76) rfl n12 rfl ?_
        show Steps p.tables e below (T358.setTop (mkF m 77 #[.val (.ref a1), .val (.ref s1), .val (.int (1 : Int32)), .val (.double (FP.ddiv (FP.l2d x1) (FP.l2d k1))), .second, .val (.double (own_d x1 k1 m1)), .second] [(.double (FP.ddiv (own_d x1 k1 m1) (FP.l2d (u1 + (1 : Int64))))), (.double m1), (.int (1 : Int32)), (.ref mb)])) _
        refine XS.daddS X358.here hx rfl (v := (own_m x1 k1 u1 m1)) (hb hby d_prog_37_method_2_code_77) rfl n13 rfl ?_
        show Steps p.tables e below (T358.setTop (mkF m 78 #[.val (.ref a1), .val (.ref s1), .val (.int (1 : Int32)), .val (.double (FP.ddiv (FP.l2d x1) (FP.l2d k1))), .second, .val (.double (own_d x1 k1 m1)), .second] [(.double (own_m x1 k1 u1 m1)), (.int (1 : Int32)), (.ref mb)])) _
        refine st361 _ ?_
        show Steps p.tables e below (T361.setTop (mkF m 79 #[.val (.ref a1), .val (.ref s1), .val (.int (1 : Int32)), .val (.double (FP.ddiv (FP.l2d x1) (FP.l2d k1))), .second, .val (.double (own_d x1 k1 m1)), .second] [])) _
        refine XS.aloadN X361.here hx rfl (hb hby d_prog_37_method_2_code_79) rfl rfl ?_
        show Steps p.tables e below (T361.setTop (mkF m 80 #[.val (.ref a1), .val (.ref s1), .val (.int (1 : Int32)), .val (.double (FP.ddiv (FP.l2d x1) (FP.l2d k1))), .second, .val (.double (own_d x1 k1 m1)), .second] [(.ref a1)])) _
        refine st364 _ ?_
        show Steps p.tables e below (T364.setTop (mkF m 83 #[.val (.ref a1), .val (.ref s1), .val (.int (1 : Int32)), .val (.double (FP.ddiv (FP.l2d x1) (FP.l2d k1))), .second, .val (.double (own_d x1 k1 m1)), .second] [(.ref qb)])) _
        refine XS.iloadN X364.here hx rfl (hb hby d_prog_37_method_2_code_83) rfl ?_
        show Steps p.tables e below (T364.setTop (mkF m 84 #[.val (.ref a1), .val (.ref s1), .val (.int (1 : Int32)), .val (.double (FP.ddiv (FP.l2d x1) (FP.l2d k1))), .second, .val (.double (own_d x1 k1 m1)), .second] [(.int (1 : Int32)), (.ref qb)])) _
        jvm_step X364.here [X364.here.top, hx, (hb hby d_prog_37_method_2_code_84), Value.category]
        show Steps p.tables e below (T364.setTop (mkF m 85 #[.val (.ref a1), .val (.ref s1), .val (.int (1 : Int32)), .val (.double (FP.ddiv (FP.l2d x1) (FP.l2d k1))), .second, .val (.double (own_d x1 k1 m1)), .second] [(.int (1 : Int32)), (.ref qb), (.int (1 : Int32)), (.ref qb)])) _
        refine X364.daload hx (j := (1 : Int32)) (v := (.double q1)) (by rw [e364]; exact Ar366.1) (State.isArrayOf_alike hZ.alike Ar366.2.1) Ar366.2.2 hin366 hat366 (g := (mkF m 85 #[.val (.ref a1), .val (.ref s1), .val (.int (1 : Int32)), .val (.double (FP.ddiv (FP.l2d x1) (FP.l2d k1))), .second, .val (.double (own_d x1 k1 m1)), .second] [(.int (1 : Int32)), (.ref qb), (.int (1 : Int32)), (.ref qb)])) rfl rfl (hb hby d_prog_37_method_2_code_85) _ ?_
        show Steps p.tables e below (T364.setTop (mkF m 86 #[.val (.ref a1), .val (.ref s1), .val (.int (1 : Int32)), .val (.double (FP.ddiv (FP.l2d x1) (FP.l2d k1))), .second, .val (.double (own_d x1 k1 m1)), .second] [(.double q1), (.int (1 : Int32)), (.ref qb)])) _
        refine XS.dload X364.here hx rfl (hb hby d_prog_37_method_2_code_86) rfl ?_
        show Steps p.tables e below (T364.setTop (mkF m 88 #[.val (.ref a1), .val (.ref s1), .val (.int (1 : Int32)), .val (.double (FP.ddiv (FP.l2d x1) (FP.l2d k1))), .second, .val (.double (own_d x1 k1 m1)), .second] [(.double (own_d x1 k1 m1)), (.double q1), (.int (1 : Int32)), (.ref qb)])) _
        refine XS.dloadN X364.here hx rfl (hb hby d_prog_37_method_2_code_88) rfl ?_
        show Steps p.tables e below (T364.setTop (mkF m 89 #[.val (.ref a1), .val (.ref s1), .val (.int (1 : Int32)), .val (.double (FP.ddiv (FP.l2d x1) (FP.l2d k1))), .second, .val (.double (own_d x1 k1 m1)), .second] [(.double (FP.ddiv (FP.l2d x1) (FP.l2d k1))), (.double (own_d x1 k1 m1)), (.double q1), (.int (1 : Int32)), (.ref qb)])) _
        refine XS.aloadN X364.here hx rfl (hb hby d_prog_37_method_2_code_89) rfl rfl ?_
        show Steps p.tables e below (T364.setTop (mkF m 90 #[.val (.ref a1), .val (.ref s1), .val (.int (1 : Int32)), .val (.double (FP.ddiv (FP.l2d x1) (FP.l2d k1))), .second, .val (.double (own_d x1 k1 m1)), .second] [(.ref a1), (.double (FP.ddiv (FP.l2d x1) (FP.l2d k1))), (.double (own_d x1 k1 m1)), (.double q1), (.int (1 : Int32)), (.ref qb)])) _
        refine st368 _ ?_
        show Steps p.tables e below (T368.setTop (mkF m 93 #[.val (.ref a1), .val (.ref s1), .val (.int (1 : Int32)), .val (.double (FP.ddiv (FP.l2d x1) (FP.l2d k1))), .second, .val (.double (own_d x1 k1 m1)), .second] [(.ref mb), (.double (FP.ddiv (FP.l2d x1) (FP.l2d k1))), (.double (own_d x1 k1 m1)), (.double q1), (.int (1 : Int32)), (.ref qb)])) _
        refine XS.iloadN X368.here hx rfl (hb hby d_prog_37_method_2_code_93) rfl ?_
        show Steps p.tables e below (T368.setTop (mkF m 94 #[.val (.ref a1), .val (.ref s1), .val (.int (1 : Int32)), .val (.double (FP.ddiv (FP.l2d x1) (FP.l2d k1))), .second, .val (.double (own_d x1 k1 m1)), .second] [(.int (1 : Int32)), (.ref mb), (.double (FP.ddiv (FP.l2d x1) (FP.l2d k1))), (.double (own_d x1 k1 m1)), (.double q1), (.int (1 : Int32)), (.ref qb)])) _
        refine X368.daload hx (j := (1 : Int32)) (v := (.double (own_m x1 k1 u1 m1))) (by rw [e368]; exact Ar369.1) (State.isArrayOf_alike hZ.alike Ar369.2.1) Ar369.2.2 hin369 hat369 (g := (mkF m 94 #[.val (.ref a1), .val (.ref s1), .val (.int (1 : Int32)), .val (.double (FP.ddiv (FP.l2d x1) (FP.l2d k1))), .second, .val (.double (own_d x1 k1 m1)), .second] [(.int (1 : Int32)), (.ref mb), (.double (FP.ddiv (FP.l2d x1) (FP.l2d k1))), (.double (own_d x1 k1 m1)), (.double q1), (.int (1 : Int32)), (.ref qb)])) rfl rfl (hb hby d_prog_37_method_2_code_94) _ ?_
        show Steps p.tables e below (T368.setTop (mkF m 95 #[.val (.ref a1), .val (.ref s1), .val (.int (1 : Int32)), .val (.double (FP.ddiv (FP.l2d x1) (FP.l2d k1))), .second, .val (.double (own_d x1 k1 m1)), .second] [(.double (own_m x1 k1 u1 m1)), (.double (FP.ddiv (FP.l2d x1) (FP.l2d k1))), (.double (own_d x1 k1 m1)), (.double q1), (.int (1 : Int32)), (.ref qb)])) _
        refine XS.dsubS X368.here hx rfl (v := (own_e x1 k1 u1 m1)) (hb hby d_prog_37_method_2_code_95) rfl n14 rfl ?_
        show Steps p.tables e below (T368.setTop (mkF m 96 #[.val (.ref a1), .val (.ref s1), .val (.int (1 : Int32)), .val (.double (FP.ddiv (FP.l2d x1) (FP.l2d k1))), .second, .val (.double (own_d x1 k1 m1)), .second] [(.double (own_e x1 k1 u1 m1)), (.double (own_d x1 k1 m1)), (.double q1), (.int (1 : Int32)), (.ref qb)])) _
        refine XS.dmulS X368.here hx rfl (v := (FP.dmul (own_d x1 k1 m1) (own_e x1 k1 u1 m1))) (hb hby d_prog_37_method_2_code_96) rfl n15 rfl ?_
        show Steps p.tables e below (T368.setTop (mkF m 97 #[.val (.ref a1), .val (.ref s1), .val (.int (1 : Int32)), .val (.double (FP.ddiv (FP.l2d x1) (FP.l2d k1))), .second, .val (.double (own_d x1 k1 m1)), .second] [(.double (FP.dmul (own_d x1 k1 m1) (own_e x1 k1 u1 m1))), (.double q1), (.int (1 : Int32)), (.ref qb)])) _
        refine XS.daddS X368.here hx rfl (v := (own_q x1 k1 u1 m1 q1)) (hb hby d_prog_37_method_2_code_97) rfl n16 rfl ?_
        show Steps p.tables e below (T368.setTop (mkF m 98 #[.val (.ref a1), .val (.ref s1), .val (.int (1 : Int32)), .val (.double (FP.ddiv (FP.l2d x1) (FP.l2d k1))), .second, .val (.double (own_d x1 k1 m1)), .second] [(.double (own_q x1 k1 u1 m1 q1)), (.int (1 : Int32)), (.ref qb)])) _
        refine st371 _ ?_
        show Steps p.tables e below (T371.setTop (mkF m 99 #[.val (.ref a1), .val (.ref s1), .val (.int (1 : Int32)), .val (.double (FP.ddiv (FP.l2d x1) (FP.l2d k1))), .second, .val (.double (own_d x1 k1 m1)), .second] [])) _
        refine XS.aloadN X371.here hx rfl (hb hby d_prog_37_method_2_code_99) rfl rfl ?_
        show Steps p.tables e below (T371.setTop (mkF m 100 #[.val (.ref a1), .val (.ref s1), .val (.int (1 : Int32)), .val (.double (FP.ddiv (FP.l2d x1) (FP.l2d k1))), .second, .val (.double (own_d x1 k1 m1)), .second] [(.ref a1)])) _
        refine st374 _ ?_
        show Steps p.tables e below (T374.setTop (mkF m 103 #[.val (.ref a1), .val (.ref s1), .val (.int (1 : Int32)), .val (.double (FP.ddiv (FP.l2d x1) (FP.l2d k1))), .second, .val (.double (own_d x1 k1 m1)), .second] [(.ref tb)])) _
        refine XS.iloadN X374.here hx rfl (hb hby d_prog_37_method_2_code_103) rfl ?_
        show Steps p.tables e below (T374.setTop (mkF m 104 #[.val (.ref a1), .val (.ref s1), .val (.int (1 : Int32)), .val (.double (FP.ddiv (FP.l2d x1) (FP.l2d k1))), .second, .val (.double (own_d x1 k1 m1)), .second] [(.int (1 : Int32)), (.ref tb)])) _
        jvm_step X374.here [X374.here.top, hx, (hb hby d_prog_37_method_2_code_104), Value.category]
        show Steps p.tables e below (T374.setTop (mkF m 105 #[.val (.ref a1), .val (.ref s1), .val (.int (1 : Int32)), .val (.double (FP.ddiv (FP.l2d x1) (FP.l2d k1))), .second, .val (.double (own_d x1 k1 m1)), .second] [(.int (1 : Int32)), (.ref tb), (.int (1 : Int32)), (.ref tb)])) _
        refine X374.daload hx (j := (1 : Int32)) (v := (.double (FP.l2d t1))) (by rw [e374]; exact Ar376.1) (State.isArrayOf_alike hZ.alike Ar376.2.1) Ar376.2.2 hin376 hat376 (g := (mkF m 105 #[.val (.ref a1), .val (.ref s1), .val (.int (1 : Int32)), .val (.double (FP.ddiv (FP.l2d x1) (FP.l2d k1))), .second, .val (.double (own_d x1 k1 m1)), .second] [(.int (1 : Int32)), (.ref tb), (.int (1 : Int32)), (.ref tb)])) rfl rfl (hb hby d_prog_37_method_2_code_105) _ ?_
        show Steps p.tables e below (T374.setTop (mkF m 106 #[.val (.ref a1), .val (.ref s1), .val (.int (1 : Int32)), .val (.double (FP.ddiv (FP.l2d x1) (FP.l2d k1))), .second, .val (.double (own_d x1 k1 m1)), .second] [(.double (FP.l2d t1)), (.int (1 : Int32)), (.ref tb)])) _
        refine XS.aloadN X374.here hx rfl (hb hby d_prog_37_method_2_code_106) rfl rfl ?_
        show Steps p.tables e below (T374.setTop (mkF m 107 #[.val (.ref a1), .val (.ref s1), .val (.int (1 : Int32)), .val (.double (FP.ddiv (FP.l2d x1) (FP.l2d k1))), .second, .val (.double (own_d x1 k1 m1)), .second] [(.ref s1), (.double (FP.l2d t1)), (.int (1 : Int32)), (.ref tb)])) _
        refine getR X374 hx hZ hown (hw _ (List.mem_of_getElem? (i := 47) rfl)) e374 f377 (g := (mkF m 107 #[.val (.ref a1), .val (.ref s1), .val (.int (1 : Int32)), .val (.double (FP.ddiv (FP.l2d x1) (FP.l2d k1))), .second, .val (.double (own_d x1 k1 m1)), .second] [(.ref s1), (.double (FP.l2d t1)), (.int (1 : Int32)), (.ref tb)])) rfl rfl (hb hby d_prog_37_method_2_code_107) ?_
        show Steps p.tables e below (T374.setTop (mkF m 110 #[.val (.ref a1), .val (.ref s1), .val (.int (1 : Int32)), .val (.double (FP.ddiv (FP.l2d x1) (FP.l2d k1))), .second, .val (.double (own_d x1 k1 m1)), .second] [(.ref st), (.double (FP.l2d t1)), (.int (1 : Int32)), (.ref tb)])) _
        refine XS.iloadN X374.here hx rfl (hb hby d_prog_37_method_2_code_110) rfl ?_
        show Steps p.tables e below (T374.setTop (mkF m 111 #[.val (.ref a1), .val (.ref s1), .val (.int (1 : Int32)), .val (.double (FP.ddiv (FP.l2d x1) (FP.l2d k1))), .second, .val (.double (own_d x1 k1 m1)), .second] [(.int (1 : Int32)), (.ref st), (.double (FP.l2d t1)), (.int (1 : Int32)), (.ref tb)])) _
        refine X374.daload hx (j := (1 : Int32)) (v := (.double (FP.l2d x1))) (by rw [e374]; exact Ar379.1) (State.isArrayOf_alike hZ.alike Ar379.2.1) Ar379.2.2 hin379 hat379 (g := (mkF m 111 #[.val (.ref a1), .val (.ref s1), .val (.int (1 : Int32)), .val (.double (FP.ddiv (FP.l2d x1) (FP.l2d k1))), .second, .val (.double (own_d x1 k1 m1)), .second] [(.int (1 : Int32)), (.ref st), (.double (FP.l2d t1)), (.int (1 : Int32)), (.ref tb)])) rfl rfl (hb hby d_prog_37_method_2_code_111) _ ?_
        show Steps p.tables e below (T374.setTop (mkF m 112 #[.val (.ref a1), .val (.ref s1), .val (.int (1 : Int32)), .val (.double (FP.ddiv (FP.l2d x1) (FP.l2d k1))), .second, .val (.double (own_d x1 k1 m1)), .second] [(.double (FP.l2d x1)), (.double (FP.l2d t1)), (.int (1 : Int32)), (.ref tb)])) _
        refine XS.daddS X374.here hx rfl (v := (FP.l2d (t1 + x1))) (hb hby d_prog_37_method_2_code_112) rfl (nn_w (dadd_w ht1 hx1)) (dadd_w ht1 hx1) ?_
        show Steps p.tables e below (T374.setTop (mkF m 113 #[.val (.ref a1), .val (.ref s1), .val (.int (1 : Int32)), .val (.double (FP.ddiv (FP.l2d x1) (FP.l2d k1))), .second, .val (.double (own_d x1 k1 m1)), .second] [(.double (FP.l2d (t1 + x1))), (.int (1 : Int32)), (.ref tb)])) _
        refine st381 _ ?_
        show Steps p.tables e below (T381.setTop (mkF m 114 #[.val (.ref a1), .val (.ref s1), .val (.int (1 : Int32)), .val (.double (FP.ddiv (FP.l2d x1) (FP.l2d k1))), .second, .val (.double (own_d x1 k1 m1)), .second] [])) _
        refine XS.aloadN X381.here hx rfl (hb hby d_prog_37_method_2_code_114) rfl rfl ?_
        show Steps p.tables e below (T381.setTop (mkF m 115 #[.val (.ref a1), .val (.ref s1), .val (.int (1 : Int32)), .val (.double (FP.ddiv (FP.l2d x1) (FP.l2d k1))), .second, .val (.double (own_d x1 k1 m1)), .second] [(.ref a1)])) _
        refine st384 _ ?_
        show Steps p.tables e below (T384.setTop (mkF m 118 #[.val (.ref a1), .val (.ref s1), .val (.int (1 : Int32)), .val (.double (FP.ddiv (FP.l2d x1) (FP.l2d k1))), .second, .val (.double (own_d x1 k1 m1)), .second] [(.ref cb)])) _
        refine XS.iloadN X384.here hx rfl (hb hby d_prog_37_method_2_code_118) rfl ?_
        show Steps p.tables e below (T384.setTop (mkF m 119 #[.val (.ref a1), .val (.ref s1), .val (.int (1 : Int32)), .val (.double (FP.ddiv (FP.l2d x1) (FP.l2d k1))), .second, .val (.double (own_d x1 k1 m1)), .second] [(.int (1 : Int32)), (.ref cb)])) _
        jvm_step X384.here [X384.here.top, hx, (hb hby d_prog_37_method_2_code_119), Value.category]
        show Steps p.tables e below (T384.setTop (mkF m 120 #[.val (.ref a1), .val (.ref s1), .val (.int (1 : Int32)), .val (.double (FP.ddiv (FP.l2d x1) (FP.l2d k1))), .second, .val (.double (own_d x1 k1 m1)), .second] [(.int (1 : Int32)), (.ref cb), (.int (1 : Int32)), (.ref cb)])) _
        refine X384.laload hx (j := (1 : Int32)) (v := (.long c1)) (by rw [e384]; exact Ar386.1) (State.isArrayOf_alike hZ.alike Ar386.2.1) Ar386.2.2 hin386 hat386 (g := (mkF m 120 #[.val (.ref a1), .val (.ref s1), .val (.int (1 : Int32)), .val (.double (FP.ddiv (FP.l2d x1) (FP.l2d k1))), .second, .val (.double (own_d x1 k1 m1)), .second] [(.int (1 : Int32)), (.ref cb), (.int (1 : Int32)), (.ref cb)])) rfl rfl (hb hby d_prog_37_method_2_code_120) _ ?_
        show Steps p.tables e below (T384.setTop (mkF m 121 #[.val (.ref a1), .val (.ref s1), .val (.int (1 : Int32)), .val (.double (FP.ddiv (FP.l2d x1) (FP.l2d k1))), .second, .val (.double (own_d x1 k1 m1)), .second] [(.long c1), (.int (1 : Int32)), (.ref cb)])) _
        refine XS.aloadN X384.here hx rfl (hb hby d_prog_37_method_2_code_121) rfl rfl ?_
        show Steps p.tables e below (T384.setTop (mkF m 122 #[.val (.ref a1), .val (.ref s1), .val (.int (1 : Int32)), .val (.double (FP.ddiv (FP.l2d x1) (FP.l2d k1))), .second, .val (.double (own_d x1 k1 m1)), .second] [(.ref s1), (.long c1), (.int (1 : Int32)), (.ref cb)])) _
        refine getR X384 hx hZ hown (hw _ (List.mem_of_getElem? (i := 46) rfl)) e384 f387 (g := (mkF m 122 #[.val (.ref a1), .val (.ref s1), .val (.int (1 : Int32)), .val (.double (FP.ddiv (FP.l2d x1) (FP.l2d k1))), .second, .val (.double (own_d x1 k1 m1)), .second] [(.ref s1), (.long c1), (.int (1 : Int32)), (.ref cb)])) rfl rfl (hb hby d_prog_37_method_2_code_122) ?_
        show Steps p.tables e below (T384.setTop (mkF m 125 #[.val (.ref a1), .val (.ref s1), .val (.int (1 : Int32)), .val (.double (FP.ddiv (FP.l2d x1) (FP.l2d k1))), .second, .val (.double (own_d x1 k1 m1)), .second] [(.ref sc), (.long c1), (.int (1 : Int32)), (.ref cb)])) _
        refine XS.iloadN X384.here hx rfl (hb hby d_prog_37_method_2_code_125) rfl ?_
        show Steps p.tables e below (T384.setTop (mkF m 126 #[.val (.ref a1), .val (.ref s1), .val (.int (1 : Int32)), .val (.double (FP.ddiv (FP.l2d x1) (FP.l2d k1))), .second, .val (.double (own_d x1 k1 m1)), .second] [(.int (1 : Int32)), (.ref sc), (.long c1), (.int (1 : Int32)), (.ref cb)])) _
        refine X384.laload hx (j := (1 : Int32)) (v := (.long k1)) (by rw [e384]; exact Ar389.1) (State.isArrayOf_alike hZ.alike Ar389.2.1) Ar389.2.2 hin389 hat389 (g := (mkF m 126 #[.val (.ref a1), .val (.ref s1), .val (.int (1 : Int32)), .val (.double (FP.ddiv (FP.l2d x1) (FP.l2d k1))), .second, .val (.double (own_d x1 k1 m1)), .second] [(.int (1 : Int32)), (.ref sc), (.long c1), (.int (1 : Int32)), (.ref cb)])) rfl rfl (hb hby d_prog_37_method_2_code_126) _ ?_
        show Steps p.tables e below (T384.setTop (mkF m 127 #[.val (.ref a1), .val (.ref s1), .val (.int (1 : Int32)), .val (.double (FP.ddiv (FP.l2d x1) (FP.l2d k1))), .second, .val (.double (own_d x1 k1 m1)), .second] [(.long k1), (.long c1), (.int (1 : Int32)), (.ref cb)])) _
        refine XS.ladd X384.here hx rfl (hb hby d_prog_37_method_2_code_127) rfl ?_
        show Steps p.tables e below (T384.setTop (mkF m 128 #[.val (.ref a1), .val (.ref s1), .val (.int (1 : Int32)), .val (.double (FP.ddiv (FP.l2d x1) (FP.l2d k1))), .second, .val (.double (own_d x1 k1 m1)), .second] [(.long (c1 + k1)), (.int (1 : Int32)), (.ref cb)])) _
        refine st391 _ ?_
        show Steps p.tables e below (T391.setTop (mkF m 129 #[.val (.ref a1), .val (.ref s1), .val (.int (1 : Int32)), .val (.double (FP.ddiv (FP.l2d x1) (FP.l2d k1))), .second, .val (.double (own_d x1 k1 m1)), .second] [])) _
        refine XS.iinc X391.here hx rfl (hb hby d_prog_37_method_2_code_129) rfl (l' := #[.val (.ref a1), .val (.ref s1), .val (.int (2 : Int32)), .val (.double (FP.ddiv (FP.l2d x1) (FP.l2d k1))), .second, .val (.double (own_d x1 k1 m1)), .second]) rfl ?_
        show Steps p.tables e below (T391.setTop (mkF m 132 #[.val (.ref a1), .val (.ref s1), .val (.int (2 : Int32)), .val (.double (FP.ddiv (FP.l2d x1) (FP.l2d k1))), .second, .val (.double (own_d x1 k1 m1)), .second] [])) _
        refine XS.goto X391.here hx rfl (pc0 := 132) (pc' := 2) rfl (hb hby d_prog_37_method_2_code_132) (by decide) (by decide) ?_
        show Steps p.tables e below (T391.setTop (mkF m 2 #[.val (.ref a1), .val (.ref s1), .val (.int (2 : Int32)), .val (.double (FP.ddiv (FP.l2d x1) (FP.l2d k1))), .second, .val (.double (own_d x1 k1 m1)), .second] [])) _
        refine XS.iloadN X391.here hx rfl (hb hby d_prog_37_method_2_code_2) rfl ?_
        show Steps p.tables e below (T391.setTop (mkF m 3 #[.val (.ref a1), .val (.ref s1), .val (.int (2 : Int32)), .val (.double (FP.ddiv (FP.l2d x1) (FP.l2d k1))), .second, .val (.double (own_d x1 k1 m1)), .second] [(.int (2 : Int32))])) _
        refine XS.aloadN X391.here hx rfl (hb hby d_prog_37_method_2_code_3) rfl rfl ?_
        show Steps p.tables e below (T391.setTop (mkF m 4 #[.val (.ref a1), .val (.ref s1), .val (.int (2 : Int32)), .val (.double (FP.ddiv (FP.l2d x1) (FP.l2d k1))), .second, .val (.double (own_d x1 k1 m1)), .second] [(.ref a1), (.int (2 : Int32))])) _
        refine st394 _ ?_
        show Steps p.tables e below (T394.setTop (mkF m 7 #[.val (.ref a1), .val (.ref s1), .val (.int (2 : Int32)), .val (.double (FP.ddiv (FP.l2d x1) (FP.l2d k1))), .second, .val (.double (own_d x1 k1 m1)), .second] [(.ref tb), (.int (2 : Int32))])) _
        refine X394.arraylength hx (by rw [e394]; exact Ar396.1) (State.isArrayOf_alike hZ.alike Ar396.2.1) (g := (mkF m 7 #[.val (.ref a1), .val (.ref s1), .val (.int (2 : Int32)), .val (.double (FP.ddiv (FP.l2d x1) (FP.l2d k1))), .second, .val (.double (own_d x1 k1 m1)), .second] [(.ref tb), (.int (2 : Int32))])) rfl rfl (hb hby d_prog_37_method_2_code_7) _ ?_
        rw [len_of S396 M396]
        show Steps p.tables e below (T394.setTop (mkF m 8 #[.val (.ref a1), .val (.ref s1), .val (.int (2 : Int32)), .val (.double (FP.ddiv (FP.l2d x1) (FP.l2d k1))), .second, .val (.double (own_d x1 k1 m1)), .second] [(.int (2 : Int32)), (.int (2 : Int32))])) _
        refine XS.icmpYes X394.here hx rfl (pc0 := 8) (pc' := 135) rfl (hb hby d_prog_37_method_2_code_8) rfl (by decide) (by decide) (by decide) ?_
        show Steps p.tables e below (T394.setTop (mkF m 135 #[.val (.ref a1), .val (.ref s1), .val (.int (2 : Int32)), .val (.double (FP.ddiv (FP.l2d x1) (FP.l2d k1))), .second, .val (.double (own_d x1 k1 m1)), .second] [])) _
        exact X394.returnOut hx Bd.returns (hb hby d_prog_37_method_2_code_135) hr
      · show Q4 Z a1 s1 tb cb rb mb qb st sc k_tb k_cb k_rb k_mb k_qb k_st k_sc t0 t1 c0 c1 u0 u1 x0 x1 k0 k1 m0 m1 q0 q1 K Kq B h0 n0 _ T394.heap _
        rw [e394]
        exact ⟨rfl, N391, f397, by rw [own_upd1 hk0, own_upd1 hk1]; exact f395, by rw [own_upd1 hk0, own_upd1 hk1]; exact f392, (u0 + (1 : Int64)), (u1 + (1 : Int64)), (own_m x0 k0 u0 m0), (own_m x1 k1 u1 m1), (own_q x0 k0 u0 m0 q0), (own_q x1 k1 u1 m1 q1), f398, f399, f400, ⟨(own_u1 hu0 hv0 hB).2, own_bd_add hv0 own_bd_1 (by omega)⟩, ⟨(own_u1 hu1 hv1 hB).2, own_bd_add hv1 own_bd_1 (by omega)⟩, ⟨n07, n17⟩, ⟨n08, n18⟩⟩
theorem ef_5 (m : MethodId) (x0 : Addr) (x1 : Int32) : entryFrame m #[(.ref x0), (.int x1)] 2 = mkF m 0 #[.val (.ref x0), .val (.int x1)] [] := by first | (simp [entryFrame, mkF, argsToLocals, Value.category]; done) | rfl
theorem pn_5 : plainName "com/example/outcry/outcry/core/Tally" = true := by first | (simp [plainName, overriddenIn]; done) | decide +kernel
def Q5 (Z : State) (a1 : Nat) (tb : Nat) (cb : Nat) (kt : ClassId) (kc : ClassId) (t0 : Int64) (t1 : Int64) (c0 : Int64) (c1 : Int64) (h0 : Heap) (n0 : Nat) (v : Option Value) (h : Heap) (L : List Loc) : Prop := v = some (.double (own_mean t0 c0)) ∧ Fr n0 L ∧ h = h0
set_option maxRecDepth 65536 in
set_option maxHeartbeats 40000000 in
theorem rm5 (l : Launch) (Z : State) (a0 : Array Value) (hw : ∀ d ∈ tables_1, d.before a0 Z = true) (ws : List Jvm.Cond) (a1 : Nat) (tb : Nat) (cb : Nat) (kt : ClassId) (kc : ClassId) (t0 : Int64) (t1 : Int64) (c0 : Int64) (c1 : Int64) (h0 : Heap) (n0 : Nat) (Z0 : n0 ≤ h0.size) (F_total : Fld Z h0 a1 "com/example/outcry/outcry/core/Tally" "total" "[D" (.ref tb)) (F_count : Fld Z h0 a1 "com/example/outcry/outcry/core/Tally" "count" "[J" (.ref cb)) (V_t : Arv Z h0 tb kt .double (2 : Int32) [(.double (FP.l2d t0)), (.double (FP.l2d t1))] (.double (FP.l2d 0))) (V_c : Arv Z h0 cb kc .long (2 : Int32) [(.long c0), (.long c1)] (.long (0 : Int64))) :
    MetFree l (⟨"com/example/outcry/outcry/core/Tally", "mean", "(I)D"⟩ : MethodName) (head1 (Jvm.Cond.code (⟨"com/example/outcry/outcry/core/Tally", "mean", "(I)D"⟩ : MethodName) prog_37_method_3_code 2 (some .double) :: ws) ({ frames := 0, cells := 0, slots := 0, locals := 0 } : Room)) (fun a U => a = #[(.ref a1), (.int (0 : Int32))] ∧ Z.Warmed39 U.vm ∧ U.heap = h0) (fun _ _ _ _ _ => True) (fun _ U o U' => ∃ v L, o = .returned v ∧ Q5 Z a1 tb cb kt kc t0 t1 c0 c1 h0 n0 v U'.heap L ∧ FrameEnd U o U' L ({ frames := 0, cells := 0, slots := 0, locals := 0 } : Room).cells ({ frames := 0, cells := 0, slots := 0, locals := 0 } : Room).slots) := by
  refine MetFree.of_bodySF (plainFor_of_name pn_5) hisR ?_
  intro p e s m args below meth c s₁ Bd hml0 hP hK
  obtain ⟨rfl, hZ, hh⟩ := hP
  have hx := Bd.exec
  have hby := Bd.bytes
  have hml : c.maxLocals = 2 := hml0
  have hown : s.vm.findClass "com/example/outcry/outcry/core/Tally" = some m.cls := findClass_of_methodNamed Bd.named
  have hnm := (name_of_methodNamed Bd.named Bd.method).1
  have X0 : Stand p l e ({ frames := 0, cells := 0, slots := 0, locals := 0 } : Room) s m #[(.ref a1), (.int (0 : Int32))] below meth c s₁ [] 0 0 := Stand.of_body Bd
  have e0 : s₁.heap = h0 := by rw [← hh, Bd.state]; rfl
  have N0 := Fr.nil n0
  have pre0 : ∀ t, Steps p.tables e below (s₁.setTop (mkF m 0 #[.val (.ref a1), .val (.int (0 : Int32))] [])) t → Steps p.tables e below (s₁.setTop (entryFrame m #[(.ref a1), (.int (0 : Int32))] 2)) t := fun t k => castTop (ef_5 m a1 (0 : Int32)) k
  by_cases hk : c0 = (0 : Int64)
  · obtain ⟨T401, X401, e401, st401⟩ := getF X0 hx hZ hown (host := "") (Or.inl (hw _ (List.mem_of_getElem? (i := 13) rfl))) Via.refl e0 F_count (g := (mkF m 1 #[.val (.ref a1), .val (.int (0 : Int32))] [(.ref a1)])) rfl rfl (hb hby d_prog_37_method_3_code_1)
    obtain ⟨cl402, Ar402, hin402, hat402⟩ := own_at V_c (0 : Int32) 0 rfl (by decide) (by decide)
    obtain ⟨fs, hr, hrun, hended, hW, hsame⟩ := X401.leave (v := some (.double (9221120237041090560 : UInt64))) (fun h => by rw [Bd.returns] at h; cases h)
    refine ⟨_, _, pre0 _ ?_, hrun, hended, _, _, rfl, ?_, ⟨_, rfl⟩, hW, hsame.mono (by decide) (by decide)⟩
    · show Steps p.tables e below (s₁.setTop (mkF m 0 #[.val (.ref a1), .val (.int (0 : Int32))] [])) _
      refine XS.aloadN X0.here hx rfl (hb hby d_prog_37_method_3_code_0) rfl rfl ?_
      show Steps p.tables e below (s₁.setTop (mkF m 1 #[.val (.ref a1), .val (.int (0 : Int32))] [(.ref a1)])) _
      refine st401 _ ?_
      show Steps p.tables e below (T401.setTop (mkF m 4 #[.val (.ref a1), .val (.int (0 : Int32))] [(.ref cb)])) _
      refine XS.iloadN X401.here hx rfl (hb hby d_prog_37_method_3_code_4) rfl ?_
      show Steps p.tables e below (T401.setTop (mkF m 5 #[.val (.ref a1), .val (.int (0 : Int32))] [(.int (0 : Int32)), (.ref cb)])) _
      refine X401.laload hx (j := (0 : Int32)) (v := (.long c0)) (by rw [e401]; exact Ar402.1) (State.isArrayOf_alike hZ.alike Ar402.2.1) Ar402.2.2 hin402 hat402 (g := (mkF m 5 #[.val (.ref a1), .val (.int (0 : Int32))] [(.int (0 : Int32)), (.ref cb)])) rfl rfl (hb hby d_prog_37_method_3_code_5) _ ?_
      show Steps p.tables e below (T401.setTop (mkF m 6 #[.val (.ref a1), .val (.int (0 : Int32))] [(.long c0)])) _
      refine XS.lconst X401.here hx rfl (hb hby d_prog_37_method_3_code_6) ?_
      show Steps p.tables e below (T401.setTop (mkF m 7 #[.val (.ref a1), .val (.int (0 : Int32))] [(.long (0 : Int64)), (.long c0)])) _
      refine XS.lcmp X401.here hx rfl (hb hby d_prog_37_method_3_code_7) rfl ?_
      show Steps p.tables e below (T401.setTop (mkF m 8 #[.val (.ref a1), .val (.int (0 : Int32))] [(.int (lcmpW c0 (0 : Int64)))])) _
      refine XS.ifNo X401.here hx rfl (hb hby d_prog_37_method_3_code_8) rfl ((if0 _ _).trans (teq ((own_lc0 c0).mpr hk)).2) ?_
      show Steps p.tables e below (T401.setTop (mkF m 11 #[.val (.ref a1), .val (.int (0 : Int32))] [])) _
      refine X401.ldc2DoubleC hx hown (mvT hZ (hw _ (List.mem_of_getElem? (i := 53) rfl))) (g := (mkF m 11 #[.val (.ref a1), .val (.int (0 : Int32))] [])) rfl (hb hby d_prog_37_method_3_code_11) _ ?_
      show Steps p.tables e below (T401.setTop (mkF m 14 #[.val (.ref a1), .val (.int (0 : Int32))] [(.double (9221120237041090560 : UInt64))])) _
      refine XS.goto X401.here hx rfl (pc0 := 14) (pc' := 31) rfl (hb hby d_prog_37_method_3_code_14) (by decide) (by decide) ?_
      show Steps p.tables e below (T401.setTop (mkF m 31 #[.val (.ref a1), .val (.int (0 : Int32))] [(.double (9221120237041090560 : UInt64))])) _
      jvm_step X401.here [X401.here.top, hx, (hb hby d_prog_37_method_3_code_31), X401.method', Bd.returns, narrow]
      first | (intro acts; rw [hr _ acts rfl rfl rfl]) | rw [hr _ _ rfl rfl rfl]
      exact Steps.refl _
    · show Q5 Z a1 tb cb kt kc t0 t1 c0 c1 h0 n0 _ T401.heap _
      rw [e401]
      exact ⟨by rw [show own_mean t0 c0 = own_nan from if_pos hk]; rfl, N0, rfl⟩
  · obtain ⟨T403, X403, e403, st403⟩ := getF X0 hx hZ hown (host := "") (Or.inl (hw _ (List.mem_of_getElem? (i := 13) rfl))) Via.refl e0 F_count (g := (mkF m 1 #[.val (.ref a1), .val (.int (0 : Int32))] [(.ref a1)])) rfl rfl (hb hby d_prog_37_method_3_code_1)
    obtain ⟨cl404, Ar404, hin404, hat404⟩ := own_at V_c (0 : Int32) 0 rfl (by decide) (by decide)
    obtain ⟨T405, X405, e405, st405⟩ := getF X403 hx hZ hown (host := "") (Or.inl (hw _ (List.mem_of_getElem? (i := 10) rfl))) Via.refl e403 F_total (g := (mkF m 18 #[.val (.ref a1), .val (.int (0 : Int32))] [(.ref a1)])) rfl rfl (hb hby d_prog_37_method_3_code_18)
    obtain ⟨cl406, Ar406, hin406, hat406⟩ := own_at V_t (0 : Int32) 0 rfl (by decide) (by decide)
    obtain ⟨T407, X407, e407, st407⟩ := getF X405 hx hZ hown (host := "") (Or.inl (hw _ (List.mem_of_getElem? (i := 13) rfl))) Via.refl e405 F_count (g := (mkF m 24 #[.val (.ref a1), .val (.int (0 : Int32))] [(.ref a1), (.double (FP.l2d t0))])) rfl rfl (hb hby d_prog_37_method_3_code_24)
    obtain ⟨cl408, Ar408, hin408, hat408⟩ := own_at V_c (0 : Int32) 0 rfl (by decide) (by decide)
    obtain ⟨fs, hr, hrun, hended, hW, hsame⟩ := X407.leave (v := some (.double (FP.ddiv (FP.l2d t0) (FP.l2d c0)))) (fun h => by rw [Bd.returns] at h; cases h)
    refine ⟨_, _, pre0 _ ?_, hrun, hended, _, _, rfl, ?_, ⟨_, rfl⟩, hW, hsame.mono (by decide) (by decide)⟩
    · show Steps p.tables e below (s₁.setTop (mkF m 0 #[.val (.ref a1), .val (.int (0 : Int32))] [])) _
      refine XS.aloadN X0.here hx rfl (hb hby d_prog_37_method_3_code_0) rfl rfl ?_
      show Steps p.tables e below (s₁.setTop (mkF m 1 #[.val (.ref a1), .val (.int (0 : Int32))] [(.ref a1)])) _
      refine st403 _ ?_
      show Steps p.tables e below (T403.setTop (mkF m 4 #[.val (.ref a1), .val (.int (0 : Int32))] [(.ref cb)])) _
      refine XS.iloadN X403.here hx rfl (hb hby d_prog_37_method_3_code_4) rfl ?_
      show Steps p.tables e below (T403.setTop (mkF m 5 #[.val (.ref a1), .val (.int (0 : Int32))] [(.int (0 : Int32)), (.ref cb)])) _
      refine X403.laload hx (j := (0 : Int32)) (v := (.long c0)) (by rw [e403]; exact Ar404.1) (State.isArrayOf_alike hZ.alike Ar404.2.1) Ar404.2.2 hin404 hat404 (g := (mkF m 5 #[.val (.ref a1), .val (.int (0 : Int32))] [(.int (0 : Int32)), (.ref cb)])) rfl rfl (hb hby d_prog_37_method_3_code_5) _ ?_
      show Steps p.tables e below (T403.setTop (mkF m 6 #[.val (.ref a1), .val (.int (0 : Int32))] [(.long c0)])) _
      refine XS.lconst X403.here hx rfl (hb hby d_prog_37_method_3_code_6) ?_
      show Steps p.tables e below (T403.setTop (mkF m 7 #[.val (.ref a1), .val (.int (0 : Int32))] [(.long (0 : Int64)), (.long c0)])) _
      refine XS.lcmp X403.here hx rfl (hb hby d_prog_37_method_3_code_7) rfl ?_
      show Steps p.tables e below (T403.setTop (mkF m 8 #[.val (.ref a1), .val (.int (0 : Int32))] [(.int (lcmpW c0 (0 : Int64)))])) _
      refine XS.ifYes X403.here hx rfl (pc0 := 8) (pc' := 17) rfl (hb hby d_prog_37_method_3_code_8) rfl ((if0 _ _).trans (feq (fun q => hk ((own_lc0 c0).mp q))).2) (by decide) (by decide) ?_
      show Steps p.tables e below (T403.setTop (mkF m 17 #[.val (.ref a1), .val (.int (0 : Int32))] [])) _
      refine XS.aloadN X403.here hx rfl (hb hby d_prog_37_method_3_code_17) rfl rfl ?_
      show Steps p.tables e below (T403.setTop (mkF m 18 #[.val (.ref a1), .val (.int (0 : Int32))] [(.ref a1)])) _
      refine st405 _ ?_
      show Steps p.tables e below (T405.setTop (mkF m 21 #[.val (.ref a1), .val (.int (0 : Int32))] [(.ref tb)])) _
      refine XS.iloadN X405.here hx rfl (hb hby d_prog_37_method_3_code_21) rfl ?_
      show Steps p.tables e below (T405.setTop (mkF m 22 #[.val (.ref a1), .val (.int (0 : Int32))] [(.int (0 : Int32)), (.ref tb)])) _
      refine X405.daload hx (j := (0 : Int32)) (v := (.double (FP.l2d t0))) (by rw [e405]; exact Ar406.1) (State.isArrayOf_alike hZ.alike Ar406.2.1) Ar406.2.2 hin406 hat406 (g := (mkF m 22 #[.val (.ref a1), .val (.int (0 : Int32))] [(.int (0 : Int32)), (.ref tb)])) rfl rfl (hb hby d_prog_37_method_3_code_22) _ ?_
      show Steps p.tables e below (T405.setTop (mkF m 23 #[.val (.ref a1), .val (.int (0 : Int32))] [(.double (FP.l2d t0))])) _
      refine XS.aloadN X405.here hx rfl (hb hby d_prog_37_method_3_code_23) rfl rfl ?_
      show Steps p.tables e below (T405.setTop (mkF m 24 #[.val (.ref a1), .val (.int (0 : Int32))] [(.ref a1), (.double (FP.l2d t0))])) _
      refine st407 _ ?_
      show Steps p.tables e below (T407.setTop (mkF m 27 #[.val (.ref a1), .val (.int (0 : Int32))] [(.ref cb), (.double (FP.l2d t0))])) _
      refine XS.iloadN X407.here hx rfl (hb hby d_prog_37_method_3_code_27) rfl ?_
      show Steps p.tables e below (T407.setTop (mkF m 28 #[.val (.ref a1), .val (.int (0 : Int32))] [(.int (0 : Int32)), (.ref cb), (.double (FP.l2d t0))])) _
      refine X407.laload hx (j := (0 : Int32)) (v := (.long c0)) (by rw [e407]; exact Ar408.1) (State.isArrayOf_alike hZ.alike Ar408.2.1) Ar408.2.2 hin408 hat408 (g := (mkF m 28 #[.val (.ref a1), .val (.int (0 : Int32))] [(.int (0 : Int32)), (.ref cb), (.double (FP.l2d t0))])) rfl rfl (hb hby d_prog_37_method_3_code_28) _ ?_
      show Steps p.tables e below (T407.setTop (mkF m 29 #[.val (.ref a1), .val (.int (0 : Int32))] [(.long c0), (.double (FP.l2d t0))])) _
      refine XS.l2dS X407.here hx rfl (v := (FP.l2d c0)) (hb hby d_prog_37_method_3_code_29) rfl rfl ?_
      show Steps p.tables e below (T407.setTop (mkF m 30 #[.val (.ref a1), .val (.int (0 : Int32))] [(.double (FP.l2d c0)), (.double (FP.l2d t0))])) _
      refine XS.ddivS X407.here hx rfl (v := (FP.ddiv (FP.l2d t0) (FP.l2d c0))) (hb hby d_prog_37_method_3_code_30) rfl (own_mean_nn hk) rfl ?_
      show Steps p.tables e below (T407.setTop (mkF m 31 #[.val (.ref a1), .val (.int (0 : Int32))] [(.double (FP.ddiv (FP.l2d t0) (FP.l2d c0)))])) _
      jvm_step X407.here [X407.here.top, hx, (hb hby d_prog_37_method_3_code_31), X407.method', Bd.returns, narrow]
      first | (intro acts; rw [hr _ acts rfl rfl rfl]) | rw [hr _ _ rfl rfl rfl]
      exact Steps.refl _
    · show Q5 Z a1 tb cb kt kc t0 t1 c0 c1 h0 n0 _ T407.heap _
      rw [e407]
      exact ⟨by rw [show own_mean t0 c0 = FP.ddiv (FP.l2d t0) (FP.l2d c0) from if_neg hk], N0, rfl⟩
theorem ef_6 (m : MethodId) (x0 : Addr) (x1 : Int32) : entryFrame m #[(.ref x0), (.int x1)] 2 = mkF m 0 #[.val (.ref x0), .val (.int x1)] [] := by first | (simp [entryFrame, mkF, argsToLocals, Value.category]; done) | rfl
theorem pn_6 : plainName "com/example/outcry/outcry/core/Tally" = true := by first | (simp [plainName, overriddenIn]; done) | decide +kernel
def Q6 (Z : State) (a1 : Nat) (tb : Nat) (cb : Nat) (kt : ClassId) (kc : ClassId) (t0 : Int64) (t1 : Int64) (c0 : Int64) (c1 : Int64) (h0 : Heap) (n0 : Nat) (v : Option Value) (h : Heap) (L : List Loc) : Prop := v = some (.double (own_mean t1 c1)) ∧ Fr n0 L ∧ h = h0
set_option maxRecDepth 65536 in
set_option maxHeartbeats 40000000 in
theorem rm6 (l : Launch) (Z : State) (a0 : Array Value) (hw : ∀ d ∈ tables_1, d.before a0 Z = true) (ws : List Jvm.Cond) (a1 : Nat) (tb : Nat) (cb : Nat) (kt : ClassId) (kc : ClassId) (t0 : Int64) (t1 : Int64) (c0 : Int64) (c1 : Int64) (h0 : Heap) (n0 : Nat) (Z0 : n0 ≤ h0.size) (F_total : Fld Z h0 a1 "com/example/outcry/outcry/core/Tally" "total" "[D" (.ref tb)) (F_count : Fld Z h0 a1 "com/example/outcry/outcry/core/Tally" "count" "[J" (.ref cb)) (V_t : Arv Z h0 tb kt .double (2 : Int32) [(.double (FP.l2d t0)), (.double (FP.l2d t1))] (.double (FP.l2d 0))) (V_c : Arv Z h0 cb kc .long (2 : Int32) [(.long c0), (.long c1)] (.long (0 : Int64))) :
    MetFree l (⟨"com/example/outcry/outcry/core/Tally", "mean", "(I)D"⟩ : MethodName) (head1 (Jvm.Cond.code (⟨"com/example/outcry/outcry/core/Tally", "mean", "(I)D"⟩ : MethodName) prog_37_method_3_code 2 (some .double) :: ws) ({ frames := 0, cells := 0, slots := 0, locals := 0 } : Room)) (fun a U => a = #[(.ref a1), (.int (1 : Int32))] ∧ Z.Warmed39 U.vm ∧ U.heap = h0) (fun _ _ _ _ _ => True) (fun _ U o U' => ∃ v L, o = .returned v ∧ Q6 Z a1 tb cb kt kc t0 t1 c0 c1 h0 n0 v U'.heap L ∧ FrameEnd U o U' L ({ frames := 0, cells := 0, slots := 0, locals := 0 } : Room).cells ({ frames := 0, cells := 0, slots := 0, locals := 0 } : Room).slots) := by
  refine MetFree.of_bodySF (plainFor_of_name pn_6) hisR ?_
  intro p e s m args below meth c s₁ Bd hml0 hP hK
  obtain ⟨rfl, hZ, hh⟩ := hP
  have hx := Bd.exec
  have hby := Bd.bytes
  have hml : c.maxLocals = 2 := hml0
  have hown : s.vm.findClass "com/example/outcry/outcry/core/Tally" = some m.cls := findClass_of_methodNamed Bd.named
  have hnm := (name_of_methodNamed Bd.named Bd.method).1
  have X0 : Stand p l e ({ frames := 0, cells := 0, slots := 0, locals := 0 } : Room) s m #[(.ref a1), (.int (1 : Int32))] below meth c s₁ [] 0 0 := Stand.of_body Bd
  have e0 : s₁.heap = h0 := by rw [← hh, Bd.state]; rfl
  have N0 := Fr.nil n0
  have pre0 : ∀ t, Steps p.tables e below (s₁.setTop (mkF m 0 #[.val (.ref a1), .val (.int (1 : Int32))] [])) t → Steps p.tables e below (s₁.setTop (entryFrame m #[(.ref a1), (.int (1 : Int32))] 2)) t := fun t k => castTop (ef_6 m a1 (1 : Int32)) k
  by_cases hk : c1 = (0 : Int64)
  · obtain ⟨T409, X409, e409, st409⟩ := getF X0 hx hZ hown (host := "") (Or.inl (hw _ (List.mem_of_getElem? (i := 13) rfl))) Via.refl e0 F_count (g := (mkF m 1 #[.val (.ref a1), .val (.int (1 : Int32))] [(.ref a1)])) rfl rfl (hb hby d_prog_37_method_3_code_1)
    obtain ⟨cl410, Ar410, hin410, hat410⟩ := own_at V_c (1 : Int32) 1 rfl (by decide) (by decide)
    obtain ⟨fs, hr, hrun, hended, hW, hsame⟩ := X409.leave (v := some (.double (9221120237041090560 : UInt64))) (fun h => by rw [Bd.returns] at h; cases h)
    refine ⟨_, _, pre0 _ ?_, hrun, hended, _, _, rfl, ?_, ⟨_, rfl⟩, hW, hsame.mono (by decide) (by decide)⟩
    · show Steps p.tables e below (s₁.setTop (mkF m 0 #[.val (.ref a1), .val (.int (1 : Int32))] [])) _
      refine XS.aloadN X0.here hx rfl (hb hby d_prog_37_method_3_code_0) rfl rfl ?_
      show Steps p.tables e below (s₁.setTop (mkF m 1 #[.val (.ref a1), .val (.int (1 : Int32))] [(.ref a1)])) _
      refine st409 _ ?_
      show Steps p.tables e below (T409.setTop (mkF m 4 #[.val (.ref a1), .val (.int (1 : Int32))] [(.ref cb)])) _
      refine XS.iloadN X409.here hx rfl (hb hby d_prog_37_method_3_code_4) rfl ?_
      show Steps p.tables e below (T409.setTop (mkF m 5 #[.val (.ref a1), .val (.int (1 : Int32))] [(.int (1 : Int32)), (.ref cb)])) _
      refine X409.laload hx (j := (1 : Int32)) (v := (.long c1)) (by rw [e409]; exact Ar410.1) (State.isArrayOf_alike hZ.alike Ar410.2.1) Ar410.2.2 hin410 hat410 (g := (mkF m 5 #[.val (.ref a1), .val (.int (1 : Int32))] [(.int (1 : Int32)), (.ref cb)])) rfl rfl (hb hby d_prog_37_method_3_code_5) _ ?_
      show Steps p.tables e below (T409.setTop (mkF m 6 #[.val (.ref a1), .val (.int (1 : Int32))] [(.long c1)])) _
      refine XS.lconst X409.here hx rfl (hb hby d_prog_37_method_3_code_6) ?_
      show Steps p.tables e below (T409.setTop (mkF m 7 #[.val (.ref a1), .val (.int (1 : Int32))] [(.long (0 : Int64)), (.long c1)])) _
      refine XS.lcmp X409.here hx rfl (hb hby d_prog_37_method_3_code_7) rfl ?_
      show Steps p.tables e below (T409.setTop (mkF m 8 #[.val (.ref a1), .val (.int (1 : Int32))] [(.int (lcmpW c1 (0 : Int64)))])) _
      refine XS.ifNo X409.here hx rfl (hb hby d_prog_37_method_3_code_8) rfl ((if0 _ _).trans (teq ((own_lc0 c1).mpr hk)).2) ?_
      show Steps p.tables e below (T409.setTop (mkF m 11 #[.val (.ref a1), .val (.int (1 : Int32))] [])) _
      refine X409.ldc2DoubleC hx hown (mvT hZ (hw _ (List.mem_of_getElem? (i := 53) rfl))) (g := (mkF m 11 #[.val (.ref a1), .val (.int (1 : Int32))] [])) rfl (hb hby d_prog_37_method_3_code_11) _ ?_
      show Steps p.tables e below (T409.setTop (mkF m 14 #[.val (.ref a1), .val (.int (1 : Int32))] [(.double (9221120237041090560 : UInt64))])) _
      refine XS.goto X409.here hx rfl (pc0 := 14) (pc' := 31) rfl (hb hby d_prog_37_method_3_code_14) (by decide) (by decide) ?_
      show Steps p.tables e below (T409.setTop (mkF m 31 #[.val (.ref a1), .val (.int (1 : Int32))] [(.double (9221120237041090560 : UInt64))])) _
      jvm_step X409.here [X409.here.top, hx, (hb hby d_prog_37_method_3_code_31), X409.method', Bd.returns, narrow]
      first | (intro acts; rw [hr _ acts rfl rfl rfl]) | rw [hr _ _ rfl rfl rfl]
      exact Steps.refl _
    · show Q6 Z a1 tb cb kt kc t0 t1 c0 c1 h0 n0 _ T409.heap _
      rw [e409]
      exact ⟨by rw [show own_mean t1 c1 = own_nan from if_pos hk]; rfl, N0, rfl⟩
  · obtain ⟨T411, X411, e411, st411⟩ := getF X0 hx hZ hown (host := "") (Or.inl (hw _ (List.mem_of_getElem? (i := 13) rfl))) Via.refl e0 F_count (g := (mkF m 1 #[.val (.ref a1), .val (.int (1 : Int32))] [(.ref a1)])) rfl rfl (hb hby d_prog_37_method_3_code_1)
    obtain ⟨cl412, Ar412, hin412, hat412⟩ := own_at V_c (1 : Int32) 1 rfl (by decide) (by decide)
    obtain ⟨T413, X413, e413, st413⟩ := getF X411 hx hZ hown (host := "") (Or.inl (hw _ (List.mem_of_getElem? (i := 10) rfl))) Via.refl e411 F_total (g := (mkF m 18 #[.val (.ref a1), .val (.int (1 : Int32))] [(.ref a1)])) rfl rfl (hb hby d_prog_37_method_3_code_18)
    obtain ⟨cl414, Ar414, hin414, hat414⟩ := own_at V_t (1 : Int32) 1 rfl (by decide) (by decide)
    obtain ⟨T415, X415, e415, st415⟩ := getF X413 hx hZ hown (host := "") (Or.inl (hw _ (List.mem_of_getElem? (i := 13) rfl))) Via.refl e413 F_count (g := (mkF m 24 #[.val (.ref a1), .val (.int (1 : Int32))] [(.ref a1), (.double (FP.l2d t1))])) rfl rfl (hb hby d_prog_37_method_3_code_24)
    obtain ⟨cl416, Ar416, hin416, hat416⟩ := own_at V_c (1 : Int32) 1 rfl (by decide) (by decide)
    obtain ⟨fs, hr, hrun, hended, hW, hsame⟩ := X415.leave (v := some (.double (FP.ddiv (FP.l2d t1) (FP.l2d c1)))) (fun h => by rw [Bd.returns] at h; cases h)
    refine ⟨_, _, pre0 _ ?_, hrun, hended, _, _, rfl, ?_, ⟨_, rfl⟩, hW, hsame.mono (by decide) (by decide)⟩
    · show Steps p.tables e below (s₁.setTop (mkF m 0 #[.val (.ref a1), .val (.int (1 : Int32))] [])) _
      refine XS.aloadN X0.here hx rfl (hb hby d_prog_37_method_3_code_0) rfl rfl ?_
      show Steps p.tables e below (s₁.setTop (mkF m 1 #[.val (.ref a1), .val (.int (1 : Int32))] [(.ref a1)])) _
      refine st411 _ ?_
      show Steps p.tables e below (T411.setTop (mkF m 4 #[.val (.ref a1), .val (.int (1 : Int32))] [(.ref cb)])) _
      refine XS.iloadN X411.here hx rfl (hb hby d_prog_37_method_3_code_4) rfl ?_
      show Steps p.tables e below (T411.setTop (mkF m 5 #[.val (.ref a1), .val (.int (1 : Int32))] [(.int (1 : Int32)), (.ref cb)])) _
      refine X411.laload hx (j := (1 : Int32)) (v := (.long c1)) (by rw [e411]; exact Ar412.1) (State.isArrayOf_alike hZ.alike Ar412.2.1) Ar412.2.2 hin412 hat412 (g := (mkF m 5 #[.val (.ref a1), .val (.int (1 : Int32))] [(.int (1 : Int32)), (.ref cb)])) rfl rfl (hb hby d_prog_37_method_3_code_5) _ ?_
      show Steps p.tables e below (T411.setTop (mkF m 6 #[.val (.ref a1), .val (.int (1 : Int32))] [(.long c1)])) _
      refine XS.lconst X411.here hx rfl (hb hby d_prog_37_method_3_code_6) ?_
      show Steps p.tables e below (T411.setTop (mkF m 7 #[.val (.ref a1), .val (.int (1 : Int32))] [(.long (0 : Int64)), (.long c1)])) _
      refine XS.lcmp X411.here hx rfl (hb hby d_prog_37_method_3_code_7) rfl ?_
      show Steps p.tables e below (T411.setTop (mkF m 8 #[.val (.ref a1), .val (.int (1 : Int32))] [(.int (lcmpW c1 (0 : Int64)))])) _
      refine XS.ifYes X411.here hx rfl (pc0 := 8) (pc' := 17) rfl (hb hby d_prog_37_method_3_code_8) rfl ((if0 _ _).trans (feq (fun q => hk ((own_lc0 c1).mp q))).2) (by decide) (by decide) ?_
      show Steps p.tables e below (T411.setTop (mkF m 17 #[.val (.ref a1), .val (.int (1 : Int32))] [])) _
      refine XS.aloadN X411.here hx rfl (hb hby d_prog_37_method_3_code_17) rfl rfl ?_
      show Steps p.tables e below (T411.setTop (mkF m 18 #[.val (.ref a1), .val (.int (1 : Int32))] [(.ref a1)])) _
      refine st413 _ ?_
      show Steps p.tables e below (T413.setTop (mkF m 21 #[.val (.ref a1), .val (.int (1 : Int32))] [(.ref tb)])) _
      refine XS.iloadN X413.here hx rfl (hb hby d_prog_37_method_3_code_21) rfl ?_
      show Steps p.tables e below (T413.setTop (mkF m 22 #[.val (.ref a1), .val (.int (1 : Int32))] [(.int (1 : Int32)), (.ref tb)])) _
      refine X413.daload hx (j := (1 : Int32)) (v := (.double (FP.l2d t1))) (by rw [e413]; exact Ar414.1) (State.isArrayOf_alike hZ.alike Ar414.2.1) Ar414.2.2 hin414 hat414 (g := (mkF m 22 #[.val (.ref a1), .val (.int (1 : Int32))] [(.int (1 : Int32)), (.ref tb)])) rfl rfl (hb hby d_prog_37_method_3_code_22) _ ?_
      show Steps p.tables e below (T413.setTop (mkF m 23 #[.val (.ref a1), .val (.int (1 : Int32))] [(.double (FP.l2d t1))])) _
      refine XS.aloadN X413.here hx rfl (hb hby d_prog_37_method_3_code_23) rfl rfl ?_
      show Steps p.tables e below (T413.setTop (mkF m 24 #[.val (.ref a1), .val (.int (1 : Int32))] [(.ref a1), (.double (FP.l2d t1))])) _
      refine st415 _ ?_
      show Steps p.tables e below (T415.setTop (mkF m 27 #[.val (.ref a1), .val (.int (1 : Int32))] [(.ref cb), (.double (FP.l2d t1))])) _
      refine XS.iloadN X415.here hx rfl (hb hby d_prog_37_method_3_code_27) rfl ?_
      show Steps p.tables e below (T415.setTop (mkF m 28 #[.val (.ref a1), .val (.int (1 : Int32))] [(.int (1 : Int32)), (.ref cb), (.double (FP.l2d t1))])) _
      refine X415.laload hx (j := (1 : Int32)) (v := (.long c1)) (by rw [e415]; exact Ar416.1) (State.isArrayOf_alike hZ.alike Ar416.2.1) Ar416.2.2 hin416 hat416 (g := (mkF m 28 #[.val (.ref a1), .val (.int (1 : Int32))] [(.int (1 : Int32)), (.ref cb), (.double (FP.l2d t1))])) rfl rfl (hb hby d_prog_37_method_3_code_28) _ ?_
      show Steps p.tables e below (T415.setTop (mkF m 29 #[.val (.ref a1), .val (.int (1 : Int32))] [(.long c1), (.double (FP.l2d t1))])) _
      refine XS.l2dS X415.here hx rfl (v := (FP.l2d c1)) (hb hby d_prog_37_method_3_code_29) rfl rfl ?_
      show Steps p.tables e below (T415.setTop (mkF m 30 #[.val (.ref a1), .val (.int (1 : Int32))] [(.double (FP.l2d c1)), (.double (FP.l2d t1))])) _
      refine XS.ddivS X415.here hx rfl (v := (FP.ddiv (FP.l2d t1) (FP.l2d c1))) (hb hby d_prog_37_method_3_code_30) rfl (own_mean_nn hk) rfl ?_
      show Steps p.tables e below (T415.setTop (mkF m 31 #[.val (.ref a1), .val (.int (1 : Int32))] [(.double (FP.ddiv (FP.l2d t1) (FP.l2d c1)))])) _
      jvm_step X415.here [X415.here.top, hx, (hb hby d_prog_37_method_3_code_31), X415.method', Bd.returns, narrow]
      first | (intro acts; rw [hr _ acts rfl rfl rfl]) | rw [hr _ _ rfl rfl rfl]
      exact Steps.refl _
    · show Q6 Z a1 tb cb kt kc t0 t1 c0 c1 h0 n0 _ T415.heap _
      rw [e415]
      exact ⟨by rw [show own_mean t1 c1 = FP.ddiv (FP.l2d t1) (FP.l2d c1) from if_neg hk], N0, rfl⟩
theorem ef_0 (m : MethodId) (x0 : Int32) (x1 : Int32) (x2 : Int32) (x3 : Int32) (x4 : Int32) : entryFrame m #[(.int x0), (.int x1), (.int x2), (.int x3), (.int x4)] maxLocals = mkF m 0 #[.val (.int x0), .val (.int x1), .val (.int x2), .val (.int x3), .val (.int x4), .unset, .unset, .unset, .unset, .unset, .unset, .unset, .unset, .unset, .unset, .unset, .unset, .unset, .unset, .unset, .unset, .unset, .unset, .unset, .unset, .unset, .unset, .unset, .unset, .unset] [] := by first | (simp [entryFrame, mkF, argsToLocals, Value.category, maxLocals]; done) | rfl
theorem pn_0 : plainName "com/example/outcry/outcry/core/TallyMeanPinLaw" = true := by first | (simp [plainName, overriddenIn]; done) | decide +kernel
def Q0 (Z : State) (p0 : Int32) (p1 : Int32) (p2 : Int32) (p3 : Int32) (p4 : Int32) (h0 : Heap) (n0 : Nat) (v : Option Value) (h : Heap) (L : List Loc) : Prop := v = some (.int 1) ∧ Fr n0 L
set_option maxRecDepth 65536 in
set_option maxHeartbeats 40000000 in
theorem rm0 (l : Launch) (Z : State) (a0 : Array Value) (hw : ∀ d ∈ tables_1, d.before a0 Z = true) (ws : List Jvm.Cond) (p0 : Int32) (p1 : Int32) (p2 : Int32) (p3 : Int32) (p4 : Int32) (h0 : Heap) (n0 : Nat) (Z0 : n0 ≤ h0.size) :
    MetFree l x (head1 (Jvm.Cond.code x code maxLocals ret :: ws) room_1) (fun a U => a = #[(.int p0), (.int p1), (.int p2), (.int p3), (.int p4)] ∧ Z.Warmed39 U.vm ∧ U.heap = h0) (fun _ _ _ _ _ => True) (fun _ U o U' => ∃ v L, o = .returned v ∧ Q0 Z p0 p1 p2 p3 p4 h0 n0 v U'.heap L ∧ FrameEnd U o U' L room_1.cells room_1.slots) := by
  refine MetFree.of_bodySF (plainFor_of_name pn_0) hisR ?_
  intro p e s m args below meth c s₁ Bd hml0 hP hK
  obtain ⟨rfl, hZ, hh⟩ := hP
  have hx := Bd.exec
  have hby := Bd.bytes
  have hml : c.maxLocals = 30 := hml0
  have hown : s.vm.findClass "com/example/outcry/outcry/core/TallyMeanPinLaw" = some m.cls := findClass_of_methodNamed Bd.named
  have hnm := (name_of_methodNamed Bd.named Bd.method).1
  have X0 : Stand p l e room_1 s m #[(.int p0), (.int p1), (.int p2), (.int p3), (.int p4)] below meth c s₁ [] 0 0 := Stand.of_body Bd
  have e0 : s₁.heap = h0 := by rw [← hh, Bd.state]; rfl
  have N0 := Fr.nil n0
  have pre0 : ∀ t, Steps p.tables e below (s₁.setTop (mkF m 0 #[.val (.int p0), .val (.int p1), .val (.int p2), .val (.int p3), .val (.int p4), .unset, .unset, .unset, .unset, .unset, .unset, .unset, .unset, .unset, .unset, .unset, .unset, .unset, .unset, .unset, .unset, .unset, .unset, .unset, .unset, .unset, .unset, .unset, .unset, .unset] [])) t → Steps p.tables e below (s₁.setTop (entryFrame m #[(.int p0), (.int p1), (.int p2), (.int p3), (.int p4)] maxLocals)) t := fun t k => castTop (ef_0 m p0 p1 p2 p3 p4) k
  obtain ⟨f5, ef5⟩ : ∃ z, z = own_bit p4 (1 : Int32) := ⟨_, rfl⟩
  obtain ⟨f6, ef6⟩ : ∃ z, z = own_bit p4 (2 : Int32) := ⟨_, rfl⟩
  obtain ⟨f7, ef7⟩ : ∃ z, z = own_bit p4 (4 : Int32) := ⟨_, rfl⟩
  obtain ⟨f8, ef8⟩ : ∃ z, z = own_bit p4 (8 : Int32) := ⟨_, rfl⟩
  obtain ⟨f9, ef9⟩ : ∃ z, z = own_bit p4 (16 : Int32) := ⟨_, rfl⟩
  obtain ⟨T417, h417, r1, L417, X417, e417, N417, K417, z417, R417, st417⟩ : ∃ (T' : State) (h' : Heap) (b : Nat) (L' : List Loc), Stand p l e room_1 s m #[(.int p0), (.int p1), (.int p2), (.int p3), (.int p4)] below meth c T' L' 1 2 ∧ T'.heap = h' ∧ Fr n0 L' ∧ Keep h0 h' [] ∧ h0.size ≤ b ∧ own_row Z h' b f7 p0 p3 ∧ ∀ target, Steps p.tables e below (T'.setTop (mkF m 103 #[.val (.int p0), .val (.int p1), .val (.int p2), .val (.int p3), .val (.int p4), .val (.int f5), .val (.int f6), .val (.int f7), .val (.int f8), .val (.int f9), .val (.ref b), .unset, .unset, .unset, .unset, .unset, .unset, .unset, .unset, .unset, .unset, .unset, .unset, .unset, .unset, .unset, .unset, .unset, .unset, .unset] [])) target → Steps p.tables e below (s₁.setTop (mkF m 72 #[.val (.int p0), .val (.int p1), .val (.int p2), .val (.int p3), .val (.int p4), .val (.int f5), .val (.int f6), .val (.int f7), .val (.int f8), .val (.int f9), .unset, .unset, .unset, .unset, .unset, .unset, .unset, .unset, .unset, .unset, .unset, .unset, .unset, .unset, .unset, .unset, .unset, .unset, .unset, .unset] [])) target := by
    by_cases hw0 : f7 = (0 : Int32)
    · have gz := Z0
      obtain ⟨T418, h418, k418, X418, e418, E418, A418, st418⟩ := newP X0 hx hZ (hw _ (List.mem_of_getElem? (i := 0) rfl)) e0 (g := (mkF m 94 #[.val (.int p0), .val (.int p1), .val (.int p2), .val (.int p3), .val (.int p4), .val (.int f5), .val (.int f6), .val (.int f7), .val (.int f8), .val (.int f9), .unset, .unset, .unset, .unset, .unset, .unset, .unset, .unset, .unset, .unset, .unset, .unset, .unset, .unset, .unset, .unset, .unset, .unset, .unset, .unset] [(.int (1 : Int32))])) rfl (hb hby at_94) rfl (by decide) (cap := 1) (by decide) (by decide) (by decide) (by decide)
      obtain ⟨bb, g418⟩ : ∃ z, z = h0.size := ⟨_, rfl⟩
      rw [← g418] at A418 st418
      have sz_h0_bb : h0.size ≤ (bb : Nat) := by rw [g418]; exact (Keep.refl h0 []).1
      have f419 : Arv Z h418 bb k418 .double (1 : Int32) [(.double (FP.l2d 0))] (.double (FP.l2d 0)) := (Arv.newD A418 (by decide)).pad (pad_rep [] (.double (FP.l2d 0)) 1)
      obtain ⟨cl420, Ar420, q420, S420, M420, Hh420, G420⟩ := id f419
      obtain ⟨T421, h421, X421, e421, W421, st421⟩ := stD X418 hx hZ e418 Ar420 (j := (0 : Int32)) (inb_of S420 ⟨by decide, by decide⟩) (g := (mkF m 100 #[.val (.int p0), .val (.int p1), .val (.int p2), .val (.int p3), .val (.int p4), .val (.int f5), .val (.int f6), .val (.int f7), .val (.int f8), .val (.int f9), .unset, .unset, .unset, .unset, .unset, .unset, .unset, .unset, .unset, .unset, .unset, .unset, .unset, .unset, .unset, .unset, .unset, .unset, .unset, .unset] [(.double (FP.i2d p0)), (.int (0 : Int32)), (.ref bb), (.ref bb)])) rfl rfl (hb hby at_100)
      have f422 : Arv Z h421 bb k418 .double (1 : Int32) [(.double (FP.i2d p0))] (.double (FP.l2d 0)) := Arv.set Ar420 q420 S420 M420 Hh420 G420 rfl W421 0 rfl (Nat.le_of_ble_eq_true rfl)
      have N421 := Fr.snoc X421 N0 (by omega : n0 ≤ (bb : Nat))
      have f423 := (((Keep.refl h0 []).ext E418).wr W421 (Or.inr (by omega : h0.size ≤ (bb : Nat))))
      refine ⟨T421, _, bb, _, X421.more (Nat.le_refl _) (by decide), e421, N421, f423, sz_h0_bb, Or.inl ⟨hw0, k418, f422⟩, fun target kt => ?_⟩
      show Steps p.tables e below (s₁.setTop (mkF m 72 #[.val (.int p0), .val (.int p1), .val (.int p2), .val (.int p3), .val (.int p4), .val (.int f5), .val (.int f6), .val (.int f7), .val (.int f8), .val (.int f9), .unset, .unset, .unset, .unset, .unset, .unset, .unset, .unset, .unset, .unset, .unset, .unset, .unset, .unset, .unset, .unset, .unset, .unset, .unset, .unset] [])) _
      refine XS.iload X0.here hx rfl (hb hby at_72) rfl ?_
      show Steps p.tables e below (s₁.setTop (mkF m 74 #[.val (.int p0), .val (.int p1), .val (.int p2), .val (.int p3), .val (.int p4), .val (.int f5), .val (.int f6), .val (.int f7), .val (.int f8), .val (.int f9), .unset, .unset, .unset, .unset, .unset, .unset, .unset, .unset, .unset, .unset, .unset, .unset, .unset, .unset, .unset, .unset, .unset, .unset, .unset, .unset] [(.int f7)])) _
      refine XS.ifYes X0.here hx rfl (pc0 := 74) (pc' := 93) rfl (hb hby at_74) rfl ((if0 _ _).trans (teq hw0).1) (by decide) (by decide) ?_
      show Steps p.tables e below (s₁.setTop (mkF m 93 #[.val (.int p0), .val (.int p1), .val (.int p2), .val (.int p3), .val (.int p4), .val (.int f5), .val (.int f6), .val (.int f7), .val (.int f8), .val (.int f9), .unset, .unset, .unset, .unset, .unset, .unset, .unset, .unset, .unset, .unset, .unset, .unset, .unset, .unset, .unset, .unset, .unset, .unset, .unset, .unset] [])) _
      refine XS.iconst X0.here hx rfl (hb hby at_93) ?_
      show Steps p.tables e below (s₁.setTop (mkF m 94 #[.val (.int p0), .val (.int p1), .val (.int p2), .val (.int p3), .val (.int p4), .val (.int f5), .val (.int f6), .val (.int f7), .val (.int f8), .val (.int f9), .unset, .unset, .unset, .unset, .unset, .unset, .unset, .unset, .unset, .unset, .unset, .unset, .unset, .unset, .unset, .unset, .unset, .unset, .unset, .unset] [(.int (1 : Int32))])) _
      refine st418 _ ?_
      show Steps p.tables e below (T418.setTop (mkF m 96 #[.val (.int p0), .val (.int p1), .val (.int p2), .val (.int p3), .val (.int p4), .val (.int f5), .val (.int f6), .val (.int f7), .val (.int f8), .val (.int f9), .unset, .unset, .unset, .unset, .unset, .unset, .unset, .unset, .unset, .unset, .unset, .unset, .unset, .unset, .unset, .unset, .unset, .unset, .unset, .unset] [(.ref bb)])) _
      refine XS.dup X418.here hx rfl (hb hby at_96) rfl rfl ?_
      show Steps p.tables e below (T418.setTop (mkF m 97 #[.val (.int p0), .val (.int p1), .val (.int p2), .val (.int p3), .val (.int p4), .val (.int f5), .val (.int f6), .val (.int f7), .val (.int f8), .val (.int f9), .unset, .unset, .unset, .unset, .unset, .unset, .unset, .unset, .unset, .unset, .unset, .unset, .unset, .unset, .unset, .unset, .unset, .unset, .unset, .unset] [(.ref bb), (.ref bb)])) _
      refine XS.iconst X418.here hx rfl (hb hby at_97) ?_
      show Steps p.tables e below (T418.setTop (mkF m 98 #[.val (.int p0), .val (.int p1), .val (.int p2), .val (.int p3), .val (.int p4), .val (.int f5), .val (.int f6), .val (.int f7), .val (.int f8), .val (.int f9), .unset, .unset, .unset, .unset, .unset, .unset, .unset, .unset, .unset, .unset, .unset, .unset, .unset, .unset, .unset, .unset, .unset, .unset, .unset, .unset] [(.int (0 : Int32)), (.ref bb), (.ref bb)])) _
      refine XS.iloadN X418.here hx rfl (hb hby at_98) rfl ?_
      show Steps p.tables e below (T418.setTop (mkF m 99 #[.val (.int p0), .val (.int p1), .val (.int p2), .val (.int p3), .val (.int p4), .val (.int f5), .val (.int f6), .val (.int f7), .val (.int f8), .val (.int f9), .unset, .unset, .unset, .unset, .unset, .unset, .unset, .unset, .unset, .unset, .unset, .unset, .unset, .unset, .unset, .unset, .unset, .unset, .unset, .unset] [(.int p0), (.int (0 : Int32)), (.ref bb), (.ref bb)])) _
      refine XS.i2dS X418.here hx rfl (v := (FP.i2d p0)) (hb hby at_99) rfl rfl ?_
      show Steps p.tables e below (T418.setTop (mkF m 100 #[.val (.int p0), .val (.int p1), .val (.int p2), .val (.int p3), .val (.int p4), .val (.int f5), .val (.int f6), .val (.int f7), .val (.int f8), .val (.int f9), .unset, .unset, .unset, .unset, .unset, .unset, .unset, .unset, .unset, .unset, .unset, .unset, .unset, .unset, .unset, .unset, .unset, .unset, .unset, .unset] [(.double (FP.i2d p0)), (.int (0 : Int32)), (.ref bb), (.ref bb)])) _
      refine st421 _ ?_
      show Steps p.tables e below (T421.setTop (mkF m 101 #[.val (.int p0), .val (.int p1), .val (.int p2), .val (.int p3), .val (.int p4), .val (.int f5), .val (.int f6), .val (.int f7), .val (.int f8), .val (.int f9), .unset, .unset, .unset, .unset, .unset, .unset, .unset, .unset, .unset, .unset, .unset, .unset, .unset, .unset, .unset, .unset, .unset, .unset, .unset, .unset] [(.ref bb)])) _
      refine XS.astore X421.here hx rfl (hb hby at_101) rfl rfl (l' := #[.val (.int p0), .val (.int p1), .val (.int p2), .val (.int p3), .val (.int p4), .val (.int f5), .val (.int f6), .val (.int f7), .val (.int f8), .val (.int f9), .val (.ref bb), .unset, .unset, .unset, .unset, .unset, .unset, .unset, .unset, .unset, .unset, .unset, .unset, .unset, .unset, .unset, .unset, .unset, .unset, .unset]) rfl ?_
      show Steps p.tables e below (T421.setTop (mkF m 103 #[.val (.int p0), .val (.int p1), .val (.int p2), .val (.int p3), .val (.int p4), .val (.int f5), .val (.int f6), .val (.int f7), .val (.int f8), .val (.int f9), .val (.ref bb), .unset, .unset, .unset, .unset, .unset, .unset, .unset, .unset, .unset, .unset, .unset, .unset, .unset, .unset, .unset, .unset, .unset, .unset, .unset] [])) _
      exact kt
    · have gz := Z0
      obtain ⟨T424, h424, k424, X424, e424, E424, A424, st424⟩ := newP X0 hx hZ (hw _ (List.mem_of_getElem? (i := 0) rfl)) e0 (g := (mkF m 78 #[.val (.int p0), .val (.int p1), .val (.int p2), .val (.int p3), .val (.int p4), .val (.int f5), .val (.int f6), .val (.int f7), .val (.int f8), .val (.int f9), .unset, .unset, .unset, .unset, .unset, .unset, .unset, .unset, .unset, .unset, .unset, .unset, .unset, .unset, .unset, .unset, .unset, .unset, .unset, .unset] [(.int (2 : Int32))])) rfl (hb hby at_78) rfl (by decide) (cap := 2) (by decide) (by decide) (by decide) (by decide)
      obtain ⟨bb, g424⟩ : ∃ z, z = h0.size := ⟨_, rfl⟩
      rw [← g424] at A424 st424
      have sz_h0_bb : h0.size ≤ (bb : Nat) := by rw [g424]; exact (Keep.refl h0 []).1
      have f425 : Arv Z h424 bb k424 .double (2 : Int32) [(.double (FP.l2d 0)), (.double (FP.l2d 0))] (.double (FP.l2d 0)) := (Arv.newD A424 (by decide)).pad (pad_rep [] (.double (FP.l2d 0)) 2)
      obtain ⟨cl426, Ar426, q426, S426, M426, Hh426, G426⟩ := id f425
      obtain ⟨T427, h427, X427, e427, W427, st427⟩ := stD X424 hx hZ e424 Ar426 (j := (0 : Int32)) (inb_of S426 ⟨by decide, by decide⟩) (g := (mkF m 84 #[.val (.int p0), .val (.int p1), .val (.int p2), .val (.int p3), .val (.int p4), .val (.int f5), .val (.int f6), .val (.int f7), .val (.int f8), .val (.int f9), .unset, .unset, .unset, .unset, .unset, .unset, .unset, .unset, .unset, .unset, .unset, .unset, .unset, .unset, .unset, .unset, .unset, .unset, .unset, .unset] [(.double (FP.i2d p0)), (.int (0 : Int32)), (.ref bb), (.ref bb)])) rfl rfl (hb hby at_84)
      have f428 : Arv Z h427 bb k424 .double (2 : Int32) [(.double (FP.i2d p0)), (.double (FP.l2d 0))] (.double (FP.l2d 0)) := Arv.set Ar426 q426 S426 M426 Hh426 G426 rfl W427 0 rfl (Nat.le_of_ble_eq_true rfl)
      have N427 := Fr.snoc X427 N0 (by omega : n0 ≤ (bb : Nat))
      obtain ⟨cl429, Ar429, q429, S429, M429, Hh429, G429⟩ := id f428
      obtain ⟨T430, h430, X430, e430, W430, st430⟩ := stD X427 hx hZ e427 Ar429 (j := (1 : Int32)) (inb_of S429 ⟨by decide, by decide⟩) (g := (mkF m 89 #[.val (.int p0), .val (.int p1), .val (.int p2), .val (.int p3), .val (.int p4), .val (.int f5), .val (.int f6), .val (.int f7), .val (.int f8), .val (.int f9), .unset, .unset, .unset, .unset, .unset, .unset, .unset, .unset, .unset, .unset, .unset, .unset, .unset, .unset, .unset, .unset, .unset, .unset, .unset, .unset] [(.double (FP.i2d p3)), (.int (1 : Int32)), (.ref bb), (.ref bb)])) rfl rfl (hb hby at_89)
      have f431 : Arv Z h430 bb k424 .double (2 : Int32) [(.double (FP.i2d p0)), (.double (FP.i2d p3))] (.double (FP.l2d 0)) := Arv.set Ar429 q429 S429 M429 Hh429 G429 rfl W430 1 rfl (Nat.le_of_ble_eq_true rfl)
      have N430 := Fr.snoc X430 N427 (by omega : n0 ≤ (bb : Nat))
      have f432 := ((((Keep.refl h0 []).ext E424).wr W427 (Or.inr (by omega : h0.size ≤ (bb : Nat)))).wr W430 (Or.inr (by omega : h0.size ≤ (bb : Nat))))
      refine ⟨T430, _, bb, _, X430, e430, N430, f432, sz_h0_bb, Or.inr ⟨hw0, k424, f431⟩, fun target kt => ?_⟩
      show Steps p.tables e below (s₁.setTop (mkF m 72 #[.val (.int p0), .val (.int p1), .val (.int p2), .val (.int p3), .val (.int p4), .val (.int f5), .val (.int f6), .val (.int f7), .val (.int f8), .val (.int f9), .unset, .unset, .unset, .unset, .unset, .unset, .unset, .unset, .unset, .unset, .unset, .unset, .unset, .unset, .unset, .unset, .unset, .unset, .unset, .unset] [])) _
      refine XS.iload X0.here hx rfl (hb hby at_72) rfl ?_
      show Steps p.tables e below (s₁.setTop (mkF m 74 #[.val (.int p0), .val (.int p1), .val (.int p2), .val (.int p3), .val (.int p4), .val (.int f5), .val (.int f6), .val (.int f7), .val (.int f8), .val (.int f9), .unset, .unset, .unset, .unset, .unset, .unset, .unset, .unset, .unset, .unset, .unset, .unset, .unset, .unset, .unset, .unset, .unset, .unset, .unset, .unset] [(.int f7)])) _
      refine XS.ifNo X0.here hx rfl (hb hby at_74) rfl ((if0 _ _).trans (feq hw0).1) ?_
      show Steps p.tables e below (s₁.setTop (mkF m 77 #[.val (.int p0), .val (.int p1), .val (.int p2), .val (.int p3), .val (.int p4), .val (.int f5), .val (.int f6), .val (.int f7), .val (.int f8), .val (.int f9), .unset, .unset, .unset, .unset, .unset, .unset, .unset, .unset, .unset, .unset, .unset, .unset, .unset, .unset, .unset, .unset, .unset, .unset, .unset, .unset] [])) _
      refine XS.iconst X0.here hx rfl (hb hby at_77) ?_
      show Steps p.tables e below (s₁.setTop (mkF m 78 #[.val (.int p0), .val (.int p1), .val (.int p2), .val (.int p3), .val (.int p4), .val (.int f5), .val (.int f6), .val (.int f7), .val (.int f8), .val (.int f9), .unset, .unset, .unset, .unset, .unset, .unset, .unset, .unset, .unset, .unset, .unset, .unset, .unset, .unset, .unset, .unset, .unset, .unset, .unset, .unset] [(.int (2 : Int32))])) _
      refine st424 _ ?_
      show Steps p.tables e below (T424.setTop (mkF m 80 #[.val (.int p0), .val (.int p1), .val (.int p2), .val (.int p3), .val (.int p4), .val (.int f5), .val (.int f6), .val (.int f7), .val (.int f8), .val (.int f9), .unset, .unset, .unset, .unset, .unset, .unset, .unset, .unset, .unset, .unset, .unset, .unset, .unset, .unset, .unset, .unset, .unset, .unset, .unset, .unset] [(.ref bb)])) _
      refine XS.dup X424.here hx rfl (hb hby at_80) rfl rfl ?_
      show Steps p.tables e below (T424.setTop (mkF m 81 #[.val (.int p0), .val (.int p1), .val (.int p2), .val (.int p3), .val (.int p4), .val (.int f5), .val (.int f6), .val (.int f7), .val (.int f8), .val (.int f9), .unset, .unset, .unset, .unset, .unset, .unset, .unset, .unset, .unset, .unset, .unset, .unset, .unset, .unset, .unset, .unset, .unset, .unset, .unset, .unset] [(.ref bb), (.ref bb)])) _
      refine XS.iconst X424.here hx rfl (hb hby at_81) ?_
      show Steps p.tables e below (T424.setTop (mkF m 82 #[.val (.int p0), .val (.int p1), .val (.int p2), .val (.int p3), .val (.int p4), .val (.int f5), .val (.int f6), .val (.int f7), .val (.int f8), .val (.int f9), .unset, .unset, .unset, .unset, .unset, .unset, .unset, .unset, .unset, .unset, .unset, .unset, .unset, .unset, .unset, .unset, .unset, .unset, .unset, .unset] [(.int (0 : Int32)), (.ref bb), (.ref bb)])) _
      refine XS.iloadN X424.here hx rfl (hb hby at_82) rfl ?_
      show Steps p.tables e below (T424.setTop (mkF m 83 #[.val (.int p0), .val (.int p1), .val (.int p2), .val (.int p3), .val (.int p4), .val (.int f5), .val (.int f6), .val (.int f7), .val (.int f8), .val (.int f9), .unset, .unset, .unset, .unset, .unset, .unset, .unset, .unset, .unset, .unset, .unset, .unset, .unset, .unset, .unset, .unset, .unset, .unset, .unset, .unset] [(.int p0), (.int (0 : Int32)), (.ref bb), (.ref bb)])) _
      refine XS.i2dS X424.here hx rfl (v := (FP.i2d p0)) (hb hby at_83) rfl rfl ?_
      show Steps p.tables e below (T424.setTop (mkF m 84 #[.val (.int p0), .val (.int p1), .val (.int p2), .val (.int p3), .val (.int p4), .val (.int f5), .val (.int f6), .val (.int f7), .val (.int f8), .val (.int f9), .unset, .unset, .unset, .unset, .unset, .unset, .unset, .unset, .unset, .unset, .unset, .unset, .unset, .unset, .unset, .unset, .unset, .unset, .unset, .unset] [(.double (FP.i2d p0)), (.int (0 : Int32)), (.ref bb), (.ref bb)])) _
      refine st427 _ ?_
      show Steps p.tables e below (T427.setTop (mkF m 85 #[.val (.int p0), .val (.int p1), .val (.int p2), .val (.int p3), .val (.int p4), .val (.int f5), .val (.int f6), .val (.int f7), .val (.int f8), .val (.int f9), .unset, .unset, .unset, .unset, .unset, .unset, .unset, .unset, .unset, .unset, .unset, .unset, .unset, .unset, .unset, .unset, .unset, .unset, .unset, .unset] [(.ref bb)])) _
      refine XS.dup X427.here hx rfl (hb hby at_85) rfl rfl ?_
      show Steps p.tables e below (T427.setTop (mkF m 86 #[.val (.int p0), .val (.int p1), .val (.int p2), .val (.int p3), .val (.int p4), .val (.int f5), .val (.int f6), .val (.int f7), .val (.int f8), .val (.int f9), .unset, .unset, .unset, .unset, .unset, .unset, .unset, .unset, .unset, .unset, .unset, .unset, .unset, .unset, .unset, .unset, .unset, .unset, .unset, .unset] [(.ref bb), (.ref bb)])) _
      refine XS.iconst X427.here hx rfl (hb hby at_86) ?_
      show Steps p.tables e below (T427.setTop (mkF m 87 #[.val (.int p0), .val (.int p1), .val (.int p2), .val (.int p3), .val (.int p4), .val (.int f5), .val (.int f6), .val (.int f7), .val (.int f8), .val (.int f9), .unset, .unset, .unset, .unset, .unset, .unset, .unset, .unset, .unset, .unset, .unset, .unset, .unset, .unset, .unset, .unset, .unset, .unset, .unset, .unset] [(.int (1 : Int32)), (.ref bb), (.ref bb)])) _
      refine XS.iloadN X427.here hx rfl (hb hby at_87) rfl ?_
      show Steps p.tables e below (T427.setTop (mkF m 88 #[.val (.int p0), .val (.int p1), .val (.int p2), .val (.int p3), .val (.int p4), .val (.int f5), .val (.int f6), .val (.int f7), .val (.int f8), .val (.int f9), .unset, .unset, .unset, .unset, .unset, .unset, .unset, .unset, .unset, .unset, .unset, .unset, .unset, .unset, .unset, .unset, .unset, .unset, .unset, .unset] [(.int p3), (.int (1 : Int32)), (.ref bb), (.ref bb)])) _
      refine XS.i2dS X427.here hx rfl (v := (FP.i2d p3)) (hb hby at_88) rfl rfl ?_
      show Steps p.tables e below (T427.setTop (mkF m 89 #[.val (.int p0), .val (.int p1), .val (.int p2), .val (.int p3), .val (.int p4), .val (.int f5), .val (.int f6), .val (.int f7), .val (.int f8), .val (.int f9), .unset, .unset, .unset, .unset, .unset, .unset, .unset, .unset, .unset, .unset, .unset, .unset, .unset, .unset, .unset, .unset, .unset, .unset, .unset, .unset] [(.double (FP.i2d p3)), (.int (1 : Int32)), (.ref bb), (.ref bb)])) _
      refine st430 _ ?_
      show Steps p.tables e below (T430.setTop (mkF m 90 #[.val (.int p0), .val (.int p1), .val (.int p2), .val (.int p3), .val (.int p4), .val (.int f5), .val (.int f6), .val (.int f7), .val (.int f8), .val (.int f9), .unset, .unset, .unset, .unset, .unset, .unset, .unset, .unset, .unset, .unset, .unset, .unset, .unset, .unset, .unset, .unset, .unset, .unset, .unset, .unset] [(.ref bb)])) _
      refine XS.goto X430.here hx rfl (pc0 := 90) (pc' := 101) rfl (hb hby at_90) (by decide) (by decide) ?_
      show Steps p.tables e below (T430.setTop (mkF m 101 #[.val (.int p0), .val (.int p1), .val (.int p2), .val (.int p3), .val (.int p4), .val (.int f5), .val (.int f6), .val (.int f7), .val (.int f8), .val (.int f9), .unset, .unset, .unset, .unset, .unset, .unset, .unset, .unset, .unset, .unset, .unset, .unset, .unset, .unset, .unset, .unset, .unset, .unset, .unset, .unset] [(.ref bb)])) _
      refine XS.astore X430.here hx rfl (hb hby at_101) rfl rfl (l' := #[.val (.int p0), .val (.int p1), .val (.int p2), .val (.int p3), .val (.int p4), .val (.int f5), .val (.int f6), .val (.int f7), .val (.int f8), .val (.int f9), .val (.ref bb), .unset, .unset, .unset, .unset, .unset, .unset, .unset, .unset, .unset, .unset, .unset, .unset, .unset, .unset, .unset, .unset, .unset, .unset, .unset]) rfl ?_
      show Steps p.tables e below (T430.setTop (mkF m 103 #[.val (.int p0), .val (.int p1), .val (.int p2), .val (.int p3), .val (.int p4), .val (.int f5), .val (.int f6), .val (.int f7), .val (.int f8), .val (.int f9), .val (.ref bb), .unset, .unset, .unset, .unset, .unset, .unset, .unset, .unset, .unset, .unset, .unset, .unset, .unset, .unset, .unset, .unset, .unset, .unset, .unset] [])) _
      exact kt
  have ge_r1 : n0 ≤ r1 := Nat.le_trans Z0 z417
  have Z433 : n0 ≤ h417.size := Nat.le_trans Z0 K417.1
  obtain ⟨T434, h434, r2, L434, X434, e434, N434, K434, z434, R434, st434⟩ : ∃ (T' : State) (h' : Heap) (b : Nat) (L' : List Loc), Stand p l e room_1 s m #[(.int p0), (.int p1), (.int p2), (.int p3), (.int p4)] below meth c T' L' 2 4 ∧ T'.heap = h' ∧ Fr n0 L' ∧ Keep h417 h' [] ∧ h417.size ≤ b ∧ own_row Z h' b f8 p1 p0 ∧ ∀ target, Steps p.tables e below (T'.setTop (mkF m 134 #[.val (.int p0), .val (.int p1), .val (.int p2), .val (.int p3), .val (.int p4), .val (.int f5), .val (.int f6), .val (.int f7), .val (.int f8), .val (.int f9), .val (.ref r1), .val (.ref b), .unset, .unset, .unset, .unset, .unset, .unset, .unset, .unset, .unset, .unset, .unset, .unset, .unset, .unset, .unset, .unset, .unset, .unset] [])) target → Steps p.tables e below (T417.setTop (mkF m 103 #[.val (.int p0), .val (.int p1), .val (.int p2), .val (.int p3), .val (.int p4), .val (.int f5), .val (.int f6), .val (.int f7), .val (.int f8), .val (.int f9), .val (.ref r1), .unset, .unset, .unset, .unset, .unset, .unset, .unset, .unset, .unset, .unset, .unset, .unset, .unset, .unset, .unset, .unset, .unset, .unset, .unset] [])) target := by
    by_cases hw0 : f8 = (0 : Int32)
    · have gz := Z433
      obtain ⟨T435, h435, k435, X435, e435, E435, A435, st435⟩ := newP X417 hx hZ (hw _ (List.mem_of_getElem? (i := 0) rfl)) e417 (g := (mkF m 125 #[.val (.int p0), .val (.int p1), .val (.int p2), .val (.int p3), .val (.int p4), .val (.int f5), .val (.int f6), .val (.int f7), .val (.int f8), .val (.int f9), .val (.ref r1), .unset, .unset, .unset, .unset, .unset, .unset, .unset, .unset, .unset, .unset, .unset, .unset, .unset, .unset, .unset, .unset, .unset, .unset, .unset] [(.int (1 : Int32))])) rfl (hb hby at_125) rfl (by decide) (cap := 1) (by decide) (by decide) (by decide) (by decide)
      obtain ⟨bb, g435⟩ : ∃ z, z = h417.size := ⟨_, rfl⟩
      rw [← g435] at A435 st435
      have sz_h417_bb : h417.size ≤ (bb : Nat) := by rw [g435]; exact (Keep.refl h417 []).1
      have f436 : Arv Z h435 bb k435 .double (1 : Int32) [(.double (FP.l2d 0))] (.double (FP.l2d 0)) := (Arv.newD A435 (by decide)).pad (pad_rep [] (.double (FP.l2d 0)) 1)
      obtain ⟨cl437, Ar437, q437, S437, M437, Hh437, G437⟩ := id f436
      obtain ⟨T438, h438, X438, e438, W438, st438⟩ := stD X435 hx hZ e435 Ar437 (j := (0 : Int32)) (inb_of S437 ⟨by decide, by decide⟩) (g := (mkF m 131 #[.val (.int p0), .val (.int p1), .val (.int p2), .val (.int p3), .val (.int p4), .val (.int f5), .val (.int f6), .val (.int f7), .val (.int f8), .val (.int f9), .val (.ref r1), .unset, .unset, .unset, .unset, .unset, .unset, .unset, .unset, .unset, .unset, .unset, .unset, .unset, .unset, .unset, .unset, .unset, .unset, .unset] [(.double (FP.i2d p1)), (.int (0 : Int32)), (.ref bb), (.ref bb)])) rfl rfl (hb hby at_131)
      have f439 : Arv Z h438 bb k435 .double (1 : Int32) [(.double (FP.i2d p1))] (.double (FP.l2d 0)) := Arv.set Ar437 q437 S437 M437 Hh437 G437 rfl W438 0 rfl (Nat.le_of_ble_eq_true rfl)
      have N438 := Fr.snoc X438 N417 (by omega : n0 ≤ (bb : Nat))
      have f440 := (((Keep.refl h417 []).ext E435).wr W438 (Or.inr (by omega : h417.size ≤ (bb : Nat))))
      refine ⟨T438, _, bb, _, X438.more (Nat.le_refl _) (by decide), e438, N438, f440, sz_h417_bb, Or.inl ⟨hw0, k435, f439⟩, fun target kt => ?_⟩
      show Steps p.tables e below (T417.setTop (mkF m 103 #[.val (.int p0), .val (.int p1), .val (.int p2), .val (.int p3), .val (.int p4), .val (.int f5), .val (.int f6), .val (.int f7), .val (.int f8), .val (.int f9), .val (.ref r1), .unset, .unset, .unset, .unset, .unset, .unset, .unset, .unset, .unset, .unset, .unset, .unset, .unset, .unset, .unset, .unset, .unset, .unset, .unset] [])) _
      refine XS.iload X417.here hx rfl (hb hby at_103) rfl ?_
      show Steps p.tables e below (T417.setTop (mkF m 105 #[.val (.int p0), .val (.int p1), .val (.int p2), .val (.int p3), .val (.int p4), .val (.int f5), .val (.int f6), .val (.int f7), .val (.int f8), .val (.int f9), .val (.ref r1), .unset, .unset, .unset, .unset, .unset, .unset, .unset, .unset, .unset, .unset, .unset, .unset, .unset, .unset, .unset, .unset, .unset, .unset, .unset] [(.int f8)])) _
      refine XS.ifYes X417.here hx rfl (pc0 := 105) (pc' := 124) rfl (hb hby at_105) rfl ((if0 _ _).trans (teq hw0).1) (by decide) (by decide) ?_
      show Steps p.tables e below (T417.setTop (mkF m 124 #[.val (.int p0), .val (.int p1), .val (.int p2), .val (.int p3), .val (.int p4), .val (.int f5), .val (.int f6), .val (.int f7), .val (.int f8), .val (.int f9), .val (.ref r1), .unset, .unset, .unset, .unset, .unset, .unset, .unset, .unset, .unset, .unset, .unset, .unset, .unset, .unset, .unset, .unset, .unset, .unset, .unset] [])) _
      refine XS.iconst X417.here hx rfl (hb hby at_124) ?_
      show Steps p.tables e below (T417.setTop (mkF m 125 #[.val (.int p0), .val (.int p1), .val (.int p2), .val (.int p3), .val (.int p4), .val (.int f5), .val (.int f6), .val (.int f7), .val (.int f8), .val (.int f9), .val (.ref r1), .unset, .unset, .unset, .unset, .unset, .unset, .unset, .unset, .unset, .unset, .unset, .unset, .unset, .unset, .unset, .unset, .unset, .unset, .unset] [(.int (1 : Int32))])) _
      refine st435 _ ?_
      show Steps p.tables e below (T435.setTop (mkF m 127 #[.val (.int p0), .val (.int p1), .val (.int p2), .val (.int p3), .val (.int p4), .val (.int f5), .val (.int f6), .val (.int f7), .val (.int f8), .val (.int f9), .val (.ref r1), .unset, .unset, .unset, .unset, .unset, .unset, .unset, .unset, .unset, .unset, .unset, .unset, .unset, .unset, .unset, .unset, .unset, .unset, .unset] [(.ref bb)])) _
      refine XS.dup X435.here hx rfl (hb hby at_127) rfl rfl ?_
      show Steps p.tables e below (T435.setTop (mkF m 128 #[.val (.int p0), .val (.int p1), .val (.int p2), .val (.int p3), .val (.int p4), .val (.int f5), .val (.int f6), .val (.int f7), .val (.int f8), .val (.int f9), .val (.ref r1), .unset, .unset, .unset, .unset, .unset, .unset, .unset, .unset, .unset, .unset, .unset, .unset, .unset, .unset, .unset, .unset, .unset, .unset, .unset] [(.ref bb), (.ref bb)])) _
      refine XS.iconst X435.here hx rfl (hb hby at_128) ?_
      show Steps p.tables e below (T435.setTop (mkF m 129 #[.val (.int p0), .val (.int p1), .val (.int p2), .val (.int p3), .val (.int p4), .val (.int f5), .val (.int f6), .val (.int f7), .val (.int f8), .val (.int f9), .val (.ref r1), .unset, .unset, .unset, .unset, .unset, .unset, .unset, .unset, .unset, .unset, .unset, .unset, .unset, .unset, .unset, .unset, .unset, .unset, .unset] [(.int (0 : Int32)), (.ref bb), (.ref bb)])) _
      refine XS.iloadN X435.here hx rfl (hb hby at_129) rfl ?_
      show Steps p.tables e below (T435.setTop (mkF m 130 #[.val (.int p0), .val (.int p1), .val (.int p2), .val (.int p3), .val (.int p4), .val (.int f5), .val (.int f6), .val (.int f7), .val (.int f8), .val (.int f9), .val (.ref r1), .unset, .unset, .unset, .unset, .unset, .unset, .unset, .unset, .unset, .unset, .unset, .unset, .unset, .unset, .unset, .unset, .unset, .unset, .unset] [(.int p1), (.int (0 : Int32)), (.ref bb), (.ref bb)])) _
      refine XS.i2dS X435.here hx rfl (v := (FP.i2d p1)) (hb hby at_130) rfl rfl ?_
      show Steps p.tables e below (T435.setTop (mkF m 131 #[.val (.int p0), .val (.int p1), .val (.int p2), .val (.int p3), .val (.int p4), .val (.int f5), .val (.int f6), .val (.int f7), .val (.int f8), .val (.int f9), .val (.ref r1), .unset, .unset, .unset, .unset, .unset, .unset, .unset, .unset, .unset, .unset, .unset, .unset, .unset, .unset, .unset, .unset, .unset, .unset, .unset] [(.double (FP.i2d p1)), (.int (0 : Int32)), (.ref bb), (.ref bb)])) _
      refine st438 _ ?_
      show Steps p.tables e below (T438.setTop (mkF m 132 #[.val (.int p0), .val (.int p1), .val (.int p2), .val (.int p3), .val (.int p4), .val (.int f5), .val (.int f6), .val (.int f7), .val (.int f8), .val (.int f9), .val (.ref r1), .unset, .unset, .unset, .unset, .unset, .unset, .unset, .unset, .unset, .unset, .unset, .unset, .unset, .unset, .unset, .unset, .unset, .unset, .unset] [(.ref bb)])) _
      refine XS.astore X438.here hx rfl (hb hby at_132) rfl rfl (l' := #[.val (.int p0), .val (.int p1), .val (.int p2), .val (.int p3), .val (.int p4), .val (.int f5), .val (.int f6), .val (.int f7), .val (.int f8), .val (.int f9), .val (.ref r1), .val (.ref bb), .unset, .unset, .unset, .unset, .unset, .unset, .unset, .unset, .unset, .unset, .unset, .unset, .unset, .unset, .unset, .unset, .unset, .unset]) rfl ?_
      show Steps p.tables e below (T438.setTop (mkF m 134 #[.val (.int p0), .val (.int p1), .val (.int p2), .val (.int p3), .val (.int p4), .val (.int f5), .val (.int f6), .val (.int f7), .val (.int f8), .val (.int f9), .val (.ref r1), .val (.ref bb), .unset, .unset, .unset, .unset, .unset, .unset, .unset, .unset, .unset, .unset, .unset, .unset, .unset, .unset, .unset, .unset, .unset, .unset] [])) _
      exact kt
    · have gz := Z433
      obtain ⟨T441, h441, k441, X441, e441, E441, A441, st441⟩ := newP X417 hx hZ (hw _ (List.mem_of_getElem? (i := 0) rfl)) e417 (g := (mkF m 109 #[.val (.int p0), .val (.int p1), .val (.int p2), .val (.int p3), .val (.int p4), .val (.int f5), .val (.int f6), .val (.int f7), .val (.int f8), .val (.int f9), .val (.ref r1), .unset, .unset, .unset, .unset, .unset, .unset, .unset, .unset, .unset, .unset, .unset, .unset, .unset, .unset, .unset, .unset, .unset, .unset, .unset] [(.int (2 : Int32))])) rfl (hb hby at_109) rfl (by decide) (cap := 2) (by decide) (by decide) (by decide) (by decide)
      obtain ⟨bb, g441⟩ : ∃ z, z = h417.size := ⟨_, rfl⟩
      rw [← g441] at A441 st441
      have sz_h417_bb : h417.size ≤ (bb : Nat) := by rw [g441]; exact (Keep.refl h417 []).1
      have f442 : Arv Z h441 bb k441 .double (2 : Int32) [(.double (FP.l2d 0)), (.double (FP.l2d 0))] (.double (FP.l2d 0)) := (Arv.newD A441 (by decide)).pad (pad_rep [] (.double (FP.l2d 0)) 2)
      obtain ⟨cl443, Ar443, q443, S443, M443, Hh443, G443⟩ := id f442
      obtain ⟨T444, h444, X444, e444, W444, st444⟩ := stD X441 hx hZ e441 Ar443 (j := (0 : Int32)) (inb_of S443 ⟨by decide, by decide⟩) (g := (mkF m 115 #[.val (.int p0), .val (.int p1), .val (.int p2), .val (.int p3), .val (.int p4), .val (.int f5), .val (.int f6), .val (.int f7), .val (.int f8), .val (.int f9), .val (.ref r1), .unset, .unset, .unset, .unset, .unset, .unset, .unset, .unset, .unset, .unset, .unset, .unset, .unset, .unset, .unset, .unset, .unset, .unset, .unset] [(.double (FP.i2d p1)), (.int (0 : Int32)), (.ref bb), (.ref bb)])) rfl rfl (hb hby at_115)
      have f445 : Arv Z h444 bb k441 .double (2 : Int32) [(.double (FP.i2d p1)), (.double (FP.l2d 0))] (.double (FP.l2d 0)) := Arv.set Ar443 q443 S443 M443 Hh443 G443 rfl W444 0 rfl (Nat.le_of_ble_eq_true rfl)
      have N444 := Fr.snoc X444 N417 (by omega : n0 ≤ (bb : Nat))
      obtain ⟨cl446, Ar446, q446, S446, M446, Hh446, G446⟩ := id f445
      obtain ⟨T447, h447, X447, e447, W447, st447⟩ := stD X444 hx hZ e444 Ar446 (j := (1 : Int32)) (inb_of S446 ⟨by decide, by decide⟩) (g := (mkF m 120 #[.val (.int p0), .val (.int p1), .val (.int p2), .val (.int p3), .val (.int p4), .val (.int f5), .val (.int f6), .val (.int f7), .val (.int f8), .val (.int f9), .val (.ref r1), .unset, .unset, .unset, .unset, .unset, .unset, .unset, .unset, .unset, .unset, .unset, .unset, .unset, .unset, .unset, .unset, .unset, .unset, .unset] [(.double (FP.i2d p0)), (.int (1 : Int32)), (.ref bb), (.ref bb)])) rfl rfl (hb hby at_120)
      have f448 : Arv Z h447 bb k441 .double (2 : Int32) [(.double (FP.i2d p1)), (.double (FP.i2d p0))] (.double (FP.l2d 0)) := Arv.set Ar446 q446 S446 M446 Hh446 G446 rfl W447 1 rfl (Nat.le_of_ble_eq_true rfl)
      have N447 := Fr.snoc X447 N444 (by omega : n0 ≤ (bb : Nat))
      have f449 := ((((Keep.refl h417 []).ext E441).wr W444 (Or.inr (by omega : h417.size ≤ (bb : Nat)))).wr W447 (Or.inr (by omega : h417.size ≤ (bb : Nat))))
      refine ⟨T447, _, bb, _, X447, e447, N447, f449, sz_h417_bb, Or.inr ⟨hw0, k441, f448⟩, fun target kt => ?_⟩
      show Steps p.tables e below (T417.setTop (mkF m 103 #[.val (.int p0), .val (.int p1), .val (.int p2), .val (.int p3), .val (.int p4), .val (.int f5), .val (.int f6), .val (.int f7), .val (.int f8), .val (.int f9), .val (.ref r1), .unset, .unset, .unset, .unset, .unset, .unset, .unset, .unset, .unset, .unset, .unset, .unset, .unset, .unset, .unset, .unset, .unset, .unset, .unset] [])) _
      refine XS.iload X417.here hx rfl (hb hby at_103) rfl ?_
      show Steps p.tables e below (T417.setTop (mkF m 105 #[.val (.int p0), .val (.int p1), .val (.int p2), .val (.int p3), .val (.int p4), .val (.int f5), .val (.int f6), .val (.int f7), .val (.int f8), .val (.int f9), .val (.ref r1), .unset, .unset, .unset, .unset, .unset, .unset, .unset, .unset, .unset, .unset, .unset, .unset, .unset, .unset, .unset, .unset, .unset, .unset, .unset] [(.int f8)])) _
      refine XS.ifNo X417.here hx rfl (hb hby at_105) rfl ((if0 _ _).trans (feq hw0).1) ?_
      show Steps p.tables e below (T417.setTop (mkF m 108 #[.val (.int p0), .val (.int p1), .val (.int p2), .val (.int p3), .val (.int p4), .val (.int f5), .val (.int f6), .val (.int f7), .val (.int f8), .val (.int f9), .val (.ref r1), .unset, .unset, .unset, .unset, .unset, .unset, .unset, .unset, .unset, .unset, .unset, .unset, .unset, .unset, .unset, .unset, .unset, .unset, .unset] [])) _
      refine XS.iconst X417.here hx rfl (hb hby at_108) ?_
      show Steps p.tables e below (T417.setTop (mkF m 109 #[.val (.int p0), .val (.int p1), .val (.int p2), .val (.int p3), .val (.int p4), .val (.int f5), .val (.int f6), .val (.int f7), .val (.int f8), .val (.int f9), .val (.ref r1), .unset, .unset, .unset, .unset, .unset, .unset, .unset, .unset, .unset, .unset, .unset, .unset, .unset, .unset, .unset, .unset, .unset, .unset, .unset] [(.int (2 : Int32))])) _
      refine st441 _ ?_
      show Steps p.tables e below (T441.setTop (mkF m 111 #[.val (.int p0), .val (.int p1), .val (.int p2), .val (.int p3), .val (.int p4), .val (.int f5), .val (.int f6), .val (.int f7), .val (.int f8), .val (.int f9), .val (.ref r1), .unset, .unset, .unset, .unset, .unset, .unset, .unset, .unset, .unset, .unset, .unset, .unset, .unset, .unset, .unset, .unset, .unset, .unset, .unset] [(.ref bb)])) _
      refine XS.dup X441.here hx rfl (hb hby at_111) rfl rfl ?_
      show Steps p.tables e below (T441.setTop (mkF m 112 #[.val (.int p0), .val (.int p1), .val (.int p2), .val (.int p3), .val (.int p4), .val (.int f5), .val (.int f6), .val (.int f7), .val (.int f8), .val (.int f9), .val (.ref r1), .unset, .unset, .unset, .unset, .unset, .unset, .unset, .unset, .unset, .unset, .unset, .unset, .unset, .unset, .unset, .unset, .unset, .unset, .unset] [(.ref bb), (.ref bb)])) _
      refine XS.iconst X441.here hx rfl (hb hby at_112) ?_
      show Steps p.tables e below (T441.setTop (mkF m 113 #[.val (.int p0), .val (.int p1), .val (.int p2), .val (.int p3), .val (.int p4), .val (.int f5), .val (.int f6), .val (.int f7), .val (.int f8), .val (.int f9), .val (.ref r1), .unset, .unset, .unset, .unset, .unset, .unset, .unset, .unset, .unset, .unset, .unset, .unset, .unset, .unset, .unset, .unset, .unset, .unset, .unset] [(.int (0 : Int32)), (.ref bb), (.ref bb)])) _
      refine XS.iloadN X441.here hx rfl (hb hby at_113) rfl ?_
      show Steps p.tables e below (T441.setTop (mkF m 114 #[.val (.int p0), .val (.int p1), .val (.int p2), .val (.int p3), .val (.int p4), .val (.int f5), .val (.int f6), .val (.int f7), .val (.int f8), .val (.int f9), .val (.ref r1), .unset, .unset, .unset, .unset, .unset, .unset, .unset, .unset, .unset, .unset, .unset, .unset, .unset, .unset, .unset, .unset, .unset, .unset, .unset] [(.int p1), (.int (0 : Int32)), (.ref bb), (.ref bb)])) _
      refine XS.i2dS X441.here hx rfl (v := (FP.i2d p1)) (hb hby at_114) rfl rfl ?_
      show Steps p.tables e below (T441.setTop (mkF m 115 #[.val (.int p0), .val (.int p1), .val (.int p2), .val (.int p3), .val (.int p4), .val (.int f5), .val (.int f6), .val (.int f7), .val (.int f8), .val (.int f9), .val (.ref r1), .unset, .unset, .unset, .unset, .unset, .unset, .unset, .unset, .unset, .unset, .unset, .unset, .unset, .unset, .unset, .unset, .unset, .unset, .unset] [(.double (FP.i2d p1)), (.int (0 : Int32)), (.ref bb), (.ref bb)])) _
      refine st444 _ ?_
      show Steps p.tables e below (T444.setTop (mkF m 116 #[.val (.int p0), .val (.int p1), .val (.int p2), .val (.int p3), .val (.int p4), .val (.int f5), .val (.int f6), .val (.int f7), .val (.int f8), .val (.int f9), .val (.ref r1), .unset, .unset, .unset, .unset, .unset, .unset, .unset, .unset, .unset, .unset, .unset, .unset, .unset, .unset, .unset, .unset, .unset, .unset, .unset] [(.ref bb)])) _
      refine XS.dup X444.here hx rfl (hb hby at_116) rfl rfl ?_
      show Steps p.tables e below (T444.setTop (mkF m 117 #[.val (.int p0), .val (.int p1), .val (.int p2), .val (.int p3), .val (.int p4), .val (.int f5), .val (.int f6), .val (.int f7), .val (.int f8), .val (.int f9), .val (.ref r1), .unset, .unset, .unset, .unset, .unset, .unset, .unset, .unset, .unset, .unset, .unset, .unset, .unset, .unset, .unset, .unset, .unset, .unset, .unset] [(.ref bb), (.ref bb)])) _
      refine XS.iconst X444.here hx rfl (hb hby at_117) ?_
      show Steps p.tables e below (T444.setTop (mkF m 118 #[.val (.int p0), .val (.int p1), .val (.int p2), .val (.int p3), .val (.int p4), .val (.int f5), .val (.int f6), .val (.int f7), .val (.int f8), .val (.int f9), .val (.ref r1), .unset, .unset, .unset, .unset, .unset, .unset, .unset, .unset, .unset, .unset, .unset, .unset, .unset, .unset, .unset, .unset, .unset, .unset, .unset] [(.int (1 : Int32)), (.ref bb), (.ref bb)])) _
      refine XS.iloadN X444.here hx rfl (hb hby at_118) rfl ?_
      show Steps p.tables e below (T444.setTop (mkF m 119 #[.val (.int p0), .val (.int p1), .val (.int p2), .val (.int p3), .val (.int p4), .val (.int f5), .val (.int f6), .val (.int f7), .val (.int f8), .val (.int f9), .val (.ref r1), .unset, .unset, .unset, .unset, .unset, .unset, .unset, .unset, .unset, .unset, .unset, .unset, .unset, .unset, .unset, .unset, .unset, .unset, .unset] [(.int p0), (.int (1 : Int32)), (.ref bb), (.ref bb)])) _
      refine XS.i2dS X444.here hx rfl (v := (FP.i2d p0)) (hb hby at_119) rfl rfl ?_
      show Steps p.tables e below (T444.setTop (mkF m 120 #[.val (.int p0), .val (.int p1), .val (.int p2), .val (.int p3), .val (.int p4), .val (.int f5), .val (.int f6), .val (.int f7), .val (.int f8), .val (.int f9), .val (.ref r1), .unset, .unset, .unset, .unset, .unset, .unset, .unset, .unset, .unset, .unset, .unset, .unset, .unset, .unset, .unset, .unset, .unset, .unset, .unset] [(.double (FP.i2d p0)), (.int (1 : Int32)), (.ref bb), (.ref bb)])) _
      refine st447 _ ?_
      show Steps p.tables e below (T447.setTop (mkF m 121 #[.val (.int p0), .val (.int p1), .val (.int p2), .val (.int p3), .val (.int p4), .val (.int f5), .val (.int f6), .val (.int f7), .val (.int f8), .val (.int f9), .val (.ref r1), .unset, .unset, .unset, .unset, .unset, .unset, .unset, .unset, .unset, .unset, .unset, .unset, .unset, .unset, .unset, .unset, .unset, .unset, .unset] [(.ref bb)])) _
      refine XS.goto X447.here hx rfl (pc0 := 121) (pc' := 132) rfl (hb hby at_121) (by decide) (by decide) ?_
      show Steps p.tables e below (T447.setTop (mkF m 132 #[.val (.int p0), .val (.int p1), .val (.int p2), .val (.int p3), .val (.int p4), .val (.int f5), .val (.int f6), .val (.int f7), .val (.int f8), .val (.int f9), .val (.ref r1), .unset, .unset, .unset, .unset, .unset, .unset, .unset, .unset, .unset, .unset, .unset, .unset, .unset, .unset, .unset, .unset, .unset, .unset, .unset] [(.ref bb)])) _
      refine XS.astore X447.here hx rfl (hb hby at_132) rfl rfl (l' := #[.val (.int p0), .val (.int p1), .val (.int p2), .val (.int p3), .val (.int p4), .val (.int f5), .val (.int f6), .val (.int f7), .val (.int f8), .val (.int f9), .val (.ref r1), .val (.ref bb), .unset, .unset, .unset, .unset, .unset, .unset, .unset, .unset, .unset, .unset, .unset, .unset, .unset, .unset, .unset, .unset, .unset, .unset]) rfl ?_
      show Steps p.tables e below (T447.setTop (mkF m 134 #[.val (.int p0), .val (.int p1), .val (.int p2), .val (.int p3), .val (.int p4), .val (.int f5), .val (.int f6), .val (.int f7), .val (.int f8), .val (.int f9), .val (.ref r1), .val (.ref bb), .unset, .unset, .unset, .unset, .unset, .unset, .unset, .unset, .unset, .unset, .unset, .unset, .unset, .unset, .unset, .unset, .unset, .unset] [])) _
      exact kt
  have lt_r1_r2 : (r1 : Nat) < r2 := Nat.lt_of_lt_of_le R417.lt z434
  have ge_r2 : n0 ≤ r2 := Nat.le_trans Z433 z434
  have Z450 : n0 ≤ h434.size := Nat.le_trans Z433 K434.1
  have f451 := (R417.keep K434 nin0)
  obtain ⟨T452, h452, r3, L452, X452, e452, N452, K452, z452, R452, st452⟩ : ∃ (T' : State) (h' : Heap) (b : Nat) (L' : List Loc), Stand p l e room_1 s m #[(.int p0), (.int p1), (.int p2), (.int p3), (.int p4)] below meth c T' L' 3 6 ∧ T'.heap = h' ∧ Fr n0 L' ∧ Keep h434 h' [] ∧ h434.size ≤ b ∧ own_row Z h' b f9 p2 p1 ∧ ∀ target, Steps p.tables e below (T'.setTop (mkF m 165 #[.val (.int p0), .val (.int p1), .val (.int p2), .val (.int p3), .val (.int p4), .val (.int f5), .val (.int f6), .val (.int f7), .val (.int f8), .val (.int f9), .val (.ref r1), .val (.ref r2), .val (.ref b), .unset, .unset, .unset, .unset, .unset, .unset, .unset, .unset, .unset, .unset, .unset, .unset, .unset, .unset, .unset, .unset, .unset] [])) target → Steps p.tables e below (T434.setTop (mkF m 134 #[.val (.int p0), .val (.int p1), .val (.int p2), .val (.int p3), .val (.int p4), .val (.int f5), .val (.int f6), .val (.int f7), .val (.int f8), .val (.int f9), .val (.ref r1), .val (.ref r2), .unset, .unset, .unset, .unset, .unset, .unset, .unset, .unset, .unset, .unset, .unset, .unset, .unset, .unset, .unset, .unset, .unset, .unset] [])) target := by
    by_cases hw0 : f9 = (0 : Int32)
    · have gz := Z450
      obtain ⟨T453, h453, k453, X453, e453, E453, A453, st453⟩ := newP X434 hx hZ (hw _ (List.mem_of_getElem? (i := 0) rfl)) e434 (g := (mkF m 156 #[.val (.int p0), .val (.int p1), .val (.int p2), .val (.int p3), .val (.int p4), .val (.int f5), .val (.int f6), .val (.int f7), .val (.int f8), .val (.int f9), .val (.ref r1), .val (.ref r2), .unset, .unset, .unset, .unset, .unset, .unset, .unset, .unset, .unset, .unset, .unset, .unset, .unset, .unset, .unset, .unset, .unset, .unset] [(.int (1 : Int32))])) rfl (hb hby at_156) rfl (by decide) (cap := 1) (by decide) (by decide) (by decide) (by decide)
      obtain ⟨bb, g453⟩ : ∃ z, z = h434.size := ⟨_, rfl⟩
      rw [← g453] at A453 st453
      have sz_h434_bb : h434.size ≤ (bb : Nat) := by rw [g453]; exact (Keep.refl h434 []).1
      have f454 : Arv Z h453 bb k453 .double (1 : Int32) [(.double (FP.l2d 0))] (.double (FP.l2d 0)) := (Arv.newD A453 (by decide)).pad (pad_rep [] (.double (FP.l2d 0)) 1)
      obtain ⟨cl455, Ar455, q455, S455, M455, Hh455, G455⟩ := id f454
      obtain ⟨T456, h456, X456, e456, W456, st456⟩ := stD X453 hx hZ e453 Ar455 (j := (0 : Int32)) (inb_of S455 ⟨by decide, by decide⟩) (g := (mkF m 162 #[.val (.int p0), .val (.int p1), .val (.int p2), .val (.int p3), .val (.int p4), .val (.int f5), .val (.int f6), .val (.int f7), .val (.int f8), .val (.int f9), .val (.ref r1), .val (.ref r2), .unset, .unset, .unset, .unset, .unset, .unset, .unset, .unset, .unset, .unset, .unset, .unset, .unset, .unset, .unset, .unset, .unset, .unset] [(.double (FP.i2d p2)), (.int (0 : Int32)), (.ref bb), (.ref bb)])) rfl rfl (hb hby at_162)
      have f457 : Arv Z h456 bb k453 .double (1 : Int32) [(.double (FP.i2d p2))] (.double (FP.l2d 0)) := Arv.set Ar455 q455 S455 M455 Hh455 G455 rfl W456 0 rfl (Nat.le_of_ble_eq_true rfl)
      have N456 := Fr.snoc X456 N434 (by omega : n0 ≤ (bb : Nat))
      have f458 := (((Keep.refl h434 []).ext E453).wr W456 (Or.inr (by omega : h434.size ≤ (bb : Nat))))
      refine ⟨T456, _, bb, _, X456.more (Nat.le_refl _) (by decide), e456, N456, f458, sz_h434_bb, Or.inl ⟨hw0, k453, f457⟩, fun target kt => ?_⟩
      show Steps p.tables e below (T434.setTop (mkF m 134 #[.val (.int p0), .val (.int p1), .val (.int p2), .val (.int p3), .val (.int p4), .val (.int f5), .val (.int f6), .val (.int f7), .val (.int f8), .val (.int f9), .val (.ref r1), .val (.ref r2), .unset, .unset, .unset, .unset, .unset, .unset, .unset, .unset, .unset, .unset, .unset, .unset, .unset, .unset, .unset, .unset, .unset, .unset] [])) _
      refine XS.iload X434.here hx rfl (hb hby at_134) rfl ?_
      show Steps p.tables e below (T434.setTop (mkF m 136 #[.val (.int p0), .val (.int p1), .val (.int p2), .val (.int p3), .val (.int p4), .val (.int f5), .val (.int f6), .val (.int f7), .val (.int f8), .val (.int f9), .val (.ref r1), .val (.ref r2), .unset, .unset, .unset, .unset, .unset, .unset, .unset, .unset, .unset, .unset, .unset, .unset, .unset, .unset, .unset, .unset, .unset, .unset] [(.int f9)])) _
      refine XS.ifYes X434.here hx rfl (pc0 := 136) (pc' := 155) rfl (hb hby at_136) rfl ((if0 _ _).trans (teq hw0).1) (by decide) (by decide) ?_
      show Steps p.tables e below (T434.setTop (mkF m 155 #[.val (.int p0), .val (.int p1), .val (.int p2), .val (.int p3), .val (.int p4), .val (.int f5), .val (.int f6), .val (.int f7), .val (.int f8), .val (.int f9), .val (.ref r1), .val (.ref r2), .unset, .unset, .unset, .unset, .unset, .unset, .unset, .unset, .unset, .unset, .unset, .unset, .unset, .unset, .unset, .unset, .unset, .unset] [])) _
      refine XS.iconst X434.here hx rfl (hb hby at_155) ?_
      show Steps p.tables e below (T434.setTop (mkF m 156 #[.val (.int p0), .val (.int p1), .val (.int p2), .val (.int p3), .val (.int p4), .val (.int f5), .val (.int f6), .val (.int f7), .val (.int f8), .val (.int f9), .val (.ref r1), .val (.ref r2), .unset, .unset, .unset, .unset, .unset, .unset, .unset, .unset, .unset, .unset, .unset, .unset, .unset, .unset, .unset, .unset, .unset, .unset] [(.int (1 : Int32))])) _
      refine st453 _ ?_
      show Steps p.tables e below (T453.setTop (mkF m 158 #[.val (.int p0), .val (.int p1), .val (.int p2), .val (.int p3), .val (.int p4), .val (.int f5), .val (.int f6), .val (.int f7), .val (.int f8), .val (.int f9), .val (.ref r1), .val (.ref r2), .unset, .unset, .unset, .unset, .unset, .unset, .unset, .unset, .unset, .unset, .unset, .unset, .unset, .unset, .unset, .unset, .unset, .unset] [(.ref bb)])) _
      refine XS.dup X453.here hx rfl (hb hby at_158) rfl rfl ?_
      show Steps p.tables e below (T453.setTop (mkF m 159 #[.val (.int p0), .val (.int p1), .val (.int p2), .val (.int p3), .val (.int p4), .val (.int f5), .val (.int f6), .val (.int f7), .val (.int f8), .val (.int f9), .val (.ref r1), .val (.ref r2), .unset, .unset, .unset, .unset, .unset, .unset, .unset, .unset, .unset, .unset, .unset, .unset, .unset, .unset, .unset, .unset, .unset, .unset] [(.ref bb), (.ref bb)])) _
      refine XS.iconst X453.here hx rfl (hb hby at_159) ?_
      show Steps p.tables e below (T453.setTop (mkF m 160 #[.val (.int p0), .val (.int p1), .val (.int p2), .val (.int p3), .val (.int p4), .val (.int f5), .val (.int f6), .val (.int f7), .val (.int f8), .val (.int f9), .val (.ref r1), .val (.ref r2), .unset, .unset, .unset, .unset, .unset, .unset, .unset, .unset, .unset, .unset, .unset, .unset, .unset, .unset, .unset, .unset, .unset, .unset] [(.int (0 : Int32)), (.ref bb), (.ref bb)])) _
      refine XS.iloadN X453.here hx rfl (hb hby at_160) rfl ?_
      show Steps p.tables e below (T453.setTop (mkF m 161 #[.val (.int p0), .val (.int p1), .val (.int p2), .val (.int p3), .val (.int p4), .val (.int f5), .val (.int f6), .val (.int f7), .val (.int f8), .val (.int f9), .val (.ref r1), .val (.ref r2), .unset, .unset, .unset, .unset, .unset, .unset, .unset, .unset, .unset, .unset, .unset, .unset, .unset, .unset, .unset, .unset, .unset, .unset] [(.int p2), (.int (0 : Int32)), (.ref bb), (.ref bb)])) _
      refine XS.i2dS X453.here hx rfl (v := (FP.i2d p2)) (hb hby at_161) rfl rfl ?_
      show Steps p.tables e below (T453.setTop (mkF m 162 #[.val (.int p0), .val (.int p1), .val (.int p2), .val (.int p3), .val (.int p4), .val (.int f5), .val (.int f6), .val (.int f7), .val (.int f8), .val (.int f9), .val (.ref r1), .val (.ref r2), .unset, .unset, .unset, .unset, .unset, .unset, .unset, .unset, .unset, .unset, .unset, .unset, .unset, .unset, .unset, .unset, .unset, .unset] [(.double (FP.i2d p2)), (.int (0 : Int32)), (.ref bb), (.ref bb)])) _
      refine st456 _ ?_
      show Steps p.tables e below (T456.setTop (mkF m 163 #[.val (.int p0), .val (.int p1), .val (.int p2), .val (.int p3), .val (.int p4), .val (.int f5), .val (.int f6), .val (.int f7), .val (.int f8), .val (.int f9), .val (.ref r1), .val (.ref r2), .unset, .unset, .unset, .unset, .unset, .unset, .unset, .unset, .unset, .unset, .unset, .unset, .unset, .unset, .unset, .unset, .unset, .unset] [(.ref bb)])) _
      refine XS.astore X456.here hx rfl (hb hby at_163) rfl rfl (l' := #[.val (.int p0), .val (.int p1), .val (.int p2), .val (.int p3), .val (.int p4), .val (.int f5), .val (.int f6), .val (.int f7), .val (.int f8), .val (.int f9), .val (.ref r1), .val (.ref r2), .val (.ref bb), .unset, .unset, .unset, .unset, .unset, .unset, .unset, .unset, .unset, .unset, .unset, .unset, .unset, .unset, .unset, .unset, .unset]) rfl ?_
      show Steps p.tables e below (T456.setTop (mkF m 165 #[.val (.int p0), .val (.int p1), .val (.int p2), .val (.int p3), .val (.int p4), .val (.int f5), .val (.int f6), .val (.int f7), .val (.int f8), .val (.int f9), .val (.ref r1), .val (.ref r2), .val (.ref bb), .unset, .unset, .unset, .unset, .unset, .unset, .unset, .unset, .unset, .unset, .unset, .unset, .unset, .unset, .unset, .unset, .unset] [])) _
      exact kt
    · have gz := Z450
      obtain ⟨T459, h459, k459, X459, e459, E459, A459, st459⟩ := newP X434 hx hZ (hw _ (List.mem_of_getElem? (i := 0) rfl)) e434 (g := (mkF m 140 #[.val (.int p0), .val (.int p1), .val (.int p2), .val (.int p3), .val (.int p4), .val (.int f5), .val (.int f6), .val (.int f7), .val (.int f8), .val (.int f9), .val (.ref r1), .val (.ref r2), .unset, .unset, .unset, .unset, .unset, .unset, .unset, .unset, .unset, .unset, .unset, .unset, .unset, .unset, .unset, .unset, .unset, .unset] [(.int (2 : Int32))])) rfl (hb hby at_140) rfl (by decide) (cap := 2) (by decide) (by decide) (by decide) (by decide)
      obtain ⟨bb, g459⟩ : ∃ z, z = h434.size := ⟨_, rfl⟩
      rw [← g459] at A459 st459
      have sz_h434_bb : h434.size ≤ (bb : Nat) := by rw [g459]; exact (Keep.refl h434 []).1
      have f460 : Arv Z h459 bb k459 .double (2 : Int32) [(.double (FP.l2d 0)), (.double (FP.l2d 0))] (.double (FP.l2d 0)) := (Arv.newD A459 (by decide)).pad (pad_rep [] (.double (FP.l2d 0)) 2)
      obtain ⟨cl461, Ar461, q461, S461, M461, Hh461, G461⟩ := id f460
      obtain ⟨T462, h462, X462, e462, W462, st462⟩ := stD X459 hx hZ e459 Ar461 (j := (0 : Int32)) (inb_of S461 ⟨by decide, by decide⟩) (g := (mkF m 146 #[.val (.int p0), .val (.int p1), .val (.int p2), .val (.int p3), .val (.int p4), .val (.int f5), .val (.int f6), .val (.int f7), .val (.int f8), .val (.int f9), .val (.ref r1), .val (.ref r2), .unset, .unset, .unset, .unset, .unset, .unset, .unset, .unset, .unset, .unset, .unset, .unset, .unset, .unset, .unset, .unset, .unset, .unset] [(.double (FP.i2d p2)), (.int (0 : Int32)), (.ref bb), (.ref bb)])) rfl rfl (hb hby at_146)
      have f463 : Arv Z h462 bb k459 .double (2 : Int32) [(.double (FP.i2d p2)), (.double (FP.l2d 0))] (.double (FP.l2d 0)) := Arv.set Ar461 q461 S461 M461 Hh461 G461 rfl W462 0 rfl (Nat.le_of_ble_eq_true rfl)
      have N462 := Fr.snoc X462 N434 (by omega : n0 ≤ (bb : Nat))
      obtain ⟨cl464, Ar464, q464, S464, M464, Hh464, G464⟩ := id f463
      obtain ⟨T465, h465, X465, e465, W465, st465⟩ := stD X462 hx hZ e462 Ar464 (j := (1 : Int32)) (inb_of S464 ⟨by decide, by decide⟩) (g := (mkF m 151 #[.val (.int p0), .val (.int p1), .val (.int p2), .val (.int p3), .val (.int p4), .val (.int f5), .val (.int f6), .val (.int f7), .val (.int f8), .val (.int f9), .val (.ref r1), .val (.ref r2), .unset, .unset, .unset, .unset, .unset, .unset, .unset, .unset, .unset, .unset, .unset, .unset, .unset, .unset, .unset, .unset, .unset, .unset] [(.double (FP.i2d p1)), (.int (1 : Int32)), (.ref bb), (.ref bb)])) rfl rfl (hb hby at_151)
      have f466 : Arv Z h465 bb k459 .double (2 : Int32) [(.double (FP.i2d p2)), (.double (FP.i2d p1))] (.double (FP.l2d 0)) := Arv.set Ar464 q464 S464 M464 Hh464 G464 rfl W465 1 rfl (Nat.le_of_ble_eq_true rfl)
      have N465 := Fr.snoc X465 N462 (by omega : n0 ≤ (bb : Nat))
      have f467 := ((((Keep.refl h434 []).ext E459).wr W462 (Or.inr (by omega : h434.size ≤ (bb : Nat)))).wr W465 (Or.inr (by omega : h434.size ≤ (bb : Nat))))
      refine ⟨T465, _, bb, _, X465, e465, N465, f467, sz_h434_bb, Or.inr ⟨hw0, k459, f466⟩, fun target kt => ?_⟩
      show Steps p.tables e below (T434.setTop (mkF m 134 #[.val (.int p0), .val (.int p1), .val (.int p2), .val (.int p3), .val (.int p4), .val (.int f5), .val (.int f6), .val (.int f7), .val (.int f8), .val (.int f9), .val (.ref r1), .val (.ref r2), .unset, .unset, .unset, .unset, .unset, .unset, .unset, .unset, .unset, .unset, .unset, .unset, .unset, .unset, .unset, .unset, .unset, .unset] [])) _
      refine XS.iload X434.here hx rfl (hb hby at_134) rfl ?_
      show Steps p.tables e below (T434.setTop (mkF m 136 #[.val (.int p0), .val (.int p1), .val (.int p2), .val (.int p3), .val (.int p4), .val (.int f5), .val (.int f6), .val (.int f7), .val (.int f8), .val (.int f9), .val (.ref r1), .val (.ref r2), .unset, .unset, .unset, .unset, .unset, .unset, .unset, .unset, .unset, .unset, .unset, .unset, .unset, .unset, .unset, .unset, .unset, .unset] [(.int f9)])) _
      refine XS.ifNo X434.here hx rfl (hb hby at_136) rfl ((if0 _ _).trans (feq hw0).1) ?_
      show Steps p.tables e below (T434.setTop (mkF m 139 #[.val (.int p0), .val (.int p1), .val (.int p2), .val (.int p3), .val (.int p4), .val (.int f5), .val (.int f6), .val (.int f7), .val (.int f8), .val (.int f9), .val (.ref r1), .val (.ref r2), .unset, .unset, .unset, .unset, .unset, .unset, .unset, .unset, .unset, .unset, .unset, .unset, .unset, .unset, .unset, .unset, .unset, .unset] [])) _
      refine XS.iconst X434.here hx rfl (hb hby at_139) ?_
      show Steps p.tables e below (T434.setTop (mkF m 140 #[.val (.int p0), .val (.int p1), .val (.int p2), .val (.int p3), .val (.int p4), .val (.int f5), .val (.int f6), .val (.int f7), .val (.int f8), .val (.int f9), .val (.ref r1), .val (.ref r2), .unset, .unset, .unset, .unset, .unset, .unset, .unset, .unset, .unset, .unset, .unset, .unset, .unset, .unset, .unset, .unset, .unset, .unset] [(.int (2 : Int32))])) _
      refine st459 _ ?_
      show Steps p.tables e below (T459.setTop (mkF m 142 #[.val (.int p0), .val (.int p1), .val (.int p2), .val (.int p3), .val (.int p4), .val (.int f5), .val (.int f6), .val (.int f7), .val (.int f8), .val (.int f9), .val (.ref r1), .val (.ref r2), .unset, .unset, .unset, .unset, .unset, .unset, .unset, .unset, .unset, .unset, .unset, .unset, .unset, .unset, .unset, .unset, .unset, .unset] [(.ref bb)])) _
      refine XS.dup X459.here hx rfl (hb hby at_142) rfl rfl ?_
      show Steps p.tables e below (T459.setTop (mkF m 143 #[.val (.int p0), .val (.int p1), .val (.int p2), .val (.int p3), .val (.int p4), .val (.int f5), .val (.int f6), .val (.int f7), .val (.int f8), .val (.int f9), .val (.ref r1), .val (.ref r2), .unset, .unset, .unset, .unset, .unset, .unset, .unset, .unset, .unset, .unset, .unset, .unset, .unset, .unset, .unset, .unset, .unset, .unset] [(.ref bb), (.ref bb)])) _
      refine XS.iconst X459.here hx rfl (hb hby at_143) ?_
      show Steps p.tables e below (T459.setTop (mkF m 144 #[.val (.int p0), .val (.int p1), .val (.int p2), .val (.int p3), .val (.int p4), .val (.int f5), .val (.int f6), .val (.int f7), .val (.int f8), .val (.int f9), .val (.ref r1), .val (.ref r2), .unset, .unset, .unset, .unset, .unset, .unset, .unset, .unset, .unset, .unset, .unset, .unset, .unset, .unset, .unset, .unset, .unset, .unset] [(.int (0 : Int32)), (.ref bb), (.ref bb)])) _
      refine XS.iloadN X459.here hx rfl (hb hby at_144) rfl ?_
      show Steps p.tables e below (T459.setTop (mkF m 145 #[.val (.int p0), .val (.int p1), .val (.int p2), .val (.int p3), .val (.int p4), .val (.int f5), .val (.int f6), .val (.int f7), .val (.int f8), .val (.int f9), .val (.ref r1), .val (.ref r2), .unset, .unset, .unset, .unset, .unset, .unset, .unset, .unset, .unset, .unset, .unset, .unset, .unset, .unset, .unset, .unset, .unset, .unset] [(.int p2), (.int (0 : Int32)), (.ref bb), (.ref bb)])) _
      refine XS.i2dS X459.here hx rfl (v := (FP.i2d p2)) (hb hby at_145) rfl rfl ?_
      show Steps p.tables e below (T459.setTop (mkF m 146 #[.val (.int p0), .val (.int p1), .val (.int p2), .val (.int p3), .val (.int p4), .val (.int f5), .val (.int f6), .val (.int f7), .val (.int f8), .val (.int f9), .val (.ref r1), .val (.ref r2), .unset, .unset, .unset, .unset, .unset, .unset, .unset, .unset, .unset, .unset, .unset, .unset, .unset, .unset, .unset, .unset, .unset, .unset] [(.double (FP.i2d p2)), (.int (0 : Int32)), (.ref bb), (.ref bb)])) _
      refine st462 _ ?_
      show Steps p.tables e below (T462.setTop (mkF m 147 #[.val (.int p0), .val (.int p1), .val (.int p2), .val (.int p3), .val (.int p4), .val (.int f5), .val (.int f6), .val (.int f7), .val (.int f8), .val (.int f9), .val (.ref r1), .val (.ref r2), .unset, .unset, .unset, .unset, .unset, .unset, .unset, .unset, .unset, .unset, .unset, .unset, .unset, .unset, .unset, .unset, .unset, .unset] [(.ref bb)])) _
      refine XS.dup X462.here hx rfl (hb hby at_147) rfl rfl ?_
      show Steps p.tables e below (T462.setTop (mkF m 148 #[.val (.int p0), .val (.int p1), .val (.int p2), .val (.int p3), .val (.int p4), .val (.int f5), .val (.int f6), .val (.int f7), .val (.int f8), .val (.int f9), .val (.ref r1), .val (.ref r2), .unset, .unset, .unset, .unset, .unset, .unset, .unset, .unset, .unset, .unset, .unset, .unset, .unset, .unset, .unset, .unset, .unset, .unset] [(.ref bb), (.ref bb)])) _
      refine XS.iconst X462.here hx rfl (hb hby at_148) ?_
      show Steps p.tables e below (T462.setTop (mkF m 149 #[.val (.int p0), .val (.int p1), .val (.int p2), .val (.int p3), .val (.int p4), .val (.int f5), .val (.int f6), .val (.int f7), .val (.int f8), .val (.int f9), .val (.ref r1), .val (.ref r2), .unset, .unset, .unset, .unset, .unset, .unset, .unset, .unset, .unset, .unset, .unset, .unset, .unset, .unset, .unset, .unset, .unset, .unset] [(.int (1 : Int32)), (.ref bb), (.ref bb)])) _
      refine XS.iloadN X462.here hx rfl (hb hby at_149) rfl ?_
      show Steps p.tables e below (T462.setTop (mkF m 150 #[.val (.int p0), .val (.int p1), .val (.int p2), .val (.int p3), .val (.int p4), .val (.int f5), .val (.int f6), .val (.int f7), .val (.int f8), .val (.int f9), .val (.ref r1), .val (.ref r2), .unset, .unset, .unset, .unset, .unset, .unset, .unset, .unset, .unset, .unset, .unset, .unset, .unset, .unset, .unset, .unset, .unset, .unset] [(.int p1), (.int (1 : Int32)), (.ref bb), (.ref bb)])) _
      refine XS.i2dS X462.here hx rfl (v := (FP.i2d p1)) (hb hby at_150) rfl rfl ?_
      show Steps p.tables e below (T462.setTop (mkF m 151 #[.val (.int p0), .val (.int p1), .val (.int p2), .val (.int p3), .val (.int p4), .val (.int f5), .val (.int f6), .val (.int f7), .val (.int f8), .val (.int f9), .val (.ref r1), .val (.ref r2), .unset, .unset, .unset, .unset, .unset, .unset, .unset, .unset, .unset, .unset, .unset, .unset, .unset, .unset, .unset, .unset, .unset, .unset] [(.double (FP.i2d p1)), (.int (1 : Int32)), (.ref bb), (.ref bb)])) _
      refine st465 _ ?_
      show Steps p.tables e below (T465.setTop (mkF m 152 #[.val (.int p0), .val (.int p1), .val (.int p2), .val (.int p3), .val (.int p4), .val (.int f5), .val (.int f6), .val (.int f7), .val (.int f8), .val (.int f9), .val (.ref r1), .val (.ref r2), .unset, .unset, .unset, .unset, .unset, .unset, .unset, .unset, .unset, .unset, .unset, .unset, .unset, .unset, .unset, .unset, .unset, .unset] [(.ref bb)])) _
      refine XS.goto X465.here hx rfl (pc0 := 152) (pc' := 163) rfl (hb hby at_152) (by decide) (by decide) ?_
      show Steps p.tables e below (T465.setTop (mkF m 163 #[.val (.int p0), .val (.int p1), .val (.int p2), .val (.int p3), .val (.int p4), .val (.int f5), .val (.int f6), .val (.int f7), .val (.int f8), .val (.int f9), .val (.ref r1), .val (.ref r2), .unset, .unset, .unset, .unset, .unset, .unset, .unset, .unset, .unset, .unset, .unset, .unset, .unset, .unset, .unset, .unset, .unset, .unset] [(.ref bb)])) _
      refine XS.astore X465.here hx rfl (hb hby at_163) rfl rfl (l' := #[.val (.int p0), .val (.int p1), .val (.int p2), .val (.int p3), .val (.int p4), .val (.int f5), .val (.int f6), .val (.int f7), .val (.int f8), .val (.int f9), .val (.ref r1), .val (.ref r2), .val (.ref bb), .unset, .unset, .unset, .unset, .unset, .unset, .unset, .unset, .unset, .unset, .unset, .unset, .unset, .unset, .unset, .unset, .unset]) rfl ?_
      show Steps p.tables e below (T465.setTop (mkF m 165 #[.val (.int p0), .val (.int p1), .val (.int p2), .val (.int p3), .val (.int p4), .val (.int f5), .val (.int f6), .val (.int f7), .val (.int f8), .val (.int f9), .val (.ref r1), .val (.ref r2), .val (.ref bb), .unset, .unset, .unset, .unset, .unset, .unset, .unset, .unset, .unset, .unset, .unset, .unset, .unset, .unset, .unset, .unset, .unset] [])) _
      exact kt
  have lt_r1_r3 : (r1 : Nat) < r3 := Nat.lt_of_lt_of_le f451.lt z452
  have lt_r2_r3 : (r2 : Nat) < r3 := Nat.lt_of_lt_of_le R434.lt z452
  have ge_r3 : n0 ≤ r3 := Nat.le_trans Z450 z452
  have Z468 : n0 ≤ h452.size := Nat.le_trans Z450 K452.1
  have f469 := (f451.keep K452 nin0)
  have f470 := (R434.keep K452 nin0)
  obtain ⟨T471, h471, X471, e471, E471, A471, D471, -, st471⟩ := newO X452 hx hZ hown (hw _ (List.mem_of_getElem? (i := 1) rfl)) (hw _ (List.mem_of_getElem? (i := 2) rfl)) (hw _ (List.mem_of_getElem? (i := 3) rfl)) e452 (g := (mkF m 165 #[.val (.int p0), .val (.int p1), .val (.int p2), .val (.int p3), .val (.int p4), .val (.int f5), .val (.int f6), .val (.int f7), .val (.int f8), .val (.int f9), .val (.ref r1), .val (.ref r2), .val (.ref r3), .unset, .unset, .unset, .unset, .unset, .unset, .unset, .unset, .unset, .unset, .unset, .unset, .unset, .unset, .unset, .unset, .unset] [])) rfl (hb hby at_165) (by decide) (by decide)
  obtain ⟨ta, g471⟩ : ∃ z, z = h452.size := ⟨_, rfl⟩
  rw [← g471] at A471 D471 st471
  have lt_r1_ta : (r1 : Nat) < ta := by rw [g471]; exact f469.lt
  have lt_r2_ta : (r2 : Nat) < ta := by rw [g471]; exact f470.lt
  have lt_r3_ta : (r3 : Nat) < ta := by rw [g471]; exact R452.lt
  have f472 : Fld Z h471 ta "com/example/outcry/outcry/core/Tally" "total" "[D" .null := D471 (Or.inr (hw _ (List.mem_of_getElem? (i := 11) rfl))) (ty := (.array .double)) (by decide)
  have f473 : Fld Z h471 ta "com/example/outcry/outcry/core/Tally" "count" "[J" .null := D471 (Or.inr (hw _ (List.mem_of_getElem? (i := 14) rfl))) (ty := (.array .long)) (by decide)
  have f474 : Fld Z h471 ta "com/example/outcry/outcry/core/Tally" "runsObserved" "[J" .null := D471 (Or.inr (hw _ (List.mem_of_getElem? (i := 16) rfl))) (ty := (.array .long)) (by decide)
  have f475 : Fld Z h471 ta "com/example/outcry/outcry/core/Tally" "meanOfRunMeans" "[D" .null := D471 (Or.inr (hw _ (List.mem_of_getElem? (i := 18) rfl))) (ty := (.array .double)) (by decide)
  have f476 : Fld Z h471 ta "com/example/outcry/outcry/core/Tally" "squaredDeviations" "[D" .null := D471 (Or.inr (hw _ (List.mem_of_getElem? (i := 20) rfl))) (ty := (.array .double)) (by decide)
  have ge_ta : n0 ≤ ta := by rw [g471]; exact Z468
  have Z477 : n0 ≤ h471.size := Nat.le_trans Z468 E471.1
  have f478 := (f469.ext E471)
  have f479 := (f470.ext E471)
  have f480 := (R452.ext E471)
  obtain ⟨_, _, ⟨T481, L481, k481, n481⟩, -, X481, ⟨Lc481, hQ481, l481, y481, z481⟩, st481⟩ := X471.specialBack hx (y := (⟨"com/example/outcry/outcry/core/Tally", "<init>", "(I)V"⟩ : MethodName)) rfl hown (mvT hZ (hw _ (List.mem_of_getElem? (i := 4) rfl))) (mvT hZ (hw _ (List.mem_of_getElem? (i := 5) rfl))) (mvT hZ (hw _ (List.mem_of_getElem? (i := 6) rfl))) (by decide) (backOf (W := 1) (rm1 l Z a0 hw [] ta h471 n0 Z477 f472 f473 f474 f475 f476 A471 ge_ta) hZ (hw _ (List.mem_of_getElem? (i := 6) rfl)) (hw _ (List.mem_of_getElem? (i := 3) rfl)) (by decide) (by decide)) (g := (mkF m 170 #[.val (.int p0), .val (.int p1), .val (.int p2), .val (.int p3), .val (.int p4), .val (.int f5), .val (.int f6), .val (.int f7), .val (.int f8), .val (.int f9), .val (.ref r1), .val (.ref r2), .val (.ref r3), .unset, .unset, .unset, .unset, .unset, .unset, .unset, .unset, .unset, .unset, .unset, .unset, .unset, .unset, .unset, .unset, .unset] [(.int (2 : Int32)), (.ref ta), (.ref ta)])) rfl (by rw [hml]; rfl) (Steps.refl _) (a := ta) (argsL := [(.int (2 : Int32))]) (rest := [(.ref ta)]) (lenOf pd_1 rfl) rfl (by show 2 * 0 + _ ≤ _; exact Nat.le_of_eq rfl) (hb hby at_170) (fun _ _ => ⟨rfl, e471, (by decide : 4 + 5 ≤ _), (by decide : 11 + 10 ≤ _)⟩)
  dsimp only [Pt.U, Pt.locs, Pt.cells, Pt.slots] at X481 l481 y481 z481 st481 hQ481
  subst l481 y481 z481
  obtain ⟨tb, cb, rb, mb, qb, k_tb, k_cb, k_rb, k_mb, k_qb, rfl, N481q, K481, Ex_ta, Ff_ta_total, Ff_ta_count, Ff_ta_runsObserved, Ff_ta_meanOfRunMeans, Ff_ta_squaredDeviations, Vf_tb, Vf_cb, Vf_rb, Vf_mb, Vf_qb, zz_tb, lt_tb_cb, lt_cb_rb, lt_rb_mb, lt_mb_qb⟩ := hQ481
  have N481 := Fr.app N452 N481q
  have lt_r1_tb : (r1 : Nat) < tb := Nat.lt_of_lt_of_le f478.lt zz_tb
  have lt_r2_tb : (r2 : Nat) < tb := Nat.lt_of_lt_of_le f479.lt zz_tb
  have lt_r3_tb : (r3 : Nat) < tb := Nat.lt_of_lt_of_le f480.lt zz_tb
  have lt_ta_tb : (ta : Nat) < tb := Nat.lt_of_lt_of_le A471.lt zz_tb
  have Z482 : n0 ≤ T481.heap.size := Nat.le_trans Z477 K481.1
  have f483 := (f478.keep K481 (ninS (by omega : (r1 : Nat) ≠ ta) nin0))
  have f484 := (f479.keep K481 (ninS (by omega : (r2 : Nat) ≠ ta) nin0))
  have f485 := (f480.keep K481 (ninS (by omega : (r3 : Nat) ≠ ta) nin0))
  obtain ⟨T486, h486, X486, e486, E486, A486, D486, -, st486⟩ := newO X481 hx hZ hown (hw _ (List.mem_of_getElem? (i := 21) rfl)) (hw _ (List.mem_of_getElem? (i := 22) rfl)) (hw _ (List.mem_of_getElem? (i := 23) rfl)) rfl (g := (mkF m 175 #[.val (.int p0), .val (.int p1), .val (.int p2), .val (.int p3), .val (.int p4), .val (.int f5), .val (.int f6), .val (.int f7), .val (.int f8), .val (.int f9), .val (.ref r1), .val (.ref r2), .val (.ref r3), .val (.ref ta), .unset, .unset, .unset, .unset, .unset, .unset, .unset, .unset, .unset, .unset, .unset, .unset, .unset, .unset, .unset, .unset] [])) rfl (hb hby at_175) (by decide) (by decide)
  obtain ⟨sa, g486⟩ : ∃ z, z = T481.heap.size := ⟨_, rfl⟩
  rw [← g486] at A486 D486 st486
  have lt_cb_sa : (cb : Nat) < sa := by rw [g486]; exact Vf_cb.lt
  have lt_mb_sa : (mb : Nat) < sa := by rw [g486]; exact Vf_mb.lt
  have lt_qb_sa : (qb : Nat) < sa := by rw [g486]; exact Vf_qb.lt
  have lt_r1_sa : (r1 : Nat) < sa := by rw [g486]; exact f483.lt
  have lt_r2_sa : (r2 : Nat) < sa := by rw [g486]; exact f484.lt
  have lt_r3_sa : (r3 : Nat) < sa := by rw [g486]; exact f485.lt
  have lt_rb_sa : (rb : Nat) < sa := by rw [g486]; exact Vf_rb.lt
  have lt_ta_sa : (ta : Nat) < sa := by rw [g486]; exact Ex_ta.lt
  have lt_tb_sa : (tb : Nat) < sa := by rw [g486]; exact Vf_tb.lt
  have f487 : Fld Z h486 sa "com/example/outcry/outcry/core/Tally$RunSums" "total" "[D" .null := D486 (Or.inr (hw _ (List.mem_of_getElem? (i := 29) rfl))) (ty := (.array .double)) (by decide)
  have f488 : Fld Z h486 sa "com/example/outcry/outcry/core/Tally$RunSums" "count" "[J" .null := D486 (Or.inr (hw _ (List.mem_of_getElem? (i := 31) rfl))) (ty := (.array .long)) (by decide)
  have ge_sa : n0 ≤ sa := by rw [g486]; exact Z482
  have Z489 : n0 ≤ h486.size := Nat.le_trans Z482 E486.1
  have f490 := (Vf_cb.ext E486)
  have f491 := (Vf_mb.ext E486)
  have f492 := (Vf_qb.ext E486)
  have f493 := (f483.ext E486)
  have f494 := (f484.ext E486)
  have f495 := (f485.ext E486)
  have f496 := (Vf_rb.ext E486)
  have f497 := (Ex_ta.ext E486)
  have f498 := (Vf_tb.ext E486)
  obtain ⟨_, _, ⟨T499, L499, k499, n499⟩, -, X499, ⟨Lc499, hQ499, l499, y499, z499⟩, st499⟩ := X486.specialBack hx (y := (⟨"com/example/outcry/outcry/core/Tally$RunSums", "<init>", "(I)V"⟩ : MethodName)) rfl hown (mvT hZ (hw _ (List.mem_of_getElem? (i := 24) rfl))) (mvT hZ (hw _ (List.mem_of_getElem? (i := 25) rfl))) (mvT hZ (hw _ (List.mem_of_getElem? (i := 26) rfl))) (by decide) (backOf (W := 1) (rm2 l Z a0 hw [] sa h486 n0 Z489 f487 f488 A486 ge_sa) hZ (hw _ (List.mem_of_getElem? (i := 26) rfl)) (hw _ (List.mem_of_getElem? (i := 23) rfl)) (by decide) (by decide)) (g := (mkF m 180 #[.val (.int p0), .val (.int p1), .val (.int p2), .val (.int p3), .val (.int p4), .val (.int f5), .val (.int f6), .val (.int f7), .val (.int f8), .val (.int f9), .val (.ref r1), .val (.ref r2), .val (.ref r3), .val (.ref ta), .unset, .unset, .unset, .unset, .unset, .unset, .unset, .unset, .unset, .unset, .unset, .unset, .unset, .unset, .unset, .unset] [(.int (2 : Int32)), (.ref sa), (.ref sa)])) rfl (by rw [hml]; rfl) (Steps.refl _) (a := sa) (argsL := [(.int (2 : Int32))]) (rest := [(.ref sa)]) (lenOf pd_1 rfl) rfl (by show 2 * 0 + _ ≤ _; exact Nat.le_of_eq rfl) (hb hby at_180) (fun _ _ => ⟨rfl, e486, (by decide : 10 + 2 ≤ _), (by decide : 23 + 4 ≤ _)⟩)
  dsimp only [Pt.U, Pt.locs, Pt.cells, Pt.slots] at X499 l499 y499 z499 st499 hQ499
  subst l499 y499 z499
  obtain ⟨st1, sc1, k_st1, k_sc1, rfl, N499q, K499, Ex_sa, Ff_sa_total, Ff_sa_count, Vf_st1, Vf_sc1, zz_st1, lt_st1_sc1⟩ := hQ499
  have N499 := Fr.app N481 N499q
  have lt_cb_st1 : (cb : Nat) < st1 := Nat.lt_of_lt_of_le f490.lt zz_st1
  have lt_mb_st1 : (mb : Nat) < st1 := Nat.lt_of_lt_of_le f491.lt zz_st1
  have lt_qb_st1 : (qb : Nat) < st1 := Nat.lt_of_lt_of_le f492.lt zz_st1
  have lt_r1_st1 : (r1 : Nat) < st1 := Nat.lt_of_lt_of_le f493.lt zz_st1
  have lt_r2_st1 : (r2 : Nat) < st1 := Nat.lt_of_lt_of_le f494.lt zz_st1
  have lt_r3_st1 : (r3 : Nat) < st1 := Nat.lt_of_lt_of_le f495.lt zz_st1
  have lt_rb_st1 : (rb : Nat) < st1 := Nat.lt_of_lt_of_le f496.lt zz_st1
  have lt_sa_st1 : (sa : Nat) < st1 := Nat.lt_of_lt_of_le A486.lt zz_st1
  have lt_ta_st1 : (ta : Nat) < st1 := Nat.lt_of_lt_of_le f497.lt zz_st1
  have lt_tb_st1 : (tb : Nat) < st1 := Nat.lt_of_lt_of_le f498.lt zz_st1
  have Z500 : n0 ≤ T499.heap.size := Nat.le_trans Z489 K499.1
  have f501 := (f490.keep K499 (ninS (by omega : (cb : Nat) ≠ sa) nin0))
  have f502 := (f491.keep K499 (ninS (by omega : (mb : Nat) ≠ sa) nin0))
  have f503 := (f492.keep K499 (ninS (by omega : (qb : Nat) ≠ sa) nin0))
  have f504 := (f493.keep K499 (ninS (by omega : (r1 : Nat) ≠ sa) nin0))
  have f505 := (f494.keep K499 (ninS (by omega : (r2 : Nat) ≠ sa) nin0))
  have f506 := (f495.keep K499 (ninS (by omega : (r3 : Nat) ≠ sa) nin0))
  have f507 := (f496.keep K499 (ninS (by omega : (rb : Nat) ≠ sa) nin0))
  have f508 := (f497.keep K499)
  have f509 := (f498.keep K499 (ninS (by omega : (tb : Nat) ≠ sa) nin0))
  obtain ⟨T510, h510, X510, e510, E510, A510, D510, -, st510⟩ := newO X499 hx hZ hown (hw _ (List.mem_of_getElem? (i := 21) rfl)) (hw _ (List.mem_of_getElem? (i := 22) rfl)) (hw _ (List.mem_of_getElem? (i := 23) rfl)) rfl (g := (mkF m 185 #[.val (.int p0), .val (.int p1), .val (.int p2), .val (.int p3), .val (.int p4), .val (.int f5), .val (.int f6), .val (.int f7), .val (.int f8), .val (.int f9), .val (.ref r1), .val (.ref r2), .val (.ref r3), .val (.ref ta), .val (.ref sa), .unset, .unset, .unset, .unset, .unset, .unset, .unset, .unset, .unset, .unset, .unset, .unset, .unset, .unset, .unset] [])) rfl (hb hby at_185) (by decide) (by decide)
  obtain ⟨sb, g510⟩ : ∃ z, z = T499.heap.size := ⟨_, rfl⟩
  rw [← g510] at A510 D510 st510
  have lt_cb_sb : (cb : Nat) < sb := by rw [g510]; exact f501.lt
  have lt_mb_sb : (mb : Nat) < sb := by rw [g510]; exact f502.lt
  have lt_qb_sb : (qb : Nat) < sb := by rw [g510]; exact f503.lt
  have lt_r1_sb : (r1 : Nat) < sb := by rw [g510]; exact f504.lt
  have lt_r2_sb : (r2 : Nat) < sb := by rw [g510]; exact f505.lt
  have lt_r3_sb : (r3 : Nat) < sb := by rw [g510]; exact f506.lt
  have lt_rb_sb : (rb : Nat) < sb := by rw [g510]; exact f507.lt
  have lt_sa_sb : (sa : Nat) < sb := by rw [g510]; exact Ex_sa.lt
  have lt_sc1_sb : (sc1 : Nat) < sb := by rw [g510]; exact Vf_sc1.lt
  have lt_st1_sb : (st1 : Nat) < sb := by rw [g510]; exact Vf_st1.lt
  have lt_ta_sb : (ta : Nat) < sb := by rw [g510]; exact f508.lt
  have lt_tb_sb : (tb : Nat) < sb := by rw [g510]; exact f509.lt
  have f511 : Fld Z h510 sb "com/example/outcry/outcry/core/Tally$RunSums" "total" "[D" .null := D510 (Or.inr (hw _ (List.mem_of_getElem? (i := 29) rfl))) (ty := (.array .double)) (by decide)
  have f512 : Fld Z h510 sb "com/example/outcry/outcry/core/Tally$RunSums" "count" "[J" .null := D510 (Or.inr (hw _ (List.mem_of_getElem? (i := 31) rfl))) (ty := (.array .long)) (by decide)
  have ge_sb : n0 ≤ sb := by rw [g510]; exact Z500
  have Z513 : n0 ≤ h510.size := Nat.le_trans Z500 E510.1
  have f514 := (f501.ext E510)
  have f515 := (f502.ext E510)
  have f516 := (f503.ext E510)
  have f517 := (f504.ext E510)
  have f518 := (f505.ext E510)
  have f519 := (f506.ext E510)
  have f520 := (f507.ext E510)
  have f521 := (Ex_sa.ext E510)
  have f522 := (Vf_sc1.ext E510)
  have f523 := (Vf_st1.ext E510)
  have f524 := (f508.ext E510)
  have f525 := (f509.ext E510)
  obtain ⟨_, _, ⟨T526, L526, k526, n526⟩, -, X526, ⟨Lc526, hQ526, l526, y526, z526⟩, st526⟩ := X510.specialBack hx (y := (⟨"com/example/outcry/outcry/core/Tally$RunSums", "<init>", "(I)V"⟩ : MethodName)) rfl hown (mvT hZ (hw _ (List.mem_of_getElem? (i := 24) rfl))) (mvT hZ (hw _ (List.mem_of_getElem? (i := 25) rfl))) (mvT hZ (hw _ (List.mem_of_getElem? (i := 26) rfl))) (by decide) (backOf (W := 1) (rm2 l Z a0 hw [] sb h510 n0 Z513 f511 f512 A510 ge_sb) hZ (hw _ (List.mem_of_getElem? (i := 26) rfl)) (hw _ (List.mem_of_getElem? (i := 23) rfl)) (by decide) (by decide)) (g := (mkF m 190 #[.val (.int p0), .val (.int p1), .val (.int p2), .val (.int p3), .val (.int p4), .val (.int f5), .val (.int f6), .val (.int f7), .val (.int f8), .val (.int f9), .val (.ref r1), .val (.ref r2), .val (.ref r3), .val (.ref ta), .val (.ref sa), .unset, .unset, .unset, .unset, .unset, .unset, .unset, .unset, .unset, .unset, .unset, .unset, .unset, .unset, .unset] [(.int (2 : Int32)), (.ref sb), (.ref sb)])) rfl (by rw [hml]; rfl) (Steps.refl _) (a := sb) (argsL := [(.int (2 : Int32))]) (rest := [(.ref sb)]) (lenOf pd_1 rfl) rfl (by show 2 * 0 + _ ≤ _; exact Nat.le_of_eq rfl) (hb hby at_190) (fun _ _ => ⟨rfl, e510, (by decide : 13 + 2 ≤ _), (by decide : 29 + 4 ≤ _)⟩)
  dsimp only [Pt.U, Pt.locs, Pt.cells, Pt.slots] at X526 l526 y526 z526 st526 hQ526
  subst l526 y526 z526
  obtain ⟨st2, sc2, k_st2, k_sc2, rfl, N526q, K526, Ex_sb, Ff_sb_total, Ff_sb_count, Vf_st2, Vf_sc2, zz_st2, lt_st2_sc2⟩ := hQ526
  have N526 := Fr.app N499 N526q
  have lt_cb_st2 : (cb : Nat) < st2 := Nat.lt_of_lt_of_le f514.lt zz_st2
  have lt_mb_st2 : (mb : Nat) < st2 := Nat.lt_of_lt_of_le f515.lt zz_st2
  have lt_qb_st2 : (qb : Nat) < st2 := Nat.lt_of_lt_of_le f516.lt zz_st2
  have lt_r1_st2 : (r1 : Nat) < st2 := Nat.lt_of_lt_of_le f517.lt zz_st2
  have lt_r2_st2 : (r2 : Nat) < st2 := Nat.lt_of_lt_of_le f518.lt zz_st2
  have lt_r3_st2 : (r3 : Nat) < st2 := Nat.lt_of_lt_of_le f519.lt zz_st2
  have lt_rb_st2 : (rb : Nat) < st2 := Nat.lt_of_lt_of_le f520.lt zz_st2
  have lt_sa_st2 : (sa : Nat) < st2 := Nat.lt_of_lt_of_le f521.lt zz_st2
  have lt_sb_st2 : (sb : Nat) < st2 := Nat.lt_of_lt_of_le A510.lt zz_st2
  have lt_sc1_st2 : (sc1 : Nat) < st2 := Nat.lt_of_lt_of_le f522.lt zz_st2
  have lt_st1_st2 : (st1 : Nat) < st2 := Nat.lt_of_lt_of_le f523.lt zz_st2
  have lt_ta_st2 : (ta : Nat) < st2 := Nat.lt_of_lt_of_le f524.lt zz_st2
  have lt_tb_st2 : (tb : Nat) < st2 := Nat.lt_of_lt_of_le f525.lt zz_st2
  have Z527 : n0 ≤ T526.heap.size := Nat.le_trans Z513 K526.1
  have f528 := ((Ff_sa_total.ext E510).keep K526 (ninS (by omega : (sa : Nat) ≠ sb) nin0))
  have f529 := ((Ff_sa_count.ext E510).keep K526 (ninS (by omega : (sa : Nat) ≠ sb) nin0))
  have f530 := (f523.keep K526 (ninS (by omega : (st1 : Nat) ≠ sb) nin0))
  have f531 := (f522.keep K526 (ninS (by omega : (sc1 : Nat) ≠ sb) nin0))
  have f532 := (f517.keep K526 (ninS (by omega : (r1 : Nat) ≠ sb) nin0))
  have f533 := (f521.keep K526)
  obtain ⟨cq534, kq534, q534a, q534b, q534c⟩ := isOf hZ rfl f533
  obtain ⟨_, _, ⟨T534, L534, k534, n534⟩, -, X534, ⟨Lc534, hQ534, l534, y534, z534⟩, st534⟩ := X526.virtualBack hx (y := (⟨"com/example/outcry/outcry/core/Tally$RunSums", "add", "([D)V"⟩ : MethodName)) (z := (⟨"com/example/outcry/outcry/core/Tally$RunSums", "add", "([D)V"⟩ : MethodName)) hown (mvT hZ (hw _ (List.mem_of_getElem? (i := 32) rfl))) (mvT hZ (hw _ (List.mem_of_getElem? (i := 33) rfl))) (notFace_of_selects (args := #[]) (mvT hZ (hw _ (List.mem_of_getElem? (i := 35) rfl)))) (mvT hZ (hw _ (List.mem_of_getElem? (i := 35) rfl))) (mvT hZ (hw _ (List.mem_of_getElem? (i := 34) rfl))) (by decide) (backOf (W := 0) (rm3 l Z a0 hw [] sa r1 st1 sc1 k_st1 k_sc1 f7 p0 p3 0 0 (0 : Int64) (0 : Int64) T526.heap n0 Z527 f528 f529 f530 f531 f532 (by omega) (by omega) (by omega) (by omega) (by omega) (own_b53 own_bd_0 (by decide)) (own_b53 own_bd_0 (by decide))) hZ (hw _ (List.mem_of_getElem? (i := 36) rfl)) (hw _ (List.mem_of_getElem? (i := 23) rfl)) (by decide) (by decide)) q534a q534c (g := (mkF m 199 #[.val (.int p0), .val (.int p1), .val (.int p2), .val (.int p3), .val (.int p4), .val (.int f5), .val (.int f6), .val (.int f7), .val (.int f8), .val (.int f9), .val (.ref r1), .val (.ref r2), .val (.ref r3), .val (.ref ta), .val (.ref sa), .val (.ref sb), .unset, .unset, .unset, .unset, .unset, .unset, .unset, .unset, .unset, .unset, .unset, .unset, .unset, .unset] [(.ref r1), (.ref sa)])) rfl (by rw [hml]; rfl) (Steps.refl _) (argsL := [(.ref r1)]) (rest := []) (lenOf pd_2 rfl) rfl (by show 2 * 0 + _ ≤ _; exact Nat.le_of_eq rfl) (hb hby at_199) (fun _ _ => ⟨rfl, rfl, (by decide : 15 + 0 ≤ _), (by decide : 33 + 0 ≤ _)⟩)
  dsimp only [Pt.U, Pt.locs, Pt.cells, Pt.slots] at X534 l534 y534 z534 st534 hQ534
  subst l534 y534 z534
  obtain ⟨rfl, N534q, K534, Vt534, Vc534⟩ := hQ534
  have N534 := Fr.app N526 N534q
  have Z535 : n0 ≤ T534.heap.size := Nat.le_trans Z527 K534.1
  obtain ⟨a0', ea0⟩ : ∃ z : Int64, z = (0 + p0.toInt64) := ⟨_, rfl⟩
  obtain ⟨a1', ea1⟩ : ∃ z : Int64, z = (own_if f7 0 (0 + p3.toInt64)) := ⟨_, rfl⟩
  have f536 : Arv Z T534.heap st1 k_st1 .double (2 : Int32) [(.double (FP.l2d a0')), (.double (FP.l2d a1'))] (.double (FP.l2d 0)) := by rw [ea0, ea1]; exact Vt534
  obtain ⟨c0', ec0⟩ : ∃ z : Int64, z = ((0 : Int64) + (1 : Int64)) := ⟨_, rfl⟩
  obtain ⟨c1', ec1⟩ : ∃ z : Int64, z = (own_if f7 (0 : Int64) ((0 : Int64) + (1 : Int64))) := ⟨_, rfl⟩
  have f537 : Arv Z T534.heap sc1 k_sc1 .long (2 : Int32) [(.long c0'), (.long c1')] (.long (0 : Int64)) := by rw [ec0, ec1]; exact Vc534
  have ba0 : own_bd (2 ^ 31) a0' := by rw [ea0]; exact own_bd_mono (own_bd_add own_bd_0 (own_bd_i p0) (by decide)) (by decide)
  have ba1 : own_bd (2 ^ 31) a1' := by rw [ea1]; exact own_bd_if (own_bd_mono own_bd_0 (by decide)) (own_bd_mono (own_bd_add own_bd_0 (own_bd_i p3) (by decide)) (by decide))
  have f538 := (f528.keep K534 (ninS (by omega : (sa : Nat) ≠ st1) (ninS (by omega : (sa : Nat) ≠ sc1) nin0)))
  have f539 := (f529.keep K534 (ninS (by omega : (sa : Nat) ≠ st1) (ninS (by omega : (sa : Nat) ≠ sc1) nin0)))
  have f540 := ((f518.keep K526 (ninS (by omega : (r2 : Nat) ≠ sb) nin0)).keep K534 (ninS (by omega : (r2 : Nat) ≠ st1) (ninS (by omega : (r2 : Nat) ≠ sc1) nin0)))
  have f541 := (f533.keep K534)
  obtain ⟨T544, h544, L544, X544, e544, N544, K544, Vt544, Vc544, st544⟩ : ∃ (T' : State) (h' : Heap) (L' : List Loc), Stand p l e room_1 s m #[(.int p0), (.int p1), (.int p2), (.int p3), (.int p4)] below meth c T' L' 15 33 ∧ T'.heap = h' ∧ Fr n0 L' ∧ Keep T534.heap h' [st1, sc1] ∧ Arv Z h' st1 k_st1 .double (2 : Int32) [(.double (FP.l2d (own_if f5 a0' (a0' + p1.toInt64)))), (.double (FP.l2d (own_if f5 a1' (own_if f8 a1' (a1' + p0.toInt64)))))] (.double (FP.l2d 0)) ∧ Arv Z h' sc1 k_sc1 .long (2 : Int32) [(.long (own_if f5 c0' (c0' + (1 : Int64)))), (.long (own_if f5 c1' (own_if f8 c1' (c1' + (1 : Int64)))))] (.long (0 : Int64)) ∧ ∀ target, Steps p.tables e below (T'.setTop (mkF m 214 #[.val (.int p0), .val (.int p1), .val (.int p2), .val (.int p3), .val (.int p4), .val (.int f5), .val (.int f6), .val (.int f7), .val (.int f8), .val (.int f9), .val (.ref r1), .val (.ref r2), .val (.ref r3), .val (.ref ta), .val (.ref sa), .val (.ref sb), .unset, .unset, .unset, .unset, .unset, .unset, .unset, .unset, .unset, .unset, .unset, .unset, .unset, .unset] [])) target → Steps p.tables e below (T534.setTop (mkF m 202 #[.val (.int p0), .val (.int p1), .val (.int p2), .val (.int p3), .val (.int p4), .val (.int f5), .val (.int f6), .val (.int f7), .val (.int f8), .val (.int f9), .val (.ref r1), .val (.ref r2), .val (.ref r3), .val (.ref ta), .val (.ref sa), .val (.ref sb), .unset, .unset, .unset, .unset, .unset, .unset, .unset, .unset, .unset, .unset, .unset, .unset, .unset, .unset] [])) target := by
    by_cases hf : f5 = (0 : Int32)
    · refine ⟨T534, T534.heap, _, X534, rfl, N534, Keep.refl _ _, by rw [own_if0 hf, own_if0 hf]; exact f536, by rw [own_if0 hf, own_if0 hf]; exact f537, fun target kt => ?_⟩
      show Steps p.tables e below (T534.setTop (mkF m 202 #[.val (.int p0), .val (.int p1), .val (.int p2), .val (.int p3), .val (.int p4), .val (.int f5), .val (.int f6), .val (.int f7), .val (.int f8), .val (.int f9), .val (.ref r1), .val (.ref r2), .val (.ref r3), .val (.ref ta), .val (.ref sa), .val (.ref sb), .unset, .unset, .unset, .unset, .unset, .unset, .unset, .unset, .unset, .unset, .unset, .unset, .unset, .unset] [])) _
      refine XS.iload X534.here hx rfl (hb hby at_202) rfl ?_
      show Steps p.tables e below (T534.setTop (mkF m 204 #[.val (.int p0), .val (.int p1), .val (.int p2), .val (.int p3), .val (.int p4), .val (.int f5), .val (.int f6), .val (.int f7), .val (.int f8), .val (.int f9), .val (.ref r1), .val (.ref r2), .val (.ref r3), .val (.ref ta), .val (.ref sa), .val (.ref sb), .unset, .unset, .unset, .unset, .unset, .unset, .unset, .unset, .unset, .unset, .unset, .unset, .unset, .unset] [(.int f5)])) _
      refine XS.ifYes X534.here hx rfl (pc0 := 204) (pc' := 214) rfl (hb hby at_204) rfl ((if0 _ _).trans (teq hf).1) (by decide) (by decide) ?_
      show Steps p.tables e below (T534.setTop (mkF m 214 #[.val (.int p0), .val (.int p1), .val (.int p2), .val (.int p3), .val (.int p4), .val (.int f5), .val (.int f6), .val (.int f7), .val (.int f8), .val (.int f9), .val (.ref r1), .val (.ref r2), .val (.ref r3), .val (.ref ta), .val (.ref sa), .val (.ref sb), .unset, .unset, .unset, .unset, .unset, .unset, .unset, .unset, .unset, .unset, .unset, .unset, .unset, .unset] [])) _
      exact kt
    · obtain ⟨cq542, kq542, q542a, q542b, q542c⟩ := isOf hZ rfl f541
      obtain ⟨_, _, ⟨T542, L542, k542, n542⟩, -, X542, ⟨Lc542, hQ542, l542, y542, z542⟩, st542⟩ := X534.virtualBack hx (y := (⟨"com/example/outcry/outcry/core/Tally$RunSums", "add", "([D)V"⟩ : MethodName)) (z := (⟨"com/example/outcry/outcry/core/Tally$RunSums", "add", "([D)V"⟩ : MethodName)) hown (mvT hZ (hw _ (List.mem_of_getElem? (i := 32) rfl))) (mvT hZ (hw _ (List.mem_of_getElem? (i := 33) rfl))) (notFace_of_selects (args := #[]) (mvT hZ (hw _ (List.mem_of_getElem? (i := 35) rfl)))) (mvT hZ (hw _ (List.mem_of_getElem? (i := 35) rfl))) (mvT hZ (hw _ (List.mem_of_getElem? (i := 34) rfl))) (by decide) (backOf (W := 0) (rm3 l Z a0 hw [] sa r2 st1 sc1 k_st1 k_sc1 f8 p1 p0 a0' a1' c0' c1' T534.heap n0 Z535 f538 f539 f536 f537 f540 (by omega) (by omega) (by omega) (by omega) (by omega) (own_b53 ba0 (by decide)) (own_b53 ba1 (by decide))) hZ (hw _ (List.mem_of_getElem? (i := 36) rfl)) (hw _ (List.mem_of_getElem? (i := 23) rfl)) (by decide) (by decide)) q542a q542c (g := (mkF m 211 #[.val (.int p0), .val (.int p1), .val (.int p2), .val (.int p3), .val (.int p4), .val (.int f5), .val (.int f6), .val (.int f7), .val (.int f8), .val (.int f9), .val (.ref r1), .val (.ref r2), .val (.ref r3), .val (.ref ta), .val (.ref sa), .val (.ref sb), .unset, .unset, .unset, .unset, .unset, .unset, .unset, .unset, .unset, .unset, .unset, .unset, .unset, .unset] [(.ref r2), (.ref sa)])) rfl (by rw [hml]; rfl) (Steps.refl _) (argsL := [(.ref r2)]) (rest := []) (lenOf pd_2 rfl) rfl (by show 2 * 0 + _ ≤ _; exact Nat.le_of_eq rfl) (hb hby at_211) (fun _ _ => ⟨rfl, rfl, (by decide : 15 + 0 ≤ _), (by decide : 33 + 0 ≤ _)⟩)
      dsimp only [Pt.U, Pt.locs, Pt.cells, Pt.slots] at X542 l542 y542 z542 st542 hQ542
      subst l542 y542 z542
      obtain ⟨rfl, N542q, K542, Vt542, Vc542⟩ := hQ542
      have N542 := Fr.app N534 N542q
      have Z543 : n0 ≤ T542.heap.size := Nat.le_trans Z535 K542.1
      refine ⟨T542, T542.heap, _, X542, rfl, N542, K542, by rw [own_if1 hf, own_if1 hf]; exact Vt542, by rw [own_if1 hf, own_if1 hf]; exact Vc542, fun target kt => ?_⟩
      show Steps p.tables e below (T534.setTop (mkF m 202 #[.val (.int p0), .val (.int p1), .val (.int p2), .val (.int p3), .val (.int p4), .val (.int f5), .val (.int f6), .val (.int f7), .val (.int f8), .val (.int f9), .val (.ref r1), .val (.ref r2), .val (.ref r3), .val (.ref ta), .val (.ref sa), .val (.ref sb), .unset, .unset, .unset, .unset, .unset, .unset, .unset, .unset, .unset, .unset, .unset, .unset, .unset, .unset] [])) _
      refine XS.iload X534.here hx rfl (hb hby at_202) rfl ?_
      show Steps p.tables e below (T534.setTop (mkF m 204 #[.val (.int p0), .val (.int p1), .val (.int p2), .val (.int p3), .val (.int p4), .val (.int f5), .val (.int f6), .val (.int f7), .val (.int f8), .val (.int f9), .val (.ref r1), .val (.ref r2), .val (.ref r3), .val (.ref ta), .val (.ref sa), .val (.ref sb), .unset, .unset, .unset, .unset, .unset, .unset, .unset, .unset, .unset, .unset, .unset, .unset, .unset, .unset] [(.int f5)])) _
      refine XS.ifNo X534.here hx rfl (hb hby at_204) rfl ((if0 _ _).trans (feq hf).1) ?_
      show Steps p.tables e below (T534.setTop (mkF m 207 #[.val (.int p0), .val (.int p1), .val (.int p2), .val (.int p3), .val (.int p4), .val (.int f5), .val (.int f6), .val (.int f7), .val (.int f8), .val (.int f9), .val (.ref r1), .val (.ref r2), .val (.ref r3), .val (.ref ta), .val (.ref sa), .val (.ref sb), .unset, .unset, .unset, .unset, .unset, .unset, .unset, .unset, .unset, .unset, .unset, .unset, .unset, .unset] [])) _
      refine XS.aload X534.here hx rfl (hb hby at_207) rfl rfl ?_
      show Steps p.tables e below (T534.setTop (mkF m 209 #[.val (.int p0), .val (.int p1), .val (.int p2), .val (.int p3), .val (.int p4), .val (.int f5), .val (.int f6), .val (.int f7), .val (.int f8), .val (.int f9), .val (.ref r1), .val (.ref r2), .val (.ref r3), .val (.ref ta), .val (.ref sa), .val (.ref sb), .unset, .unset, .unset, .unset, .unset, .unset, .unset, .unset, .unset, .unset, .unset, .unset, .unset, .unset] [(.ref sa)])) _
      refine XS.aload X534.here hx rfl (hb hby at_209) rfl rfl ?_
      show Steps p.tables e below (T534.setTop (mkF m 211 #[.val (.int p0), .val (.int p1), .val (.int p2), .val (.int p3), .val (.int p4), .val (.int f5), .val (.int f6), .val (.int f7), .val (.int f8), .val (.int f9), .val (.ref r1), .val (.ref r2), .val (.ref r3), .val (.ref ta), .val (.ref sa), .val (.ref sb), .unset, .unset, .unset, .unset, .unset, .unset, .unset, .unset, .unset, .unset, .unset, .unset, .unset, .unset] [(.ref r2), (.ref sa)])) _
      refine st542.trans ?_
      show Steps p.tables e below (T542.setTop (mkF m 214 #[.val (.int p0), .val (.int p1), .val (.int p2), .val (.int p3), .val (.int p4), .val (.int f5), .val (.int f6), .val (.int f7), .val (.int f8), .val (.int f9), .val (.ref r1), .val (.ref r2), .val (.ref r3), .val (.ref ta), .val (.ref sa), .val (.ref sb), .unset, .unset, .unset, .unset, .unset, .unset, .unset, .unset, .unset, .unset, .unset, .unset, .unset, .unset] [])) _
      exact kt
  have Z545 : n0 ≤ h544.size := Nat.le_trans Z535 K544.1
  obtain ⟨t10, et10⟩ : ∃ z : Int64, z = (own_if f5 a0' (a0' + p1.toInt64)) := ⟨_, rfl⟩
  obtain ⟨t11, et11⟩ : ∃ z : Int64, z = (own_if f5 a1' (own_if f8 a1' (a1' + p0.toInt64))) := ⟨_, rfl⟩
  have f546 : Arv Z h544 st1 k_st1 .double (2 : Int32) [(.double (FP.l2d t10)), (.double (FP.l2d t11))] (.double (FP.l2d 0)) := by rw [et10, et11]; exact Vt544
  obtain ⟨c10, ec10⟩ : ∃ z : Int64, z = (own_if f5 c0' (c0' + (1 : Int64))) := ⟨_, rfl⟩
  obtain ⟨c11, ec11⟩ : ∃ z : Int64, z = (own_if f5 c1' (own_if f8 c1' (c1' + (1 : Int64)))) := ⟨_, rfl⟩
  have f547 : Arv Z h544 sc1 k_sc1 .long (2 : Int32) [(.long c10), (.long c11)] (.long (0 : Int64)) := by rw [ec10, ec11]; exact Vc544
  have bt10 : own_bd (2 ^ 32) t10 := by rw [et10]; exact own_bd_if (own_bd_mono ba0 (by decide)) (own_bd_mono (own_bd_add ba0 (own_bd_i p1) (by decide)) (by decide))
  have bt11 : own_bd (2 ^ 32) t11 := by rw [et11]; exact own_bd_if (own_bd_mono ba1 (by decide)) (own_bd_if (own_bd_mono ba1 (by decide)) (own_bd_mono (own_bd_add ba1 (own_bd_i p0) (by decide)) (by decide)))
  have f548 := ((Vf_st2.keep K534 (ninS (by omega : (st2 : Nat) ≠ st1) (ninS (by omega : (st2 : Nat) ≠ sc1) nin0))).keep K544 (ninS (by omega : (st2 : Nat) ≠ st1) (ninS (by omega : (st2 : Nat) ≠ sc1) nin0)))
  have f549 := ((Vf_sc2.keep K534 (ninS (by omega : (sc2 : Nat) ≠ st1) (ninS (by omega : (sc2 : Nat) ≠ sc1) nin0))).keep K544 (ninS (by omega : (sc2 : Nat) ≠ st1) (ninS (by omega : (sc2 : Nat) ≠ sc1) nin0)))
  have f550 := ((Ff_sb_total.keep K534 (ninS (by omega : (sb : Nat) ≠ st1) (ninS (by omega : (sb : Nat) ≠ sc1) nin0))).keep K544 (ninS (by omega : (sb : Nat) ≠ st1) (ninS (by omega : (sb : Nat) ≠ sc1) nin0)))
  have f551 := ((Ff_sb_count.keep K534 (ninS (by omega : (sb : Nat) ≠ st1) (ninS (by omega : (sb : Nat) ≠ sc1) nin0))).keep K544 (ninS (by omega : (sb : Nat) ≠ st1) (ninS (by omega : (sb : Nat) ≠ sc1) nin0)))
  have f552 := (((f519.keep K526 (ninS (by omega : (r3 : Nat) ≠ sb) nin0)).keep K534 (ninS (by omega : (r3 : Nat) ≠ st1) (ninS (by omega : (r3 : Nat) ≠ sc1) nin0))).keep K544 (ninS (by omega : (r3 : Nat) ≠ st1) (ninS (by omega : (r3 : Nat) ≠ sc1) nin0)))
  have f553 := ((Ex_sb.keep K534).keep K544)
  obtain ⟨T556, h556, L556, X556, e556, N556, K556, Vt556, Vc556, st556⟩ : ∃ (T' : State) (h' : Heap) (L' : List Loc), Stand p l e room_1 s m #[(.int p0), (.int p1), (.int p2), (.int p3), (.int p4)] below meth c T' L' 15 33 ∧ T'.heap = h' ∧ Fr n0 L' ∧ Keep h544 h' [st2, sc2] ∧ Arv Z h' st2 k_st2 .double (2 : Int32) [(.double (FP.l2d (own_if f6 0 (0 + p2.toInt64)))), (.double (FP.l2d (own_if f6 0 (own_if f9 0 (0 + p1.toInt64)))))] (.double (FP.l2d 0)) ∧ Arv Z h' sc2 k_sc2 .long (2 : Int32) [(.long (own_if f6 (0 : Int64) ((0 : Int64) + (1 : Int64)))), (.long (own_if f6 (0 : Int64) (own_if f9 (0 : Int64) ((0 : Int64) + (1 : Int64)))))] (.long (0 : Int64)) ∧ ∀ target, Steps p.tables e below (T'.setTop (mkF m 226 #[.val (.int p0), .val (.int p1), .val (.int p2), .val (.int p3), .val (.int p4), .val (.int f5), .val (.int f6), .val (.int f7), .val (.int f8), .val (.int f9), .val (.ref r1), .val (.ref r2), .val (.ref r3), .val (.ref ta), .val (.ref sa), .val (.ref sb), .unset, .unset, .unset, .unset, .unset, .unset, .unset, .unset, .unset, .unset, .unset, .unset, .unset, .unset] [])) target → Steps p.tables e below (T544.setTop (mkF m 214 #[.val (.int p0), .val (.int p1), .val (.int p2), .val (.int p3), .val (.int p4), .val (.int f5), .val (.int f6), .val (.int f7), .val (.int f8), .val (.int f9), .val (.ref r1), .val (.ref r2), .val (.ref r3), .val (.ref ta), .val (.ref sa), .val (.ref sb), .unset, .unset, .unset, .unset, .unset, .unset, .unset, .unset, .unset, .unset, .unset, .unset, .unset, .unset] [])) target := by
    by_cases hf : f6 = (0 : Int32)
    · refine ⟨T544, h544, _, X544, e544, N544, Keep.refl _ _, by rw [own_if0 hf, own_if0 hf]; exact f548, by rw [own_if0 hf, own_if0 hf]; exact f549, fun target kt => ?_⟩
      show Steps p.tables e below (T544.setTop (mkF m 214 #[.val (.int p0), .val (.int p1), .val (.int p2), .val (.int p3), .val (.int p4), .val (.int f5), .val (.int f6), .val (.int f7), .val (.int f8), .val (.int f9), .val (.ref r1), .val (.ref r2), .val (.ref r3), .val (.ref ta), .val (.ref sa), .val (.ref sb), .unset, .unset, .unset, .unset, .unset, .unset, .unset, .unset, .unset, .unset, .unset, .unset, .unset, .unset] [])) _
      refine XS.iload X544.here hx rfl (hb hby at_214) rfl ?_
      show Steps p.tables e below (T544.setTop (mkF m 216 #[.val (.int p0), .val (.int p1), .val (.int p2), .val (.int p3), .val (.int p4), .val (.int f5), .val (.int f6), .val (.int f7), .val (.int f8), .val (.int f9), .val (.ref r1), .val (.ref r2), .val (.ref r3), .val (.ref ta), .val (.ref sa), .val (.ref sb), .unset, .unset, .unset, .unset, .unset, .unset, .unset, .unset, .unset, .unset, .unset, .unset, .unset, .unset] [(.int f6)])) _
      refine XS.ifYes X544.here hx rfl (pc0 := 216) (pc' := 226) rfl (hb hby at_216) rfl ((if0 _ _).trans (teq hf).1) (by decide) (by decide) ?_
      show Steps p.tables e below (T544.setTop (mkF m 226 #[.val (.int p0), .val (.int p1), .val (.int p2), .val (.int p3), .val (.int p4), .val (.int f5), .val (.int f6), .val (.int f7), .val (.int f8), .val (.int f9), .val (.ref r1), .val (.ref r2), .val (.ref r3), .val (.ref ta), .val (.ref sa), .val (.ref sb), .unset, .unset, .unset, .unset, .unset, .unset, .unset, .unset, .unset, .unset, .unset, .unset, .unset, .unset] [])) _
      exact kt
    · obtain ⟨cq554, kq554, q554a, q554b, q554c⟩ := isOf hZ e544 f553
      obtain ⟨_, _, ⟨T554, L554, k554, n554⟩, -, X554, ⟨Lc554, hQ554, l554, y554, z554⟩, st554⟩ := X544.virtualBack hx (y := (⟨"com/example/outcry/outcry/core/Tally$RunSums", "add", "([D)V"⟩ : MethodName)) (z := (⟨"com/example/outcry/outcry/core/Tally$RunSums", "add", "([D)V"⟩ : MethodName)) hown (mvT hZ (hw _ (List.mem_of_getElem? (i := 32) rfl))) (mvT hZ (hw _ (List.mem_of_getElem? (i := 33) rfl))) (notFace_of_selects (args := #[]) (mvT hZ (hw _ (List.mem_of_getElem? (i := 35) rfl)))) (mvT hZ (hw _ (List.mem_of_getElem? (i := 35) rfl))) (mvT hZ (hw _ (List.mem_of_getElem? (i := 34) rfl))) (by decide) (backOf (W := 0) (rm3 l Z a0 hw [] sb r3 st2 sc2 k_st2 k_sc2 f9 p2 p1 0 0 (0 : Int64) (0 : Int64) h544 n0 Z545 f550 f551 f548 f549 f552 (by omega) (by omega) (by omega) (by omega) (by omega) (own_b53 own_bd_0 (by decide)) (own_b53 own_bd_0 (by decide))) hZ (hw _ (List.mem_of_getElem? (i := 36) rfl)) (hw _ (List.mem_of_getElem? (i := 23) rfl)) (by decide) (by decide)) q554a q554c (g := (mkF m 223 #[.val (.int p0), .val (.int p1), .val (.int p2), .val (.int p3), .val (.int p4), .val (.int f5), .val (.int f6), .val (.int f7), .val (.int f8), .val (.int f9), .val (.ref r1), .val (.ref r2), .val (.ref r3), .val (.ref ta), .val (.ref sa), .val (.ref sb), .unset, .unset, .unset, .unset, .unset, .unset, .unset, .unset, .unset, .unset, .unset, .unset, .unset, .unset] [(.ref r3), (.ref sb)])) rfl (by rw [hml]; rfl) (Steps.refl _) (argsL := [(.ref r3)]) (rest := []) (lenOf pd_2 rfl) rfl (by show 2 * 0 + _ ≤ _; exact Nat.le_of_eq rfl) (hb hby at_223) (fun _ _ => ⟨rfl, e544, (by decide : 15 + 0 ≤ _), (by decide : 33 + 0 ≤ _)⟩)
      dsimp only [Pt.U, Pt.locs, Pt.cells, Pt.slots] at X554 l554 y554 z554 st554 hQ554
      subst l554 y554 z554
      obtain ⟨rfl, N554q, K554, Vt554, Vc554⟩ := hQ554
      have N554 := Fr.app N544 N554q
      have Z555 : n0 ≤ T554.heap.size := Nat.le_trans Z545 K554.1
      refine ⟨T554, T554.heap, _, X554, rfl, N554, K554, by rw [own_if1 hf, own_if1 hf]; exact Vt554, by rw [own_if1 hf, own_if1 hf]; exact Vc554, fun target kt => ?_⟩
      show Steps p.tables e below (T544.setTop (mkF m 214 #[.val (.int p0), .val (.int p1), .val (.int p2), .val (.int p3), .val (.int p4), .val (.int f5), .val (.int f6), .val (.int f7), .val (.int f8), .val (.int f9), .val (.ref r1), .val (.ref r2), .val (.ref r3), .val (.ref ta), .val (.ref sa), .val (.ref sb), .unset, .unset, .unset, .unset, .unset, .unset, .unset, .unset, .unset, .unset, .unset, .unset, .unset, .unset] [])) _
      refine XS.iload X544.here hx rfl (hb hby at_214) rfl ?_
      show Steps p.tables e below (T544.setTop (mkF m 216 #[.val (.int p0), .val (.int p1), .val (.int p2), .val (.int p3), .val (.int p4), .val (.int f5), .val (.int f6), .val (.int f7), .val (.int f8), .val (.int f9), .val (.ref r1), .val (.ref r2), .val (.ref r3), .val (.ref ta), .val (.ref sa), .val (.ref sb), .unset, .unset, .unset, .unset, .unset, .unset, .unset, .unset, .unset, .unset, .unset, .unset, .unset, .unset] [(.int f6)])) _
      refine XS.ifNo X544.here hx rfl (hb hby at_216) rfl ((if0 _ _).trans (feq hf).1) ?_
      show Steps p.tables e below (T544.setTop (mkF m 219 #[.val (.int p0), .val (.int p1), .val (.int p2), .val (.int p3), .val (.int p4), .val (.int f5), .val (.int f6), .val (.int f7), .val (.int f8), .val (.int f9), .val (.ref r1), .val (.ref r2), .val (.ref r3), .val (.ref ta), .val (.ref sa), .val (.ref sb), .unset, .unset, .unset, .unset, .unset, .unset, .unset, .unset, .unset, .unset, .unset, .unset, .unset, .unset] [])) _
      refine XS.aload X544.here hx rfl (hb hby at_219) rfl rfl ?_
      show Steps p.tables e below (T544.setTop (mkF m 221 #[.val (.int p0), .val (.int p1), .val (.int p2), .val (.int p3), .val (.int p4), .val (.int f5), .val (.int f6), .val (.int f7), .val (.int f8), .val (.int f9), .val (.ref r1), .val (.ref r2), .val (.ref r3), .val (.ref ta), .val (.ref sa), .val (.ref sb), .unset, .unset, .unset, .unset, .unset, .unset, .unset, .unset, .unset, .unset, .unset, .unset, .unset, .unset] [(.ref sb)])) _
      refine XS.aload X544.here hx rfl (hb hby at_221) rfl rfl ?_
      show Steps p.tables e below (T544.setTop (mkF m 223 #[.val (.int p0), .val (.int p1), .val (.int p2), .val (.int p3), .val (.int p4), .val (.int f5), .val (.int f6), .val (.int f7), .val (.int f8), .val (.int f9), .val (.ref r1), .val (.ref r2), .val (.ref r3), .val (.ref ta), .val (.ref sa), .val (.ref sb), .unset, .unset, .unset, .unset, .unset, .unset, .unset, .unset, .unset, .unset, .unset, .unset, .unset, .unset] [(.ref r3), (.ref sb)])) _
      refine st554.trans ?_
      show Steps p.tables e below (T554.setTop (mkF m 226 #[.val (.int p0), .val (.int p1), .val (.int p2), .val (.int p3), .val (.int p4), .val (.int f5), .val (.int f6), .val (.int f7), .val (.int f8), .val (.int f9), .val (.ref r1), .val (.ref r2), .val (.ref r3), .val (.ref ta), .val (.ref sa), .val (.ref sb), .unset, .unset, .unset, .unset, .unset, .unset, .unset, .unset, .unset, .unset, .unset, .unset, .unset, .unset] [])) _
      exact kt
  have Z557 : n0 ≤ h556.size := Nat.le_trans Z545 K556.1
  obtain ⟨t20, et20⟩ : ∃ z : Int64, z = (own_if f6 0 (0 + p2.toInt64)) := ⟨_, rfl⟩
  obtain ⟨t21, et21⟩ : ∃ z : Int64, z = (own_if f6 0 (own_if f9 0 (0 + p1.toInt64))) := ⟨_, rfl⟩
  have f558 : Arv Z h556 st2 k_st2 .double (2 : Int32) [(.double (FP.l2d t20)), (.double (FP.l2d t21))] (.double (FP.l2d 0)) := by rw [et20, et21]; exact Vt556
  obtain ⟨c20, ec20⟩ : ∃ z : Int64, z = (own_if f6 (0 : Int64) ((0 : Int64) + (1 : Int64))) := ⟨_, rfl⟩
  obtain ⟨c21, ec21⟩ : ∃ z : Int64, z = (own_if f6 (0 : Int64) (own_if f9 (0 : Int64) ((0 : Int64) + (1 : Int64)))) := ⟨_, rfl⟩
  have f559 : Arv Z h556 sc2 k_sc2 .long (2 : Int32) [(.long c20), (.long c21)] (.long (0 : Int64)) := by rw [ec20, ec21]; exact Vc556
  have bt20 : own_bd (2 ^ 32) t20 := by rw [et20]; exact own_bd_if (own_bd_mono own_bd_0 (by decide)) (own_bd_mono (own_bd_add own_bd_0 (own_bd_i p2) (by decide)) (by decide))
  have bt21 : own_bd (2 ^ 32) t21 := by rw [et21]; exact own_bd_if (own_bd_mono own_bd_0 (by decide)) (own_bd_if (own_bd_mono own_bd_0 (by decide)) (own_bd_mono (own_bd_add own_bd_0 (own_bd_i p1) (by decide)) (by decide)))
  have f560 := (((((((Ff_ta_total.ext E486).keep K499 (ninS (by omega : (ta : Nat) ≠ sa) nin0)).ext E510).keep K526 (ninS (by omega : (ta : Nat) ≠ sb) nin0)).keep K534 (ninS (by omega : (ta : Nat) ≠ st1) (ninS (by omega : (ta : Nat) ≠ sc1) nin0))).keep K544 (ninS (by omega : (ta : Nat) ≠ st1) (ninS (by omega : (ta : Nat) ≠ sc1) nin0))).keep K556 (ninS (by omega : (ta : Nat) ≠ st2) (ninS (by omega : (ta : Nat) ≠ sc2) nin0)))
  have f561 := (((((((Ff_ta_count.ext E486).keep K499 (ninS (by omega : (ta : Nat) ≠ sa) nin0)).ext E510).keep K526 (ninS (by omega : (ta : Nat) ≠ sb) nin0)).keep K534 (ninS (by omega : (ta : Nat) ≠ st1) (ninS (by omega : (ta : Nat) ≠ sc1) nin0))).keep K544 (ninS (by omega : (ta : Nat) ≠ st1) (ninS (by omega : (ta : Nat) ≠ sc1) nin0))).keep K556 (ninS (by omega : (ta : Nat) ≠ st2) (ninS (by omega : (ta : Nat) ≠ sc2) nin0)))
  have f562 := (((((((Ff_ta_runsObserved.ext E486).keep K499 (ninS (by omega : (ta : Nat) ≠ sa) nin0)).ext E510).keep K526 (ninS (by omega : (ta : Nat) ≠ sb) nin0)).keep K534 (ninS (by omega : (ta : Nat) ≠ st1) (ninS (by omega : (ta : Nat) ≠ sc1) nin0))).keep K544 (ninS (by omega : (ta : Nat) ≠ st1) (ninS (by omega : (ta : Nat) ≠ sc1) nin0))).keep K556 (ninS (by omega : (ta : Nat) ≠ st2) (ninS (by omega : (ta : Nat) ≠ sc2) nin0)))
  have f563 := (((((((Ff_ta_meanOfRunMeans.ext E486).keep K499 (ninS (by omega : (ta : Nat) ≠ sa) nin0)).ext E510).keep K526 (ninS (by omega : (ta : Nat) ≠ sb) nin0)).keep K534 (ninS (by omega : (ta : Nat) ≠ st1) (ninS (by omega : (ta : Nat) ≠ sc1) nin0))).keep K544 (ninS (by omega : (ta : Nat) ≠ st1) (ninS (by omega : (ta : Nat) ≠ sc1) nin0))).keep K556 (ninS (by omega : (ta : Nat) ≠ st2) (ninS (by omega : (ta : Nat) ≠ sc2) nin0)))
  have f564 := (((((((Ff_ta_squaredDeviations.ext E486).keep K499 (ninS (by omega : (ta : Nat) ≠ sa) nin0)).ext E510).keep K526 (ninS (by omega : (ta : Nat) ≠ sb) nin0)).keep K534 (ninS (by omega : (ta : Nat) ≠ st1) (ninS (by omega : (ta : Nat) ≠ sc1) nin0))).keep K544 (ninS (by omega : (ta : Nat) ≠ st1) (ninS (by omega : (ta : Nat) ≠ sc1) nin0))).keep K556 (ninS (by omega : (ta : Nat) ≠ st2) (ninS (by omega : (ta : Nat) ≠ sc2) nin0)))
  have f565 := ((f538.keep K544 (ninS (by omega : (sa : Nat) ≠ st1) (ninS (by omega : (sa : Nat) ≠ sc1) nin0))).keep K556 (ninS (by omega : (sa : Nat) ≠ st2) (ninS (by omega : (sa : Nat) ≠ sc2) nin0)))
  have f566 := ((f539.keep K544 (ninS (by omega : (sa : Nat) ≠ st1) (ninS (by omega : (sa : Nat) ≠ sc1) nin0))).keep K556 (ninS (by omega : (sa : Nat) ≠ st2) (ninS (by omega : (sa : Nat) ≠ sc2) nin0)))
  have f567 := ((((f525.keep K526 (ninS (by omega : (tb : Nat) ≠ sb) nin0)).keep K534 (ninS (by omega : (tb : Nat) ≠ st1) (ninS (by omega : (tb : Nat) ≠ sc1) nin0))).keep K544 (ninS (by omega : (tb : Nat) ≠ st1) (ninS (by omega : (tb : Nat) ≠ sc1) nin0))).keep K556 (ninS (by omega : (tb : Nat) ≠ st2) (ninS (by omega : (tb : Nat) ≠ sc2) nin0)))
  have f568 := ((((f514.keep K526 (ninS (by omega : (cb : Nat) ≠ sb) nin0)).keep K534 (ninS (by omega : (cb : Nat) ≠ st1) (ninS (by omega : (cb : Nat) ≠ sc1) nin0))).keep K544 (ninS (by omega : (cb : Nat) ≠ st1) (ninS (by omega : (cb : Nat) ≠ sc1) nin0))).keep K556 (ninS (by omega : (cb : Nat) ≠ st2) (ninS (by omega : (cb : Nat) ≠ sc2) nin0)))
  have f569 := ((((f520.keep K526 (ninS (by omega : (rb : Nat) ≠ sb) nin0)).keep K534 (ninS (by omega : (rb : Nat) ≠ st1) (ninS (by omega : (rb : Nat) ≠ sc1) nin0))).keep K544 (ninS (by omega : (rb : Nat) ≠ st1) (ninS (by omega : (rb : Nat) ≠ sc1) nin0))).keep K556 (ninS (by omega : (rb : Nat) ≠ st2) (ninS (by omega : (rb : Nat) ≠ sc2) nin0)))
  have f570 := ((((f515.keep K526 (ninS (by omega : (mb : Nat) ≠ sb) nin0)).keep K534 (ninS (by omega : (mb : Nat) ≠ st1) (ninS (by omega : (mb : Nat) ≠ sc1) nin0))).keep K544 (ninS (by omega : (mb : Nat) ≠ st1) (ninS (by omega : (mb : Nat) ≠ sc1) nin0))).keep K556 (ninS (by omega : (mb : Nat) ≠ st2) (ninS (by omega : (mb : Nat) ≠ sc2) nin0)))
  have f571 := ((((f516.keep K526 (ninS (by omega : (qb : Nat) ≠ sb) nin0)).keep K534 (ninS (by omega : (qb : Nat) ≠ st1) (ninS (by omega : (qb : Nat) ≠ sc1) nin0))).keep K544 (ninS (by omega : (qb : Nat) ≠ st1) (ninS (by omega : (qb : Nat) ≠ sc1) nin0))).keep K556 (ninS (by omega : (qb : Nat) ≠ st2) (ninS (by omega : (qb : Nat) ≠ sc2) nin0)))
  have f572 := (f546.keep K556 (ninS (by omega : (st1 : Nat) ≠ st2) (ninS (by omega : (st1 : Nat) ≠ sc2) nin0)))
  have f573 := (f547.keep K556 (ninS (by omega : (sc1 : Nat) ≠ st2) (ninS (by omega : (sc1 : Nat) ≠ sc2) nin0)))
  have f574 := ((((f524.keep K526).keep K534).keep K544).keep K556)
  obtain ⟨cq575, kq575, q575a, q575b, q575c⟩ := isOf hZ e556 f574
  obtain ⟨_, _, ⟨T575, L575, k575, n575⟩, -, X575, ⟨Lc575, hQ575, l575, y575, z575⟩, st575⟩ := X556.virtualBack hx (y := (⟨"com/example/outcry/outcry/core/Tally", "add", "(Lcom/example/outcry/outcry/core/Tally$RunSums;)V"⟩ : MethodName)) (z := (⟨"com/example/outcry/outcry/core/Tally", "add", "(Lcom/example/outcry/outcry/core/Tally$RunSums;)V"⟩ : MethodName)) hown (mvT hZ (hw _ (List.mem_of_getElem? (i := 41) rfl))) (mvT hZ (hw _ (List.mem_of_getElem? (i := 42) rfl))) (notFace_of_selects (args := #[]) (mvT hZ (hw _ (List.mem_of_getElem? (i := 44) rfl)))) (mvT hZ (hw _ (List.mem_of_getElem? (i := 44) rfl))) (mvT hZ (hw _ (List.mem_of_getElem? (i := 43) rfl))) (by decide) (backOf (W := 0) (rm4 l Z a0 hw [] ta sa tb cb rb mb qb st1 sc1 k_tb k_cb k_rb k_mb k_qb k_st1 k_sc1 0 0 (0 : Int64) (0 : Int64) (0 : Int64) (0 : Int64) t10 t11 c10 c11 (FP.l2d 0) (FP.l2d 0) (FP.l2d 0) (FP.l2d 0) 1100 1500 0 h556 n0 Z557 f560 f561 f562 f563 f564 f565 f566 f567 f568 f569 f570 f571 f572 f573 ge_ta (by omega) (by omega) (by omega) (by omega) (by omega) (by omega) (by omega) (by omega) (own_b53 own_bd_0 (by decide)) (own_b53 own_bd_0 (by decide)) (own_b53 bt10 (by decide)) (own_b53 bt11 (by decide)) (by decide) own_bd_0 (by decide) own_bd_0 (by decide) ((l2d_mag 0).mono (by decide)) ((l2d_mag 0).mono (by decide)) ((l2d_mag 0).mono (by decide)) ((l2d_mag 0).mono (by decide)) (by decide) (by decide) (by decide) (by decide)) hZ (hw _ (List.mem_of_getElem? (i := 45) rfl)) (hw _ (List.mem_of_getElem? (i := 3) rfl)) (by decide) (by decide)) q575a q575c (g := (mkF m 230 #[.val (.int p0), .val (.int p1), .val (.int p2), .val (.int p3), .val (.int p4), .val (.int f5), .val (.int f6), .val (.int f7), .val (.int f8), .val (.int f9), .val (.ref r1), .val (.ref r2), .val (.ref r3), .val (.ref ta), .val (.ref sa), .val (.ref sb), .unset, .unset, .unset, .unset, .unset, .unset, .unset, .unset, .unset, .unset, .unset, .unset, .unset, .unset] [(.ref sa), (.ref ta)])) rfl (by rw [hml]; rfl) (Steps.refl _) (argsL := [(.ref sa)]) (rest := []) (lenOf pd_3 rfl) rfl (by show 2 * 0 + _ ≤ _; exact Nat.le_of_eq rfl) (hb hby at_230) (fun _ _ => ⟨rfl, e556, (by decide : 15 + 0 ≤ _), (by decide : 33 + 0 ≤ _)⟩)
  dsimp only [Pt.U, Pt.locs, Pt.cells, Pt.slots] at X575 l575 y575 z575 st575 hQ575
  subst l575 y575 z575
  obtain ⟨rfl, N575q, K575, Vt575, Vc575, v0a, v1a, y0a, y1a, z0a, z1a, Vr575, Vm575, Vq575, ⟨pv0a, bv0a⟩, ⟨pv1a, bv1a⟩, ⟨gm0a, gm1a⟩, ⟨gq0a, gq1a⟩⟩ := hQ575
  have N575 := Fr.app N556 N575q
  have Z576 : n0 ≤ T575.heap.size := Nat.le_trans Z557 K575.1
  obtain ⟨g0, eg0⟩ : ∃ z : Int64, z = (own_upd c10 0 t10) := ⟨_, rfl⟩
  obtain ⟨g1, eg1⟩ : ∃ z : Int64, z = (own_upd c11 0 t11) := ⟨_, rfl⟩
  have f577 : Arv Z T575.heap tb k_tb .double (2 : Int32) [(.double (FP.l2d g0)), (.double (FP.l2d g1))] (.double (FP.l2d 0)) := by rw [eg0, eg1]; exact Vt575
  obtain ⟨n0', en0⟩ : ∃ z : Int64, z = (own_upd c10 (0 : Int64) c10) := ⟨_, rfl⟩
  obtain ⟨n1', en1⟩ : ∃ z : Int64, z = (own_upd c11 (0 : Int64) c11) := ⟨_, rfl⟩
  have f578 : Arv Z T575.heap cb k_cb .long (2 : Int32) [(.long n0'), (.long n1')] (.long (0 : Int64)) := by rw [en0, en1]; exact Vc575
  have bg0 : own_bd (2 ^ 33) g0 := by rw [eg0]; exact own_bd_mono (own_bd_upd own_bd_0 bt10 (by decide) (by decide)) (by decide)
  have bg1 : own_bd (2 ^ 33) g1 := by rw [eg1]; exact own_bd_mono (own_bd_upd own_bd_0 bt11 (by decide) (by decide)) (by decide)
  have f579 := (f560.keep K575 (ninS (by omega : (ta : Nat) ≠ tb) (ninS (by omega : (ta : Nat) ≠ cb) (ninS (by omega : (ta : Nat) ≠ rb) (ninS (by omega : (ta : Nat) ≠ mb) (ninS (by omega : (ta : Nat) ≠ qb) nin0))))))
  have f580 := (f561.keep K575 (ninS (by omega : (ta : Nat) ≠ tb) (ninS (by omega : (ta : Nat) ≠ cb) (ninS (by omega : (ta : Nat) ≠ rb) (ninS (by omega : (ta : Nat) ≠ mb) (ninS (by omega : (ta : Nat) ≠ qb) nin0))))))
  have f581 := (f562.keep K575 (ninS (by omega : (ta : Nat) ≠ tb) (ninS (by omega : (ta : Nat) ≠ cb) (ninS (by omega : (ta : Nat) ≠ rb) (ninS (by omega : (ta : Nat) ≠ mb) (ninS (by omega : (ta : Nat) ≠ qb) nin0))))))
  have f582 := (f563.keep K575 (ninS (by omega : (ta : Nat) ≠ tb) (ninS (by omega : (ta : Nat) ≠ cb) (ninS (by omega : (ta : Nat) ≠ rb) (ninS (by omega : (ta : Nat) ≠ mb) (ninS (by omega : (ta : Nat) ≠ qb) nin0))))))
  have f583 := (f564.keep K575 (ninS (by omega : (ta : Nat) ≠ tb) (ninS (by omega : (ta : Nat) ≠ cb) (ninS (by omega : (ta : Nat) ≠ rb) (ninS (by omega : (ta : Nat) ≠ mb) (ninS (by omega : (ta : Nat) ≠ qb) nin0))))))
  have f584 := ((f550.keep K556 (ninS (by omega : (sb : Nat) ≠ st2) (ninS (by omega : (sb : Nat) ≠ sc2) nin0))).keep K575 (ninS (by omega : (sb : Nat) ≠ tb) (ninS (by omega : (sb : Nat) ≠ cb) (ninS (by omega : (sb : Nat) ≠ rb) (ninS (by omega : (sb : Nat) ≠ mb) (ninS (by omega : (sb : Nat) ≠ qb) nin0))))))
  have f585 := ((f551.keep K556 (ninS (by omega : (sb : Nat) ≠ st2) (ninS (by omega : (sb : Nat) ≠ sc2) nin0))).keep K575 (ninS (by omega : (sb : Nat) ≠ tb) (ninS (by omega : (sb : Nat) ≠ cb) (ninS (by omega : (sb : Nat) ≠ rb) (ninS (by omega : (sb : Nat) ≠ mb) (ninS (by omega : (sb : Nat) ≠ qb) nin0))))))
  have f586 := (f558.keep K575 (ninS (by omega : (st2 : Nat) ≠ tb) (ninS (by omega : (st2 : Nat) ≠ cb) (ninS (by omega : (st2 : Nat) ≠ rb) (ninS (by omega : (st2 : Nat) ≠ mb) (ninS (by omega : (st2 : Nat) ≠ qb) nin0))))))
  have f587 := (f559.keep K575 (ninS (by omega : (sc2 : Nat) ≠ tb) (ninS (by omega : (sc2 : Nat) ≠ cb) (ninS (by omega : (sc2 : Nat) ≠ rb) (ninS (by omega : (sc2 : Nat) ≠ mb) (ninS (by omega : (sc2 : Nat) ≠ qb) nin0))))))
  have f588 := (f574.keep K575)
  obtain ⟨cq589, kq589, q589a, q589b, q589c⟩ := isOf hZ rfl f588
  obtain ⟨_, _, ⟨T589, L589, k589, n589⟩, -, X589, ⟨Lc589, hQ589, l589, y589, z589⟩, st589⟩ := X575.virtualBack hx (y := (⟨"com/example/outcry/outcry/core/Tally", "add", "(Lcom/example/outcry/outcry/core/Tally$RunSums;)V"⟩ : MethodName)) (z := (⟨"com/example/outcry/outcry/core/Tally", "add", "(Lcom/example/outcry/outcry/core/Tally$RunSums;)V"⟩ : MethodName)) hown (mvT hZ (hw _ (List.mem_of_getElem? (i := 41) rfl))) (mvT hZ (hw _ (List.mem_of_getElem? (i := 42) rfl))) (notFace_of_selects (args := #[]) (mvT hZ (hw _ (List.mem_of_getElem? (i := 44) rfl)))) (mvT hZ (hw _ (List.mem_of_getElem? (i := 44) rfl))) (mvT hZ (hw _ (List.mem_of_getElem? (i := 43) rfl))) (by decide) (backOf (W := 0) (rm4 l Z a0 hw [] ta sb tb cb rb mb qb st2 sc2 k_tb k_cb k_rb k_mb k_qb k_st2 k_sc2 g0 g1 n0' n1' v0a v1a t20 t21 c20 c21 y0a y1a z0a z1a 1105 1502 1 T575.heap n0 Z576 f579 f580 f581 f582 f583 f584 f585 f577 f578 Vr575 Vm575 Vq575 f586 f587 ge_ta (by omega) (by omega) (by omega) (by omega) (by omega) (by omega) (by omega) (by omega) (own_b53 bg0 (by decide)) (own_b53 bg1 (by decide)) (own_b53 bt20 (by decide)) (own_b53 bt21 (by decide)) pv0a bv0a pv1a bv1a (by decide) gm0a gm1a gq0a gq1a (by decide) (by decide) (by decide) (by decide)) hZ (hw _ (List.mem_of_getElem? (i := 45) rfl)) (hw _ (List.mem_of_getElem? (i := 3) rfl)) (by decide) (by decide)) q589a q589c (g := (mkF m 237 #[.val (.int p0), .val (.int p1), .val (.int p2), .val (.int p3), .val (.int p4), .val (.int f5), .val (.int f6), .val (.int f7), .val (.int f8), .val (.int f9), .val (.ref r1), .val (.ref r2), .val (.ref r3), .val (.ref ta), .val (.ref sa), .val (.ref sb), .unset, .unset, .unset, .unset, .unset, .unset, .unset, .unset, .unset, .unset, .unset, .unset, .unset, .unset] [(.ref sb), (.ref ta)])) rfl (by rw [hml]; rfl) (Steps.refl _) (argsL := [(.ref sb)]) (rest := []) (lenOf pd_3 rfl) rfl (by show 2 * 0 + _ ≤ _; exact Nat.le_of_eq rfl) (hb hby at_237) (fun _ _ => ⟨rfl, rfl, (by decide : 15 + 0 ≤ _), (by decide : 33 + 0 ≤ _)⟩)
  dsimp only [Pt.U, Pt.locs, Pt.cells, Pt.slots] at X589 l589 y589 z589 st589 hQ589
  subst l589 y589 z589
  obtain ⟨rfl, N589q, K589, Vt589, Vc589, v0b, v1b, y0b, y1b, z0b, z1b, Vr589, Vm589, Vq589, ⟨pv0b, bv0b⟩, ⟨pv1b, bv1b⟩, ⟨gm0b, gm1b⟩, ⟨gq0b, gq1b⟩⟩ := hQ589
  have N589 := Fr.app N575 N589q
  have Z590 : n0 ≤ T589.heap.size := Nat.le_trans Z576 K589.1
  obtain ⟨fin0, fin1, fin2, fin3⟩ := own_final f5 f6 f7 f8 f9 p0.toInt64 p1.toInt64 p2.toInt64 p3.toInt64 ea0 ea1 ec0 ec1 et10 et11 ec10 ec11 et20 et21 ec20 ec21 eg0 eg1 en0 en1
  obtain ⟨u0, eu0⟩ : ∃ z, z = own_if f5 p0.toInt64 (p0.toInt64 + p1.toInt64) := ⟨_, rfl⟩
  obtain ⟨u1, eu1⟩ : ∃ z, z = own_if f5 (1 : Int64) ((1 : Int64) + (1 : Int64)) := ⟨_, rfl⟩
  obtain ⟨u2, eu2⟩ : ∃ z, z = own_if f7 (0 : Int64) ((0 : Int64) + p3.toInt64) := ⟨_, rfl⟩
  obtain ⟨u3, eu3⟩ : ∃ z, z = own_if f7 (0 : Int64) ((0 : Int64) + (1 : Int64)) := ⟨_, rfl⟩
  obtain ⟨u4, eu4⟩ : ∃ z, z = own_if f5 u2 (own_if f8 u2 (u2 + p0.toInt64)) := ⟨_, rfl⟩
  obtain ⟨u5, eu5⟩ : ∃ z, z = own_if f5 u3 (own_if f8 u3 (u3 + (1 : Int64))) := ⟨_, rfl⟩
  obtain ⟨u6, eu6⟩ : ∃ z, z = own_if f6 u0 (u0 + p2.toInt64) := ⟨_, rfl⟩
  obtain ⟨u7, eu7⟩ : ∃ z, z = own_if f6 u1 (u1 + (1 : Int64)) := ⟨_, rfl⟩
  obtain ⟨u8, eu8⟩ : ∃ z, z = own_if f6 u4 (own_if f9 u4 (u4 + p1.toInt64)) := ⟨_, rfl⟩
  obtain ⟨u9, eu9⟩ : ∃ z, z = own_if f6 u5 (own_if f9 u5 (u5 + (1 : Int64))) := ⟨_, rfl⟩
  rw [← eu0, ← eu6] at fin0
  rw [← eu1, ← eu7] at fin1
  rw [← eu2, ← eu4, ← eu8] at fin2
  rw [← eu3, ← eu5, ← eu9] at fin3
  have Gt : Arv Z T589.heap tb k_tb .double (2 : Int32) [(.double (FP.l2d u6)), (.double (FP.l2d u8))] (.double (FP.l2d 0)) := by rw [← fin0, ← fin2]; exact Vt589
  have Gc : Arv Z T589.heap cb k_cb .long (2 : Int32) [(.long u7), (.long u9)] (.long (0 : Int64)) := by rw [← fin1, ← fin3]; exact Vc589
  have f591 := (f579.keep K589 (ninS (by omega : (ta : Nat) ≠ tb) (ninS (by omega : (ta : Nat) ≠ cb) (ninS (by omega : (ta : Nat) ≠ rb) (ninS (by omega : (ta : Nat) ≠ mb) (ninS (by omega : (ta : Nat) ≠ qb) nin0))))))
  have f592 := (f580.keep K589 (ninS (by omega : (ta : Nat) ≠ tb) (ninS (by omega : (ta : Nat) ≠ cb) (ninS (by omega : (ta : Nat) ≠ rb) (ninS (by omega : (ta : Nat) ≠ mb) (ninS (by omega : (ta : Nat) ≠ qb) nin0))))))
  have f593 := (f588.keep K589)
  obtain ⟨cq594, kq594, q594a, q594b, q594c⟩ := isOf hZ rfl f593
  obtain ⟨_, _, ⟨T594, L594, k594, n594⟩, -, X594, ⟨Lc594, hQ594, l594, y594, z594⟩, st594⟩ := X589.virtualBack hx (y := (⟨"com/example/outcry/outcry/core/Tally", "mean", "(I)D"⟩ : MethodName)) (z := (⟨"com/example/outcry/outcry/core/Tally", "mean", "(I)D"⟩ : MethodName)) hown (mvT hZ (hw _ (List.mem_of_getElem? (i := 48) rfl))) (mvT hZ (hw _ (List.mem_of_getElem? (i := 49) rfl))) (notFace_of_selects (args := #[]) (mvT hZ (hw _ (List.mem_of_getElem? (i := 51) rfl)))) (mvT hZ (hw _ (List.mem_of_getElem? (i := 51) rfl))) (mvT hZ (hw _ (List.mem_of_getElem? (i := 50) rfl))) (by decide) (backOf (W := 0) (rm5 l Z a0 hw [] ta tb cb k_tb k_cb u6 u8 u7 u9 T589.heap n0 Z590 f591 f592 Gt Gc) hZ (hw _ (List.mem_of_getElem? (i := 52) rfl)) (hw _ (List.mem_of_getElem? (i := 3) rfl)) (by decide) (by decide)) q594a q594c (g := (mkF m 243 #[.val (.int p0), .val (.int p1), .val (.int p2), .val (.int p3), .val (.int p4), .val (.int f5), .val (.int f6), .val (.int f7), .val (.int f8), .val (.int f9), .val (.ref r1), .val (.ref r2), .val (.ref r3), .val (.ref ta), .val (.ref sa), .val (.ref sb), .unset, .unset, .unset, .unset, .unset, .unset, .unset, .unset, .unset, .unset, .unset, .unset, .unset, .unset] [(.int (0 : Int32)), (.ref ta)])) rfl (by rw [hml]; rfl) (Steps.refl _) (argsL := [(.int (0 : Int32))]) (rest := []) (lenOf pd_4 rfl) rfl (by show 2 * 0 + _ ≤ _; exact Nat.le_of_eq rfl) (hb hby at_243) (fun _ _ => ⟨rfl, rfl, (by decide : 15 + 0 ≤ _), (by decide : 33 + 0 ≤ _)⟩)
  dsimp only [Pt.U, Pt.locs, Pt.cells, Pt.slots] at X594 l594 y594 z594 st594 hQ594
  subst l594 y594 z594
  obtain ⟨rfl, N594q, eh594⟩ := hQ594
  have N594 := Fr.app N589 N594q
  obtain ⟨mm0, emm0⟩ : ∃ z, z = (own_mean u6 u7) := ⟨_, rfl⟩
  rw [← emm0] at st594
  obtain ⟨cq595, kq595, q595a, q595b, q595c⟩ := isOf hZ eh594 f593
  obtain ⟨_, _, ⟨T595, L595, k595, n595⟩, -, X595, ⟨Lc595, hQ595, l595, y595, z595⟩, st595⟩ := X594.virtualBack hx (y := (⟨"com/example/outcry/outcry/core/Tally", "mean", "(I)D"⟩ : MethodName)) (z := (⟨"com/example/outcry/outcry/core/Tally", "mean", "(I)D"⟩ : MethodName)) hown (mvT hZ (hw _ (List.mem_of_getElem? (i := 48) rfl))) (mvT hZ (hw _ (List.mem_of_getElem? (i := 49) rfl))) (notFace_of_selects (args := #[]) (mvT hZ (hw _ (List.mem_of_getElem? (i := 51) rfl)))) (mvT hZ (hw _ (List.mem_of_getElem? (i := 51) rfl))) (mvT hZ (hw _ (List.mem_of_getElem? (i := 50) rfl))) (by decide) (backOf (W := 0) (rm6 l Z a0 hw [] ta tb cb k_tb k_cb u6 u8 u7 u9 T589.heap n0 Z590 f591 f592 Gt Gc) hZ (hw _ (List.mem_of_getElem? (i := 52) rfl)) (hw _ (List.mem_of_getElem? (i := 3) rfl)) (by decide) (by decide)) q595a q595c (g := (mkF m 251 #[.val (.int p0), .val (.int p1), .val (.int p2), .val (.int p3), .val (.int p4), .val (.int f5), .val (.int f6), .val (.int f7), .val (.int f8), .val (.int f9), .val (.ref r1), .val (.ref r2), .val (.ref r3), .val (.ref ta), .val (.ref sa), .val (.ref sb), .val (.double mm0), .second, .unset, .unset, .unset, .unset, .unset, .unset, .unset, .unset, .unset, .unset, .unset, .unset] [(.int (1 : Int32)), (.ref ta)])) rfl (by rw [hml]; rfl) (Steps.refl _) (argsL := [(.int (1 : Int32))]) (rest := []) (lenOf pd_4 rfl) rfl (by show 2 * 0 + _ ≤ _; exact Nat.le_of_eq rfl) (hb hby at_251) (fun _ _ => ⟨rfl, eh594, (by decide : 15 + 0 ≤ _), (by decide : 33 + 0 ≤ _)⟩)
  dsimp only [Pt.U, Pt.locs, Pt.cells, Pt.slots] at X595 l595 y595 z595 st595 hQ595
  subst l595 y595 z595
  obtain ⟨rfl, N595q, eh595⟩ := hQ595
  have N595 := Fr.app N594 N595q
  obtain ⟨mm1, emm1⟩ : ∃ z, z = (own_mean u8 u9) := ⟨_, rfl⟩
  rw [← emm1] at st595
  obtain ⟨fs, hr, hrun, hended, hW, hsame⟩ := X595.leave (v := some (.int (1 : Int32))) (fun h => by rw [Bd.returns] at h; cases h)
  have k434 : Steps p.tables e below (T595.setTop (mkF m 434 #[.val (.int p0), .val (.int p1), .val (.int p2), .val (.int p3), .val (.int p4), .val (.int f5), .val (.int f6), .val (.int f7), .val (.int f8), .val (.int f9), .val (.ref r1), .val (.ref r2), .val (.ref r3), .val (.ref ta), .val (.ref sa), .val (.ref sb), .val (.double mm0), .second, .val (.double mm1), .second, .val (.long u6), .second, .val (.long u7), .second, .val (.long u8), .second, .val (.long u9), .second, .val (.int (1 : Int32)), .val (.int (1 : Int32))] [])) (T595.setFrames fs) := by
    show Steps p.tables e below (T595.setTop (mkF m 434 #[.val (.int p0), .val (.int p1), .val (.int p2), .val (.int p3), .val (.int p4), .val (.int f5), .val (.int f6), .val (.int f7), .val (.int f8), .val (.int f9), .val (.ref r1), .val (.ref r2), .val (.ref r3), .val (.ref ta), .val (.ref sa), .val (.ref sb), .val (.double mm0), .second, .val (.double mm1), .second, .val (.long u6), .second, .val (.long u7), .second, .val (.long u8), .second, .val (.long u9), .second, .val (.int (1 : Int32)), .val (.int (1 : Int32))] [])) _
    refine XS.iload X595.here hx rfl (hb hby at_434) rfl ?_
    show Steps p.tables e below (T595.setTop (mkF m 436 #[.val (.int p0), .val (.int p1), .val (.int p2), .val (.int p3), .val (.int p4), .val (.int f5), .val (.int f6), .val (.int f7), .val (.int f8), .val (.int f9), .val (.ref r1), .val (.ref r2), .val (.ref r3), .val (.ref ta), .val (.ref sa), .val (.ref sb), .val (.double mm0), .second, .val (.double mm1), .second, .val (.long u6), .second, .val (.long u7), .second, .val (.long u8), .second, .val (.long u9), .second, .val (.int (1 : Int32)), .val (.int (1 : Int32))] [(.int (1 : Int32))])) _
    refine XS.ifNo X595.here hx rfl (hb hby at_436) rfl (by decide) ?_
    show Steps p.tables e below (T595.setTop (mkF m 439 #[.val (.int p0), .val (.int p1), .val (.int p2), .val (.int p3), .val (.int p4), .val (.int f5), .val (.int f6), .val (.int f7), .val (.int f8), .val (.int f9), .val (.ref r1), .val (.ref r2), .val (.ref r3), .val (.ref ta), .val (.ref sa), .val (.ref sb), .val (.double mm0), .second, .val (.double mm1), .second, .val (.long u6), .second, .val (.long u7), .second, .val (.long u8), .second, .val (.long u9), .second, .val (.int (1 : Int32)), .val (.int (1 : Int32))] [])) _
    refine XS.iload X595.here hx rfl (hb hby at_439) rfl ?_
    show Steps p.tables e below (T595.setTop (mkF m 441 #[.val (.int p0), .val (.int p1), .val (.int p2), .val (.int p3), .val (.int p4), .val (.int f5), .val (.int f6), .val (.int f7), .val (.int f8), .val (.int f9), .val (.ref r1), .val (.ref r2), .val (.ref r3), .val (.ref ta), .val (.ref sa), .val (.ref sb), .val (.double mm0), .second, .val (.double mm1), .second, .val (.long u6), .second, .val (.long u7), .second, .val (.long u8), .second, .val (.long u9), .second, .val (.int (1 : Int32)), .val (.int (1 : Int32))] [(.int (1 : Int32))])) _
    refine XS.ifNo X595.here hx rfl (hb hby at_441) rfl (by decide) ?_
    show Steps p.tables e below (T595.setTop (mkF m 444 #[.val (.int p0), .val (.int p1), .val (.int p2), .val (.int p3), .val (.int p4), .val (.int f5), .val (.int f6), .val (.int f7), .val (.int f8), .val (.int f9), .val (.ref r1), .val (.ref r2), .val (.ref r3), .val (.ref ta), .val (.ref sa), .val (.ref sb), .val (.double mm0), .second, .val (.double mm1), .second, .val (.long u6), .second, .val (.long u7), .second, .val (.long u8), .second, .val (.long u9), .second, .val (.int (1 : Int32)), .val (.int (1 : Int32))] [])) _
    refine XS.iconst X595.here hx rfl (hb hby at_444) ?_
    show Steps p.tables e below (T595.setTop (mkF m 445 #[.val (.int p0), .val (.int p1), .val (.int p2), .val (.int p3), .val (.int p4), .val (.int f5), .val (.int f6), .val (.int f7), .val (.int f8), .val (.int f9), .val (.ref r1), .val (.ref r2), .val (.ref r3), .val (.ref ta), .val (.ref sa), .val (.ref sb), .val (.double mm0), .second, .val (.double mm1), .second, .val (.long u6), .second, .val (.long u7), .second, .val (.long u8), .second, .val (.long u9), .second, .val (.int (1 : Int32)), .val (.int (1 : Int32))] [(.int (1 : Int32))])) _
    refine XS.goto X595.here hx rfl (pc0 := 445) (pc' := 449) rfl (hb hby at_445) (by decide) (by decide) ?_
    show Steps p.tables e below (T595.setTop (mkF m 449 #[.val (.int p0), .val (.int p1), .val (.int p2), .val (.int p3), .val (.int p4), .val (.int f5), .val (.int f6), .val (.int f7), .val (.int f8), .val (.int f9), .val (.ref r1), .val (.ref r2), .val (.ref r3), .val (.ref ta), .val (.ref sa), .val (.ref sb), .val (.double mm0), .second, .val (.double mm1), .second, .val (.long u6), .second, .val (.long u7), .second, .val (.long u8), .second, .val (.long u9), .second, .val (.int (1 : Int32)), .val (.int (1 : Int32))] [(.int (1 : Int32))])) _
    exact retN X595 hx (t := .boolean) Bd.returns (by simp) (hb hby at_449) hr
  have k369 : Steps p.tables e below (T595.setTop (mkF m 369 #[.val (.int p0), .val (.int p1), .val (.int p2), .val (.int p3), .val (.int p4), .val (.int f5), .val (.int f6), .val (.int f7), .val (.int f8), .val (.int f9), .val (.ref r1), .val (.ref r2), .val (.ref r3), .val (.ref ta), .val (.ref sa), .val (.ref sb), .val (.double mm0), .second, .val (.double mm1), .second, .val (.long u6), .second, .val (.long u7), .second, .val (.long u8), .second, .val (.long u9), .second, .unset, .unset] [])) (T595.setFrames fs) := by
    have hN0 : ¬ u7 = (0 : Int64) := by rw [eu7, eu1]; exact own_cnt f5 f6
    show Steps p.tables e below (T595.setTop (mkF m 369 #[.val (.int p0), .val (.int p1), .val (.int p2), .val (.int p3), .val (.int p4), .val (.int f5), .val (.int f6), .val (.int f7), .val (.int f8), .val (.int f9), .val (.ref r1), .val (.ref r2), .val (.ref r3), .val (.ref ta), .val (.ref sa), .val (.ref sb), .val (.double mm0), .second, .val (.double mm1), .second, .val (.long u6), .second, .val (.long u7), .second, .val (.long u8), .second, .val (.long u9), .second, .unset, .unset] [])) _
    refine XS.dload X595.here hx rfl (hb hby at_369) rfl ?_
    show Steps p.tables e below (T595.setTop (mkF m 371 #[.val (.int p0), .val (.int p1), .val (.int p2), .val (.int p3), .val (.int p4), .val (.int f5), .val (.int f6), .val (.int f7), .val (.int f8), .val (.int f9), .val (.ref r1), .val (.ref r2), .val (.ref r3), .val (.ref ta), .val (.ref sa), .val (.ref sb), .val (.double mm0), .second, .val (.double mm1), .second, .val (.long u6), .second, .val (.long u7), .second, .val (.long u8), .second, .val (.long u9), .second, .unset, .unset] [(.double mm0)])) _
    refine XS.lload X595.here hx rfl (hb hby at_371) rfl ?_
    show Steps p.tables e below (T595.setTop (mkF m 373 #[.val (.int p0), .val (.int p1), .val (.int p2), .val (.int p3), .val (.int p4), .val (.int f5), .val (.int f6), .val (.int f7), .val (.int f8), .val (.int f9), .val (.ref r1), .val (.ref r2), .val (.ref r3), .val (.ref ta), .val (.ref sa), .val (.ref sb), .val (.double mm0), .second, .val (.double mm1), .second, .val (.long u6), .second, .val (.long u7), .second, .val (.long u8), .second, .val (.long u9), .second, .unset, .unset] [(.long u6), (.double mm0)])) _
    refine XS.l2dS X595.here hx rfl (v := (FP.l2d u6)) (hb hby at_373) rfl rfl ?_
    show Steps p.tables e below (T595.setTop (mkF m 374 #[.val (.int p0), .val (.int p1), .val (.int p2), .val (.int p3), .val (.int p4), .val (.int f5), .val (.int f6), .val (.int f7), .val (.int f8), .val (.int f9), .val (.ref r1), .val (.ref r2), .val (.ref r3), .val (.ref ta), .val (.ref sa), .val (.ref sb), .val (.double mm0), .second, .val (.double mm1), .second, .val (.long u6), .second, .val (.long u7), .second, .val (.long u8), .second, .val (.long u9), .second, .unset, .unset] [(.double (FP.l2d u6)), (.double mm0)])) _
    refine XS.lload X595.here hx rfl (hb hby at_374) rfl ?_
    show Steps p.tables e below (T595.setTop (mkF m 376 #[.val (.int p0), .val (.int p1), .val (.int p2), .val (.int p3), .val (.int p4), .val (.int f5), .val (.int f6), .val (.int f7), .val (.int f8), .val (.int f9), .val (.ref r1), .val (.ref r2), .val (.ref r3), .val (.ref ta), .val (.ref sa), .val (.ref sb), .val (.double mm0), .second, .val (.double mm1), .second, .val (.long u6), .second, .val (.long u7), .second, .val (.long u8), .second, .val (.long u9), .second, .unset, .unset] [(.long u7), (.double (FP.l2d u6)), (.double mm0)])) _
    refine XS.l2dS X595.here hx rfl (v := (FP.l2d u7)) (hb hby at_376) rfl rfl ?_
    show Steps p.tables e below (T595.setTop (mkF m 377 #[.val (.int p0), .val (.int p1), .val (.int p2), .val (.int p3), .val (.int p4), .val (.int f5), .val (.int f6), .val (.int f7), .val (.int f8), .val (.int f9), .val (.ref r1), .val (.ref r2), .val (.ref r3), .val (.ref ta), .val (.ref sa), .val (.ref sb), .val (.double mm0), .second, .val (.double mm1), .second, .val (.long u6), .second, .val (.long u7), .second, .val (.long u8), .second, .val (.long u9), .second, .unset, .unset] [(.double (FP.l2d u7)), (.double (FP.l2d u6)), (.double mm0)])) _
    refine XS.ddivS X595.here hx rfl (v := (FP.ddiv (FP.l2d u6) (FP.l2d u7))) (hb hby at_377) rfl (own_mean_nn hN0) rfl ?_
    show Steps p.tables e below (T595.setTop (mkF m 378 #[.val (.int p0), .val (.int p1), .val (.int p2), .val (.int p3), .val (.int p4), .val (.int f5), .val (.int f6), .val (.int f7), .val (.int f8), .val (.int f9), .val (.ref r1), .val (.ref r2), .val (.ref r3), .val (.ref ta), .val (.ref sa), .val (.ref sb), .val (.double mm0), .second, .val (.double mm1), .second, .val (.long u6), .second, .val (.long u7), .second, .val (.long u8), .second, .val (.long u9), .second, .unset, .unset] [(.double (FP.ddiv (FP.l2d u6) (FP.l2d u7))), (.double mm0)])) _
    refine XS.dcmpS X595.here hx rfl (v := (0 : Int32)) (hb hby at_378) rfl (dcmpV_eq (show mm0 = FP.ddiv (FP.l2d u6) (FP.l2d u7) from emm0.trans (if_neg hN0)) (by rw [show mm0 = FP.ddiv (FP.l2d u6) (FP.l2d u7) from emm0.trans (if_neg hN0)]; exact own_mean_nn hN0) .l) ?_
    show Steps p.tables e below (T595.setTop (mkF m 379 #[.val (.int p0), .val (.int p1), .val (.int p2), .val (.int p3), .val (.int p4), .val (.int f5), .val (.int f6), .val (.int f7), .val (.int f8), .val (.int f9), .val (.ref r1), .val (.ref r2), .val (.ref r3), .val (.ref ta), .val (.ref sa), .val (.ref sb), .val (.double mm0), .second, .val (.double mm1), .second, .val (.long u6), .second, .val (.long u7), .second, .val (.long u8), .second, .val (.long u9), .second, .unset, .unset] [(.int (0 : Int32))])) _
    refine XS.ifNo X595.here hx rfl (hb hby at_379) rfl (by decide) ?_
    show Steps p.tables e below (T595.setTop (mkF m 382 #[.val (.int p0), .val (.int p1), .val (.int p2), .val (.int p3), .val (.int p4), .val (.int f5), .val (.int f6), .val (.int f7), .val (.int f8), .val (.int f9), .val (.ref r1), .val (.ref r2), .val (.ref r3), .val (.ref ta), .val (.ref sa), .val (.ref sb), .val (.double mm0), .second, .val (.double mm1), .second, .val (.long u6), .second, .val (.long u7), .second, .val (.long u8), .second, .val (.long u9), .second, .unset, .unset] [])) _
    refine XS.iconst X595.here hx rfl (hb hby at_382) ?_
    show Steps p.tables e below (T595.setTop (mkF m 383 #[.val (.int p0), .val (.int p1), .val (.int p2), .val (.int p3), .val (.int p4), .val (.int f5), .val (.int f6), .val (.int f7), .val (.int f8), .val (.int f9), .val (.ref r1), .val (.ref r2), .val (.ref r3), .val (.ref ta), .val (.ref sa), .val (.ref sb), .val (.double mm0), .second, .val (.double mm1), .second, .val (.long u6), .second, .val (.long u7), .second, .val (.long u8), .second, .val (.long u9), .second, .unset, .unset] [(.int (1 : Int32))])) _
    refine XS.goto X595.here hx rfl (pc0 := 383) (pc' := 387) rfl (hb hby at_383) (by decide) (by decide) ?_
    show Steps p.tables e below (T595.setTop (mkF m 387 #[.val (.int p0), .val (.int p1), .val (.int p2), .val (.int p3), .val (.int p4), .val (.int f5), .val (.int f6), .val (.int f7), .val (.int f8), .val (.int f9), .val (.ref r1), .val (.ref r2), .val (.ref r3), .val (.ref ta), .val (.ref sa), .val (.ref sb), .val (.double mm0), .second, .val (.double mm1), .second, .val (.long u6), .second, .val (.long u7), .second, .val (.long u8), .second, .val (.long u9), .second, .unset, .unset] [(.int (1 : Int32))])) _
    refine XS.istore X595.here hx rfl (hb hby at_387) rfl (l' := #[.val (.int p0), .val (.int p1), .val (.int p2), .val (.int p3), .val (.int p4), .val (.int f5), .val (.int f6), .val (.int f7), .val (.int f8), .val (.int f9), .val (.ref r1), .val (.ref r2), .val (.ref r3), .val (.ref ta), .val (.ref sa), .val (.ref sb), .val (.double mm0), .second, .val (.double mm1), .second, .val (.long u6), .second, .val (.long u7), .second, .val (.long u8), .second, .val (.long u9), .second, .val (.int (1 : Int32)), .unset]) rfl ?_
    show Steps p.tables e below (T595.setTop (mkF m 389 #[.val (.int p0), .val (.int p1), .val (.int p2), .val (.int p3), .val (.int p4), .val (.int f5), .val (.int f6), .val (.int f7), .val (.int f8), .val (.int f9), .val (.ref r1), .val (.ref r2), .val (.ref r3), .val (.ref ta), .val (.ref sa), .val (.ref sb), .val (.double mm0), .second, .val (.double mm1), .second, .val (.long u6), .second, .val (.long u7), .second, .val (.long u8), .second, .val (.long u9), .second, .val (.int (1 : Int32)), .unset] [])) _
    refine XS.lload X595.here hx rfl (hb hby at_389) rfl ?_
    show Steps p.tables e below (T595.setTop (mkF m 391 #[.val (.int p0), .val (.int p1), .val (.int p2), .val (.int p3), .val (.int p4), .val (.int f5), .val (.int f6), .val (.int f7), .val (.int f8), .val (.int f9), .val (.ref r1), .val (.ref r2), .val (.ref r3), .val (.ref ta), .val (.ref sa), .val (.ref sb), .val (.double mm0), .second, .val (.double mm1), .second, .val (.long u6), .second, .val (.long u7), .second, .val (.long u8), .second, .val (.long u9), .second, .val (.int (1 : Int32)), .unset] [(.long u9)])) _
    refine XS.lconst X595.here hx rfl (hb hby at_391) ?_
    show Steps p.tables e below (T595.setTop (mkF m 392 #[.val (.int p0), .val (.int p1), .val (.int p2), .val (.int p3), .val (.int p4), .val (.int f5), .val (.int f6), .val (.int f7), .val (.int f8), .val (.int f9), .val (.ref r1), .val (.ref r2), .val (.ref r3), .val (.ref ta), .val (.ref sa), .val (.ref sb), .val (.double mm0), .second, .val (.double mm1), .second, .val (.long u6), .second, .val (.long u7), .second, .val (.long u8), .second, .val (.long u9), .second, .val (.int (1 : Int32)), .unset] [(.long (0 : Int64)), (.long u9)])) _
    refine XS.lcmp X595.here hx rfl (hb hby at_392) rfl ?_
    by_cases hN1 : u9 = (0 : Int64)
    · show Steps p.tables e below (T595.setTop (mkF m 393 #[.val (.int p0), .val (.int p1), .val (.int p2), .val (.int p3), .val (.int p4), .val (.int f5), .val (.int f6), .val (.int f7), .val (.int f8), .val (.int f9), .val (.ref r1), .val (.ref r2), .val (.ref r3), .val (.ref ta), .val (.ref sa), .val (.ref sb), .val (.double mm0), .second, .val (.double mm1), .second, .val (.long u6), .second, .val (.long u7), .second, .val (.long u8), .second, .val (.long u9), .second, .val (.int (1 : Int32)), .unset] [(.int (lcmpW u9 (0 : Int64)))])) _
      refine XS.ifNo X595.here hx rfl (hb hby at_393) rfl ((if0 _ _).trans (teq ((own_lc0 _).mpr hN1)).2) ?_
      show Steps p.tables e below (T595.setTop (mkF m 396 #[.val (.int p0), .val (.int p1), .val (.int p2), .val (.int p3), .val (.int p4), .val (.int f5), .val (.int f6), .val (.int f7), .val (.int f8), .val (.int f9), .val (.ref r1), .val (.ref r2), .val (.ref r3), .val (.ref ta), .val (.ref sa), .val (.ref sb), .val (.double mm0), .second, .val (.double mm1), .second, .val (.long u6), .second, .val (.long u7), .second, .val (.long u8), .second, .val (.long u9), .second, .val (.int (1 : Int32)), .unset] [])) _
      refine XS.dload X595.here hx rfl (hb hby at_396) rfl ?_
      show Steps p.tables e below (T595.setTop (mkF m 398 #[.val (.int p0), .val (.int p1), .val (.int p2), .val (.int p3), .val (.int p4), .val (.int f5), .val (.int f6), .val (.int f7), .val (.int f8), .val (.int f9), .val (.ref r1), .val (.ref r2), .val (.ref r3), .val (.ref ta), .val (.ref sa), .val (.ref sb), .val (.double mm0), .second, .val (.double mm1), .second, .val (.long u6), .second, .val (.long u7), .second, .val (.long u8), .second, .val (.long u9), .second, .val (.int (1 : Int32)), .unset] [(.double mm1)])) _
      refine XS.dload X595.here hx rfl (hb hby at_398) rfl ?_
      show Steps p.tables e below (T595.setTop (mkF m 400 #[.val (.int p0), .val (.int p1), .val (.int p2), .val (.int p3), .val (.int p4), .val (.int f5), .val (.int f6), .val (.int f7), .val (.int f8), .val (.int f9), .val (.ref r1), .val (.ref r2), .val (.ref r3), .val (.ref ta), .val (.ref sa), .val (.ref sb), .val (.double mm0), .second, .val (.double mm1), .second, .val (.long u6), .second, .val (.long u7), .second, .val (.long u8), .second, .val (.long u9), .second, .val (.int (1 : Int32)), .unset] [(.double mm1), (.double mm1)])) _
      refine XS.dcmpS X595.here hx rfl (v := (-1 : Int32)) (hb hby at_400) rfl (by rw [show mm1 = own_nan from emm1.trans (if_pos hN1)]; decide +kernel) ?_
      show Steps p.tables e below (T595.setTop (mkF m 401 #[.val (.int p0), .val (.int p1), .val (.int p2), .val (.int p3), .val (.int p4), .val (.int f5), .val (.int f6), .val (.int f7), .val (.int f8), .val (.int f9), .val (.ref r1), .val (.ref r2), .val (.ref r3), .val (.ref ta), .val (.ref sa), .val (.ref sb), .val (.double mm0), .second, .val (.double mm1), .second, .val (.long u6), .second, .val (.long u7), .second, .val (.long u8), .second, .val (.long u9), .second, .val (.int (1 : Int32)), .unset] [(.int (-1 : Int32))])) _
      refine XS.ifNo X595.here hx rfl (hb hby at_401) rfl (by decide) ?_
      show Steps p.tables e below (T595.setTop (mkF m 404 #[.val (.int p0), .val (.int p1), .val (.int p2), .val (.int p3), .val (.int p4), .val (.int f5), .val (.int f6), .val (.int f7), .val (.int f8), .val (.int f9), .val (.ref r1), .val (.ref r2), .val (.ref r3), .val (.ref ta), .val (.ref sa), .val (.ref sb), .val (.double mm0), .second, .val (.double mm1), .second, .val (.long u6), .second, .val (.long u7), .second, .val (.long u8), .second, .val (.long u9), .second, .val (.int (1 : Int32)), .unset] [])) _
      refine XS.iconst X595.here hx rfl (hb hby at_404) ?_
      show Steps p.tables e below (T595.setTop (mkF m 405 #[.val (.int p0), .val (.int p1), .val (.int p2), .val (.int p3), .val (.int p4), .val (.int f5), .val (.int f6), .val (.int f7), .val (.int f8), .val (.int f9), .val (.ref r1), .val (.ref r2), .val (.ref r3), .val (.ref ta), .val (.ref sa), .val (.ref sb), .val (.double mm0), .second, .val (.double mm1), .second, .val (.long u6), .second, .val (.long u7), .second, .val (.long u8), .second, .val (.long u9), .second, .val (.int (1 : Int32)), .unset] [(.int (1 : Int32))])) _
      refine XS.goto X595.here hx rfl (pc0 := 405) (pc' := 409) rfl (hb hby at_405) (by decide) (by decide) ?_
      show Steps p.tables e below (T595.setTop (mkF m 409 #[.val (.int p0), .val (.int p1), .val (.int p2), .val (.int p3), .val (.int p4), .val (.int f5), .val (.int f6), .val (.int f7), .val (.int f8), .val (.int f9), .val (.ref r1), .val (.ref r2), .val (.ref r3), .val (.ref ta), .val (.ref sa), .val (.ref sb), .val (.double mm0), .second, .val (.double mm1), .second, .val (.long u6), .second, .val (.long u7), .second, .val (.long u8), .second, .val (.long u9), .second, .val (.int (1 : Int32)), .unset] [(.int (1 : Int32))])) _
      refine XS.istore X595.here hx rfl (hb hby at_409) rfl (l' := #[.val (.int p0), .val (.int p1), .val (.int p2), .val (.int p3), .val (.int p4), .val (.int f5), .val (.int f6), .val (.int f7), .val (.int f8), .val (.int f9), .val (.ref r1), .val (.ref r2), .val (.ref r3), .val (.ref ta), .val (.ref sa), .val (.ref sb), .val (.double mm0), .second, .val (.double mm1), .second, .val (.long u6), .second, .val (.long u7), .second, .val (.long u8), .second, .val (.long u9), .second, .val (.int (1 : Int32)), .val (.int (1 : Int32))]) rfl ?_
      show Steps p.tables e below (T595.setTop (mkF m 411 #[.val (.int p0), .val (.int p1), .val (.int p2), .val (.int p3), .val (.int p4), .val (.int f5), .val (.int f6), .val (.int f7), .val (.int f8), .val (.int f9), .val (.ref r1), .val (.ref r2), .val (.ref r3), .val (.ref ta), .val (.ref sa), .val (.ref sb), .val (.double mm0), .second, .val (.double mm1), .second, .val (.long u6), .second, .val (.long u7), .second, .val (.long u8), .second, .val (.long u9), .second, .val (.int (1 : Int32)), .val (.int (1 : Int32))] [])) _
      refine XS.goto X595.here hx rfl (pc0 := 411) (pc' := 434) rfl (hb hby at_411) (by decide) (by decide) ?_
      exact k434
    · show Steps p.tables e below (T595.setTop (mkF m 393 #[.val (.int p0), .val (.int p1), .val (.int p2), .val (.int p3), .val (.int p4), .val (.int f5), .val (.int f6), .val (.int f7), .val (.int f8), .val (.int f9), .val (.ref r1), .val (.ref r2), .val (.ref r3), .val (.ref ta), .val (.ref sa), .val (.ref sb), .val (.double mm0), .second, .val (.double mm1), .second, .val (.long u6), .second, .val (.long u7), .second, .val (.long u8), .second, .val (.long u9), .second, .val (.int (1 : Int32)), .unset] [(.int (lcmpW u9 (0 : Int64)))])) _
      refine XS.ifYes X595.here hx rfl (pc0 := 393) (pc' := 414) rfl (hb hby at_393) rfl ((if0 _ _).trans (feq (fun q => hN1 ((own_lc0 _).mp q))).2) (by decide) (by decide) ?_
      show Steps p.tables e below (T595.setTop (mkF m 414 #[.val (.int p0), .val (.int p1), .val (.int p2), .val (.int p3), .val (.int p4), .val (.int f5), .val (.int f6), .val (.int f7), .val (.int f8), .val (.int f9), .val (.ref r1), .val (.ref r2), .val (.ref r3), .val (.ref ta), .val (.ref sa), .val (.ref sb), .val (.double mm0), .second, .val (.double mm1), .second, .val (.long u6), .second, .val (.long u7), .second, .val (.long u8), .second, .val (.long u9), .second, .val (.int (1 : Int32)), .unset] [])) _
      refine XS.dload X595.here hx rfl (hb hby at_414) rfl ?_
      show Steps p.tables e below (T595.setTop (mkF m 416 #[.val (.int p0), .val (.int p1), .val (.int p2), .val (.int p3), .val (.int p4), .val (.int f5), .val (.int f6), .val (.int f7), .val (.int f8), .val (.int f9), .val (.ref r1), .val (.ref r2), .val (.ref r3), .val (.ref ta), .val (.ref sa), .val (.ref sb), .val (.double mm0), .second, .val (.double mm1), .second, .val (.long u6), .second, .val (.long u7), .second, .val (.long u8), .second, .val (.long u9), .second, .val (.int (1 : Int32)), .unset] [(.double mm1)])) _
      refine XS.lload X595.here hx rfl (hb hby at_416) rfl ?_
      show Steps p.tables e below (T595.setTop (mkF m 418 #[.val (.int p0), .val (.int p1), .val (.int p2), .val (.int p3), .val (.int p4), .val (.int f5), .val (.int f6), .val (.int f7), .val (.int f8), .val (.int f9), .val (.ref r1), .val (.ref r2), .val (.ref r3), .val (.ref ta), .val (.ref sa), .val (.ref sb), .val (.double mm0), .second, .val (.double mm1), .second, .val (.long u6), .second, .val (.long u7), .second, .val (.long u8), .second, .val (.long u9), .second, .val (.int (1 : Int32)), .unset] [(.long u8), (.double mm1)])) _
      refine XS.l2dS X595.here hx rfl (v := (FP.l2d u8)) (hb hby at_418) rfl rfl ?_
      show Steps p.tables e below (T595.setTop (mkF m 419 #[.val (.int p0), .val (.int p1), .val (.int p2), .val (.int p3), .val (.int p4), .val (.int f5), .val (.int f6), .val (.int f7), .val (.int f8), .val (.int f9), .val (.ref r1), .val (.ref r2), .val (.ref r3), .val (.ref ta), .val (.ref sa), .val (.ref sb), .val (.double mm0), .second, .val (.double mm1), .second, .val (.long u6), .second, .val (.long u7), .second, .val (.long u8), .second, .val (.long u9), .second, .val (.int (1 : Int32)), .unset] [(.double (FP.l2d u8)), (.double mm1)])) _
      refine XS.lload X595.here hx rfl (hb hby at_419) rfl ?_
      show Steps p.tables e below (T595.setTop (mkF m 421 #[.val (.int p0), .val (.int p1), .val (.int p2), .val (.int p3), .val (.int p4), .val (.int f5), .val (.int f6), .val (.int f7), .val (.int f8), .val (.int f9), .val (.ref r1), .val (.ref r2), .val (.ref r3), .val (.ref ta), .val (.ref sa), .val (.ref sb), .val (.double mm0), .second, .val (.double mm1), .second, .val (.long u6), .second, .val (.long u7), .second, .val (.long u8), .second, .val (.long u9), .second, .val (.int (1 : Int32)), .unset] [(.long u9), (.double (FP.l2d u8)), (.double mm1)])) _
      refine XS.l2dS X595.here hx rfl (v := (FP.l2d u9)) (hb hby at_421) rfl rfl ?_
      show Steps p.tables e below (T595.setTop (mkF m 422 #[.val (.int p0), .val (.int p1), .val (.int p2), .val (.int p3), .val (.int p4), .val (.int f5), .val (.int f6), .val (.int f7), .val (.int f8), .val (.int f9), .val (.ref r1), .val (.ref r2), .val (.ref r3), .val (.ref ta), .val (.ref sa), .val (.ref sb), .val (.double mm0), .second, .val (.double mm1), .second, .val (.long u6), .second, .val (.long u7), .second, .val (.long u8), .second, .val (.long u9), .second, .val (.int (1 : Int32)), .unset] [(.double (FP.l2d u9)), (.double (FP.l2d u8)), (.double mm1)])) _
      refine XS.ddivS X595.here hx rfl (v := (FP.ddiv (FP.l2d u8) (FP.l2d u9))) (hb hby at_422) rfl (own_mean_nn hN1) rfl ?_
      show Steps p.tables e below (T595.setTop (mkF m 423 #[.val (.int p0), .val (.int p1), .val (.int p2), .val (.int p3), .val (.int p4), .val (.int f5), .val (.int f6), .val (.int f7), .val (.int f8), .val (.int f9), .val (.ref r1), .val (.ref r2), .val (.ref r3), .val (.ref ta), .val (.ref sa), .val (.ref sb), .val (.double mm0), .second, .val (.double mm1), .second, .val (.long u6), .second, .val (.long u7), .second, .val (.long u8), .second, .val (.long u9), .second, .val (.int (1 : Int32)), .unset] [(.double (FP.ddiv (FP.l2d u8) (FP.l2d u9))), (.double mm1)])) _
      refine XS.dcmpS X595.here hx rfl (v := (0 : Int32)) (hb hby at_423) rfl (dcmpV_eq (show mm1 = FP.ddiv (FP.l2d u8) (FP.l2d u9) from emm1.trans (if_neg hN1)) (by rw [show mm1 = FP.ddiv (FP.l2d u8) (FP.l2d u9) from emm1.trans (if_neg hN1)]; exact own_mean_nn hN1) .l) ?_
      show Steps p.tables e below (T595.setTop (mkF m 424 #[.val (.int p0), .val (.int p1), .val (.int p2), .val (.int p3), .val (.int p4), .val (.int f5), .val (.int f6), .val (.int f7), .val (.int f8), .val (.int f9), .val (.ref r1), .val (.ref r2), .val (.ref r3), .val (.ref ta), .val (.ref sa), .val (.ref sb), .val (.double mm0), .second, .val (.double mm1), .second, .val (.long u6), .second, .val (.long u7), .second, .val (.long u8), .second, .val (.long u9), .second, .val (.int (1 : Int32)), .unset] [(.int (0 : Int32))])) _
      refine XS.ifNo X595.here hx rfl (hb hby at_424) rfl (by decide) ?_
      show Steps p.tables e below (T595.setTop (mkF m 427 #[.val (.int p0), .val (.int p1), .val (.int p2), .val (.int p3), .val (.int p4), .val (.int f5), .val (.int f6), .val (.int f7), .val (.int f8), .val (.int f9), .val (.ref r1), .val (.ref r2), .val (.ref r3), .val (.ref ta), .val (.ref sa), .val (.ref sb), .val (.double mm0), .second, .val (.double mm1), .second, .val (.long u6), .second, .val (.long u7), .second, .val (.long u8), .second, .val (.long u9), .second, .val (.int (1 : Int32)), .unset] [])) _
      refine XS.iconst X595.here hx rfl (hb hby at_427) ?_
      show Steps p.tables e below (T595.setTop (mkF m 428 #[.val (.int p0), .val (.int p1), .val (.int p2), .val (.int p3), .val (.int p4), .val (.int f5), .val (.int f6), .val (.int f7), .val (.int f8), .val (.int f9), .val (.ref r1), .val (.ref r2), .val (.ref r3), .val (.ref ta), .val (.ref sa), .val (.ref sb), .val (.double mm0), .second, .val (.double mm1), .second, .val (.long u6), .second, .val (.long u7), .second, .val (.long u8), .second, .val (.long u9), .second, .val (.int (1 : Int32)), .unset] [(.int (1 : Int32))])) _
      refine XS.goto X595.here hx rfl (pc0 := 428) (pc' := 432) rfl (hb hby at_428) (by decide) (by decide) ?_
      show Steps p.tables e below (T595.setTop (mkF m 432 #[.val (.int p0), .val (.int p1), .val (.int p2), .val (.int p3), .val (.int p4), .val (.int f5), .val (.int f6), .val (.int f7), .val (.int f8), .val (.int f9), .val (.ref r1), .val (.ref r2), .val (.ref r3), .val (.ref ta), .val (.ref sa), .val (.ref sb), .val (.double mm0), .second, .val (.double mm1), .second, .val (.long u6), .second, .val (.long u7), .second, .val (.long u8), .second, .val (.long u9), .second, .val (.int (1 : Int32)), .unset] [(.int (1 : Int32))])) _
      refine XS.istore X595.here hx rfl (hb hby at_432) rfl (l' := #[.val (.int p0), .val (.int p1), .val (.int p2), .val (.int p3), .val (.int p4), .val (.int f5), .val (.int f6), .val (.int f7), .val (.int f8), .val (.int f9), .val (.ref r1), .val (.ref r2), .val (.ref r3), .val (.ref ta), .val (.ref sa), .val (.ref sb), .val (.double mm0), .second, .val (.double mm1), .second, .val (.long u6), .second, .val (.long u7), .second, .val (.long u8), .second, .val (.long u9), .second, .val (.int (1 : Int32)), .val (.int (1 : Int32))]) rfl ?_
      exact k434
  have k346 : Steps p.tables e below (T595.setTop (mkF m 346 #[.val (.int p0), .val (.int p1), .val (.int p2), .val (.int p3), .val (.int p4), .val (.int f5), .val (.int f6), .val (.int f7), .val (.int f8), .val (.int f9), .val (.ref r1), .val (.ref r2), .val (.ref r3), .val (.ref ta), .val (.ref sa), .val (.ref sb), .val (.double mm0), .second, .val (.double mm1), .second, .val (.long u6), .second, .val (.long u7), .second, .val (.long u4), .second, .val (.long u5), .second, .unset, .unset] [])) (T595.setFrames fs) := by
    by_cases hf0 : f6 = (0 : Int32)
    · show Steps p.tables e below (T595.setTop (mkF m 346 #[.val (.int p0), .val (.int p1), .val (.int p2), .val (.int p3), .val (.int p4), .val (.int f5), .val (.int f6), .val (.int f7), .val (.int f8), .val (.int f9), .val (.ref r1), .val (.ref r2), .val (.ref r3), .val (.ref ta), .val (.ref sa), .val (.ref sb), .val (.double mm0), .second, .val (.double mm1), .second, .val (.long u6), .second, .val (.long u7), .second, .val (.long u4), .second, .val (.long u5), .second, .unset, .unset] [])) _
      refine XS.iload X595.here hx rfl (hb hby at_346) rfl ?_
      show Steps p.tables e below (T595.setTop (mkF m 348 #[.val (.int p0), .val (.int p1), .val (.int p2), .val (.int p3), .val (.int p4), .val (.int f5), .val (.int f6), .val (.int f7), .val (.int f8), .val (.int f9), .val (.ref r1), .val (.ref r2), .val (.ref r3), .val (.ref ta), .val (.ref sa), .val (.ref sb), .val (.double mm0), .second, .val (.double mm1), .second, .val (.long u6), .second, .val (.long u7), .second, .val (.long u4), .second, .val (.long u5), .second, .unset, .unset] [(.int f6)])) _
      refine XS.ifYes X595.here hx rfl (pc0 := 348) (pc' := 369) rfl (hb hby at_348) rfl ((if0 _ _).trans (teq hf0).1) (by decide) (by decide) ?_
      show Steps p.tables e below (T595.setTop (mkF m 369 #[.val (.int p0), .val (.int p1), .val (.int p2), .val (.int p3), .val (.int p4), .val (.int f5), .val (.int f6), .val (.int f7), .val (.int f8), .val (.int f9), .val (.ref r1), .val (.ref r2), .val (.ref r3), .val (.ref ta), .val (.ref sa), .val (.ref sb), .val (.double mm0), .second, .val (.double mm1), .second, .val (.long u6), .second, .val (.long u7), .second, .val (.long u4), .second, .val (.long u5), .second, .unset, .unset] [])) _
      have kk := k369
      rw [(show u8 = u4 from eu8.trans (own_if0 hf0)), (show u9 = u5 from eu9.trans (own_if0 hf0))] at kk
      exact kk
    · by_cases hf1 : f9 = (0 : Int32)
      · show Steps p.tables e below (T595.setTop (mkF m 346 #[.val (.int p0), .val (.int p1), .val (.int p2), .val (.int p3), .val (.int p4), .val (.int f5), .val (.int f6), .val (.int f7), .val (.int f8), .val (.int f9), .val (.ref r1), .val (.ref r2), .val (.ref r3), .val (.ref ta), .val (.ref sa), .val (.ref sb), .val (.double mm0), .second, .val (.double mm1), .second, .val (.long u6), .second, .val (.long u7), .second, .val (.long u4), .second, .val (.long u5), .second, .unset, .unset] [])) _
        refine XS.iload X595.here hx rfl (hb hby at_346) rfl ?_
        show Steps p.tables e below (T595.setTop (mkF m 348 #[.val (.int p0), .val (.int p1), .val (.int p2), .val (.int p3), .val (.int p4), .val (.int f5), .val (.int f6), .val (.int f7), .val (.int f8), .val (.int f9), .val (.ref r1), .val (.ref r2), .val (.ref r3), .val (.ref ta), .val (.ref sa), .val (.ref sb), .val (.double mm0), .second, .val (.double mm1), .second, .val (.long u6), .second, .val (.long u7), .second, .val (.long u4), .second, .val (.long u5), .second, .unset, .unset] [(.int f6)])) _
        refine XS.ifNo X595.here hx rfl (hb hby at_348) rfl ((if0 _ _).trans (feq hf0).1) ?_
        show Steps p.tables e below (T595.setTop (mkF m 351 #[.val (.int p0), .val (.int p1), .val (.int p2), .val (.int p3), .val (.int p4), .val (.int f5), .val (.int f6), .val (.int f7), .val (.int f8), .val (.int f9), .val (.ref r1), .val (.ref r2), .val (.ref r3), .val (.ref ta), .val (.ref sa), .val (.ref sb), .val (.double mm0), .second, .val (.double mm1), .second, .val (.long u6), .second, .val (.long u7), .second, .val (.long u4), .second, .val (.long u5), .second, .unset, .unset] [])) _
        refine XS.iload X595.here hx rfl (hb hby at_351) rfl ?_
        show Steps p.tables e below (T595.setTop (mkF m 353 #[.val (.int p0), .val (.int p1), .val (.int p2), .val (.int p3), .val (.int p4), .val (.int f5), .val (.int f6), .val (.int f7), .val (.int f8), .val (.int f9), .val (.ref r1), .val (.ref r2), .val (.ref r3), .val (.ref ta), .val (.ref sa), .val (.ref sb), .val (.double mm0), .second, .val (.double mm1), .second, .val (.long u6), .second, .val (.long u7), .second, .val (.long u4), .second, .val (.long u5), .second, .unset, .unset] [(.int f9)])) _
        refine XS.ifYes X595.here hx rfl (pc0 := 353) (pc' := 369) rfl (hb hby at_353) rfl ((if0 _ _).trans (teq hf1).1) (by decide) (by decide) ?_
        show Steps p.tables e below (T595.setTop (mkF m 369 #[.val (.int p0), .val (.int p1), .val (.int p2), .val (.int p3), .val (.int p4), .val (.int f5), .val (.int f6), .val (.int f7), .val (.int f8), .val (.int f9), .val (.ref r1), .val (.ref r2), .val (.ref r3), .val (.ref ta), .val (.ref sa), .val (.ref sb), .val (.double mm0), .second, .val (.double mm1), .second, .val (.long u6), .second, .val (.long u7), .second, .val (.long u4), .second, .val (.long u5), .second, .unset, .unset] [])) _
        have kk := k369
        rw [(show u8 = u4 from eu8.trans ((own_if1 hf0).trans (own_if0 hf1))), (show u9 = u5 from eu9.trans ((own_if1 hf0).trans (own_if0 hf1)))] at kk
        exact kk
      · show Steps p.tables e below (T595.setTop (mkF m 346 #[.val (.int p0), .val (.int p1), .val (.int p2), .val (.int p3), .val (.int p4), .val (.int f5), .val (.int f6), .val (.int f7), .val (.int f8), .val (.int f9), .val (.ref r1), .val (.ref r2), .val (.ref r3), .val (.ref ta), .val (.ref sa), .val (.ref sb), .val (.double mm0), .second, .val (.double mm1), .second, .val (.long u6), .second, .val (.long u7), .second, .val (.long u4), .second, .val (.long u5), .second, .unset, .unset] [])) _
        refine XS.iload X595.here hx rfl (hb hby at_346) rfl ?_
        show Steps p.tables e below (T595.setTop (mkF m 348 #[.val (.int p0), .val (.int p1), .val (.int p2), .val (.int p3), .val (.int p4), .val (.int f5), .val (.int f6), .val (.int f7), .val (.int f8), .val (.int f9), .val (.ref r1), .val (.ref r2), .val (.ref r3), .val (.ref ta), .val (.ref sa), .val (.ref sb), .val (.double mm0), .second, .val (.double mm1), .second, .val (.long u6), .second, .val (.long u7), .second, .val (.long u4), .second, .val (.long u5), .second, .unset, .unset] [(.int f6)])) _
        refine XS.ifNo X595.here hx rfl (hb hby at_348) rfl ((if0 _ _).trans (feq hf0).1) ?_
        show Steps p.tables e below (T595.setTop (mkF m 351 #[.val (.int p0), .val (.int p1), .val (.int p2), .val (.int p3), .val (.int p4), .val (.int f5), .val (.int f6), .val (.int f7), .val (.int f8), .val (.int f9), .val (.ref r1), .val (.ref r2), .val (.ref r3), .val (.ref ta), .val (.ref sa), .val (.ref sb), .val (.double mm0), .second, .val (.double mm1), .second, .val (.long u6), .second, .val (.long u7), .second, .val (.long u4), .second, .val (.long u5), .second, .unset, .unset] [])) _
        refine XS.iload X595.here hx rfl (hb hby at_351) rfl ?_
        show Steps p.tables e below (T595.setTop (mkF m 353 #[.val (.int p0), .val (.int p1), .val (.int p2), .val (.int p3), .val (.int p4), .val (.int f5), .val (.int f6), .val (.int f7), .val (.int f8), .val (.int f9), .val (.ref r1), .val (.ref r2), .val (.ref r3), .val (.ref ta), .val (.ref sa), .val (.ref sb), .val (.double mm0), .second, .val (.double mm1), .second, .val (.long u6), .second, .val (.long u7), .second, .val (.long u4), .second, .val (.long u5), .second, .unset, .unset] [(.int f9)])) _
        refine XS.ifNo X595.here hx rfl (hb hby at_353) rfl ((if0 _ _).trans (feq hf1).1) ?_
        show Steps p.tables e below (T595.setTop (mkF m 356 #[.val (.int p0), .val (.int p1), .val (.int p2), .val (.int p3), .val (.int p4), .val (.int f5), .val (.int f6), .val (.int f7), .val (.int f8), .val (.int f9), .val (.ref r1), .val (.ref r2), .val (.ref r3), .val (.ref ta), .val (.ref sa), .val (.ref sb), .val (.double mm0), .second, .val (.double mm1), .second, .val (.long u6), .second, .val (.long u7), .second, .val (.long u4), .second, .val (.long u5), .second, .unset, .unset] [])) _
        refine XS.lload X595.here hx rfl (hb hby at_356) rfl ?_
        show Steps p.tables e below (T595.setTop (mkF m 358 #[.val (.int p0), .val (.int p1), .val (.int p2), .val (.int p3), .val (.int p4), .val (.int f5), .val (.int f6), .val (.int f7), .val (.int f8), .val (.int f9), .val (.ref r1), .val (.ref r2), .val (.ref r3), .val (.ref ta), .val (.ref sa), .val (.ref sb), .val (.double mm0), .second, .val (.double mm1), .second, .val (.long u6), .second, .val (.long u7), .second, .val (.long u4), .second, .val (.long u5), .second, .unset, .unset] [(.long u4)])) _
        refine XS.iloadN X595.here hx rfl (hb hby at_358) rfl ?_
        show Steps p.tables e below (T595.setTop (mkF m 359 #[.val (.int p0), .val (.int p1), .val (.int p2), .val (.int p3), .val (.int p4), .val (.int f5), .val (.int f6), .val (.int f7), .val (.int f8), .val (.int f9), .val (.ref r1), .val (.ref r2), .val (.ref r3), .val (.ref ta), .val (.ref sa), .val (.ref sb), .val (.double mm0), .second, .val (.double mm1), .second, .val (.long u6), .second, .val (.long u7), .second, .val (.long u4), .second, .val (.long u5), .second, .unset, .unset] [(.int p1), (.long u4)])) _
        refine XS.i2l X595.here hx rfl (hb hby at_359) rfl ?_
        show Steps p.tables e below (T595.setTop (mkF m 360 #[.val (.int p0), .val (.int p1), .val (.int p2), .val (.int p3), .val (.int p4), .val (.int f5), .val (.int f6), .val (.int f7), .val (.int f8), .val (.int f9), .val (.ref r1), .val (.ref r2), .val (.ref r3), .val (.ref ta), .val (.ref sa), .val (.ref sb), .val (.double mm0), .second, .val (.double mm1), .second, .val (.long u6), .second, .val (.long u7), .second, .val (.long u4), .second, .val (.long u5), .second, .unset, .unset] [(.long p1.toInt64), (.long u4)])) _
        refine XS.ladd X595.here hx rfl (hb hby at_360) rfl ?_
        show Steps p.tables e below (T595.setTop (mkF m 361 #[.val (.int p0), .val (.int p1), .val (.int p2), .val (.int p3), .val (.int p4), .val (.int f5), .val (.int f6), .val (.int f7), .val (.int f8), .val (.int f9), .val (.ref r1), .val (.ref r2), .val (.ref r3), .val (.ref ta), .val (.ref sa), .val (.ref sb), .val (.double mm0), .second, .val (.double mm1), .second, .val (.long u6), .second, .val (.long u7), .second, .val (.long u4), .second, .val (.long u5), .second, .unset, .unset] [(.long (u4 + p1.toInt64))])) _
        refine XS.lstore X595.here hx rfl (hb hby at_361) rfl (l' := #[.val (.int p0), .val (.int p1), .val (.int p2), .val (.int p3), .val (.int p4), .val (.int f5), .val (.int f6), .val (.int f7), .val (.int f8), .val (.int f9), .val (.ref r1), .val (.ref r2), .val (.ref r3), .val (.ref ta), .val (.ref sa), .val (.ref sb), .val (.double mm0), .second, .val (.double mm1), .second, .val (.long u6), .second, .val (.long u7), .second, .val (.long (u4 + p1.toInt64)), .second, .val (.long u5), .second, .unset, .unset]) rfl ?_
        show Steps p.tables e below (T595.setTop (mkF m 363 #[.val (.int p0), .val (.int p1), .val (.int p2), .val (.int p3), .val (.int p4), .val (.int f5), .val (.int f6), .val (.int f7), .val (.int f8), .val (.int f9), .val (.ref r1), .val (.ref r2), .val (.ref r3), .val (.ref ta), .val (.ref sa), .val (.ref sb), .val (.double mm0), .second, .val (.double mm1), .second, .val (.long u6), .second, .val (.long u7), .second, .val (.long (u4 + p1.toInt64)), .second, .val (.long u5), .second, .unset, .unset] [])) _
        refine XS.lload X595.here hx rfl (hb hby at_363) rfl ?_
        show Steps p.tables e below (T595.setTop (mkF m 365 #[.val (.int p0), .val (.int p1), .val (.int p2), .val (.int p3), .val (.int p4), .val (.int f5), .val (.int f6), .val (.int f7), .val (.int f8), .val (.int f9), .val (.ref r1), .val (.ref r2), .val (.ref r3), .val (.ref ta), .val (.ref sa), .val (.ref sb), .val (.double mm0), .second, .val (.double mm1), .second, .val (.long u6), .second, .val (.long u7), .second, .val (.long (u4 + p1.toInt64)), .second, .val (.long u5), .second, .unset, .unset] [(.long u5)])) _
        refine XS.lconst X595.here hx rfl (hb hby at_365) ?_
        show Steps p.tables e below (T595.setTop (mkF m 366 #[.val (.int p0), .val (.int p1), .val (.int p2), .val (.int p3), .val (.int p4), .val (.int f5), .val (.int f6), .val (.int f7), .val (.int f8), .val (.int f9), .val (.ref r1), .val (.ref r2), .val (.ref r3), .val (.ref ta), .val (.ref sa), .val (.ref sb), .val (.double mm0), .second, .val (.double mm1), .second, .val (.long u6), .second, .val (.long u7), .second, .val (.long (u4 + p1.toInt64)), .second, .val (.long u5), .second, .unset, .unset] [(.long (1 : Int64)), (.long u5)])) _
        refine XS.ladd X595.here hx rfl (hb hby at_366) rfl ?_
        show Steps p.tables e below (T595.setTop (mkF m 367 #[.val (.int p0), .val (.int p1), .val (.int p2), .val (.int p3), .val (.int p4), .val (.int f5), .val (.int f6), .val (.int f7), .val (.int f8), .val (.int f9), .val (.ref r1), .val (.ref r2), .val (.ref r3), .val (.ref ta), .val (.ref sa), .val (.ref sb), .val (.double mm0), .second, .val (.double mm1), .second, .val (.long u6), .second, .val (.long u7), .second, .val (.long (u4 + p1.toInt64)), .second, .val (.long u5), .second, .unset, .unset] [(.long (u5 + (1 : Int64)))])) _
        refine XS.lstore X595.here hx rfl (hb hby at_367) rfl (l' := #[.val (.int p0), .val (.int p1), .val (.int p2), .val (.int p3), .val (.int p4), .val (.int f5), .val (.int f6), .val (.int f7), .val (.int f8), .val (.int f9), .val (.ref r1), .val (.ref r2), .val (.ref r3), .val (.ref ta), .val (.ref sa), .val (.ref sb), .val (.double mm0), .second, .val (.double mm1), .second, .val (.long u6), .second, .val (.long u7), .second, .val (.long (u4 + p1.toInt64)), .second, .val (.long (u5 + (1 : Int64))), .second, .unset, .unset]) rfl ?_
        show Steps p.tables e below (T595.setTop (mkF m 369 #[.val (.int p0), .val (.int p1), .val (.int p2), .val (.int p3), .val (.int p4), .val (.int f5), .val (.int f6), .val (.int f7), .val (.int f8), .val (.int f9), .val (.ref r1), .val (.ref r2), .val (.ref r3), .val (.ref ta), .val (.ref sa), .val (.ref sb), .val (.double mm0), .second, .val (.double mm1), .second, .val (.long u6), .second, .val (.long u7), .second, .val (.long (u4 + p1.toInt64)), .second, .val (.long (u5 + (1 : Int64))), .second, .unset, .unset] [])) _
        have kk := k369
        rw [(show u8 = (u4 + p1.toInt64) from eu8.trans ((own_if1 hf0).trans (own_if1 hf1))), (show u9 = (u5 + (1 : Int64)) from eu9.trans ((own_if1 hf0).trans (own_if1 hf1)))] at kk
        exact kk
  have k323 : Steps p.tables e below (T595.setTop (mkF m 323 #[.val (.int p0), .val (.int p1), .val (.int p2), .val (.int p3), .val (.int p4), .val (.int f5), .val (.int f6), .val (.int f7), .val (.int f8), .val (.int f9), .val (.ref r1), .val (.ref r2), .val (.ref r3), .val (.ref ta), .val (.ref sa), .val (.ref sb), .val (.double mm0), .second, .val (.double mm1), .second, .val (.long u6), .second, .val (.long u7), .second, .val (.long u2), .second, .val (.long u3), .second, .unset, .unset] [])) (T595.setFrames fs) := by
    by_cases hf0 : f5 = (0 : Int32)
    · show Steps p.tables e below (T595.setTop (mkF m 323 #[.val (.int p0), .val (.int p1), .val (.int p2), .val (.int p3), .val (.int p4), .val (.int f5), .val (.int f6), .val (.int f7), .val (.int f8), .val (.int f9), .val (.ref r1), .val (.ref r2), .val (.ref r3), .val (.ref ta), .val (.ref sa), .val (.ref sb), .val (.double mm0), .second, .val (.double mm1), .second, .val (.long u6), .second, .val (.long u7), .second, .val (.long u2), .second, .val (.long u3), .second, .unset, .unset] [])) _
      refine XS.iload X595.here hx rfl (hb hby at_323) rfl ?_
      show Steps p.tables e below (T595.setTop (mkF m 325 #[.val (.int p0), .val (.int p1), .val (.int p2), .val (.int p3), .val (.int p4), .val (.int f5), .val (.int f6), .val (.int f7), .val (.int f8), .val (.int f9), .val (.ref r1), .val (.ref r2), .val (.ref r3), .val (.ref ta), .val (.ref sa), .val (.ref sb), .val (.double mm0), .second, .val (.double mm1), .second, .val (.long u6), .second, .val (.long u7), .second, .val (.long u2), .second, .val (.long u3), .second, .unset, .unset] [(.int f5)])) _
      refine XS.ifYes X595.here hx rfl (pc0 := 325) (pc' := 346) rfl (hb hby at_325) rfl ((if0 _ _).trans (teq hf0).1) (by decide) (by decide) ?_
      show Steps p.tables e below (T595.setTop (mkF m 346 #[.val (.int p0), .val (.int p1), .val (.int p2), .val (.int p3), .val (.int p4), .val (.int f5), .val (.int f6), .val (.int f7), .val (.int f8), .val (.int f9), .val (.ref r1), .val (.ref r2), .val (.ref r3), .val (.ref ta), .val (.ref sa), .val (.ref sb), .val (.double mm0), .second, .val (.double mm1), .second, .val (.long u6), .second, .val (.long u7), .second, .val (.long u2), .second, .val (.long u3), .second, .unset, .unset] [])) _
      have kk := k346
      rw [(show u4 = u2 from eu4.trans (own_if0 hf0)), (show u5 = u3 from eu5.trans (own_if0 hf0))] at kk
      exact kk
    · by_cases hf1 : f8 = (0 : Int32)
      · show Steps p.tables e below (T595.setTop (mkF m 323 #[.val (.int p0), .val (.int p1), .val (.int p2), .val (.int p3), .val (.int p4), .val (.int f5), .val (.int f6), .val (.int f7), .val (.int f8), .val (.int f9), .val (.ref r1), .val (.ref r2), .val (.ref r3), .val (.ref ta), .val (.ref sa), .val (.ref sb), .val (.double mm0), .second, .val (.double mm1), .second, .val (.long u6), .second, .val (.long u7), .second, .val (.long u2), .second, .val (.long u3), .second, .unset, .unset] [])) _
        refine XS.iload X595.here hx rfl (hb hby at_323) rfl ?_
        show Steps p.tables e below (T595.setTop (mkF m 325 #[.val (.int p0), .val (.int p1), .val (.int p2), .val (.int p3), .val (.int p4), .val (.int f5), .val (.int f6), .val (.int f7), .val (.int f8), .val (.int f9), .val (.ref r1), .val (.ref r2), .val (.ref r3), .val (.ref ta), .val (.ref sa), .val (.ref sb), .val (.double mm0), .second, .val (.double mm1), .second, .val (.long u6), .second, .val (.long u7), .second, .val (.long u2), .second, .val (.long u3), .second, .unset, .unset] [(.int f5)])) _
        refine XS.ifNo X595.here hx rfl (hb hby at_325) rfl ((if0 _ _).trans (feq hf0).1) ?_
        show Steps p.tables e below (T595.setTop (mkF m 328 #[.val (.int p0), .val (.int p1), .val (.int p2), .val (.int p3), .val (.int p4), .val (.int f5), .val (.int f6), .val (.int f7), .val (.int f8), .val (.int f9), .val (.ref r1), .val (.ref r2), .val (.ref r3), .val (.ref ta), .val (.ref sa), .val (.ref sb), .val (.double mm0), .second, .val (.double mm1), .second, .val (.long u6), .second, .val (.long u7), .second, .val (.long u2), .second, .val (.long u3), .second, .unset, .unset] [])) _
        refine XS.iload X595.here hx rfl (hb hby at_328) rfl ?_
        show Steps p.tables e below (T595.setTop (mkF m 330 #[.val (.int p0), .val (.int p1), .val (.int p2), .val (.int p3), .val (.int p4), .val (.int f5), .val (.int f6), .val (.int f7), .val (.int f8), .val (.int f9), .val (.ref r1), .val (.ref r2), .val (.ref r3), .val (.ref ta), .val (.ref sa), .val (.ref sb), .val (.double mm0), .second, .val (.double mm1), .second, .val (.long u6), .second, .val (.long u7), .second, .val (.long u2), .second, .val (.long u3), .second, .unset, .unset] [(.int f8)])) _
        refine XS.ifYes X595.here hx rfl (pc0 := 330) (pc' := 346) rfl (hb hby at_330) rfl ((if0 _ _).trans (teq hf1).1) (by decide) (by decide) ?_
        show Steps p.tables e below (T595.setTop (mkF m 346 #[.val (.int p0), .val (.int p1), .val (.int p2), .val (.int p3), .val (.int p4), .val (.int f5), .val (.int f6), .val (.int f7), .val (.int f8), .val (.int f9), .val (.ref r1), .val (.ref r2), .val (.ref r3), .val (.ref ta), .val (.ref sa), .val (.ref sb), .val (.double mm0), .second, .val (.double mm1), .second, .val (.long u6), .second, .val (.long u7), .second, .val (.long u2), .second, .val (.long u3), .second, .unset, .unset] [])) _
        have kk := k346
        rw [(show u4 = u2 from eu4.trans ((own_if1 hf0).trans (own_if0 hf1))), (show u5 = u3 from eu5.trans ((own_if1 hf0).trans (own_if0 hf1)))] at kk
        exact kk
      · show Steps p.tables e below (T595.setTop (mkF m 323 #[.val (.int p0), .val (.int p1), .val (.int p2), .val (.int p3), .val (.int p4), .val (.int f5), .val (.int f6), .val (.int f7), .val (.int f8), .val (.int f9), .val (.ref r1), .val (.ref r2), .val (.ref r3), .val (.ref ta), .val (.ref sa), .val (.ref sb), .val (.double mm0), .second, .val (.double mm1), .second, .val (.long u6), .second, .val (.long u7), .second, .val (.long u2), .second, .val (.long u3), .second, .unset, .unset] [])) _
        refine XS.iload X595.here hx rfl (hb hby at_323) rfl ?_
        show Steps p.tables e below (T595.setTop (mkF m 325 #[.val (.int p0), .val (.int p1), .val (.int p2), .val (.int p3), .val (.int p4), .val (.int f5), .val (.int f6), .val (.int f7), .val (.int f8), .val (.int f9), .val (.ref r1), .val (.ref r2), .val (.ref r3), .val (.ref ta), .val (.ref sa), .val (.ref sb), .val (.double mm0), .second, .val (.double mm1), .second, .val (.long u6), .second, .val (.long u7), .second, .val (.long u2), .second, .val (.long u3), .second, .unset, .unset] [(.int f5)])) _
        refine XS.ifNo X595.here hx rfl (hb hby at_325) rfl ((if0 _ _).trans (feq hf0).1) ?_
        show Steps p.tables e below (T595.setTop (mkF m 328 #[.val (.int p0), .val (.int p1), .val (.int p2), .val (.int p3), .val (.int p4), .val (.int f5), .val (.int f6), .val (.int f7), .val (.int f8), .val (.int f9), .val (.ref r1), .val (.ref r2), .val (.ref r3), .val (.ref ta), .val (.ref sa), .val (.ref sb), .val (.double mm0), .second, .val (.double mm1), .second, .val (.long u6), .second, .val (.long u7), .second, .val (.long u2), .second, .val (.long u3), .second, .unset, .unset] [])) _
        refine XS.iload X595.here hx rfl (hb hby at_328) rfl ?_
        show Steps p.tables e below (T595.setTop (mkF m 330 #[.val (.int p0), .val (.int p1), .val (.int p2), .val (.int p3), .val (.int p4), .val (.int f5), .val (.int f6), .val (.int f7), .val (.int f8), .val (.int f9), .val (.ref r1), .val (.ref r2), .val (.ref r3), .val (.ref ta), .val (.ref sa), .val (.ref sb), .val (.double mm0), .second, .val (.double mm1), .second, .val (.long u6), .second, .val (.long u7), .second, .val (.long u2), .second, .val (.long u3), .second, .unset, .unset] [(.int f8)])) _
        refine XS.ifNo X595.here hx rfl (hb hby at_330) rfl ((if0 _ _).trans (feq hf1).1) ?_
        show Steps p.tables e below (T595.setTop (mkF m 333 #[.val (.int p0), .val (.int p1), .val (.int p2), .val (.int p3), .val (.int p4), .val (.int f5), .val (.int f6), .val (.int f7), .val (.int f8), .val (.int f9), .val (.ref r1), .val (.ref r2), .val (.ref r3), .val (.ref ta), .val (.ref sa), .val (.ref sb), .val (.double mm0), .second, .val (.double mm1), .second, .val (.long u6), .second, .val (.long u7), .second, .val (.long u2), .second, .val (.long u3), .second, .unset, .unset] [])) _
        refine XS.lload X595.here hx rfl (hb hby at_333) rfl ?_
        show Steps p.tables e below (T595.setTop (mkF m 335 #[.val (.int p0), .val (.int p1), .val (.int p2), .val (.int p3), .val (.int p4), .val (.int f5), .val (.int f6), .val (.int f7), .val (.int f8), .val (.int f9), .val (.ref r1), .val (.ref r2), .val (.ref r3), .val (.ref ta), .val (.ref sa), .val (.ref sb), .val (.double mm0), .second, .val (.double mm1), .second, .val (.long u6), .second, .val (.long u7), .second, .val (.long u2), .second, .val (.long u3), .second, .unset, .unset] [(.long u2)])) _
        refine XS.iloadN X595.here hx rfl (hb hby at_335) rfl ?_
        show Steps p.tables e below (T595.setTop (mkF m 336 #[.val (.int p0), .val (.int p1), .val (.int p2), .val (.int p3), .val (.int p4), .val (.int f5), .val (.int f6), .val (.int f7), .val (.int f8), .val (.int f9), .val (.ref r1), .val (.ref r2), .val (.ref r3), .val (.ref ta), .val (.ref sa), .val (.ref sb), .val (.double mm0), .second, .val (.double mm1), .second, .val (.long u6), .second, .val (.long u7), .second, .val (.long u2), .second, .val (.long u3), .second, .unset, .unset] [(.int p0), (.long u2)])) _
        refine XS.i2l X595.here hx rfl (hb hby at_336) rfl ?_
        show Steps p.tables e below (T595.setTop (mkF m 337 #[.val (.int p0), .val (.int p1), .val (.int p2), .val (.int p3), .val (.int p4), .val (.int f5), .val (.int f6), .val (.int f7), .val (.int f8), .val (.int f9), .val (.ref r1), .val (.ref r2), .val (.ref r3), .val (.ref ta), .val (.ref sa), .val (.ref sb), .val (.double mm0), .second, .val (.double mm1), .second, .val (.long u6), .second, .val (.long u7), .second, .val (.long u2), .second, .val (.long u3), .second, .unset, .unset] [(.long p0.toInt64), (.long u2)])) _
        refine XS.ladd X595.here hx rfl (hb hby at_337) rfl ?_
        show Steps p.tables e below (T595.setTop (mkF m 338 #[.val (.int p0), .val (.int p1), .val (.int p2), .val (.int p3), .val (.int p4), .val (.int f5), .val (.int f6), .val (.int f7), .val (.int f8), .val (.int f9), .val (.ref r1), .val (.ref r2), .val (.ref r3), .val (.ref ta), .val (.ref sa), .val (.ref sb), .val (.double mm0), .second, .val (.double mm1), .second, .val (.long u6), .second, .val (.long u7), .second, .val (.long u2), .second, .val (.long u3), .second, .unset, .unset] [(.long (u2 + p0.toInt64))])) _
        refine XS.lstore X595.here hx rfl (hb hby at_338) rfl (l' := #[.val (.int p0), .val (.int p1), .val (.int p2), .val (.int p3), .val (.int p4), .val (.int f5), .val (.int f6), .val (.int f7), .val (.int f8), .val (.int f9), .val (.ref r1), .val (.ref r2), .val (.ref r3), .val (.ref ta), .val (.ref sa), .val (.ref sb), .val (.double mm0), .second, .val (.double mm1), .second, .val (.long u6), .second, .val (.long u7), .second, .val (.long (u2 + p0.toInt64)), .second, .val (.long u3), .second, .unset, .unset]) rfl ?_
        show Steps p.tables e below (T595.setTop (mkF m 340 #[.val (.int p0), .val (.int p1), .val (.int p2), .val (.int p3), .val (.int p4), .val (.int f5), .val (.int f6), .val (.int f7), .val (.int f8), .val (.int f9), .val (.ref r1), .val (.ref r2), .val (.ref r3), .val (.ref ta), .val (.ref sa), .val (.ref sb), .val (.double mm0), .second, .val (.double mm1), .second, .val (.long u6), .second, .val (.long u7), .second, .val (.long (u2 + p0.toInt64)), .second, .val (.long u3), .second, .unset, .unset] [])) _
        refine XS.lload X595.here hx rfl (hb hby at_340) rfl ?_
        show Steps p.tables e below (T595.setTop (mkF m 342 #[.val (.int p0), .val (.int p1), .val (.int p2), .val (.int p3), .val (.int p4), .val (.int f5), .val (.int f6), .val (.int f7), .val (.int f8), .val (.int f9), .val (.ref r1), .val (.ref r2), .val (.ref r3), .val (.ref ta), .val (.ref sa), .val (.ref sb), .val (.double mm0), .second, .val (.double mm1), .second, .val (.long u6), .second, .val (.long u7), .second, .val (.long (u2 + p0.toInt64)), .second, .val (.long u3), .second, .unset, .unset] [(.long u3)])) _
        refine XS.lconst X595.here hx rfl (hb hby at_342) ?_
        show Steps p.tables e below (T595.setTop (mkF m 343 #[.val (.int p0), .val (.int p1), .val (.int p2), .val (.int p3), .val (.int p4), .val (.int f5), .val (.int f6), .val (.int f7), .val (.int f8), .val (.int f9), .val (.ref r1), .val (.ref r2), .val (.ref r3), .val (.ref ta), .val (.ref sa), .val (.ref sb), .val (.double mm0), .second, .val (.double mm1), .second, .val (.long u6), .second, .val (.long u7), .second, .val (.long (u2 + p0.toInt64)), .second, .val (.long u3), .second, .unset, .unset] [(.long (1 : Int64)), (.long u3)])) _
        refine XS.ladd X595.here hx rfl (hb hby at_343) rfl ?_
        show Steps p.tables e below (T595.setTop (mkF m 344 #[.val (.int p0), .val (.int p1), .val (.int p2), .val (.int p3), .val (.int p4), .val (.int f5), .val (.int f6), .val (.int f7), .val (.int f8), .val (.int f9), .val (.ref r1), .val (.ref r2), .val (.ref r3), .val (.ref ta), .val (.ref sa), .val (.ref sb), .val (.double mm0), .second, .val (.double mm1), .second, .val (.long u6), .second, .val (.long u7), .second, .val (.long (u2 + p0.toInt64)), .second, .val (.long u3), .second, .unset, .unset] [(.long (u3 + (1 : Int64)))])) _
        refine XS.lstore X595.here hx rfl (hb hby at_344) rfl (l' := #[.val (.int p0), .val (.int p1), .val (.int p2), .val (.int p3), .val (.int p4), .val (.int f5), .val (.int f6), .val (.int f7), .val (.int f8), .val (.int f9), .val (.ref r1), .val (.ref r2), .val (.ref r3), .val (.ref ta), .val (.ref sa), .val (.ref sb), .val (.double mm0), .second, .val (.double mm1), .second, .val (.long u6), .second, .val (.long u7), .second, .val (.long (u2 + p0.toInt64)), .second, .val (.long (u3 + (1 : Int64))), .second, .unset, .unset]) rfl ?_
        show Steps p.tables e below (T595.setTop (mkF m 346 #[.val (.int p0), .val (.int p1), .val (.int p2), .val (.int p3), .val (.int p4), .val (.int f5), .val (.int f6), .val (.int f7), .val (.int f8), .val (.int f9), .val (.ref r1), .val (.ref r2), .val (.ref r3), .val (.ref ta), .val (.ref sa), .val (.ref sb), .val (.double mm0), .second, .val (.double mm1), .second, .val (.long u6), .second, .val (.long u7), .second, .val (.long (u2 + p0.toInt64)), .second, .val (.long (u3 + (1 : Int64))), .second, .unset, .unset] [])) _
        have kk := k346
        rw [(show u4 = (u2 + p0.toInt64) from eu4.trans ((own_if1 hf0).trans (own_if1 hf1))), (show u5 = (u3 + (1 : Int64)) from eu5.trans ((own_if1 hf0).trans (own_if1 hf1)))] at kk
        exact kk
  have k305 : Steps p.tables e below (T595.setTop (mkF m 305 #[.val (.int p0), .val (.int p1), .val (.int p2), .val (.int p3), .val (.int p4), .val (.int f5), .val (.int f6), .val (.int f7), .val (.int f8), .val (.int f9), .val (.ref r1), .val (.ref r2), .val (.ref r3), .val (.ref ta), .val (.ref sa), .val (.ref sb), .val (.double mm0), .second, .val (.double mm1), .second, .val (.long u6), .second, .val (.long u7), .second, .val (.long (0 : Int64)), .second, .val (.long (0 : Int64)), .second, .unset, .unset] [])) (T595.setFrames fs) := by
    by_cases hf0 : f7 = (0 : Int32)
    · show Steps p.tables e below (T595.setTop (mkF m 305 #[.val (.int p0), .val (.int p1), .val (.int p2), .val (.int p3), .val (.int p4), .val (.int f5), .val (.int f6), .val (.int f7), .val (.int f8), .val (.int f9), .val (.ref r1), .val (.ref r2), .val (.ref r3), .val (.ref ta), .val (.ref sa), .val (.ref sb), .val (.double mm0), .second, .val (.double mm1), .second, .val (.long u6), .second, .val (.long u7), .second, .val (.long (0 : Int64)), .second, .val (.long (0 : Int64)), .second, .unset, .unset] [])) _
      refine XS.iload X595.here hx rfl (hb hby at_305) rfl ?_
      show Steps p.tables e below (T595.setTop (mkF m 307 #[.val (.int p0), .val (.int p1), .val (.int p2), .val (.int p3), .val (.int p4), .val (.int f5), .val (.int f6), .val (.int f7), .val (.int f8), .val (.int f9), .val (.ref r1), .val (.ref r2), .val (.ref r3), .val (.ref ta), .val (.ref sa), .val (.ref sb), .val (.double mm0), .second, .val (.double mm1), .second, .val (.long u6), .second, .val (.long u7), .second, .val (.long (0 : Int64)), .second, .val (.long (0 : Int64)), .second, .unset, .unset] [(.int f7)])) _
      refine XS.ifYes X595.here hx rfl (pc0 := 307) (pc' := 323) rfl (hb hby at_307) rfl ((if0 _ _).trans (teq hf0).1) (by decide) (by decide) ?_
      show Steps p.tables e below (T595.setTop (mkF m 323 #[.val (.int p0), .val (.int p1), .val (.int p2), .val (.int p3), .val (.int p4), .val (.int f5), .val (.int f6), .val (.int f7), .val (.int f8), .val (.int f9), .val (.ref r1), .val (.ref r2), .val (.ref r3), .val (.ref ta), .val (.ref sa), .val (.ref sb), .val (.double mm0), .second, .val (.double mm1), .second, .val (.long u6), .second, .val (.long u7), .second, .val (.long (0 : Int64)), .second, .val (.long (0 : Int64)), .second, .unset, .unset] [])) _
      have kk := k323
      rw [(show u2 = (0 : Int64) from eu2.trans (own_if0 hf0)), (show u3 = (0 : Int64) from eu3.trans (own_if0 hf0))] at kk
      exact kk
    · show Steps p.tables e below (T595.setTop (mkF m 305 #[.val (.int p0), .val (.int p1), .val (.int p2), .val (.int p3), .val (.int p4), .val (.int f5), .val (.int f6), .val (.int f7), .val (.int f8), .val (.int f9), .val (.ref r1), .val (.ref r2), .val (.ref r3), .val (.ref ta), .val (.ref sa), .val (.ref sb), .val (.double mm0), .second, .val (.double mm1), .second, .val (.long u6), .second, .val (.long u7), .second, .val (.long (0 : Int64)), .second, .val (.long (0 : Int64)), .second, .unset, .unset] [])) _
      refine XS.iload X595.here hx rfl (hb hby at_305) rfl ?_
      show Steps p.tables e below (T595.setTop (mkF m 307 #[.val (.int p0), .val (.int p1), .val (.int p2), .val (.int p3), .val (.int p4), .val (.int f5), .val (.int f6), .val (.int f7), .val (.int f8), .val (.int f9), .val (.ref r1), .val (.ref r2), .val (.ref r3), .val (.ref ta), .val (.ref sa), .val (.ref sb), .val (.double mm0), .second, .val (.double mm1), .second, .val (.long u6), .second, .val (.long u7), .second, .val (.long (0 : Int64)), .second, .val (.long (0 : Int64)), .second, .unset, .unset] [(.int f7)])) _
      refine XS.ifNo X595.here hx rfl (hb hby at_307) rfl ((if0 _ _).trans (feq hf0).1) ?_
      show Steps p.tables e below (T595.setTop (mkF m 310 #[.val (.int p0), .val (.int p1), .val (.int p2), .val (.int p3), .val (.int p4), .val (.int f5), .val (.int f6), .val (.int f7), .val (.int f8), .val (.int f9), .val (.ref r1), .val (.ref r2), .val (.ref r3), .val (.ref ta), .val (.ref sa), .val (.ref sb), .val (.double mm0), .second, .val (.double mm1), .second, .val (.long u6), .second, .val (.long u7), .second, .val (.long (0 : Int64)), .second, .val (.long (0 : Int64)), .second, .unset, .unset] [])) _
      refine XS.lload X595.here hx rfl (hb hby at_310) rfl ?_
      show Steps p.tables e below (T595.setTop (mkF m 312 #[.val (.int p0), .val (.int p1), .val (.int p2), .val (.int p3), .val (.int p4), .val (.int f5), .val (.int f6), .val (.int f7), .val (.int f8), .val (.int f9), .val (.ref r1), .val (.ref r2), .val (.ref r3), .val (.ref ta), .val (.ref sa), .val (.ref sb), .val (.double mm0), .second, .val (.double mm1), .second, .val (.long u6), .second, .val (.long u7), .second, .val (.long (0 : Int64)), .second, .val (.long (0 : Int64)), .second, .unset, .unset] [(.long (0 : Int64))])) _
      refine XS.iloadN X595.here hx rfl (hb hby at_312) rfl ?_
      show Steps p.tables e below (T595.setTop (mkF m 313 #[.val (.int p0), .val (.int p1), .val (.int p2), .val (.int p3), .val (.int p4), .val (.int f5), .val (.int f6), .val (.int f7), .val (.int f8), .val (.int f9), .val (.ref r1), .val (.ref r2), .val (.ref r3), .val (.ref ta), .val (.ref sa), .val (.ref sb), .val (.double mm0), .second, .val (.double mm1), .second, .val (.long u6), .second, .val (.long u7), .second, .val (.long (0 : Int64)), .second, .val (.long (0 : Int64)), .second, .unset, .unset] [(.int p3), (.long (0 : Int64))])) _
      refine XS.i2l X595.here hx rfl (hb hby at_313) rfl ?_
      show Steps p.tables e below (T595.setTop (mkF m 314 #[.val (.int p0), .val (.int p1), .val (.int p2), .val (.int p3), .val (.int p4), .val (.int f5), .val (.int f6), .val (.int f7), .val (.int f8), .val (.int f9), .val (.ref r1), .val (.ref r2), .val (.ref r3), .val (.ref ta), .val (.ref sa), .val (.ref sb), .val (.double mm0), .second, .val (.double mm1), .second, .val (.long u6), .second, .val (.long u7), .second, .val (.long (0 : Int64)), .second, .val (.long (0 : Int64)), .second, .unset, .unset] [(.long p3.toInt64), (.long (0 : Int64))])) _
      refine XS.ladd X595.here hx rfl (hb hby at_314) rfl ?_
      show Steps p.tables e below (T595.setTop (mkF m 315 #[.val (.int p0), .val (.int p1), .val (.int p2), .val (.int p3), .val (.int p4), .val (.int f5), .val (.int f6), .val (.int f7), .val (.int f8), .val (.int f9), .val (.ref r1), .val (.ref r2), .val (.ref r3), .val (.ref ta), .val (.ref sa), .val (.ref sb), .val (.double mm0), .second, .val (.double mm1), .second, .val (.long u6), .second, .val (.long u7), .second, .val (.long (0 : Int64)), .second, .val (.long (0 : Int64)), .second, .unset, .unset] [(.long ((0 : Int64) + p3.toInt64))])) _
      refine XS.lstore X595.here hx rfl (hb hby at_315) rfl (l' := #[.val (.int p0), .val (.int p1), .val (.int p2), .val (.int p3), .val (.int p4), .val (.int f5), .val (.int f6), .val (.int f7), .val (.int f8), .val (.int f9), .val (.ref r1), .val (.ref r2), .val (.ref r3), .val (.ref ta), .val (.ref sa), .val (.ref sb), .val (.double mm0), .second, .val (.double mm1), .second, .val (.long u6), .second, .val (.long u7), .second, .val (.long ((0 : Int64) + p3.toInt64)), .second, .val (.long (0 : Int64)), .second, .unset, .unset]) rfl ?_
      show Steps p.tables e below (T595.setTop (mkF m 317 #[.val (.int p0), .val (.int p1), .val (.int p2), .val (.int p3), .val (.int p4), .val (.int f5), .val (.int f6), .val (.int f7), .val (.int f8), .val (.int f9), .val (.ref r1), .val (.ref r2), .val (.ref r3), .val (.ref ta), .val (.ref sa), .val (.ref sb), .val (.double mm0), .second, .val (.double mm1), .second, .val (.long u6), .second, .val (.long u7), .second, .val (.long ((0 : Int64) + p3.toInt64)), .second, .val (.long (0 : Int64)), .second, .unset, .unset] [])) _
      refine XS.lload X595.here hx rfl (hb hby at_317) rfl ?_
      show Steps p.tables e below (T595.setTop (mkF m 319 #[.val (.int p0), .val (.int p1), .val (.int p2), .val (.int p3), .val (.int p4), .val (.int f5), .val (.int f6), .val (.int f7), .val (.int f8), .val (.int f9), .val (.ref r1), .val (.ref r2), .val (.ref r3), .val (.ref ta), .val (.ref sa), .val (.ref sb), .val (.double mm0), .second, .val (.double mm1), .second, .val (.long u6), .second, .val (.long u7), .second, .val (.long ((0 : Int64) + p3.toInt64)), .second, .val (.long (0 : Int64)), .second, .unset, .unset] [(.long (0 : Int64))])) _
      refine XS.lconst X595.here hx rfl (hb hby at_319) ?_
      show Steps p.tables e below (T595.setTop (mkF m 320 #[.val (.int p0), .val (.int p1), .val (.int p2), .val (.int p3), .val (.int p4), .val (.int f5), .val (.int f6), .val (.int f7), .val (.int f8), .val (.int f9), .val (.ref r1), .val (.ref r2), .val (.ref r3), .val (.ref ta), .val (.ref sa), .val (.ref sb), .val (.double mm0), .second, .val (.double mm1), .second, .val (.long u6), .second, .val (.long u7), .second, .val (.long ((0 : Int64) + p3.toInt64)), .second, .val (.long (0 : Int64)), .second, .unset, .unset] [(.long (1 : Int64)), (.long (0 : Int64))])) _
      refine XS.ladd X595.here hx rfl (hb hby at_320) rfl ?_
      show Steps p.tables e below (T595.setTop (mkF m 321 #[.val (.int p0), .val (.int p1), .val (.int p2), .val (.int p3), .val (.int p4), .val (.int f5), .val (.int f6), .val (.int f7), .val (.int f8), .val (.int f9), .val (.ref r1), .val (.ref r2), .val (.ref r3), .val (.ref ta), .val (.ref sa), .val (.ref sb), .val (.double mm0), .second, .val (.double mm1), .second, .val (.long u6), .second, .val (.long u7), .second, .val (.long ((0 : Int64) + p3.toInt64)), .second, .val (.long (0 : Int64)), .second, .unset, .unset] [(.long ((0 : Int64) + (1 : Int64)))])) _
      refine XS.lstore X595.here hx rfl (hb hby at_321) rfl (l' := #[.val (.int p0), .val (.int p1), .val (.int p2), .val (.int p3), .val (.int p4), .val (.int f5), .val (.int f6), .val (.int f7), .val (.int f8), .val (.int f9), .val (.ref r1), .val (.ref r2), .val (.ref r3), .val (.ref ta), .val (.ref sa), .val (.ref sb), .val (.double mm0), .second, .val (.double mm1), .second, .val (.long u6), .second, .val (.long u7), .second, .val (.long ((0 : Int64) + p3.toInt64)), .second, .val (.long ((0 : Int64) + (1 : Int64))), .second, .unset, .unset]) rfl ?_
      show Steps p.tables e below (T595.setTop (mkF m 323 #[.val (.int p0), .val (.int p1), .val (.int p2), .val (.int p3), .val (.int p4), .val (.int f5), .val (.int f6), .val (.int f7), .val (.int f8), .val (.int f9), .val (.ref r1), .val (.ref r2), .val (.ref r3), .val (.ref ta), .val (.ref sa), .val (.ref sb), .val (.double mm0), .second, .val (.double mm1), .second, .val (.long u6), .second, .val (.long u7), .second, .val (.long ((0 : Int64) + p3.toInt64)), .second, .val (.long ((0 : Int64) + (1 : Int64))), .second, .unset, .unset] [])) _
      have kk := k323
      rw [(show u2 = ((0 : Int64) + p3.toInt64) from eu2.trans (own_if1 hf0)), (show u3 = ((0 : Int64) + (1 : Int64)) from eu3.trans (own_if1 hf0))] at kk
      exact kk
  have k299 : Steps p.tables e below (T595.setTop (mkF m 299 #[.val (.int p0), .val (.int p1), .val (.int p2), .val (.int p3), .val (.int p4), .val (.int f5), .val (.int f6), .val (.int f7), .val (.int f8), .val (.int f9), .val (.ref r1), .val (.ref r2), .val (.ref r3), .val (.ref ta), .val (.ref sa), .val (.ref sb), .val (.double mm0), .second, .val (.double mm1), .second, .val (.long u6), .second, .val (.long u7), .second, .unset, .unset, .unset, .unset, .unset, .unset] [])) (T595.setFrames fs) := by
    show Steps p.tables e below (T595.setTop (mkF m 299 #[.val (.int p0), .val (.int p1), .val (.int p2), .val (.int p3), .val (.int p4), .val (.int f5), .val (.int f6), .val (.int f7), .val (.int f8), .val (.int f9), .val (.ref r1), .val (.ref r2), .val (.ref r3), .val (.ref ta), .val (.ref sa), .val (.ref sb), .val (.double mm0), .second, .val (.double mm1), .second, .val (.long u6), .second, .val (.long u7), .second, .unset, .unset, .unset, .unset, .unset, .unset] [])) _
    refine XS.lconst X595.here hx rfl (hb hby at_299) ?_
    show Steps p.tables e below (T595.setTop (mkF m 300 #[.val (.int p0), .val (.int p1), .val (.int p2), .val (.int p3), .val (.int p4), .val (.int f5), .val (.int f6), .val (.int f7), .val (.int f8), .val (.int f9), .val (.ref r1), .val (.ref r2), .val (.ref r3), .val (.ref ta), .val (.ref sa), .val (.ref sb), .val (.double mm0), .second, .val (.double mm1), .second, .val (.long u6), .second, .val (.long u7), .second, .unset, .unset, .unset, .unset, .unset, .unset] [(.long (0 : Int64))])) _
    refine XS.lstore X595.here hx rfl (hb hby at_300) rfl (l' := #[.val (.int p0), .val (.int p1), .val (.int p2), .val (.int p3), .val (.int p4), .val (.int f5), .val (.int f6), .val (.int f7), .val (.int f8), .val (.int f9), .val (.ref r1), .val (.ref r2), .val (.ref r3), .val (.ref ta), .val (.ref sa), .val (.ref sb), .val (.double mm0), .second, .val (.double mm1), .second, .val (.long u6), .second, .val (.long u7), .second, .val (.long (0 : Int64)), .second, .unset, .unset, .unset, .unset]) rfl ?_
    show Steps p.tables e below (T595.setTop (mkF m 302 #[.val (.int p0), .val (.int p1), .val (.int p2), .val (.int p3), .val (.int p4), .val (.int f5), .val (.int f6), .val (.int f7), .val (.int f8), .val (.int f9), .val (.ref r1), .val (.ref r2), .val (.ref r3), .val (.ref ta), .val (.ref sa), .val (.ref sb), .val (.double mm0), .second, .val (.double mm1), .second, .val (.long u6), .second, .val (.long u7), .second, .val (.long (0 : Int64)), .second, .unset, .unset, .unset, .unset] [])) _
    refine XS.lconst X595.here hx rfl (hb hby at_302) ?_
    show Steps p.tables e below (T595.setTop (mkF m 303 #[.val (.int p0), .val (.int p1), .val (.int p2), .val (.int p3), .val (.int p4), .val (.int f5), .val (.int f6), .val (.int f7), .val (.int f8), .val (.int f9), .val (.ref r1), .val (.ref r2), .val (.ref r3), .val (.ref ta), .val (.ref sa), .val (.ref sb), .val (.double mm0), .second, .val (.double mm1), .second, .val (.long u6), .second, .val (.long u7), .second, .val (.long (0 : Int64)), .second, .unset, .unset, .unset, .unset] [(.long (0 : Int64))])) _
    refine XS.lstore X595.here hx rfl (hb hby at_303) rfl (l' := #[.val (.int p0), .val (.int p1), .val (.int p2), .val (.int p3), .val (.int p4), .val (.int f5), .val (.int f6), .val (.int f7), .val (.int f8), .val (.int f9), .val (.ref r1), .val (.ref r2), .val (.ref r3), .val (.ref ta), .val (.ref sa), .val (.ref sb), .val (.double mm0), .second, .val (.double mm1), .second, .val (.long u6), .second, .val (.long u7), .second, .val (.long (0 : Int64)), .second, .val (.long (0 : Int64)), .second, .unset, .unset]) rfl ?_
    exact k305
  have k281 : Steps p.tables e below (T595.setTop (mkF m 281 #[.val (.int p0), .val (.int p1), .val (.int p2), .val (.int p3), .val (.int p4), .val (.int f5), .val (.int f6), .val (.int f7), .val (.int f8), .val (.int f9), .val (.ref r1), .val (.ref r2), .val (.ref r3), .val (.ref ta), .val (.ref sa), .val (.ref sb), .val (.double mm0), .second, .val (.double mm1), .second, .val (.long u0), .second, .val (.long u1), .second, .unset, .unset, .unset, .unset, .unset, .unset] [])) (T595.setFrames fs) := by
    by_cases hf0 : f6 = (0 : Int32)
    · show Steps p.tables e below (T595.setTop (mkF m 281 #[.val (.int p0), .val (.int p1), .val (.int p2), .val (.int p3), .val (.int p4), .val (.int f5), .val (.int f6), .val (.int f7), .val (.int f8), .val (.int f9), .val (.ref r1), .val (.ref r2), .val (.ref r3), .val (.ref ta), .val (.ref sa), .val (.ref sb), .val (.double mm0), .second, .val (.double mm1), .second, .val (.long u0), .second, .val (.long u1), .second, .unset, .unset, .unset, .unset, .unset, .unset] [])) _
      refine XS.iload X595.here hx rfl (hb hby at_281) rfl ?_
      show Steps p.tables e below (T595.setTop (mkF m 283 #[.val (.int p0), .val (.int p1), .val (.int p2), .val (.int p3), .val (.int p4), .val (.int f5), .val (.int f6), .val (.int f7), .val (.int f8), .val (.int f9), .val (.ref r1), .val (.ref r2), .val (.ref r3), .val (.ref ta), .val (.ref sa), .val (.ref sb), .val (.double mm0), .second, .val (.double mm1), .second, .val (.long u0), .second, .val (.long u1), .second, .unset, .unset, .unset, .unset, .unset, .unset] [(.int f6)])) _
      refine XS.ifYes X595.here hx rfl (pc0 := 283) (pc' := 299) rfl (hb hby at_283) rfl ((if0 _ _).trans (teq hf0).1) (by decide) (by decide) ?_
      show Steps p.tables e below (T595.setTop (mkF m 299 #[.val (.int p0), .val (.int p1), .val (.int p2), .val (.int p3), .val (.int p4), .val (.int f5), .val (.int f6), .val (.int f7), .val (.int f8), .val (.int f9), .val (.ref r1), .val (.ref r2), .val (.ref r3), .val (.ref ta), .val (.ref sa), .val (.ref sb), .val (.double mm0), .second, .val (.double mm1), .second, .val (.long u0), .second, .val (.long u1), .second, .unset, .unset, .unset, .unset, .unset, .unset] [])) _
      have kk := k299
      rw [(show u6 = u0 from eu6.trans (own_if0 hf0)), (show u7 = u1 from eu7.trans (own_if0 hf0))] at kk
      exact kk
    · show Steps p.tables e below (T595.setTop (mkF m 281 #[.val (.int p0), .val (.int p1), .val (.int p2), .val (.int p3), .val (.int p4), .val (.int f5), .val (.int f6), .val (.int f7), .val (.int f8), .val (.int f9), .val (.ref r1), .val (.ref r2), .val (.ref r3), .val (.ref ta), .val (.ref sa), .val (.ref sb), .val (.double mm0), .second, .val (.double mm1), .second, .val (.long u0), .second, .val (.long u1), .second, .unset, .unset, .unset, .unset, .unset, .unset] [])) _
      refine XS.iload X595.here hx rfl (hb hby at_281) rfl ?_
      show Steps p.tables e below (T595.setTop (mkF m 283 #[.val (.int p0), .val (.int p1), .val (.int p2), .val (.int p3), .val (.int p4), .val (.int f5), .val (.int f6), .val (.int f7), .val (.int f8), .val (.int f9), .val (.ref r1), .val (.ref r2), .val (.ref r3), .val (.ref ta), .val (.ref sa), .val (.ref sb), .val (.double mm0), .second, .val (.double mm1), .second, .val (.long u0), .second, .val (.long u1), .second, .unset, .unset, .unset, .unset, .unset, .unset] [(.int f6)])) _
      refine XS.ifNo X595.here hx rfl (hb hby at_283) rfl ((if0 _ _).trans (feq hf0).1) ?_
      show Steps p.tables e below (T595.setTop (mkF m 286 #[.val (.int p0), .val (.int p1), .val (.int p2), .val (.int p3), .val (.int p4), .val (.int f5), .val (.int f6), .val (.int f7), .val (.int f8), .val (.int f9), .val (.ref r1), .val (.ref r2), .val (.ref r3), .val (.ref ta), .val (.ref sa), .val (.ref sb), .val (.double mm0), .second, .val (.double mm1), .second, .val (.long u0), .second, .val (.long u1), .second, .unset, .unset, .unset, .unset, .unset, .unset] [])) _
      refine XS.lload X595.here hx rfl (hb hby at_286) rfl ?_
      show Steps p.tables e below (T595.setTop (mkF m 288 #[.val (.int p0), .val (.int p1), .val (.int p2), .val (.int p3), .val (.int p4), .val (.int f5), .val (.int f6), .val (.int f7), .val (.int f8), .val (.int f9), .val (.ref r1), .val (.ref r2), .val (.ref r3), .val (.ref ta), .val (.ref sa), .val (.ref sb), .val (.double mm0), .second, .val (.double mm1), .second, .val (.long u0), .second, .val (.long u1), .second, .unset, .unset, .unset, .unset, .unset, .unset] [(.long u0)])) _
      refine XS.iloadN X595.here hx rfl (hb hby at_288) rfl ?_
      show Steps p.tables e below (T595.setTop (mkF m 289 #[.val (.int p0), .val (.int p1), .val (.int p2), .val (.int p3), .val (.int p4), .val (.int f5), .val (.int f6), .val (.int f7), .val (.int f8), .val (.int f9), .val (.ref r1), .val (.ref r2), .val (.ref r3), .val (.ref ta), .val (.ref sa), .val (.ref sb), .val (.double mm0), .second, .val (.double mm1), .second, .val (.long u0), .second, .val (.long u1), .second, .unset, .unset, .unset, .unset, .unset, .unset] [(.int p2), (.long u0)])) _
      refine XS.i2l X595.here hx rfl (hb hby at_289) rfl ?_
      show Steps p.tables e below (T595.setTop (mkF m 290 #[.val (.int p0), .val (.int p1), .val (.int p2), .val (.int p3), .val (.int p4), .val (.int f5), .val (.int f6), .val (.int f7), .val (.int f8), .val (.int f9), .val (.ref r1), .val (.ref r2), .val (.ref r3), .val (.ref ta), .val (.ref sa), .val (.ref sb), .val (.double mm0), .second, .val (.double mm1), .second, .val (.long u0), .second, .val (.long u1), .second, .unset, .unset, .unset, .unset, .unset, .unset] [(.long p2.toInt64), (.long u0)])) _
      refine XS.ladd X595.here hx rfl (hb hby at_290) rfl ?_
      show Steps p.tables e below (T595.setTop (mkF m 291 #[.val (.int p0), .val (.int p1), .val (.int p2), .val (.int p3), .val (.int p4), .val (.int f5), .val (.int f6), .val (.int f7), .val (.int f8), .val (.int f9), .val (.ref r1), .val (.ref r2), .val (.ref r3), .val (.ref ta), .val (.ref sa), .val (.ref sb), .val (.double mm0), .second, .val (.double mm1), .second, .val (.long u0), .second, .val (.long u1), .second, .unset, .unset, .unset, .unset, .unset, .unset] [(.long (u0 + p2.toInt64))])) _
      refine XS.lstore X595.here hx rfl (hb hby at_291) rfl (l' := #[.val (.int p0), .val (.int p1), .val (.int p2), .val (.int p3), .val (.int p4), .val (.int f5), .val (.int f6), .val (.int f7), .val (.int f8), .val (.int f9), .val (.ref r1), .val (.ref r2), .val (.ref r3), .val (.ref ta), .val (.ref sa), .val (.ref sb), .val (.double mm0), .second, .val (.double mm1), .second, .val (.long (u0 + p2.toInt64)), .second, .val (.long u1), .second, .unset, .unset, .unset, .unset, .unset, .unset]) rfl ?_
      show Steps p.tables e below (T595.setTop (mkF m 293 #[.val (.int p0), .val (.int p1), .val (.int p2), .val (.int p3), .val (.int p4), .val (.int f5), .val (.int f6), .val (.int f7), .val (.int f8), .val (.int f9), .val (.ref r1), .val (.ref r2), .val (.ref r3), .val (.ref ta), .val (.ref sa), .val (.ref sb), .val (.double mm0), .second, .val (.double mm1), .second, .val (.long (u0 + p2.toInt64)), .second, .val (.long u1), .second, .unset, .unset, .unset, .unset, .unset, .unset] [])) _
      refine XS.lload X595.here hx rfl (hb hby at_293) rfl ?_
      show Steps p.tables e below (T595.setTop (mkF m 295 #[.val (.int p0), .val (.int p1), .val (.int p2), .val (.int p3), .val (.int p4), .val (.int f5), .val (.int f6), .val (.int f7), .val (.int f8), .val (.int f9), .val (.ref r1), .val (.ref r2), .val (.ref r3), .val (.ref ta), .val (.ref sa), .val (.ref sb), .val (.double mm0), .second, .val (.double mm1), .second, .val (.long (u0 + p2.toInt64)), .second, .val (.long u1), .second, .unset, .unset, .unset, .unset, .unset, .unset] [(.long u1)])) _
      refine XS.lconst X595.here hx rfl (hb hby at_295) ?_
      show Steps p.tables e below (T595.setTop (mkF m 296 #[.val (.int p0), .val (.int p1), .val (.int p2), .val (.int p3), .val (.int p4), .val (.int f5), .val (.int f6), .val (.int f7), .val (.int f8), .val (.int f9), .val (.ref r1), .val (.ref r2), .val (.ref r3), .val (.ref ta), .val (.ref sa), .val (.ref sb), .val (.double mm0), .second, .val (.double mm1), .second, .val (.long (u0 + p2.toInt64)), .second, .val (.long u1), .second, .unset, .unset, .unset, .unset, .unset, .unset] [(.long (1 : Int64)), (.long u1)])) _
      refine XS.ladd X595.here hx rfl (hb hby at_296) rfl ?_
      show Steps p.tables e below (T595.setTop (mkF m 297 #[.val (.int p0), .val (.int p1), .val (.int p2), .val (.int p3), .val (.int p4), .val (.int f5), .val (.int f6), .val (.int f7), .val (.int f8), .val (.int f9), .val (.ref r1), .val (.ref r2), .val (.ref r3), .val (.ref ta), .val (.ref sa), .val (.ref sb), .val (.double mm0), .second, .val (.double mm1), .second, .val (.long (u0 + p2.toInt64)), .second, .val (.long u1), .second, .unset, .unset, .unset, .unset, .unset, .unset] [(.long (u1 + (1 : Int64)))])) _
      refine XS.lstore X595.here hx rfl (hb hby at_297) rfl (l' := #[.val (.int p0), .val (.int p1), .val (.int p2), .val (.int p3), .val (.int p4), .val (.int f5), .val (.int f6), .val (.int f7), .val (.int f8), .val (.int f9), .val (.ref r1), .val (.ref r2), .val (.ref r3), .val (.ref ta), .val (.ref sa), .val (.ref sb), .val (.double mm0), .second, .val (.double mm1), .second, .val (.long (u0 + p2.toInt64)), .second, .val (.long (u1 + (1 : Int64))), .second, .unset, .unset, .unset, .unset, .unset, .unset]) rfl ?_
      show Steps p.tables e below (T595.setTop (mkF m 299 #[.val (.int p0), .val (.int p1), .val (.int p2), .val (.int p3), .val (.int p4), .val (.int f5), .val (.int f6), .val (.int f7), .val (.int f8), .val (.int f9), .val (.ref r1), .val (.ref r2), .val (.ref r3), .val (.ref ta), .val (.ref sa), .val (.ref sb), .val (.double mm0), .second, .val (.double mm1), .second, .val (.long (u0 + p2.toInt64)), .second, .val (.long (u1 + (1 : Int64))), .second, .unset, .unset, .unset, .unset, .unset, .unset] [])) _
      have kk := k299
      rw [(show u6 = (u0 + p2.toInt64) from eu6.trans (own_if1 hf0)), (show u7 = (u1 + (1 : Int64)) from eu7.trans (own_if1 hf0))] at kk
      exact kk
  have k263 : Steps p.tables e below (T595.setTop (mkF m 263 #[.val (.int p0), .val (.int p1), .val (.int p2), .val (.int p3), .val (.int p4), .val (.int f5), .val (.int f6), .val (.int f7), .val (.int f8), .val (.int f9), .val (.ref r1), .val (.ref r2), .val (.ref r3), .val (.ref ta), .val (.ref sa), .val (.ref sb), .val (.double mm0), .second, .val (.double mm1), .second, .val (.long p0.toInt64), .second, .val (.long (1 : Int64)), .second, .unset, .unset, .unset, .unset, .unset, .unset] [])) (T595.setFrames fs) := by
    by_cases hf0 : f5 = (0 : Int32)
    · show Steps p.tables e below (T595.setTop (mkF m 263 #[.val (.int p0), .val (.int p1), .val (.int p2), .val (.int p3), .val (.int p4), .val (.int f5), .val (.int f6), .val (.int f7), .val (.int f8), .val (.int f9), .val (.ref r1), .val (.ref r2), .val (.ref r3), .val (.ref ta), .val (.ref sa), .val (.ref sb), .val (.double mm0), .second, .val (.double mm1), .second, .val (.long p0.toInt64), .second, .val (.long (1 : Int64)), .second, .unset, .unset, .unset, .unset, .unset, .unset] [])) _
      refine XS.iload X595.here hx rfl (hb hby at_263) rfl ?_
      show Steps p.tables e below (T595.setTop (mkF m 265 #[.val (.int p0), .val (.int p1), .val (.int p2), .val (.int p3), .val (.int p4), .val (.int f5), .val (.int f6), .val (.int f7), .val (.int f8), .val (.int f9), .val (.ref r1), .val (.ref r2), .val (.ref r3), .val (.ref ta), .val (.ref sa), .val (.ref sb), .val (.double mm0), .second, .val (.double mm1), .second, .val (.long p0.toInt64), .second, .val (.long (1 : Int64)), .second, .unset, .unset, .unset, .unset, .unset, .unset] [(.int f5)])) _
      refine XS.ifYes X595.here hx rfl (pc0 := 265) (pc' := 281) rfl (hb hby at_265) rfl ((if0 _ _).trans (teq hf0).1) (by decide) (by decide) ?_
      show Steps p.tables e below (T595.setTop (mkF m 281 #[.val (.int p0), .val (.int p1), .val (.int p2), .val (.int p3), .val (.int p4), .val (.int f5), .val (.int f6), .val (.int f7), .val (.int f8), .val (.int f9), .val (.ref r1), .val (.ref r2), .val (.ref r3), .val (.ref ta), .val (.ref sa), .val (.ref sb), .val (.double mm0), .second, .val (.double mm1), .second, .val (.long p0.toInt64), .second, .val (.long (1 : Int64)), .second, .unset, .unset, .unset, .unset, .unset, .unset] [])) _
      have kk := k281
      rw [(show u0 = p0.toInt64 from eu0.trans (own_if0 hf0)), (show u1 = (1 : Int64) from eu1.trans (own_if0 hf0))] at kk
      exact kk
    · show Steps p.tables e below (T595.setTop (mkF m 263 #[.val (.int p0), .val (.int p1), .val (.int p2), .val (.int p3), .val (.int p4), .val (.int f5), .val (.int f6), .val (.int f7), .val (.int f8), .val (.int f9), .val (.ref r1), .val (.ref r2), .val (.ref r3), .val (.ref ta), .val (.ref sa), .val (.ref sb), .val (.double mm0), .second, .val (.double mm1), .second, .val (.long p0.toInt64), .second, .val (.long (1 : Int64)), .second, .unset, .unset, .unset, .unset, .unset, .unset] [])) _
      refine XS.iload X595.here hx rfl (hb hby at_263) rfl ?_
      show Steps p.tables e below (T595.setTop (mkF m 265 #[.val (.int p0), .val (.int p1), .val (.int p2), .val (.int p3), .val (.int p4), .val (.int f5), .val (.int f6), .val (.int f7), .val (.int f8), .val (.int f9), .val (.ref r1), .val (.ref r2), .val (.ref r3), .val (.ref ta), .val (.ref sa), .val (.ref sb), .val (.double mm0), .second, .val (.double mm1), .second, .val (.long p0.toInt64), .second, .val (.long (1 : Int64)), .second, .unset, .unset, .unset, .unset, .unset, .unset] [(.int f5)])) _
      refine XS.ifNo X595.here hx rfl (hb hby at_265) rfl ((if0 _ _).trans (feq hf0).1) ?_
      show Steps p.tables e below (T595.setTop (mkF m 268 #[.val (.int p0), .val (.int p1), .val (.int p2), .val (.int p3), .val (.int p4), .val (.int f5), .val (.int f6), .val (.int f7), .val (.int f8), .val (.int f9), .val (.ref r1), .val (.ref r2), .val (.ref r3), .val (.ref ta), .val (.ref sa), .val (.ref sb), .val (.double mm0), .second, .val (.double mm1), .second, .val (.long p0.toInt64), .second, .val (.long (1 : Int64)), .second, .unset, .unset, .unset, .unset, .unset, .unset] [])) _
      refine XS.lload X595.here hx rfl (hb hby at_268) rfl ?_
      show Steps p.tables e below (T595.setTop (mkF m 270 #[.val (.int p0), .val (.int p1), .val (.int p2), .val (.int p3), .val (.int p4), .val (.int f5), .val (.int f6), .val (.int f7), .val (.int f8), .val (.int f9), .val (.ref r1), .val (.ref r2), .val (.ref r3), .val (.ref ta), .val (.ref sa), .val (.ref sb), .val (.double mm0), .second, .val (.double mm1), .second, .val (.long p0.toInt64), .second, .val (.long (1 : Int64)), .second, .unset, .unset, .unset, .unset, .unset, .unset] [(.long p0.toInt64)])) _
      refine XS.iloadN X595.here hx rfl (hb hby at_270) rfl ?_
      show Steps p.tables e below (T595.setTop (mkF m 271 #[.val (.int p0), .val (.int p1), .val (.int p2), .val (.int p3), .val (.int p4), .val (.int f5), .val (.int f6), .val (.int f7), .val (.int f8), .val (.int f9), .val (.ref r1), .val (.ref r2), .val (.ref r3), .val (.ref ta), .val (.ref sa), .val (.ref sb), .val (.double mm0), .second, .val (.double mm1), .second, .val (.long p0.toInt64), .second, .val (.long (1 : Int64)), .second, .unset, .unset, .unset, .unset, .unset, .unset] [(.int p1), (.long p0.toInt64)])) _
      refine XS.i2l X595.here hx rfl (hb hby at_271) rfl ?_
      show Steps p.tables e below (T595.setTop (mkF m 272 #[.val (.int p0), .val (.int p1), .val (.int p2), .val (.int p3), .val (.int p4), .val (.int f5), .val (.int f6), .val (.int f7), .val (.int f8), .val (.int f9), .val (.ref r1), .val (.ref r2), .val (.ref r3), .val (.ref ta), .val (.ref sa), .val (.ref sb), .val (.double mm0), .second, .val (.double mm1), .second, .val (.long p0.toInt64), .second, .val (.long (1 : Int64)), .second, .unset, .unset, .unset, .unset, .unset, .unset] [(.long p1.toInt64), (.long p0.toInt64)])) _
      refine XS.ladd X595.here hx rfl (hb hby at_272) rfl ?_
      show Steps p.tables e below (T595.setTop (mkF m 273 #[.val (.int p0), .val (.int p1), .val (.int p2), .val (.int p3), .val (.int p4), .val (.int f5), .val (.int f6), .val (.int f7), .val (.int f8), .val (.int f9), .val (.ref r1), .val (.ref r2), .val (.ref r3), .val (.ref ta), .val (.ref sa), .val (.ref sb), .val (.double mm0), .second, .val (.double mm1), .second, .val (.long p0.toInt64), .second, .val (.long (1 : Int64)), .second, .unset, .unset, .unset, .unset, .unset, .unset] [(.long (p0.toInt64 + p1.toInt64))])) _
      refine XS.lstore X595.here hx rfl (hb hby at_273) rfl (l' := #[.val (.int p0), .val (.int p1), .val (.int p2), .val (.int p3), .val (.int p4), .val (.int f5), .val (.int f6), .val (.int f7), .val (.int f8), .val (.int f9), .val (.ref r1), .val (.ref r2), .val (.ref r3), .val (.ref ta), .val (.ref sa), .val (.ref sb), .val (.double mm0), .second, .val (.double mm1), .second, .val (.long (p0.toInt64 + p1.toInt64)), .second, .val (.long (1 : Int64)), .second, .unset, .unset, .unset, .unset, .unset, .unset]) rfl ?_
      show Steps p.tables e below (T595.setTop (mkF m 275 #[.val (.int p0), .val (.int p1), .val (.int p2), .val (.int p3), .val (.int p4), .val (.int f5), .val (.int f6), .val (.int f7), .val (.int f8), .val (.int f9), .val (.ref r1), .val (.ref r2), .val (.ref r3), .val (.ref ta), .val (.ref sa), .val (.ref sb), .val (.double mm0), .second, .val (.double mm1), .second, .val (.long (p0.toInt64 + p1.toInt64)), .second, .val (.long (1 : Int64)), .second, .unset, .unset, .unset, .unset, .unset, .unset] [])) _
      refine XS.lload X595.here hx rfl (hb hby at_275) rfl ?_
      show Steps p.tables e below (T595.setTop (mkF m 277 #[.val (.int p0), .val (.int p1), .val (.int p2), .val (.int p3), .val (.int p4), .val (.int f5), .val (.int f6), .val (.int f7), .val (.int f8), .val (.int f9), .val (.ref r1), .val (.ref r2), .val (.ref r3), .val (.ref ta), .val (.ref sa), .val (.ref sb), .val (.double mm0), .second, .val (.double mm1), .second, .val (.long (p0.toInt64 + p1.toInt64)), .second, .val (.long (1 : Int64)), .second, .unset, .unset, .unset, .unset, .unset, .unset] [(.long (1 : Int64))])) _
      refine XS.lconst X595.here hx rfl (hb hby at_277) ?_
      show Steps p.tables e below (T595.setTop (mkF m 278 #[.val (.int p0), .val (.int p1), .val (.int p2), .val (.int p3), .val (.int p4), .val (.int f5), .val (.int f6), .val (.int f7), .val (.int f8), .val (.int f9), .val (.ref r1), .val (.ref r2), .val (.ref r3), .val (.ref ta), .val (.ref sa), .val (.ref sb), .val (.double mm0), .second, .val (.double mm1), .second, .val (.long (p0.toInt64 + p1.toInt64)), .second, .val (.long (1 : Int64)), .second, .unset, .unset, .unset, .unset, .unset, .unset] [(.long (1 : Int64)), (.long (1 : Int64))])) _
      refine XS.ladd X595.here hx rfl (hb hby at_278) rfl ?_
      show Steps p.tables e below (T595.setTop (mkF m 279 #[.val (.int p0), .val (.int p1), .val (.int p2), .val (.int p3), .val (.int p4), .val (.int f5), .val (.int f6), .val (.int f7), .val (.int f8), .val (.int f9), .val (.ref r1), .val (.ref r2), .val (.ref r3), .val (.ref ta), .val (.ref sa), .val (.ref sb), .val (.double mm0), .second, .val (.double mm1), .second, .val (.long (p0.toInt64 + p1.toInt64)), .second, .val (.long (1 : Int64)), .second, .unset, .unset, .unset, .unset, .unset, .unset] [(.long ((1 : Int64) + (1 : Int64)))])) _
      refine XS.lstore X595.here hx rfl (hb hby at_279) rfl (l' := #[.val (.int p0), .val (.int p1), .val (.int p2), .val (.int p3), .val (.int p4), .val (.int f5), .val (.int f6), .val (.int f7), .val (.int f8), .val (.int f9), .val (.ref r1), .val (.ref r2), .val (.ref r3), .val (.ref ta), .val (.ref sa), .val (.ref sb), .val (.double mm0), .second, .val (.double mm1), .second, .val (.long (p0.toInt64 + p1.toInt64)), .second, .val (.long ((1 : Int64) + (1 : Int64))), .second, .unset, .unset, .unset, .unset, .unset, .unset]) rfl ?_
      show Steps p.tables e below (T595.setTop (mkF m 281 #[.val (.int p0), .val (.int p1), .val (.int p2), .val (.int p3), .val (.int p4), .val (.int f5), .val (.int f6), .val (.int f7), .val (.int f8), .val (.int f9), .val (.ref r1), .val (.ref r2), .val (.ref r3), .val (.ref ta), .val (.ref sa), .val (.ref sb), .val (.double mm0), .second, .val (.double mm1), .second, .val (.long (p0.toInt64 + p1.toInt64)), .second, .val (.long ((1 : Int64) + (1 : Int64))), .second, .unset, .unset, .unset, .unset, .unset, .unset] [])) _
      have kk := k281
      rw [(show u0 = (p0.toInt64 + p1.toInt64) from eu0.trans (own_if1 hf0)), (show u1 = ((1 : Int64) + (1 : Int64)) from eu1.trans (own_if1 hf0))] at kk
      exact kk
  have k256 : Steps p.tables e below (T595.setTop (mkF m 256 #[.val (.int p0), .val (.int p1), .val (.int p2), .val (.int p3), .val (.int p4), .val (.int f5), .val (.int f6), .val (.int f7), .val (.int f8), .val (.int f9), .val (.ref r1), .val (.ref r2), .val (.ref r3), .val (.ref ta), .val (.ref sa), .val (.ref sb), .val (.double mm0), .second, .val (.double mm1), .second, .unset, .unset, .unset, .unset, .unset, .unset, .unset, .unset, .unset, .unset] [])) (T595.setFrames fs) := by
    show Steps p.tables e below (T595.setTop (mkF m 256 #[.val (.int p0), .val (.int p1), .val (.int p2), .val (.int p3), .val (.int p4), .val (.int f5), .val (.int f6), .val (.int f7), .val (.int f8), .val (.int f9), .val (.ref r1), .val (.ref r2), .val (.ref r3), .val (.ref ta), .val (.ref sa), .val (.ref sb), .val (.double mm0), .second, .val (.double mm1), .second, .unset, .unset, .unset, .unset, .unset, .unset, .unset, .unset, .unset, .unset] [])) _
    refine XS.iloadN X595.here hx rfl (hb hby at_256) rfl ?_
    show Steps p.tables e below (T595.setTop (mkF m 257 #[.val (.int p0), .val (.int p1), .val (.int p2), .val (.int p3), .val (.int p4), .val (.int f5), .val (.int f6), .val (.int f7), .val (.int f8), .val (.int f9), .val (.ref r1), .val (.ref r2), .val (.ref r3), .val (.ref ta), .val (.ref sa), .val (.ref sb), .val (.double mm0), .second, .val (.double mm1), .second, .unset, .unset, .unset, .unset, .unset, .unset, .unset, .unset, .unset, .unset] [(.int p0)])) _
    refine XS.i2l X595.here hx rfl (hb hby at_257) rfl ?_
    show Steps p.tables e below (T595.setTop (mkF m 258 #[.val (.int p0), .val (.int p1), .val (.int p2), .val (.int p3), .val (.int p4), .val (.int f5), .val (.int f6), .val (.int f7), .val (.int f8), .val (.int f9), .val (.ref r1), .val (.ref r2), .val (.ref r3), .val (.ref ta), .val (.ref sa), .val (.ref sb), .val (.double mm0), .second, .val (.double mm1), .second, .unset, .unset, .unset, .unset, .unset, .unset, .unset, .unset, .unset, .unset] [(.long p0.toInt64)])) _
    refine XS.lstore X595.here hx rfl (hb hby at_258) rfl (l' := #[.val (.int p0), .val (.int p1), .val (.int p2), .val (.int p3), .val (.int p4), .val (.int f5), .val (.int f6), .val (.int f7), .val (.int f8), .val (.int f9), .val (.ref r1), .val (.ref r2), .val (.ref r3), .val (.ref ta), .val (.ref sa), .val (.ref sb), .val (.double mm0), .second, .val (.double mm1), .second, .val (.long p0.toInt64), .second, .unset, .unset, .unset, .unset, .unset, .unset, .unset, .unset]) rfl ?_
    show Steps p.tables e below (T595.setTop (mkF m 260 #[.val (.int p0), .val (.int p1), .val (.int p2), .val (.int p3), .val (.int p4), .val (.int f5), .val (.int f6), .val (.int f7), .val (.int f8), .val (.int f9), .val (.ref r1), .val (.ref r2), .val (.ref r3), .val (.ref ta), .val (.ref sa), .val (.ref sb), .val (.double mm0), .second, .val (.double mm1), .second, .val (.long p0.toInt64), .second, .unset, .unset, .unset, .unset, .unset, .unset, .unset, .unset] [])) _
    refine XS.lconst X595.here hx rfl (hb hby at_260) ?_
    show Steps p.tables e below (T595.setTop (mkF m 261 #[.val (.int p0), .val (.int p1), .val (.int p2), .val (.int p3), .val (.int p4), .val (.int f5), .val (.int f6), .val (.int f7), .val (.int f8), .val (.int f9), .val (.ref r1), .val (.ref r2), .val (.ref r3), .val (.ref ta), .val (.ref sa), .val (.ref sb), .val (.double mm0), .second, .val (.double mm1), .second, .val (.long p0.toInt64), .second, .unset, .unset, .unset, .unset, .unset, .unset, .unset, .unset] [(.long (1 : Int64))])) _
    refine XS.lstore X595.here hx rfl (hb hby at_261) rfl (l' := #[.val (.int p0), .val (.int p1), .val (.int p2), .val (.int p3), .val (.int p4), .val (.int f5), .val (.int f6), .val (.int f7), .val (.int f8), .val (.int f9), .val (.ref r1), .val (.ref r2), .val (.ref r3), .val (.ref ta), .val (.ref sa), .val (.ref sb), .val (.double mm0), .second, .val (.double mm1), .second, .val (.long p0.toInt64), .second, .val (.long (1 : Int64)), .second, .unset, .unset, .unset, .unset, .unset, .unset]) rfl ?_
    exact k263
  have k72 : Steps p.tables e below (s₁.setTop (mkF m 72 #[.val (.int p0), .val (.int p1), .val (.int p2), .val (.int p3), .val (.int p4), .val (.int f5), .val (.int f6), .val (.int f7), .val (.int f8), .val (.int f9), .unset, .unset, .unset, .unset, .unset, .unset, .unset, .unset, .unset, .unset, .unset, .unset, .unset, .unset, .unset, .unset, .unset, .unset, .unset, .unset] [])) (T595.setFrames fs) := by
    refine st417 _ ?_
    refine st434 _ ?_
    refine st452 _ ?_
    show Steps p.tables e below (T452.setTop (mkF m 165 #[.val (.int p0), .val (.int p1), .val (.int p2), .val (.int p3), .val (.int p4), .val (.int f5), .val (.int f6), .val (.int f7), .val (.int f8), .val (.int f9), .val (.ref r1), .val (.ref r2), .val (.ref r3), .unset, .unset, .unset, .unset, .unset, .unset, .unset, .unset, .unset, .unset, .unset, .unset, .unset, .unset, .unset, .unset, .unset] [])) _
    refine st471 _ ?_
    show Steps p.tables e below (T471.setTop (mkF m 168 #[.val (.int p0), .val (.int p1), .val (.int p2), .val (.int p3), .val (.int p4), .val (.int f5), .val (.int f6), .val (.int f7), .val (.int f8), .val (.int f9), .val (.ref r1), .val (.ref r2), .val (.ref r3), .unset, .unset, .unset, .unset, .unset, .unset, .unset, .unset, .unset, .unset, .unset, .unset, .unset, .unset, .unset, .unset, .unset] [(.ref ta)])) _
    refine XS.dup X471.here hx rfl (hb hby at_168) rfl rfl ?_
    show Steps p.tables e below (T471.setTop (mkF m 169 #[.val (.int p0), .val (.int p1), .val (.int p2), .val (.int p3), .val (.int p4), .val (.int f5), .val (.int f6), .val (.int f7), .val (.int f8), .val (.int f9), .val (.ref r1), .val (.ref r2), .val (.ref r3), .unset, .unset, .unset, .unset, .unset, .unset, .unset, .unset, .unset, .unset, .unset, .unset, .unset, .unset, .unset, .unset, .unset] [(.ref ta), (.ref ta)])) _
    refine XS.iconst X471.here hx rfl (hb hby at_169) ?_
    show Steps p.tables e below (T471.setTop (mkF m 170 #[.val (.int p0), .val (.int p1), .val (.int p2), .val (.int p3), .val (.int p4), .val (.int f5), .val (.int f6), .val (.int f7), .val (.int f8), .val (.int f9), .val (.ref r1), .val (.ref r2), .val (.ref r3), .unset, .unset, .unset, .unset, .unset, .unset, .unset, .unset, .unset, .unset, .unset, .unset, .unset, .unset, .unset, .unset, .unset] [(.int (2 : Int32)), (.ref ta), (.ref ta)])) _
    refine st481.trans ?_
    show Steps p.tables e below (T481.setTop (mkF m 173 #[.val (.int p0), .val (.int p1), .val (.int p2), .val (.int p3), .val (.int p4), .val (.int f5), .val (.int f6), .val (.int f7), .val (.int f8), .val (.int f9), .val (.ref r1), .val (.ref r2), .val (.ref r3), .unset, .unset, .unset, .unset, .unset, .unset, .unset, .unset, .unset, .unset, .unset, .unset, .unset, .unset, .unset, .unset, .unset] [(.ref ta)])) _
    refine XS.astore X481.here hx rfl (hb hby at_173) rfl rfl (l' := #[.val (.int p0), .val (.int p1), .val (.int p2), .val (.int p3), .val (.int p4), .val (.int f5), .val (.int f6), .val (.int f7), .val (.int f8), .val (.int f9), .val (.ref r1), .val (.ref r2), .val (.ref r3), .val (.ref ta), .unset, .unset, .unset, .unset, .unset, .unset, .unset, .unset, .unset, .unset, .unset, .unset, .unset, .unset, .unset, .unset]) rfl ?_
    show Steps p.tables e below (T481.setTop (mkF m 175 #[.val (.int p0), .val (.int p1), .val (.int p2), .val (.int p3), .val (.int p4), .val (.int f5), .val (.int f6), .val (.int f7), .val (.int f8), .val (.int f9), .val (.ref r1), .val (.ref r2), .val (.ref r3), .val (.ref ta), .unset, .unset, .unset, .unset, .unset, .unset, .unset, .unset, .unset, .unset, .unset, .unset, .unset, .unset, .unset, .unset] [])) _
    refine st486 _ ?_
    show Steps p.tables e below (T486.setTop (mkF m 178 #[.val (.int p0), .val (.int p1), .val (.int p2), .val (.int p3), .val (.int p4), .val (.int f5), .val (.int f6), .val (.int f7), .val (.int f8), .val (.int f9), .val (.ref r1), .val (.ref r2), .val (.ref r3), .val (.ref ta), .unset, .unset, .unset, .unset, .unset, .unset, .unset, .unset, .unset, .unset, .unset, .unset, .unset, .unset, .unset, .unset] [(.ref sa)])) _
    refine XS.dup X486.here hx rfl (hb hby at_178) rfl rfl ?_
    show Steps p.tables e below (T486.setTop (mkF m 179 #[.val (.int p0), .val (.int p1), .val (.int p2), .val (.int p3), .val (.int p4), .val (.int f5), .val (.int f6), .val (.int f7), .val (.int f8), .val (.int f9), .val (.ref r1), .val (.ref r2), .val (.ref r3), .val (.ref ta), .unset, .unset, .unset, .unset, .unset, .unset, .unset, .unset, .unset, .unset, .unset, .unset, .unset, .unset, .unset, .unset] [(.ref sa), (.ref sa)])) _
    refine XS.iconst X486.here hx rfl (hb hby at_179) ?_
    show Steps p.tables e below (T486.setTop (mkF m 180 #[.val (.int p0), .val (.int p1), .val (.int p2), .val (.int p3), .val (.int p4), .val (.int f5), .val (.int f6), .val (.int f7), .val (.int f8), .val (.int f9), .val (.ref r1), .val (.ref r2), .val (.ref r3), .val (.ref ta), .unset, .unset, .unset, .unset, .unset, .unset, .unset, .unset, .unset, .unset, .unset, .unset, .unset, .unset, .unset, .unset] [(.int (2 : Int32)), (.ref sa), (.ref sa)])) _
    refine st499.trans ?_
    show Steps p.tables e below (T499.setTop (mkF m 183 #[.val (.int p0), .val (.int p1), .val (.int p2), .val (.int p3), .val (.int p4), .val (.int f5), .val (.int f6), .val (.int f7), .val (.int f8), .val (.int f9), .val (.ref r1), .val (.ref r2), .val (.ref r3), .val (.ref ta), .unset, .unset, .unset, .unset, .unset, .unset, .unset, .unset, .unset, .unset, .unset, .unset, .unset, .unset, .unset, .unset] [(.ref sa)])) _
    refine XS.astore X499.here hx rfl (hb hby at_183) rfl rfl (l' := #[.val (.int p0), .val (.int p1), .val (.int p2), .val (.int p3), .val (.int p4), .val (.int f5), .val (.int f6), .val (.int f7), .val (.int f8), .val (.int f9), .val (.ref r1), .val (.ref r2), .val (.ref r3), .val (.ref ta), .val (.ref sa), .unset, .unset, .unset, .unset, .unset, .unset, .unset, .unset, .unset, .unset, .unset, .unset, .unset, .unset, .unset]) rfl ?_
    show Steps p.tables e below (T499.setTop (mkF m 185 #[.val (.int p0), .val (.int p1), .val (.int p2), .val (.int p3), .val (.int p4), .val (.int f5), .val (.int f6), .val (.int f7), .val (.int f8), .val (.int f9), .val (.ref r1), .val (.ref r2), .val (.ref r3), .val (.ref ta), .val (.ref sa), .unset, .unset, .unset, .unset, .unset, .unset, .unset, .unset, .unset, .unset, .unset, .unset, .unset, .unset, .unset] [])) _
    refine st510 _ ?_
    show Steps p.tables e below (T510.setTop (mkF m 188 #[.val (.int p0), .val (.int p1), .val (.int p2), .val (.int p3), .val (.int p4), .val (.int f5), .val (.int f6), .val (.int f7), .val (.int f8), .val (.int f9), .val (.ref r1), .val (.ref r2), .val (.ref r3), .val (.ref ta), .val (.ref sa), .unset, .unset, .unset, .unset, .unset, .unset, .unset, .unset, .unset, .unset, .unset, .unset, .unset, .unset, .unset] [(.ref sb)])) _
    refine XS.dup X510.here hx rfl (hb hby at_188) rfl rfl ?_
    show Steps p.tables e below (T510.setTop (mkF m 189 #[.val (.int p0), .val (.int p1), .val (.int p2), .val (.int p3), .val (.int p4), .val (.int f5), .val (.int f6), .val (.int f7), .val (.int f8), .val (.int f9), .val (.ref r1), .val (.ref r2), .val (.ref r3), .val (.ref ta), .val (.ref sa), .unset, .unset, .unset, .unset, .unset, .unset, .unset, .unset, .unset, .unset, .unset, .unset, .unset, .unset, .unset] [(.ref sb), (.ref sb)])) _
    refine XS.iconst X510.here hx rfl (hb hby at_189) ?_
    show Steps p.tables e below (T510.setTop (mkF m 190 #[.val (.int p0), .val (.int p1), .val (.int p2), .val (.int p3), .val (.int p4), .val (.int f5), .val (.int f6), .val (.int f7), .val (.int f8), .val (.int f9), .val (.ref r1), .val (.ref r2), .val (.ref r3), .val (.ref ta), .val (.ref sa), .unset, .unset, .unset, .unset, .unset, .unset, .unset, .unset, .unset, .unset, .unset, .unset, .unset, .unset, .unset] [(.int (2 : Int32)), (.ref sb), (.ref sb)])) _
    refine st526.trans ?_
    show Steps p.tables e below (T526.setTop (mkF m 193 #[.val (.int p0), .val (.int p1), .val (.int p2), .val (.int p3), .val (.int p4), .val (.int f5), .val (.int f6), .val (.int f7), .val (.int f8), .val (.int f9), .val (.ref r1), .val (.ref r2), .val (.ref r3), .val (.ref ta), .val (.ref sa), .unset, .unset, .unset, .unset, .unset, .unset, .unset, .unset, .unset, .unset, .unset, .unset, .unset, .unset, .unset] [(.ref sb)])) _
    refine XS.astore X526.here hx rfl (hb hby at_193) rfl rfl (l' := #[.val (.int p0), .val (.int p1), .val (.int p2), .val (.int p3), .val (.int p4), .val (.int f5), .val (.int f6), .val (.int f7), .val (.int f8), .val (.int f9), .val (.ref r1), .val (.ref r2), .val (.ref r3), .val (.ref ta), .val (.ref sa), .val (.ref sb), .unset, .unset, .unset, .unset, .unset, .unset, .unset, .unset, .unset, .unset, .unset, .unset, .unset, .unset]) rfl ?_
    show Steps p.tables e below (T526.setTop (mkF m 195 #[.val (.int p0), .val (.int p1), .val (.int p2), .val (.int p3), .val (.int p4), .val (.int f5), .val (.int f6), .val (.int f7), .val (.int f8), .val (.int f9), .val (.ref r1), .val (.ref r2), .val (.ref r3), .val (.ref ta), .val (.ref sa), .val (.ref sb), .unset, .unset, .unset, .unset, .unset, .unset, .unset, .unset, .unset, .unset, .unset, .unset, .unset, .unset] [])) _
    refine XS.aload X526.here hx rfl (hb hby at_195) rfl rfl ?_
    show Steps p.tables e below (T526.setTop (mkF m 197 #[.val (.int p0), .val (.int p1), .val (.int p2), .val (.int p3), .val (.int p4), .val (.int f5), .val (.int f6), .val (.int f7), .val (.int f8), .val (.int f9), .val (.ref r1), .val (.ref r2), .val (.ref r3), .val (.ref ta), .val (.ref sa), .val (.ref sb), .unset, .unset, .unset, .unset, .unset, .unset, .unset, .unset, .unset, .unset, .unset, .unset, .unset, .unset] [(.ref sa)])) _
    refine XS.aload X526.here hx rfl (hb hby at_197) rfl rfl ?_
    show Steps p.tables e below (T526.setTop (mkF m 199 #[.val (.int p0), .val (.int p1), .val (.int p2), .val (.int p3), .val (.int p4), .val (.int f5), .val (.int f6), .val (.int f7), .val (.int f8), .val (.int f9), .val (.ref r1), .val (.ref r2), .val (.ref r3), .val (.ref ta), .val (.ref sa), .val (.ref sb), .unset, .unset, .unset, .unset, .unset, .unset, .unset, .unset, .unset, .unset, .unset, .unset, .unset, .unset] [(.ref r1), (.ref sa)])) _
    refine st534.trans ?_
    refine st544 _ ?_
    refine st556 _ ?_
    show Steps p.tables e below (T556.setTop (mkF m 226 #[.val (.int p0), .val (.int p1), .val (.int p2), .val (.int p3), .val (.int p4), .val (.int f5), .val (.int f6), .val (.int f7), .val (.int f8), .val (.int f9), .val (.ref r1), .val (.ref r2), .val (.ref r3), .val (.ref ta), .val (.ref sa), .val (.ref sb), .unset, .unset, .unset, .unset, .unset, .unset, .unset, .unset, .unset, .unset, .unset, .unset, .unset, .unset] [])) _
    refine XS.aload X556.here hx rfl (hb hby at_226) rfl rfl ?_
    show Steps p.tables e below (T556.setTop (mkF m 228 #[.val (.int p0), .val (.int p1), .val (.int p2), .val (.int p3), .val (.int p4), .val (.int f5), .val (.int f6), .val (.int f7), .val (.int f8), .val (.int f9), .val (.ref r1), .val (.ref r2), .val (.ref r3), .val (.ref ta), .val (.ref sa), .val (.ref sb), .unset, .unset, .unset, .unset, .unset, .unset, .unset, .unset, .unset, .unset, .unset, .unset, .unset, .unset] [(.ref ta)])) _
    refine XS.aload X556.here hx rfl (hb hby at_228) rfl rfl ?_
    show Steps p.tables e below (T556.setTop (mkF m 230 #[.val (.int p0), .val (.int p1), .val (.int p2), .val (.int p3), .val (.int p4), .val (.int f5), .val (.int f6), .val (.int f7), .val (.int f8), .val (.int f9), .val (.ref r1), .val (.ref r2), .val (.ref r3), .val (.ref ta), .val (.ref sa), .val (.ref sb), .unset, .unset, .unset, .unset, .unset, .unset, .unset, .unset, .unset, .unset, .unset, .unset, .unset, .unset] [(.ref sa), (.ref ta)])) _
    refine st575.trans ?_
    show Steps p.tables e below (T575.setTop (mkF m 233 #[.val (.int p0), .val (.int p1), .val (.int p2), .val (.int p3), .val (.int p4), .val (.int f5), .val (.int f6), .val (.int f7), .val (.int f8), .val (.int f9), .val (.ref r1), .val (.ref r2), .val (.ref r3), .val (.ref ta), .val (.ref sa), .val (.ref sb), .unset, .unset, .unset, .unset, .unset, .unset, .unset, .unset, .unset, .unset, .unset, .unset, .unset, .unset] [])) _
    refine XS.aload X575.here hx rfl (hb hby at_233) rfl rfl ?_
    show Steps p.tables e below (T575.setTop (mkF m 235 #[.val (.int p0), .val (.int p1), .val (.int p2), .val (.int p3), .val (.int p4), .val (.int f5), .val (.int f6), .val (.int f7), .val (.int f8), .val (.int f9), .val (.ref r1), .val (.ref r2), .val (.ref r3), .val (.ref ta), .val (.ref sa), .val (.ref sb), .unset, .unset, .unset, .unset, .unset, .unset, .unset, .unset, .unset, .unset, .unset, .unset, .unset, .unset] [(.ref ta)])) _
    refine XS.aload X575.here hx rfl (hb hby at_235) rfl rfl ?_
    show Steps p.tables e below (T575.setTop (mkF m 237 #[.val (.int p0), .val (.int p1), .val (.int p2), .val (.int p3), .val (.int p4), .val (.int f5), .val (.int f6), .val (.int f7), .val (.int f8), .val (.int f9), .val (.ref r1), .val (.ref r2), .val (.ref r3), .val (.ref ta), .val (.ref sa), .val (.ref sb), .unset, .unset, .unset, .unset, .unset, .unset, .unset, .unset, .unset, .unset, .unset, .unset, .unset, .unset] [(.ref sb), (.ref ta)])) _
    refine st589.trans ?_
    show Steps p.tables e below (T589.setTop (mkF m 240 #[.val (.int p0), .val (.int p1), .val (.int p2), .val (.int p3), .val (.int p4), .val (.int f5), .val (.int f6), .val (.int f7), .val (.int f8), .val (.int f9), .val (.ref r1), .val (.ref r2), .val (.ref r3), .val (.ref ta), .val (.ref sa), .val (.ref sb), .unset, .unset, .unset, .unset, .unset, .unset, .unset, .unset, .unset, .unset, .unset, .unset, .unset, .unset] [])) _
    refine XS.aload X589.here hx rfl (hb hby at_240) rfl rfl ?_
    show Steps p.tables e below (T589.setTop (mkF m 242 #[.val (.int p0), .val (.int p1), .val (.int p2), .val (.int p3), .val (.int p4), .val (.int f5), .val (.int f6), .val (.int f7), .val (.int f8), .val (.int f9), .val (.ref r1), .val (.ref r2), .val (.ref r3), .val (.ref ta), .val (.ref sa), .val (.ref sb), .unset, .unset, .unset, .unset, .unset, .unset, .unset, .unset, .unset, .unset, .unset, .unset, .unset, .unset] [(.ref ta)])) _
    refine XS.iconst X589.here hx rfl (hb hby at_242) ?_
    show Steps p.tables e below (T589.setTop (mkF m 243 #[.val (.int p0), .val (.int p1), .val (.int p2), .val (.int p3), .val (.int p4), .val (.int f5), .val (.int f6), .val (.int f7), .val (.int f8), .val (.int f9), .val (.ref r1), .val (.ref r2), .val (.ref r3), .val (.ref ta), .val (.ref sa), .val (.ref sb), .unset, .unset, .unset, .unset, .unset, .unset, .unset, .unset, .unset, .unset, .unset, .unset, .unset, .unset] [(.int (0 : Int32)), (.ref ta)])) _
    refine st594.trans ?_
    show Steps p.tables e below (T594.setTop (mkF m 246 #[.val (.int p0), .val (.int p1), .val (.int p2), .val (.int p3), .val (.int p4), .val (.int f5), .val (.int f6), .val (.int f7), .val (.int f8), .val (.int f9), .val (.ref r1), .val (.ref r2), .val (.ref r3), .val (.ref ta), .val (.ref sa), .val (.ref sb), .unset, .unset, .unset, .unset, .unset, .unset, .unset, .unset, .unset, .unset, .unset, .unset, .unset, .unset] [(.double mm0)])) _
    refine XS.dstore X594.here hx rfl (hb hby at_246) rfl (l' := #[.val (.int p0), .val (.int p1), .val (.int p2), .val (.int p3), .val (.int p4), .val (.int f5), .val (.int f6), .val (.int f7), .val (.int f8), .val (.int f9), .val (.ref r1), .val (.ref r2), .val (.ref r3), .val (.ref ta), .val (.ref sa), .val (.ref sb), .val (.double mm0), .second, .unset, .unset, .unset, .unset, .unset, .unset, .unset, .unset, .unset, .unset, .unset, .unset]) rfl ?_
    show Steps p.tables e below (T594.setTop (mkF m 248 #[.val (.int p0), .val (.int p1), .val (.int p2), .val (.int p3), .val (.int p4), .val (.int f5), .val (.int f6), .val (.int f7), .val (.int f8), .val (.int f9), .val (.ref r1), .val (.ref r2), .val (.ref r3), .val (.ref ta), .val (.ref sa), .val (.ref sb), .val (.double mm0), .second, .unset, .unset, .unset, .unset, .unset, .unset, .unset, .unset, .unset, .unset, .unset, .unset] [])) _
    refine XS.aload X594.here hx rfl (hb hby at_248) rfl rfl ?_
    show Steps p.tables e below (T594.setTop (mkF m 250 #[.val (.int p0), .val (.int p1), .val (.int p2), .val (.int p3), .val (.int p4), .val (.int f5), .val (.int f6), .val (.int f7), .val (.int f8), .val (.int f9), .val (.ref r1), .val (.ref r2), .val (.ref r3), .val (.ref ta), .val (.ref sa), .val (.ref sb), .val (.double mm0), .second, .unset, .unset, .unset, .unset, .unset, .unset, .unset, .unset, .unset, .unset, .unset, .unset] [(.ref ta)])) _
    refine XS.iconst X594.here hx rfl (hb hby at_250) ?_
    show Steps p.tables e below (T594.setTop (mkF m 251 #[.val (.int p0), .val (.int p1), .val (.int p2), .val (.int p3), .val (.int p4), .val (.int f5), .val (.int f6), .val (.int f7), .val (.int f8), .val (.int f9), .val (.ref r1), .val (.ref r2), .val (.ref r3), .val (.ref ta), .val (.ref sa), .val (.ref sb), .val (.double mm0), .second, .unset, .unset, .unset, .unset, .unset, .unset, .unset, .unset, .unset, .unset, .unset, .unset] [(.int (1 : Int32)), (.ref ta)])) _
    refine st595.trans ?_
    show Steps p.tables e below (T595.setTop (mkF m 254 #[.val (.int p0), .val (.int p1), .val (.int p2), .val (.int p3), .val (.int p4), .val (.int f5), .val (.int f6), .val (.int f7), .val (.int f8), .val (.int f9), .val (.ref r1), .val (.ref r2), .val (.ref r3), .val (.ref ta), .val (.ref sa), .val (.ref sb), .val (.double mm0), .second, .unset, .unset, .unset, .unset, .unset, .unset, .unset, .unset, .unset, .unset, .unset, .unset] [(.double mm1)])) _
    refine XS.dstore X595.here hx rfl (hb hby at_254) rfl (l' := #[.val (.int p0), .val (.int p1), .val (.int p2), .val (.int p3), .val (.int p4), .val (.int f5), .val (.int f6), .val (.int f7), .val (.int f8), .val (.int f9), .val (.ref r1), .val (.ref r2), .val (.ref r3), .val (.ref ta), .val (.ref sa), .val (.ref sb), .val (.double mm0), .second, .val (.double mm1), .second, .unset, .unset, .unset, .unset, .unset, .unset, .unset, .unset, .unset, .unset]) rfl ?_
    exact k256
  have k57 : Steps p.tables e below (s₁.setTop (mkF m 57 #[.val (.int p0), .val (.int p1), .val (.int p2), .val (.int p3), .val (.int p4), .val (.int f5), .val (.int f6), .val (.int f7), .val (.int f8), .unset, .unset, .unset, .unset, .unset, .unset, .unset, .unset, .unset, .unset, .unset, .unset, .unset, .unset, .unset, .unset, .unset, .unset, .unset, .unset, .unset] [])) (T595.setFrames fs) := by
    by_cases hq : p4 &&& (16 : Int32) = (0 : Int32)
    · show Steps p.tables e below (s₁.setTop (mkF m 57 #[.val (.int p0), .val (.int p1), .val (.int p2), .val (.int p3), .val (.int p4), .val (.int f5), .val (.int f6), .val (.int f7), .val (.int f8), .unset, .unset, .unset, .unset, .unset, .unset, .unset, .unset, .unset, .unset, .unset, .unset, .unset, .unset, .unset, .unset, .unset, .unset, .unset, .unset, .unset] [])) _
      refine XS.iload X0.here hx rfl (hb hby at_57) rfl ?_
      show Steps p.tables e below (s₁.setTop (mkF m 59 #[.val (.int p0), .val (.int p1), .val (.int p2), .val (.int p3), .val (.int p4), .val (.int f5), .val (.int f6), .val (.int f7), .val (.int f8), .unset, .unset, .unset, .unset, .unset, .unset, .unset, .unset, .unset, .unset, .unset, .unset, .unset, .unset, .unset, .unset, .unset, .unset, .unset, .unset, .unset] [(.int p4)])) _
      refine XS.bipush X0.here hx rfl (hb hby at_59) ?_
      show Steps p.tables e below (s₁.setTop (mkF m 61 #[.val (.int p0), .val (.int p1), .val (.int p2), .val (.int p3), .val (.int p4), .val (.int f5), .val (.int f6), .val (.int f7), .val (.int f8), .unset, .unset, .unset, .unset, .unset, .unset, .unset, .unset, .unset, .unset, .unset, .unset, .unset, .unset, .unset, .unset, .unset, .unset, .unset, .unset, .unset] [(.int (16 : Int32)), (.int p4)])) _
      refine XS.iand X0.here hx rfl (hb hby at_61) rfl ?_
      show Steps p.tables e below (s₁.setTop (mkF m 62 #[.val (.int p0), .val (.int p1), .val (.int p2), .val (.int p3), .val (.int p4), .val (.int f5), .val (.int f6), .val (.int f7), .val (.int f8), .unset, .unset, .unset, .unset, .unset, .unset, .unset, .unset, .unset, .unset, .unset, .unset, .unset, .unset, .unset, .unset, .unset, .unset, .unset, .unset, .unset] [(.int (p4 &&& (16 : Int32)))])) _
      refine XS.ifYes X0.here hx rfl (pc0 := 62) (pc' := 69) rfl (hb hby at_62) rfl ((if0 _ _).trans (teq hq).1) (by decide) (by decide) ?_
      show Steps p.tables e below (s₁.setTop (mkF m 69 #[.val (.int p0), .val (.int p1), .val (.int p2), .val (.int p3), .val (.int p4), .val (.int f5), .val (.int f6), .val (.int f7), .val (.int f8), .unset, .unset, .unset, .unset, .unset, .unset, .unset, .unset, .unset, .unset, .unset, .unset, .unset, .unset, .unset, .unset, .unset, .unset, .unset, .unset, .unset] [])) _
      refine XS.iconst X0.here hx rfl (hb hby at_69) ?_
      show Steps p.tables e below (s₁.setTop (mkF m 70 #[.val (.int p0), .val (.int p1), .val (.int p2), .val (.int p3), .val (.int p4), .val (.int f5), .val (.int f6), .val (.int f7), .val (.int f8), .unset, .unset, .unset, .unset, .unset, .unset, .unset, .unset, .unset, .unset, .unset, .unset, .unset, .unset, .unset, .unset, .unset, .unset, .unset, .unset, .unset] [(.int (0 : Int32))])) _
      refine XS.istore X0.here hx rfl (hb hby at_70) rfl (l' := #[.val (.int p0), .val (.int p1), .val (.int p2), .val (.int p3), .val (.int p4), .val (.int f5), .val (.int f6), .val (.int f7), .val (.int f8), .val (.int (0 : Int32)), .unset, .unset, .unset, .unset, .unset, .unset, .unset, .unset, .unset, .unset, .unset, .unset, .unset, .unset, .unset, .unset, .unset, .unset, .unset, .unset]) rfl ?_
      show Steps p.tables e below (s₁.setTop (mkF m 72 #[.val (.int p0), .val (.int p1), .val (.int p2), .val (.int p3), .val (.int p4), .val (.int f5), .val (.int f6), .val (.int f7), .val (.int f8), .val (.int (0 : Int32)), .unset, .unset, .unset, .unset, .unset, .unset, .unset, .unset, .unset, .unset, .unset, .unset, .unset, .unset, .unset, .unset, .unset, .unset, .unset, .unset] [])) _
      have kk := k72
      rw [show f9 = (0 : Int32) from ef9.trans (if_pos hq)] at kk
      exact kk
    · show Steps p.tables e below (s₁.setTop (mkF m 57 #[.val (.int p0), .val (.int p1), .val (.int p2), .val (.int p3), .val (.int p4), .val (.int f5), .val (.int f6), .val (.int f7), .val (.int f8), .unset, .unset, .unset, .unset, .unset, .unset, .unset, .unset, .unset, .unset, .unset, .unset, .unset, .unset, .unset, .unset, .unset, .unset, .unset, .unset, .unset] [])) _
      refine XS.iload X0.here hx rfl (hb hby at_57) rfl ?_
      show Steps p.tables e below (s₁.setTop (mkF m 59 #[.val (.int p0), .val (.int p1), .val (.int p2), .val (.int p3), .val (.int p4), .val (.int f5), .val (.int f6), .val (.int f7), .val (.int f8), .unset, .unset, .unset, .unset, .unset, .unset, .unset, .unset, .unset, .unset, .unset, .unset, .unset, .unset, .unset, .unset, .unset, .unset, .unset, .unset, .unset] [(.int p4)])) _
      refine XS.bipush X0.here hx rfl (hb hby at_59) ?_
      show Steps p.tables e below (s₁.setTop (mkF m 61 #[.val (.int p0), .val (.int p1), .val (.int p2), .val (.int p3), .val (.int p4), .val (.int f5), .val (.int f6), .val (.int f7), .val (.int f8), .unset, .unset, .unset, .unset, .unset, .unset, .unset, .unset, .unset, .unset, .unset, .unset, .unset, .unset, .unset, .unset, .unset, .unset, .unset, .unset, .unset] [(.int (16 : Int32)), (.int p4)])) _
      refine XS.iand X0.here hx rfl (hb hby at_61) rfl ?_
      show Steps p.tables e below (s₁.setTop (mkF m 62 #[.val (.int p0), .val (.int p1), .val (.int p2), .val (.int p3), .val (.int p4), .val (.int f5), .val (.int f6), .val (.int f7), .val (.int f8), .unset, .unset, .unset, .unset, .unset, .unset, .unset, .unset, .unset, .unset, .unset, .unset, .unset, .unset, .unset, .unset, .unset, .unset, .unset, .unset, .unset] [(.int (p4 &&& (16 : Int32)))])) _
      refine XS.ifNo X0.here hx rfl (hb hby at_62) rfl ((if0 _ _).trans (feq hq).1) ?_
      show Steps p.tables e below (s₁.setTop (mkF m 65 #[.val (.int p0), .val (.int p1), .val (.int p2), .val (.int p3), .val (.int p4), .val (.int f5), .val (.int f6), .val (.int f7), .val (.int f8), .unset, .unset, .unset, .unset, .unset, .unset, .unset, .unset, .unset, .unset, .unset, .unset, .unset, .unset, .unset, .unset, .unset, .unset, .unset, .unset, .unset] [])) _
      refine XS.iconst X0.here hx rfl (hb hby at_65) ?_
      show Steps p.tables e below (s₁.setTop (mkF m 66 #[.val (.int p0), .val (.int p1), .val (.int p2), .val (.int p3), .val (.int p4), .val (.int f5), .val (.int f6), .val (.int f7), .val (.int f8), .unset, .unset, .unset, .unset, .unset, .unset, .unset, .unset, .unset, .unset, .unset, .unset, .unset, .unset, .unset, .unset, .unset, .unset, .unset, .unset, .unset] [(.int (1 : Int32))])) _
      refine XS.goto X0.here hx rfl (pc0 := 66) (pc' := 70) rfl (hb hby at_66) (by decide) (by decide) ?_
      show Steps p.tables e below (s₁.setTop (mkF m 70 #[.val (.int p0), .val (.int p1), .val (.int p2), .val (.int p3), .val (.int p4), .val (.int f5), .val (.int f6), .val (.int f7), .val (.int f8), .unset, .unset, .unset, .unset, .unset, .unset, .unset, .unset, .unset, .unset, .unset, .unset, .unset, .unset, .unset, .unset, .unset, .unset, .unset, .unset, .unset] [(.int (1 : Int32))])) _
      refine XS.istore X0.here hx rfl (hb hby at_70) rfl (l' := #[.val (.int p0), .val (.int p1), .val (.int p2), .val (.int p3), .val (.int p4), .val (.int f5), .val (.int f6), .val (.int f7), .val (.int f8), .val (.int (1 : Int32)), .unset, .unset, .unset, .unset, .unset, .unset, .unset, .unset, .unset, .unset, .unset, .unset, .unset, .unset, .unset, .unset, .unset, .unset, .unset, .unset]) rfl ?_
      show Steps p.tables e below (s₁.setTop (mkF m 72 #[.val (.int p0), .val (.int p1), .val (.int p2), .val (.int p3), .val (.int p4), .val (.int f5), .val (.int f6), .val (.int f7), .val (.int f8), .val (.int (1 : Int32)), .unset, .unset, .unset, .unset, .unset, .unset, .unset, .unset, .unset, .unset, .unset, .unset, .unset, .unset, .unset, .unset, .unset, .unset, .unset, .unset] [])) _
      have kk := k72
      rw [show f9 = (1 : Int32) from ef9.trans (if_neg hq)] at kk
      exact kk
  have k42 : Steps p.tables e below (s₁.setTop (mkF m 42 #[.val (.int p0), .val (.int p1), .val (.int p2), .val (.int p3), .val (.int p4), .val (.int f5), .val (.int f6), .val (.int f7), .unset, .unset, .unset, .unset, .unset, .unset, .unset, .unset, .unset, .unset, .unset, .unset, .unset, .unset, .unset, .unset, .unset, .unset, .unset, .unset, .unset, .unset] [])) (T595.setFrames fs) := by
    by_cases hq : p4 &&& (8 : Int32) = (0 : Int32)
    · show Steps p.tables e below (s₁.setTop (mkF m 42 #[.val (.int p0), .val (.int p1), .val (.int p2), .val (.int p3), .val (.int p4), .val (.int f5), .val (.int f6), .val (.int f7), .unset, .unset, .unset, .unset, .unset, .unset, .unset, .unset, .unset, .unset, .unset, .unset, .unset, .unset, .unset, .unset, .unset, .unset, .unset, .unset, .unset, .unset] [])) _
      refine XS.iload X0.here hx rfl (hb hby at_42) rfl ?_
      show Steps p.tables e below (s₁.setTop (mkF m 44 #[.val (.int p0), .val (.int p1), .val (.int p2), .val (.int p3), .val (.int p4), .val (.int f5), .val (.int f6), .val (.int f7), .unset, .unset, .unset, .unset, .unset, .unset, .unset, .unset, .unset, .unset, .unset, .unset, .unset, .unset, .unset, .unset, .unset, .unset, .unset, .unset, .unset, .unset] [(.int p4)])) _
      refine XS.bipush X0.here hx rfl (hb hby at_44) ?_
      show Steps p.tables e below (s₁.setTop (mkF m 46 #[.val (.int p0), .val (.int p1), .val (.int p2), .val (.int p3), .val (.int p4), .val (.int f5), .val (.int f6), .val (.int f7), .unset, .unset, .unset, .unset, .unset, .unset, .unset, .unset, .unset, .unset, .unset, .unset, .unset, .unset, .unset, .unset, .unset, .unset, .unset, .unset, .unset, .unset] [(.int (8 : Int32)), (.int p4)])) _
      refine XS.iand X0.here hx rfl (hb hby at_46) rfl ?_
      show Steps p.tables e below (s₁.setTop (mkF m 47 #[.val (.int p0), .val (.int p1), .val (.int p2), .val (.int p3), .val (.int p4), .val (.int f5), .val (.int f6), .val (.int f7), .unset, .unset, .unset, .unset, .unset, .unset, .unset, .unset, .unset, .unset, .unset, .unset, .unset, .unset, .unset, .unset, .unset, .unset, .unset, .unset, .unset, .unset] [(.int (p4 &&& (8 : Int32)))])) _
      refine XS.ifYes X0.here hx rfl (pc0 := 47) (pc' := 54) rfl (hb hby at_47) rfl ((if0 _ _).trans (teq hq).1) (by decide) (by decide) ?_
      show Steps p.tables e below (s₁.setTop (mkF m 54 #[.val (.int p0), .val (.int p1), .val (.int p2), .val (.int p3), .val (.int p4), .val (.int f5), .val (.int f6), .val (.int f7), .unset, .unset, .unset, .unset, .unset, .unset, .unset, .unset, .unset, .unset, .unset, .unset, .unset, .unset, .unset, .unset, .unset, .unset, .unset, .unset, .unset, .unset] [])) _
      refine XS.iconst X0.here hx rfl (hb hby at_54) ?_
      show Steps p.tables e below (s₁.setTop (mkF m 55 #[.val (.int p0), .val (.int p1), .val (.int p2), .val (.int p3), .val (.int p4), .val (.int f5), .val (.int f6), .val (.int f7), .unset, .unset, .unset, .unset, .unset, .unset, .unset, .unset, .unset, .unset, .unset, .unset, .unset, .unset, .unset, .unset, .unset, .unset, .unset, .unset, .unset, .unset] [(.int (0 : Int32))])) _
      refine XS.istore X0.here hx rfl (hb hby at_55) rfl (l' := #[.val (.int p0), .val (.int p1), .val (.int p2), .val (.int p3), .val (.int p4), .val (.int f5), .val (.int f6), .val (.int f7), .val (.int (0 : Int32)), .unset, .unset, .unset, .unset, .unset, .unset, .unset, .unset, .unset, .unset, .unset, .unset, .unset, .unset, .unset, .unset, .unset, .unset, .unset, .unset, .unset]) rfl ?_
      show Steps p.tables e below (s₁.setTop (mkF m 57 #[.val (.int p0), .val (.int p1), .val (.int p2), .val (.int p3), .val (.int p4), .val (.int f5), .val (.int f6), .val (.int f7), .val (.int (0 : Int32)), .unset, .unset, .unset, .unset, .unset, .unset, .unset, .unset, .unset, .unset, .unset, .unset, .unset, .unset, .unset, .unset, .unset, .unset, .unset, .unset, .unset] [])) _
      have kk := k57
      rw [show f8 = (0 : Int32) from ef8.trans (if_pos hq)] at kk
      exact kk
    · show Steps p.tables e below (s₁.setTop (mkF m 42 #[.val (.int p0), .val (.int p1), .val (.int p2), .val (.int p3), .val (.int p4), .val (.int f5), .val (.int f6), .val (.int f7), .unset, .unset, .unset, .unset, .unset, .unset, .unset, .unset, .unset, .unset, .unset, .unset, .unset, .unset, .unset, .unset, .unset, .unset, .unset, .unset, .unset, .unset] [])) _
      refine XS.iload X0.here hx rfl (hb hby at_42) rfl ?_
      show Steps p.tables e below (s₁.setTop (mkF m 44 #[.val (.int p0), .val (.int p1), .val (.int p2), .val (.int p3), .val (.int p4), .val (.int f5), .val (.int f6), .val (.int f7), .unset, .unset, .unset, .unset, .unset, .unset, .unset, .unset, .unset, .unset, .unset, .unset, .unset, .unset, .unset, .unset, .unset, .unset, .unset, .unset, .unset, .unset] [(.int p4)])) _
      refine XS.bipush X0.here hx rfl (hb hby at_44) ?_
      show Steps p.tables e below (s₁.setTop (mkF m 46 #[.val (.int p0), .val (.int p1), .val (.int p2), .val (.int p3), .val (.int p4), .val (.int f5), .val (.int f6), .val (.int f7), .unset, .unset, .unset, .unset, .unset, .unset, .unset, .unset, .unset, .unset, .unset, .unset, .unset, .unset, .unset, .unset, .unset, .unset, .unset, .unset, .unset, .unset] [(.int (8 : Int32)), (.int p4)])) _
      refine XS.iand X0.here hx rfl (hb hby at_46) rfl ?_
      show Steps p.tables e below (s₁.setTop (mkF m 47 #[.val (.int p0), .val (.int p1), .val (.int p2), .val (.int p3), .val (.int p4), .val (.int f5), .val (.int f6), .val (.int f7), .unset, .unset, .unset, .unset, .unset, .unset, .unset, .unset, .unset, .unset, .unset, .unset, .unset, .unset, .unset, .unset, .unset, .unset, .unset, .unset, .unset, .unset] [(.int (p4 &&& (8 : Int32)))])) _
      refine XS.ifNo X0.here hx rfl (hb hby at_47) rfl ((if0 _ _).trans (feq hq).1) ?_
      show Steps p.tables e below (s₁.setTop (mkF m 50 #[.val (.int p0), .val (.int p1), .val (.int p2), .val (.int p3), .val (.int p4), .val (.int f5), .val (.int f6), .val (.int f7), .unset, .unset, .unset, .unset, .unset, .unset, .unset, .unset, .unset, .unset, .unset, .unset, .unset, .unset, .unset, .unset, .unset, .unset, .unset, .unset, .unset, .unset] [])) _
      refine XS.iconst X0.here hx rfl (hb hby at_50) ?_
      show Steps p.tables e below (s₁.setTop (mkF m 51 #[.val (.int p0), .val (.int p1), .val (.int p2), .val (.int p3), .val (.int p4), .val (.int f5), .val (.int f6), .val (.int f7), .unset, .unset, .unset, .unset, .unset, .unset, .unset, .unset, .unset, .unset, .unset, .unset, .unset, .unset, .unset, .unset, .unset, .unset, .unset, .unset, .unset, .unset] [(.int (1 : Int32))])) _
      refine XS.goto X0.here hx rfl (pc0 := 51) (pc' := 55) rfl (hb hby at_51) (by decide) (by decide) ?_
      show Steps p.tables e below (s₁.setTop (mkF m 55 #[.val (.int p0), .val (.int p1), .val (.int p2), .val (.int p3), .val (.int p4), .val (.int f5), .val (.int f6), .val (.int f7), .unset, .unset, .unset, .unset, .unset, .unset, .unset, .unset, .unset, .unset, .unset, .unset, .unset, .unset, .unset, .unset, .unset, .unset, .unset, .unset, .unset, .unset] [(.int (1 : Int32))])) _
      refine XS.istore X0.here hx rfl (hb hby at_55) rfl (l' := #[.val (.int p0), .val (.int p1), .val (.int p2), .val (.int p3), .val (.int p4), .val (.int f5), .val (.int f6), .val (.int f7), .val (.int (1 : Int32)), .unset, .unset, .unset, .unset, .unset, .unset, .unset, .unset, .unset, .unset, .unset, .unset, .unset, .unset, .unset, .unset, .unset, .unset, .unset, .unset, .unset]) rfl ?_
      show Steps p.tables e below (s₁.setTop (mkF m 57 #[.val (.int p0), .val (.int p1), .val (.int p2), .val (.int p3), .val (.int p4), .val (.int f5), .val (.int f6), .val (.int f7), .val (.int (1 : Int32)), .unset, .unset, .unset, .unset, .unset, .unset, .unset, .unset, .unset, .unset, .unset, .unset, .unset, .unset, .unset, .unset, .unset, .unset, .unset, .unset, .unset] [])) _
      have kk := k57
      rw [show f8 = (1 : Int32) from ef8.trans (if_neg hq)] at kk
      exact kk
  have k28 : Steps p.tables e below (s₁.setTop (mkF m 28 #[.val (.int p0), .val (.int p1), .val (.int p2), .val (.int p3), .val (.int p4), .val (.int f5), .val (.int f6), .unset, .unset, .unset, .unset, .unset, .unset, .unset, .unset, .unset, .unset, .unset, .unset, .unset, .unset, .unset, .unset, .unset, .unset, .unset, .unset, .unset, .unset, .unset] [])) (T595.setFrames fs) := by
    by_cases hq : p4 &&& (4 : Int32) = (0 : Int32)
    · show Steps p.tables e below (s₁.setTop (mkF m 28 #[.val (.int p0), .val (.int p1), .val (.int p2), .val (.int p3), .val (.int p4), .val (.int f5), .val (.int f6), .unset, .unset, .unset, .unset, .unset, .unset, .unset, .unset, .unset, .unset, .unset, .unset, .unset, .unset, .unset, .unset, .unset, .unset, .unset, .unset, .unset, .unset, .unset] [])) _
      refine XS.iload X0.here hx rfl (hb hby at_28) rfl ?_
      show Steps p.tables e below (s₁.setTop (mkF m 30 #[.val (.int p0), .val (.int p1), .val (.int p2), .val (.int p3), .val (.int p4), .val (.int f5), .val (.int f6), .unset, .unset, .unset, .unset, .unset, .unset, .unset, .unset, .unset, .unset, .unset, .unset, .unset, .unset, .unset, .unset, .unset, .unset, .unset, .unset, .unset, .unset, .unset] [(.int p4)])) _
      refine XS.iconst X0.here hx rfl (hb hby at_30) ?_
      show Steps p.tables e below (s₁.setTop (mkF m 31 #[.val (.int p0), .val (.int p1), .val (.int p2), .val (.int p3), .val (.int p4), .val (.int f5), .val (.int f6), .unset, .unset, .unset, .unset, .unset, .unset, .unset, .unset, .unset, .unset, .unset, .unset, .unset, .unset, .unset, .unset, .unset, .unset, .unset, .unset, .unset, .unset, .unset] [(.int (4 : Int32)), (.int p4)])) _
      refine XS.iand X0.here hx rfl (hb hby at_31) rfl ?_
      show Steps p.tables e below (s₁.setTop (mkF m 32 #[.val (.int p0), .val (.int p1), .val (.int p2), .val (.int p3), .val (.int p4), .val (.int f5), .val (.int f6), .unset, .unset, .unset, .unset, .unset, .unset, .unset, .unset, .unset, .unset, .unset, .unset, .unset, .unset, .unset, .unset, .unset, .unset, .unset, .unset, .unset, .unset, .unset] [(.int (p4 &&& (4 : Int32)))])) _
      refine XS.ifYes X0.here hx rfl (pc0 := 32) (pc' := 39) rfl (hb hby at_32) rfl ((if0 _ _).trans (teq hq).1) (by decide) (by decide) ?_
      show Steps p.tables e below (s₁.setTop (mkF m 39 #[.val (.int p0), .val (.int p1), .val (.int p2), .val (.int p3), .val (.int p4), .val (.int f5), .val (.int f6), .unset, .unset, .unset, .unset, .unset, .unset, .unset, .unset, .unset, .unset, .unset, .unset, .unset, .unset, .unset, .unset, .unset, .unset, .unset, .unset, .unset, .unset, .unset] [])) _
      refine XS.iconst X0.here hx rfl (hb hby at_39) ?_
      show Steps p.tables e below (s₁.setTop (mkF m 40 #[.val (.int p0), .val (.int p1), .val (.int p2), .val (.int p3), .val (.int p4), .val (.int f5), .val (.int f6), .unset, .unset, .unset, .unset, .unset, .unset, .unset, .unset, .unset, .unset, .unset, .unset, .unset, .unset, .unset, .unset, .unset, .unset, .unset, .unset, .unset, .unset, .unset] [(.int (0 : Int32))])) _
      refine XS.istore X0.here hx rfl (hb hby at_40) rfl (l' := #[.val (.int p0), .val (.int p1), .val (.int p2), .val (.int p3), .val (.int p4), .val (.int f5), .val (.int f6), .val (.int (0 : Int32)), .unset, .unset, .unset, .unset, .unset, .unset, .unset, .unset, .unset, .unset, .unset, .unset, .unset, .unset, .unset, .unset, .unset, .unset, .unset, .unset, .unset, .unset]) rfl ?_
      show Steps p.tables e below (s₁.setTop (mkF m 42 #[.val (.int p0), .val (.int p1), .val (.int p2), .val (.int p3), .val (.int p4), .val (.int f5), .val (.int f6), .val (.int (0 : Int32)), .unset, .unset, .unset, .unset, .unset, .unset, .unset, .unset, .unset, .unset, .unset, .unset, .unset, .unset, .unset, .unset, .unset, .unset, .unset, .unset, .unset, .unset] [])) _
      have kk := k42
      rw [show f7 = (0 : Int32) from ef7.trans (if_pos hq)] at kk
      exact kk
    · show Steps p.tables e below (s₁.setTop (mkF m 28 #[.val (.int p0), .val (.int p1), .val (.int p2), .val (.int p3), .val (.int p4), .val (.int f5), .val (.int f6), .unset, .unset, .unset, .unset, .unset, .unset, .unset, .unset, .unset, .unset, .unset, .unset, .unset, .unset, .unset, .unset, .unset, .unset, .unset, .unset, .unset, .unset, .unset] [])) _
      refine XS.iload X0.here hx rfl (hb hby at_28) rfl ?_
      show Steps p.tables e below (s₁.setTop (mkF m 30 #[.val (.int p0), .val (.int p1), .val (.int p2), .val (.int p3), .val (.int p4), .val (.int f5), .val (.int f6), .unset, .unset, .unset, .unset, .unset, .unset, .unset, .unset, .unset, .unset, .unset, .unset, .unset, .unset, .unset, .unset, .unset, .unset, .unset, .unset, .unset, .unset, .unset] [(.int p4)])) _
      refine XS.iconst X0.here hx rfl (hb hby at_30) ?_
      show Steps p.tables e below (s₁.setTop (mkF m 31 #[.val (.int p0), .val (.int p1), .val (.int p2), .val (.int p3), .val (.int p4), .val (.int f5), .val (.int f6), .unset, .unset, .unset, .unset, .unset, .unset, .unset, .unset, .unset, .unset, .unset, .unset, .unset, .unset, .unset, .unset, .unset, .unset, .unset, .unset, .unset, .unset, .unset] [(.int (4 : Int32)), (.int p4)])) _
      refine XS.iand X0.here hx rfl (hb hby at_31) rfl ?_
      show Steps p.tables e below (s₁.setTop (mkF m 32 #[.val (.int p0), .val (.int p1), .val (.int p2), .val (.int p3), .val (.int p4), .val (.int f5), .val (.int f6), .unset, .unset, .unset, .unset, .unset, .unset, .unset, .unset, .unset, .unset, .unset, .unset, .unset, .unset, .unset, .unset, .unset, .unset, .unset, .unset, .unset, .unset, .unset] [(.int (p4 &&& (4 : Int32)))])) _
      refine XS.ifNo X0.here hx rfl (hb hby at_32) rfl ((if0 _ _).trans (feq hq).1) ?_
      show Steps p.tables e below (s₁.setTop (mkF m 35 #[.val (.int p0), .val (.int p1), .val (.int p2), .val (.int p3), .val (.int p4), .val (.int f5), .val (.int f6), .unset, .unset, .unset, .unset, .unset, .unset, .unset, .unset, .unset, .unset, .unset, .unset, .unset, .unset, .unset, .unset, .unset, .unset, .unset, .unset, .unset, .unset, .unset] [])) _
      refine XS.iconst X0.here hx rfl (hb hby at_35) ?_
      show Steps p.tables e below (s₁.setTop (mkF m 36 #[.val (.int p0), .val (.int p1), .val (.int p2), .val (.int p3), .val (.int p4), .val (.int f5), .val (.int f6), .unset, .unset, .unset, .unset, .unset, .unset, .unset, .unset, .unset, .unset, .unset, .unset, .unset, .unset, .unset, .unset, .unset, .unset, .unset, .unset, .unset, .unset, .unset] [(.int (1 : Int32))])) _
      refine XS.goto X0.here hx rfl (pc0 := 36) (pc' := 40) rfl (hb hby at_36) (by decide) (by decide) ?_
      show Steps p.tables e below (s₁.setTop (mkF m 40 #[.val (.int p0), .val (.int p1), .val (.int p2), .val (.int p3), .val (.int p4), .val (.int f5), .val (.int f6), .unset, .unset, .unset, .unset, .unset, .unset, .unset, .unset, .unset, .unset, .unset, .unset, .unset, .unset, .unset, .unset, .unset, .unset, .unset, .unset, .unset, .unset, .unset] [(.int (1 : Int32))])) _
      refine XS.istore X0.here hx rfl (hb hby at_40) rfl (l' := #[.val (.int p0), .val (.int p1), .val (.int p2), .val (.int p3), .val (.int p4), .val (.int f5), .val (.int f6), .val (.int (1 : Int32)), .unset, .unset, .unset, .unset, .unset, .unset, .unset, .unset, .unset, .unset, .unset, .unset, .unset, .unset, .unset, .unset, .unset, .unset, .unset, .unset, .unset, .unset]) rfl ?_
      show Steps p.tables e below (s₁.setTop (mkF m 42 #[.val (.int p0), .val (.int p1), .val (.int p2), .val (.int p3), .val (.int p4), .val (.int f5), .val (.int f6), .val (.int (1 : Int32)), .unset, .unset, .unset, .unset, .unset, .unset, .unset, .unset, .unset, .unset, .unset, .unset, .unset, .unset, .unset, .unset, .unset, .unset, .unset, .unset, .unset, .unset] [])) _
      have kk := k42
      rw [show f7 = (1 : Int32) from ef7.trans (if_neg hq)] at kk
      exact kk
  have k14 : Steps p.tables e below (s₁.setTop (mkF m 14 #[.val (.int p0), .val (.int p1), .val (.int p2), .val (.int p3), .val (.int p4), .val (.int f5), .unset, .unset, .unset, .unset, .unset, .unset, .unset, .unset, .unset, .unset, .unset, .unset, .unset, .unset, .unset, .unset, .unset, .unset, .unset, .unset, .unset, .unset, .unset, .unset] [])) (T595.setFrames fs) := by
    by_cases hq : p4 &&& (2 : Int32) = (0 : Int32)
    · show Steps p.tables e below (s₁.setTop (mkF m 14 #[.val (.int p0), .val (.int p1), .val (.int p2), .val (.int p3), .val (.int p4), .val (.int f5), .unset, .unset, .unset, .unset, .unset, .unset, .unset, .unset, .unset, .unset, .unset, .unset, .unset, .unset, .unset, .unset, .unset, .unset, .unset, .unset, .unset, .unset, .unset, .unset] [])) _
      refine XS.iload X0.here hx rfl (hb hby at_14) rfl ?_
      show Steps p.tables e below (s₁.setTop (mkF m 16 #[.val (.int p0), .val (.int p1), .val (.int p2), .val (.int p3), .val (.int p4), .val (.int f5), .unset, .unset, .unset, .unset, .unset, .unset, .unset, .unset, .unset, .unset, .unset, .unset, .unset, .unset, .unset, .unset, .unset, .unset, .unset, .unset, .unset, .unset, .unset, .unset] [(.int p4)])) _
      refine XS.iconst X0.here hx rfl (hb hby at_16) ?_
      show Steps p.tables e below (s₁.setTop (mkF m 17 #[.val (.int p0), .val (.int p1), .val (.int p2), .val (.int p3), .val (.int p4), .val (.int f5), .unset, .unset, .unset, .unset, .unset, .unset, .unset, .unset, .unset, .unset, .unset, .unset, .unset, .unset, .unset, .unset, .unset, .unset, .unset, .unset, .unset, .unset, .unset, .unset] [(.int (2 : Int32)), (.int p4)])) _
      refine XS.iand X0.here hx rfl (hb hby at_17) rfl ?_
      show Steps p.tables e below (s₁.setTop (mkF m 18 #[.val (.int p0), .val (.int p1), .val (.int p2), .val (.int p3), .val (.int p4), .val (.int f5), .unset, .unset, .unset, .unset, .unset, .unset, .unset, .unset, .unset, .unset, .unset, .unset, .unset, .unset, .unset, .unset, .unset, .unset, .unset, .unset, .unset, .unset, .unset, .unset] [(.int (p4 &&& (2 : Int32)))])) _
      refine XS.ifYes X0.here hx rfl (pc0 := 18) (pc' := 25) rfl (hb hby at_18) rfl ((if0 _ _).trans (teq hq).1) (by decide) (by decide) ?_
      show Steps p.tables e below (s₁.setTop (mkF m 25 #[.val (.int p0), .val (.int p1), .val (.int p2), .val (.int p3), .val (.int p4), .val (.int f5), .unset, .unset, .unset, .unset, .unset, .unset, .unset, .unset, .unset, .unset, .unset, .unset, .unset, .unset, .unset, .unset, .unset, .unset, .unset, .unset, .unset, .unset, .unset, .unset] [])) _
      refine XS.iconst X0.here hx rfl (hb hby at_25) ?_
      show Steps p.tables e below (s₁.setTop (mkF m 26 #[.val (.int p0), .val (.int p1), .val (.int p2), .val (.int p3), .val (.int p4), .val (.int f5), .unset, .unset, .unset, .unset, .unset, .unset, .unset, .unset, .unset, .unset, .unset, .unset, .unset, .unset, .unset, .unset, .unset, .unset, .unset, .unset, .unset, .unset, .unset, .unset] [(.int (0 : Int32))])) _
      refine XS.istore X0.here hx rfl (hb hby at_26) rfl (l' := #[.val (.int p0), .val (.int p1), .val (.int p2), .val (.int p3), .val (.int p4), .val (.int f5), .val (.int (0 : Int32)), .unset, .unset, .unset, .unset, .unset, .unset, .unset, .unset, .unset, .unset, .unset, .unset, .unset, .unset, .unset, .unset, .unset, .unset, .unset, .unset, .unset, .unset, .unset]) rfl ?_
      show Steps p.tables e below (s₁.setTop (mkF m 28 #[.val (.int p0), .val (.int p1), .val (.int p2), .val (.int p3), .val (.int p4), .val (.int f5), .val (.int (0 : Int32)), .unset, .unset, .unset, .unset, .unset, .unset, .unset, .unset, .unset, .unset, .unset, .unset, .unset, .unset, .unset, .unset, .unset, .unset, .unset, .unset, .unset, .unset, .unset] [])) _
      have kk := k28
      rw [show f6 = (0 : Int32) from ef6.trans (if_pos hq)] at kk
      exact kk
    · show Steps p.tables e below (s₁.setTop (mkF m 14 #[.val (.int p0), .val (.int p1), .val (.int p2), .val (.int p3), .val (.int p4), .val (.int f5), .unset, .unset, .unset, .unset, .unset, .unset, .unset, .unset, .unset, .unset, .unset, .unset, .unset, .unset, .unset, .unset, .unset, .unset, .unset, .unset, .unset, .unset, .unset, .unset] [])) _
      refine XS.iload X0.here hx rfl (hb hby at_14) rfl ?_
      show Steps p.tables e below (s₁.setTop (mkF m 16 #[.val (.int p0), .val (.int p1), .val (.int p2), .val (.int p3), .val (.int p4), .val (.int f5), .unset, .unset, .unset, .unset, .unset, .unset, .unset, .unset, .unset, .unset, .unset, .unset, .unset, .unset, .unset, .unset, .unset, .unset, .unset, .unset, .unset, .unset, .unset, .unset] [(.int p4)])) _
      refine XS.iconst X0.here hx rfl (hb hby at_16) ?_
      show Steps p.tables e below (s₁.setTop (mkF m 17 #[.val (.int p0), .val (.int p1), .val (.int p2), .val (.int p3), .val (.int p4), .val (.int f5), .unset, .unset, .unset, .unset, .unset, .unset, .unset, .unset, .unset, .unset, .unset, .unset, .unset, .unset, .unset, .unset, .unset, .unset, .unset, .unset, .unset, .unset, .unset, .unset] [(.int (2 : Int32)), (.int p4)])) _
      refine XS.iand X0.here hx rfl (hb hby at_17) rfl ?_
      show Steps p.tables e below (s₁.setTop (mkF m 18 #[.val (.int p0), .val (.int p1), .val (.int p2), .val (.int p3), .val (.int p4), .val (.int f5), .unset, .unset, .unset, .unset, .unset, .unset, .unset, .unset, .unset, .unset, .unset, .unset, .unset, .unset, .unset, .unset, .unset, .unset, .unset, .unset, .unset, .unset, .unset, .unset] [(.int (p4 &&& (2 : Int32)))])) _
      refine XS.ifNo X0.here hx rfl (hb hby at_18) rfl ((if0 _ _).trans (feq hq).1) ?_
      show Steps p.tables e below (s₁.setTop (mkF m 21 #[.val (.int p0), .val (.int p1), .val (.int p2), .val (.int p3), .val (.int p4), .val (.int f5), .unset, .unset, .unset, .unset, .unset, .unset, .unset, .unset, .unset, .unset, .unset, .unset, .unset, .unset, .unset, .unset, .unset, .unset, .unset, .unset, .unset, .unset, .unset, .unset] [])) _
      refine XS.iconst X0.here hx rfl (hb hby at_21) ?_
      show Steps p.tables e below (s₁.setTop (mkF m 22 #[.val (.int p0), .val (.int p1), .val (.int p2), .val (.int p3), .val (.int p4), .val (.int f5), .unset, .unset, .unset, .unset, .unset, .unset, .unset, .unset, .unset, .unset, .unset, .unset, .unset, .unset, .unset, .unset, .unset, .unset, .unset, .unset, .unset, .unset, .unset, .unset] [(.int (1 : Int32))])) _
      refine XS.goto X0.here hx rfl (pc0 := 22) (pc' := 26) rfl (hb hby at_22) (by decide) (by decide) ?_
      show Steps p.tables e below (s₁.setTop (mkF m 26 #[.val (.int p0), .val (.int p1), .val (.int p2), .val (.int p3), .val (.int p4), .val (.int f5), .unset, .unset, .unset, .unset, .unset, .unset, .unset, .unset, .unset, .unset, .unset, .unset, .unset, .unset, .unset, .unset, .unset, .unset, .unset, .unset, .unset, .unset, .unset, .unset] [(.int (1 : Int32))])) _
      refine XS.istore X0.here hx rfl (hb hby at_26) rfl (l' := #[.val (.int p0), .val (.int p1), .val (.int p2), .val (.int p3), .val (.int p4), .val (.int f5), .val (.int (1 : Int32)), .unset, .unset, .unset, .unset, .unset, .unset, .unset, .unset, .unset, .unset, .unset, .unset, .unset, .unset, .unset, .unset, .unset, .unset, .unset, .unset, .unset, .unset, .unset]) rfl ?_
      show Steps p.tables e below (s₁.setTop (mkF m 28 #[.val (.int p0), .val (.int p1), .val (.int p2), .val (.int p3), .val (.int p4), .val (.int f5), .val (.int (1 : Int32)), .unset, .unset, .unset, .unset, .unset, .unset, .unset, .unset, .unset, .unset, .unset, .unset, .unset, .unset, .unset, .unset, .unset, .unset, .unset, .unset, .unset, .unset, .unset] [])) _
      have kk := k28
      rw [show f6 = (1 : Int32) from ef6.trans (if_neg hq)] at kk
      exact kk
  have k0 : Steps p.tables e below (s₁.setTop (mkF m 0 #[.val (.int p0), .val (.int p1), .val (.int p2), .val (.int p3), .val (.int p4), .unset, .unset, .unset, .unset, .unset, .unset, .unset, .unset, .unset, .unset, .unset, .unset, .unset, .unset, .unset, .unset, .unset, .unset, .unset, .unset, .unset, .unset, .unset, .unset, .unset] [])) (T595.setFrames fs) := by
    by_cases hq : p4 &&& (1 : Int32) = (0 : Int32)
    · show Steps p.tables e below (s₁.setTop (mkF m 0 #[.val (.int p0), .val (.int p1), .val (.int p2), .val (.int p3), .val (.int p4), .unset, .unset, .unset, .unset, .unset, .unset, .unset, .unset, .unset, .unset, .unset, .unset, .unset, .unset, .unset, .unset, .unset, .unset, .unset, .unset, .unset, .unset, .unset, .unset, .unset] [])) _
      refine XS.iload X0.here hx rfl (hb hby at_0) rfl ?_
      show Steps p.tables e below (s₁.setTop (mkF m 2 #[.val (.int p0), .val (.int p1), .val (.int p2), .val (.int p3), .val (.int p4), .unset, .unset, .unset, .unset, .unset, .unset, .unset, .unset, .unset, .unset, .unset, .unset, .unset, .unset, .unset, .unset, .unset, .unset, .unset, .unset, .unset, .unset, .unset, .unset, .unset] [(.int p4)])) _
      refine XS.iconst X0.here hx rfl (hb hby at_2) ?_
      show Steps p.tables e below (s₁.setTop (mkF m 3 #[.val (.int p0), .val (.int p1), .val (.int p2), .val (.int p3), .val (.int p4), .unset, .unset, .unset, .unset, .unset, .unset, .unset, .unset, .unset, .unset, .unset, .unset, .unset, .unset, .unset, .unset, .unset, .unset, .unset, .unset, .unset, .unset, .unset, .unset, .unset] [(.int (1 : Int32)), (.int p4)])) _
      refine XS.iand X0.here hx rfl (hb hby at_3) rfl ?_
      show Steps p.tables e below (s₁.setTop (mkF m 4 #[.val (.int p0), .val (.int p1), .val (.int p2), .val (.int p3), .val (.int p4), .unset, .unset, .unset, .unset, .unset, .unset, .unset, .unset, .unset, .unset, .unset, .unset, .unset, .unset, .unset, .unset, .unset, .unset, .unset, .unset, .unset, .unset, .unset, .unset, .unset] [(.int (p4 &&& (1 : Int32)))])) _
      refine XS.ifYes X0.here hx rfl (pc0 := 4) (pc' := 11) rfl (hb hby at_4) rfl ((if0 _ _).trans (teq hq).1) (by decide) (by decide) ?_
      show Steps p.tables e below (s₁.setTop (mkF m 11 #[.val (.int p0), .val (.int p1), .val (.int p2), .val (.int p3), .val (.int p4), .unset, .unset, .unset, .unset, .unset, .unset, .unset, .unset, .unset, .unset, .unset, .unset, .unset, .unset, .unset, .unset, .unset, .unset, .unset, .unset, .unset, .unset, .unset, .unset, .unset] [])) _
      refine XS.iconst X0.here hx rfl (hb hby at_11) ?_
      show Steps p.tables e below (s₁.setTop (mkF m 12 #[.val (.int p0), .val (.int p1), .val (.int p2), .val (.int p3), .val (.int p4), .unset, .unset, .unset, .unset, .unset, .unset, .unset, .unset, .unset, .unset, .unset, .unset, .unset, .unset, .unset, .unset, .unset, .unset, .unset, .unset, .unset, .unset, .unset, .unset, .unset] [(.int (0 : Int32))])) _
      refine XS.istore X0.here hx rfl (hb hby at_12) rfl (l' := #[.val (.int p0), .val (.int p1), .val (.int p2), .val (.int p3), .val (.int p4), .val (.int (0 : Int32)), .unset, .unset, .unset, .unset, .unset, .unset, .unset, .unset, .unset, .unset, .unset, .unset, .unset, .unset, .unset, .unset, .unset, .unset, .unset, .unset, .unset, .unset, .unset, .unset]) rfl ?_
      show Steps p.tables e below (s₁.setTop (mkF m 14 #[.val (.int p0), .val (.int p1), .val (.int p2), .val (.int p3), .val (.int p4), .val (.int (0 : Int32)), .unset, .unset, .unset, .unset, .unset, .unset, .unset, .unset, .unset, .unset, .unset, .unset, .unset, .unset, .unset, .unset, .unset, .unset, .unset, .unset, .unset, .unset, .unset, .unset] [])) _
      have kk := k14
      rw [show f5 = (0 : Int32) from ef5.trans (if_pos hq)] at kk
      exact kk
    · show Steps p.tables e below (s₁.setTop (mkF m 0 #[.val (.int p0), .val (.int p1), .val (.int p2), .val (.int p3), .val (.int p4), .unset, .unset, .unset, .unset, .unset, .unset, .unset, .unset, .unset, .unset, .unset, .unset, .unset, .unset, .unset, .unset, .unset, .unset, .unset, .unset, .unset, .unset, .unset, .unset, .unset] [])) _
      refine XS.iload X0.here hx rfl (hb hby at_0) rfl ?_
      show Steps p.tables e below (s₁.setTop (mkF m 2 #[.val (.int p0), .val (.int p1), .val (.int p2), .val (.int p3), .val (.int p4), .unset, .unset, .unset, .unset, .unset, .unset, .unset, .unset, .unset, .unset, .unset, .unset, .unset, .unset, .unset, .unset, .unset, .unset, .unset, .unset, .unset, .unset, .unset, .unset, .unset] [(.int p4)])) _
      refine XS.iconst X0.here hx rfl (hb hby at_2) ?_
      show Steps p.tables e below (s₁.setTop (mkF m 3 #[.val (.int p0), .val (.int p1), .val (.int p2), .val (.int p3), .val (.int p4), .unset, .unset, .unset, .unset, .unset, .unset, .unset, .unset, .unset, .unset, .unset, .unset, .unset, .unset, .unset, .unset, .unset, .unset, .unset, .unset, .unset, .unset, .unset, .unset, .unset] [(.int (1 : Int32)), (.int p4)])) _
      refine XS.iand X0.here hx rfl (hb hby at_3) rfl ?_
      show Steps p.tables e below (s₁.setTop (mkF m 4 #[.val (.int p0), .val (.int p1), .val (.int p2), .val (.int p3), .val (.int p4), .unset, .unset, .unset, .unset, .unset, .unset, .unset, .unset, .unset, .unset, .unset, .unset, .unset, .unset, .unset, .unset, .unset, .unset, .unset, .unset, .unset, .unset, .unset, .unset, .unset] [(.int (p4 &&& (1 : Int32)))])) _
      refine XS.ifNo X0.here hx rfl (hb hby at_4) rfl ((if0 _ _).trans (feq hq).1) ?_
      show Steps p.tables e below (s₁.setTop (mkF m 7 #[.val (.int p0), .val (.int p1), .val (.int p2), .val (.int p3), .val (.int p4), .unset, .unset, .unset, .unset, .unset, .unset, .unset, .unset, .unset, .unset, .unset, .unset, .unset, .unset, .unset, .unset, .unset, .unset, .unset, .unset, .unset, .unset, .unset, .unset, .unset] [])) _
      refine XS.iconst X0.here hx rfl (hb hby at_7) ?_
      show Steps p.tables e below (s₁.setTop (mkF m 8 #[.val (.int p0), .val (.int p1), .val (.int p2), .val (.int p3), .val (.int p4), .unset, .unset, .unset, .unset, .unset, .unset, .unset, .unset, .unset, .unset, .unset, .unset, .unset, .unset, .unset, .unset, .unset, .unset, .unset, .unset, .unset, .unset, .unset, .unset, .unset] [(.int (1 : Int32))])) _
      refine XS.goto X0.here hx rfl (pc0 := 8) (pc' := 12) rfl (hb hby at_8) (by decide) (by decide) ?_
      show Steps p.tables e below (s₁.setTop (mkF m 12 #[.val (.int p0), .val (.int p1), .val (.int p2), .val (.int p3), .val (.int p4), .unset, .unset, .unset, .unset, .unset, .unset, .unset, .unset, .unset, .unset, .unset, .unset, .unset, .unset, .unset, .unset, .unset, .unset, .unset, .unset, .unset, .unset, .unset, .unset, .unset] [(.int (1 : Int32))])) _
      refine XS.istore X0.here hx rfl (hb hby at_12) rfl (l' := #[.val (.int p0), .val (.int p1), .val (.int p2), .val (.int p3), .val (.int p4), .val (.int (1 : Int32)), .unset, .unset, .unset, .unset, .unset, .unset, .unset, .unset, .unset, .unset, .unset, .unset, .unset, .unset, .unset, .unset, .unset, .unset, .unset, .unset, .unset, .unset, .unset, .unset]) rfl ?_
      show Steps p.tables e below (s₁.setTop (mkF m 14 #[.val (.int p0), .val (.int p1), .val (.int p2), .val (.int p3), .val (.int p4), .val (.int (1 : Int32)), .unset, .unset, .unset, .unset, .unset, .unset, .unset, .unset, .unset, .unset, .unset, .unset, .unset, .unset, .unset, .unset, .unset, .unset, .unset, .unset, .unset, .unset, .unset, .unset] [])) _
      have kk := k14
      rw [show f5 = (1 : Int32) from ef5.trans (if_neg hq)] at kk
      exact kk
  refine ⟨_, _, pre0 _ k0, hrun, hended, _, _, rfl, ?_, ⟨_, rfl⟩, hW, hsame.mono (by decide) (by decide)⟩
  show Q0 Z p0 p1 p2 p3 p4 h0 n0 _ T595.heap _
  exact ⟨rfl, N595⟩
set_option maxRecDepth 65536 in
set_option maxHeartbeats 40000000 in
theorem comes_1 {Post : Tables → Env → Array Value → State → Outcome → State → Prop} (hpost : ∀ tb e args s v u, (limb_1_1.after args s (.returned v) u = true ∧ limb_1_2.after args s (.returned v) u = true ∧ True) → FrameEnd s (.returned v) u (Jvm.fieldLocs frame_1_writes args s ++ Jvm.arrayLocs frame_1_arrays args s ++ Jvm.staticLocs frame_1_statics s) 40 192 → Post tb e args s (.returned v) u) :
    ArmFor flags0 classFile x code maxLocals ret World_1 tables_1 room_1 Calls_1 rest_1 Pre_1 Post := by
  intro l hfl _ _ p e ha hc hk s m args below hf hA hF happ hP
  obtain ⟨hcalls, hrest, hpre⟩ := hP
  obtain ⟨-, -, -, hnamed, -, -, -, hat⟩ := (Spec.applies_iff hf).mp happ
  obtain ⟨hg, hn⟩ := and_e (Cond.before_iff.mp (show (Jvm.Cond.and given_1 narrow_1).before args s = true from hpre))
  obtain ⟨gc, gr0⟩ := and_e hg
  obtain ⟨ga0, gr1⟩ := and_e gr0
  obtain ⟨ga1, gr2⟩ := and_e gr1
  obtain ⟨ga2, gr3⟩ := and_e gr2
  obtain ⟨ga3, gr4⟩ := and_e gr3
  have ga4 := gr4
  obtain ⟨w0, w1, w2, w3, w4, rfl⟩ : ∃ w0 w1 w2 w3 w4 : Value, args = #[w0, w1, w2, w3, w4] := by
    have hs : args.size = 5 := by simpa [Cond.value, given_1] using gc
    obtain ⟨L⟩ := args
    match L, hs with
    | [w0, w1, w2, w3, w4], _ => exact ⟨w0, w1, w2, w3, w4, rfl⟩
  have hw := fun d (hd : d ∈ tables_1) => atoms_spec (ws := Jvm.Cond.code x code maxLocals ret :: tables_1) hat d (List.mem_cons_of_mem _ hd)
  obtain ⟨i0, ei0⟩ := is_v ga0
  obtain rfl : w0 = (.int i0) := Option.some.inj ei0
  obtain ⟨i1, ei1⟩ := is_v ga1
  obtain rfl : w1 = (.int i1) := Option.some.inj ei1
  obtain ⟨i2, ei2⟩ := is_v ga2
  obtain rfl : w2 = (.int i2) := Option.some.inj ei2
  obtain ⟨i3, ei3⟩ := is_v ga3
  obtain rfl : w3 = (.int i3) := Option.some.inj ei3
  obtain ⟨i4, ei4⟩ := is_v ga4
  obtain rfl : w4 = (.int i4) := Option.some.inj ei4
  obtain ⟨n, o, h1, h2, h3, _, L, rfl, ⟨rfl, N⟩, hq⟩ := rm0 l s _ hw tables_1 i0 i1 i2 i3 i4 s.heap s.heap.size (Nat.le_refl _) p e ha hc hk s m _ below hf ((Spec.applies_iff_loose hf).mp happ).1 ⟨rfl, State.Warmed39.refl s, rfl⟩ trivial
  refine ⟨n, _, h1, h2, h3, hpost _ _ _ _ _ _ ⟨Cond.after_iff.mpr rfl, Cond.after_iff.mpr (eq_i res_at (Term.int_eval (1)) rfl), trivial⟩ ⟨hq.1, hq.2.1, (hq.2.2.sift fun y hy => Or.inr (N y hy)).mono (by decide) (by decide)⟩⟩
theorem main_1_1 : Claimed_1_1 := comes_1 fun _ _ _ _ _ _ h hF => ⟨h.1, hF⟩
theorem main_1_2 : Claimed_1_2 := comes_1 fun _ _ _ _ _ _ h hF => ⟨h.2.1, hF⟩
end Jvm.Pilot.@@N@@
namespace Jvm.Pilot.@@N@@
open Jvm Jvm.ClassFile Sem Op Lib Jvm.Free Jvm.Stand Jvm.Pilot.@@N@@.Jvm.D
/-! MADE BY PROGRAM (witnessworld.py) out of the Statement's table words and the real class files: 19 classes; the members and pool entries that the words name. The judged class is class 1, her method 1. -/
namespace start1
open Jvm.ClassFile
def u (s : String) : CpInfo := .utf8 (stringToUtf16 s)
/-- a pool by its gaps: so many unusable entries, then the entry; so many at the end -/
def gap : Nat → List CpInfo → List CpInfo
  | 0, r => r
  | n + 1, r => .unusable :: gap n r
def poolList (es : List (Nat × CpInfo)) (last : Nat) : List CpInfo := es.foldr (fun e r => gap e.1 (e.2 :: r)) (gap last [])
def pool (es : List (Nat × CpInfo)) (last : Nat) : Array CpInfo := ⟨poolList es last⟩
def fileOf (pool : Array CpInfo) (this : Nat) (attrs : Array Attribute := #[]) (ms : Array MethodInfo := #[]) (fl : Nat := 33) (sup : Nat := 0) (ifs : Array Nat := #[]) (fds : Array FieldInfo := #[]) : ClassFile where
  minorVersion := 0
  majorVersion := 65
  constantPool := pool
  accessFlags := fl
  thisClass := this
  superClass := sup
  interfaces := ifs
  fields := fds
  methods := ms
  attributes := attrs
def plain (name : String) (sup : Option ClassId) : Class where
  name := name
  kind := .ordinary
  loader := none
  accessFlags := 33
  super := sup
  interfaces := #[]
  cf := none
  fields := #[]
  methods := #[]
  instanceTypes := #[]
  staticTypes := #[]
  resolved := #[]
  callSites := []
  init := .initialized
  statics := none
  mirror := none

def pool0 : Array CpInfo := pool [(5, u "<init>"), (0, u "()V"), (1, .class_ 10), (1, u "java/lang/Object")] 113

def k0c0 : Code := { maxStack := 0, maxLocals := 1, code := object_method_1_code, exceptionTable := #[], attributes := #[] }
def k0m0 : Method := { name := "<init>", desc := "()V", sig := { parameters := [], returnType := none }, accessFlags := 1, code := some k0c0 }
/-- java/lang/Object -/
def k0 : Class := { plain "java/lang/Object" none with
  accessFlags := 33
  interfaces := #[]
  cf := some (fileOf pool0 8 #[] #[{ accessFlags := 1, nameIndex := 5, descriptorIndex := 6, attributes := #[] }] 33 0 #[] #[])
  fields := #[]
  methods := #[k0m0]
  instanceTypes := #[]
  staticTypes := #[]
  resolved := Array.replicate 124 none
  statics := none }

def pool1 : Array CpInfo := pool [(2, .class_ 4), (1, u "java/lang/Object"), (0, u "<init>"), (0, u "()V"), (0, .class_ 8), (0, u "com/example/outcry/outcry/core/Tally"), (0, .methodref 7 10), (0, .nameAndType 5 11), (0, u "(I)V"), (0, .class_ 13), (0, u "com/example/outcry/outcry/core/Tally$RunSums"), (0, .methodref 12 10), (0, .methodref 12 16), (0, .nameAndType 17 18), (0, u "add"), (0, u "([D)V"), (0, .methodref 7 20), (0, .nameAndType 17 21), (0, u "(Lcom/example/outcry/outcry/core/Tally$RunSums;)V"), (0, .methodref 7 23), (0, .nameAndType 24 25), (0, u "mean"), (0, u "(I)D"), (0, .class_ 27), (0, u "com/example/outcry/outcry/core/TallyMeanPinLaw"), (2, u "law"), (0, u "(IIIII)Z")] 7

def k1m0 : Method := { name := "<init>", desc := "()V", sig := { parameters := [], returnType := none }, accessFlags := 1, code := none }
def k1c1 : Code := { maxStack := 6, maxLocals := 30, code := code, exceptionTable := #[], attributes := #[] }
def k1m1 : Method := { name := "law", desc := "(IIIII)Z", sig := { parameters := [.int, .int, .int, .int, .int], returnType := some .boolean }, accessFlags := 9, code := some k1c1 }
/-- com/example/outcry/outcry/core/TallyMeanPinLaw -/
def k1 : Class := { plain "com/example/outcry/outcry/core/TallyMeanPinLaw" (some 0) with
  accessFlags := 49
  interfaces := #[]
  cf := some (fileOf pool1 26 #[] #[{ accessFlags := 1, nameIndex := 5, descriptorIndex := 6, attributes := #[] }, { accessFlags := 9, nameIndex := 30, descriptorIndex := 31, attributes := #[] }] 49 2 #[] #[])
  fields := #[]
  methods := #[k1m0, k1m1]
  instanceTypes := #[]
  staticTypes := #[]
  resolved := Array.replicate 39 none
  statics := none }

def pool2 : Array CpInfo := pool [(1, .methodref 2 3), (0, .class_ 4), (0, .nameAndType 5 6), (0, u "java/lang/Object"), (0, u "<init>"), (0, u "()V"), (0, .fieldref 8 9), (0, .class_ 10), (0, .nameAndType 11 12), (0, u "com/example/outcry/outcry/core/Tally"), (0, u "total"), (0, u "[D"), (0, .fieldref 8 14), (0, .nameAndType 15 16), (0, u "count"), (0, u "[J"), (0, .fieldref 8 18), (0, .nameAndType 19 16), (0, u "runsObserved"), (0, .fieldref 8 21), (0, .nameAndType 22 12), (0, u "meanOfRunMeans"), (0, .fieldref 8 24), (0, .nameAndType 25 12), (0, u "squaredDeviations"), (0, .fieldref 27 14), (0, .class_ 28), (0, u "com/example/outcry/outcry/core/Tally$RunSums"), (0, .fieldref 27 9), (2, .double 9221120237041090560), (9, u "(I)V"), (2, u "add"), (0, u "(Lcom/example/outcry/outcry/core/Tally$RunSums;)V"), (1, u "mean"), (0, u "(I)D")] 6

def k2c0 : Code := { maxStack := 2, maxLocals := 2, code := prog_37_method_1_code, exceptionTable := #[], attributes := #[] }
def k2m0 : Method := { name := "<init>", desc := "(I)V", sig := { parameters := [.int], returnType := none }, accessFlags := 0, code := some k2c0 }
def k2c1 : Code := { maxStack := 10, maxLocals := 7, code := prog_37_method_2_code, exceptionTable := #[], attributes := #[] }
def k2m1 : Method := { name := "add", desc := "(Lcom/example/outcry/outcry/core/Tally$RunSums;)V", sig := { parameters := [(.object "com/example/outcry/outcry/core/Tally$RunSums")], returnType := none }, accessFlags := 0, code := some k2c1 }
def k2c2 : Code := { maxStack := 4, maxLocals := 2, code := prog_37_method_3_code, exceptionTable := #[], attributes := #[] }
def k2m2 : Method := { name := "mean", desc := "(I)D", sig := { parameters := [.int], returnType := some .double }, accessFlags := 0, code := some k2c2 }
/-- com/example/outcry/outcry/core/Tally -/
def k2 : Class := { plain "com/example/outcry/outcry/core/Tally" (some 0) with
  accessFlags := 48
  interfaces := #[]
  cf := some (fileOf pool2 8 #[.nestMembers #[27]] #[{ accessFlags := 0, nameIndex := 5, descriptorIndex := 42, attributes := #[] }, { accessFlags := 0, nameIndex := 45, descriptorIndex := 46, attributes := #[] }, { accessFlags := 0, nameIndex := 48, descriptorIndex := 49, attributes := #[] }] 48 2 #[] #[{ accessFlags := 18, nameIndex := 11, descriptorIndex := 12, attributes := #[] }, { accessFlags := 18, nameIndex := 15, descriptorIndex := 16, attributes := #[] }, { accessFlags := 18, nameIndex := 19, descriptorIndex := 16, attributes := #[] }, { accessFlags := 18, nameIndex := 22, descriptorIndex := 12, attributes := #[] }, { accessFlags := 18, nameIndex := 25, descriptorIndex := 12, attributes := #[] }])
  fields := #[{ name := "total", type := (.array .double), accessFlags := 18, slot := 0, constantValue := 0 }, { name := "count", type := (.array .long), accessFlags := 18, slot := 1, constantValue := 0 }, { name := "runsObserved", type := (.array .long), accessFlags := 18, slot := 2, constantValue := 0 }, { name := "meanOfRunMeans", type := (.array .double), accessFlags := 18, slot := 3, constantValue := 0 }, { name := "squaredDeviations", type := (.array .double), accessFlags := 18, slot := 4, constantValue := 0 }]
  methods := #[k2m0, k2m1, k2m2]
  instanceTypes := #[(.array .double), (.array .long), (.array .long), (.array .double), (.array .double)]
  staticTypes := #[]
  resolved := ((Array.replicate 56 none).setIfInBounds 26 (some (.field 3 1))).setIfInBounds 29 (some (.field 3 0))
  statics := none }

def pool3 : Array CpInfo := pool [(1, .methodref 2 3), (0, .class_ 4), (0, .nameAndType 5 6), (0, u "java/lang/Object"), (0, u "<init>"), (0, u "()V"), (0, .fieldref 8 9), (0, .class_ 10), (0, .nameAndType 11 12), (0, u "com/example/outcry/outcry/core/Tally$RunSums"), (0, u "total"), (0, u "[D"), (0, .fieldref 8 14), (0, .nameAndType 15 16), (0, u "count"), (0, u "[J"), (0, .methodref 18 19), (0, .class_ 20), (0, .nameAndType 21 22), (0, u "java/lang/Double"), (0, u "isNaN"), (0, u "(D)Z"), (0, u "(I)V"), (2, u "add"), (0, u "([D)V"), (4, .class_ 33), (0, u "com/example/outcry/outcry/core/Tally")] 2

def k3c0 : Code := { maxStack := 2, maxLocals := 2, code := prog_38_method_1_code, exceptionTable := #[], attributes := #[] }
def k3m0 : Method := { name := "<init>", desc := "(I)V", sig := { parameters := [.int], returnType := none }, accessFlags := 0, code := some k3c0 }
def k3c1 : Code := { maxStack := 6, maxLocals := 3, code := prog_38_method_2_code, exceptionTable := #[], attributes := #[] }
def k3m1 : Method := { name := "add", desc := "([D)V", sig := { parameters := [(.array .double)], returnType := none }, accessFlags := 0, code := some k3c1 }
/-- com/example/outcry/outcry/core/Tally$RunSums -/
def k3 : Class := { plain "com/example/outcry/outcry/core/Tally$RunSums" (some 0) with
  accessFlags := 48
  interfaces := #[]
  cf := some (fileOf pool3 8 #[.nestHost 32] #[{ accessFlags := 0, nameIndex := 5, descriptorIndex := 23, attributes := #[] }, { accessFlags := 0, nameIndex := 26, descriptorIndex := 27, attributes := #[] }] 48 2 #[] #[{ accessFlags := 18, nameIndex := 11, descriptorIndex := 12, attributes := #[] }, { accessFlags := 18, nameIndex := 15, descriptorIndex := 16, attributes := #[] }])
  fields := #[{ name := "total", type := (.array .double), accessFlags := 18, slot := 0, constantValue := 0 }, { name := "count", type := (.array .long), accessFlags := 18, slot := 1, constantValue := 0 }]
  methods := #[k3m0, k3m1]
  instanceTypes := #[(.array .double), (.array .long)]
  staticTypes := #[]
  resolved := Array.replicate 36 none
  statics := none }

def pool4 : Array CpInfo := pool [(1, .class_ 2), (0, u "java/io/Serializable"), (0, .class_ 4), (0, u "java/lang/Object")] 2

/-- java/io/Serializable -/
def k4 : Class := { plain "java/io/Serializable" (some 0) with
  accessFlags := 1537
  interfaces := #[]
  cf := some (fileOf pool4 1 #[] #[] 1537 3 #[] #[])
  fields := #[]
  methods := #[]
  instanceTypes := #[]
  staticTypes := #[]
  resolved := Array.replicate 7 none
  statics := none }

def pool5 : Array CpInfo := pool [(2, .class_ 4), (1, u "java/lang/Object"), (0, u "<init>"), (0, u "()V"), (1, .class_ 10), (1, u "java/lang/Number"), (2, .class_ 14), (0, u "java/io/Serializable"), (0, u "serialVersionUID"), (0, u "J")] 20

def k5m0 : Method := { name := "<init>", desc := "()V", sig := { parameters := [], returnType := none }, accessFlags := 1, code := none }
/-- java/lang/Number -/
def k5 : Class := { plain "java/lang/Number" (some 0) with
  accessFlags := 1057
  interfaces := #[4]
  cf := some (fileOf pool5 8 #[] #[{ accessFlags := 1, nameIndex := 5, descriptorIndex := 6, attributes := #[] }] 1057 2 #[13] #[{ accessFlags := 26, nameIndex := 15, descriptorIndex := 16, attributes := #[] }])
  fields := #[{ name := "serialVersionUID", type := .long, accessFlags := 26, slot := 0, constantValue := 0 }]
  methods := #[k5m0]
  instanceTypes := #[]
  staticTypes := #[.long]
  resolved := Array.replicate 37 none
  statics := none }

def pool6 : Array CpInfo := pool [(1, .class_ 2), (0, u "java/lang/Comparable"), (0, .class_ 4), (0, u "java/lang/Object")] 7

/-- java/lang/Comparable -/
def k6 : Class := { plain "java/lang/Comparable" (some 0) with
  accessFlags := 1537
  interfaces := #[]
  cf := some (fileOf pool6 1 #[] #[] 1537 3 #[] #[])
  fields := #[]
  methods := #[]
  instanceTypes := #[]
  staticTypes := #[]
  resolved := Array.replicate 12 none
  statics := none }

def pool7 : Array CpInfo := pool [(1, .class_ 2), (0, u "java/lang/constant/Constable"), (0, .class_ 4), (0, u "java/lang/Object")] 6

/-- java/lang/constant/Constable -/
def k7 : Class := { plain "java/lang/constant/Constable" (some 0) with
  accessFlags := 1537
  interfaces := #[]
  cf := some (fileOf pool7 1 #[] #[] 1537 3 #[] #[])
  fields := #[]
  methods := #[]
  instanceTypes := #[]
  staticTypes := #[]
  resolved := Array.replicate 11 none
  statics := none }

def pool8 : Array CpInfo := pool [(1, .class_ 2), (0, u "java/lang/constant/ConstantDesc"), (0, .class_ 4), (0, u "java/lang/Object")] 32

/-- java/lang/constant/ConstantDesc -/
def k8 : Class := { plain "java/lang/constant/ConstantDesc" (some 0) with
  accessFlags := 1537
  interfaces := #[]
  cf := some (fileOf pool8 1 #[] #[] 1537 3 #[] #[])
  fields := #[]
  methods := #[]
  instanceTypes := #[]
  staticTypes := #[]
  resolved := Array.replicate 37 none
  statics := none }

def pool9 : Array CpInfo := pool [(1, .class_ 2), (0, u "java/lang/Double"), (11, u "(D)Z"), (99, .class_ 116), (1, u "java/lang/Number"), (3, u "value"), (0, u "D"), (2, u "isNaN"), (48, u "TYPE"), (0, u "Ljava/lang/Class;"), (0, .class_ 176), (0, u "java/lang/Comparable"), (0, .class_ 178), (0, u "java/lang/constant/Constable"), (0, .class_ 180), (0, u "java/lang/constant/ConstantDesc"), (0, u "POSITIVE_INFINITY"), (3, u "NEGATIVE_INFINITY"), (2, u "NaN"), (2, u "MAX_VALUE"), (0, u "MIN_NORMAL"), (0, u "MIN_VALUE"), (2, u "SIZE"), (0, u "I"), (1, u "PRECISION"), (1, u "MAX_EXPONENT"), (1, u "MIN_EXPONENT"), (1, u "BYTES"), (3, u "serialVersionUID"), (0, u "J")] 79

def k9c0 : Code := { maxStack := 4, maxLocals := 2, code := jdk_117_method_6_code, exceptionTable := #[], attributes := #[] }
def k9m0 : Method := { name := "isNaN", desc := "(D)Z", sig := { parameters := [.double], returnType := some .boolean }, accessFlags := 9, code := some k9c0 }
/-- java/lang/Double -/
def k9 : Class := { plain "java/lang/Double" (some 5) with
  accessFlags := 49
  interfaces := #[6, 7, 8]
  cf := some (fileOf pool9 1 #[] #[{ accessFlags := 9, nameIndex := 124, descriptorIndex := 14, attributes := #[] }] 49 114 #[175, 177, 179] #[{ accessFlags := 25, nameIndex := 181, descriptorIndex := 121, attributes := #[] }, { accessFlags := 25, nameIndex := 185, descriptorIndex := 121, attributes := #[] }, { accessFlags := 25, nameIndex := 188, descriptorIndex := 121, attributes := #[] }, { accessFlags := 25, nameIndex := 191, descriptorIndex := 121, attributes := #[] }, { accessFlags := 25, nameIndex := 192, descriptorIndex := 121, attributes := #[] }, { accessFlags := 25, nameIndex := 193, descriptorIndex := 121, attributes := #[] }, { accessFlags := 25, nameIndex := 196, descriptorIndex := 197, attributes := #[] }, { accessFlags := 25, nameIndex := 199, descriptorIndex := 197, attributes := #[] }, { accessFlags := 25, nameIndex := 201, descriptorIndex := 197, attributes := #[] }, { accessFlags := 25, nameIndex := 203, descriptorIndex := 197, attributes := #[] }, { accessFlags := 25, nameIndex := 205, descriptorIndex := 197, attributes := #[] }, { accessFlags := 25, nameIndex := 173, descriptorIndex := 174, attributes := #[] }, { accessFlags := 18, nameIndex := 120, descriptorIndex := 121, attributes := #[] }, { accessFlags := 26, nameIndex := 209, descriptorIndex := 210, attributes := #[] }])
  fields := #[{ name := "POSITIVE_INFINITY", type := .double, accessFlags := 25, slot := 0, constantValue := 0 }, { name := "NEGATIVE_INFINITY", type := .double, accessFlags := 25, slot := 1, constantValue := 0 }, { name := "NaN", type := .double, accessFlags := 25, slot := 2, constantValue := 0 }, { name := "MAX_VALUE", type := .double, accessFlags := 25, slot := 3, constantValue := 0 }, { name := "MIN_NORMAL", type := .double, accessFlags := 25, slot := 4, constantValue := 0 }, { name := "MIN_VALUE", type := .double, accessFlags := 25, slot := 5, constantValue := 0 }, { name := "SIZE", type := .int, accessFlags := 25, slot := 6, constantValue := 0 }, { name := "PRECISION", type := .int, accessFlags := 25, slot := 7, constantValue := 0 }, { name := "MAX_EXPONENT", type := .int, accessFlags := 25, slot := 8, constantValue := 0 }, { name := "MIN_EXPONENT", type := .int, accessFlags := 25, slot := 9, constantValue := 0 }, { name := "BYTES", type := .int, accessFlags := 25, slot := 10, constantValue := 0 }, { name := "TYPE", type := (.object "java/lang/Class"), accessFlags := 25, slot := 11, constantValue := 0 }, { name := "value", type := .double, accessFlags := 18, slot := 0, constantValue := 0 }, { name := "serialVersionUID", type := .long, accessFlags := 26, slot := 12, constantValue := 0 }]
  methods := #[k9m0]
  instanceTypes := #[.double]
  staticTypes := #[.double, .double, .double, .double, .double, .double, .int, .int, .int, .int, .int, (.object "java/lang/Class"), .long]
  resolved := Array.replicate 290 none
  statics := none }

def pool10 : Array CpInfo := pool [(1, u "java/lang/Cloneable"), (0, .class_ 1), (0, u "java/lang/Object"), (0, .class_ 3)] 3

/-- java/lang/Cloneable -/
def k10 : Class := { plain "java/lang/Cloneable" (some 0) with
  accessFlags := 1537
  interfaces := #[]
  cf := some (fileOf pool10 2 #[] #[] 1537 4 #[] #[])
  fields := #[]
  methods := #[]
  instanceTypes := #[]
  staticTypes := #[]
  resolved := Array.replicate 8 none
  statics := none }

/-- the primitive byte -/
def k11 : Class := { plain "byte" none with kind := .primitive 'B', accessFlags := 0x411 }
/-- [B -/
def k12 : Class := { plain "[B" (some 0) with kind := .array 11 .byte, interfaces := #[10, 4], accessFlags := 1041 }

/-- the primitive double -/
def k13 : Class := { plain "double" none with kind := .primitive 'D', accessFlags := 0x411 }
/-- [D -/
def k14 : Class := { plain "[D" (some 0) with kind := .array 13 .double, interfaces := #[10, 4], accessFlags := 1041 }

/-- the primitive int -/
def k15 : Class := { plain "int" none with kind := .primitive 'I', accessFlags := 0x411 }
/-- [I -/
def k16 : Class := { plain "[I" (some 0) with kind := .array 15 .int, interfaces := #[10, 4], accessFlags := 1041 }

/-- the primitive long -/
def k17 : Class := { plain "long" none with kind := .primitive 'J', accessFlags := 0x411 }
/-- [J -/
def k18 : Class := { plain "[J" (some 0) with kind := .array 17 .long, interfaces := #[10, 4], accessFlags := 1041 }

def heap : Heap := #[]
def classes : Array Class := #[k0, k1, k2, k3, k4, k5, k6, k7, k8, k9, k10, k11, k12, k13, k14, k15, k16, k17, k18]
def interned : List (Array UInt16 × Addr) := []
def slotsUsed : Nat := 0
def theMethod : MethodId := ⟨1, 1⟩
def args0 : Array Value := #[.int 5, .int 5, .int 5, .int 5, .int 5]
def aboutOver (below : List Frame) : State where
  vm := { classes := classes, interned := interned.toArray }
  heap := heap
  slotsUsed := slotsUsed
  threads := #[{ frames := .invoking theMethod args0 :: below }]
def below0 : List Frame := [.native { method := ⟨0, 0⟩, args := #[] }]
def about1 : State := aboutOver below0
def p0 : Program := .bare "" "" ""
def e0 : Env := launch0.env 0 0 0
theorem w_frames : about1.frames = Frame.invoking theMethod args0 :: below0 := rfl
set_option maxRecDepth 65536 in
theorem w_args : argsFit about1.vm theMethod args0 = true := by decide +kernel
set_option maxRecDepth 65536 in
theorem w_heap : heapFits about1 = true := by decide +kernel
set_option maxRecDepth 65536 in
theorem w_runnable : about1.curStatus? = some .runnable := by decide +kernel
set_option maxRecDepth 65536 in
theorem w_alone : about1.alone = true := by decide +kernel
set_option maxRecDepth 65536 in
theorem w_named : about1.methodNamed? x = some theMethod := by decide +kernel
set_option maxRecDepth 65536 in
theorem w_hears : about1.hears theMethod below0 = true := by decide +kernel
set_option maxRecDepth 65536 in
theorem w_ripe : about1.ripe theMethod args0 below0 = true := by decide +kernel
theorem w_running : about1.status = .running := rfl
set_option maxRecDepth 65536 in
theorem w_room : about1.hasRoom e0.platform room_1 = true :=
  launch0.hasRoom_least _ room_1 (by decide +kernel) (by decide +kernel) (by decide +kernel) (by decide +kernel) (by decide +kernel) (by decide +kernel)
theorem allAtoms_all (ts : List Jvm.Cond) (a : Array Jvm.Value) (st : Jvm.State) : (allAtoms ts).before a st = ts.all (fun c => c.before a st) := by
  induction ts with
  | nil => rfl
  | cons c t ih =>
    show (Jvm.Cond.and c (allAtoms t)).before a st = _
    rw [Jvm.Cond.before_and, ih, List.all_cons]
def words1 : List Jvm.Cond := Jvm.Cond.code x code maxLocals ret :: tables_1
/-- a 'code' word, met by the world's own term for the bytes: nothing is compared byte by byte -/
theorem code_word {y : MethodName} {bytes : ByteArray} {mx : Nat} {rt : Option FieldType} {a : Array Value} {s : State} {m : MethodId} {meth : Method} {c : Code} (h1 : s.methodNamed? y = some m) (h2 : s.vm.method? m = some meth) (h3 : meth.code = some c) (h4 : c.code = bytes)
    (h5 : (c.maxLocals == mx && c.exceptionTable.isEmpty && decide (c.maxStack ≤ mostOperands) && decide (meth.sig.returnType = rt) && !meth.locks && decide (parseMethodDescriptor y.desc = some meth.sig)) = true) : (Jvm.Cond.code y bytes mx rt).before a s = true := by
  simp only [Bool.and_eq_true, beq_iff_eq, Bool.not_eq_true', decide_eq_true_eq] at h5
  obtain ⟨⟨⟨⟨⟨g1, g2⟩, g3⟩, g4⟩, g5⟩, g6⟩ := h5
  simp [Cond.before, Cond.holds, Cond.value, h1, h2, h3, h4, g1, g2, g3, g4, g5, g6]
def isCode : Jvm.Cond → Bool
  | .code _ _ _ _ => true
  | _ => false
theorem all_split {L : List Jvm.Cond} {P : Jvm.Cond → Bool} (h1 : L.all (fun c => isCode c || P c) = true) (h2 : ∀ c ∈ L.filter isCode, P c = true) : L.all P = true := by
  refine List.all_eq_true.mpr fun c hc => ?_
  have h := List.all_eq_true.mp h1 c hc
  rcases Bool.eq_false_or_eq_true (isCode c) with hi | hi
  · exact h2 c (List.mem_filter.mpr ⟨hc, hi⟩)
  · simpa [hi] using h
set_option maxRecDepth 65536 in
theorem w_c0 : (Jvm.Cond.code x code maxLocals ret).before args0 about1 = true := code_word (m := ⟨1, 1⟩) (meth := k1m1) (c := k1c1) (by decide +kernel) rfl rfl rfl (by decide +kernel)
set_option maxRecDepth 65536 in
theorem w_c1 : (Jvm.Cond.code ({ cls := "com/example/outcry/outcry/core/Tally", name := "<init>", desc := "(I)V" } : Jvm.MethodName) prog_37_method_1_code (2 : Nat) (Option.none : Option Jvm.ClassFile.FieldType)).before args0 about1 = true := code_word (m := ⟨2, 0⟩) (meth := k2m0) (c := k2c0) (by decide +kernel) rfl rfl rfl (by decide +kernel)
set_option maxRecDepth 65536 in
theorem w_c2 : (Jvm.Cond.code ({ cls := "java/lang/Object", name := "<init>", desc := "()V" } : Jvm.MethodName) object_method_1_code (1 : Nat) (Option.none : Option Jvm.ClassFile.FieldType)).before args0 about1 = true := code_word (m := ⟨0, 0⟩) (meth := k0m0) (c := k0c0) (by decide +kernel) rfl rfl rfl (by decide +kernel)
set_option maxRecDepth 65536 in
theorem w_c3 : (Jvm.Cond.code ({ cls := "com/example/outcry/outcry/core/Tally$RunSums", name := "<init>", desc := "(I)V" } : Jvm.MethodName) prog_38_method_1_code (2 : Nat) (Option.none : Option Jvm.ClassFile.FieldType)).before args0 about1 = true := code_word (m := ⟨3, 0⟩) (meth := k3m0) (c := k3c0) (by decide +kernel) rfl rfl rfl (by decide +kernel)
set_option maxRecDepth 65536 in
theorem w_c4 : (Jvm.Cond.code ({ cls := "com/example/outcry/outcry/core/Tally$RunSums", name := "add", desc := "([D)V" } : Jvm.MethodName) prog_38_method_2_code (3 : Nat) (Option.none : Option Jvm.ClassFile.FieldType)).before args0 about1 = true := code_word (m := ⟨3, 1⟩) (meth := k3m1) (c := k3c1) (by decide +kernel) rfl rfl rfl (by decide +kernel)
set_option maxRecDepth 65536 in
theorem w_c5 : (Jvm.Cond.code ({ cls := "java/lang/Double", name := "isNaN", desc := "(D)Z" } : Jvm.MethodName) jdk_117_method_6_code (2 : Nat) (Option.some Jvm.ClassFile.FieldType.boolean)).before args0 about1 = true := code_word (m := ⟨9, 0⟩) (meth := k9m0) (c := k9c0) (by decide +kernel) rfl rfl rfl (by decide +kernel)
set_option maxRecDepth 65536 in
theorem w_c6 : (Jvm.Cond.code ({ cls := "com/example/outcry/outcry/core/Tally", name := "add", desc := "(Lcom/example/outcry/outcry/core/Tally$RunSums;)V" } : Jvm.MethodName) prog_37_method_2_code (7 : Nat) (Option.none : Option Jvm.ClassFile.FieldType)).before args0 about1 = true := code_word (m := ⟨2, 1⟩) (meth := k2m1) (c := k2c1) (by decide +kernel) rfl rfl rfl (by decide +kernel)
set_option maxRecDepth 65536 in
theorem w_c7 : (Jvm.Cond.code ({ cls := "com/example/outcry/outcry/core/Tally", name := "mean", desc := "(I)D" } : Jvm.MethodName) prog_37_method_3_code (2 : Nat) (Option.some Jvm.ClassFile.FieldType.double)).before args0 about1 = true := code_word (m := ⟨2, 2⟩) (meth := k2m2) (c := k2c2) (by decide +kernel) rfl rfl rfl (by decide +kernel)
def codes1 : List Jvm.Cond := [Jvm.Cond.code x code maxLocals ret, Jvm.Cond.code ({ cls := "com/example/outcry/outcry/core/Tally", name := "<init>", desc := "(I)V" } : Jvm.MethodName) prog_37_method_1_code (2 : Nat) (Option.none : Option Jvm.ClassFile.FieldType), Jvm.Cond.code ({ cls := "java/lang/Object", name := "<init>", desc := "()V" } : Jvm.MethodName) object_method_1_code (1 : Nat) (Option.none : Option Jvm.ClassFile.FieldType), Jvm.Cond.code ({ cls := "com/example/outcry/outcry/core/Tally$RunSums", name := "<init>", desc := "(I)V" } : Jvm.MethodName) prog_38_method_1_code (2 : Nat) (Option.none : Option Jvm.ClassFile.FieldType), Jvm.Cond.code ({ cls := "com/example/outcry/outcry/core/Tally$RunSums", name := "add", desc := "([D)V" } : Jvm.MethodName) prog_38_method_2_code (3 : Nat) (Option.none : Option Jvm.ClassFile.FieldType), Jvm.Cond.code ({ cls := "java/lang/Double", name := "isNaN", desc := "(D)Z" } : Jvm.MethodName) jdk_117_method_6_code (2 : Nat) (Option.some Jvm.ClassFile.FieldType.boolean), Jvm.Cond.code ({ cls := "com/example/outcry/outcry/core/Tally", name := "add", desc := "(Lcom/example/outcry/outcry/core/Tally$RunSums;)V" } : Jvm.MethodName) prog_37_method_2_code (7 : Nat) (Option.none : Option Jvm.ClassFile.FieldType), Jvm.Cond.code ({ cls := "com/example/outcry/outcry/core/Tally", name := "mean", desc := "(I)D" } : Jvm.MethodName) prog_37_method_3_code (2 : Nat) (Option.some Jvm.ClassFile.FieldType.double)]
set_option maxRecDepth 65536 in
theorem codes_eq : words1.filter isCode = codes1 := rfl
theorem w_codes : ∀ c ∈ words1.filter isCode, c.before args0 about1 = true := by
  rw [codes_eq]
  intro c hc
  simp only [codes1, List.mem_cons, List.not_mem_nil, or_false] at hc
  rcases hc with rfl | rfl | rfl | rfl | rfl | rfl | rfl | rfl
  · exact w_c0
  · exact w_c1
  · exact w_c2
  · exact w_c3
  · exact w_c4
  · exact w_c5
  · exact w_c6
  · exact w_c7
set_option maxRecDepth 65536 in
theorem w_t1 : (words1.take 24).all (fun c => isCode c || c.before args0 about1) = true := by decide +kernel
set_option maxRecDepth 65536 in
theorem w_t2 : ((words1.drop 24).take 24).all (fun c => isCode c || c.before args0 about1) = true := by decide +kernel
set_option maxRecDepth 65536 in
theorem w_t3 : ((words1.drop 24).drop 24).all (fun c => isCode c || c.before args0 about1) = true := by decide +kernel
theorem w_tables : (allAtoms (Jvm.Cond.code x code maxLocals ret :: tables_1)).before args0 about1 = true := by
  rw [allAtoms_all]
  show words1.all (fun c => c.before args0 about1) = true
  refine all_split ?_ w_codes
  rw [← List.take_append_drop 24 words1, List.all_append, w_t1, ← List.take_append_drop 24 (words1.drop 24), List.all_append, w_t2, w_t3]
  rfl
set_option maxRecDepth 65536 in
theorem w_case : (Jvm.Cond.and given_1 narrow_1).before args0 about1 = true := by decide +kernel
theorem w_applies : (headSpec (Jvm.Cond.code x code maxLocals ret :: tables_1) room_1).applies x e0.platform about1 = true :=
  (Spec.applies_iff w_frames).mpr ⟨w_running, w_runnable, w_alone, w_named, w_hears, w_ripe, w_room, w_tables⟩
theorem atStart : AtStart classFile x code maxLocals ret World_1 tables_1 room_1 Calls_1 rest_1 Pre_1 launch0 p0 e0 about1 theMethod args0 below0 :=
  ⟨lists_1, trivial, launch0.admits_env _ _ _, launch0.least_env, fairChoices_fair.cas, fairChoices_fair.clock, w_frames, w_args, w_heap, w_applies, trivial, trivial, w_case⟩
end start1
theorem witness_1 : WitnessClaimed_1 := ⟨start1.p0, start1.e0, start1.about1, start1.theMethod, start1.args0, start1.below0, start1.atStart⟩
end Jvm.Pilot.@@N@@
