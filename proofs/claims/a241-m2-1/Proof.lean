import JvmDerived
import JvmDerived.Pilot.@@N@@Statement
import JvmDerived.Pilot.@@N@@Code
set_option linter.unusedVariables false
set_option linter.unusedSimpArgs false
@@BLOCK:NumsL.lean.txt@@
namespace Jvm.Pilot.@@N@@
section OwnFl
open Jvm Jvm.FP Jvm.FP.Core Jvm.Free.Fl Jvm.Op
/-- a double's worth, in units of the least double -/
def own_zv (x : UInt64) : Int := zval b64 (val64 x)
/-- a worth that a finite double has -/
def own_rep (z : Int) : Prop := ∃ V, Core.fits b64 V ∧ (∃ s c q, V = .fin s c q) ∧ zval b64 V = z
theorem own_fin_ne {x : UInt64} (h : DFin x) : val64 x ≠ .nan := by
  obtain ⟨s, c, q, h⟩ := h; rw [h]; exact Datum.noConfusion
theorem own_nn {x : UInt64} (h : DFin x) : NoNaN64 x := val64_no.mpr (own_fin_ne h)
theorem own_rep_of {x : UInt64} (h : DFin x) : own_rep (own_zv x) := ⟨_, val64_fits x, h, rfl⟩
theorem own_rep_mk (s : Bool) {c k : Nat} (hc : c < 2 ^ 53) (hk : k ≤ 2045) : own_rep (signed s (c * 2 ^ k)) := by
  obtain ⟨c', q', h1, h2⟩ := round_exact (f := b64) good_b64 s (c := c) (q := (k : Int) - 1074) hc (by rw [qmin_b64]; omega)
    (by rw [show b64.qmax = 971 from by decide]; omega)
  refine ⟨_, round_fits good_b64 (.fin s c ((k : Int) - 1074)), ⟨_, _, _, h1⟩, ?_⟩
  rw [h1]
  show signed s (inUnits c' q' b64.qmin) = _
  rw [h2]
  unfold inUnits
  rw [qmin_b64, show ((k : Int) - 1074 - -1074).toNat = k by omega]
theorem own_rep_nat {c k : Nat} (hc : c < 2 ^ 53) (hk : k ≤ 2045) : own_rep ((c : Int) * ((2 ^ k : Nat) : Int)) := by
  have := own_rep_mk false hc hk
  simp only [signed, Bool.false_eq_true, if_false] at this
  rw [Int.natCast_mul] at this; exact this
theorem own_rep_neg {z : Int} (h : own_rep z) : own_rep (-z) := by
  obtain ⟨V, h1, ⟨s, c, q, rfl⟩, h3⟩ := h
  exact ⟨negate (.fin s c q), negate_fits h1, ⟨_, _, _, rfl⟩, by rw [zval_negate, h3]⟩
theorem own_rep_int {i : Int} {k : Nat} (hi : i.natAbs < 2 ^ 53) (hk : k ≤ 2045) : own_rep (i * ((2 ^ k : Nat) : Int)) := by
  have := own_rep_nat hi hk
  rcases Int.natAbs_eq i with h | h
  · rw [h]; exact this
  · rw [h, Int.neg_mul]; exact own_rep_neg this
theorem own_top {z : Int} (h : own_rep z) : z < ((b64.tails * 2 ^ (b64.exps - 2) : Nat) : Int) ∧ -((b64.tails * 2 ^ (b64.exps - 2) : Nat) : Int) < z := by
  obtain ⟨V, h1, ⟨s, c, q, rfl⟩, rfl⟩ := h
  have h2 := zmag_lt_top good_b64 h1
  show signed s (inUnits c q b64.qmin) < _ ∧ _ < signed s (inUnits c q b64.qmin)
  generalize b64.tails * 2 ^ (b64.exps - 2) = K at *
  generalize inUnits c q b64.qmin = k at *
  cases s <;> simp only [signed, if_true, Bool.false_eq_true, if_false] <;> constructor <;> omega
/-- no NaN and between two finite worths: finite -/
theorem own_fin_of {x : UInt64} (hn : val64 x ≠ .nan) {lo hi : Int} (hl : own_rep lo) (hh : own_rep hi) (h1 : lo ≤ own_zv x) (h2 : own_zv x ≤ hi) : DFin x := by
  have a := (own_top hl).2
  have b := (own_top hh).1
  unfold own_zv at h1 h2
  cases hv : val64 x with
  | nan => exact absurd hv hn
  | fin s c q => exact ⟨s, c, q, hv⟩
  | inf s =>
    exfalso
    rw [hv] at h1 h2
    simp only [zval, sgn, zmag] at h1 h2
    generalize b64.tails * 2 ^ (b64.exps - 2) = K at *
    cases s <;> simp only [signed, if_true, Bool.false_eq_true, if_false] at h1 h2 <;> omega
theorem own_cmp {x y : UInt64} (hx : DFin x) (hy : DFin y) : FP.dcmp x y = some (compare (own_zv x) (own_zv y)) :=
  order_zval good_b64 (val64_fits x) (val64_fits y) (own_fin_ne hx) (own_fin_ne hy)
theorem own_cmp_lt {x y : UInt64} (hx : DFin x) (hy : DFin y) (h : own_zv x < own_zv y) : FP.dcmp x y = some .lt := by
  rw [own_cmp hx hy, compare_ite, if_pos h]
theorem own_cmp_eq {x y : UInt64} (hx : DFin x) (hy : DFin y) (h : own_zv x = own_zv y) : FP.dcmp x y = some .eq := by
  rw [own_cmp hx hy, compare_ite, if_neg (by omega), if_pos h]
theorem own_cmp_gt {x y : UInt64} (hx : DFin x) (hy : DFin y) (h : own_zv y < own_zv x) : FP.dcmp x y = some .gt := by
  rw [own_cmp hx hy, compare_ite, if_neg (by omega), if_neg (by omega)]
theorem own_v_lt {x y : UInt64} (h : FP.dcmp x y = some .lt) (o : ClassFile.CmpOp) : cmpValue (FP.dcmp x y) o = -1 := by rw [h]; rfl
theorem own_v_eq {x y : UInt64} (h : FP.dcmp x y = some .eq) (o : ClassFile.CmpOp) : cmpValue (FP.dcmp x y) o = 0 := by rw [h]; rfl
theorem own_v_gt {x y : UInt64} (h : FP.dcmp x y = some .gt) (o : ClassFile.CmpOp) : cmpValue (FP.dcmp x y) o = 1 := by rw [h]; rfl
/-! sums -/
theorem own_round_ne (d : Datum) (h : d ≠ .nan) : round b64 d ≠ .nan := by
  cases d with
  | nan => exact absurd rfl h
  | inf s => exact Datum.noConfusion
  | fin s c q => exact roundRatio_ne_nan _ _ _ _ _
theorem own_add {x y : UInt64} (hx : DFin x) (hy : DFin y) {lo hi : Int} (hl : own_rep lo) (hh : own_rep hi) (h1 : lo ≤ own_zv x + own_zv y) (h2 : own_zv x + own_zv y ≤ hi) :
    DFin (FP.dadd x y) ∧ lo ≤ own_zv (FP.dadd x y) ∧ own_zv (FP.dadd x y) ≤ hi := by
  have e : val64 (FP.dadd x y) = round b64 (exactSum (val64 x) (val64 y)) := val64_dadd x y
  have hn : val64 (FP.dadd x y) ≠ .nan := by
    rw [e]; apply own_round_ne
    obtain ⟨s, c, q, hx⟩ := hx; obtain ⟨t, d, r, hy⟩ := hy
    rw [hx, hy]; exact Datum.noConfusion
  obtain ⟨Vl, a1, ⟨_, _, _, a2⟩, rfl⟩ := id hl
  obtain ⟨Vh, b1, ⟨_, _, _, b2⟩, rfl⟩ := id hh
  have g1 : zval b64 Vl ≤ own_zv (FP.dadd x y) := by
    unfold own_zv; rw [e]; exact sum_ge good_b64 hx hy (val64_fits x) (val64_fits y) a1 (by rw [a2]; exact Datum.noConfusion) h1
  have g2 : own_zv (FP.dadd x y) ≤ zval b64 Vh := by
    unfold own_zv; rw [e]; exact sum_le good_b64 hx hy (val64_fits x) (val64_fits y) b1 (by rw [b2]; exact Datum.noConfusion) h2
  exact ⟨own_fin_of hn hl hh g1 g2, g1, g2⟩
theorem own_add_eq {x y : UInt64} (hx : DFin x) (hy : DFin y) (hr : own_rep (own_zv x + own_zv y)) : DFin (FP.dadd x y) ∧ own_zv (FP.dadd x y) = own_zv x + own_zv y := by
  obtain ⟨a, b, c⟩ := own_add hx hy hr hr (Int.le_refl _) (Int.le_refl _)
  exact ⟨a, Int.le_antisymm c b⟩
theorem own_neg_fin {x : UInt64} (h : DFin x) : DFin (FP.dneg x) ∧ own_zv (FP.dneg x) = -own_zv x := by
  have e : val64 (FP.dneg x) = negate (val64 x) := FP.val64_dneg x
  unfold own_zv DFin
  rw [e, zval_negate]
  obtain ⟨s, c, q, h⟩ := h
  exact ⟨⟨_, _, _, by rw [h]; rfl⟩, rfl⟩
theorem own_sub {x y : UInt64} (hx : DFin x) (hy : DFin y) {lo hi : Int} (hl : own_rep lo) (hh : own_rep hi) (h1 : lo ≤ own_zv x - own_zv y) (h2 : own_zv x - own_zv y ≤ hi) :
    DFin (FP.dsub x y) ∧ lo ≤ own_zv (FP.dsub x y) ∧ own_zv (FP.dsub x y) ≤ hi := by
  obtain ⟨n1, n2⟩ := own_neg_fin hy
  have e : FP.dsub x y = FP.dadd x (FP.dneg y) := by
    rw [show FP.dneg y = Core.dneg y from dneg_core (noNaN64_no.mp (own_nn hy))]; exact dsub_eq x y
  rw [e]
  exact own_add hx n1 hl hh (by rw [n2]; omega) (by rw [n2]; omega)
/-! products -/
theorem own_pow_U : (b64.qmin - 2 * b64.qmin).toNat = 1074 := by decide
theorem own_mul {x y : UInt64} (hx : DFin x) (hy : DFin y) {lo hi : Int} (hl : own_rep lo) (hh : own_rep hi) (h1 : lo * ((2 ^ 1074 : Nat) : Int) ≤ own_zv x * own_zv y) (h2 : own_zv x * own_zv y ≤ hi * ((2 ^ 1074 : Nat) : Int)) :
    DFin (FP.dmul x y) ∧ lo ≤ own_zv (FP.dmul x y) ∧ own_zv (FP.dmul x y) ≤ hi := by
  have e : val64 (FP.dmul x y) = round b64 (exactProduct (val64 x) (val64 y)) := val64_dmul x y
  have fx := val64_fits x
  have fy := val64_fits y
  unfold own_zv at h1 h2
  obtain ⟨s, c, q, ex⟩ := hx
  obtain ⟨t, d, r, ey⟩ := hy
  rw [ex] at fx e h1 h2
  rw [ey] at fy e h1 h2
  obtain ⟨p1, p2, p3⟩ := product_units fx fy
  rw [p1] at e
  have hn : val64 (FP.dmul x y) ≠ .nan := by rw [e]; exact roundRatio_ne_nan _ _ _ _ _
  have hv : signed (s != t) (inUnits (c * d) (q + r) (2 * b64.qmin)) = zval b64 (.fin s c q) * zval b64 (.fin t d r) := by
    rw [p3, signed_xor]; rfl
  obtain ⟨Vl, a1, ⟨_, _, _, a2⟩, rfl⟩ := id hl
  obtain ⟨Vh, b1, ⟨_, _, _, b2⟩, rfl⟩ := id hh
  have hq := qmin_neg good_b64
  have g1 : zval b64 Vl ≤ own_zv (FP.dmul x y) := by
    unfold own_zv; rw [e]
    exact zval_round_ge good_b64 a1 (by rw [a2]; exact Datum.noConfusion) (by omega) p2 (by rw [hv, own_pow_U]; exact h1)
  have g2 : own_zv (FP.dmul x y) ≤ zval b64 Vh := by
    unfold own_zv; rw [e]
    exact zval_round_le good_b64 b1 (by rw [b2]; exact Datum.noConfusion) (by omega) p2 (by rw [hv, own_pow_U]; exact h2)
  exact ⟨own_fin_of hn hl hh g1 g2, g1, g2⟩
theorem own_mul_eq {x y : UInt64} (hx : DFin x) (hy : DFin y) {z : Int} (hr : own_rep z) (h : own_zv x * own_zv y = z * ((2 ^ 1074 : Nat) : Int)) : DFin (FP.dmul x y) ∧ own_zv (FP.dmul x y) = z := by
  obtain ⟨a, b, c⟩ := own_mul hx hy hr hr (Int.le_of_eq h.symm) (Int.le_of_eq h)
  exact ⟨a, Int.le_antisymm c b⟩
/-! quotients of a number from nought on by one above nought -/
theorem own_div {x y : UInt64} (hx : DFin x) (hy : DFin y) (px : 0 ≤ own_zv x) (sx : sgn (val64 x) = false) (py : 0 < own_zv y) {lo hi : Int} (hl : own_rep lo) (hh : own_rep hi) (l0 : 0 ≤ lo) (h1 : lo * own_zv y ≤ own_zv x * ((2 ^ 1074 : Nat) : Int)) (h2 : own_zv x * ((2 ^ 1074 : Nat) : Int) ≤ hi * own_zv y) :
    DFin (FP.ddiv x y) ∧ lo ≤ own_zv (FP.ddiv x y) ∧ own_zv (FP.ddiv x y) ≤ hi ∧ sgn (val64 (FP.ddiv x y)) = false := by
  have e : val64 (FP.ddiv x y) = quotient b64 (val64 x) (val64 y) := val64_ddiv x y
  have fx := val64_fits x
  have fy := val64_fits y
  unfold own_zv at h1 h2 px py
  obtain ⟨s, c, q, ex⟩ := hx
  obtain ⟨t, d, r, ey⟩ := hy
  rw [ex] at fx e h1 h2 px sx
  rw [ey] at fy e h1 h2 py
  obtain rfl : s = false := sx
  have hpos : t = false ∧ 0 < d := by
    simp only [zval, sgn, zmag] at py
    cases t
    · refine ⟨rfl, ?_⟩
      rcases Nat.eq_zero_or_pos d with h | h
      · subst h; simp [signed, inUnits] at py
      · exact h
    · simp only [signed, if_true] at py; omega
  obtain ⟨rfl, hd⟩ := hpos
  have e2 : val64 (FP.ddiv x y) = roundRatio b64 false c d (q - r) := by
    rw [e]; simp only [quotient]; rw [if_neg (by omega)]; rfl
  have hn : val64 (FP.ddiv x y) ≠ .nan := by rw [e2]; exact roundRatio_ne_nan _ _ _ _ _
  have hs : sgn (val64 (FP.ddiv x y)) = false := by rw [e2]; exact sgn_roundRatio _ _ _ _ _
  have hzz : own_zv (FP.ddiv x y) = (zmag b64 (roundRatio b64 false c d (q - r)) : Int) := by
    unfold own_zv zval; rw [hs, e2]; rfl
  have q1 := fx.2.1; have q2 := fx.2.2.1; have r1 := fy.2.1; have r2 := fy.2.2.1
  rw [qmin_b64] at q1 r1
  rw [show b64.qmax = 971 from by decide] at q2 r2
  have k1 : zval b64 (.fin false c q) = ((c * 2 ^ (q + 1074).toNat : Nat) : Int) := by
    show ((inUnits c q b64.qmin : Nat) : Int) = _
    unfold inUnits; rw [qmin_b64, show (q - -1074).toNat = (q + 1074).toNat by omega]
  have k2 : zval b64 (.fin false d r) = ((d * 2 ^ (r + 1074).toNat : Nat) : Int) := by
    show ((inUnits d r b64.qmin : Nat) : Int) = _
    unfold inUnits; rw [qmin_b64, show (r - -1074).toNat = (r + 1074).toNat by omega]
  rw [k1, k2] at h1 h2
  have key : ∀ M : Nat, (inUnits c (q - r) (-4096) * 2 ^ (r + 1074).toNat = c * 2 ^ (q + 1074).toNat * 2 ^ 1074 * 2 ^ 1948 * 2 ^ 1074) ∧ (M * 2 ^ (b64.qmin - -4096).toNat * d * 2 ^ (r + 1074).toNat = M * (d * 2 ^ (r + 1074).toNat) * 2 ^ 1074 * 2 ^ 1948) := by
    intro M
    unfold inUnits
    refine ⟨?_, ?_⟩
    · rw [Nat.mul_assoc, ← Nat.pow_add, Nat.mul_assoc, Nat.mul_assoc, Nat.mul_assoc, ← Nat.pow_add, ← Nat.pow_add, ← Nat.pow_add]
      congr 2; omega
    · rw [show (b64.qmin - -4096).toNat = 1074 + 1948 from by decide, Nat.pow_add]
      generalize 2 ^ 1074 = a; generalize 2 ^ 1948 = b; generalize 2 ^ (r + 1074).toNat = w
      ac_rfl
  obtain ⟨Vl, a1, ⟨_, _, _, a2⟩, al⟩ := id hl
  obtain ⟨Vh, b1, ⟨_, _, _, b2⟩, bl⟩ := id hh
  have m1 : (zmag b64 Vl : Int) = lo ∨ (zmag b64 Vl : Int) = -lo := by
    rw [← al]; unfold zval; cases sgn Vl <;> simp [signed]
  have hi0 : 0 ≤ hi := by
    refine Int.not_lt.mp fun hneg => ?_
    have hw : (0 : Int) < ((d * 2 ^ (r + 1074).toNat : Nat) : Int) := by have := Nat.mul_pos hd (Nat.two_pow_pos (r + 1074).toNat); omega
    have := Int.mul_neg_of_neg_of_pos hneg hw
    have h0 : (0 : Int) ≤ ((c * 2 ^ (q + 1074).toNat : Nat) : Int) * ((2 ^ 1074 : Nat) : Int) := Int.mul_nonneg (Int.natCast_nonneg _) (Int.natCast_nonneg _)
    omega
  have m2 : (zmag b64 Vh : Int) = hi := by
    have : (zmag b64 Vh : Int) = hi ∨ (zmag b64 Vh : Int) = -hi := by
      rw [← bl]; unfold zval; cases sgn Vh <;> simp [signed]
    omega
  have m1' : (zmag b64 Vl : Int) = lo := by omega
  have g1 : zmag b64 Vl ≤ zmag b64 (roundRatio b64 false c d (q - r)) := by
    refine zmag_roundRatio_ge good_b64 hd a1 (e0 := -4096) (by rw [qmin_b64]; omega) (by omega) ?_
    refine Nat.le_of_mul_le_mul_right ?_ (Nat.two_pow_pos (r + 1074).toNat)
    rw [(key 0).1, (key (zmag b64 Vl)).2]
    rw [← m1'] at h1
    have h1' : zmag b64 Vl * (d * 2 ^ (r + 1074).toNat) ≤ c * 2 ^ (q + 1074).toNat * 2 ^ 1074 := by
      rw [← Int.natCast_mul, ← Int.natCast_mul] at h1; exact Int.ofNat_le.mp h1
    calc zmag b64 Vl * (d * 2 ^ (r + 1074).toNat) * 2 ^ 1074 * 2 ^ 1948 ≤ c * 2 ^ (q + 1074).toNat * 2 ^ 1074 * 2 ^ 1074 * 2 ^ 1948 :=
          Nat.mul_le_mul_right _ (Nat.mul_le_mul_right _ h1')
      _ = _ := by generalize 2 ^ 1074 = a; generalize 2 ^ 1948 = b; generalize c * 2 ^ (q + 1074).toNat = w; ac_rfl
  have g2 : zmag b64 (roundRatio b64 false c d (q - r)) ≤ zmag b64 Vh := by
    refine zmag_roundRatio_le good_b64 hd b1 (by rw [b2]; exact Datum.noConfusion) (e0 := -4096) (by rw [qmin_b64]; omega) (by omega) ?_
    refine Nat.le_of_mul_le_mul_right ?_ (Nat.two_pow_pos (r + 1074).toNat)
    rw [(key 0).1, (key (zmag b64 Vh)).2]
    rw [← m2] at h2
    have h2' : c * 2 ^ (q + 1074).toNat * 2 ^ 1074 ≤ zmag b64 Vh * (d * 2 ^ (r + 1074).toNat) := by
      rw [← Int.natCast_mul, ← Int.natCast_mul] at h2; exact Int.ofNat_le.mp h2
    calc c * 2 ^ (q + 1074).toNat * 2 ^ 1074 * 2 ^ 1948 * 2 ^ 1074 = c * 2 ^ (q + 1074).toNat * 2 ^ 1074 * 2 ^ 1074 * 2 ^ 1948 := by
          generalize 2 ^ 1074 = a; generalize 2 ^ 1948 = b; generalize c * 2 ^ (q + 1074).toNat = w; ac_rfl
      _ ≤ _ := Nat.mul_le_mul_right _ (Nat.mul_le_mul_right _ h2')
  have z1 : lo ≤ own_zv (FP.ddiv x y) := by rw [hzz, ← m1']; exact Int.ofNat_le.mpr g1
  have z2 : own_zv (FP.ddiv x y) ≤ hi := by rw [hzz, ← m2]; exact Int.ofNat_le.mpr g2
  exact ⟨own_fin_of hn hl hh z1 z2, z1, z2, hs⟩
/-! whole numbers -/
theorem own_whole {i : Int} {x : UInt64} (h : DInt i x) : DFin x ∧ own_zv x = i * ((2 ^ 1074 : Nat) : Int) := by
  have fx := val64_fits x
  unfold DInt at h
  unfold own_zv DFin
  cases hv : val64 x with
  | nan => rw [hv] at h; exact absurd h (by simp [Whole])
  | inf s => rw [hv] at h; exact absurd h (by simp [Whole])
  | fin s c q =>
    refine ⟨⟨s, c, q, rfl⟩, ?_⟩
    rw [hv] at h fx
    have q1 := fx.2.1
    rw [qmin_b64] at q1
    simp only [Whole] at h
    show signed s (inUnits c q b64.qmin) = _
    unfold inUnits
    rw [qmin_b64]
    rcases Int.le_total 0 q with hq | hq
    · rw [show (-q).toNat = 0 by omega] at h
      rw [show (q - -1074).toNat = q.toNat + 1074 by omega, Nat.pow_add, ← Nat.mul_assoc, signed_mul, h]
      simp
    · rw [show q.toNat = 0 by omega] at h
      rw [show (2 : Nat) ^ 1074 = 2 ^ (-q).toNat * 2 ^ (q - -1074).toNat by rw [← Nat.pow_add]; congr 1; omega, Int.natCast_mul, ← Int.mul_assoc, ← h, signed_mul, Nat.pow_zero, Nat.mul_one]
theorem own_i2d (n : Int32) : DFin (FP.i2d n) ∧ own_zv (FP.i2d n) = n.toInt * ((2 ^ 1074 : Nat) : Int) := own_whole (i2d_int n)
theorem own_l2d {n : Int64} (h : n.toInt.natAbs ≤ 2 ^ 53) : DFin (FP.l2d n) ∧ own_zv (FP.l2d n) = n.toInt * ((2 ^ 1074 : Nat) : Int) := own_whole (l2d_int h)
theorem own_sgn_i2d {n : Int32} (h : 0 ≤ n.toInt) : sgn (val64 (FP.i2d n)) = false := by
  rw [show val64 (FP.i2d n) = round b64 (ofInt n.toInt) from val64_i2d n]
  show sgn (roundRatio b64 (decide (n.toInt < 0)) _ 1 0) = false
  rw [sgn_roundRatio]; exact decide_eq_false (by omega)
theorem own_sgn_l2d {n : Int64} (h : 0 ≤ n.toInt) : sgn (val64 (FP.l2d n)) = false := by
  rw [show val64 (FP.l2d n) = round b64 (ofInt n.toInt) from val64_l2d n]
  show sgn (roundRatio b64 (decide (n.toInt < 0)) _ 1 0) = false
  rw [sgn_roundRatio]; exact decide_eq_false (by omega)
theorem own_sgn_of {x : UInt64} (h : DFin x) (hp : 0 < own_zv x) : sgn (val64 x) = false := by
  obtain ⟨s, c, q, e⟩ := h
  unfold own_zv at hp
  rw [e] at hp ⊢
  cases s
  · rfl
  · simp only [zval, sgn, zmag, signed, if_true] at hp; omega
theorem own_one : DFin FP.dconst1 ∧ own_zv FP.dconst1 = 1 * ((2 ^ 1074 : Nat) : Int) :=
  own_whole (show Whole 1 (val64 FP.dconst1) by
    rw [show val64 FP.dconst1 = _ from val64_dconst1]
    show signed false (2 ^ 52 * 2 ^ (-52 : Int).toNat) = 1 * ((2 ^ (-(-52 : Int)).toNat : Nat) : Int)
    decide +kernel)
theorem own_zero : DFin FP.dconst0 ∧ own_zv FP.dconst0 = 0 := by
  have := own_whole (show Whole 0 (val64 FP.dconst0) by
    rw [show val64 FP.dconst0 = _ from val64_dconst0]
    show signed false (0 * 2 ^ b64.qmin.toNat) = 0 * _
    rw [Nat.zero_mul, Int.zero_mul]; rfl)
  rw [Int.zero_mul] at this; exact this
/-- a written constant: its datum by computation -/
theorem own_const {x : UInt64} {s : Bool} {c : Nat} {k : Nat} {q : Int} (h : val64 x = .fin s c q) (hq : q = (k : Int) - 1074) : DFin x ∧ own_zv x = signed s (c * 2 ^ k) := by
  refine ⟨⟨_, _, _, h⟩, ?_⟩
  unfold own_zv; rw [h]
  show signed s (inUnits c q b64.qmin) = _
  unfold inUnits; rw [qmin_b64, show (q - -1074).toNat = k by omega]
end OwnFl
end Jvm.Pilot.@@N@@
namespace Jvm.Pilot.@@N@@
section OwnA
open Jvm Jvm.FP Jvm.FP.Core Jvm.Free.Fl Jvm.Op
def own_p (p1 p2 : Int32) : UInt64 := FP.ddiv (FP.i2d ((p1 &&& (1073741823 : Int32)) + (1 : Int32))) (FP.i2d ((p2 &&& (1073741823 : Int32)) + (1 : Int32)))
def own_i (r : UInt64) : UInt64 := FP.ddiv (4741671816366391296 : UInt64) r
theorem own_mask (p : Int32) : 1 ≤ ((p &&& (1073741823 : Int32)) + (1 : Int32)).toInt ∧ ((p &&& (1073741823 : Int32)) + (1 : Int32)).toInt ≤ 2 ^ 30 := by
  have h : (p &&& (1073741823 : Int32)).toInt = p.toInt % 2 ^ 30 := Jvm.Kit.i32_mask p 1073741823 (k := 30) (by decide) (by decide)
  have h1 : (1 : Int32).toInt = 1 := by decide
  have h2 : ((p &&& (1073741823 : Int32)) + (1 : Int32)).toInt = (p &&& (1073741823 : Int32)).toInt + (1 : Int32).toInt := Jvm.Kit.i32_add (by omega) (by omega)
  omega
theorem own_1e9 : DFin (4741671816366391296 : UInt64) ∧ own_zv (4741671816366391296 : UInt64) = ((1000000000 * 2 ^ 1074 : Nat) : Int) := by
  have := own_const (x := 4741671816366391296) (s := false) (c := 1000000000 * 2 ^ 23) (k := 1051) (q := -23) (by decide +kernel) (by decide)
  refine ⟨this.1, this.2.trans ?_⟩
  simp only [signed, Bool.false_eq_true, if_false]
  rw [Nat.mul_assoc, ← Nat.pow_add]
theorem own_facts (p1 p2 : Int32) : DFin (own_p p1 p2) ∧ ((1 : Nat) : Int) * ((2 ^ 1044 : Nat) : Int) ≤ own_zv (own_p p1 p2) ∧ own_zv (own_p p1 p2) ≤ ((1 : Nat) : Int) * ((2 ^ 1104 : Nat) : Int) := by
  obtain ⟨a1, a2⟩ := own_mask p1
  obtain ⟨b1, b2⟩ := own_mask p2
  obtain ⟨A1, A2⟩ := own_i2d ((p1 &&& (1073741823 : Int32)) + (1 : Int32))
  obtain ⟨B1, B2⟩ := own_i2d ((p2 &&& (1073741823 : Int32)) + (1 : Int32))
  have sA := own_sgn_i2d (n := (p1 &&& (1073741823 : Int32)) + (1 : Int32)) (by omega)
  have hU : (0 : Int) < ((2 ^ 1074 : Nat) : Int) := Int.natCast_pos.mpr (Nat.two_pow_pos _)
  have hW : (0 : Int) < ((2 ^ 1044 : Nat) : Int) := Int.natCast_pos.mpr (Nat.two_pow_pos _)
  have eU : ((2 ^ 1074 : Nat) : Int) = ((2 ^ 1044 : Nat) : Int) * 2 ^ 30 := by
    rw [show (2 : Nat) ^ 1074 = 2 ^ 1044 * 2 ^ 30 from by rw [← Nat.pow_add], Int.natCast_mul]; rfl
  have eV : ((2 ^ 1104 : Nat) : Int) = ((2 ^ 1074 : Nat) : Int) * 2 ^ 30 := by
    rw [show (2 : Nat) ^ 1104 = 2 ^ 1074 * 2 ^ 30 from by rw [← Nat.pow_add], Int.natCast_mul]; rfl
  have r := own_div A1 B1 (lo := ((1 : Nat) : Int) * ((2 ^ 1044 : Nat) : Int)) (hi := ((1 : Nat) : Int) * ((2 ^ 1104 : Nat) : Int)) (by rw [A2]; exact Int.mul_nonneg (by omega) (Int.le_of_lt hU)) sA (by rw [B2]; exact Int.mul_pos (by omega) hU) (own_rep_nat (by decide) (by decide)) (own_rep_nat (by decide) (by decide)) (by omega) ?_ ?_
  · exact ⟨r.1, r.2.1, r.2.2.1⟩
  · rw [A2, B2]
    generalize ((p1 &&& (1073741823 : Int32)) + (1 : Int32)).toInt = u at *
    generalize ((p2 &&& (1073741823 : Int32)) + (1 : Int32)).toInt = w at *
    generalize ((2 ^ 1104 : Nat) : Int) = V at *
    generalize ((2 ^ 1074 : Nat) : Int) = U at *
    generalize ((2 ^ 1044 : Nat) : Int) = W at *
    have h1 : W * w ≤ u * U := by
      calc W * w ≤ W * 2 ^ 30 := Int.mul_le_mul_of_nonneg_left b2 (Int.le_of_lt hW)
        _ = 1 * U := by rw [eU]; omega
        _ ≤ u * U := Int.mul_le_mul_of_nonneg_right a1 (Int.le_of_lt hU)
    calc ((1 : Nat) : Int) * W * (w * U) = W * w * U := by rw [Int.natCast_one, Int.one_mul, Int.mul_assoc]
      _ ≤ u * U * U := Int.mul_le_mul_of_nonneg_right h1 (Int.le_of_lt hU)
  · rw [A2, B2]
    generalize ((p1 &&& (1073741823 : Int32)) + (1 : Int32)).toInt = u at *
    generalize ((p2 &&& (1073741823 : Int32)) + (1 : Int32)).toInt = w at *
    generalize ((2 ^ 1104 : Nat) : Int) = V at *
    generalize ((2 ^ 1074 : Nat) : Int) = U at *
    have h1 : u * U ≤ V * w := by
      calc u * U ≤ 2 ^ 30 * U := Int.mul_le_mul_of_nonneg_right a2 (Int.le_of_lt hU)
        _ = V * 1 := by rw [eV]; omega
        _ ≤ V * w := Int.mul_le_mul_of_nonneg_left b1 (by omega)
    calc u * U * U ≤ V * w * U := Int.mul_le_mul_of_nonneg_right h1 (Int.le_of_lt hU)
      _ = ((1 : Nat) : Int) * V * (w * U) := by rw [Int.natCast_one, Int.one_mul, Int.mul_assoc]
theorem own_facts2 {r : UInt64} (h1 : DFin r) (h2 : ((1 : Nat) : Int) * ((2 ^ 1044 : Nat) : Int) ≤ own_zv r) (h3 : own_zv r ≤ ((1 : Nat) : Int) * ((2 ^ 1104 : Nat) : Int)) : DFin (own_i r) ∧ 0 < own_zv (own_i r) := by
  obtain ⟨A1, A2⟩ := own_1e9
  have hU : (0 : Int) < ((2 ^ 1000 : Nat) : Int) := Int.natCast_pos.mpr (Nat.two_pow_pos _)
  have hW : (0 : Int) < ((2 ^ 1044 : Nat) : Int) := Int.natCast_pos.mpr (Nat.two_pow_pos _)
  have hV : (0 : Int) < ((2 ^ 1200 : Nat) : Int) := Int.natCast_pos.mpr (Nat.two_pow_pos _)
  have hA : (0 : Int) < ((1000000000 * 2 ^ 1074 : Nat) : Int) := Int.natCast_pos.mpr (Nat.mul_pos (by decide) (Nat.two_pow_pos _))
  have hr : 0 < own_zv r := by omega
  have q := own_div A1 h1 (lo := ((1 : Nat) : Int) * ((2 ^ 1000 : Nat) : Int)) (hi := ((1 : Nat) : Int) * ((2 ^ 1200 : Nat) : Int)) (by rw [A2]; exact Int.le_of_lt hA) (own_sgn_of A1 (by rw [A2]; exact hA)) hr (own_rep_nat (by decide) (by decide)) (own_rep_nat (by decide) (by decide)) (by omega) ?_ ?_
  · exact ⟨q.1, by have := q.2.1; unfold own_i; omega⟩
  · rw [A2, Int.natCast_one, Int.one_mul]
    rw [Int.natCast_one, Int.one_mul] at h3
    calc ((2 ^ 1000 : Nat) : Int) * own_zv r ≤ ((2 ^ 1000 : Nat) : Int) * ((2 ^ 1104 : Nat) : Int) := Int.mul_le_mul_of_nonneg_left h3 (Int.le_of_lt hU)
      _ = ((2 ^ 1000 * 2 ^ 1104 : Nat) : Int) := by rw [Int.natCast_mul]
      _ ≤ ((1000000000 * 2 ^ 1074 * 2 ^ 1074 : Nat) : Int) := Int.ofNat_le.mpr (by decide +kernel)
      _ = _ := by rw [Int.natCast_mul]
  · rw [A2, Int.natCast_one, Int.one_mul]
    rw [Int.natCast_one, Int.one_mul] at h2
    calc ((1000000000 * 2 ^ 1074 : Nat) : Int) * ((2 ^ 1074 : Nat) : Int) = ((1000000000 * 2 ^ 1074 * 2 ^ 1074 : Nat) : Int) := by rw [Int.natCast_mul (1000000000 * 2 ^ 1074)]
      _ ≤ ((2 ^ 1200 * 2 ^ 1044 : Nat) : Int) := Int.ofNat_le.mpr (by decide +kernel)
      _ = ((2 ^ 1200 : Nat) : Int) * ((2 ^ 1044 : Nat) : Int) := by rw [Int.natCast_mul]
      _ ≤ _ := Int.mul_le_mul_of_nonneg_left h2 (Int.le_of_lt hV)
theorem own_pos {r : UInt64} (h1 : DFin r) (h2 : 0 < own_zv r) : cmpValue (FP.dcmp r FP.dconst0) .l = 1 := own_v_gt (own_cmp_gt h1 own_zero.1 (by rw [own_zero.2]; exact h2)) _
theorem own_pos' {r : UInt64} (h1 : DFin r) (h2 : 0 < own_zv r) : cmpValue (FP.dcmp FP.dconst0 r) .g = -1 := own_v_lt (own_cmp_lt own_zero.1 h1 (by rw [own_zero.2]; exact h2)) _
theorem own_absle {r : UInt64} (h1 : DFin r) : ¬ ((0 : Int32) < cmpValue (FP.dcmp (r &&& 0x7fffffffffffffff) (9218868437227405311 : UInt64)) .l) := by
  rcases (le_max (noNaN64_no.mp (own_nn h1))).mpr h1 with h | h
  · rw [own_v_lt h]; decide
  · rw [own_v_eq h]; decide
end OwnA
end Jvm.Pilot.@@N@@
namespace Jvm.Pilot.@@N@@
open Jvm Jvm.ClassFile Sem Op Lib Jvm.Free Jvm.Stand Jvm.LawKit Jvm.RoadKit Bundle Jvm.Pilot.@@N@@.Jvm.D
open Jvm.FP Jvm.Free.Fl
theorem d_jdk_117_method_7_code_0 : decode jdk_117_method_7_code 0 = .ok (.dload_n 0, 1) := by decide +kernel
theorem d_jdk_117_method_7_code_1 : decode jdk_117_method_7_code 1 = .ok (.invokestatic 38, 3) := by decide +kernel
theorem d_jdk_117_method_7_code_4 : decode jdk_117_method_7_code 4 = .ok (.ldc2_w 111, 3) := by decide +kernel
theorem d_jdk_117_method_7_code_7 : decode jdk_117_method_7_code 7 = .ok (.dcmp .l, 1) := by decide +kernel
theorem d_jdk_117_method_7_code_8 : decode jdk_117_method_7_code 8 = .ok (.ifCond .le 7, 3) := by decide +kernel
theorem d_jdk_117_method_7_code_15 : decode jdk_117_method_7_code 15 = .ok (.iconst 0, 1) := by decide +kernel
theorem d_jdk_117_method_7_code_16 : decode jdk_117_method_7_code 16 = .ok (.ireturn, 1) := by decide +kernel
theorem d_prog_10_method_1_code_0 : decode prog_10_method_1_code 0 = .ok (.aload_n 0, 1) := by decide +kernel
theorem d_prog_10_method_1_code_1 : decode prog_10_method_1_code 1 = .ok (.invokespecial 1, 3) := by decide +kernel
theorem d_prog_10_method_1_code_4 : decode prog_10_method_1_code 4 = .ok (.aload_n 0, 1) := by decide +kernel
theorem d_prog_10_method_1_code_5 : decode prog_10_method_1_code 5 = .ok (.dload_n 1, 1) := by decide +kernel
theorem d_prog_10_method_1_code_6 : decode prog_10_method_1_code 6 = .ok (.putfield 7, 3) := by decide +kernel
theorem d_prog_10_method_1_code_9 : decode prog_10_method_1_code 9 = .ok (.aload_n 0, 1) := by decide +kernel
theorem d_prog_10_method_1_code_10 : decode prog_10_method_1_code 10 = .ok (.ldc2_w 13, 3) := by decide +kernel
theorem d_prog_10_method_1_code_13 : decode prog_10_method_1_code 13 = .ok (.dload_n 1, 1) := by decide +kernel
theorem d_prog_10_method_1_code_14 : decode prog_10_method_1_code 14 = .ok (.ddiv, 1) := by decide +kernel
theorem d_prog_10_method_1_code_15 : decode prog_10_method_1_code 15 = .ok (.putfield 15, 3) := by decide +kernel
theorem d_prog_10_method_1_code_18 : decode prog_10_method_1_code 18 = .ok (.return_, 1) := by decide +kernel
theorem d_prog_10_method_2_code_0 : decode prog_10_method_2_code 0 = .ok (.dload_n 0, 1) := by decide +kernel
theorem d_prog_10_method_2_code_1 : decode prog_10_method_2_code 1 = .ok (.dconst 0, 1) := by decide +kernel
theorem d_prog_10_method_2_code_2 : decode prog_10_method_2_code 2 = .ok (.dcmp .l, 1) := by decide +kernel
theorem d_prog_10_method_2_code_3 : decode prog_10_method_2_code 3 = .ok (.ifCond .le 10, 3) := by decide +kernel
theorem d_prog_10_method_2_code_6 : decode prog_10_method_2_code 6 = .ok (.dload_n 0, 1) := by decide +kernel
theorem d_prog_10_method_2_code_7 : decode prog_10_method_2_code 7 = .ok (.invokestatic 18, 3) := by decide +kernel
theorem d_prog_10_method_2_code_10 : decode prog_10_method_2_code 10 = .ok (.ifCond .eq 17, 3) := by decide +kernel
theorem d_prog_10_method_2_code_27 : decode prog_10_method_2_code 27 = .ok (.new 8, 3) := by decide +kernel
theorem d_prog_10_method_2_code_30 : decode prog_10_method_2_code 30 = .ok (.dup, 1) := by decide +kernel
theorem d_prog_10_method_2_code_31 : decode prog_10_method_2_code 31 = .ok (.dload_n 0, 1) := by decide +kernel
theorem d_prog_10_method_2_code_32 : decode prog_10_method_2_code 32 = .ok (.invokespecial 33, 3) := by decide +kernel
theorem d_prog_10_method_2_code_35 : decode prog_10_method_2_code 35 = .ok (.areturn, 1) := by decide +kernel
theorem d_prog_10_method_3_code_0 : decode prog_10_method_3_code 0 = .ok (.aload_n 0, 1) := by decide +kernel
theorem d_prog_10_method_3_code_1 : decode prog_10_method_3_code 1 = .ok (.getfield 7, 3) := by decide +kernel
theorem d_prog_10_method_3_code_4 : decode prog_10_method_3_code 4 = .ok (.dreturn, 1) := by decide +kernel
theorem d_prog_10_method_4_code_0 : decode prog_10_method_4_code 0 = .ok (.aload_n 0, 1) := by decide +kernel
theorem d_prog_10_method_4_code_1 : decode prog_10_method_4_code 1 = .ok (.getfield 15, 3) := by decide +kernel
theorem d_prog_10_method_4_code_4 : decode prog_10_method_4_code 4 = .ok (.dreturn, 1) := by decide +kernel
theorem pd_0 : parseMethodDescriptor "(D)D" = some ⟨[.double], some .double⟩ := by decide +kernel
theorem pd_1 : parseMethodDescriptor "(D)Z" = some ⟨[.double], some .boolean⟩ := by decide +kernel
theorem pd_2 : parseMethodDescriptor "(D)V" = some ⟨[.double], none⟩ := by decide +kernel
theorem pd_3 : parseMethodDescriptor "(D)Lcom/example/measured_throttle/measuredthrottle/engine/Rate;" = some ⟨[.double], some (.object "com/example/measured_throttle/measuredthrottle/engine/Rate")⟩ := by decide +kernel
theorem pd_4 : parseMethodDescriptor "()D" = some ⟨[], some .double⟩ := by decide +kernel
theorem ef_5 (m : MethodId) (x0 : UInt64) : entryFrame m #[(.double x0)] 2 = mkF m 0 #[.val (.double x0), .second] [] := by first | (simp [entryFrame, mkF, argsToLocals, Value.category]; done) | rfl
theorem pn_5 : plainName "java/lang/Double" = true := by first | (simp [plainName, overriddenIn]; done) | decide +kernel
def Q5 (Z : State) (r1 : UInt64) (h0 : Heap) (n0 : Nat) (v : Option Value) (h : Heap) (L : List Loc) : Prop := v = some (.int 0) ∧ Fr n0 L ∧ h = h0
set_option maxRecDepth 65536 in
set_option maxHeartbeats 40000000 in
theorem rm5 (l : Launch) (Z : State) (a0 : Array Value) (hw : ∀ d ∈ tables_1, d.before a0 Z = true) (ws : List Jvm.Cond) (r1 : UInt64) (h0 : Heap) (n0 : Nat) (Z0 : n0 ≤ h0.size) (hf : Jvm.FP.Core.DFin r1) :
    MetFree l (⟨"java/lang/Double", "isInfinite", "(D)Z"⟩ : MethodName) (head1 (Jvm.Cond.code (⟨"java/lang/Double", "isInfinite", "(D)Z"⟩ : MethodName) jdk_117_method_7_code 2 (some .boolean) :: ws) ({ frames := 1, cells := 0, slots := 0, locals := 13 } : Room)) (fun a U => a = #[(.double r1)] ∧ Z.Warmed39 U.vm ∧ U.heap = h0) (fun _ _ _ _ _ => True) (fun _ U o U' => ∃ v L, o = .returned v ∧ Q5 Z r1 h0 n0 v U'.heap L ∧ FrameEnd U o U' L ({ frames := 1, cells := 0, slots := 0, locals := 13 } : Room).cells ({ frames := 1, cells := 0, slots := 0, locals := 13 } : Room).slots) := by
  refine MetFree.of_bodySF (plainFor_of_name pn_5) hisR ?_
  intro p e s m args below meth c s₁ Bd hml0 hP hK
  obtain ⟨rfl, hZ, hh⟩ := hP
  have hx := Bd.exec
  have hby := Bd.bytes
  have hml : c.maxLocals = 2 := hml0
  have hown : s.vm.findClass "java/lang/Double" = some m.cls := findClass_of_methodNamed Bd.named
  have hnm := (name_of_methodNamed Bd.named Bd.method).1
  have X0 : Stand p l e ({ frames := 1, cells := 0, slots := 0, locals := 13 } : Room) s m #[(.double r1)] below meth c s₁ [] 0 0 := Stand.of_body Bd
  have e0 : s₁.heap = h0 := by rw [← hh, Bd.state]; rfl
  have N0 := Fr.nil n0
  have pre0 : ∀ t, Steps p.tables e below (s₁.setTop (mkF m 0 #[.val (.double r1), .second] [])) t → Steps p.tables e below (s₁.setTop (entryFrame m #[(.double r1)] 2)) t := fun t k => castTop (ef_5 m r1) k
  obtain ⟨T1, X1, e1, st1⟩ := natS X0 hx hZ hown (hw _ (List.mem_of_getElem? (i := 9) rfl)) (hw _ (List.mem_of_getElem? (i := 10) rfl)) (hw _ (List.mem_of_getElem? (i := 11) rfl)) (hw _ (List.mem_of_getElem? (i := 12) rfl)) (by decide) e0 (W := 0) (F := fun a' => a' = #[.double r1] ∧ NoNaN64 r1) (val := .double (r1 &&& 0x7fffffffffffffff)) (val' := .double (r1 &&& 0x7fffffffffffffff)) (fun c4 => Jvm.Free.Fl.Abs.absD_pays (W := 0) r1 c4 (by decide) (by decide)) (g := (mkF m 1 #[.val (.double r1), .second] [(.double r1)])) rfl (by rw [hml]; rfl) (argsL := [(.double r1)]) (rest := []) (lenOf pd_0 rfl) rfl (by show 2 * 0 + _ ≤ _; exact Nat.le_of_eq rfl) (hb hby d_jdk_117_method_7_code_1) (by decide) (by decide) ⟨rfl, own_nn hf⟩ rfl
  obtain ⟨fs, hr, hrun, hended, hW, hsame⟩ := X1.leave (v := some (.int (0 : Int32))) (fun h => by rw [Bd.returns] at h; cases h)
  refine ⟨_, _, pre0 _ ?_, hrun, hended, _, _, rfl, ?_, ⟨_, rfl⟩, hW, hsame.mono (by decide) (by decide)⟩
  · show Steps p.tables e below (s₁.setTop (mkF m 0 #[.val (.double r1), .second] [])) _
    refine XS.dloadN X0.here hx rfl (hb hby d_jdk_117_method_7_code_0) rfl ?_
    show Steps p.tables e below (s₁.setTop (mkF m 1 #[.val (.double r1), .second] [(.double r1)])) _
    refine st1 _ ?_
    show Steps p.tables e below (T1.setTop (mkF m 4 #[.val (.double r1), .second] [(.double (r1 &&& 0x7fffffffffffffff))])) _
    refine X1.ldc2DoubleC hx hown (mvT hZ (hw _ (List.mem_of_getElem? (i := 13) rfl))) (g := (mkF m 4 #[.val (.double r1), .second] [(.double (r1 &&& 0x7fffffffffffffff))])) rfl (hb hby d_jdk_117_method_7_code_4) _ ?_
    show Steps p.tables e below (T1.setTop (mkF m 7 #[.val (.double r1), .second] [(.double (9218868437227405311 : UInt64)), (.double (r1 &&& 0x7fffffffffffffff))])) _
    refine XS.dcmpS X1.here hx rfl (v := (cmpValue (FP.dcmp (r1 &&& 0x7fffffffffffffff) (9218868437227405311 : UInt64)) .l)) (hb hby d_jdk_117_method_7_code_7) rfl rfl ?_
    show Steps p.tables e below (T1.setTop (mkF m 8 #[.val (.double r1), .second] [(.int (cmpValue (FP.dcmp (r1 &&& 0x7fffffffffffffff) (9218868437227405311 : UInt64)) .l))])) _
    refine XS.ifYes X1.here hx rfl (pc0 := 8) (pc' := 15) rfl (hb hby d_jdk_117_method_7_code_8) rfl ((if0 _ _).trans (flt (own_absle hf)).2.2.2) (by decide) (by decide) ?_
    show Steps p.tables e below (T1.setTop (mkF m 15 #[.val (.double r1), .second] [])) _
    refine XS.iconst X1.here hx rfl (hb hby d_jdk_117_method_7_code_15) ?_
    show Steps p.tables e below (T1.setTop (mkF m 16 #[.val (.double r1), .second] [(.int (0 : Int32))])) _
    exact retN X1 hx (t := .boolean) Bd.returns (by simp) (hb hby d_jdk_117_method_7_code_16) hr
  · show Q5 Z r1 h0 n0 _ T1.heap _
    rw [e1]
    exact ⟨rfl, N0, rfl⟩
theorem ef_4 (m : MethodId) (x0 : Addr) (x1 : UInt64) : entryFrame m #[(.ref x0), (.double x1)] 3 = mkF m 0 #[.val (.ref x0), .val (.double x1), .second] [] := by first | (simp [entryFrame, mkF, argsToLocals, Value.category]; done) | rfl
theorem pn_4 : plainName "com/example/measured_throttle/measuredthrottle/engine/Rate" = true := by first | (simp [plainName, overriddenIn]; done) | decide +kernel
def Q4 (Z : State) (a1 : Addr) (r1 : UInt64) (h0 : Heap) (n0 : Nat) (v : Option Value) (h : Heap) (L : List Loc) : Prop := v = none ∧ Fr n0 L ∧ Keep h0 h [a1] ∧ Exa Z h a1 "com/example/measured_throttle/measuredthrottle/engine/Rate" ∧ Fld Z h a1 "com/example/measured_throttle/measuredthrottle/engine/Rate" "permitsPerSecond" "D" (.double r1) ∧ Fld Z h a1 "com/example/measured_throttle/measuredthrottle/engine/Rate" "intervalNanos" "D" (.double (own_i r1))
set_option maxRecDepth 65536 in
set_option maxHeartbeats 40000000 in
theorem rm4 (l : Launch) (Z : State) (a0 : Array Value) (hw : ∀ d ∈ tables_1, d.before a0 Z = true) (ws : List Jvm.Cond) (a1 : Addr) (r1 : UInt64) (h0 : Heap) (n0 : Nat) (Z0 : n0 ≤ h0.size) (F_p : Fld Z h0 a1 "com/example/measured_throttle/measuredthrottle/engine/Rate" "permitsPerSecond" "D" (.double (0 : UInt64))) (F_i : Fld Z h0 a1 "com/example/measured_throttle/measuredthrottle/engine/Rate" "intervalNanos" "D" (.double (0 : UInt64))) (E_a : Exa Z h0 a1 "com/example/measured_throttle/measuredthrottle/engine/Rate") (g_a : n0 ≤ a1) (hi : Jvm.FP.Core.DFin (own_i r1)) :
    MetFree l (⟨"com/example/measured_throttle/measuredthrottle/engine/Rate", "<init>", "(D)V"⟩ : MethodName) (head1 (Jvm.Cond.code (⟨"com/example/measured_throttle/measuredthrottle/engine/Rate", "<init>", "(D)V"⟩ : MethodName) prog_10_method_1_code 3 none :: ws) ({ frames := 1, cells := 0, slots := 0, locals := 12 } : Room)) (fun a U => a = #[(.ref a1), (.double r1)] ∧ Z.Warmed39 U.vm ∧ U.heap = h0) (fun _ _ _ _ _ => True) (fun _ U o U' => ∃ v L, o = .returned v ∧ Q4 Z a1 r1 h0 n0 v U'.heap L ∧ FrameEnd U o U' L ({ frames := 1, cells := 0, slots := 0, locals := 12 } : Room).cells ({ frames := 1, cells := 0, slots := 0, locals := 12 } : Room).slots) := by
  refine MetFree.of_bodySF (plainFor_of_name pn_4) hisR ?_
  intro p e s m args below meth c s₁ Bd hml0 hP hK
  obtain ⟨rfl, hZ, hh⟩ := hP
  have hx := Bd.exec
  have hby := Bd.bytes
  have hml : c.maxLocals = 3 := hml0
  have hown : s.vm.findClass "com/example/measured_throttle/measuredthrottle/engine/Rate" = some m.cls := findClass_of_methodNamed Bd.named
  have hnm := (name_of_methodNamed Bd.named Bd.method).1
  have X0 : Stand p l e ({ frames := 1, cells := 0, slots := 0, locals := 12 } : Room) s m #[(.ref a1), (.double r1)] below meth c s₁ [] 0 0 := Stand.of_body Bd
  have e0 : s₁.heap = h0 := by rw [← hh, Bd.state]; rfl
  have N0 := Fr.nil n0
  have pre0 : ∀ t, Steps p.tables e below (s₁.setTop (mkF m 0 #[.val (.ref a1), .val (.double r1), .second] [])) t → Steps p.tables e below (s₁.setTop (entryFrame m #[(.ref a1), (.double r1)] 3)) t := fun t k => castTop (ef_4 m a1 r1) k
  obtain ⟨T2, X2, e2, st2⟩ := initO X0 hx hZ hown (hw _ (List.mem_of_getElem? (i := 19) rfl)) (hw _ (List.mem_of_getElem? (i := 20) rfl)) (hw _ (List.mem_of_getElem? (i := 21) rfl)) e0 (g := (mkF m 1 #[.val (.ref a1), .val (.double r1), .second] [(.ref a1)])) rfl (by rw [hml]; rfl) rfl (hb hby d_prog_10_method_1_code_1) (by decide) (W := 0) (by show 2 * 0 + _ ≤ _; exact Nat.le_of_eq rfl) (by decide)
  obtain ⟨T3, h3, X3, e3, W3, st3⟩ := putF X2 hx hZ hown (host := "") (Or.inl (hw _ (List.mem_of_getElem? (i := 22) rfl))) Via.refl e2 F_p E_a (Or.inr ⟨(hw _ (List.mem_of_getElem? (i := 23) rfl)), rfl, hnm⟩) (hw _ (List.mem_of_getElem? (i := 15) rfl)) (ty := .double) (by decide) rfl rfl (g := (mkF m 6 #[.val (.ref a1), .val (.double r1), .second] [(.double r1), (.ref a1)])) rfl rfl (hb hby d_prog_10_method_1_code_6)
  have N3 := Fr.snoc X3 N0 g_a
  have FP1 := F_p.same W3
  have FI1 := F_i.other W3 (Or.inr (slot_ne (Or.inr (hw _ (List.mem_of_getElem? (i := 26) rfl))) (Or.inr (hw _ (List.mem_of_getElem? (i := 23) rfl))) (by decide) (t := .double) (t' := .double) (by decide) (by decide)))
  have EX1 := E_a.wr W3
  have KK1 := (Keep.refl h0 [a1]).wr W3 (Or.inl (List.mem_of_getElem? (i := 0) rfl))
  obtain ⟨T4, h4, X4, e4, W4, st4⟩ := putF X3 hx hZ hown (host := "") (Or.inl (hw _ (List.mem_of_getElem? (i := 25) rfl))) Via.refl e3 FI1 EX1 (Or.inr ⟨(hw _ (List.mem_of_getElem? (i := 26) rfl)), rfl, hnm⟩) (hw _ (List.mem_of_getElem? (i := 15) rfl)) (ty := .double) (by decide) rfl rfl (g := (mkF m 15 #[.val (.ref a1), .val (.double r1), .second] [(.double (own_i r1)), (.ref a1)])) rfl rfl (hb hby d_prog_10_method_1_code_15)
  have N4 := Fr.snoc X4 N3 g_a
  have FP2 := FP1.other W4 (Or.inr (slot_ne (Or.inr (hw _ (List.mem_of_getElem? (i := 23) rfl))) (Or.inr (hw _ (List.mem_of_getElem? (i := 26) rfl))) (by decide) (t := .double) (t' := .double) (by decide) (by decide)))
  have FI2 := FI1.same W4
  have EX2 := EX1.wr W4
  have KK2 := KK1.wr W4 (Or.inl (List.mem_of_getElem? (i := 0) rfl))
  obtain ⟨fs, hr, hrun, hended, hW, hsame⟩ := X4.leave (v := none) (fun _ => rfl)
  refine ⟨_, _, pre0 _ ?_, hrun, hended, _, _, rfl, ?_, ⟨_, rfl⟩, hW, hsame.mono (by decide) (by decide)⟩
  · show Steps p.tables e below (s₁.setTop (mkF m 0 #[.val (.ref a1), .val (.double r1), .second] [])) _
    refine XS.aloadN X0.here hx rfl (hb hby d_prog_10_method_1_code_0) rfl rfl ?_
    show Steps p.tables e below (s₁.setTop (mkF m 1 #[.val (.ref a1), .val (.double r1), .second] [(.ref a1)])) _
    refine st2 _ ?_
    show Steps p.tables e below (T2.setTop (mkF m 4 #[.val (.ref a1), .val (.double r1), .second] [])) _
    refine XS.aloadN X2.here hx rfl (hb hby d_prog_10_method_1_code_4) rfl rfl ?_
    show Steps p.tables e below (T2.setTop (mkF m 5 #[.val (.ref a1), .val (.double r1), .second] [(.ref a1)])) _
    refine XS.dloadN X2.here hx rfl (hb hby d_prog_10_method_1_code_5) rfl ?_
    show Steps p.tables e below (T2.setTop (mkF m 6 #[.val (.ref a1), .val (.double r1), .second] [(.double r1), (.ref a1)])) _
    refine st3 _ ?_
    show Steps p.tables e below (T3.setTop (mkF m 9 #[.val (.ref a1), .val (.double r1), .second] [])) _
    refine XS.aloadN X3.here hx rfl (hb hby d_prog_10_method_1_code_9) rfl rfl ?_
    show Steps p.tables e below (T3.setTop (mkF m 10 #[.val (.ref a1), .val (.double r1), .second] [(.ref a1)])) _
    refine X3.ldc2DoubleC hx hown (mvT hZ (hw _ (List.mem_of_getElem? (i := 24) rfl))) (g := (mkF m 10 #[.val (.ref a1), .val (.double r1), .second] [(.ref a1)])) rfl (hb hby d_prog_10_method_1_code_10) _ ?_
    show Steps p.tables e below (T3.setTop (mkF m 13 #[.val (.ref a1), .val (.double r1), .second] [(.double (4741671816366391296 : UInt64)), (.ref a1)])) _
    refine XS.dloadN X3.here hx rfl (hb hby d_prog_10_method_1_code_13) rfl ?_
    show Steps p.tables e below (T3.setTop (mkF m 14 #[.val (.ref a1), .val (.double r1), .second] [(.double r1), (.double (4741671816366391296 : UInt64)), (.ref a1)])) _
    refine XS.ddivS X3.here hx rfl (v := (own_i r1)) (hb hby d_prog_10_method_1_code_14) rfl (own_nn hi) rfl ?_
    show Steps p.tables e below (T3.setTop (mkF m 15 #[.val (.ref a1), .val (.double r1), .second] [(.double (own_i r1)), (.ref a1)])) _
    refine st4 _ ?_
    show Steps p.tables e below (T4.setTop (mkF m 18 #[.val (.ref a1), .val (.double r1), .second] [])) _
    exact X4.returnOut hx Bd.returns (hb hby d_prog_10_method_1_code_18) hr
  · show Q4 Z a1 r1 h0 n0 _ T4.heap _
    rw [e4]
    exact ⟨rfl, N4, KK2, EX2, FP2, FI2⟩
theorem ef_1 (m : MethodId) (x0 : UInt64) : entryFrame m #[(.double x0)] 2 = mkF m 0 #[.val (.double x0), .second] [] := by first | (simp [entryFrame, mkF, argsToLocals, Value.category]; done) | rfl
theorem pn_1 : plainName "com/example/measured_throttle/measuredthrottle/engine/Rate" = true := by first | (simp [plainName, overriddenIn]; done) | decide +kernel
def Q1 (Z : State) (r1 : UInt64) (h0 : Heap) (n0 : Nat) (v : Option Value) (h : Heap) (L : List Loc) : Prop := ∃ b : Addr, v = some (.ref b) ∧ Fr n0 L ∧ n0 ≤ b ∧ Exa Z h b "com/example/measured_throttle/measuredthrottle/engine/Rate" ∧ Fld Z h b "com/example/measured_throttle/measuredthrottle/engine/Rate" "permitsPerSecond" "D" (.double r1) ∧ Fld Z h b "com/example/measured_throttle/measuredthrottle/engine/Rate" "intervalNanos" "D" (.double (own_i r1))
set_option maxRecDepth 65536 in
set_option maxHeartbeats 40000000 in
theorem rm1 (l : Launch) (Z : State) (a0 : Array Value) (hw : ∀ d ∈ tables_1, d.before a0 Z = true) (ws : List Jvm.Cond) (r1 : UInt64) (h0 : Heap) (n0 : Nat) (Z0 : n0 ≤ h0.size) (hf : Jvm.FP.Core.DFin r1) (hp : 0 < own_zv r1) (hi : Jvm.FP.Core.DFin (own_i r1)) :
    MetFree l (⟨"com/example/measured_throttle/measuredthrottle/engine/Rate", "of", "(D)Lcom/example/measured_throttle/measuredthrottle/engine/Rate;"⟩ : MethodName) (head1 (Jvm.Cond.code (⟨"com/example/measured_throttle/measuredthrottle/engine/Rate", "of", "(D)Lcom/example/measured_throttle/measuredthrottle/engine/Rate;"⟩ : MethodName) prog_10_method_2_code 2 (some (.object "com/example/measured_throttle/measuredthrottle/engine/Rate")) :: ws) ({ frames := 2, cells := 1, slots := 2, locals := 40 } : Room)) (fun a U => a = #[(.double r1)] ∧ Z.Warmed39 U.vm ∧ U.heap = h0) (fun _ _ _ _ _ => True) (fun _ U o U' => ∃ v L, o = .returned v ∧ Q1 Z r1 h0 n0 v U'.heap L ∧ FrameEnd U o U' L ({ frames := 2, cells := 1, slots := 2, locals := 40 } : Room).cells ({ frames := 2, cells := 1, slots := 2, locals := 40 } : Room).slots) := by
  refine MetFree.of_bodySF (plainFor_of_name pn_1) hisR ?_
  intro p e s m args below meth c s₁ Bd hml0 hP hK
  obtain ⟨rfl, hZ, hh⟩ := hP
  have hx := Bd.exec
  have hby := Bd.bytes
  have hml : c.maxLocals = 2 := hml0
  have hown : s.vm.findClass "com/example/measured_throttle/measuredthrottle/engine/Rate" = some m.cls := findClass_of_methodNamed Bd.named
  have hnm := (name_of_methodNamed Bd.named Bd.method).1
  have X0 : Stand p l e ({ frames := 2, cells := 1, slots := 2, locals := 40 } : Room) s m #[(.double r1)] below meth c s₁ [] 0 0 := Stand.of_body Bd
  have e0 : s₁.heap = h0 := by rw [← hh, Bd.state]; rfl
  have N0 := Fr.nil n0
  have pre0 : ∀ t, Steps p.tables e below (s₁.setTop (mkF m 0 #[.val (.double r1), .second] [])) t → Steps p.tables e below (s₁.setTop (entryFrame m #[(.double r1)] 2)) t := fun t k => castTop (ef_1 m r1) k
  obtain ⟨_, _, ⟨T5, L5, k5, n5⟩, -, X5, ⟨Lc5, hQ5, l5, y5, z5⟩, st5⟩ := Jvm.LawKit.callS X0 hx (y := (⟨"java/lang/Double", "isInfinite", "(D)Z"⟩ : MethodName)) hown (mvT hZ (hw _ (List.mem_of_getElem? (i := 5) rfl))) (mvT hZ (hw _ (List.mem_of_getElem? (i := 6) rfl))) (mvT hZ (hw _ (List.mem_of_getElem? (i := 7) rfl))) (mvT hZ (hw _ (List.mem_of_getElem? (i := 8) rfl))) (by decide) (backOf (W := 0) (rm5 l Z a0 hw [] r1 h0 n0 Z0 hf) hZ (hw _ (List.mem_of_getElem? (i := 8) rfl)) (hw _ (List.mem_of_getElem? (i := 7) rfl)) (by decide) (by decide)) (g := (mkF m 7 #[.val (.double r1), .second] [(.double r1)])) rfl (by rw [hml]; rfl) (argsL := [(.double r1)]) (rest := []) (lenOf pd_1 rfl) rfl (by show 2 * 0 + _ ≤ _; exact Nat.le_of_eq rfl) (hb hby d_prog_10_method_2_code_7) (fun _ _ => ⟨rfl, e0, (by decide : 0 + 0 ≤ _), (by decide : 0 + 0 ≤ _)⟩)
  dsimp only [Pt.U, Pt.locs, Pt.cells, Pt.slots] at X5 l5 y5 z5 st5 hQ5
  subst l5 y5 z5
  obtain ⟨rfl, N5q, ehI⟩ := hQ5
  have N5 := Fr.app N0 N5q
  obtain ⟨T6, h6, X6, e6, E6, A6, D6, -, st6⟩ := newO X5 hx hZ hown (hw _ (List.mem_of_getElem? (i := 14) rfl)) (hw _ (List.mem_of_getElem? (i := 15) rfl)) (hw _ (List.mem_of_getElem? (i := 3) rfl)) rfl (g := (mkF m 27 #[.val (.double r1), .second] [])) rfl (hb hby d_prog_10_method_2_code_27) (by decide) (by decide)
  obtain ⟨b1, g6⟩ : ∃ z, z = T5.heap.size := ⟨_, rfl⟩
  rw [← g6] at A6 D6 st6
  have F_p : Fld Z h6 b1 "com/example/measured_throttle/measuredthrottle/engine/Rate" "permitsPerSecond" "D" (.double (0 : UInt64)) := D6 (Or.inr (hw _ (List.mem_of_getElem? (i := 23) rfl))) (ty := .double) (by decide)
  have F_i : Fld Z h6 b1 "com/example/measured_throttle/measuredthrottle/engine/Rate" "intervalNanos" "D" (.double (0 : UInt64)) := D6 (Or.inr (hw _ (List.mem_of_getElem? (i := 26) rfl))) (ty := .double) (by decide)
  have gb : n0 ≤ b1 := Nat.le_trans Z0 (Nat.le_trans (Nat.le_of_eq (by rw [ehI])) (Nat.le_of_eq g6.symm))
  have Zn : n0 ≤ h6.size := Nat.le_trans (Nat.le_trans Z0 (Nat.le_of_eq (by rw [ehI]))) E6.1
  have E_b := A6
  obtain ⟨_, _, ⟨T7, L7, k7, n7⟩, -, X7, ⟨Lc7, hQ7, l7, y7, z7⟩, st7⟩ := X6.specialBack hx (y := (⟨"com/example/measured_throttle/measuredthrottle/engine/Rate", "<init>", "(D)V"⟩ : MethodName)) rfl hown (mvT hZ (hw _ (List.mem_of_getElem? (i := 16) rfl))) (mvT hZ (hw _ (List.mem_of_getElem? (i := 17) rfl))) (mvT hZ (hw _ (List.mem_of_getElem? (i := 18) rfl))) (by decide) (backOf (W := 1) (rm4 l Z a0 hw [] b1 r1 h6 n0 Zn F_p F_i E_b gb hi) hZ (hw _ (List.mem_of_getElem? (i := 18) rfl)) (hw _ (List.mem_of_getElem? (i := 3) rfl)) (by decide) (by decide)) (g := (mkF m 32 #[.val (.double r1), .second] [(.double r1), (.ref b1), (.ref b1)])) rfl (by rw [hml]; rfl) (Steps.refl _) (a := b1) (argsL := [(.double r1)]) (rest := [(.ref b1)]) (lenOf pd_2 rfl) rfl (by show 2 * 0 + _ ≤ _; exact Nat.le_of_eq rfl) (hb hby d_prog_10_method_2_code_32) (fun _ _ => ⟨rfl, e6, (by decide : 1 + 0 ≤ _), (by decide : 2 + 0 ≤ _)⟩)
  dsimp only [Pt.U, Pt.locs, Pt.cells, Pt.slots] at X7 l7 y7 z7 st7 hQ7
  subst l7 y7 z7
  obtain ⟨rfl, N7q, K7, G1, G2, G3⟩ := hQ7
  have N7 := Fr.app N5 N7q
  obtain ⟨fs, hr, hrun, hended, hW, hsame⟩ := X7.leave (v := some (.ref b1)) (fun h => by rw [Bd.returns] at h; cases h)
  refine ⟨_, _, pre0 _ ?_, hrun, hended, _, _, rfl, ?_, ⟨_, rfl⟩, hW, hsame.mono (by decide) (by decide)⟩
  · show Steps p.tables e below (s₁.setTop (mkF m 0 #[.val (.double r1), .second] [])) _
    refine XS.dloadN X0.here hx rfl (hb hby d_prog_10_method_2_code_0) rfl ?_
    show Steps p.tables e below (s₁.setTop (mkF m 1 #[.val (.double r1), .second] [(.double r1)])) _
    refine XS.dconst0 X0.here hx rfl (v := FP.dconst0) (hb hby d_prog_10_method_2_code_1) rfl ?_
    show Steps p.tables e below (s₁.setTop (mkF m 2 #[.val (.double r1), .second] [(.double FP.dconst0), (.double r1)])) _
    refine XS.dcmpS X0.here hx rfl (v := (1 : Int32)) (hb hby d_prog_10_method_2_code_2) rfl (own_pos hf hp) ?_
    show Steps p.tables e below (s₁.setTop (mkF m 3 #[.val (.double r1), .second] [(.int (1 : Int32))])) _
    refine XS.ifNo X0.here hx rfl (hb hby d_prog_10_method_2_code_3) rfl (by decide) ?_
    show Steps p.tables e below (s₁.setTop (mkF m 6 #[.val (.double r1), .second] [])) _
    refine XS.dloadN X0.here hx rfl (hb hby d_prog_10_method_2_code_6) rfl ?_
    show Steps p.tables e below (s₁.setTop (mkF m 7 #[.val (.double r1), .second] [(.double r1)])) _
    refine st5 _ ?_
    show Steps p.tables e below (T5.setTop (mkF m 10 #[.val (.double r1), .second] [(.int (0 : Int32))])) _
    refine XS.ifYes X5.here hx rfl (pc0 := 10) (pc' := 27) rfl (hb hby d_prog_10_method_2_code_10) rfl (by decide) (by decide) (by decide) ?_
    show Steps p.tables e below (T5.setTop (mkF m 27 #[.val (.double r1), .second] [])) _
    refine st6 _ ?_
    show Steps p.tables e below (T6.setTop (mkF m 30 #[.val (.double r1), .second] [(.ref b1)])) _
    refine XS.dup X6.here hx rfl (hb hby d_prog_10_method_2_code_30) rfl rfl ?_
    show Steps p.tables e below (T6.setTop (mkF m 31 #[.val (.double r1), .second] [(.ref b1), (.ref b1)])) _
    refine XS.dloadN X6.here hx rfl (hb hby d_prog_10_method_2_code_31) rfl ?_
    show Steps p.tables e below (T6.setTop (mkF m 32 #[.val (.double r1), .second] [(.double r1), (.ref b1), (.ref b1)])) _
    refine st7.trans ?_
    show Steps p.tables e below (T7.setTop (mkF m 35 #[.val (.double r1), .second] [(.ref b1)])) _
    jvm_step X7.here [X7.here.top, hx, (hb hby d_prog_10_method_2_code_35), X7.method', Bd.returns, Value.isRef, FieldType.isReference]
    first | (intro acts; rw [hr _ acts rfl rfl rfl]) | rw [hr _ _ rfl rfl rfl]
    exact Steps.refl _
  · show Q1 Z r1 h0 n0 _ T7.heap _
    exact ⟨b1, rfl, N7, gb, G1, G2, G3⟩
theorem ef_2 (m : MethodId) (x0 : Addr) : entryFrame m #[(.ref x0)] 1 = mkF m 0 #[.val (.ref x0)] [] := by first | (simp [entryFrame, mkF, argsToLocals, Value.category]; done) | rfl
theorem pn_2 : plainName "com/example/measured_throttle/measuredthrottle/engine/Rate" = true := by first | (simp [plainName, overriddenIn]; done) | decide +kernel
def Q2 (Z : State) (a1 : Addr) (r1 : UInt64) (h0 : Heap) (n0 : Nat) (v : Option Value) (h : Heap) (L : List Loc) : Prop := v = some (.double r1) ∧ Fr n0 L ∧ h = h0
set_option maxRecDepth 65536 in
set_option maxHeartbeats 40000000 in
theorem rm2 (l : Launch) (Z : State) (a0 : Array Value) (hw : ∀ d ∈ tables_1, d.before a0 Z = true) (ws : List Jvm.Cond) (a1 : Addr) (r1 : UInt64) (h0 : Heap) (n0 : Nat) (Z0 : n0 ≤ h0.size) (F_v : Fld Z h0 a1 "com/example/measured_throttle/measuredthrottle/engine/Rate" "permitsPerSecond" "D" (.double r1)) :
    MetFree l (⟨"com/example/measured_throttle/measuredthrottle/engine/Rate", "permitsPerSecond", "()D"⟩ : MethodName) (head1 (Jvm.Cond.code (⟨"com/example/measured_throttle/measuredthrottle/engine/Rate", "permitsPerSecond", "()D"⟩ : MethodName) prog_10_method_3_code 1 (some .double) :: ws) ({ frames := 0, cells := 0, slots := 0, locals := 0 } : Room)) (fun a U => a = #[(.ref a1)] ∧ Z.Warmed39 U.vm ∧ U.heap = h0) (fun _ _ _ _ _ => True) (fun _ U o U' => ∃ v L, o = .returned v ∧ Q2 Z a1 r1 h0 n0 v U'.heap L ∧ FrameEnd U o U' L ({ frames := 0, cells := 0, slots := 0, locals := 0 } : Room).cells ({ frames := 0, cells := 0, slots := 0, locals := 0 } : Room).slots) := by
  refine MetFree.of_bodySF (plainFor_of_name pn_2) hisR ?_
  intro p e s m args below meth c s₁ Bd hml0 hP hK
  obtain ⟨rfl, hZ, hh⟩ := hP
  have hx := Bd.exec
  have hby := Bd.bytes
  have hml : c.maxLocals = 1 := hml0
  have hown : s.vm.findClass "com/example/measured_throttle/measuredthrottle/engine/Rate" = some m.cls := findClass_of_methodNamed Bd.named
  have hnm := (name_of_methodNamed Bd.named Bd.method).1
  have X0 : Stand p l e ({ frames := 0, cells := 0, slots := 0, locals := 0 } : Room) s m #[(.ref a1)] below meth c s₁ [] 0 0 := Stand.of_body Bd
  have e0 : s₁.heap = h0 := by rw [← hh, Bd.state]; rfl
  have N0 := Fr.nil n0
  have pre0 : ∀ t, Steps p.tables e below (s₁.setTop (mkF m 0 #[.val (.ref a1)] [])) t → Steps p.tables e below (s₁.setTop (entryFrame m #[(.ref a1)] 1)) t := fun t k => castTop (ef_2 m a1) k
  obtain ⟨T8, X8, e8, st8⟩ := getF X0 hx hZ hown (host := "") (Or.inl (hw _ (List.mem_of_getElem? (i := 22) rfl))) Via.refl e0 F_v (g := (mkF m 1 #[.val (.ref a1)] [(.ref a1)])) rfl rfl (hb hby d_prog_10_method_3_code_1)
  obtain ⟨fs, hr, hrun, hended, hW, hsame⟩ := X8.leave (v := some (.double r1)) (fun h => by rw [Bd.returns] at h; cases h)
  refine ⟨_, _, pre0 _ ?_, hrun, hended, _, _, rfl, ?_, ⟨_, rfl⟩, hW, hsame.mono (by decide) (by decide)⟩
  · show Steps p.tables e below (s₁.setTop (mkF m 0 #[.val (.ref a1)] [])) _
    refine XS.aloadN X0.here hx rfl (hb hby d_prog_10_method_3_code_0) rfl rfl ?_
    show Steps p.tables e below (s₁.setTop (mkF m 1 #[.val (.ref a1)] [(.ref a1)])) _
    refine st8 _ ?_
    show Steps p.tables e below (T8.setTop (mkF m 4 #[.val (.ref a1)] [(.double r1)])) _
    jvm_step X8.here [X8.here.top, hx, (hb hby d_prog_10_method_3_code_4), X8.method', Bd.returns, narrow]
    first | (intro acts; rw [hr _ acts rfl rfl rfl]) | rw [hr _ _ rfl rfl rfl]
    exact Steps.refl _
  · show Q2 Z a1 r1 h0 n0 _ T8.heap _
    rw [e8]
    exact ⟨rfl, N0, rfl⟩
theorem ef_3 (m : MethodId) (x0 : Addr) : entryFrame m #[(.ref x0)] 1 = mkF m 0 #[.val (.ref x0)] [] := by first | (simp [entryFrame, mkF, argsToLocals, Value.category]; done) | rfl
theorem pn_3 : plainName "com/example/measured_throttle/measuredthrottle/engine/Rate" = true := by first | (simp [plainName, overriddenIn]; done) | decide +kernel
def Q3 (Z : State) (a1 : Addr) (r1 : UInt64) (h0 : Heap) (n0 : Nat) (v : Option Value) (h : Heap) (L : List Loc) : Prop := v = some (.double r1) ∧ Fr n0 L ∧ h = h0
set_option maxRecDepth 65536 in
set_option maxHeartbeats 40000000 in
theorem rm3 (l : Launch) (Z : State) (a0 : Array Value) (hw : ∀ d ∈ tables_1, d.before a0 Z = true) (ws : List Jvm.Cond) (a1 : Addr) (r1 : UInt64) (h0 : Heap) (n0 : Nat) (Z0 : n0 ≤ h0.size) (F_v : Fld Z h0 a1 "com/example/measured_throttle/measuredthrottle/engine/Rate" "intervalNanos" "D" (.double r1)) :
    MetFree l (⟨"com/example/measured_throttle/measuredthrottle/engine/Rate", "intervalNanos", "()D"⟩ : MethodName) (head1 (Jvm.Cond.code (⟨"com/example/measured_throttle/measuredthrottle/engine/Rate", "intervalNanos", "()D"⟩ : MethodName) prog_10_method_4_code 1 (some .double) :: ws) ({ frames := 0, cells := 0, slots := 0, locals := 0 } : Room)) (fun a U => a = #[(.ref a1)] ∧ Z.Warmed39 U.vm ∧ U.heap = h0) (fun _ _ _ _ _ => True) (fun _ U o U' => ∃ v L, o = .returned v ∧ Q3 Z a1 r1 h0 n0 v U'.heap L ∧ FrameEnd U o U' L ({ frames := 0, cells := 0, slots := 0, locals := 0 } : Room).cells ({ frames := 0, cells := 0, slots := 0, locals := 0 } : Room).slots) := by
  refine MetFree.of_bodySF (plainFor_of_name pn_3) hisR ?_
  intro p e s m args below meth c s₁ Bd hml0 hP hK
  obtain ⟨rfl, hZ, hh⟩ := hP
  have hx := Bd.exec
  have hby := Bd.bytes
  have hml : c.maxLocals = 1 := hml0
  have hown : s.vm.findClass "com/example/measured_throttle/measuredthrottle/engine/Rate" = some m.cls := findClass_of_methodNamed Bd.named
  have hnm := (name_of_methodNamed Bd.named Bd.method).1
  have X0 : Stand p l e ({ frames := 0, cells := 0, slots := 0, locals := 0 } : Room) s m #[(.ref a1)] below meth c s₁ [] 0 0 := Stand.of_body Bd
  have e0 : s₁.heap = h0 := by rw [← hh, Bd.state]; rfl
  have N0 := Fr.nil n0
  have pre0 : ∀ t, Steps p.tables e below (s₁.setTop (mkF m 0 #[.val (.ref a1)] [])) t → Steps p.tables e below (s₁.setTop (entryFrame m #[(.ref a1)] 1)) t := fun t k => castTop (ef_3 m a1) k
  obtain ⟨T9, X9, e9, st9⟩ := getF X0 hx hZ hown (host := "") (Or.inl (hw _ (List.mem_of_getElem? (i := 25) rfl))) Via.refl e0 F_v (g := (mkF m 1 #[.val (.ref a1)] [(.ref a1)])) rfl rfl (hb hby d_prog_10_method_4_code_1)
  obtain ⟨fs, hr, hrun, hended, hW, hsame⟩ := X9.leave (v := some (.double r1)) (fun h => by rw [Bd.returns] at h; cases h)
  refine ⟨_, _, pre0 _ ?_, hrun, hended, _, _, rfl, ?_, ⟨_, rfl⟩, hW, hsame.mono (by decide) (by decide)⟩
  · show Steps p.tables e below (s₁.setTop (mkF m 0 #[.val (.ref a1)] [])) _
    refine XS.aloadN X0.here hx rfl (hb hby d_prog_10_method_4_code_0) rfl rfl ?_
    show Steps p.tables e below (s₁.setTop (mkF m 1 #[.val (.ref a1)] [(.ref a1)])) _
    refine st9 _ ?_
    show Steps p.tables e below (T9.setTop (mkF m 4 #[.val (.ref a1)] [(.double r1)])) _
    jvm_step X9.here [X9.here.top, hx, (hb hby d_prog_10_method_4_code_4), X9.method', Bd.returns, narrow]
    first | (intro acts; rw [hr _ acts rfl rfl rfl]) | rw [hr _ _ rfl rfl rfl]
    exact Steps.refl _
  · show Q3 Z a1 r1 h0 n0 _ T9.heap _
    rw [e9]
    exact ⟨rfl, N0, rfl⟩
theorem ef_0 (m : MethodId) (x0 : Int32) (x1 : Int32) : entryFrame m #[(.int x0), (.int x1)] maxLocals = mkF m 0 #[.val (.int x0), .val (.int x1), .unset, .unset, .unset, .unset, .unset, .unset, .unset, .unset, .unset, .unset, .unset] [] := by first | (simp [entryFrame, mkF, argsToLocals, Value.category, maxLocals]; done) | rfl
theorem pn_0 : plainName "com/example/measured_throttle/measuredthrottle/engine/RateOfPinLaw" = true := by first | (simp [plainName, overriddenIn]; done) | decide +kernel
def Q0 (Z : State) (p1 : Int32) (p2 : Int32) (h0 : Heap) (n0 : Nat) (v : Option Value) (h : Heap) (L : List Loc) : Prop := v = some (.int 1) ∧ Fr n0 L
set_option maxRecDepth 65536 in
set_option maxHeartbeats 40000000 in
theorem rm0 (l : Launch) (Z : State) (a0 : Array Value) (hw : ∀ d ∈ tables_1, d.before a0 Z = true) (ws : List Jvm.Cond) (p1 : Int32) (p2 : Int32) (h0 : Heap) (n0 : Nat) (Z0 : n0 ≤ h0.size) :
    MetFree l x (head1 (Jvm.Cond.code x code maxLocals ret :: ws) room_1) (fun a U => a = #[(.int p1), (.int p2)] ∧ Z.Warmed39 U.vm ∧ U.heap = h0) (fun _ _ _ _ _ => True) (fun _ U o U' => ∃ v L, o = .returned v ∧ Q0 Z p1 p2 h0 n0 v U'.heap L ∧ FrameEnd U o U' L room_1.cells room_1.slots) := by
  refine MetFree.of_bodySF (plainFor_of_name pn_0) hisR ?_
  intro p e s m args below meth c s₁ Bd hml0 hP hK
  obtain ⟨rfl, hZ, hh⟩ := hP
  have hx := Bd.exec
  have hby := Bd.bytes
  have hml : c.maxLocals = 13 := hml0
  have hown : s.vm.findClass "com/example/measured_throttle/measuredthrottle/engine/RateOfPinLaw" = some m.cls := findClass_of_methodNamed Bd.named
  have hnm := (name_of_methodNamed Bd.named Bd.method).1
  have X0 : Stand p l e room_1 s m #[(.int p1), (.int p2)] below meth c s₁ [] 0 0 := Stand.of_body Bd
  have e0 : s₁.heap = h0 := by rw [← hh, Bd.state]; rfl
  have N0 := Fr.nil n0
  have pre0 : ∀ t, Steps p.tables e below (s₁.setTop (mkF m 0 #[.val (.int p1), .val (.int p2), .unset, .unset, .unset, .unset, .unset, .unset, .unset, .unset, .unset, .unset, .unset] [])) t → Steps p.tables e below (s₁.setTop (entryFrame m #[(.int p1), (.int p2)] maxLocals)) t := fun t k => castTop (ef_0 m p1 p2) k
  obtain ⟨F1, F2, F3⟩ := own_facts p1 p2
  have F4 : 0 < own_zv (own_p p1 p2) := Int.lt_of_lt_of_le (Int.mul_pos (by decide) (Int.natCast_pos.mpr (Nat.two_pow_pos _))) F2
  obtain ⟨F5, F6⟩ := own_facts2 F1 F2 F3
  obtain ⟨_, _, ⟨T10, L10, k10, n10⟩, -, X10, ⟨Lc10, hQ10, l10, y10, z10⟩, st10⟩ := Jvm.LawKit.callS X0 hx (y := (⟨"com/example/measured_throttle/measuredthrottle/engine/Rate", "of", "(D)Lcom/example/measured_throttle/measuredthrottle/engine/Rate;"⟩ : MethodName)) hown (mvT hZ (hw _ (List.mem_of_getElem? (i := 1) rfl))) (mvT hZ (hw _ (List.mem_of_getElem? (i := 2) rfl))) (mvT hZ (hw _ (List.mem_of_getElem? (i := 3) rfl))) (mvT hZ (hw _ (List.mem_of_getElem? (i := 4) rfl))) (by decide) (backOf (W := 0) (rm1 l Z a0 hw [] (own_p p1 p2) h0 n0 Z0 F1 F4 F5) hZ (hw _ (List.mem_of_getElem? (i := 4) rfl)) (hw _ (List.mem_of_getElem? (i := 3) rfl)) (by decide) (by decide)) (g := (mkF m 23 #[.val (.int p1), .val (.int p2), .val (.int ((p1 &&& (1073741823 : Int32)) + (1 : Int32))), .val (.int ((p2 &&& (1073741823 : Int32)) + (1 : Int32))), .val (.double (own_p p1 p2)), .second, .unset, .unset, .unset, .unset, .unset, .unset, .unset] [(.double (own_p p1 p2))])) rfl (by rw [hml]; rfl) (argsL := [(.double (own_p p1 p2))]) (rest := []) (lenOf pd_3 rfl) rfl (by show 2 * 0 + _ ≤ _; exact Nat.le_of_eq rfl) (hb hby at_23) (fun _ _ => ⟨rfl, e0, (by decide : 0 + 1 ≤ _), (by decide : 0 + 2 ≤ _)⟩)
  dsimp only [Pt.U, Pt.locs, Pt.cells, Pt.slots] at X10 l10 y10 z10 st10 hQ10
  subst l10 y10 z10
  obtain ⟨b1, rfl, N10q, gb, G1, G2, G3⟩ := hQ10
  have N10 := Fr.app N0 N10q
  have Z1 : n0 ≤ T10.heap.size := Nat.le_trans gb (Nat.le_of_lt G1.lt)
  obtain ⟨cq11, kq11, q11a, q11b, q11c⟩ := isOf hZ rfl G1
  obtain ⟨_, _, ⟨T11, L11, k11, n11⟩, -, X11, ⟨Lc11, hQ11, l11, y11, z11⟩, st11⟩ := X10.virtualBack hx (y := (⟨"com/example/measured_throttle/measuredthrottle/engine/Rate", "permitsPerSecond", "()D"⟩ : MethodName)) (z := (⟨"com/example/measured_throttle/measuredthrottle/engine/Rate", "permitsPerSecond", "()D"⟩ : MethodName)) hown (mvT hZ (hw _ (List.mem_of_getElem? (i := 27) rfl))) (mvT hZ (hw _ (List.mem_of_getElem? (i := 28) rfl))) (notFace_of_selects (args := #[]) (mvT hZ (hw _ (List.mem_of_getElem? (i := 30) rfl)))) (mvT hZ (hw _ (List.mem_of_getElem? (i := 30) rfl))) (mvT hZ (hw _ (List.mem_of_getElem? (i := 29) rfl))) (by decide) (backOf (W := 0) (rm2 l Z a0 hw [] b1 (own_p p1 p2) T10.heap n0 Z1 G2) hZ (hw _ (List.mem_of_getElem? (i := 31) rfl)) (hw _ (List.mem_of_getElem? (i := 3) rfl)) (by decide) (by decide)) q11a q11c (g := (mkF m 30 #[.val (.int p1), .val (.int p2), .val (.int ((p1 &&& (1073741823 : Int32)) + (1 : Int32))), .val (.int ((p2 &&& (1073741823 : Int32)) + (1 : Int32))), .val (.double (own_p p1 p2)), .second, .val (.ref b1), .unset, .unset, .unset, .unset, .unset, .unset] [(.ref b1)])) rfl (by rw [hml]; rfl) (Steps.refl _) (argsL := []) (rest := []) (lenOf pd_4 rfl) rfl (by show 2 * 0 + _ ≤ _; exact Nat.le_of_eq rfl) (hb hby at_30) (fun _ _ => ⟨rfl, rfl, (by decide : 1 + 0 ≤ _), (by decide : 2 + 0 ≤ _)⟩)
  dsimp only [Pt.U, Pt.locs, Pt.cells, Pt.slots] at X11 l11 y11 z11 st11 hQ11
  subst l11 y11 z11
  obtain ⟨rfl, N11q, eh2⟩ := hQ11
  have N11 := Fr.app N10 N11q
  have Z2 : n0 ≤ T11.heap.size := by rw [eh2]; exact Z1
  have G1' : Exa Z T11.heap b1 "com/example/measured_throttle/measuredthrottle/engine/Rate" := by rw [eh2]; exact G1
  have G3' : Fld Z T11.heap b1 "com/example/measured_throttle/measuredthrottle/engine/Rate" "intervalNanos" "D" (.double (own_i (own_p p1 p2))) := by rw [eh2]; exact G3
  obtain ⟨cq12, kq12, q12a, q12b, q12c⟩ := isOf hZ rfl G1'
  obtain ⟨_, _, ⟨T12, L12, k12, n12⟩, -, X12, ⟨Lc12, hQ12, l12, y12, z12⟩, st12⟩ := X11.virtualBack hx (y := (⟨"com/example/measured_throttle/measuredthrottle/engine/Rate", "intervalNanos", "()D"⟩ : MethodName)) (z := (⟨"com/example/measured_throttle/measuredthrottle/engine/Rate", "intervalNanos", "()D"⟩ : MethodName)) hown (mvT hZ (hw _ (List.mem_of_getElem? (i := 32) rfl))) (mvT hZ (hw _ (List.mem_of_getElem? (i := 33) rfl))) (notFace_of_selects (args := #[]) (mvT hZ (hw _ (List.mem_of_getElem? (i := 35) rfl)))) (mvT hZ (hw _ (List.mem_of_getElem? (i := 35) rfl))) (mvT hZ (hw _ (List.mem_of_getElem? (i := 34) rfl))) (by decide) (backOf (W := 0) (rm3 l Z a0 hw [] b1 (own_i (own_p p1 p2)) T11.heap n0 Z2 G3') hZ (hw _ (List.mem_of_getElem? (i := 36) rfl)) (hw _ (List.mem_of_getElem? (i := 3) rfl)) (by decide) (by decide)) q12a q12c (g := (mkF m 37 #[.val (.int p1), .val (.int p2), .val (.int ((p1 &&& (1073741823 : Int32)) + (1 : Int32))), .val (.int ((p2 &&& (1073741823 : Int32)) + (1 : Int32))), .val (.double (own_p p1 p2)), .second, .val (.ref b1), .val (.double (own_p p1 p2)), .second, .unset, .unset, .unset, .unset] [(.ref b1)])) rfl (by rw [hml]; rfl) (Steps.refl _) (argsL := []) (rest := []) (lenOf pd_4 rfl) rfl (by show 2 * 0 + _ ≤ _; exact Nat.le_of_eq rfl) (hb hby at_37) (fun _ _ => ⟨rfl, rfl, (by decide : 1 + 0 ≤ _), (by decide : 2 + 0 ≤ _)⟩)
  dsimp only [Pt.U, Pt.locs, Pt.cells, Pt.slots] at X12 l12 y12 z12 st12 hQ12
  subst l12 y12 z12
  obtain ⟨rfl, N12q, eh3⟩ := hQ12
  have N12 := Fr.app N11 N12q
  obtain ⟨fs, hr, hrun, hended, hW, hsame⟩ := X12.leave (v := some (.int (1 : Int32))) (fun h => by rw [Bd.returns] at h; cases h)
  refine ⟨_, _, pre0 _ ?_, hrun, hended, _, _, rfl, ?_, ⟨_, rfl⟩, hW, hsame.mono (by decide) (by decide)⟩
  · show Steps p.tables e below (s₁.setTop (mkF m 0 #[.val (.int p1), .val (.int p2), .unset, .unset, .unset, .unset, .unset, .unset, .unset, .unset, .unset, .unset, .unset] [])) _
    refine XS.iloadN X0.here hx rfl (hb hby at_0) rfl ?_
    show Steps p.tables e below (s₁.setTop (mkF m 1 #[.val (.int p1), .val (.int p2), .unset, .unset, .unset, .unset, .unset, .unset, .unset, .unset, .unset, .unset, .unset] [(.int p1)])) _
    refine X0.ldcI hx hown (mvT hZ (hw _ (List.mem_of_getElem? (i := 0) rfl))) (g := (mkF m 1 #[.val (.int p1), .val (.int p2), .unset, .unset, .unset, .unset, .unset, .unset, .unset, .unset, .unset, .unset, .unset] [(.int p1)])) rfl (hb hby at_1) ?_
    show Steps p.tables e below (s₁.setTop (mkF m 3 #[.val (.int p1), .val (.int p2), .unset, .unset, .unset, .unset, .unset, .unset, .unset, .unset, .unset, .unset, .unset] [(.int (1073741823 : Int32)), (.int p1)])) _
    refine XS.iand X0.here hx rfl (hb hby at_3) rfl ?_
    show Steps p.tables e below (s₁.setTop (mkF m 4 #[.val (.int p1), .val (.int p2), .unset, .unset, .unset, .unset, .unset, .unset, .unset, .unset, .unset, .unset, .unset] [(.int (p1 &&& (1073741823 : Int32)))])) _
    refine XS.iconst X0.here hx rfl (hb hby at_4) ?_
    show Steps p.tables e below (s₁.setTop (mkF m 5 #[.val (.int p1), .val (.int p2), .unset, .unset, .unset, .unset, .unset, .unset, .unset, .unset, .unset, .unset, .unset] [(.int (1 : Int32)), (.int (p1 &&& (1073741823 : Int32)))])) _
    refine XS.iadd X0.here hx rfl (hb hby at_5) rfl ?_
    show Steps p.tables e below (s₁.setTop (mkF m 6 #[.val (.int p1), .val (.int p2), .unset, .unset, .unset, .unset, .unset, .unset, .unset, .unset, .unset, .unset, .unset] [(.int ((p1 &&& (1073741823 : Int32)) + (1 : Int32)))])) _
    refine XS.istoreN X0.here hx rfl (hb hby at_6) rfl (l' := #[.val (.int p1), .val (.int p2), .val (.int ((p1 &&& (1073741823 : Int32)) + (1 : Int32))), .unset, .unset, .unset, .unset, .unset, .unset, .unset, .unset, .unset, .unset]) rfl ?_
    show Steps p.tables e below (s₁.setTop (mkF m 7 #[.val (.int p1), .val (.int p2), .val (.int ((p1 &&& (1073741823 : Int32)) + (1 : Int32))), .unset, .unset, .unset, .unset, .unset, .unset, .unset, .unset, .unset, .unset] [])) _
    refine XS.iloadN X0.here hx rfl (hb hby at_7) rfl ?_
    show Steps p.tables e below (s₁.setTop (mkF m 8 #[.val (.int p1), .val (.int p2), .val (.int ((p1 &&& (1073741823 : Int32)) + (1 : Int32))), .unset, .unset, .unset, .unset, .unset, .unset, .unset, .unset, .unset, .unset] [(.int p2)])) _
    refine X0.ldcI hx hown (mvT hZ (hw _ (List.mem_of_getElem? (i := 0) rfl))) (g := (mkF m 8 #[.val (.int p1), .val (.int p2), .val (.int ((p1 &&& (1073741823 : Int32)) + (1 : Int32))), .unset, .unset, .unset, .unset, .unset, .unset, .unset, .unset, .unset, .unset] [(.int p2)])) rfl (hb hby at_8) ?_
    show Steps p.tables e below (s₁.setTop (mkF m 10 #[.val (.int p1), .val (.int p2), .val (.int ((p1 &&& (1073741823 : Int32)) + (1 : Int32))), .unset, .unset, .unset, .unset, .unset, .unset, .unset, .unset, .unset, .unset] [(.int (1073741823 : Int32)), (.int p2)])) _
    refine XS.iand X0.here hx rfl (hb hby at_10) rfl ?_
    show Steps p.tables e below (s₁.setTop (mkF m 11 #[.val (.int p1), .val (.int p2), .val (.int ((p1 &&& (1073741823 : Int32)) + (1 : Int32))), .unset, .unset, .unset, .unset, .unset, .unset, .unset, .unset, .unset, .unset] [(.int (p2 &&& (1073741823 : Int32)))])) _
    refine XS.iconst X0.here hx rfl (hb hby at_11) ?_
    show Steps p.tables e below (s₁.setTop (mkF m 12 #[.val (.int p1), .val (.int p2), .val (.int ((p1 &&& (1073741823 : Int32)) + (1 : Int32))), .unset, .unset, .unset, .unset, .unset, .unset, .unset, .unset, .unset, .unset] [(.int (1 : Int32)), (.int (p2 &&& (1073741823 : Int32)))])) _
    refine XS.iadd X0.here hx rfl (hb hby at_12) rfl ?_
    show Steps p.tables e below (s₁.setTop (mkF m 13 #[.val (.int p1), .val (.int p2), .val (.int ((p1 &&& (1073741823 : Int32)) + (1 : Int32))), .unset, .unset, .unset, .unset, .unset, .unset, .unset, .unset, .unset, .unset] [(.int ((p2 &&& (1073741823 : Int32)) + (1 : Int32)))])) _
    refine XS.istoreN X0.here hx rfl (hb hby at_13) rfl (l' := #[.val (.int p1), .val (.int p2), .val (.int ((p1 &&& (1073741823 : Int32)) + (1 : Int32))), .val (.int ((p2 &&& (1073741823 : Int32)) + (1 : Int32))), .unset, .unset, .unset, .unset, .unset, .unset, .unset, .unset, .unset]) rfl ?_
    show Steps p.tables e below (s₁.setTop (mkF m 14 #[.val (.int p1), .val (.int p2), .val (.int ((p1 &&& (1073741823 : Int32)) + (1 : Int32))), .val (.int ((p2 &&& (1073741823 : Int32)) + (1 : Int32))), .unset, .unset, .unset, .unset, .unset, .unset, .unset, .unset, .unset] [])) _
    refine XS.iloadN X0.here hx rfl (hb hby at_14) rfl ?_
    show Steps p.tables e below (s₁.setTop (mkF m 15 #[.val (.int p1), .val (.int p2), .val (.int ((p1 &&& (1073741823 : Int32)) + (1 : Int32))), .val (.int ((p2 &&& (1073741823 : Int32)) + (1 : Int32))), .unset, .unset, .unset, .unset, .unset, .unset, .unset, .unset, .unset] [(.int ((p1 &&& (1073741823 : Int32)) + (1 : Int32)))])) _
    refine XS.i2dS X0.here hx rfl (v := (FP.i2d ((p1 &&& (1073741823 : Int32)) + (1 : Int32)))) (hb hby at_15) rfl rfl ?_
    show Steps p.tables e below (s₁.setTop (mkF m 16 #[.val (.int p1), .val (.int p2), .val (.int ((p1 &&& (1073741823 : Int32)) + (1 : Int32))), .val (.int ((p2 &&& (1073741823 : Int32)) + (1 : Int32))), .unset, .unset, .unset, .unset, .unset, .unset, .unset, .unset, .unset] [(.double (FP.i2d ((p1 &&& (1073741823 : Int32)) + (1 : Int32))))])) _
    refine XS.iloadN X0.here hx rfl (hb hby at_16) rfl ?_
    show Steps p.tables e below (s₁.setTop (mkF m 17 #[.val (.int p1), .val (.int p2), .val (.int ((p1 &&& (1073741823 : Int32)) + (1 : Int32))), .val (.int ((p2 &&& (1073741823 : Int32)) + (1 : Int32))), .unset, .unset, .unset, .unset, .unset, .unset, .unset, .unset, .unset] [(.int ((p2 &&& (1073741823 : Int32)) + (1 : Int32))), (.double (FP.i2d ((p1 &&& (1073741823 : Int32)) + (1 : Int32))))])) _
    refine XS.i2dS X0.here hx rfl (v := (FP.i2d ((p2 &&& (1073741823 : Int32)) + (1 : Int32)))) (hb hby at_17) rfl rfl ?_
    show Steps p.tables e below (s₁.setTop (mkF m 18 #[.val (.int p1), .val (.int p2), .val (.int ((p1 &&& (1073741823 : Int32)) + (1 : Int32))), .val (.int ((p2 &&& (1073741823 : Int32)) + (1 : Int32))), .unset, .unset, .unset, .unset, .unset, .unset, .unset, .unset, .unset] [(.double (FP.i2d ((p2 &&& (1073741823 : Int32)) + (1 : Int32)))), (.double (FP.i2d ((p1 &&& (1073741823 : Int32)) + (1 : Int32))))])) _
    refine XS.ddivS X0.here hx rfl (v := (own_p p1 p2)) (hb hby at_18) rfl (own_nn F1) rfl ?_
    show Steps p.tables e below (s₁.setTop (mkF m 19 #[.val (.int p1), .val (.int p2), .val (.int ((p1 &&& (1073741823 : Int32)) + (1 : Int32))), .val (.int ((p2 &&& (1073741823 : Int32)) + (1 : Int32))), .unset, .unset, .unset, .unset, .unset, .unset, .unset, .unset, .unset] [(.double (own_p p1 p2))])) _
    refine XS.dstore X0.here hx rfl (hb hby at_19) rfl (l' := #[.val (.int p1), .val (.int p2), .val (.int ((p1 &&& (1073741823 : Int32)) + (1 : Int32))), .val (.int ((p2 &&& (1073741823 : Int32)) + (1 : Int32))), .val (.double (own_p p1 p2)), .second, .unset, .unset, .unset, .unset, .unset, .unset, .unset]) rfl ?_
    show Steps p.tables e below (s₁.setTop (mkF m 21 #[.val (.int p1), .val (.int p2), .val (.int ((p1 &&& (1073741823 : Int32)) + (1 : Int32))), .val (.int ((p2 &&& (1073741823 : Int32)) + (1 : Int32))), .val (.double (own_p p1 p2)), .second, .unset, .unset, .unset, .unset, .unset, .unset, .unset] [])) _
    refine XS.dload X0.here hx rfl (hb hby at_21) rfl ?_
    show Steps p.tables e below (s₁.setTop (mkF m 23 #[.val (.int p1), .val (.int p2), .val (.int ((p1 &&& (1073741823 : Int32)) + (1 : Int32))), .val (.int ((p2 &&& (1073741823 : Int32)) + (1 : Int32))), .val (.double (own_p p1 p2)), .second, .unset, .unset, .unset, .unset, .unset, .unset, .unset] [(.double (own_p p1 p2))])) _
    refine st10 _ ?_
    show Steps p.tables e below (T10.setTop (mkF m 26 #[.val (.int p1), .val (.int p2), .val (.int ((p1 &&& (1073741823 : Int32)) + (1 : Int32))), .val (.int ((p2 &&& (1073741823 : Int32)) + (1 : Int32))), .val (.double (own_p p1 p2)), .second, .unset, .unset, .unset, .unset, .unset, .unset, .unset] [(.ref b1)])) _
    refine XS.astore X10.here hx rfl (hb hby at_26) rfl rfl (l' := #[.val (.int p1), .val (.int p2), .val (.int ((p1 &&& (1073741823 : Int32)) + (1 : Int32))), .val (.int ((p2 &&& (1073741823 : Int32)) + (1 : Int32))), .val (.double (own_p p1 p2)), .second, .val (.ref b1), .unset, .unset, .unset, .unset, .unset, .unset]) rfl ?_
    show Steps p.tables e below (T10.setTop (mkF m 28 #[.val (.int p1), .val (.int p2), .val (.int ((p1 &&& (1073741823 : Int32)) + (1 : Int32))), .val (.int ((p2 &&& (1073741823 : Int32)) + (1 : Int32))), .val (.double (own_p p1 p2)), .second, .val (.ref b1), .unset, .unset, .unset, .unset, .unset, .unset] [])) _
    refine XS.aload X10.here hx rfl (hb hby at_28) rfl rfl ?_
    show Steps p.tables e below (T10.setTop (mkF m 30 #[.val (.int p1), .val (.int p2), .val (.int ((p1 &&& (1073741823 : Int32)) + (1 : Int32))), .val (.int ((p2 &&& (1073741823 : Int32)) + (1 : Int32))), .val (.double (own_p p1 p2)), .second, .val (.ref b1), .unset, .unset, .unset, .unset, .unset, .unset] [(.ref b1)])) _
    refine st11.trans ?_
    show Steps p.tables e below (T11.setTop (mkF m 33 #[.val (.int p1), .val (.int p2), .val (.int ((p1 &&& (1073741823 : Int32)) + (1 : Int32))), .val (.int ((p2 &&& (1073741823 : Int32)) + (1 : Int32))), .val (.double (own_p p1 p2)), .second, .val (.ref b1), .unset, .unset, .unset, .unset, .unset, .unset] [(.double (own_p p1 p2))])) _
    refine XS.dstore X11.here hx rfl (hb hby at_33) rfl (l' := #[.val (.int p1), .val (.int p2), .val (.int ((p1 &&& (1073741823 : Int32)) + (1 : Int32))), .val (.int ((p2 &&& (1073741823 : Int32)) + (1 : Int32))), .val (.double (own_p p1 p2)), .second, .val (.ref b1), .val (.double (own_p p1 p2)), .second, .unset, .unset, .unset, .unset]) rfl ?_
    show Steps p.tables e below (T11.setTop (mkF m 35 #[.val (.int p1), .val (.int p2), .val (.int ((p1 &&& (1073741823 : Int32)) + (1 : Int32))), .val (.int ((p2 &&& (1073741823 : Int32)) + (1 : Int32))), .val (.double (own_p p1 p2)), .second, .val (.ref b1), .val (.double (own_p p1 p2)), .second, .unset, .unset, .unset, .unset] [])) _
    refine XS.aload X11.here hx rfl (hb hby at_35) rfl rfl ?_
    show Steps p.tables e below (T11.setTop (mkF m 37 #[.val (.int p1), .val (.int p2), .val (.int ((p1 &&& (1073741823 : Int32)) + (1 : Int32))), .val (.int ((p2 &&& (1073741823 : Int32)) + (1 : Int32))), .val (.double (own_p p1 p2)), .second, .val (.ref b1), .val (.double (own_p p1 p2)), .second, .unset, .unset, .unset, .unset] [(.ref b1)])) _
    refine st12.trans ?_
    show Steps p.tables e below (T12.setTop (mkF m 40 #[.val (.int p1), .val (.int p2), .val (.int ((p1 &&& (1073741823 : Int32)) + (1 : Int32))), .val (.int ((p2 &&& (1073741823 : Int32)) + (1 : Int32))), .val (.double (own_p p1 p2)), .second, .val (.ref b1), .val (.double (own_p p1 p2)), .second, .unset, .unset, .unset, .unset] [(.double (own_i (own_p p1 p2)))])) _
    refine XS.dstore X12.here hx rfl (hb hby at_40) rfl (l' := #[.val (.int p1), .val (.int p2), .val (.int ((p1 &&& (1073741823 : Int32)) + (1 : Int32))), .val (.int ((p2 &&& (1073741823 : Int32)) + (1 : Int32))), .val (.double (own_p p1 p2)), .second, .val (.ref b1), .val (.double (own_p p1 p2)), .second, .val (.double (own_i (own_p p1 p2))), .second, .unset, .unset]) rfl ?_
    show Steps p.tables e below (T12.setTop (mkF m 42 #[.val (.int p1), .val (.int p2), .val (.int ((p1 &&& (1073741823 : Int32)) + (1 : Int32))), .val (.int ((p2 &&& (1073741823 : Int32)) + (1 : Int32))), .val (.double (own_p p1 p2)), .second, .val (.ref b1), .val (.double (own_p p1 p2)), .second, .val (.double (own_i (own_p p1 p2))), .second, .unset, .unset] [])) _
    refine X12.ldc2DoubleC hx hown (mvT hZ (hw _ (List.mem_of_getElem? (i := 37) rfl))) (g := (mkF m 42 #[.val (.int p1), .val (.int p2), .val (.int ((p1 &&& (1073741823 : Int32)) + (1 : Int32))), .val (.int ((p2 &&& (1073741823 : Int32)) + (1 : Int32))), .val (.double (own_p p1 p2)), .second, .val (.ref b1), .val (.double (own_p p1 p2)), .second, .val (.double (own_i (own_p p1 p2))), .second, .unset, .unset] [])) rfl (hb hby at_42) _ ?_
    show Steps p.tables e below (T12.setTop (mkF m 45 #[.val (.int p1), .val (.int p2), .val (.int ((p1 &&& (1073741823 : Int32)) + (1 : Int32))), .val (.int ((p2 &&& (1073741823 : Int32)) + (1 : Int32))), .val (.double (own_p p1 p2)), .second, .val (.ref b1), .val (.double (own_p p1 p2)), .second, .val (.double (own_i (own_p p1 p2))), .second, .unset, .unset] [(.double (4741671816366391296 : UInt64))])) _
    refine XS.dload X12.here hx rfl (hb hby at_45) rfl ?_
    show Steps p.tables e below (T12.setTop (mkF m 47 #[.val (.int p1), .val (.int p2), .val (.int ((p1 &&& (1073741823 : Int32)) + (1 : Int32))), .val (.int ((p2 &&& (1073741823 : Int32)) + (1 : Int32))), .val (.double (own_p p1 p2)), .second, .val (.ref b1), .val (.double (own_p p1 p2)), .second, .val (.double (own_i (own_p p1 p2))), .second, .unset, .unset] [(.double (own_p p1 p2)), (.double (4741671816366391296 : UInt64))])) _
    refine XS.ddivS X12.here hx rfl (v := (own_i (own_p p1 p2))) (hb hby at_47) rfl (own_nn F5) rfl ?_
    show Steps p.tables e below (T12.setTop (mkF m 48 #[.val (.int p1), .val (.int p2), .val (.int ((p1 &&& (1073741823 : Int32)) + (1 : Int32))), .val (.int ((p2 &&& (1073741823 : Int32)) + (1 : Int32))), .val (.double (own_p p1 p2)), .second, .val (.ref b1), .val (.double (own_p p1 p2)), .second, .val (.double (own_i (own_p p1 p2))), .second, .unset, .unset] [(.double (own_i (own_p p1 p2)))])) _
    refine XS.dstore X12.here hx rfl (hb hby at_48) rfl (l' := #[.val (.int p1), .val (.int p2), .val (.int ((p1 &&& (1073741823 : Int32)) + (1 : Int32))), .val (.int ((p2 &&& (1073741823 : Int32)) + (1 : Int32))), .val (.double (own_p p1 p2)), .second, .val (.ref b1), .val (.double (own_p p1 p2)), .second, .val (.double (own_i (own_p p1 p2))), .second, .val (.double (own_i (own_p p1 p2))), .second]) rfl ?_
    show Steps p.tables e below (T12.setTop (mkF m 50 #[.val (.int p1), .val (.int p2), .val (.int ((p1 &&& (1073741823 : Int32)) + (1 : Int32))), .val (.int ((p2 &&& (1073741823 : Int32)) + (1 : Int32))), .val (.double (own_p p1 p2)), .second, .val (.ref b1), .val (.double (own_p p1 p2)), .second, .val (.double (own_i (own_p p1 p2))), .second, .val (.double (own_i (own_p p1 p2))), .second] [])) _
    refine XS.dload X12.here hx rfl (hb hby at_50) rfl ?_
    show Steps p.tables e below (T12.setTop (mkF m 52 #[.val (.int p1), .val (.int p2), .val (.int ((p1 &&& (1073741823 : Int32)) + (1 : Int32))), .val (.int ((p2 &&& (1073741823 : Int32)) + (1 : Int32))), .val (.double (own_p p1 p2)), .second, .val (.ref b1), .val (.double (own_p p1 p2)), .second, .val (.double (own_i (own_p p1 p2))), .second, .val (.double (own_i (own_p p1 p2))), .second] [(.double (own_p p1 p2))])) _
    refine XS.dload X12.here hx rfl (hb hby at_52) rfl ?_
    show Steps p.tables e below (T12.setTop (mkF m 54 #[.val (.int p1), .val (.int p2), .val (.int ((p1 &&& (1073741823 : Int32)) + (1 : Int32))), .val (.int ((p2 &&& (1073741823 : Int32)) + (1 : Int32))), .val (.double (own_p p1 p2)), .second, .val (.ref b1), .val (.double (own_p p1 p2)), .second, .val (.double (own_i (own_p p1 p2))), .second, .val (.double (own_i (own_p p1 p2))), .second] [(.double (own_p p1 p2)), (.double (own_p p1 p2))])) _
    refine XS.dcmpS X12.here hx rfl (v := (0 : Int32)) (hb hby at_54) rfl (dcmpV_self (own_nn F1) .l) ?_
    show Steps p.tables e below (T12.setTop (mkF m 55 #[.val (.int p1), .val (.int p2), .val (.int ((p1 &&& (1073741823 : Int32)) + (1 : Int32))), .val (.int ((p2 &&& (1073741823 : Int32)) + (1 : Int32))), .val (.double (own_p p1 p2)), .second, .val (.ref b1), .val (.double (own_p p1 p2)), .second, .val (.double (own_i (own_p p1 p2))), .second, .val (.double (own_i (own_p p1 p2))), .second] [(.int (0 : Int32))])) _
    refine XS.ifNo X12.here hx rfl (hb hby at_55) rfl (by decide) ?_
    show Steps p.tables e below (T12.setTop (mkF m 58 #[.val (.int p1), .val (.int p2), .val (.int ((p1 &&& (1073741823 : Int32)) + (1 : Int32))), .val (.int ((p2 &&& (1073741823 : Int32)) + (1 : Int32))), .val (.double (own_p p1 p2)), .second, .val (.ref b1), .val (.double (own_p p1 p2)), .second, .val (.double (own_i (own_p p1 p2))), .second, .val (.double (own_i (own_p p1 p2))), .second] [])) _
    refine XS.dload X12.here hx rfl (hb hby at_58) rfl ?_
    show Steps p.tables e below (T12.setTop (mkF m 60 #[.val (.int p1), .val (.int p2), .val (.int ((p1 &&& (1073741823 : Int32)) + (1 : Int32))), .val (.int ((p2 &&& (1073741823 : Int32)) + (1 : Int32))), .val (.double (own_p p1 p2)), .second, .val (.ref b1), .val (.double (own_p p1 p2)), .second, .val (.double (own_i (own_p p1 p2))), .second, .val (.double (own_i (own_p p1 p2))), .second] [(.double (own_i (own_p p1 p2)))])) _
    refine XS.dload X12.here hx rfl (hb hby at_60) rfl ?_
    show Steps p.tables e below (T12.setTop (mkF m 62 #[.val (.int p1), .val (.int p2), .val (.int ((p1 &&& (1073741823 : Int32)) + (1 : Int32))), .val (.int ((p2 &&& (1073741823 : Int32)) + (1 : Int32))), .val (.double (own_p p1 p2)), .second, .val (.ref b1), .val (.double (own_p p1 p2)), .second, .val (.double (own_i (own_p p1 p2))), .second, .val (.double (own_i (own_p p1 p2))), .second] [(.double (own_i (own_p p1 p2))), (.double (own_i (own_p p1 p2)))])) _
    refine XS.dcmpS X12.here hx rfl (v := (0 : Int32)) (hb hby at_62) rfl (dcmpV_self (own_nn F5) .l) ?_
    show Steps p.tables e below (T12.setTop (mkF m 63 #[.val (.int p1), .val (.int p2), .val (.int ((p1 &&& (1073741823 : Int32)) + (1 : Int32))), .val (.int ((p2 &&& (1073741823 : Int32)) + (1 : Int32))), .val (.double (own_p p1 p2)), .second, .val (.ref b1), .val (.double (own_p p1 p2)), .second, .val (.double (own_i (own_p p1 p2))), .second, .val (.double (own_i (own_p p1 p2))), .second] [(.int (0 : Int32))])) _
    refine XS.ifNo X12.here hx rfl (hb hby at_63) rfl (by decide) ?_
    show Steps p.tables e below (T12.setTop (mkF m 66 #[.val (.int p1), .val (.int p2), .val (.int ((p1 &&& (1073741823 : Int32)) + (1 : Int32))), .val (.int ((p2 &&& (1073741823 : Int32)) + (1 : Int32))), .val (.double (own_p p1 p2)), .second, .val (.ref b1), .val (.double (own_p p1 p2)), .second, .val (.double (own_i (own_p p1 p2))), .second, .val (.double (own_i (own_p p1 p2))), .second] [])) _
    refine XS.dconst0 X12.here hx rfl (v := FP.dconst0) (hb hby at_66) rfl ?_
    show Steps p.tables e below (T12.setTop (mkF m 67 #[.val (.int p1), .val (.int p2), .val (.int ((p1 &&& (1073741823 : Int32)) + (1 : Int32))), .val (.int ((p2 &&& (1073741823 : Int32)) + (1 : Int32))), .val (.double (own_p p1 p2)), .second, .val (.ref b1), .val (.double (own_p p1 p2)), .second, .val (.double (own_i (own_p p1 p2))), .second, .val (.double (own_i (own_p p1 p2))), .second] [(.double FP.dconst0)])) _
    refine XS.dload X12.here hx rfl (hb hby at_67) rfl ?_
    show Steps p.tables e below (T12.setTop (mkF m 69 #[.val (.int p1), .val (.int p2), .val (.int ((p1 &&& (1073741823 : Int32)) + (1 : Int32))), .val (.int ((p2 &&& (1073741823 : Int32)) + (1 : Int32))), .val (.double (own_p p1 p2)), .second, .val (.ref b1), .val (.double (own_p p1 p2)), .second, .val (.double (own_i (own_p p1 p2))), .second, .val (.double (own_i (own_p p1 p2))), .second] [(.double (own_i (own_p p1 p2))), (.double FP.dconst0)])) _
    refine XS.dcmpS X12.here hx rfl (v := (-1 : Int32)) (hb hby at_69) rfl (own_pos' F5 F6) ?_
    show Steps p.tables e below (T12.setTop (mkF m 70 #[.val (.int p1), .val (.int p2), .val (.int ((p1 &&& (1073741823 : Int32)) + (1 : Int32))), .val (.int ((p2 &&& (1073741823 : Int32)) + (1 : Int32))), .val (.double (own_p p1 p2)), .second, .val (.ref b1), .val (.double (own_p p1 p2)), .second, .val (.double (own_i (own_p p1 p2))), .second, .val (.double (own_i (own_p p1 p2))), .second] [(.int (-1 : Int32))])) _
    refine XS.ifNo X12.here hx rfl (hb hby at_70) rfl (by decide) ?_
    show Steps p.tables e below (T12.setTop (mkF m 73 #[.val (.int p1), .val (.int p2), .val (.int ((p1 &&& (1073741823 : Int32)) + (1 : Int32))), .val (.int ((p2 &&& (1073741823 : Int32)) + (1 : Int32))), .val (.double (own_p p1 p2)), .second, .val (.ref b1), .val (.double (own_p p1 p2)), .second, .val (.double (own_i (own_p p1 p2))), .second, .val (.double (own_i (own_p p1 p2))), .second] [])) _
    refine XS.iconst X12.here hx rfl (hb hby at_73) ?_
    show Steps p.tables e below (T12.setTop (mkF m 74 #[.val (.int p1), .val (.int p2), .val (.int ((p1 &&& (1073741823 : Int32)) + (1 : Int32))), .val (.int ((p2 &&& (1073741823 : Int32)) + (1 : Int32))), .val (.double (own_p p1 p2)), .second, .val (.ref b1), .val (.double (own_p p1 p2)), .second, .val (.double (own_i (own_p p1 p2))), .second, .val (.double (own_i (own_p p1 p2))), .second] [(.int (1 : Int32))])) _
    refine XS.goto X12.here hx rfl (pc0 := 74) (pc' := 78) rfl (hb hby at_74) (by decide) (by decide) ?_
    show Steps p.tables e below (T12.setTop (mkF m 78 #[.val (.int p1), .val (.int p2), .val (.int ((p1 &&& (1073741823 : Int32)) + (1 : Int32))), .val (.int ((p2 &&& (1073741823 : Int32)) + (1 : Int32))), .val (.double (own_p p1 p2)), .second, .val (.ref b1), .val (.double (own_p p1 p2)), .second, .val (.double (own_i (own_p p1 p2))), .second, .val (.double (own_i (own_p p1 p2))), .second] [(.int (1 : Int32))])) _
    exact retN X12 hx (t := .boolean) Bd.returns (by simp) (hb hby at_78) hr
  · show Q0 Z p1 p2 h0 n0 _ T12.heap _
    exact ⟨rfl, N12⟩
set_option maxRecDepth 65536 in
set_option maxHeartbeats 40000000 in
theorem comes_1 {Post : Tables → Env → Array Value → State → Outcome → State → Prop} (hpost : ∀ tb e args s v u, (limb_1_1.after args s (.returned v) u = true ∧ limb_1_2.after args s (.returned v) u = true ∧ True) → FrameEnd s (.returned v) u (Jvm.fieldLocs frame_1_writes args s ++ Jvm.arrayLocs frame_1_arrays args s ++ Jvm.staticLocs frame_1_statics s) 16 128 → Post tb e args s (.returned v) u) :
    ArmFor flags0 classFile x code maxLocals ret World_1 tables_1 room_1 Calls_1 rest_1 Pre_1 Post := by
  intro l hfl _ _ p e ha hc hk s m args below hf hA hF happ hP
  obtain ⟨hcalls, hrest, hpre⟩ := hP
  obtain ⟨-, -, -, hnamed, -, -, -, hat⟩ := (Spec.applies_iff hf).mp happ
  obtain ⟨hg, hn⟩ := and_e (Cond.before_iff.mp (show (Jvm.Cond.and given_1 narrow_1).before args s = true from hpre))
  obtain ⟨gc, gr0⟩ := and_e hg
  obtain ⟨ga0, gr1⟩ := and_e gr0
  have ga1 := gr1
  obtain ⟨w0, w1, rfl⟩ : ∃ w0 w1 : Value, args = #[w0, w1] := by
    have hs : args.size = 2 := by simpa [Cond.value, given_1] using gc
    obtain ⟨L⟩ := args
    match L, hs with
    | [w0, w1], _ => exact ⟨w0, w1, rfl⟩
  have hw := fun d (hd : d ∈ tables_1) => atoms_spec (ws := Jvm.Cond.code x code maxLocals ret :: tables_1) hat d (List.mem_cons_of_mem _ hd)
  obtain ⟨i0, ei0⟩ := is_v ga0
  obtain rfl : w0 = (.int i0) := Option.some.inj ei0
  obtain ⟨i1, ei1⟩ := is_v ga1
  obtain rfl : w1 = (.int i1) := Option.some.inj ei1
  obtain ⟨n, o, h1, h2, h3, _, L, rfl, ⟨rfl, N⟩, hq⟩ := rm0 l s _ hw tables_1 i0 i1 s.heap s.heap.size (Nat.le_refl _) p e ha hc hk s m _ below hf ((Spec.applies_iff_loose hf).mp happ).1 ⟨rfl, State.Warmed39.refl s, rfl⟩ trivial
  refine ⟨n, _, h1, h2, h3, hpost _ _ _ _ _ _ ⟨Cond.after_iff.mpr rfl, Cond.after_iff.mpr (eq_i res_at (Term.int_eval (1)) rfl), trivial⟩ ⟨hq.1, hq.2.1, (hq.2.2.sift fun y hy => Or.inr (N y hy)).mono (by decide) (by decide)⟩⟩
theorem main_1_1 : Claimed_1_1 := comes_1 fun _ _ _ _ _ _ h hF => ⟨h.1, hF⟩
theorem main_1_2 : Claimed_1_2 := comes_1 fun _ _ _ _ _ _ h hF => ⟨h.2.1, hF⟩
end Jvm.Pilot.@@N@@
namespace Jvm.Pilot.@@N@@
open Jvm Jvm.ClassFile Sem Op Lib Jvm.Free Jvm.Stand Jvm.Pilot.@@N@@.Jvm.D
/-! MADE BY PROGRAM (witnessworld.py) out of the Statement's table words and the real class files: 15 classes; the members and pool entries that the words name. The judged class is class 1, her method 1. -/
namespace start1
open Jvm.ClassFile
def u (s : String) : CpInfo := .utf8 (stringToUtf16 s)
/-- a pool by its gaps: so many unusable entries, then the entry; so many at the end -/
def gap : Nat → List CpInfo → List CpInfo
  | 0, r => r
  | n + 1, r => .unusable :: gap n r
def poolList (es : List (Nat × CpInfo)) (last : Nat) : List CpInfo := es.foldr (fun e r => gap e.1 (e.2 :: r)) (gap last [])
def pool (es : List (Nat × CpInfo)) (last : Nat) : Array CpInfo := ⟨poolList es last⟩
def fileOf (pool : Array CpInfo) (this : Nat) (attrs : Array Attribute := #[]) (ms : Array MethodInfo := #[]) (fl : Nat := 33) (sup : Nat := 0) (ifs : Array Nat := #[]) (fds : Array FieldInfo := #[]) : ClassFile where
  minorVersion := 0
  majorVersion := 65
  constantPool := pool
  accessFlags := fl
  thisClass := this
  superClass := sup
  interfaces := ifs
  fields := fds
  methods := ms
  attributes := attrs
def plain (name : String) (sup : Option ClassId) : Class where
  name := name
  kind := .ordinary
  loader := none
  accessFlags := 33
  super := sup
  interfaces := #[]
  cf := none
  fields := #[]
  methods := #[]
  instanceTypes := #[]
  staticTypes := #[]
  resolved := #[]
  callSites := []
  init := .initialized
  statics := none
  mirror := none

def pool0 : Array CpInfo := pool [(5, u "<init>"), (0, u "()V"), (1, .class_ 10), (1, u "java/lang/Object")] 113

def k0c0 : Code := { maxStack := 0, maxLocals := 1, code := object_method_1_code, exceptionTable := #[], attributes := #[] }
def k0m0 : Method := { name := "<init>", desc := "()V", sig := { parameters := [], returnType := none }, accessFlags := 1, code := some k0c0 }
/-- java/lang/Object -/
def k0 : Class := { plain "java/lang/Object" none with
  accessFlags := 33
  interfaces := #[]
  cf := some (fileOf pool0 8 #[] #[{ accessFlags := 1, nameIndex := 5, descriptorIndex := 6, attributes := #[] }] 33 0 #[] #[])
  fields := #[]
  methods := #[k0m0]
  instanceTypes := #[]
  staticTypes := #[]
  resolved := Array.replicate 124 none
  statics := none }

def pool1 : Array CpInfo := pool [(2, .class_ 4), (1, u "java/lang/Object"), (0, u "<init>"), (0, u "()V"), (0, .integer 1073741823), (0, .methodref 9 10), (0, .class_ 11), (0, .nameAndType 12 13), (0, u "com/example/measured_throttle/measuredthrottle/engine/Rate"), (0, u "of"), (0, u "(D)Lcom/example/measured_throttle/measuredthrottle/engine/Rate;"), (0, .methodref 9 15), (0, .nameAndType 16 17), (0, u "permitsPerSecond"), (0, u "()D"), (0, .methodref 9 19), (0, .nameAndType 20 17), (0, u "intervalNanos"), (0, .double 4741671816366391296), (1, .class_ 24), (0, u "com/example/measured_throttle/measuredthrottle/engine/RateOfPinLaw"), (2, u "law"), (0, u "(II)Z")] 3

def k1m0 : Method := { name := "<init>", desc := "()V", sig := { parameters := [], returnType := none }, accessFlags := 1, code := none }
def k1c1 : Code := { maxStack := 4, maxLocals := 13, code := code, exceptionTable := #[], attributes := #[] }
def k1m1 : Method := { name := "law", desc := "(II)Z", sig := { parameters := [.int, .int], returnType := some .boolean }, accessFlags := 9, code := some k1c1 }
/-- com/example/measured_throttle/measuredthrottle/engine/RateOfPinLaw -/
def k1 : Class := { plain "com/example/measured_throttle/measuredthrottle/engine/RateOfPinLaw" (some 0) with
  accessFlags := 49
  interfaces := #[]
  cf := some (fileOf pool1 23 #[] #[{ accessFlags := 1, nameIndex := 5, descriptorIndex := 6, attributes := #[] }, { accessFlags := 9, nameIndex := 27, descriptorIndex := 28, attributes := #[] }] 49 2 #[] #[])
  fields := #[]
  methods := #[k1m0, k1m1]
  instanceTypes := #[]
  staticTypes := #[]
  resolved := Array.replicate 32 none
  statics := none }

def pool2 : Array CpInfo := pool [(1, .methodref 2 3), (0, .class_ 4), (0, .nameAndType 5 6), (0, u "java/lang/Object"), (0, u "<init>"), (0, u "()V"), (0, .fieldref 8 9), (0, .class_ 10), (0, .nameAndType 11 12), (0, u "com/example/measured_throttle/measuredthrottle/engine/Rate"), (0, u "permitsPerSecond"), (0, u "D"), (0, .double 4741671816366391296), (1, .fieldref 8 16), (0, .nameAndType 17 12), (0, u "intervalNanos"), (0, .methodref 19 20), (0, .class_ 21), (0, .nameAndType 22 23), (0, u "java/lang/Double"), (0, u "isInfinite"), (0, u "(D)Z"), (9, .methodref 8 34), (0, .nameAndType 5 35), (0, u "(D)V"), (0, u "NANOS_PER_SECOND"), (3, u "of"), (0, u "(D)Lcom/example/measured_throttle/measuredthrottle/engine/Rate;"), (1, u "()D")] 17

def k2c0 : Code := { maxStack := 5, maxLocals := 3, code := prog_10_method_1_code, exceptionTable := #[], attributes := #[] }
def k2m0 : Method := { name := "<init>", desc := "(D)V", sig := { parameters := [.double], returnType := none }, accessFlags := 2, code := some k2c0 }
def k2c1 : Code := { maxStack := 4, maxLocals := 2, code := prog_10_method_2_code, exceptionTable := #[], attributes := #[] }
def k2m1 : Method := { name := "of", desc := "(D)Lcom/example/measured_throttle/measuredthrottle/engine/Rate;", sig := { parameters := [.double], returnType := some (.object "com/example/measured_throttle/measuredthrottle/engine/Rate") }, accessFlags := 8, code := some k2c1 }
def k2c2 : Code := { maxStack := 2, maxLocals := 1, code := prog_10_method_3_code, exceptionTable := #[], attributes := #[] }
def k2m2 : Method := { name := "permitsPerSecond", desc := "()D", sig := { parameters := [], returnType := some .double }, accessFlags := 0, code := some k2c2 }
def k2c3 : Code := { maxStack := 2, maxLocals := 1, code := prog_10_method_4_code, exceptionTable := #[], attributes := #[] }
def k2m3 : Method := { name := "intervalNanos", desc := "()D", sig := { parameters := [], returnType := some .double }, accessFlags := 0, code := some k2c3 }
/-- com/example/measured_throttle/measuredthrottle/engine/Rate -/
def k2 : Class := { plain "com/example/measured_throttle/measuredthrottle/engine/Rate" (some 0) with
  accessFlags := 32
  interfaces := #[]
  cf := some (fileOf pool2 8 #[] #[{ accessFlags := 2, nameIndex := 5, descriptorIndex := 35, attributes := #[] }, { accessFlags := 8, nameIndex := 40, descriptorIndex := 41, attributes := #[] }, { accessFlags := 0, nameIndex := 11, descriptorIndex := 43, attributes := #[] }, { accessFlags := 0, nameIndex := 17, descriptorIndex := 43, attributes := #[] }] 32 2 #[] #[{ accessFlags := 26, nameIndex := 36, descriptorIndex := 12, attributes := #[] }, { accessFlags := 18, nameIndex := 11, descriptorIndex := 12, attributes := #[] }, { accessFlags := 18, nameIndex := 17, descriptorIndex := 12, attributes := #[] }])
  fields := #[{ name := "NANOS_PER_SECOND", type := .double, accessFlags := 26, slot := 0, constantValue := 0 }, { name := "permitsPerSecond", type := .double, accessFlags := 18, slot := 0, constantValue := 0 }, { name := "intervalNanos", type := .double, accessFlags := 18, slot := 1, constantValue := 0 }]
  methods := #[k2m0, k2m1, k2m2, k2m3]
  instanceTypes := #[.double, .double]
  staticTypes := #[.double]
  resolved := Array.replicate 61 none
  statics := none }

def pool3 : Array CpInfo := pool [(1, .class_ 2), (0, u "java/io/Serializable"), (0, .class_ 4), (0, u "java/lang/Object")] 2

/-- java/io/Serializable -/
def k3 : Class := { plain "java/io/Serializable" (some 0) with
  accessFlags := 1537
  interfaces := #[]
  cf := some (fileOf pool3 1 #[] #[] 1537 3 #[] #[])
  fields := #[]
  methods := #[]
  instanceTypes := #[]
  staticTypes := #[]
  resolved := Array.replicate 7 none
  statics := none }

def pool4 : Array CpInfo := pool [(2, .class_ 4), (1, u "java/lang/Object"), (0, u "<init>"), (0, u "()V"), (1, .class_ 10), (1, u "java/lang/Number"), (2, .class_ 14), (0, u "java/io/Serializable"), (0, u "serialVersionUID"), (0, u "J")] 20

def k4m0 : Method := { name := "<init>", desc := "()V", sig := { parameters := [], returnType := none }, accessFlags := 1, code := none }
/-- java/lang/Number -/
def k4 : Class := { plain "java/lang/Number" (some 0) with
  accessFlags := 1057
  interfaces := #[3]
  cf := some (fileOf pool4 8 #[] #[{ accessFlags := 1, nameIndex := 5, descriptorIndex := 6, attributes := #[] }] 1057 2 #[13] #[{ accessFlags := 26, nameIndex := 15, descriptorIndex := 16, attributes := #[] }])
  fields := #[{ name := "serialVersionUID", type := .long, accessFlags := 26, slot := 0, constantValue := 0 }]
  methods := #[k4m0]
  instanceTypes := #[]
  staticTypes := #[.long]
  resolved := Array.replicate 37 none
  statics := none }

def pool5 : Array CpInfo := pool [(1, .class_ 2), (0, u "java/lang/Comparable"), (0, .class_ 4), (0, u "java/lang/Object")] 7

/-- java/lang/Comparable -/
def k5 : Class := { plain "java/lang/Comparable" (some 0) with
  accessFlags := 1537
  interfaces := #[]
  cf := some (fileOf pool5 1 #[] #[] 1537 3 #[] #[])
  fields := #[]
  methods := #[]
  instanceTypes := #[]
  staticTypes := #[]
  resolved := Array.replicate 12 none
  statics := none }

def pool6 : Array CpInfo := pool [(1, .class_ 2), (0, u "java/lang/constant/Constable"), (0, .class_ 4), (0, u "java/lang/Object")] 6

/-- java/lang/constant/Constable -/
def k6 : Class := { plain "java/lang/constant/Constable" (some 0) with
  accessFlags := 1537
  interfaces := #[]
  cf := some (fileOf pool6 1 #[] #[] 1537 3 #[] #[])
  fields := #[]
  methods := #[]
  instanceTypes := #[]
  staticTypes := #[]
  resolved := Array.replicate 11 none
  statics := none }

def pool7 : Array CpInfo := pool [(1, .class_ 2), (0, u "java/lang/constant/ConstantDesc"), (0, .class_ 4), (0, u "java/lang/Object")] 32

/-- java/lang/constant/ConstantDesc -/
def k7 : Class := { plain "java/lang/constant/ConstantDesc" (some 0) with
  accessFlags := 1537
  interfaces := #[]
  cf := some (fileOf pool7 1 #[] #[] 1537 3 #[] #[])
  fields := #[]
  methods := #[]
  instanceTypes := #[]
  staticTypes := #[]
  resolved := Array.replicate 37 none
  statics := none }

def pool8 : Array CpInfo := pool [(1, .class_ 2), (0, u "java/lang/Double"), (11, u "(D)Z"), (8, .class_ 25), (1, u "java/lang/Math"), (12, .methodref 23 39), (0, .nameAndType 40 41), (0, u "abs"), (0, u "(D)D"), (69, .double 9218868437227405311), (2, .class_ 116), (1, u "java/lang/Number"), (3, u "value"), (0, u "D"), (5, u "isInfinite"), (45, u "TYPE"), (0, u "Ljava/lang/Class;"), (0, .class_ 176), (0, u "java/lang/Comparable"), (0, .class_ 178), (0, u "java/lang/constant/Constable"), (0, .class_ 180), (0, u "java/lang/constant/ConstantDesc"), (0, u "POSITIVE_INFINITY"), (3, u "NEGATIVE_INFINITY"), (2, u "NaN"), (2, u "MAX_VALUE"), (0, u "MIN_NORMAL"), (0, u "MIN_VALUE"), (2, u "SIZE"), (0, u "I"), (1, u "PRECISION"), (1, u "MAX_EXPONENT"), (1, u "MIN_EXPONENT"), (1, u "BYTES"), (3, u "serialVersionUID"), (0, u "J")] 79

def k8c0 : Code := { maxStack := 4, maxLocals := 2, code := jdk_117_method_7_code, exceptionTable := #[], attributes := #[] }
def k8m0 : Method := { name := "isInfinite", desc := "(D)Z", sig := { parameters := [.double], returnType := some .boolean }, accessFlags := 9, code := some k8c0 }
/-- java/lang/Double -/
def k8 : Class := { plain "java/lang/Double" (some 4) with
  accessFlags := 49
  interfaces := #[5, 6, 7]
  cf := some (fileOf pool8 1 #[] #[{ accessFlags := 9, nameIndex := 127, descriptorIndex := 14, attributes := #[] }] 49 114 #[175, 177, 179] #[{ accessFlags := 25, nameIndex := 181, descriptorIndex := 121, attributes := #[] }, { accessFlags := 25, nameIndex := 185, descriptorIndex := 121, attributes := #[] }, { accessFlags := 25, nameIndex := 188, descriptorIndex := 121, attributes := #[] }, { accessFlags := 25, nameIndex := 191, descriptorIndex := 121, attributes := #[] }, { accessFlags := 25, nameIndex := 192, descriptorIndex := 121, attributes := #[] }, { accessFlags := 25, nameIndex := 193, descriptorIndex := 121, attributes := #[] }, { accessFlags := 25, nameIndex := 196, descriptorIndex := 197, attributes := #[] }, { accessFlags := 25, nameIndex := 199, descriptorIndex := 197, attributes := #[] }, { accessFlags := 25, nameIndex := 201, descriptorIndex := 197, attributes := #[] }, { accessFlags := 25, nameIndex := 203, descriptorIndex := 197, attributes := #[] }, { accessFlags := 25, nameIndex := 205, descriptorIndex := 197, attributes := #[] }, { accessFlags := 25, nameIndex := 173, descriptorIndex := 174, attributes := #[] }, { accessFlags := 18, nameIndex := 120, descriptorIndex := 121, attributes := #[] }, { accessFlags := 26, nameIndex := 209, descriptorIndex := 210, attributes := #[] }])
  fields := #[{ name := "POSITIVE_INFINITY", type := .double, accessFlags := 25, slot := 0, constantValue := 0 }, { name := "NEGATIVE_INFINITY", type := .double, accessFlags := 25, slot := 1, constantValue := 0 }, { name := "NaN", type := .double, accessFlags := 25, slot := 2, constantValue := 0 }, { name := "MAX_VALUE", type := .double, accessFlags := 25, slot := 3, constantValue := 0 }, { name := "MIN_NORMAL", type := .double, accessFlags := 25, slot := 4, constantValue := 0 }, { name := "MIN_VALUE", type := .double, accessFlags := 25, slot := 5, constantValue := 0 }, { name := "SIZE", type := .int, accessFlags := 25, slot := 6, constantValue := 0 }, { name := "PRECISION", type := .int, accessFlags := 25, slot := 7, constantValue := 0 }, { name := "MAX_EXPONENT", type := .int, accessFlags := 25, slot := 8, constantValue := 0 }, { name := "MIN_EXPONENT", type := .int, accessFlags := 25, slot := 9, constantValue := 0 }, { name := "BYTES", type := .int, accessFlags := 25, slot := 10, constantValue := 0 }, { name := "TYPE", type := (.object "java/lang/Class"), accessFlags := 25, slot := 11, constantValue := 0 }, { name := "value", type := .double, accessFlags := 18, slot := 0, constantValue := 0 }, { name := "serialVersionUID", type := .long, accessFlags := 26, slot := 12, constantValue := 0 }]
  methods := #[k8m0]
  instanceTypes := #[.double]
  staticTypes := #[.double, .double, .double, .double, .double, .double, .int, .int, .int, .int, .int, (.object "java/lang/Class"), .long]
  resolved := Array.replicate 290 none
  statics := none }

def pool9 : Array CpInfo := pool [(1, .class_ 2), (0, u "java/lang/Math"), (1, .class_ 6), (1, u "java/lang/Object"), (0, u "<init>"), (0, u "()V"), (5, u "(D)D"), (83, .class_ 100), (1, u "java/lang/Math$RandomNumberGeneratorHolder"), (23, u "abs"), (47, u "negativeZeroFloatBits"), (0, u "J"), (2, u "negativeZeroDoubleBits"), (68, u "$assertionsDisabled"), (0, u "Z"), (91, u "twoToTheDoubleScaleDown"), (0, u "D"), (4, u "twoToTheDoubleScaleUp"), (9, u "E"), (3, u "PI"), (2, u "TAU"), (2, u "DEGREES_TO_RADIANS"), (0, u "RADIANS_TO_DEGREES")] 94

def k9m0 : Method := { name := "<init>", desc := "()V", sig := { parameters := [], returnType := none }, accessFlags := 2, code := none }
def k9c1 : Code := { maxStack := 4, maxLocals := 2, code := jdk_29_method_64_code, exceptionTable := #[], attributes := #[] }
def k9m1 : Method := { name := "abs", desc := "(D)D", sig := { parameters := [.double], returnType := some .double }, accessFlags := 9, code := some k9c1 }
/-- java/lang/Math -/
def k9 : Class := { plain "java/lang/Math" (some 0) with
  accessFlags := 49
  interfaces := #[]
  cf := some (fileOf pool9 1 #[.nestMembers #[98]] #[{ accessFlags := 2, nameIndex := 7, descriptorIndex := 8, attributes := #[] }, { accessFlags := 9, nameIndex := 124, descriptorIndex := 14, attributes := #[] }] 49 4 #[] #[{ accessFlags := 25, nameIndex := 354, descriptorIndex := 339, attributes := #[] }, { accessFlags := 25, nameIndex := 358, descriptorIndex := 339, attributes := #[] }, { accessFlags := 25, nameIndex := 361, descriptorIndex := 339, attributes := #[] }, { accessFlags := 26, nameIndex := 364, descriptorIndex := 339, attributes := #[] }, { accessFlags := 26, nameIndex := 365, descriptorIndex := 339, attributes := #[] }, { accessFlags := 26, nameIndex := 172, descriptorIndex := 173, attributes := #[] }, { accessFlags := 26, nameIndex := 176, descriptorIndex := 173, attributes := #[] }, { accessFlags := 8, nameIndex := 344, descriptorIndex := 339, attributes := #[] }, { accessFlags := 8, nameIndex := 338, descriptorIndex := 339, attributes := #[] }, { accessFlags := 4120, nameIndex := 245, descriptorIndex := 246, attributes := #[] }])
  fields := #[{ name := "E", type := .double, accessFlags := 25, slot := 0, constantValue := 0 }, { name := "PI", type := .double, accessFlags := 25, slot := 1, constantValue := 0 }, { name := "TAU", type := .double, accessFlags := 25, slot := 2, constantValue := 0 }, { name := "DEGREES_TO_RADIANS", type := .double, accessFlags := 26, slot := 3, constantValue := 0 }, { name := "RADIANS_TO_DEGREES", type := .double, accessFlags := 26, slot := 4, constantValue := 0 }, { name := "negativeZeroFloatBits", type := .long, accessFlags := 26, slot := 5, constantValue := 0 }, { name := "negativeZeroDoubleBits", type := .long, accessFlags := 26, slot := 6, constantValue := 0 }, { name := "twoToTheDoubleScaleUp", type := .double, accessFlags := 8, slot := 7, constantValue := 0 }, { name := "twoToTheDoubleScaleDown", type := .double, accessFlags := 8, slot := 8, constantValue := 0 }, { name := "$assertionsDisabled", type := .boolean, accessFlags := 4120, slot := 9, constantValue := 0 }]
  methods := #[k9m0, k9m1]
  instanceTypes := #[]
  staticTypes := #[.double, .double, .double, .double, .double, .long, .long, .double, .double, .boolean]
  resolved := Array.replicate 460 none
  statics := none }

def pool10 : Array CpInfo := pool [(1, u "java/lang/Cloneable"), (0, .class_ 1), (0, u "java/lang/Object"), (0, .class_ 3)] 3

/-- java/lang/Cloneable -/
def k10 : Class := { plain "java/lang/Cloneable" (some 0) with
  accessFlags := 1537
  interfaces := #[]
  cf := some (fileOf pool10 2 #[] #[] 1537 4 #[] #[])
  fields := #[]
  methods := #[]
  instanceTypes := #[]
  staticTypes := #[]
  resolved := Array.replicate 8 none
  statics := none }

/-- the primitive byte -/
def k11 : Class := { plain "byte" none with kind := .primitive 'B', accessFlags := 0x411 }
/-- [B -/
def k12 : Class := { plain "[B" (some 0) with kind := .array 11 .byte, interfaces := #[10, 3], accessFlags := 1041 }

/-- the primitive int -/
def k13 : Class := { plain "int" none with kind := .primitive 'I', accessFlags := 0x411 }
/-- [I -/
def k14 : Class := { plain "[I" (some 0) with kind := .array 13 .int, interfaces := #[10, 3], accessFlags := 1041 }

def heap : Heap := #[]
def classes : Array Class := #[k0, k1, k2, k3, k4, k5, k6, k7, k8, k9, k10, k11, k12, k13, k14]
def interned : List (Array UInt16 × Addr) := []
def slotsUsed : Nat := 0
def theMethod : MethodId := ⟨1, 1⟩
def args0 : Array Value := #[.int 5, .int 5]
def aboutOver (below : List Frame) : State where
  vm := { classes := classes, interned := interned.toArray }
  heap := heap
  slotsUsed := slotsUsed
  threads := #[{ frames := .invoking theMethod args0 :: below }]
def below0 : List Frame := [.native { method := ⟨0, 0⟩, args := #[] }]
def about1 : State := aboutOver below0
def p0 : Program := .bare "" "" ""
def e0 : Env := launch0.env 0 0 0
theorem w_frames : about1.frames = Frame.invoking theMethod args0 :: below0 := rfl
set_option maxRecDepth 65536 in
theorem w_args : argsFit about1.vm theMethod args0 = true := by decide +kernel
set_option maxRecDepth 65536 in
theorem w_heap : heapFits about1 = true := by decide +kernel
set_option maxRecDepth 65536 in
theorem w_runnable : about1.curStatus? = some .runnable := by decide +kernel
set_option maxRecDepth 65536 in
theorem w_alone : about1.alone = true := by decide +kernel
set_option maxRecDepth 65536 in
theorem w_named : about1.methodNamed? x = some theMethod := by decide +kernel
set_option maxRecDepth 65536 in
theorem w_hears : about1.hears theMethod below0 = true := by decide +kernel
set_option maxRecDepth 65536 in
theorem w_ripe : about1.ripe theMethod args0 below0 = true := by decide +kernel
theorem w_running : about1.status = .running := rfl
set_option maxRecDepth 65536 in
theorem w_room : about1.hasRoom e0.platform room_1 = true :=
  launch0.hasRoom_least _ room_1 (by decide +kernel) (by decide +kernel) (by decide +kernel) (by decide +kernel) (by decide +kernel) (by decide +kernel)
theorem allAtoms_all (ts : List Jvm.Cond) (a : Array Jvm.Value) (st : Jvm.State) : (allAtoms ts).before a st = ts.all (fun c => c.before a st) := by
  induction ts with
  | nil => rfl
  | cons c t ih =>
    show (Jvm.Cond.and c (allAtoms t)).before a st = _
    rw [Jvm.Cond.before_and, ih, List.all_cons]
def words1 : List Jvm.Cond := Jvm.Cond.code x code maxLocals ret :: tables_1
/-- a 'code' word, met by the world's own term for the bytes: nothing is compared byte by byte -/
theorem code_word {y : MethodName} {bytes : ByteArray} {mx : Nat} {rt : Option FieldType} {a : Array Value} {s : State} {m : MethodId} {meth : Method} {c : Code} (h1 : s.methodNamed? y = some m) (h2 : s.vm.method? m = some meth) (h3 : meth.code = some c) (h4 : c.code = bytes)
    (h5 : (c.maxLocals == mx && c.exceptionTable.isEmpty && decide (c.maxStack ≤ mostOperands) && decide (meth.sig.returnType = rt) && !meth.locks && decide (parseMethodDescriptor y.desc = some meth.sig)) = true) : (Jvm.Cond.code y bytes mx rt).before a s = true := by
  simp only [Bool.and_eq_true, beq_iff_eq, Bool.not_eq_true', decide_eq_true_eq] at h5
  obtain ⟨⟨⟨⟨⟨g1, g2⟩, g3⟩, g4⟩, g5⟩, g6⟩ := h5
  simp [Cond.before, Cond.holds, Cond.value, h1, h2, h3, h4, g1, g2, g3, g4, g5, g6]
def isCode : Jvm.Cond → Bool
  | .code _ _ _ _ => true
  | _ => false
theorem all_split {L : List Jvm.Cond} {P : Jvm.Cond → Bool} (h1 : L.all (fun c => isCode c || P c) = true) (h2 : ∀ c ∈ L.filter isCode, P c = true) : L.all P = true := by
  refine List.all_eq_true.mpr fun c hc => ?_
  have h := List.all_eq_true.mp h1 c hc
  rcases Bool.eq_false_or_eq_true (isCode c) with hi | hi
  · exact h2 c (List.mem_filter.mpr ⟨hc, hi⟩)
  · simpa [hi] using h
set_option maxRecDepth 65536 in
theorem w_c0 : (Jvm.Cond.code x code maxLocals ret).before args0 about1 = true := code_word (m := ⟨1, 1⟩) (meth := k1m1) (c := k1c1) (by decide +kernel) rfl rfl rfl (by decide +kernel)
set_option maxRecDepth 65536 in
theorem w_c1 : (Jvm.Cond.code ({ cls := "com/example/measured_throttle/measuredthrottle/engine/Rate", name := "of", desc := "(D)Lcom/example/measured_throttle/measuredthrottle/engine/Rate;" } : Jvm.MethodName) prog_10_method_2_code (2 : Nat) (Option.some (Jvm.ClassFile.FieldType.object "com/example/measured_throttle/measuredthrottle/engine/Rate"))).before args0 about1 = true := code_word (m := ⟨2, 1⟩) (meth := k2m1) (c := k2c1) (by decide +kernel) rfl rfl rfl (by decide +kernel)
set_option maxRecDepth 65536 in
theorem w_c2 : (Jvm.Cond.code ({ cls := "java/lang/Double", name := "isInfinite", desc := "(D)Z" } : Jvm.MethodName) jdk_117_method_7_code (2 : Nat) (Option.some Jvm.ClassFile.FieldType.boolean)).before args0 about1 = true := code_word (m := ⟨8, 0⟩) (meth := k8m0) (c := k8c0) (by decide +kernel) rfl rfl rfl (by decide +kernel)
set_option maxRecDepth 65536 in
theorem w_c3 : (Jvm.Cond.code ({ cls := "java/lang/Math", name := "abs", desc := "(D)D" } : Jvm.MethodName) jdk_29_method_64_code (2 : Nat) (Option.some Jvm.ClassFile.FieldType.double)).before args0 about1 = true := code_word (m := ⟨9, 1⟩) (meth := k9m1) (c := k9c1) (by decide +kernel) rfl rfl rfl (by decide +kernel)
set_option maxRecDepth 65536 in
theorem w_c4 : (Jvm.Cond.code ({ cls := "com/example/measured_throttle/measuredthrottle/engine/Rate", name := "<init>", desc := "(D)V" } : Jvm.MethodName) prog_10_method_1_code (3 : Nat) (Option.none : Option Jvm.ClassFile.FieldType)).before args0 about1 = true := code_word (m := ⟨2, 0⟩) (meth := k2m0) (c := k2c0) (by decide +kernel) rfl rfl rfl (by decide +kernel)
set_option maxRecDepth 65536 in
theorem w_c5 : (Jvm.Cond.code ({ cls := "java/lang/Object", name := "<init>", desc := "()V" } : Jvm.MethodName) object_method_1_code (1 : Nat) (Option.none : Option Jvm.ClassFile.FieldType)).before args0 about1 = true := code_word (m := ⟨0, 0⟩) (meth := k0m0) (c := k0c0) (by decide +kernel) rfl rfl rfl (by decide +kernel)
set_option maxRecDepth 65536 in
theorem w_c6 : (Jvm.Cond.code ({ cls := "com/example/measured_throttle/measuredthrottle/engine/Rate", name := "permitsPerSecond", desc := "()D" } : Jvm.MethodName) prog_10_method_3_code (1 : Nat) (Option.some Jvm.ClassFile.FieldType.double)).before args0 about1 = true := code_word (m := ⟨2, 2⟩) (meth := k2m2) (c := k2c2) (by decide +kernel) rfl rfl rfl (by decide +kernel)
set_option maxRecDepth 65536 in
theorem w_c7 : (Jvm.Cond.code ({ cls := "com/example/measured_throttle/measuredthrottle/engine/Rate", name := "intervalNanos", desc := "()D" } : Jvm.MethodName) prog_10_method_4_code (1 : Nat) (Option.some Jvm.ClassFile.FieldType.double)).before args0 about1 = true := code_word (m := ⟨2, 3⟩) (meth := k2m3) (c := k2c3) (by decide +kernel) rfl rfl rfl (by decide +kernel)
def codes1 : List Jvm.Cond := [Jvm.Cond.code x code maxLocals ret, Jvm.Cond.code ({ cls := "com/example/measured_throttle/measuredthrottle/engine/Rate", name := "of", desc := "(D)Lcom/example/measured_throttle/measuredthrottle/engine/Rate;" } : Jvm.MethodName) prog_10_method_2_code (2 : Nat) (Option.some (Jvm.ClassFile.FieldType.object "com/example/measured_throttle/measuredthrottle/engine/Rate")), Jvm.Cond.code ({ cls := "java/lang/Double", name := "isInfinite", desc := "(D)Z" } : Jvm.MethodName) jdk_117_method_7_code (2 : Nat) (Option.some Jvm.ClassFile.FieldType.boolean), Jvm.Cond.code ({ cls := "java/lang/Math", name := "abs", desc := "(D)D" } : Jvm.MethodName) jdk_29_method_64_code (2 : Nat) (Option.some Jvm.ClassFile.FieldType.double), Jvm.Cond.code ({ cls := "com/example/measured_throttle/measuredthrottle/engine/Rate", name := "<init>", desc := "(D)V" } : Jvm.MethodName) prog_10_method_1_code (3 : Nat) (Option.none : Option Jvm.ClassFile.FieldType), Jvm.Cond.code ({ cls := "java/lang/Object", name := "<init>", desc := "()V" } : Jvm.MethodName) object_method_1_code (1 : Nat) (Option.none : Option Jvm.ClassFile.FieldType), Jvm.Cond.code ({ cls := "com/example/measured_throttle/measuredthrottle/engine/Rate", name := "permitsPerSecond", desc := "()D" } : Jvm.MethodName) prog_10_method_3_code (1 : Nat) (Option.some Jvm.ClassFile.FieldType.double), Jvm.Cond.code ({ cls := "com/example/measured_throttle/measuredthrottle/engine/Rate", name := "intervalNanos", desc := "()D" } : Jvm.MethodName) prog_10_method_4_code (1 : Nat) (Option.some Jvm.ClassFile.FieldType.double)]
set_option maxRecDepth 65536 in
theorem codes_eq : words1.filter isCode = codes1 := rfl
theorem w_codes : ∀ c ∈ words1.filter isCode, c.before args0 about1 = true := by
  rw [codes_eq]
  intro c hc
  simp only [codes1, List.mem_cons, List.not_mem_nil, or_false] at hc
  rcases hc with rfl | rfl | rfl | rfl | rfl | rfl | rfl | rfl
  · exact w_c0
  · exact w_c1
  · exact w_c2
  · exact w_c3
  · exact w_c4
  · exact w_c5
  · exact w_c6
  · exact w_c7
set_option maxRecDepth 65536 in
theorem w_t1 : (words1.take 24).all (fun c => isCode c || c.before args0 about1) = true := by decide +kernel
set_option maxRecDepth 65536 in
theorem w_t2 : (words1.drop 24).all (fun c => isCode c || c.before args0 about1) = true := by decide +kernel
theorem w_tables : (allAtoms (Jvm.Cond.code x code maxLocals ret :: tables_1)).before args0 about1 = true := by
  rw [allAtoms_all]
  show words1.all (fun c => c.before args0 about1) = true
  refine all_split ?_ w_codes
  rw [← List.take_append_drop 24 words1, List.all_append, w_t1, w_t2]
  rfl
set_option maxRecDepth 65536 in
theorem w_case : (Jvm.Cond.and given_1 narrow_1).before args0 about1 = true := by decide +kernel
theorem w_applies : (headSpec (Jvm.Cond.code x code maxLocals ret :: tables_1) room_1).applies x e0.platform about1 = true :=
  (Spec.applies_iff w_frames).mpr ⟨w_running, w_runnable, w_alone, w_named, w_hears, w_ripe, w_room, w_tables⟩
theorem atStart : AtStart classFile x code maxLocals ret World_1 tables_1 room_1 Calls_1 rest_1 Pre_1 launch0 p0 e0 about1 theMethod args0 below0 :=
  ⟨lists_1, trivial, launch0.admits_env _ _ _, launch0.least_env, fairChoices_fair.cas, fairChoices_fair.clock, w_frames, w_args, w_heap, w_applies, trivial, trivial, w_case⟩
end start1
theorem witness_1 : WitnessClaimed_1 := ⟨start1.p0, start1.e0, start1.about1, start1.theMethod, start1.args0, start1.below0, start1.atStart⟩
end Jvm.Pilot.@@N@@
