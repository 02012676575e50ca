import JvmDerived
import JvmDerived.Pilot.@@N@@Statement
import JvmDerived.Pilot.@@N@@Code
set_option linter.unusedVariables false
set_option linter.unusedSimpArgs false
@@BLOCK:NumsL.lean.txt@@
namespace Jvm.Pilot.@@N@@
section OwnFl
open Jvm Jvm.FP Jvm.FP.Core Jvm.Free.Fl Jvm.Op
/-- a double's worth, in units of the least double -/
def own_zv (x : UInt64) : Int := zval b64 (val64 x)
/-- a worth that a finite double has -/
def own_rep (z : Int) : Prop := ∃ V, Core.fits b64 V ∧ (∃ s c q, V = .fin s c q) ∧ zval b64 V = z
theorem own_fin_ne {x : UInt64} (h : DFin x) : val64 x ≠ .nan := by
  obtain ⟨s, c, q, h⟩ := h; rw [h]; exact Datum.noConfusion
theorem own_nn {x : UInt64} (h : DFin x) : NoNaN64 x := val64_no.mpr (own_fin_ne h)
theorem own_rep_of {x : UInt64} (h : DFin x) : own_rep (own_zv x) := ⟨_, val64_fits x, h, rfl⟩
theorem own_rep_mk (s : Bool) {c k : Nat} (hc : c < 2 ^ 53) (hk : k ≤ 2045) : own_rep (signed s (c * 2 ^ k)) := by
  obtain ⟨c', q', h1, h2⟩ := round_exact (f := b64) good_b64 s (c := c) (q := (k : Int) - 1074) hc (by rw [qmin_b64]; omega)
    (by rw [show b64.qmax = 971 from by decide]; omega)
  refine ⟨_, round_fits good_b64 (.fin s c ((k : Int) - 1074)), ⟨_, _, _, h1⟩, ?_⟩
  rw [h1]
  show signed s (inUnits c' q' b64.qmin) = _
  rw [h2]
  unfold inUnits
  rw [qmin_b64, show ((k : Int) - 1074 - -1074).toNat = k by omega]
theorem own_rep_nat {c k : Nat} (hc : c < 2 ^ 53) (hk : k ≤ 2045) : own_rep ((c : Int) * ((2 ^ k : Nat) : Int)) := by
  have := own_rep_mk false hc hk
  simp only [signed, Bool.false_eq_true, if_false] at this
  rw [Int.natCast_mul] at this; exact this
theorem own_rep_neg {z : Int} (h : own_rep z) : own_rep (-z) := by
  obtain ⟨V, h1, ⟨s, c, q, rfl⟩, h3⟩ := h
  exact ⟨negate (.fin s c q), negate_fits h1, ⟨_, _, _, rfl⟩, by rw [zval_negate, h3]⟩
theorem own_rep_int {i : Int} {k : Nat} (hi : i.natAbs < 2 ^ 53) (hk : k ≤ 2045) : own_rep (i * ((2 ^ k : Nat) : Int)) := by
  have := own_rep_nat hi hk
  rcases Int.natAbs_eq i with h | h
  · rw [h]; exact this
  · rw [h, Int.neg_mul]; exact own_rep_neg this
theorem own_top {z : Int} (h : own_rep z) : z < ((b64.tails * 2 ^ (b64.exps - 2) : Nat) : Int) ∧ -((b64.tails * 2 ^ (b64.exps - 2) : Nat) : Int) < z := by
  obtain ⟨V, h1, ⟨s, c, q, rfl⟩, rfl⟩ := h
  have h2 := zmag_lt_top good_b64 h1
  show signed s (inUnits c q b64.qmin) < _ ∧ _ < signed s (inUnits c q b64.qmin)
  generalize b64.tails * 2 ^ (b64.exps - 2) = K at *
  generalize inUnits c q b64.qmin = k at *
  cases s <;> simp only [signed, if_true, Bool.false_eq_true, if_false] <;> constructor <;> omega
/-- no NaN and between two finite worths: finite -/
theorem own_fin_of {x : UInt64} (hn : val64 x ≠ .nan) {lo hi : Int} (hl : own_rep lo) (hh : own_rep hi) (h1 : lo ≤ own_zv x) (h2 : own_zv x ≤ hi) : DFin x := by
  have a := (own_top hl).2
  have b := (own_top hh).1
  unfold own_zv at h1 h2
  cases hv : val64 x with
  | nan => exact absurd hv hn
  | fin s c q => exact ⟨s, c, q, hv⟩
  | inf s =>
    exfalso
    rw [hv] at h1 h2
    simp only [zval, sgn, zmag] at h1 h2
    generalize b64.tails * 2 ^ (b64.exps - 2) = K at *
    cases s <;> simp only [signed, if_true, Bool.false_eq_true, if_false] at h1 h2 <;> omega
theorem own_cmp {x y : UInt64} (hx : DFin x) (hy : DFin y) : FP.dcmp x y = some (compare (own_zv x) (own_zv y)) :=
  order_zval good_b64 (val64_fits x) (val64_fits y) (own_fin_ne hx) (own_fin_ne hy)
theorem own_cmp_lt {x y : UInt64} (hx : DFin x) (hy : DFin y) (h : own_zv x < own_zv y) : FP.dcmp x y = some .lt := by
  rw [own_cmp hx hy, compare_ite, if_pos h]
theorem own_cmp_eq {x y : UInt64} (hx : DFin x) (hy : DFin y) (h : own_zv x = own_zv y) : FP.dcmp x y = some .eq := by
  rw [own_cmp hx hy, compare_ite, if_neg (by omega), if_pos h]
theorem own_cmp_gt {x y : UInt64} (hx : DFin x) (hy : DFin y) (h : own_zv y < own_zv x) : FP.dcmp x y = some .gt := by
  rw [own_cmp hx hy, compare_ite, if_neg (by omega), if_neg (by omega)]
theorem own_v_lt {x y : UInt64} (h : FP.dcmp x y = some .lt) (o : ClassFile.CmpOp) : cmpValue (FP.dcmp x y) o = -1 := by rw [h]; rfl
theorem own_v_eq {x y : UInt64} (h : FP.dcmp x y = some .eq) (o : ClassFile.CmpOp) : cmpValue (FP.dcmp x y) o = 0 := by rw [h]; rfl
theorem own_v_gt {x y : UInt64} (h : FP.dcmp x y = some .gt) (o : ClassFile.CmpOp) : cmpValue (FP.dcmp x y) o = 1 := by rw [h]; rfl
/-! sums -/
theorem own_round_ne (d : Datum) (h : d ≠ .nan) : round b64 d ≠ .nan := by
  cases d with
  | nan => exact absurd rfl h
  | inf s => exact Datum.noConfusion
  | fin s c q => exact roundRatio_ne_nan _ _ _ _ _
theorem own_add {x y : UInt64} (hx : DFin x) (hy : DFin y) {lo hi : Int} (hl : own_rep lo) (hh : own_rep hi) (h1 : lo ≤ own_zv x + own_zv y) (h2 : own_zv x + own_zv y ≤ hi) :
    DFin (FP.dadd x y) ∧ lo ≤ own_zv (FP.dadd x y) ∧ own_zv (FP.dadd x y) ≤ hi := by
  have e : val64 (FP.dadd x y) = round b64 (exactSum (val64 x) (val64 y)) := val64_dadd x y
  have hn : val64 (FP.dadd x y) ≠ .nan := by
    rw [e]; apply own_round_ne
    obtain ⟨s, c, q, hx⟩ := hx; obtain ⟨t, d, r, hy⟩ := hy
    rw [hx, hy]; exact Datum.noConfusion
  obtain ⟨Vl, a1, ⟨_, _, _, a2⟩, rfl⟩ := id hl
  obtain ⟨Vh, b1, ⟨_, _, _, b2⟩, rfl⟩ := id hh
  have g1 : zval b64 Vl ≤ own_zv (FP.dadd x y) := by
    unfold own_zv; rw [e]; exact sum_ge good_b64 hx hy (val64_fits x) (val64_fits y) a1 (by rw [a2]; exact Datum.noConfusion) h1
  have g2 : own_zv (FP.dadd x y) ≤ zval b64 Vh := by
    unfold own_zv; rw [e]; exact sum_le good_b64 hx hy (val64_fits x) (val64_fits y) b1 (by rw [b2]; exact Datum.noConfusion) h2
  exact ⟨own_fin_of hn hl hh g1 g2, g1, g2⟩
theorem own_add_eq {x y : UInt64} (hx : DFin x) (hy : DFin y) (hr : own_rep (own_zv x + own_zv y)) : DFin (FP.dadd x y) ∧ own_zv (FP.dadd x y) = own_zv x + own_zv y := by
  obtain ⟨a, b, c⟩ := own_add hx hy hr hr (Int.le_refl _) (Int.le_refl _)
  exact ⟨a, Int.le_antisymm c b⟩
theorem own_neg_fin {x : UInt64} (h : DFin x) : DFin (FP.dneg x) ∧ own_zv (FP.dneg x) = -own_zv x := by
  have e : val64 (FP.dneg x) = negate (val64 x) := FP.val64_dneg x
  unfold own_zv DFin
  rw [e, zval_negate]
  obtain ⟨s, c, q, h⟩ := h
  exact ⟨⟨_, _, _, by rw [h]; rfl⟩, rfl⟩
theorem own_sub {x y : UInt64} (hx : DFin x) (hy : DFin y) {lo hi : Int} (hl : own_rep lo) (hh : own_rep hi) (h1 : lo ≤ own_zv x - own_zv y) (h2 : own_zv x - own_zv y ≤ hi) :
    DFin (FP.dsub x y) ∧ lo ≤ own_zv (FP.dsub x y) ∧ own_zv (FP.dsub x y) ≤ hi := by
  obtain ⟨n1, n2⟩ := own_neg_fin hy
  have e : FP.dsub x y = FP.dadd x (FP.dneg y) := by
    rw [show FP.dneg y = Core.dneg y from dneg_core (noNaN64_no.mp (own_nn hy))]; exact dsub_eq x y
  rw [e]
  exact own_add hx n1 hl hh (by rw [n2]; omega) (by rw [n2]; omega)
/-! products -/
theorem own_pow_U : (b64.qmin - 2 * b64.qmin).toNat = 1074 := by decide
theorem own_mul {x y : UInt64} (hx : DFin x) (hy : DFin y) {lo hi : Int} (hl : own_rep lo) (hh : own_rep hi) (h1 : lo * ((2 ^ 1074 : Nat) : Int) ≤ own_zv x * own_zv y) (h2 : own_zv x * own_zv y ≤ hi * ((2 ^ 1074 : Nat) : Int)) :
    DFin (FP.dmul x y) ∧ lo ≤ own_zv (FP.dmul x y) ∧ own_zv (FP.dmul x y) ≤ hi := by
  have e : val64 (FP.dmul x y) = round b64 (exactProduct (val64 x) (val64 y)) := val64_dmul x y
  have fx := val64_fits x
  have fy := val64_fits y
  unfold own_zv at h1 h2
  obtain ⟨s, c, q, ex⟩ := hx
  obtain ⟨t, d, r, ey⟩ := hy
  rw [ex] at fx e h1 h2
  rw [ey] at fy e h1 h2
  obtain ⟨p1, p2, p3⟩ := product_units fx fy
  rw [p1] at e
  have hn : val64 (FP.dmul x y) ≠ .nan := by rw [e]; exact roundRatio_ne_nan _ _ _ _ _
  have hv : signed (s != t) (inUnits (c * d) (q + r) (2 * b64.qmin)) = zval b64 (.fin s c q) * zval b64 (.fin t d r) := by
    rw [p3, signed_xor]; rfl
  obtain ⟨Vl, a1, ⟨_, _, _, a2⟩, rfl⟩ := id hl
  obtain ⟨Vh, b1, ⟨_, _, _, b2⟩, rfl⟩ := id hh
  have hq := qmin_neg good_b64
  have g1 : zval b64 Vl ≤ own_zv (FP.dmul x y) := by
    unfold own_zv; rw [e]
    exact zval_round_ge good_b64 a1 (by rw [a2]; exact Datum.noConfusion) (by omega) p2 (by rw [hv, own_pow_U]; exact h1)
  have g2 : own_zv (FP.dmul x y) ≤ zval b64 Vh := by
    unfold own_zv; rw [e]
    exact zval_round_le good_b64 b1 (by rw [b2]; exact Datum.noConfusion) (by omega) p2 (by rw [hv, own_pow_U]; exact h2)
  exact ⟨own_fin_of hn hl hh g1 g2, g1, g2⟩
theorem own_mul_eq {x y : UInt64} (hx : DFin x) (hy : DFin y) {z : Int} (hr : own_rep z) (h : own_zv x * own_zv y = z * ((2 ^ 1074 : Nat) : Int)) : DFin (FP.dmul x y) ∧ own_zv (FP.dmul x y) = z := by
  obtain ⟨a, b, c⟩ := own_mul hx hy hr hr (Int.le_of_eq h.symm) (Int.le_of_eq h)
  exact ⟨a, Int.le_antisymm c b⟩
/-! quotients of a number from nought on by one above nought -/
theorem own_div {x y : UInt64} (hx : DFin x) (hy : DFin y) (px : 0 ≤ own_zv x) (sx : sgn (val64 x) = false) (py : 0 < own_zv y) {lo hi : Int} (hl : own_rep lo) (hh : own_rep hi) (l0 : 0 ≤ lo) (h1 : lo * own_zv y ≤ own_zv x * ((2 ^ 1074 : Nat) : Int)) (h2 : own_zv x * ((2 ^ 1074 : Nat) : Int) ≤ hi * own_zv y) :
    DFin (FP.ddiv x y) ∧ lo ≤ own_zv (FP.ddiv x y) ∧ own_zv (FP.ddiv x y) ≤ hi ∧ sgn (val64 (FP.ddiv x y)) = false := by
  have e : val64 (FP.ddiv x y) = quotient b64 (val64 x) (val64 y) := val64_ddiv x y
  have fx := val64_fits x
  have fy := val64_fits y
  unfold own_zv at h1 h2 px py
  obtain ⟨s, c, q, ex⟩ := hx
  obtain ⟨t, d, r, ey⟩ := hy
  rw [ex] at fx e h1 h2 px sx
  rw [ey] at fy e h1 h2 py
  obtain rfl : s = false := sx
  have hpos : t = false ∧ 0 < d := by
    simp only [zval, sgn, zmag] at py
    cases t
    · refine ⟨rfl, ?_⟩
      rcases Nat.eq_zero_or_pos d with h | h
      · subst h; simp [signed, inUnits] at py
      · exact h
    · simp only [signed, if_true] at py; omega
  obtain ⟨rfl, hd⟩ := hpos
  have e2 : val64 (FP.ddiv x y) = roundRatio b64 false c d (q - r) := by
    rw [e]; simp only [quotient]; rw [if_neg (by omega)]; rfl
  have hn : val64 (FP.ddiv x y) ≠ .nan := by rw [e2]; exact roundRatio_ne_nan _ _ _ _ _
  have hs : sgn (val64 (FP.ddiv x y)) = false := by rw [e2]; exact sgn_roundRatio _ _ _ _ _
  have hzz : own_zv (FP.ddiv x y) = (zmag b64 (roundRatio b64 false c d (q - r)) : Int) := by
    unfold own_zv zval; rw [hs, e2]; rfl
  have q1 := fx.2.1; have q2 := fx.2.2.1; have r1 := fy.2.1; have r2 := fy.2.2.1
  rw [qmin_b64] at q1 r1
  rw [show b64.qmax = 971 from by decide] at q2 r2
  have k1 : zval b64 (.fin false c q) = ((c * 2 ^ (q + 1074).toNat : Nat) : Int) := by
    show ((inUnits c q b64.qmin : Nat) : Int) = _
    unfold inUnits; rw [qmin_b64, show (q - -1074).toNat = (q + 1074).toNat by omega]
  have k2 : zval b64 (.fin false d r) = ((d * 2 ^ (r + 1074).toNat : Nat) : Int) := by
    show ((inUnits d r b64.qmin : Nat) : Int) = _
    unfold inUnits; rw [qmin_b64, show (r - -1074).toNat = (r + 1074).toNat by omega]
  rw [k1, k2] at h1 h2
  have key : ∀ M : Nat, (inUnits c (q - r) (-4096) * 2 ^ (r + 1074).toNat = c * 2 ^ (q + 1074).toNat * 2 ^ 1074 * 2 ^ 1948 * 2 ^ 1074) ∧ (M * 2 ^ (b64.qmin - -4096).toNat * d * 2 ^ (r + 1074).toNat = M * (d * 2 ^ (r + 1074).toNat) * 2 ^ 1074 * 2 ^ 1948) := by
    intro M
    unfold inUnits
    refine ⟨?_, ?_⟩
    · rw [Nat.mul_assoc, ← Nat.pow_add, Nat.mul_assoc, Nat.mul_assoc, Nat.mul_assoc, ← Nat.pow_add, ← Nat.pow_add, ← Nat.pow_add]
      congr 2; omega
    · rw [show (b64.qmin - -4096).toNat = 1074 + 1948 from by decide, Nat.pow_add]
      generalize 2 ^ 1074 = a; generalize 2 ^ 1948 = b; generalize 2 ^ (r + 1074).toNat = w
      ac_rfl
  obtain ⟨Vl, a1, ⟨_, _, _, a2⟩, al⟩ := id hl
  obtain ⟨Vh, b1, ⟨_, _, _, b2⟩, bl⟩ := id hh
  have m1 : (zmag b64 Vl : Int) = lo ∨ (zmag b64 Vl : Int) = -lo := by
    rw [← al]; unfold zval; cases sgn Vl <;> simp [signed]
  have hi0 : 0 ≤ hi := by
    refine Int.not_lt.mp fun hneg => ?_
    have hw : (0 : Int) < ((d * 2 ^ (r + 1074).toNat : Nat) : Int) := by have := Nat.mul_pos hd (Nat.two_pow_pos (r + 1074).toNat); omega
    have := Int.mul_neg_of_neg_of_pos hneg hw
    have h0 : (0 : Int) ≤ ((c * 2 ^ (q + 1074).toNat : Nat) : Int) * ((2 ^ 1074 : Nat) : Int) := Int.mul_nonneg (Int.natCast_nonneg _) (Int.natCast_nonneg _)
    omega
  have m2 : (zmag b64 Vh : Int) = hi := by
    have : (zmag b64 Vh : Int) = hi ∨ (zmag b64 Vh : Int) = -hi := by
      rw [← bl]; unfold zval; cases sgn Vh <;> simp [signed]
    omega
  have m1' : (zmag b64 Vl : Int) = lo := by omega
  have g1 : zmag b64 Vl ≤ zmag b64 (roundRatio b64 false c d (q - r)) := by
    refine zmag_roundRatio_ge good_b64 hd a1 (e0 := -4096) (by rw [qmin_b64]; omega) (by omega) ?_
    refine Nat.le_of_mul_le_mul_right ?_ (Nat.two_pow_pos (r + 1074).toNat)
    rw [(key 0).1, (key (zmag b64 Vl)).2]
    rw [← m1'] at h1
    have h1' : zmag b64 Vl * (d * 2 ^ (r + 1074).toNat) ≤ c * 2 ^ (q + 1074).toNat * 2 ^ 1074 := by
      rw [← Int.natCast_mul, ← Int.natCast_mul] at h1; exact Int.ofNat_le.mp h1
    calc zmag b64 Vl * (d * 2 ^ (r + 1074).toNat) * 2 ^ 1074 * 2 ^ 1948 ≤ c * 2 ^ (q + 1074).toNat * 2 ^ 1074 * 2 ^ 1074 * 2 ^ 1948 :=
          Nat.mul_le_mul_right _ (Nat.mul_le_mul_right _ h1')
      _ = _ := by generalize 2 ^ 1074 = a; generalize 2 ^ 1948 = b; generalize c * 2 ^ (q + 1074).toNat = w; ac_rfl
  have g2 : zmag b64 (roundRatio b64 false c d (q - r)) ≤ zmag b64 Vh := by
    refine zmag_roundRatio_le good_b64 hd b1 (by rw [b2]; exact Datum.noConfusion) (e0 := -4096) (by rw [qmin_b64]; omega) (by omega) ?_
    refine Nat.le_of_mul_le_mul_right ?_ (Nat.two_pow_pos (r + 1074).toNat)
    rw [(key 0).1, (key (zmag b64 Vh)).2]
    rw [← m2] at h2
    have h2' : c * 2 ^ (q + 1074).toNat * 2 ^ 1074 ≤ zmag b64 Vh * (d * 2 ^ (r + 1074).toNat) := by
      rw [← Int.natCast_mul, ← Int.natCast_mul] at h2; exact Int.ofNat_le.mp h2
    calc c * 2 ^ (q + 1074).toNat * 2 ^ 1074 * 2 ^ 1948 * 2 ^ 1074 = c * 2 ^ (q + 1074).toNat * 2 ^ 1074 * 2 ^ 1074 * 2 ^ 1948 := by
          generalize 2 ^ 1074 = a; generalize 2 ^ 1948 = b; generalize c * 2 ^ (q + 1074).toNat = w; ac_rfl
      _ ≤ _ := Nat.mul_le_mul_right _ (Nat.mul_le_mul_right _ h2')
  have z1 : lo ≤ own_zv (FP.ddiv x y) := by rw [hzz, ← m1']; exact Int.ofNat_le.mpr g1
  have z2 : own_zv (FP.ddiv x y) ≤ hi := by rw [hzz, ← m2]; exact Int.ofNat_le.mpr g2
  exact ⟨own_fin_of hn hl hh z1 z2, z1, z2, hs⟩
/-! whole numbers -/
theorem own_whole {i : Int} {x : UInt64} (h : DInt i x) : DFin x ∧ own_zv x = i * ((2 ^ 1074 : Nat) : Int) := by
  have fx := val64_fits x
  unfold DInt at h
  unfold own_zv DFin
  cases hv : val64 x with
  | nan => rw [hv] at h; exact absurd h (by simp [Whole])
  | inf s => rw [hv] at h; exact absurd h (by simp [Whole])
  | fin s c q =>
    refine ⟨⟨s, c, q, rfl⟩, ?_⟩
    rw [hv] at h fx
    have q1 := fx.2.1
    rw [qmin_b64] at q1
    simp only [Whole] at h
    show signed s (inUnits c q b64.qmin) = _
    unfold inUnits
    rw [qmin_b64]
    rcases Int.le_total 0 q with hq | hq
    · rw [show (-q).toNat = 0 by omega] at h
      rw [show (q - -1074).toNat = q.toNat + 1074 by omega, Nat.pow_add, ← Nat.mul_assoc, signed_mul, h]
      simp
    · rw [show q.toNat = 0 by omega] at h
      rw [show (2 : Nat) ^ 1074 = 2 ^ (-q).toNat * 2 ^ (q - -1074).toNat by rw [← Nat.pow_add]; congr 1; omega, Int.natCast_mul, ← Int.mul_assoc, ← h, signed_mul, Nat.pow_zero, Nat.mul_one]
theorem own_i2d (n : Int32) : DFin (FP.i2d n) ∧ own_zv (FP.i2d n) = n.toInt * ((2 ^ 1074 : Nat) : Int) := own_whole (i2d_int n)
theorem own_l2d {n : Int64} (h : n.toInt.natAbs ≤ 2 ^ 53) : DFin (FP.l2d n) ∧ own_zv (FP.l2d n) = n.toInt * ((2 ^ 1074 : Nat) : Int) := own_whole (l2d_int h)
theorem own_sgn_i2d {n : Int32} (h : 0 ≤ n.toInt) : sgn (val64 (FP.i2d n)) = false := by
  rw [show val64 (FP.i2d n) = round b64 (ofInt n.toInt) from val64_i2d n]
  show sgn (roundRatio b64 (decide (n.toInt < 0)) _ 1 0) = false
  rw [sgn_roundRatio]; exact decide_eq_false (by omega)
theorem own_sgn_l2d {n : Int64} (h : 0 ≤ n.toInt) : sgn (val64 (FP.l2d n)) = false := by
  rw [show val64 (FP.l2d n) = round b64 (ofInt n.toInt) from val64_l2d n]
  show sgn (roundRatio b64 (decide (n.toInt < 0)) _ 1 0) = false
  rw [sgn_roundRatio]; exact decide_eq_false (by omega)
theorem own_sgn_of {x : UInt64} (h : DFin x) (hp : 0 < own_zv x) : sgn (val64 x) = false := by
  obtain ⟨s, c, q, e⟩ := h
  unfold own_zv at hp
  rw [e] at hp ⊢
  cases s
  · rfl
  · simp only [zval, sgn, zmag, signed, if_true] at hp; omega
theorem own_one : DFin FP.dconst1 ∧ own_zv FP.dconst1 = 1 * ((2 ^ 1074 : Nat) : Int) :=
  own_whole (show Whole 1 (val64 FP.dconst1) by
    rw [show val64 FP.dconst1 = _ from val64_dconst1]
    show signed false (2 ^ 52 * 2 ^ (-52 : Int).toNat) = 1 * ((2 ^ (-(-52 : Int)).toNat : Nat) : Int)
    decide +kernel)
theorem own_zero : DFin FP.dconst0 ∧ own_zv FP.dconst0 = 0 := by
  have := own_whole (show Whole 0 (val64 FP.dconst0) by
    rw [show val64 FP.dconst0 = _ from val64_dconst0]
    show signed false (0 * 2 ^ b64.qmin.toNat) = 0 * _
    rw [Nat.zero_mul, Int.zero_mul]; rfl)
  rw [Int.zero_mul] at this; exact this
/-- a written constant: its datum by computation -/
theorem own_const {x : UInt64} {s : Bool} {c : Nat} {k : Nat} {q : Int} (h : val64 x = .fin s c q) (hq : q = (k : Int) - 1074) : DFin x ∧ own_zv x = signed s (c * 2 ^ k) := by
  refine ⟨⟨_, _, _, h⟩, ?_⟩
  unfold own_zv; rw [h]
  show signed s (inUnits c q b64.qmin) = _
  unfold inUnits; rw [qmin_b64, show (q - -1074).toNat = k by omega]
end OwnFl
end Jvm.Pilot.@@N@@
namespace Jvm.Pilot.@@N@@
section OwnA
open Jvm Jvm.FP Jvm.FP.Core Jvm.Free.Fl Jvm.Op
/-- two quotients of one ratio are one double -/
theorem own_div_congr {x y x' y' : UInt64} (hx : DFin x) (hy : DFin y) (hx' : DFin x') (hy' : DFin y') (sx : sgn (val64 x) = false) (sx' : sgn (val64 x') = false) (py : 0 < own_zv y) (py' : 0 < own_zv y') (h : own_zv x * own_zv y' = own_zv x' * own_zv y) :
    own_zv (FP.ddiv x y) = own_zv (FP.ddiv x' y') := by
  have e : val64 (FP.ddiv x y) = quotient b64 (val64 x) (val64 y) := val64_ddiv x y
  have e' : val64 (FP.ddiv x' y') = quotient b64 (val64 x') (val64 y') := val64_ddiv x' y'
  have fx := val64_fits x; have fy := val64_fits y; have fx' := val64_fits x'; have fy' := val64_fits y'
  unfold own_zv at h py py' ⊢
  obtain ⟨s, c, q, ex⟩ := hx
  obtain ⟨t, d, r, ey⟩ := hy
  obtain ⟨s', c', q', ex'⟩ := hx'
  obtain ⟨t', d', r', ey'⟩ := hy'
  rw [ex] at fx e h sx
  rw [ey] at fy e h py
  rw [ex'] at fx' e' h sx'
  rw [ey'] at fy' e' h py'
  obtain rfl : s = false := sx
  obtain rfl : s' = false := sx'
  have pos : ∀ {t : Bool} {d : Nat} {r : Int}, 0 < zval b64 (.fin t d r) → t = false ∧ 0 < d := by
    intro t d r hp
    simp only [zval, sgn, zmag] at hp
    cases t
    · refine ⟨rfl, ?_⟩
      rcases Nat.eq_zero_or_pos d with h | h
      · subst h; simp [signed, inUnits] at hp
      · exact h
    · simp only [signed, if_true] at hp; omega
  obtain ⟨rfl, hd⟩ := pos py
  obtain ⟨rfl, hd'⟩ := pos py'
  have q1 := fx.2.1; have r1 := fy.2.1; have q1' := fx'.2.1; have r1' := fy'.2.1
  rw [qmin_b64] at q1 r1 q1' r1'
  have k : ∀ (c : Nat) (q : Int), zval b64 (.fin false c q) = ((c * 2 ^ (q + 1074).toNat : Nat) : Int) := by
    intro c q
    show ((inUnits c q b64.qmin : Nat) : Int) = _
    unfold inUnits; rw [qmin_b64, show (q - -1074).toNat = (q + 1074).toNat by omega]
  rw [k, k, k, k, ← Int.natCast_mul, ← Int.natCast_mul] at h
  have h1 : c * 2 ^ (q + 1074).toNat * (d' * 2 ^ (r' + 1074).toNat) = c' * 2 ^ (q' + 1074).toNat * (d * 2 ^ (r + 1074).toNat) := Int.ofNat.inj h
  have key : roundRatio b64 false c d (q - r) = roundRatio b64 false c' d' (q' - r') := by
    refine roundRatio_congr hd hd' ?_
    have ea : c * 2 ^ (q + 1074).toNat * (d' * 2 ^ (r' + 1074).toNat) = c * d' * 2 ^ ((q + 1074).toNat + (r' + 1074).toNat) := by
      rw [Nat.pow_add, Nat.mul_mul_mul_comm]
    have eb : c' * 2 ^ (q' + 1074).toNat * (d * 2 ^ (r + 1074).toNat) = c' * d * 2 ^ ((q' + 1074).toNat + (r + 1074).toNat) := by
      rw [Nat.pow_add, Nat.mul_mul_mul_comm]
    rw [ea, eb] at h1
    generalize hu : min ((q + 1074).toNat + (r' + 1074).toNat) ((q' + 1074).toNat + (r + 1074).toNat) = u
    refine Nat.eq_of_mul_eq_mul_right (Nat.two_pow_pos u) ?_
    rw [Nat.mul_assoc, Nat.mul_assoc (c' * d), ← Nat.pow_add, ← Nat.pow_add]
    rw [show (q - r - (q' - r')).toNat + u = (q + 1074).toNat + (r' + 1074).toNat by omega, show (q' - r' - (q - r)).toNat + u = (q' + 1074).toNat + (r + 1074).toNat by omega]
    exact h1
  rw [e, e']
  simp only [quotient]
  rw [if_neg (by omega), if_neg (by omega)]
  exact congrArg (zval b64) key
def own_num (n j : Int32) : UInt64 := FP.dadd (FP.i2d (n - j)) FP.dconst1
def own_mean (n j : Int32) : UInt64 := FP.ddiv (own_num n j) (FP.i2d (n + (1 : Int32)))
/-- what the call's two ints are -/
def own_ok (n j : Int32) (a N : Int) : Prop := n.toInt - j.toInt + 1 = a ∧ n.toInt + 1 = N ∧ 0 ≤ a ∧ a < N ∧ N < 2 ^ 31
theorem own_num_f {n j : Int32} {a N : Int} (h : own_ok n j a N) : DFin (own_num n j) ∧ own_zv (own_num n j) = a * ((2 ^ 1074 : Nat) : Int) ∧ sgn (val64 (own_num n j)) = false := by
  obtain ⟨h1, h2, h3, h4, h5⟩ := h
  have hj := j.toInt_lt; have hj' := j.le_toInt
  have e : (n - j).toInt = a - 1 := by rw [Jvm.Kit.i32_sub (by omega) (by omega)]; omega
  obtain ⟨A1, A2⟩ := own_i2d (n - j)
  rw [e] at A2
  have hs : own_zv (FP.i2d (n - j)) + own_zv FP.dconst1 = a * ((2 ^ 1074 : Nat) : Int) := by
    rw [A2, own_one.2, ← Int.add_mul]; congr 1; omega
  obtain ⟨q1, q2⟩ := own_add_eq A1 own_one.1 (by rw [hs]; exact own_rep_int (by omega) (by decide))
  rw [hs] at q2
  refine ⟨q1, q2, ?_⟩
  have hU : (0 : Int) < ((2 ^ 1074 : Nat) : Int) := Int.natCast_pos.mpr (Nat.two_pow_pos _)
  rcases Int.lt_or_eq_of_le h3 with g | g
  · exact own_sgn_of q1 (by show 0 < own_zv (FP.dadd _ _); rw [q2]; exact Int.mul_pos g hU)
  · have e2 : n - j = -1 := by
      apply Int32.toInt_inj.mp
      rw [e, ← g]; decide
    unfold own_num
    rw [e2]
    decide +kernel
theorem own_den_f {n j : Int32} {a N : Int} (h : own_ok n j a N) : DFin (FP.i2d (n + (1 : Int32))) ∧ own_zv (FP.i2d (n + (1 : Int32))) = N * ((2 ^ 1074 : Nat) : Int) ∧ 0 < own_zv (FP.i2d (n + (1 : Int32))) := by
  obtain ⟨h1, h2, h3, h4, h5⟩ := h
  have e1 : (1 : Int32).toInt = 1 := by decide
  have hn := n.le_toInt
  have e : (n + (1 : Int32)).toInt = N := by rw [Jvm.Kit.i32_add (by omega) (by omega)]; omega
  have hU : (0 : Int) < ((2 ^ 1074 : Nat) : Int) := Int.natCast_pos.mpr (Nat.two_pow_pos _)
  obtain ⟨A1, A2⟩ := own_i2d (n + (1 : Int32))
  rw [e] at A2
  exact ⟨A1, A2, by rw [A2]; exact Int.mul_pos (by omega) hU⟩
theorem own_split : ((2 ^ 1074 : Nat) : Int) = 2 ^ 53 * ((2 ^ 1021 : Nat) : Int) := by
  rw [show (2 : Nat) ^ 1074 = 2 ^ 53 * 2 ^ 1021 from by rw [← Nat.pow_add], Int.natCast_mul]; rfl
theorem own_mean_b {n j : Int32} {a N lo hi : Int} (h : own_ok n j a N) (l0 : 0 ≤ lo) (l1 : lo * N ≤ a * 2 ^ 53) (l2 : a * 2 ^ 53 ≤ hi * N) (l3 : lo < 2 ^ 53) (l4 : 0 ≤ hi) (l5 : hi < 2 ^ 53) :
    DFin (own_mean n j) ∧ lo * ((2 ^ 1021 : Nat) : Int) ≤ own_zv (own_mean n j) ∧ own_zv (own_mean n j) ≤ hi * ((2 ^ 1021 : Nat) : Int) := by
  obtain ⟨A1, A2, A3⟩ := own_num_f h
  obtain ⟨B1, B2, B3⟩ := own_den_f h
  have hU : (0 : Int) < ((2 ^ 1074 : Nat) : Int) := Int.natCast_pos.mpr (Nat.two_pow_pos _)
  have hV : (0 : Int) < ((2 ^ 1021 : Nat) : Int) := Int.natCast_pos.mpr (Nat.two_pow_pos _)
  have eU := own_split
  obtain ⟨r1, r2, r3, -⟩ := own_div A1 B1 (lo := lo * ((2 ^ 1021 : Nat) : Int)) (hi := hi * ((2 ^ 1021 : Nat) : Int)) (by rw [A2]; exact Int.mul_nonneg h.2.2.1 (Int.le_of_lt hU)) A3 B3 (own_rep_int (by omega) (by decide)) (own_rep_int (by omega) (by decide)) (Int.mul_nonneg l0 (Int.le_of_lt hV))
    (by
      rw [A2, B2]
      generalize ((2 ^ 1074 : Nat) : Int) = U at *
      generalize ((2 ^ 1021 : Nat) : Int) = V at *
      calc lo * V * (N * U) = lo * N * (V * U) := by ac_rfl
        _ ≤ a * 2 ^ 53 * (V * U) := Int.mul_le_mul_of_nonneg_right l1 (Int.mul_nonneg (Int.le_of_lt hV) (Int.le_of_lt hU))
        _ = a * (2 ^ 53 * V) * U := by ac_rfl
        _ = a * U * U := by rw [← eU])
    (by
      rw [A2, B2]
      generalize ((2 ^ 1074 : Nat) : Int) = U at *
      generalize ((2 ^ 1021 : Nat) : Int) = V at *
      calc a * U * U = a * (2 ^ 53 * V) * U := by rw [← eU]
        _ = a * 2 ^ 53 * (V * U) := by ac_rfl
        _ ≤ hi * N * (V * U) := Int.mul_le_mul_of_nonneg_right l2 (Int.mul_nonneg (Int.le_of_lt hV) (Int.le_of_lt hU))
        _ = hi * V * (N * U) := by ac_rfl)
  exact ⟨r1, r2, r3⟩
/-- the floor of a * 2^53 / N -/
theorem own_floor {a N : Int} (h0 : 0 ≤ a) (h1 : a < N) (h2 : N < 2 ^ 31) : ∃ M : Int, 0 ≤ M ∧ M + 1 < 2 ^ 53 ∧ M * N ≤ a * 2 ^ 53 ∧ a * 2 ^ 53 < (M + 1) * N := by
  refine ⟨a * 2 ^ 53 / N, Int.ediv_nonneg (by omega) (by omega), ?_, Int.ediv_mul_le _ (by omega), ?_⟩
  · have : a * 2 ^ 53 / N < 2 ^ 53 - 1 := by
      apply Int.ediv_lt_of_lt_mul (by omega)
      omega
    omega
  · have := Int.lt_ediv_add_one_mul_self (a * 2 ^ 53) (show 0 < N by omega)
    exact this
def own_back (n j : Int32) : UInt64 := FP.dmul (own_mean n j) (FP.i2d (n + (1 : Int32)))
def own_diff (n j : Int32) : UInt64 := FP.dsub (own_back n j) (FP.i2d (n + (1 : Int32) - j))
def own_eps : UInt64 := 4517110426252607488
theorem own_eps_f : DFin own_eps ∧ own_zv own_eps = 1 * ((2 ^ 1054 : Nat) : Int) := by
  have := own_const (x := own_eps) (s := false) (c := 2 ^ 52) (k := 1002) (q := -72) (by decide +kernel) (by decide)
  refine ⟨this.1, this.2.trans ?_⟩
  simp only [signed, Bool.false_eq_true, if_false]
  rw [← Nat.pow_add, Int.one_mul]
theorem own_diff_f {n j : Int32} {a N : Int} (h : own_ok n j a N) : DFin (own_back n j) ∧ DFin (own_diff n j) ∧ -(1 * ((2 ^ 1054 : Nat) : Int)) ≤ own_zv (own_diff n j) ∧ own_zv (own_diff n j) ≤ 1 * ((2 ^ 1054 : Nat) : Int) := by
  obtain ⟨B1, B2, B3⟩ := own_den_f h
  have h' := h
  obtain ⟨h1, h2, h3, h4, h5⟩ := h'
  obtain ⟨M, m0, m1, m2, m3⟩ := own_floor h3 h4 h5
  obtain ⟨R1, R2, R3⟩ := own_mean_b h m0 m2 (Int.le_of_lt m3) (by omega) (by omega) m1
  have hU : (0 : Int) < ((2 ^ 1074 : Nat) : Int) := Int.natCast_pos.mpr (Nat.two_pow_pos _)
  have hV : (0 : Int) < ((2 ^ 1021 : Nat) : Int) := Int.natCast_pos.mpr (Nat.two_pow_pos _)
  have e54 : ((2 ^ 1054 : Nat) : Int) = 2 ^ 33 * ((2 ^ 1021 : Nat) : Int) := by
    rw [show (2 : Nat) ^ 1054 = 2 ^ 33 * 2 ^ 1021 from by rw [← Nat.pow_add], Int.natCast_mul]; rfl
  have e74 : ((2 ^ 1074 : Nat) : Int) = 2 ^ 20 * ((2 ^ 1054 : Nat) : Int) := by
    rw [show (2 : Nat) ^ 1074 = 2 ^ 20 * 2 ^ 1054 from by rw [← Nat.pow_add], Int.natCast_mul]; rfl
  rw [Int.add_mul, Int.one_mul] at m3
  obtain ⟨D1, D2, D3⟩ := own_mul R1 B1 (lo := (a * 2 ^ 20 - 1) * ((2 ^ 1054 : Nat) : Int)) (hi := (a * 2 ^ 20 + 1) * ((2 ^ 1054 : Nat) : Int)) (own_rep_int (by omega) (by decide)) (own_rep_int (by omega) (by decide))
    (by
      rw [B2, e54]
      have g : (a * 2 ^ 20 - 1) * 2 ^ 33 ≤ M * N := by omega
      generalize ((2 ^ 1074 : Nat) : Int) = U at *
      generalize ((2 ^ 1021 : Nat) : Int) = V at *
      calc (a * 2 ^ 20 - 1) * (2 ^ 33 * V) * U = (a * 2 ^ 20 - 1) * 2 ^ 33 * (V * U) := by generalize a * 2 ^ 20 - 1 = w; ac_rfl
        _ ≤ M * N * (V * U) := Int.mul_le_mul_of_nonneg_right g (Int.mul_nonneg (Int.le_of_lt hV) (Int.le_of_lt hU))
        _ = M * V * (N * U) := by ac_rfl
        _ ≤ own_zv (own_mean n j) * (N * U) := Int.mul_le_mul_of_nonneg_right R2 (Int.mul_nonneg (by omega) (Int.le_of_lt hU)))
    (by
      rw [B2, e54]
      have g : (M + 1) * N ≤ (a * 2 ^ 20 + 1) * 2 ^ 33 := by rw [Int.add_mul, Int.one_mul]; omega
      generalize ((2 ^ 1074 : Nat) : Int) = U at *
      generalize ((2 ^ 1021 : Nat) : Int) = V at *
      calc own_zv (own_mean n j) * (N * U) ≤ (M + 1) * V * (N * U) := Int.mul_le_mul_of_nonneg_right R3 (Int.mul_nonneg (by omega) (Int.le_of_lt hU))
        _ = (M + 1) * N * (V * U) := by generalize M + 1 = w; ac_rfl
        _ ≤ (a * 2 ^ 20 + 1) * 2 ^ 33 * (V * U) := Int.mul_le_mul_of_nonneg_right g (Int.mul_nonneg (Int.le_of_lt hV) (Int.le_of_lt hU))
        _ = (a * 2 ^ 20 + 1) * (2 ^ 33 * V) * U := by generalize a * 2 ^ 20 + 1 = w; ac_rfl)
  have ea : (n + (1 : Int32) - j).toInt = a := by
    have e1 : (1 : Int32).toInt = 1 := by decide
    have hj := j.toInt_lt; have hj' := j.le_toInt; have hn := n.le_toInt
    have q : (n + (1 : Int32)).toInt = N := by rw [Jvm.Kit.i32_add (by omega) (by omega)]; omega
    rw [Jvm.Kit.i32_sub (by omega) (by omega)]; omega
  obtain ⟨C1, C2⟩ := own_i2d (n + (1 : Int32) - j)
  rw [ea] at C2
  have r1 : own_rep (1 * ((2 ^ 1054 : Nat) : Int)) := own_rep_int (by decide) (by decide)
  change DFin (own_back n j) at D1
  change _ ≤ own_zv (own_back n j) at D2
  change own_zv (own_back n j) ≤ _ at D3
  rw [e74] at C2
  rw [Int.sub_mul] at D2
  rw [Int.add_mul] at D3
  rw [← Int.mul_assoc] at C2
  obtain ⟨g1, g2, g3⟩ := own_sub D1 C1 (own_rep_neg r1) r1 (by rw [C2]; omega) (by rw [C2]; omega)
  exact ⟨D1, g1, g2, g3⟩
theorem own_le1 {n j : Int32} {a N : Int} (h : own_ok n j a N) : ¬ ((0 : Int32) < cmpValue (FP.dcmp (own_diff n j) own_eps) .g) := by
  obtain ⟨-, d1, d2, d3⟩ := own_diff_f h
  rcases Int.lt_or_eq_of_le d3 with g | g
  · rw [own_v_lt (own_cmp_lt d1 own_eps_f.1 (by rw [own_eps_f.2]; exact g))]; decide
  · rw [own_v_eq (own_cmp_eq d1 own_eps_f.1 (by rw [own_eps_f.2]; exact g))]; decide
theorem own_le2 {n j : Int32} {a N : Int} (h : own_ok n j a N) : ¬ ((0 : Int32) < cmpValue (FP.dcmp (FP.dneg own_eps) (own_diff n j)) .g) := by
  obtain ⟨-, d1, d2, d3⟩ := own_diff_f h
  obtain ⟨n1, n2⟩ := own_neg_fin own_eps_f.1
  rw [own_eps_f.2] at n2
  rcases Int.lt_or_eq_of_le d2 with g | g
  · rw [own_v_lt (own_cmp_lt n1 d1 (by rw [n2]; exact g))]; decide
  · rw [own_v_eq (own_cmp_eq n1 d1 (by rw [n2]; exact g))]; decide
theorem own_mean_fin {n j : Int32} {a N : Int} (h : own_ok n j a N) : DFin (own_mean n j) := by
  have h' := h
  obtain ⟨h1, h2, h3, h4, h5⟩ := h'
  obtain ⟨M, m0, m1, m2, m3⟩ := own_floor h3 h4 h5
  exact (own_mean_b h m0 m2 (Int.le_of_lt m3) (by omega) (by omega) m1).1
theorem own_nought {n j : Int32} {N : Int} (h : own_ok n j 0 N) : cmpValue (FP.dcmp (own_mean n j) FP.dconst0) .l = 0 := by
  obtain ⟨r1, r2, r3⟩ := own_mean_b h (lo := 0) (hi := 0) (by decide) (by omega) (by omega) (by decide) (by decide) (by decide)
  exact own_v_eq (own_cmp_eq r1 own_zero.1 (by rw [own_zero.2]; omega)) _
theorem own_above {n j : Int32} {a N : Int} (h : own_ok n j a N) (ha : 0 < a) : cmpValue (FP.dcmp (own_mean n j) FP.dconst0) .l = 1 := by
  have h' := h
  obtain ⟨h1, h2, h3, h4, h5⟩ := h'
  obtain ⟨M, m0, m1, m2, m3⟩ := own_floor h3 h4 h5
  obtain ⟨r1, r2, r3⟩ := own_mean_b h m0 m2 (Int.le_of_lt m3) (by omega) (by omega) m1
  have hV : (0 : Int) < ((2 ^ 1021 : Nat) : Int) := Int.natCast_pos.mpr (Nat.two_pow_pos _)
  have hM : 0 < M := by
    rcases Int.lt_or_eq_of_le m0 with g | g
    · exact g
    · rw [← g] at m3; omega
  have := Int.mul_pos hM hV
  exact own_v_gt (own_cmp_gt r1 own_zero.1 (by rw [own_zero.2]; omega)) _
theorem own_strict {n j j' : Int32} {a N : Int} (h : own_ok n j a N) (h' : own_ok n j' (a - 1) N) : cmpValue (FP.dcmp (own_mean n j') (own_mean n j)) .g = -1 := by
  have k := h; have k' := h'
  obtain ⟨h1, h2, h3, h4, h5⟩ := k
  obtain ⟨g1, g2, g3, g4, g5⟩ := k'
  obtain ⟨M, m0, m1, m2, m3⟩ := own_floor h3 h4 h5
  obtain ⟨M', m0', m1', m2', m3'⟩ := own_floor g3 g4 g5
  obtain ⟨r1, r2, r3⟩ := own_mean_b h m0 m2 (Int.le_of_lt m3) (by omega) (by omega) m1
  obtain ⟨s1, s2, s3⟩ := own_mean_b h' m0' m2' (Int.le_of_lt m3') (by omega) (by omega) m1'
  have hV : (0 : Int) < ((2 ^ 1021 : Nat) : Int) := Int.natCast_pos.mpr (Nat.two_pow_pos _)
  have hlt : M' + 1 < M := by
    refine Int.lt_of_not_ge fun hge => ?_
    have : M * N ≤ (M' + 1) * N := Int.mul_le_mul_of_nonneg_right hge (by omega)
    rw [Int.add_mul, Int.one_mul] at this m3 m3'
    omega
  have := Int.mul_lt_mul_of_pos_right hlt hV
  exact own_v_lt (own_cmp_lt s1 r1 (by omega)) _
theorem own_same {n j n' j' : Int32} {a N : Int} (h : own_ok n j a N) (h' : own_ok n' j' (2 * a) (2 * N)) : cmpValue (FP.dcmp (own_mean n' j') (own_mean n j)) .l = 0 := by
  obtain ⟨A1, A2, A3⟩ := own_num_f h
  obtain ⟨B1, B2, B3⟩ := own_den_f h
  obtain ⟨C1, C2, C3⟩ := own_num_f h'
  obtain ⟨D1, D2, D3⟩ := own_den_f h'
  exact own_v_eq (own_cmp_eq (own_mean_fin h') (own_mean_fin h) (own_div_congr C1 D1 A1 B1 C3 A3 D3 B3 (by rw [A2, B2, C2, D2]; generalize ((2 ^ 1074 : Nat) : Int) = U; ac_rfl))) _
end OwnA
def own_n (p1 : Int32) : Int32 := (p1 &&& (2147483647 : Int32)) % (2147483646 : Int32) + (1 : Int32)
def own_N (p1 : Int32) : Int32 := own_n p1 + (1 : Int32)
def own_j (p1 p2 : Int32) : Int32 := (p2 &&& (2147483647 : Int32)) % (own_N p1) + (1 : Int32)
theorem own_nN (p1 : Int32) : 1 ≤ (own_n p1).toInt ∧ (own_n p1).toInt ≤ 2147483646 ∧ (own_N p1).toInt = (own_n p1).toInt + 1 ∧ own_N p1 ≠ 0 := by
  have e1 : (1 : Int32).toInt = 1 := by decide
  have e2 : (2147483646 : Int32).toInt = 2147483646 := by decide
  have h : (p1 &&& (2147483647 : Int32)).toInt = p1.toInt % 2 ^ 31 := Jvm.Kit.i32_mask p1 2147483647 (k := 31) (by decide) (by decide)
  have h2 : ((p1 &&& (2147483647 : Int32)) % (2147483646 : Int32)).toInt = (p1 &&& (2147483647 : Int32)).toInt % (2147483646 : Int32).toInt := Jvm.Kit.i32_rem_nonneg (by omega)
  rw [e2] at h2
  have h3 : (own_n p1).toInt = ((p1 &&& (2147483647 : Int32)) % (2147483646 : Int32)).toInt + 1 := by
    unfold own_n; rw [Jvm.Kit.i32_add (by omega) (by omega), e1]
  have h4 : (own_N p1).toInt = (own_n p1).toInt + 1 := by
    unfold own_N; rw [Jvm.Kit.i32_add (by omega) (by omega), e1]
  refine ⟨by omega, by omega, h4, fun q => ?_⟩
  rw [q] at h4
  have : (0 : Int32).toInt = 0 := rfl
  omega
theorem own_jb (p1 p2 : Int32) : 1 ≤ (own_j p1 p2).toInt ∧ (own_j p1 p2).toInt ≤ (own_N p1).toInt := by
  obtain ⟨n1, n2, n3, n4⟩ := own_nN p1
  have e1 : (1 : Int32).toInt = 1 := by decide
  have h : (p2 &&& (2147483647 : Int32)).toInt = p2.toInt % 2 ^ 31 := Jvm.Kit.i32_mask p2 2147483647 (k := 31) (by decide) (by decide)
  have h2 : ((p2 &&& (2147483647 : Int32)) % (own_N p1)).toInt = (p2 &&& (2147483647 : Int32)).toInt % (own_N p1).toInt := Jvm.Kit.i32_rem_nonneg (by omega)
  have h3 := Int.emod_nonneg (p2 &&& (2147483647 : Int32)).toInt (show (own_N p1).toInt ≠ 0 by omega)
  have h4 := Int.emod_lt_of_pos (p2 &&& (2147483647 : Int32)).toInt (show 0 < (own_N p1).toInt by omega)
  have h5 : (own_j p1 p2).toInt = ((p2 &&& (2147483647 : Int32)) % (own_N p1)).toInt + 1 := by
    unfold own_j; rw [Jvm.Kit.i32_add (by omega) (by omega), e1]
  omega
theorem own_base (p1 p2 : Int32) : own_ok (own_n p1) (own_j p1 p2) ((own_N p1).toInt - (own_j p1 p2).toInt) (own_N p1).toInt := by
  obtain ⟨n1, n2, n3, n4⟩ := own_nN p1
  obtain ⟨j1, j2⟩ := own_jb p1 p2
  refine ⟨by omega, by omega, by omega, by omega, by omega⟩
theorem own_next {p1 p2 : Int32} (h : (own_j p1 p2).toInt ≤ (own_n p1).toInt) : own_ok (own_n p1) (own_j p1 p2 + (1 : Int32)) ((own_N p1).toInt - (own_j p1 p2).toInt - 1) (own_N p1).toInt := by
  obtain ⟨n1, n2, n3, n4⟩ := own_nN p1
  obtain ⟨j1, j2⟩ := own_jb p1 p2
  have e1 : (1 : Int32).toInt = 1 := by decide
  have e : (own_j p1 p2 + (1 : Int32)).toInt = (own_j p1 p2).toInt + 1 := by rw [Jvm.Kit.i32_add (by omega) (by omega), e1]
  refine ⟨by omega, by omega, by omega, by omega, by omega⟩
theorem own_twice {p1 p2 : Int32} (h : (own_n p1).toInt ≤ 1073741821) : own_ok ((2 : Int32) * own_n p1 + (1 : Int32)) ((2 : Int32) * own_j p1 p2) (2 * ((own_N p1).toInt - (own_j p1 p2).toInt)) (2 * (own_N p1).toInt) := by
  obtain ⟨n1, n2, n3, n4⟩ := own_nN p1
  obtain ⟨j1, j2⟩ := own_jb p1 p2
  have e1 : (1 : Int32).toInt = 1 := by decide
  have e2 : (2 : Int32).toInt = 2 := by decide
  have a : ((2 : Int32) * own_n p1).toInt = 2 * (own_n p1).toInt := by rw [Jvm.Kit.i32_mul (by rw [e2]; omega) (by rw [e2]; omega), e2]
  have b : ((2 : Int32) * own_j p1 p2).toInt = 2 * (own_j p1 p2).toInt := by rw [Jvm.Kit.i32_mul (by rw [e2]; omega) (by rw [e2]; omega), e2]
  have d : ((2 : Int32) * own_n p1 + (1 : Int32)).toInt = 2 * (own_n p1).toInt + 1 := by rw [Jvm.Kit.i32_add (by omega) (by omega), a, e1]
  refine ⟨by omega, by omega, by omega, by omega, by omega⟩
end Jvm.Pilot.@@N@@
namespace Jvm.Pilot.@@N@@
open Jvm Jvm.ClassFile Sem Op Lib Jvm.Free Jvm.Stand Jvm.LawKit Jvm.RoadKit Bundle Jvm.Pilot.@@N@@.Jvm.D
open Jvm.FP Jvm.Free.Fl
theorem d_prog_46_method_8_code_0 : decode prog_46_method_8_code 0 = .ok (.iload_n 0, 1) := by decide +kernel
theorem d_prog_46_method_8_code_1 : decode prog_46_method_8_code 1 = .ok (.iload_n 1, 1) := by decide +kernel
theorem d_prog_46_method_8_code_2 : decode prog_46_method_8_code 2 = .ok (.isub, 1) := by decide +kernel
theorem d_prog_46_method_8_code_3 : decode prog_46_method_8_code 3 = .ok (.i2d, 1) := by decide +kernel
theorem d_prog_46_method_8_code_4 : decode prog_46_method_8_code 4 = .ok (.dconst 1, 1) := by decide +kernel
theorem d_prog_46_method_8_code_5 : decode prog_46_method_8_code 5 = .ok (.dadd, 1) := by decide +kernel
theorem d_prog_46_method_8_code_6 : decode prog_46_method_8_code 6 = .ok (.iload_n 0, 1) := by decide +kernel
theorem d_prog_46_method_8_code_7 : decode prog_46_method_8_code 7 = .ok (.iconst 1, 1) := by decide +kernel
theorem d_prog_46_method_8_code_8 : decode prog_46_method_8_code 8 = .ok (.iadd, 1) := by decide +kernel
theorem d_prog_46_method_8_code_9 : decode prog_46_method_8_code 9 = .ok (.i2d, 1) := by decide +kernel
theorem d_prog_46_method_8_code_10 : decode prog_46_method_8_code 10 = .ok (.ddiv, 1) := by decide +kernel
theorem d_prog_46_method_8_code_11 : decode prog_46_method_8_code 11 = .ok (.dreturn, 1) := by decide +kernel
theorem pd_0 : parseMethodDescriptor "(II)D" = some ⟨[.int, .int], some .double⟩ := by decide +kernel
theorem ef_1 (m : MethodId) (x0 : Int32) (x1 : Int32) : entryFrame m #[(.int x0), (.int x1)] 2 = mkF m 0 #[.val (.int x0), .val (.int x1)] [] := by first | (simp [entryFrame, mkF, argsToLocals, Value.category]; done) | rfl
theorem pn_1 : plainName "com/example/outcry/outcry/core/UniformPrice" = true := by first | (simp [plainName, overriddenIn]; done) | decide +kernel
def Q1 (Z : State) (n1 : Int32) (j1 : Int32) (a : Int) (N : Int) (h0 : Heap) (n0 : Nat) (v : Option Value) (h : Heap) (L : List Loc) : Prop := v = some (.double (own_mean n1 j1)) ∧ Fr n0 L ∧ h = h0
set_option maxRecDepth 65536 in
set_option maxHeartbeats 40000000 in
theorem rm1 (l : Launch) (Z : State) (a0 : Array Value) (hw : ∀ d ∈ tables_1, d.before a0 Z = true) (ws : List Jvm.Cond) (n1 : Int32) (j1 : Int32) (a : Int) (N : Int) (h0 : Heap) (n0 : Nat) (Z0 : n0 ≤ h0.size) (ok : own_ok n1 j1 a N) :
    MetFree l (⟨"com/example/outcry/outcry/core/UniformPrice", "meanOfHighest", "(II)D"⟩ : MethodName) (head1 (Jvm.Cond.code (⟨"com/example/outcry/outcry/core/UniformPrice", "meanOfHighest", "(II)D"⟩ : MethodName) prog_46_method_8_code 2 (some .double) :: ws) ({ frames := 0, cells := 0, slots := 0, locals := 0 } : Room)) (fun a U => a = #[(.int n1), (.int j1)] ∧ Z.Warmed39 U.vm ∧ U.heap = h0) (fun _ _ _ _ _ => True) (fun _ U o U' => ∃ v L, o = .returned v ∧ Q1 Z n1 j1 a N h0 n0 v U'.heap L ∧ FrameEnd U o U' L ({ frames := 0, cells := 0, slots := 0, locals := 0 } : Room).cells ({ frames := 0, cells := 0, slots := 0, locals := 0 } : Room).slots) := by
  refine MetFree.of_bodySF (plainFor_of_name pn_1) hisR ?_
  intro p e s m args below meth c s₁ Bd hml0 hP hK
  obtain ⟨rfl, hZ, hh⟩ := hP
  have hx := Bd.exec
  have hby := Bd.bytes
  have hml : c.maxLocals = 2 := hml0
  have hown : s.vm.findClass "com/example/outcry/outcry/core/UniformPrice" = some m.cls := findClass_of_methodNamed Bd.named
  have hnm := (name_of_methodNamed Bd.named Bd.method).1
  have X0 : Stand p l e ({ frames := 0, cells := 0, slots := 0, locals := 0 } : Room) s m #[(.int n1), (.int j1)] below meth c s₁ [] 0 0 := Stand.of_body Bd
  have e0 : s₁.heap = h0 := by rw [← hh, Bd.state]; rfl
  have N0 := Fr.nil n0
  have pre0 : ∀ t, Steps p.tables e below (s₁.setTop (mkF m 0 #[.val (.int n1), .val (.int j1)] [])) t → Steps p.tables e below (s₁.setTop (entryFrame m #[(.int n1), (.int j1)] 2)) t := fun t k => castTop (ef_1 m n1 j1) k
  obtain ⟨fs, hr, hrun, hended, hW, hsame⟩ := X0.leave (v := some (.double (own_mean n1 j1))) (fun h => by rw [Bd.returns] at h; cases h)
  refine ⟨_, _, pre0 _ ?_, hrun, hended, _, _, rfl, ?_, ⟨_, rfl⟩, hW, hsame.mono (by decide) (by decide)⟩
  · show Steps p.tables e below (s₁.setTop (mkF m 0 #[.val (.int n1), .val (.int j1)] [])) _
    refine XS.iloadN X0.here hx rfl (hb hby d_prog_46_method_8_code_0) rfl ?_
    show Steps p.tables e below (s₁.setTop (mkF m 1 #[.val (.int n1), .val (.int j1)] [(.int n1)])) _
    refine XS.iloadN X0.here hx rfl (hb hby d_prog_46_method_8_code_1) rfl ?_
    show Steps p.tables e below (s₁.setTop (mkF m 2 #[.val (.int n1), .val (.int j1)] [(.int j1), (.int n1)])) _
    refine XS.isub X0.here hx rfl (hb hby d_prog_46_method_8_code_2) rfl ?_
    show Steps p.tables e below (s₁.setTop (mkF m 3 #[.val (.int n1), .val (.int j1)] [(.int (n1 - j1))])) _
    refine XS.i2dS X0.here hx rfl (v := (FP.i2d (n1 - j1))) (hb hby d_prog_46_method_8_code_3) rfl rfl ?_
    show Steps p.tables e below (s₁.setTop (mkF m 4 #[.val (.int n1), .val (.int j1)] [(.double (FP.i2d (n1 - j1)))])) _
    refine XS.dconst1 X0.here hx rfl (v := FP.dconst1) (hb hby d_prog_46_method_8_code_4) rfl ?_
    show Steps p.tables e below (s₁.setTop (mkF m 5 #[.val (.int n1), .val (.int j1)] [(.double FP.dconst1), (.double (FP.i2d (n1 - j1)))])) _
    refine XS.daddS X0.here hx rfl (v := (own_num n1 j1)) (hb hby d_prog_46_method_8_code_5) rfl (own_nn (own_num_f ok).1) rfl ?_
    show Steps p.tables e below (s₁.setTop (mkF m 6 #[.val (.int n1), .val (.int j1)] [(.double (own_num n1 j1))])) _
    refine XS.iloadN X0.here hx rfl (hb hby d_prog_46_method_8_code_6) rfl ?_
    show Steps p.tables e below (s₁.setTop (mkF m 7 #[.val (.int n1), .val (.int j1)] [(.int n1), (.double (own_num n1 j1))])) _
    refine XS.iconst X0.here hx rfl (hb hby d_prog_46_method_8_code_7) ?_
    show Steps p.tables e below (s₁.setTop (mkF m 8 #[.val (.int n1), .val (.int j1)] [(.int (1 : Int32)), (.int n1), (.double (own_num n1 j1))])) _
    refine XS.iadd X0.here hx rfl (hb hby d_prog_46_method_8_code_8) rfl ?_
    show Steps p.tables e below (s₁.setTop (mkF m 9 #[.val (.int n1), .val (.int j1)] [(.int (n1 + (1 : Int32))), (.double (own_num n1 j1))])) _
    refine XS.i2dS X0.here hx rfl (v := (FP.i2d (n1 + (1 : Int32)))) (hb hby d_prog_46_method_8_code_9) rfl rfl ?_
    show Steps p.tables e below (s₁.setTop (mkF m 10 #[.val (.int n1), .val (.int j1)] [(.double (FP.i2d (n1 + (1 : Int32)))), (.double (own_num n1 j1))])) _
    refine XS.ddivS X0.here hx rfl (v := (own_mean n1 j1)) (hb hby d_prog_46_method_8_code_10) rfl (own_nn (own_mean_fin ok)) rfl ?_
    show Steps p.tables e below (s₁.setTop (mkF m 11 #[.val (.int n1), .val (.int j1)] [(.double (own_mean n1 j1))])) _
    jvm_step X0.here [X0.here.top, hx, (hb hby d_prog_46_method_8_code_11), X0.method', Bd.returns, narrow]
    first | (intro acts; rw [hr _ acts rfl rfl rfl]) | rw [hr _ _ rfl rfl rfl]
    exact Steps.refl _
  · show Q1 Z n1 j1 a N h0 n0 _ s₁.heap _
    rw [e0]
    exact ⟨rfl, N0, rfl⟩
theorem ef_0 (m : MethodId) (x0 : Int32) (x1 : Int32) : entryFrame m #[(.int x0), (.int x1)] maxLocals = mkF m 0 #[.val (.int x0), .val (.int x1), .unset, .unset, .unset, .unset, .unset, .unset, .unset, .unset, .unset, .unset, .unset, .unset, .unset] [] := by first | (simp [entryFrame, mkF, argsToLocals, Value.category, maxLocals]; done) | rfl
theorem pn_0 : plainName "com/example/outcry/outcry/core/UniformPriceMeanOfHighestPinLaw" = true := by first | (simp [plainName, overriddenIn]; done) | decide +kernel
def Q0 (Z : State) (p1 : Int32) (p2 : Int32) (h0 : Heap) (n0 : Nat) (v : Option Value) (h : Heap) (L : List Loc) : Prop := v = some (.int 1) ∧ Fr n0 L
set_option maxRecDepth 65536 in
set_option maxHeartbeats 40000000 in
theorem rm0 (l : Launch) (Z : State) (a0 : Array Value) (hw : ∀ d ∈ tables_1, d.before a0 Z = true) (ws : List Jvm.Cond) (p1 : Int32) (p2 : Int32) (h0 : Heap) (n0 : Nat) (Z0 : n0 ≤ h0.size) :
    MetFree l x (head1 (Jvm.Cond.code x code maxLocals ret :: ws) room_1) (fun a U => a = #[(.int p1), (.int p2)] ∧ Z.Warmed39 U.vm ∧ U.heap = h0) (fun _ _ _ _ _ => True) (fun _ U o U' => ∃ v L, o = .returned v ∧ Q0 Z p1 p2 h0 n0 v U'.heap L ∧ FrameEnd U o U' L room_1.cells room_1.slots) := by
  refine MetFree.of_bodySF (plainFor_of_name pn_0) hisR ?_
  intro p e s m args below meth c s₁ Bd hml0 hP hK
  obtain ⟨rfl, hZ, hh⟩ := hP
  have hx := Bd.exec
  have hby := Bd.bytes
  have hml : c.maxLocals = 15 := hml0
  have hown : s.vm.findClass "com/example/outcry/outcry/core/UniformPriceMeanOfHighestPinLaw" = some m.cls := findClass_of_methodNamed Bd.named
  have hnm := (name_of_methodNamed Bd.named Bd.method).1
  have X0 : Stand p l e room_1 s m #[(.int p1), (.int p2)] below meth c s₁ [] 0 0 := Stand.of_body Bd
  have e0 : s₁.heap = h0 := by rw [← hh, Bd.state]; rfl
  have N0 := Fr.nil n0
  have pre0 : ∀ t, Steps p.tables e below (s₁.setTop (mkF m 0 #[.val (.int p1), .val (.int p2), .unset, .unset, .unset, .unset, .unset, .unset, .unset, .unset, .unset, .unset, .unset, .unset, .unset] [])) t → Steps p.tables e below (s₁.setTop (entryFrame m #[(.int p1), (.int p2)] maxLocals)) t := fun t k => castTop (ef_0 m p1 p2) k
  have ok := own_base p1 p2
  have hN0 := (own_nN p1).2.2.2
  have hNe := (own_nN p1).2.2.1
  have hjb := (own_jb p1 p2).2
  by_cases hj : (own_j p1 p2).toInt ≤ (own_n p1).toInt
  · have hpos : 0 < ((own_N p1).toInt - (own_j p1 p2).toInt) := by omega
    have hne : ¬ ((own_j p1 p2) = (own_N p1)) := fun q => by rw [q] at hj; omega
    have hle : ¬ ((own_n p1) < (own_j p1 p2)) := by rw [Int32.lt_iff_toInt_lt]; omega
    have ok2 := own_next hj
    by_cases hs : (own_n p1).toInt ≤ 1073741821
    · have hsm : ¬ ((1073741821 : Int32) < (own_n p1)) := by rw [Int32.lt_iff_toInt_lt, show (1073741821 : Int32).toInt = 1073741821 from by decide]; omega
      have ok3 := own_twice (p2 := p2) hs
      obtain ⟨_, _, ⟨T1, L1, k1, n1⟩, -, X1, ⟨Lc1, hQ1, l1, y1, z1⟩, st1⟩ := Jvm.LawKit.callS X0 hx (y := (⟨"com/example/outcry/outcry/core/UniformPrice", "meanOfHighest", "(II)D"⟩ : MethodName)) hown (mvT hZ (hw _ (List.mem_of_getElem? (i := 2) rfl))) (mvT hZ (hw _ (List.mem_of_getElem? (i := 3) rfl))) (mvT hZ (hw _ (List.mem_of_getElem? (i := 4) rfl))) (mvT hZ (hw _ (List.mem_of_getElem? (i := 5) rfl))) (by decide) (backOf (W := 0) (rm1 l Z a0 hw [] (own_n p1) (own_j p1 p2) ((own_N p1).toInt - (own_j p1 p2).toInt) (own_N p1).toInt h0 n0 Z0 ok) hZ (hw _ (List.mem_of_getElem? (i := 5) rfl)) (hw _ (List.mem_of_getElem? (i := 4) rfl)) (by decide) (by decide)) (g := (mkF m 33 #[.val (.int p1), .val (.int p2), .val (.int (own_n p1)), .val (.int (own_N p1)), .val (.int (own_j p1 p2)), .val (.int ((own_N p1) - (own_j p1 p2))), .unset, .unset, .unset, .unset, .unset, .unset, .unset, .unset, .unset] [(.int (own_j p1 p2)), (.int (own_n p1))])) rfl (by rw [hml]; rfl) (argsL := [(.int (own_n p1)), (.int (own_j p1 p2))]) (rest := []) (lenOf pd_0 rfl) rfl (by show 2 * 0 + _ ≤ _; exact Nat.le_of_eq rfl) (hb hby at_33) (fun _ _ => ⟨rfl, e0, (by decide : 0 + 0 ≤ _), (by decide : 0 + 0 ≤ _)⟩)
      dsimp only [Pt.U, Pt.locs, Pt.cells, Pt.slots] at X1 l1 y1 z1 st1 hQ1
      subst l1 y1 z1
      obtain ⟨rfl, N1q, eh1⟩ := hQ1
      have N1 := Fr.app N0 N1q
      have Zq : n0 ≤ T1.heap.size := by rw [eh1]; exact Z0
      obtain ⟨_, _, ⟨T2, L2, k2, n2⟩, -, X2, ⟨Lc2, hQ2, l2, y2, z2⟩, st2⟩ := Jvm.LawKit.callS X1 hx (y := (⟨"com/example/outcry/outcry/core/UniformPrice", "meanOfHighest", "(II)D"⟩ : MethodName)) hown (mvT hZ (hw _ (List.mem_of_getElem? (i := 2) rfl))) (mvT hZ (hw _ (List.mem_of_getElem? (i := 3) rfl))) (mvT hZ (hw _ (List.mem_of_getElem? (i := 4) rfl))) (mvT hZ (hw _ (List.mem_of_getElem? (i := 5) rfl))) (by decide) (backOf (W := 0) (rm1 l Z a0 hw [] (own_n p1) ((own_j p1 p2) + (1 : Int32)) (((own_N p1).toInt - (own_j p1 p2).toInt) - 1) (own_N p1).toInt T1.heap n0 Zq ok2) hZ (hw _ (List.mem_of_getElem? (i := 5) rfl)) (hw _ (List.mem_of_getElem? (i := 4) rfl)) (by decide) (by decide)) (g := (mkF m 127 #[.val (.int p1), .val (.int p2), .val (.int (own_n p1)), .val (.int (own_N p1)), .val (.int (own_j p1 p2)), .val (.int ((own_N p1) - (own_j p1 p2))), .val (.double (own_mean (own_n p1) (own_j p1 p2))), .second, .val (.double (own_diff (own_n p1) (own_j p1 p2))), .second, .val (.double (4517110426252607488 : UInt64)), .second, .val (.int (1 : Int32)), .unset, .unset] [(.int ((own_j p1 p2) + (1 : Int32))), (.int (own_n p1))])) rfl (by rw [hml]; rfl) (argsL := [(.int (own_n p1)), (.int ((own_j p1 p2) + (1 : Int32)))]) (rest := []) (lenOf pd_0 rfl) rfl (by show 2 * 0 + _ ≤ _; exact Nat.le_of_eq rfl) (hb hby at_127) (fun _ _ => ⟨rfl, rfl, (by decide : 0 + 0 ≤ _), (by decide : 0 + 0 ≤ _)⟩)
      dsimp only [Pt.U, Pt.locs, Pt.cells, Pt.slots] at X2 l2 y2 z2 st2 hQ2
      subst l2 y2 z2
      obtain ⟨rfl, N2q, eh2⟩ := hQ2
      have N2 := Fr.app N1 N2q
      have Zq : n0 ≤ T2.heap.size := by rw [eh2, eh1]; exact Z0
      obtain ⟨_, _, ⟨T3, L3, k3, n3⟩, -, X3, ⟨Lc3, hQ3, l3, y3, z3⟩, st3⟩ := Jvm.LawKit.callS X2 hx (y := (⟨"com/example/outcry/outcry/core/UniformPrice", "meanOfHighest", "(II)D"⟩ : MethodName)) hown (mvT hZ (hw _ (List.mem_of_getElem? (i := 2) rfl))) (mvT hZ (hw _ (List.mem_of_getElem? (i := 3) rfl))) (mvT hZ (hw _ (List.mem_of_getElem? (i := 4) rfl))) (mvT hZ (hw _ (List.mem_of_getElem? (i := 5) rfl))) (by decide) (backOf (W := 0) (rm1 l Z a0 hw [] ((2 : Int32) * (own_n p1) + (1 : Int32)) ((2 : Int32) * (own_j p1 p2)) (2 * ((own_N p1).toInt - (own_j p1 p2).toInt)) (2 * (own_N p1).toInt) T2.heap n0 Zq ok3) hZ (hw _ (List.mem_of_getElem? (i := 5) rfl)) (hw _ (List.mem_of_getElem? (i := 4) rfl)) (by decide) (by decide)) (g := (mkF m 167 #[.val (.int p1), .val (.int p2), .val (.int (own_n p1)), .val (.int (own_N p1)), .val (.int (own_j p1 p2)), .val (.int ((own_N p1) - (own_j p1 p2))), .val (.double (own_mean (own_n p1) (own_j p1 p2))), .second, .val (.double (own_diff (own_n p1) (own_j p1 p2))), .second, .val (.double (4517110426252607488 : UInt64)), .second, .val (.int (1 : Int32)), .val (.double (own_mean (own_n p1) ((own_j p1 p2) + (1 : Int32)))), .second] [(.int ((2 : Int32) * (own_j p1 p2))), (.int (((2 : Int32) * (own_n p1)) + (1 : Int32)))])) rfl (by rw [hml]; rfl) (argsL := [(.int (((2 : Int32) * (own_n p1)) + (1 : Int32))), (.int ((2 : Int32) * (own_j p1 p2)))]) (rest := []) (lenOf pd_0 rfl) rfl (by show 2 * 0 + _ ≤ _; exact Nat.le_of_eq rfl) (hb hby at_167) (fun _ _ => ⟨rfl, rfl, (by decide : 0 + 0 ≤ _), (by decide : 0 + 0 ≤ _)⟩)
      dsimp only [Pt.U, Pt.locs, Pt.cells, Pt.slots] at X3 l3 y3 z3 st3 hQ3
      subst l3 y3 z3
      obtain ⟨rfl, N3q, eh3⟩ := hQ3
      have N3 := Fr.app N2 N3q
      obtain ⟨fs, hr, hrun, hended, hW, hsame⟩ := X3.leave (v := some (.int (1 : Int32))) (fun h => by rw [Bd.returns] at h; cases h)
      refine ⟨_, _, pre0 _ ?_, hrun, hended, _, _, rfl, ?_, ⟨_, rfl⟩, hW, hsame.mono (by decide) (by decide)⟩
      · show Steps p.tables e below (s₁.setTop (mkF m 0 #[.val (.int p1), .val (.int p2), .unset, .unset, .unset, .unset, .unset, .unset, .unset, .unset, .unset, .unset, .unset, .unset, .unset] [])) _
        refine XS.iloadN X0.here hx rfl (hb hby at_0) rfl ?_
        show Steps p.tables e below (s₁.setTop (mkF m 1 #[.val (.int p1), .val (.int p2), .unset, .unset, .unset, .unset, .unset, .unset, .unset, .unset, .unset, .unset, .unset, .unset, .unset] [(.int p1)])) _
        refine X0.ldcI hx hown (mvT hZ (hw _ (List.mem_of_getElem? (i := 0) rfl))) (g := (mkF m 1 #[.val (.int p1), .val (.int p2), .unset, .unset, .unset, .unset, .unset, .unset, .unset, .unset, .unset, .unset, .unset, .unset, .unset] [(.int p1)])) rfl (hb hby at_1) ?_
        show Steps p.tables e below (s₁.setTop (mkF m 3 #[.val (.int p1), .val (.int p2), .unset, .unset, .unset, .unset, .unset, .unset, .unset, .unset, .unset, .unset, .unset, .unset, .unset] [(.int (2147483647 : Int32)), (.int p1)])) _
        refine XS.iand X0.here hx rfl (hb hby at_3) rfl ?_
        show Steps p.tables e below (s₁.setTop (mkF m 4 #[.val (.int p1), .val (.int p2), .unset, .unset, .unset, .unset, .unset, .unset, .unset, .unset, .unset, .unset, .unset, .unset, .unset] [(.int (p1 &&& (2147483647 : Int32)))])) _
        refine X0.ldcI hx hown (mvT hZ (hw _ (List.mem_of_getElem? (i := 1) rfl))) (g := (mkF m 4 #[.val (.int p1), .val (.int p2), .unset, .unset, .unset, .unset, .unset, .unset, .unset, .unset, .unset, .unset, .unset, .unset, .unset] [(.int (p1 &&& (2147483647 : Int32)))])) rfl (hb hby at_4) ?_
        show Steps p.tables e below (s₁.setTop (mkF m 6 #[.val (.int p1), .val (.int p2), .unset, .unset, .unset, .unset, .unset, .unset, .unset, .unset, .unset, .unset, .unset, .unset, .unset] [(.int (2147483646 : Int32)), (.int (p1 &&& (2147483647 : Int32)))])) _
        refine iremM X0 hx rfl (hb hby at_6) rfl (by decide) ?_
        show Steps p.tables e below (s₁.setTop (mkF m 7 #[.val (.int p1), .val (.int p2), .unset, .unset, .unset, .unset, .unset, .unset, .unset, .unset, .unset, .unset, .unset, .unset, .unset] [(.int ((p1 &&& (2147483647 : Int32)) % (2147483646 : Int32)))])) _
        refine XS.iconst X0.here hx rfl (hb hby at_7) ?_
        show Steps p.tables e below (s₁.setTop (mkF m 8 #[.val (.int p1), .val (.int p2), .unset, .unset, .unset, .unset, .unset, .unset, .unset, .unset, .unset, .unset, .unset, .unset, .unset] [(.int (1 : Int32)), (.int ((p1 &&& (2147483647 : Int32)) % (2147483646 : Int32)))])) _
        refine XS.iadd X0.here hx rfl (hb hby at_8) rfl ?_
        show Steps p.tables e below (s₁.setTop (mkF m 9 #[.val (.int p1), .val (.int p2), .unset, .unset, .unset, .unset, .unset, .unset, .unset, .unset, .unset, .unset, .unset, .unset, .unset] [(.int (own_n p1))])) _
        refine XS.istoreN X0.here hx rfl (hb hby at_9) rfl (l' := #[.val (.int p1), .val (.int p2), .val (.int (own_n p1)), .unset, .unset, .unset, .unset, .unset, .unset, .unset, .unset, .unset, .unset, .unset, .unset]) rfl ?_
        show Steps p.tables e below (s₁.setTop (mkF m 10 #[.val (.int p1), .val (.int p2), .val (.int (own_n p1)), .unset, .unset, .unset, .unset, .unset, .unset, .unset, .unset, .unset, .unset, .unset, .unset] [])) _
        refine XS.iloadN X0.here hx rfl (hb hby at_10) rfl ?_
        show Steps p.tables e below (s₁.setTop (mkF m 11 #[.val (.int p1), .val (.int p2), .val (.int (own_n p1)), .unset, .unset, .unset, .unset, .unset, .unset, .unset, .unset, .unset, .unset, .unset, .unset] [(.int (own_n p1))])) _
        refine XS.iconst X0.here hx rfl (hb hby at_11) ?_
        show Steps p.tables e below (s₁.setTop (mkF m 12 #[.val (.int p1), .val (.int p2), .val (.int (own_n p1)), .unset, .unset, .unset, .unset, .unset, .unset, .unset, .unset, .unset, .unset, .unset, .unset] [(.int (1 : Int32)), (.int (own_n p1))])) _
        refine XS.iadd X0.here hx rfl (hb hby at_12) rfl ?_
        show Steps p.tables e below (s₁.setTop (mkF m 13 #[.val (.int p1), .val (.int p2), .val (.int (own_n p1)), .unset, .unset, .unset, .unset, .unset, .unset, .unset, .unset, .unset, .unset, .unset, .unset] [(.int (own_N p1))])) _
        refine XS.istoreN X0.here hx rfl (hb hby at_13) rfl (l' := #[.val (.int p1), .val (.int p2), .val (.int (own_n p1)), .val (.int (own_N p1)), .unset, .unset, .unset, .unset, .unset, .unset, .unset, .unset, .unset, .unset, .unset]) rfl ?_
        show Steps p.tables e below (s₁.setTop (mkF m 14 #[.val (.int p1), .val (.int p2), .val (.int (own_n p1)), .val (.int (own_N p1)), .unset, .unset, .unset, .unset, .unset, .unset, .unset, .unset, .unset, .unset, .unset] [])) _
        refine XS.iloadN X0.here hx rfl (hb hby at_14) rfl ?_
        show Steps p.tables e below (s₁.setTop (mkF m 15 #[.val (.int p1), .val (.int p2), .val (.int (own_n p1)), .val (.int (own_N p1)), .unset, .unset, .unset, .unset, .unset, .unset, .unset, .unset, .unset, .unset, .unset] [(.int p2)])) _
        refine X0.ldcI hx hown (mvT hZ (hw _ (List.mem_of_getElem? (i := 0) rfl))) (g := (mkF m 15 #[.val (.int p1), .val (.int p2), .val (.int (own_n p1)), .val (.int (own_N p1)), .unset, .unset, .unset, .unset, .unset, .unset, .unset, .unset, .unset, .unset, .unset] [(.int p2)])) rfl (hb hby at_15) ?_
        show Steps p.tables e below (s₁.setTop (mkF m 17 #[.val (.int p1), .val (.int p2), .val (.int (own_n p1)), .val (.int (own_N p1)), .unset, .unset, .unset, .unset, .unset, .unset, .unset, .unset, .unset, .unset, .unset] [(.int (2147483647 : Int32)), (.int p2)])) _
        refine XS.iand X0.here hx rfl (hb hby at_17) rfl ?_
        show Steps p.tables e below (s₁.setTop (mkF m 18 #[.val (.int p1), .val (.int p2), .val (.int (own_n p1)), .val (.int (own_N p1)), .unset, .unset, .unset, .unset, .unset, .unset, .unset, .unset, .unset, .unset, .unset] [(.int (p2 &&& (2147483647 : Int32)))])) _
        refine XS.iloadN X0.here hx rfl (hb hby at_18) rfl ?_
        show Steps p.tables e below (s₁.setTop (mkF m 19 #[.val (.int p1), .val (.int p2), .val (.int (own_n p1)), .val (.int (own_N p1)), .unset, .unset, .unset, .unset, .unset, .unset, .unset, .unset, .unset, .unset, .unset] [(.int (own_N p1)), (.int (p2 &&& (2147483647 : Int32)))])) _
        refine iremM X0 hx rfl (hb hby at_19) rfl hN0 ?_
        show Steps p.tables e below (s₁.setTop (mkF m 20 #[.val (.int p1), .val (.int p2), .val (.int (own_n p1)), .val (.int (own_N p1)), .unset, .unset, .unset, .unset, .unset, .unset, .unset, .unset, .unset, .unset, .unset] [(.int ((p2 &&& (2147483647 : Int32)) % (own_N p1)))])) _
        refine XS.iconst X0.here hx rfl (hb hby at_20) ?_
        show Steps p.tables e below (s₁.setTop (mkF m 21 #[.val (.int p1), .val (.int p2), .val (.int (own_n p1)), .val (.int (own_N p1)), .unset, .unset, .unset, .unset, .unset, .unset, .unset, .unset, .unset, .unset, .unset] [(.int (1 : Int32)), (.int ((p2 &&& (2147483647 : Int32)) % (own_N p1)))])) _
        refine XS.iadd X0.here hx rfl (hb hby at_21) rfl ?_
        show Steps p.tables e below (s₁.setTop (mkF m 22 #[.val (.int p1), .val (.int p2), .val (.int (own_n p1)), .val (.int (own_N p1)), .unset, .unset, .unset, .unset, .unset, .unset, .unset, .unset, .unset, .unset, .unset] [(.int (own_j p1 p2))])) _
        refine XS.istore X0.here hx rfl (hb hby at_22) rfl (l' := #[.val (.int p1), .val (.int p2), .val (.int (own_n p1)), .val (.int (own_N p1)), .val (.int (own_j p1 p2)), .unset, .unset, .unset, .unset, .unset, .unset, .unset, .unset, .unset, .unset]) rfl ?_
        show Steps p.tables e below (s₁.setTop (mkF m 24 #[.val (.int p1), .val (.int p2), .val (.int (own_n p1)), .val (.int (own_N p1)), .val (.int (own_j p1 p2)), .unset, .unset, .unset, .unset, .unset, .unset, .unset, .unset, .unset, .unset] [])) _
        refine XS.iloadN X0.here hx rfl (hb hby at_24) rfl ?_
        show Steps p.tables e below (s₁.setTop (mkF m 25 #[.val (.int p1), .val (.int p2), .val (.int (own_n p1)), .val (.int (own_N p1)), .val (.int (own_j p1 p2)), .unset, .unset, .unset, .unset, .unset, .unset, .unset, .unset, .unset, .unset] [(.int (own_N p1))])) _
        refine XS.iload X0.here hx rfl (hb hby at_25) rfl ?_
        show Steps p.tables e below (s₁.setTop (mkF m 27 #[.val (.int p1), .val (.int p2), .val (.int (own_n p1)), .val (.int (own_N p1)), .val (.int (own_j p1 p2)), .unset, .unset, .unset, .unset, .unset, .unset, .unset, .unset, .unset, .unset] [(.int (own_j p1 p2)), (.int (own_N p1))])) _
        refine XS.isub X0.here hx rfl (hb hby at_27) rfl ?_
        show Steps p.tables e below (s₁.setTop (mkF m 28 #[.val (.int p1), .val (.int p2), .val (.int (own_n p1)), .val (.int (own_N p1)), .val (.int (own_j p1 p2)), .unset, .unset, .unset, .unset, .unset, .unset, .unset, .unset, .unset, .unset] [(.int ((own_N p1) - (own_j p1 p2)))])) _
        refine XS.istore X0.here hx rfl (hb hby at_28) rfl (l' := #[.val (.int p1), .val (.int p2), .val (.int (own_n p1)), .val (.int (own_N p1)), .val (.int (own_j p1 p2)), .val (.int ((own_N p1) - (own_j p1 p2))), .unset, .unset, .unset, .unset, .unset, .unset, .unset, .unset, .unset]) rfl ?_
        show Steps p.tables e below (s₁.setTop (mkF m 30 #[.val (.int p1), .val (.int p2), .val (.int (own_n p1)), .val (.int (own_N p1)), .val (.int (own_j p1 p2)), .val (.int ((own_N p1) - (own_j p1 p2))), .unset, .unset, .unset, .unset, .unset, .unset, .unset, .unset, .unset] [])) _
        refine XS.iloadN X0.here hx rfl (hb hby at_30) rfl ?_
        show Steps p.tables e below (s₁.setTop (mkF m 31 #[.val (.int p1), .val (.int p2), .val (.int (own_n p1)), .val (.int (own_N p1)), .val (.int (own_j p1 p2)), .val (.int ((own_N p1) - (own_j p1 p2))), .unset, .unset, .unset, .unset, .unset, .unset, .unset, .unset, .unset] [(.int (own_n p1))])) _
        refine XS.iload X0.here hx rfl (hb hby at_31) rfl ?_
        show Steps p.tables e below (s₁.setTop (mkF m 33 #[.val (.int p1), .val (.int p2), .val (.int (own_n p1)), .val (.int (own_N p1)), .val (.int (own_j p1 p2)), .val (.int ((own_N p1) - (own_j p1 p2))), .unset, .unset, .unset, .unset, .unset, .unset, .unset, .unset, .unset] [(.int (own_j p1 p2)), (.int (own_n p1))])) _
        refine st1 _ ?_
        show Steps p.tables e below (T1.setTop (mkF m 36 #[.val (.int p1), .val (.int p2), .val (.int (own_n p1)), .val (.int (own_N p1)), .val (.int (own_j p1 p2)), .val (.int ((own_N p1) - (own_j p1 p2))), .unset, .unset, .unset, .unset, .unset, .unset, .unset, .unset, .unset] [(.double (own_mean (own_n p1) (own_j p1 p2)))])) _
        refine XS.dstore X1.here hx rfl (hb hby at_36) rfl (l' := #[.val (.int p1), .val (.int p2), .val (.int (own_n p1)), .val (.int (own_N p1)), .val (.int (own_j p1 p2)), .val (.int ((own_N p1) - (own_j p1 p2))), .val (.double (own_mean (own_n p1) (own_j p1 p2))), .second, .unset, .unset, .unset, .unset, .unset, .unset, .unset]) rfl ?_
        show Steps p.tables e below (T1.setTop (mkF m 38 #[.val (.int p1), .val (.int p2), .val (.int (own_n p1)), .val (.int (own_N p1)), .val (.int (own_j p1 p2)), .val (.int ((own_N p1) - (own_j p1 p2))), .val (.double (own_mean (own_n p1) (own_j p1 p2))), .second, .unset, .unset, .unset, .unset, .unset, .unset, .unset] [])) _
        refine XS.dload X1.here hx rfl (hb hby at_38) rfl ?_
        show Steps p.tables e below (T1.setTop (mkF m 40 #[.val (.int p1), .val (.int p2), .val (.int (own_n p1)), .val (.int (own_N p1)), .val (.int (own_j p1 p2)), .val (.int ((own_N p1) - (own_j p1 p2))), .val (.double (own_mean (own_n p1) (own_j p1 p2))), .second, .unset, .unset, .unset, .unset, .unset, .unset, .unset] [(.double (own_mean (own_n p1) (own_j p1 p2)))])) _
        refine XS.iloadN X1.here hx rfl (hb hby at_40) rfl ?_
        show Steps p.tables e below (T1.setTop (mkF m 41 #[.val (.int p1), .val (.int p2), .val (.int (own_n p1)), .val (.int (own_N p1)), .val (.int (own_j p1 p2)), .val (.int ((own_N p1) - (own_j p1 p2))), .val (.double (own_mean (own_n p1) (own_j p1 p2))), .second, .unset, .unset, .unset, .unset, .unset, .unset, .unset] [(.int (own_N p1)), (.double (own_mean (own_n p1) (own_j p1 p2)))])) _
        refine XS.i2dS X1.here hx rfl (v := (FP.i2d (own_N p1))) (hb hby at_41) rfl rfl ?_
        show Steps p.tables e below (T1.setTop (mkF m 42 #[.val (.int p1), .val (.int p2), .val (.int (own_n p1)), .val (.int (own_N p1)), .val (.int (own_j p1 p2)), .val (.int ((own_N p1) - (own_j p1 p2))), .val (.double (own_mean (own_n p1) (own_j p1 p2))), .second, .unset, .unset, .unset, .unset, .unset, .unset, .unset] [(.double (FP.i2d (own_N p1))), (.double (own_mean (own_n p1) (own_j p1 p2)))])) _
        refine XS.dmulS X1.here hx rfl (v := (own_back (own_n p1) (own_j p1 p2))) (hb hby at_42) rfl (own_nn (own_diff_f ok).1) rfl ?_
        show Steps p.tables e below (T1.setTop (mkF m 43 #[.val (.int p1), .val (.int p2), .val (.int (own_n p1)), .val (.int (own_N p1)), .val (.int (own_j p1 p2)), .val (.int ((own_N p1) - (own_j p1 p2))), .val (.double (own_mean (own_n p1) (own_j p1 p2))), .second, .unset, .unset, .unset, .unset, .unset, .unset, .unset] [(.double (own_back (own_n p1) (own_j p1 p2)))])) _
        refine XS.iload X1.here hx rfl (hb hby at_43) rfl ?_
        show Steps p.tables e below (T1.setTop (mkF m 45 #[.val (.int p1), .val (.int p2), .val (.int (own_n p1)), .val (.int (own_N p1)), .val (.int (own_j p1 p2)), .val (.int ((own_N p1) - (own_j p1 p2))), .val (.double (own_mean (own_n p1) (own_j p1 p2))), .second, .unset, .unset, .unset, .unset, .unset, .unset, .unset] [(.int ((own_N p1) - (own_j p1 p2))), (.double (own_back (own_n p1) (own_j p1 p2)))])) _
        refine XS.i2dS X1.here hx rfl (v := (FP.i2d ((own_N p1) - (own_j p1 p2)))) (hb hby at_45) rfl rfl ?_
        show Steps p.tables e below (T1.setTop (mkF m 46 #[.val (.int p1), .val (.int p2), .val (.int (own_n p1)), .val (.int (own_N p1)), .val (.int (own_j p1 p2)), .val (.int ((own_N p1) - (own_j p1 p2))), .val (.double (own_mean (own_n p1) (own_j p1 p2))), .second, .unset, .unset, .unset, .unset, .unset, .unset, .unset] [(.double (FP.i2d ((own_N p1) - (own_j p1 p2)))), (.double (own_back (own_n p1) (own_j p1 p2)))])) _
        refine XS.dsubS X1.here hx rfl (v := (own_diff (own_n p1) (own_j p1 p2))) (hb hby at_46) rfl (own_nn (own_diff_f ok).2.1) rfl ?_
        show Steps p.tables e below (T1.setTop (mkF m 47 #[.val (.int p1), .val (.int p2), .val (.int (own_n p1)), .val (.int (own_N p1)), .val (.int (own_j p1 p2)), .val (.int ((own_N p1) - (own_j p1 p2))), .val (.double (own_mean (own_n p1) (own_j p1 p2))), .second, .unset, .unset, .unset, .unset, .unset, .unset, .unset] [(.double (own_diff (own_n p1) (own_j p1 p2)))])) _
        refine XS.dstore X1.here hx rfl (hb hby at_47) rfl (l' := #[.val (.int p1), .val (.int p2), .val (.int (own_n p1)), .val (.int (own_N p1)), .val (.int (own_j p1 p2)), .val (.int ((own_N p1) - (own_j p1 p2))), .val (.double (own_mean (own_n p1) (own_j p1 p2))), .second, .val (.double (own_diff (own_n p1) (own_j p1 p2))), .second, .unset, .unset, .unset, .unset, .unset]) rfl ?_
        show Steps p.tables e below (T1.setTop (mkF m 49 #[.val (.int p1), .val (.int p2), .val (.int (own_n p1)), .val (.int (own_N p1)), .val (.int (own_j p1 p2)), .val (.int ((own_N p1) - (own_j p1 p2))), .val (.double (own_mean (own_n p1) (own_j p1 p2))), .second, .val (.double (own_diff (own_n p1) (own_j p1 p2))), .second, .unset, .unset, .unset, .unset, .unset] [])) _
        refine X1.ldc2DoubleC hx hown (mvT hZ (hw _ (List.mem_of_getElem? (i := 6) rfl))) (g := (mkF m 49 #[.val (.int p1), .val (.int p2), .val (.int (own_n p1)), .val (.int (own_N p1)), .val (.int (own_j p1 p2)), .val (.int ((own_N p1) - (own_j p1 p2))), .val (.double (own_mean (own_n p1) (own_j p1 p2))), .second, .val (.double (own_diff (own_n p1) (own_j p1 p2))), .second, .unset, .unset, .unset, .unset, .unset] [])) rfl (hb hby at_49) _ ?_
        show Steps p.tables e below (T1.setTop (mkF m 52 #[.val (.int p1), .val (.int p2), .val (.int (own_n p1)), .val (.int (own_N p1)), .val (.int (own_j p1 p2)), .val (.int ((own_N p1) - (own_j p1 p2))), .val (.double (own_mean (own_n p1) (own_j p1 p2))), .second, .val (.double (own_diff (own_n p1) (own_j p1 p2))), .second, .unset, .unset, .unset, .unset, .unset] [(.double (4517110426252607488 : UInt64))])) _
        refine XS.dstore X1.here hx rfl (hb hby at_52) rfl (l' := #[.val (.int p1), .val (.int p2), .val (.int (own_n p1)), .val (.int (own_N p1)), .val (.int (own_j p1 p2)), .val (.int ((own_N p1) - (own_j p1 p2))), .val (.double (own_mean (own_n p1) (own_j p1 p2))), .second, .val (.double (own_diff (own_n p1) (own_j p1 p2))), .second, .val (.double (4517110426252607488 : UInt64)), .second, .unset, .unset, .unset]) rfl ?_
        show Steps p.tables e below (T1.setTop (mkF m 54 #[.val (.int p1), .val (.int p2), .val (.int (own_n p1)), .val (.int (own_N p1)), .val (.int (own_j p1 p2)), .val (.int ((own_N p1) - (own_j p1 p2))), .val (.double (own_mean (own_n p1) (own_j p1 p2))), .second, .val (.double (own_diff (own_n p1) (own_j p1 p2))), .second, .val (.double (4517110426252607488 : UInt64)), .second, .unset, .unset, .unset] [])) _
        refine XS.dload X1.here hx rfl (hb hby at_54) rfl ?_
        show Steps p.tables e below (T1.setTop (mkF m 56 #[.val (.int p1), .val (.int p2), .val (.int (own_n p1)), .val (.int (own_N p1)), .val (.int (own_j p1 p2)), .val (.int ((own_N p1) - (own_j p1 p2))), .val (.double (own_mean (own_n p1) (own_j p1 p2))), .second, .val (.double (own_diff (own_n p1) (own_j p1 p2))), .second, .val (.double (4517110426252607488 : UInt64)), .second, .unset, .unset, .unset] [(.double (own_diff (own_n p1) (own_j p1 p2)))])) _
        refine XS.dload X1.here hx rfl (hb hby at_56) rfl ?_
        show Steps p.tables e below (T1.setTop (mkF m 58 #[.val (.int p1), .val (.int p2), .val (.int (own_n p1)), .val (.int (own_N p1)), .val (.int (own_j p1 p2)), .val (.int ((own_N p1) - (own_j p1 p2))), .val (.double (own_mean (own_n p1) (own_j p1 p2))), .second, .val (.double (own_diff (own_n p1) (own_j p1 p2))), .second, .val (.double (4517110426252607488 : UInt64)), .second, .unset, .unset, .unset] [(.double (4517110426252607488 : UInt64)), (.double (own_diff (own_n p1) (own_j p1 p2)))])) _
        refine XS.dcmpS X1.here hx rfl (v := (cmpValue (FP.dcmp (own_diff (own_n p1) (own_j p1 p2)) own_eps) .g)) (hb hby at_58) rfl rfl ?_
        show Steps p.tables e below (T1.setTop (mkF m 59 #[.val (.int p1), .val (.int p2), .val (.int (own_n p1)), .val (.int (own_N p1)), .val (.int (own_j p1 p2)), .val (.int ((own_N p1) - (own_j p1 p2))), .val (.double (own_mean (own_n p1) (own_j p1 p2))), .second, .val (.double (own_diff (own_n p1) (own_j p1 p2))), .second, .val (.double (4517110426252607488 : UInt64)), .second, .unset, .unset, .unset] [(.int (cmpValue (FP.dcmp (own_diff (own_n p1) (own_j p1 p2)) own_eps) .g))])) _
        refine XS.ifNo X1.here hx rfl (hb hby at_59) rfl ((if0 _ _).trans (flt (own_le1 ok)).2.2.1) ?_
        show Steps p.tables e below (T1.setTop (mkF m 62 #[.val (.int p1), .val (.int p2), .val (.int (own_n p1)), .val (.int (own_N p1)), .val (.int (own_j p1 p2)), .val (.int ((own_N p1) - (own_j p1 p2))), .val (.double (own_mean (own_n p1) (own_j p1 p2))), .second, .val (.double (own_diff (own_n p1) (own_j p1 p2))), .second, .val (.double (4517110426252607488 : UInt64)), .second, .unset, .unset, .unset] [])) _
        refine XS.dload X1.here hx rfl (hb hby at_62) rfl ?_
        show Steps p.tables e below (T1.setTop (mkF m 64 #[.val (.int p1), .val (.int p2), .val (.int (own_n p1)), .val (.int (own_N p1)), .val (.int (own_j p1 p2)), .val (.int ((own_N p1) - (own_j p1 p2))), .val (.double (own_mean (own_n p1) (own_j p1 p2))), .second, .val (.double (own_diff (own_n p1) (own_j p1 p2))), .second, .val (.double (4517110426252607488 : UInt64)), .second, .unset, .unset, .unset] [(.double (4517110426252607488 : UInt64))])) _
        refine XS.dnegS X1.here hx rfl (v := (FP.dneg (4517110426252607488 : UInt64))) (hb hby at_64) rfl rfl ?_
        show Steps p.tables e below (T1.setTop (mkF m 65 #[.val (.int p1), .val (.int p2), .val (.int (own_n p1)), .val (.int (own_N p1)), .val (.int (own_j p1 p2)), .val (.int ((own_N p1) - (own_j p1 p2))), .val (.double (own_mean (own_n p1) (own_j p1 p2))), .second, .val (.double (own_diff (own_n p1) (own_j p1 p2))), .second, .val (.double (4517110426252607488 : UInt64)), .second, .unset, .unset, .unset] [(.double (FP.dneg (4517110426252607488 : UInt64)))])) _
        refine XS.dload X1.here hx rfl (hb hby at_65) rfl ?_
        show Steps p.tables e below (T1.setTop (mkF m 67 #[.val (.int p1), .val (.int p2), .val (.int (own_n p1)), .val (.int (own_N p1)), .val (.int (own_j p1 p2)), .val (.int ((own_N p1) - (own_j p1 p2))), .val (.double (own_mean (own_n p1) (own_j p1 p2))), .second, .val (.double (own_diff (own_n p1) (own_j p1 p2))), .second, .val (.double (4517110426252607488 : UInt64)), .second, .unset, .unset, .unset] [(.double (own_diff (own_n p1) (own_j p1 p2))), (.double (FP.dneg (4517110426252607488 : UInt64)))])) _
        refine XS.dcmpS X1.here hx rfl (v := (cmpValue (FP.dcmp (FP.dneg own_eps) (own_diff (own_n p1) (own_j p1 p2))) .g)) (hb hby at_67) rfl rfl ?_
        show Steps p.tables e below (T1.setTop (mkF m 68 #[.val (.int p1), .val (.int p2), .val (.int (own_n p1)), .val (.int (own_N p1)), .val (.int (own_j p1 p2)), .val (.int ((own_N p1) - (own_j p1 p2))), .val (.double (own_mean (own_n p1) (own_j p1 p2))), .second, .val (.double (own_diff (own_n p1) (own_j p1 p2))), .second, .val (.double (4517110426252607488 : UInt64)), .second, .unset, .unset, .unset] [(.int (cmpValue (FP.dcmp (FP.dneg own_eps) (own_diff (own_n p1) (own_j p1 p2))) .g))])) _
        refine XS.ifNo X1.here hx rfl (hb hby at_68) rfl ((if0 _ _).trans (flt (own_le2 ok)).2.2.1) ?_
        show Steps p.tables e below (T1.setTop (mkF m 71 #[.val (.int p1), .val (.int p2), .val (.int (own_n p1)), .val (.int (own_N p1)), .val (.int (own_j p1 p2)), .val (.int ((own_N p1) - (own_j p1 p2))), .val (.double (own_mean (own_n p1) (own_j p1 p2))), .second, .val (.double (own_diff (own_n p1) (own_j p1 p2))), .second, .val (.double (4517110426252607488 : UInt64)), .second, .unset, .unset, .unset] [])) _
        refine XS.iconst X1.here hx rfl (hb hby at_71) ?_
        show Steps p.tables e below (T1.setTop (mkF m 72 #[.val (.int p1), .val (.int p2), .val (.int (own_n p1)), .val (.int (own_N p1)), .val (.int (own_j p1 p2)), .val (.int ((own_N p1) - (own_j p1 p2))), .val (.double (own_mean (own_n p1) (own_j p1 p2))), .second, .val (.double (own_diff (own_n p1) (own_j p1 p2))), .second, .val (.double (4517110426252607488 : UInt64)), .second, .unset, .unset, .unset] [(.int (1 : Int32))])) _
        refine XS.goto X1.here hx rfl (pc0 := 72) (pc' := 76) rfl (hb hby at_72) (by decide) (by decide) ?_
        show Steps p.tables e below (T1.setTop (mkF m 76 #[.val (.int p1), .val (.int p2), .val (.int (own_n p1)), .val (.int (own_N p1)), .val (.int (own_j p1 p2)), .val (.int ((own_N p1) - (own_j p1 p2))), .val (.double (own_mean (own_n p1) (own_j p1 p2))), .second, .val (.double (own_diff (own_n p1) (own_j p1 p2))), .second, .val (.double (4517110426252607488 : UInt64)), .second, .unset, .unset, .unset] [(.int (1 : Int32))])) _
        refine XS.istore X1.here hx rfl (hb hby at_76) rfl (l' := #[.val (.int p1), .val (.int p2), .val (.int (own_n p1)), .val (.int (own_N p1)), .val (.int (own_j p1 p2)), .val (.int ((own_N p1) - (own_j p1 p2))), .val (.double (own_mean (own_n p1) (own_j p1 p2))), .second, .val (.double (own_diff (own_n p1) (own_j p1 p2))), .second, .val (.double (4517110426252607488 : UInt64)), .second, .val (.int (1 : Int32)), .unset, .unset]) rfl ?_
        show Steps p.tables e below (T1.setTop (mkF m 78 #[.val (.int p1), .val (.int p2), .val (.int (own_n p1)), .val (.int (own_N p1)), .val (.int (own_j p1 p2)), .val (.int ((own_N p1) - (own_j p1 p2))), .val (.double (own_mean (own_n p1) (own_j p1 p2))), .second, .val (.double (own_diff (own_n p1) (own_j p1 p2))), .second, .val (.double (4517110426252607488 : UInt64)), .second, .val (.int (1 : Int32)), .unset, .unset] [])) _
        refine XS.iload X1.here hx rfl (hb hby at_78) rfl ?_
        show Steps p.tables e below (T1.setTop (mkF m 80 #[.val (.int p1), .val (.int p2), .val (.int (own_n p1)), .val (.int (own_N p1)), .val (.int (own_j p1 p2)), .val (.int ((own_N p1) - (own_j p1 p2))), .val (.double (own_mean (own_n p1) (own_j p1 p2))), .second, .val (.double (own_diff (own_n p1) (own_j p1 p2))), .second, .val (.double (4517110426252607488 : UInt64)), .second, .val (.int (1 : Int32)), .unset, .unset] [(.int (1 : Int32))])) _
        refine XS.ifNo X1.here hx rfl (hb hby at_80) rfl (by decide) ?_
        show Steps p.tables e below (T1.setTop (mkF m 83 #[.val (.int p1), .val (.int p2), .val (.int (own_n p1)), .val (.int (own_N p1)), .val (.int (own_j p1 p2)), .val (.int ((own_N p1) - (own_j p1 p2))), .val (.double (own_mean (own_n p1) (own_j p1 p2))), .second, .val (.double (own_diff (own_n p1) (own_j p1 p2))), .second, .val (.double (4517110426252607488 : UInt64)), .second, .val (.int (1 : Int32)), .unset, .unset] [])) _
        refine XS.dload X1.here hx rfl (hb hby at_83) rfl ?_
        show Steps p.tables e below (T1.setTop (mkF m 85 #[.val (.int p1), .val (.int p2), .val (.int (own_n p1)), .val (.int (own_N p1)), .val (.int (own_j p1 p2)), .val (.int ((own_N p1) - (own_j p1 p2))), .val (.double (own_mean (own_n p1) (own_j p1 p2))), .second, .val (.double (own_diff (own_n p1) (own_j p1 p2))), .second, .val (.double (4517110426252607488 : UInt64)), .second, .val (.int (1 : Int32)), .unset, .unset] [(.double (own_mean (own_n p1) (own_j p1 p2)))])) _
        refine XS.dconst0 X1.here hx rfl (v := FP.dconst0) (hb hby at_85) rfl ?_
        show Steps p.tables e below (T1.setTop (mkF m 86 #[.val (.int p1), .val (.int p2), .val (.int (own_n p1)), .val (.int (own_N p1)), .val (.int (own_j p1 p2)), .val (.int ((own_N p1) - (own_j p1 p2))), .val (.double (own_mean (own_n p1) (own_j p1 p2))), .second, .val (.double (own_diff (own_n p1) (own_j p1 p2))), .second, .val (.double (4517110426252607488 : UInt64)), .second, .val (.int (1 : Int32)), .unset, .unset] [(.double FP.dconst0), (.double (own_mean (own_n p1) (own_j p1 p2)))])) _
        refine XS.dcmpS X1.here hx rfl (v := (1 : Int32)) (hb hby at_86) rfl (own_above ok hpos) ?_
        show Steps p.tables e below (T1.setTop (mkF m 87 #[.val (.int p1), .val (.int p2), .val (.int (own_n p1)), .val (.int (own_N p1)), .val (.int (own_j p1 p2)), .val (.int ((own_N p1) - (own_j p1 p2))), .val (.double (own_mean (own_n p1) (own_j p1 p2))), .second, .val (.double (own_diff (own_n p1) (own_j p1 p2))), .second, .val (.double (4517110426252607488 : UInt64)), .second, .val (.int (1 : Int32)), .unset, .unset] [(.int (1 : Int32))])) _
        refine XS.ifYes X1.here hx rfl (pc0 := 87) (pc' := 94) rfl (hb hby at_87) rfl (by decide) (by decide) (by decide) ?_
        show Steps p.tables e below (T1.setTop (mkF m 94 #[.val (.int p1), .val (.int p2), .val (.int (own_n p1)), .val (.int (own_N p1)), .val (.int (own_j p1 p2)), .val (.int ((own_N p1) - (own_j p1 p2))), .val (.double (own_mean (own_n p1) (own_j p1 p2))), .second, .val (.double (own_diff (own_n p1) (own_j p1 p2))), .second, .val (.double (4517110426252607488 : UInt64)), .second, .val (.int (1 : Int32)), .unset, .unset] [])) _
        refine XS.iconst X1.here hx rfl (hb hby at_94) ?_
        show Steps p.tables e below (T1.setTop (mkF m 95 #[.val (.int p1), .val (.int p2), .val (.int (own_n p1)), .val (.int (own_N p1)), .val (.int (own_j p1 p2)), .val (.int ((own_N p1) - (own_j p1 p2))), .val (.double (own_mean (own_n p1) (own_j p1 p2))), .second, .val (.double (own_diff (own_n p1) (own_j p1 p2))), .second, .val (.double (4517110426252607488 : UInt64)), .second, .val (.int (1 : Int32)), .unset, .unset] [(.int (0 : Int32))])) _
        refine XS.iload X1.here hx rfl (hb hby at_95) rfl ?_
        show Steps p.tables e below (T1.setTop (mkF m 97 #[.val (.int p1), .val (.int p2), .val (.int (own_n p1)), .val (.int (own_N p1)), .val (.int (own_j p1 p2)), .val (.int ((own_N p1) - (own_j p1 p2))), .val (.double (own_mean (own_n p1) (own_j p1 p2))), .second, .val (.double (own_diff (own_n p1) (own_j p1 p2))), .second, .val (.double (4517110426252607488 : UInt64)), .second, .val (.int (1 : Int32)), .unset, .unset] [(.int (own_j p1 p2)), (.int (0 : Int32))])) _
        refine XS.iloadN X1.here hx rfl (hb hby at_97) rfl ?_
        show Steps p.tables e below (T1.setTop (mkF m 98 #[.val (.int p1), .val (.int p2), .val (.int (own_n p1)), .val (.int (own_N p1)), .val (.int (own_j p1 p2)), .val (.int ((own_N p1) - (own_j p1 p2))), .val (.double (own_mean (own_n p1) (own_j p1 p2))), .second, .val (.double (own_diff (own_n p1) (own_j p1 p2))), .second, .val (.double (4517110426252607488 : UInt64)), .second, .val (.int (1 : Int32)), .unset, .unset] [(.int (own_N p1)), (.int (own_j p1 p2)), (.int (0 : Int32))])) _
        refine XS.icmpYes X1.here hx rfl (pc0 := 98) (pc' := 105) rfl (hb hby at_98) rfl (feq hne).2 (by decide) (by decide) ?_
        show Steps p.tables e below (T1.setTop (mkF m 105 #[.val (.int p1), .val (.int p2), .val (.int (own_n p1)), .val (.int (own_N p1)), .val (.int (own_j p1 p2)), .val (.int ((own_N p1) - (own_j p1 p2))), .val (.double (own_mean (own_n p1) (own_j p1 p2))), .second, .val (.double (own_diff (own_n p1) (own_j p1 p2))), .second, .val (.double (4517110426252607488 : UInt64)), .second, .val (.int (1 : Int32)), .unset, .unset] [(.int (0 : Int32))])) _
        refine XS.iconst X1.here hx rfl (hb hby at_105) ?_
        show Steps p.tables e below (T1.setTop (mkF m 106 #[.val (.int p1), .val (.int p2), .val (.int (own_n p1)), .val (.int (own_N p1)), .val (.int (own_j p1 p2)), .val (.int ((own_N p1) - (own_j p1 p2))), .val (.double (own_mean (own_n p1) (own_j p1 p2))), .second, .val (.double (own_diff (own_n p1) (own_j p1 p2))), .second, .val (.double (4517110426252607488 : UInt64)), .second, .val (.int (1 : Int32)), .unset, .unset] [(.int (0 : Int32)), (.int (0 : Int32))])) _
        refine XS.icmpNo X1.here hx rfl (hb hby at_106) rfl (by decide) ?_
        show Steps p.tables e below (T1.setTop (mkF m 109 #[.val (.int p1), .val (.int p2), .val (.int (own_n p1)), .val (.int (own_N p1)), .val (.int (own_j p1 p2)), .val (.int ((own_N p1) - (own_j p1 p2))), .val (.double (own_mean (own_n p1) (own_j p1 p2))), .second, .val (.double (own_diff (own_n p1) (own_j p1 p2))), .second, .val (.double (4517110426252607488 : UInt64)), .second, .val (.int (1 : Int32)), .unset, .unset] [])) _
        refine XS.iconst X1.here hx rfl (hb hby at_109) ?_
        show Steps p.tables e below (T1.setTop (mkF m 110 #[.val (.int p1), .val (.int p2), .val (.int (own_n p1)), .val (.int (own_N p1)), .val (.int (own_j p1 p2)), .val (.int ((own_N p1) - (own_j p1 p2))), .val (.double (own_mean (own_n p1) (own_j p1 p2))), .second, .val (.double (own_diff (own_n p1) (own_j p1 p2))), .second, .val (.double (4517110426252607488 : UInt64)), .second, .val (.int (1 : Int32)), .unset, .unset] [(.int (1 : Int32))])) _
        refine XS.goto X1.here hx rfl (pc0 := 110) (pc' := 114) rfl (hb hby at_110) (by decide) (by decide) ?_
        show Steps p.tables e below (T1.setTop (mkF m 114 #[.val (.int p1), .val (.int p2), .val (.int (own_n p1)), .val (.int (own_N p1)), .val (.int (own_j p1 p2)), .val (.int ((own_N p1) - (own_j p1 p2))), .val (.double (own_mean (own_n p1) (own_j p1 p2))), .second, .val (.double (own_diff (own_n p1) (own_j p1 p2))), .second, .val (.double (4517110426252607488 : UInt64)), .second, .val (.int (1 : Int32)), .unset, .unset] [(.int (1 : Int32))])) _
        refine XS.istore X1.here hx rfl (hb hby at_114) rfl (l' := #[.val (.int p1), .val (.int p2), .val (.int (own_n p1)), .val (.int (own_N p1)), .val (.int (own_j p1 p2)), .val (.int ((own_N p1) - (own_j p1 p2))), .val (.double (own_mean (own_n p1) (own_j p1 p2))), .second, .val (.double (own_diff (own_n p1) (own_j p1 p2))), .second, .val (.double (4517110426252607488 : UInt64)), .second, .val (.int (1 : Int32)), .unset, .unset]) rfl ?_
        show Steps p.tables e below (T1.setTop (mkF m 116 #[.val (.int p1), .val (.int p2), .val (.int (own_n p1)), .val (.int (own_N p1)), .val (.int (own_j p1 p2)), .val (.int ((own_N p1) - (own_j p1 p2))), .val (.double (own_mean (own_n p1) (own_j p1 p2))), .second, .val (.double (own_diff (own_n p1) (own_j p1 p2))), .second, .val (.double (4517110426252607488 : UInt64)), .second, .val (.int (1 : Int32)), .unset, .unset] [])) _
        refine XS.iload X1.here hx rfl (hb hby at_116) rfl ?_
        show Steps p.tables e below (T1.setTop (mkF m 118 #[.val (.int p1), .val (.int p2), .val (.int (own_n p1)), .val (.int (own_N p1)), .val (.int (own_j p1 p2)), .val (.int ((own_N p1) - (own_j p1 p2))), .val (.double (own_mean (own_n p1) (own_j p1 p2))), .second, .val (.double (own_diff (own_n p1) (own_j p1 p2))), .second, .val (.double (4517110426252607488 : UInt64)), .second, .val (.int (1 : Int32)), .unset, .unset] [(.int (own_j p1 p2))])) _
        refine XS.iloadN X1.here hx rfl (hb hby at_118) rfl ?_
        show Steps p.tables e below (T1.setTop (mkF m 119 #[.val (.int p1), .val (.int p2), .val (.int (own_n p1)), .val (.int (own_N p1)), .val (.int (own_j p1 p2)), .val (.int ((own_N p1) - (own_j p1 p2))), .val (.double (own_mean (own_n p1) (own_j p1 p2))), .second, .val (.double (own_diff (own_n p1) (own_j p1 p2))), .second, .val (.double (4517110426252607488 : UInt64)), .second, .val (.int (1 : Int32)), .unset, .unset] [(.int (own_n p1)), (.int (own_j p1 p2))])) _
        refine XS.icmpNo X1.here hx rfl (hb hby at_119) rfl (flt hle).2.2.1 ?_
        show Steps p.tables e below (T1.setTop (mkF m 122 #[.val (.int p1), .val (.int p2), .val (.int (own_n p1)), .val (.int (own_N p1)), .val (.int (own_j p1 p2)), .val (.int ((own_N p1) - (own_j p1 p2))), .val (.double (own_mean (own_n p1) (own_j p1 p2))), .second, .val (.double (own_diff (own_n p1) (own_j p1 p2))), .second, .val (.double (4517110426252607488 : UInt64)), .second, .val (.int (1 : Int32)), .unset, .unset] [])) _
        refine XS.iloadN X1.here hx rfl (hb hby at_122) rfl ?_
        show Steps p.tables e below (T1.setTop (mkF m 123 #[.val (.int p1), .val (.int p2), .val (.int (own_n p1)), .val (.int (own_N p1)), .val (.int (own_j p1 p2)), .val (.int ((own_N p1) - (own_j p1 p2))), .val (.double (own_mean (own_n p1) (own_j p1 p2))), .second, .val (.double (own_diff (own_n p1) (own_j p1 p2))), .second, .val (.double (4517110426252607488 : UInt64)), .second, .val (.int (1 : Int32)), .unset, .unset] [(.int (own_n p1))])) _
        refine XS.iload X1.here hx rfl (hb hby at_123) rfl ?_
        show Steps p.tables e below (T1.setTop (mkF m 125 #[.val (.int p1), .val (.int p2), .val (.int (own_n p1)), .val (.int (own_N p1)), .val (.int (own_j p1 p2)), .val (.int ((own_N p1) - (own_j p1 p2))), .val (.double (own_mean (own_n p1) (own_j p1 p2))), .second, .val (.double (own_diff (own_n p1) (own_j p1 p2))), .second, .val (.double (4517110426252607488 : UInt64)), .second, .val (.int (1 : Int32)), .unset, .unset] [(.int (own_j p1 p2)), (.int (own_n p1))])) _
        refine XS.iconst X1.here hx rfl (hb hby at_125) ?_
        show Steps p.tables e below (T1.setTop (mkF m 126 #[.val (.int p1), .val (.int p2), .val (.int (own_n p1)), .val (.int (own_N p1)), .val (.int (own_j p1 p2)), .val (.int ((own_N p1) - (own_j p1 p2))), .val (.double (own_mean (own_n p1) (own_j p1 p2))), .second, .val (.double (own_diff (own_n p1) (own_j p1 p2))), .second, .val (.double (4517110426252607488 : UInt64)), .second, .val (.int (1 : Int32)), .unset, .unset] [(.int (1 : Int32)), (.int (own_j p1 p2)), (.int (own_n p1))])) _
        refine XS.iadd X1.here hx rfl (hb hby at_126) rfl ?_
        show Steps p.tables e below (T1.setTop (mkF m 127 #[.val (.int p1), .val (.int p2), .val (.int (own_n p1)), .val (.int (own_N p1)), .val (.int (own_j p1 p2)), .val (.int ((own_N p1) - (own_j p1 p2))), .val (.double (own_mean (own_n p1) (own_j p1 p2))), .second, .val (.double (own_diff (own_n p1) (own_j p1 p2))), .second, .val (.double (4517110426252607488 : UInt64)), .second, .val (.int (1 : Int32)), .unset, .unset] [(.int ((own_j p1 p2) + (1 : Int32))), (.int (own_n p1))])) _
        refine st2 _ ?_
        show Steps p.tables e below (T2.setTop (mkF m 130 #[.val (.int p1), .val (.int p2), .val (.int (own_n p1)), .val (.int (own_N p1)), .val (.int (own_j p1 p2)), .val (.int ((own_N p1) - (own_j p1 p2))), .val (.double (own_mean (own_n p1) (own_j p1 p2))), .second, .val (.double (own_diff (own_n p1) (own_j p1 p2))), .second, .val (.double (4517110426252607488 : UInt64)), .second, .val (.int (1 : Int32)), .unset, .unset] [(.double (own_mean (own_n p1) ((own_j p1 p2) + (1 : Int32))))])) _
        refine XS.dstore X2.here hx rfl (hb hby at_130) rfl (l' := #[.val (.int p1), .val (.int p2), .val (.int (own_n p1)), .val (.int (own_N p1)), .val (.int (own_j p1 p2)), .val (.int ((own_N p1) - (own_j p1 p2))), .val (.double (own_mean (own_n p1) (own_j p1 p2))), .second, .val (.double (own_diff (own_n p1) (own_j p1 p2))), .second, .val (.double (4517110426252607488 : UInt64)), .second, .val (.int (1 : Int32)), .val (.double (own_mean (own_n p1) ((own_j p1 p2) + (1 : Int32)))), .second]) rfl ?_
        show Steps p.tables e below (T2.setTop (mkF m 132 #[.val (.int p1), .val (.int p2), .val (.int (own_n p1)), .val (.int (own_N p1)), .val (.int (own_j p1 p2)), .val (.int ((own_N p1) - (own_j p1 p2))), .val (.double (own_mean (own_n p1) (own_j p1 p2))), .second, .val (.double (own_diff (own_n p1) (own_j p1 p2))), .second, .val (.double (4517110426252607488 : UInt64)), .second, .val (.int (1 : Int32)), .val (.double (own_mean (own_n p1) ((own_j p1 p2) + (1 : Int32)))), .second] [])) _
        refine XS.iload X2.here hx rfl (hb hby at_132) rfl ?_
        show Steps p.tables e below (T2.setTop (mkF m 134 #[.val (.int p1), .val (.int p2), .val (.int (own_n p1)), .val (.int (own_N p1)), .val (.int (own_j p1 p2)), .val (.int ((own_N p1) - (own_j p1 p2))), .val (.double (own_mean (own_n p1) (own_j p1 p2))), .second, .val (.double (own_diff (own_n p1) (own_j p1 p2))), .second, .val (.double (4517110426252607488 : UInt64)), .second, .val (.int (1 : Int32)), .val (.double (own_mean (own_n p1) ((own_j p1 p2) + (1 : Int32)))), .second] [(.int (1 : Int32))])) _
        refine XS.ifNo X2.here hx rfl (hb hby at_134) rfl (by decide) ?_
        show Steps p.tables e below (T2.setTop (mkF m 137 #[.val (.int p1), .val (.int p2), .val (.int (own_n p1)), .val (.int (own_N p1)), .val (.int (own_j p1 p2)), .val (.int ((own_N p1) - (own_j p1 p2))), .val (.double (own_mean (own_n p1) (own_j p1 p2))), .second, .val (.double (own_diff (own_n p1) (own_j p1 p2))), .second, .val (.double (4517110426252607488 : UInt64)), .second, .val (.int (1 : Int32)), .val (.double (own_mean (own_n p1) ((own_j p1 p2) + (1 : Int32)))), .second] [])) _
        refine XS.dload X2.here hx rfl (hb hby at_137) rfl ?_
        show Steps p.tables e below (T2.setTop (mkF m 139 #[.val (.int p1), .val (.int p2), .val (.int (own_n p1)), .val (.int (own_N p1)), .val (.int (own_j p1 p2)), .val (.int ((own_N p1) - (own_j p1 p2))), .val (.double (own_mean (own_n p1) (own_j p1 p2))), .second, .val (.double (own_diff (own_n p1) (own_j p1 p2))), .second, .val (.double (4517110426252607488 : UInt64)), .second, .val (.int (1 : Int32)), .val (.double (own_mean (own_n p1) ((own_j p1 p2) + (1 : Int32)))), .second] [(.double (own_mean (own_n p1) ((own_j p1 p2) + (1 : Int32))))])) _
        refine XS.dload X2.here hx rfl (hb hby at_139) rfl ?_
        show Steps p.tables e below (T2.setTop (mkF m 141 #[.val (.int p1), .val (.int p2), .val (.int (own_n p1)), .val (.int (own_N p1)), .val (.int (own_j p1 p2)), .val (.int ((own_N p1) - (own_j p1 p2))), .val (.double (own_mean (own_n p1) (own_j p1 p2))), .second, .val (.double (own_diff (own_n p1) (own_j p1 p2))), .second, .val (.double (4517110426252607488 : UInt64)), .second, .val (.int (1 : Int32)), .val (.double (own_mean (own_n p1) ((own_j p1 p2) + (1 : Int32)))), .second] [(.double (own_mean (own_n p1) (own_j p1 p2))), (.double (own_mean (own_n p1) ((own_j p1 p2) + (1 : Int32))))])) _
        refine XS.dcmpS X2.here hx rfl (v := (-1 : Int32)) (hb hby at_141) rfl (own_strict ok ok2) ?_
        show Steps p.tables e below (T2.setTop (mkF m 142 #[.val (.int p1), .val (.int p2), .val (.int (own_n p1)), .val (.int (own_N p1)), .val (.int (own_j p1 p2)), .val (.int ((own_N p1) - (own_j p1 p2))), .val (.double (own_mean (own_n p1) (own_j p1 p2))), .second, .val (.double (own_diff (own_n p1) (own_j p1 p2))), .second, .val (.double (4517110426252607488 : UInt64)), .second, .val (.int (1 : Int32)), .val (.double (own_mean (own_n p1) ((own_j p1 p2) + (1 : Int32)))), .second] [(.int (-1 : Int32))])) _
        refine XS.ifNo X2.here hx rfl (hb hby at_142) rfl (by decide) ?_
        show Steps p.tables e below (T2.setTop (mkF m 145 #[.val (.int p1), .val (.int p2), .val (.int (own_n p1)), .val (.int (own_N p1)), .val (.int (own_j p1 p2)), .val (.int ((own_N p1) - (own_j p1 p2))), .val (.double (own_mean (own_n p1) (own_j p1 p2))), .second, .val (.double (own_diff (own_n p1) (own_j p1 p2))), .second, .val (.double (4517110426252607488 : UInt64)), .second, .val (.int (1 : Int32)), .val (.double (own_mean (own_n p1) ((own_j p1 p2) + (1 : Int32)))), .second] [])) _
        refine XS.iconst X2.here hx rfl (hb hby at_145) ?_
        show Steps p.tables e below (T2.setTop (mkF m 146 #[.val (.int p1), .val (.int p2), .val (.int (own_n p1)), .val (.int (own_N p1)), .val (.int (own_j p1 p2)), .val (.int ((own_N p1) - (own_j p1 p2))), .val (.double (own_mean (own_n p1) (own_j p1 p2))), .second, .val (.double (own_diff (own_n p1) (own_j p1 p2))), .second, .val (.double (4517110426252607488 : UInt64)), .second, .val (.int (1 : Int32)), .val (.double (own_mean (own_n p1) ((own_j p1 p2) + (1 : Int32)))), .second] [(.int (1 : Int32))])) _
        refine XS.goto X2.here hx rfl (pc0 := 146) (pc' := 150) rfl (hb hby at_146) (by decide) (by decide) ?_
        show Steps p.tables e below (T2.setTop (mkF m 150 #[.val (.int p1), .val (.int p2), .val (.int (own_n p1)), .val (.int (own_N p1)), .val (.int (own_j p1 p2)), .val (.int ((own_N p1) - (own_j p1 p2))), .val (.double (own_mean (own_n p1) (own_j p1 p2))), .second, .val (.double (own_diff (own_n p1) (own_j p1 p2))), .second, .val (.double (4517110426252607488 : UInt64)), .second, .val (.int (1 : Int32)), .val (.double (own_mean (own_n p1) ((own_j p1 p2) + (1 : Int32)))), .second] [(.int (1 : Int32))])) _
        refine XS.istore X2.here hx rfl (hb hby at_150) rfl (l' := #[.val (.int p1), .val (.int p2), .val (.int (own_n p1)), .val (.int (own_N p1)), .val (.int (own_j p1 p2)), .val (.int ((own_N p1) - (own_j p1 p2))), .val (.double (own_mean (own_n p1) (own_j p1 p2))), .second, .val (.double (own_diff (own_n p1) (own_j p1 p2))), .second, .val (.double (4517110426252607488 : UInt64)), .second, .val (.int (1 : Int32)), .val (.double (own_mean (own_n p1) ((own_j p1 p2) + (1 : Int32)))), .second]) rfl ?_
        show Steps p.tables e below (T2.setTop (mkF m 152 #[.val (.int p1), .val (.int p2), .val (.int (own_n p1)), .val (.int (own_N p1)), .val (.int (own_j p1 p2)), .val (.int ((own_N p1) - (own_j p1 p2))), .val (.double (own_mean (own_n p1) (own_j p1 p2))), .second, .val (.double (own_diff (own_n p1) (own_j p1 p2))), .second, .val (.double (4517110426252607488 : UInt64)), .second, .val (.int (1 : Int32)), .val (.double (own_mean (own_n p1) ((own_j p1 p2) + (1 : Int32)))), .second] [])) _
        refine XS.iloadN X2.here hx rfl (hb hby at_152) rfl ?_
        show Steps p.tables e below (T2.setTop (mkF m 153 #[.val (.int p1), .val (.int p2), .val (.int (own_n p1)), .val (.int (own_N p1)), .val (.int (own_j p1 p2)), .val (.int ((own_N p1) - (own_j p1 p2))), .val (.double (own_mean (own_n p1) (own_j p1 p2))), .second, .val (.double (own_diff (own_n p1) (own_j p1 p2))), .second, .val (.double (4517110426252607488 : UInt64)), .second, .val (.int (1 : Int32)), .val (.double (own_mean (own_n p1) ((own_j p1 p2) + (1 : Int32)))), .second] [(.int (own_n p1))])) _
        refine X2.ldcI hx hown (mvT hZ (hw _ (List.mem_of_getElem? (i := 7) rfl))) (g := (mkF m 153 #[.val (.int p1), .val (.int p2), .val (.int (own_n p1)), .val (.int (own_N p1)), .val (.int (own_j p1 p2)), .val (.int ((own_N p1) - (own_j p1 p2))), .val (.double (own_mean (own_n p1) (own_j p1 p2))), .second, .val (.double (own_diff (own_n p1) (own_j p1 p2))), .second, .val (.double (4517110426252607488 : UInt64)), .second, .val (.int (1 : Int32)), .val (.double (own_mean (own_n p1) ((own_j p1 p2) + (1 : Int32)))), .second] [(.int (own_n p1))])) rfl (hb hby at_153) ?_
        show Steps p.tables e below (T2.setTop (mkF m 155 #[.val (.int p1), .val (.int p2), .val (.int (own_n p1)), .val (.int (own_N p1)), .val (.int (own_j p1 p2)), .val (.int ((own_N p1) - (own_j p1 p2))), .val (.double (own_mean (own_n p1) (own_j p1 p2))), .second, .val (.double (own_diff (own_n p1) (own_j p1 p2))), .second, .val (.double (4517110426252607488 : UInt64)), .second, .val (.int (1 : Int32)), .val (.double (own_mean (own_n p1) ((own_j p1 p2) + (1 : Int32)))), .second] [(.int (1073741821 : Int32)), (.int (own_n p1))])) _
        refine XS.icmpNo X2.here hx rfl (hb hby at_155) rfl (flt hsm).2.2.1 ?_
        show Steps p.tables e below (T2.setTop (mkF m 158 #[.val (.int p1), .val (.int p2), .val (.int (own_n p1)), .val (.int (own_N p1)), .val (.int (own_j p1 p2)), .val (.int ((own_N p1) - (own_j p1 p2))), .val (.double (own_mean (own_n p1) (own_j p1 p2))), .second, .val (.double (own_diff (own_n p1) (own_j p1 p2))), .second, .val (.double (4517110426252607488 : UInt64)), .second, .val (.int (1 : Int32)), .val (.double (own_mean (own_n p1) ((own_j p1 p2) + (1 : Int32)))), .second] [])) _
        refine XS.iconst X2.here hx rfl (hb hby at_158) ?_
        show Steps p.tables e below (T2.setTop (mkF m 159 #[.val (.int p1), .val (.int p2), .val (.int (own_n p1)), .val (.int (own_N p1)), .val (.int (own_j p1 p2)), .val (.int ((own_N p1) - (own_j p1 p2))), .val (.double (own_mean (own_n p1) (own_j p1 p2))), .second, .val (.double (own_diff (own_n p1) (own_j p1 p2))), .second, .val (.double (4517110426252607488 : UInt64)), .second, .val (.int (1 : Int32)), .val (.double (own_mean (own_n p1) ((own_j p1 p2) + (1 : Int32)))), .second] [(.int (2 : Int32))])) _
        refine XS.iloadN X2.here hx rfl (hb hby at_159) rfl ?_
        show Steps p.tables e below (T2.setTop (mkF m 160 #[.val (.int p1), .val (.int p2), .val (.int (own_n p1)), .val (.int (own_N p1)), .val (.int (own_j p1 p2)), .val (.int ((own_N p1) - (own_j p1 p2))), .val (.double (own_mean (own_n p1) (own_j p1 p2))), .second, .val (.double (own_diff (own_n p1) (own_j p1 p2))), .second, .val (.double (4517110426252607488 : UInt64)), .second, .val (.int (1 : Int32)), .val (.double (own_mean (own_n p1) ((own_j p1 p2) + (1 : Int32)))), .second] [(.int (own_n p1)), (.int (2 : Int32))])) _
        refine XS.imul X2.here hx rfl (hb hby at_160) rfl ?_
        show Steps p.tables e below (T2.setTop (mkF m 161 #[.val (.int p1), .val (.int p2), .val (.int (own_n p1)), .val (.int (own_N p1)), .val (.int (own_j p1 p2)), .val (.int ((own_N p1) - (own_j p1 p2))), .val (.double (own_mean (own_n p1) (own_j p1 p2))), .second, .val (.double (own_diff (own_n p1) (own_j p1 p2))), .second, .val (.double (4517110426252607488 : UInt64)), .second, .val (.int (1 : Int32)), .val (.double (own_mean (own_n p1) ((own_j p1 p2) + (1 : Int32)))), .second] [(.int ((2 : Int32) * (own_n p1)))])) _
        refine XS.iconst X2.here hx rfl (hb hby at_161) ?_
        show Steps p.tables e below (T2.setTop (mkF m 162 #[.val (.int p1), .val (.int p2), .val (.int (own_n p1)), .val (.int (own_N p1)), .val (.int (own_j p1 p2)), .val (.int ((own_N p1) - (own_j p1 p2))), .val (.double (own_mean (own_n p1) (own_j p1 p2))), .second, .val (.double (own_diff (own_n p1) (own_j p1 p2))), .second, .val (.double (4517110426252607488 : UInt64)), .second, .val (.int (1 : Int32)), .val (.double (own_mean (own_n p1) ((own_j p1 p2) + (1 : Int32)))), .second] [(.int (1 : Int32)), (.int ((2 : Int32) * (own_n p1)))])) _
        refine XS.iadd X2.here hx rfl (hb hby at_162) rfl ?_
        show Steps p.tables e below (T2.setTop (mkF m 163 #[.val (.int p1), .val (.int p2), .val (.int (own_n p1)), .val (.int (own_N p1)), .val (.int (own_j p1 p2)), .val (.int ((own_N p1) - (own_j p1 p2))), .val (.double (own_mean (own_n p1) (own_j p1 p2))), .second, .val (.double (own_diff (own_n p1) (own_j p1 p2))), .second, .val (.double (4517110426252607488 : UInt64)), .second, .val (.int (1 : Int32)), .val (.double (own_mean (own_n p1) ((own_j p1 p2) + (1 : Int32)))), .second] [(.int (((2 : Int32) * (own_n p1)) + (1 : Int32)))])) _
        refine XS.iconst X2.here hx rfl (hb hby at_163) ?_
        show Steps p.tables e below (T2.setTop (mkF m 164 #[.val (.int p1), .val (.int p2), .val (.int (own_n p1)), .val (.int (own_N p1)), .val (.int (own_j p1 p2)), .val (.int ((own_N p1) - (own_j p1 p2))), .val (.double (own_mean (own_n p1) (own_j p1 p2))), .second, .val (.double (own_diff (own_n p1) (own_j p1 p2))), .second, .val (.double (4517110426252607488 : UInt64)), .second, .val (.int (1 : Int32)), .val (.double (own_mean (own_n p1) ((own_j p1 p2) + (1 : Int32)))), .second] [(.int (2 : Int32)), (.int (((2 : Int32) * (own_n p1)) + (1 : Int32)))])) _
        refine XS.iload X2.here hx rfl (hb hby at_164) rfl ?_
        show Steps p.tables e below (T2.setTop (mkF m 166 #[.val (.int p1), .val (.int p2), .val (.int (own_n p1)), .val (.int (own_N p1)), .val (.int (own_j p1 p2)), .val (.int ((own_N p1) - (own_j p1 p2))), .val (.double (own_mean (own_n p1) (own_j p1 p2))), .second, .val (.double (own_diff (own_n p1) (own_j p1 p2))), .second, .val (.double (4517110426252607488 : UInt64)), .second, .val (.int (1 : Int32)), .val (.double (own_mean (own_n p1) ((own_j p1 p2) + (1 : Int32)))), .second] [(.int (own_j p1 p2)), (.int (2 : Int32)), (.int (((2 : Int32) * (own_n p1)) + (1 : Int32)))])) _
        refine XS.imul X2.here hx rfl (hb hby at_166) rfl ?_
        show Steps p.tables e below (T2.setTop (mkF m 167 #[.val (.int p1), .val (.int p2), .val (.int (own_n p1)), .val (.int (own_N p1)), .val (.int (own_j p1 p2)), .val (.int ((own_N p1) - (own_j p1 p2))), .val (.double (own_mean (own_n p1) (own_j p1 p2))), .second, .val (.double (own_diff (own_n p1) (own_j p1 p2))), .second, .val (.double (4517110426252607488 : UInt64)), .second, .val (.int (1 : Int32)), .val (.double (own_mean (own_n p1) ((own_j p1 p2) + (1 : Int32)))), .second] [(.int ((2 : Int32) * (own_j p1 p2))), (.int (((2 : Int32) * (own_n p1)) + (1 : Int32)))])) _
        refine st3 _ ?_
        show Steps p.tables e below (T3.setTop (mkF m 170 #[.val (.int p1), .val (.int p2), .val (.int (own_n p1)), .val (.int (own_N p1)), .val (.int (own_j p1 p2)), .val (.int ((own_N p1) - (own_j p1 p2))), .val (.double (own_mean (own_n p1) (own_j p1 p2))), .second, .val (.double (own_diff (own_n p1) (own_j p1 p2))), .second, .val (.double (4517110426252607488 : UInt64)), .second, .val (.int (1 : Int32)), .val (.double (own_mean (own_n p1) ((own_j p1 p2) + (1 : Int32)))), .second] [(.double (own_mean ((2 : Int32) * (own_n p1) + (1 : Int32)) ((2 : Int32) * (own_j p1 p2))))])) _
        refine XS.dstore X3.here hx rfl (hb hby at_170) rfl (l' := #[.val (.int p1), .val (.int p2), .val (.int (own_n p1)), .val (.int (own_N p1)), .val (.int (own_j p1 p2)), .val (.int ((own_N p1) - (own_j p1 p2))), .val (.double (own_mean (own_n p1) (own_j p1 p2))), .second, .val (.double (own_diff (own_n p1) (own_j p1 p2))), .second, .val (.double (4517110426252607488 : UInt64)), .second, .val (.int (1 : Int32)), .val (.double (own_mean ((2 : Int32) * (own_n p1) + (1 : Int32)) ((2 : Int32) * (own_j p1 p2)))), .second]) rfl ?_
        show Steps p.tables e below (T3.setTop (mkF m 172 #[.val (.int p1), .val (.int p2), .val (.int (own_n p1)), .val (.int (own_N p1)), .val (.int (own_j p1 p2)), .val (.int ((own_N p1) - (own_j p1 p2))), .val (.double (own_mean (own_n p1) (own_j p1 p2))), .second, .val (.double (own_diff (own_n p1) (own_j p1 p2))), .second, .val (.double (4517110426252607488 : UInt64)), .second, .val (.int (1 : Int32)), .val (.double (own_mean ((2 : Int32) * (own_n p1) + (1 : Int32)) ((2 : Int32) * (own_j p1 p2)))), .second] [])) _
        refine XS.iload X3.here hx rfl (hb hby at_172) rfl ?_
        show Steps p.tables e below (T3.setTop (mkF m 174 #[.val (.int p1), .val (.int p2), .val (.int (own_n p1)), .val (.int (own_N p1)), .val (.int (own_j p1 p2)), .val (.int ((own_N p1) - (own_j p1 p2))), .val (.double (own_mean (own_n p1) (own_j p1 p2))), .second, .val (.double (own_diff (own_n p1) (own_j p1 p2))), .second, .val (.double (4517110426252607488 : UInt64)), .second, .val (.int (1 : Int32)), .val (.double (own_mean ((2 : Int32) * (own_n p1) + (1 : Int32)) ((2 : Int32) * (own_j p1 p2)))), .second] [(.int (1 : Int32))])) _
        refine XS.ifNo X3.here hx rfl (hb hby at_174) rfl (by decide) ?_
        show Steps p.tables e below (T3.setTop (mkF m 177 #[.val (.int p1), .val (.int p2), .val (.int (own_n p1)), .val (.int (own_N p1)), .val (.int (own_j p1 p2)), .val (.int ((own_N p1) - (own_j p1 p2))), .val (.double (own_mean (own_n p1) (own_j p1 p2))), .second, .val (.double (own_diff (own_n p1) (own_j p1 p2))), .second, .val (.double (4517110426252607488 : UInt64)), .second, .val (.int (1 : Int32)), .val (.double (own_mean ((2 : Int32) * (own_n p1) + (1 : Int32)) ((2 : Int32) * (own_j p1 p2)))), .second] [])) _
        refine XS.dload X3.here hx rfl (hb hby at_177) rfl ?_
        show Steps p.tables e below (T3.setTop (mkF m 179 #[.val (.int p1), .val (.int p2), .val (.int (own_n p1)), .val (.int (own_N p1)), .val (.int (own_j p1 p2)), .val (.int ((own_N p1) - (own_j p1 p2))), .val (.double (own_mean (own_n p1) (own_j p1 p2))), .second, .val (.double (own_diff (own_n p1) (own_j p1 p2))), .second, .val (.double (4517110426252607488 : UInt64)), .second, .val (.int (1 : Int32)), .val (.double (own_mean ((2 : Int32) * (own_n p1) + (1 : Int32)) ((2 : Int32) * (own_j p1 p2)))), .second] [(.double (own_mean ((2 : Int32) * (own_n p1) + (1 : Int32)) ((2 : Int32) * (own_j p1 p2))))])) _
        refine XS.dload X3.here hx rfl (hb hby at_179) rfl ?_
        show Steps p.tables e below (T3.setTop (mkF m 181 #[.val (.int p1), .val (.int p2), .val (.int (own_n p1)), .val (.int (own_N p1)), .val (.int (own_j p1 p2)), .val (.int ((own_N p1) - (own_j p1 p2))), .val (.double (own_mean (own_n p1) (own_j p1 p2))), .second, .val (.double (own_diff (own_n p1) (own_j p1 p2))), .second, .val (.double (4517110426252607488 : UInt64)), .second, .val (.int (1 : Int32)), .val (.double (own_mean ((2 : Int32) * (own_n p1) + (1 : Int32)) ((2 : Int32) * (own_j p1 p2)))), .second] [(.double (own_mean (own_n p1) (own_j p1 p2))), (.double (own_mean ((2 : Int32) * (own_n p1) + (1 : Int32)) ((2 : Int32) * (own_j p1 p2))))])) _
        refine XS.dcmpS X3.here hx rfl (v := (0 : Int32)) (hb hby at_181) rfl (own_same ok ok3) ?_
        show Steps p.tables e below (T3.setTop (mkF m 182 #[.val (.int p1), .val (.int p2), .val (.int (own_n p1)), .val (.int (own_N p1)), .val (.int (own_j p1 p2)), .val (.int ((own_N p1) - (own_j p1 p2))), .val (.double (own_mean (own_n p1) (own_j p1 p2))), .second, .val (.double (own_diff (own_n p1) (own_j p1 p2))), .second, .val (.double (4517110426252607488 : UInt64)), .second, .val (.int (1 : Int32)), .val (.double (own_mean ((2 : Int32) * (own_n p1) + (1 : Int32)) ((2 : Int32) * (own_j p1 p2)))), .second] [(.int (0 : Int32))])) _
        refine XS.ifNo X3.here hx rfl (hb hby at_182) rfl (by decide) ?_
        show Steps p.tables e below (T3.setTop (mkF m 185 #[.val (.int p1), .val (.int p2), .val (.int (own_n p1)), .val (.int (own_N p1)), .val (.int (own_j p1 p2)), .val (.int ((own_N p1) - (own_j p1 p2))), .val (.double (own_mean (own_n p1) (own_j p1 p2))), .second, .val (.double (own_diff (own_n p1) (own_j p1 p2))), .second, .val (.double (4517110426252607488 : UInt64)), .second, .val (.int (1 : Int32)), .val (.double (own_mean ((2 : Int32) * (own_n p1) + (1 : Int32)) ((2 : Int32) * (own_j p1 p2)))), .second] [])) _
        refine XS.iconst X3.here hx rfl (hb hby at_185) ?_
        show Steps p.tables e below (T3.setTop (mkF m 186 #[.val (.int p1), .val (.int p2), .val (.int (own_n p1)), .val (.int (own_N p1)), .val (.int (own_j p1 p2)), .val (.int ((own_N p1) - (own_j p1 p2))), .val (.double (own_mean (own_n p1) (own_j p1 p2))), .second, .val (.double (own_diff (own_n p1) (own_j p1 p2))), .second, .val (.double (4517110426252607488 : UInt64)), .second, .val (.int (1 : Int32)), .val (.double (own_mean ((2 : Int32) * (own_n p1) + (1 : Int32)) ((2 : Int32) * (own_j p1 p2)))), .second] [(.int (1 : Int32))])) _
        refine XS.goto X3.here hx rfl (pc0 := 186) (pc' := 190) rfl (hb hby at_186) (by decide) (by decide) ?_
        show Steps p.tables e below (T3.setTop (mkF m 190 #[.val (.int p1), .val (.int p2), .val (.int (own_n p1)), .val (.int (own_N p1)), .val (.int (own_j p1 p2)), .val (.int ((own_N p1) - (own_j p1 p2))), .val (.double (own_mean (own_n p1) (own_j p1 p2))), .second, .val (.double (own_diff (own_n p1) (own_j p1 p2))), .second, .val (.double (4517110426252607488 : UInt64)), .second, .val (.int (1 : Int32)), .val (.double (own_mean ((2 : Int32) * (own_n p1) + (1 : Int32)) ((2 : Int32) * (own_j p1 p2)))), .second] [(.int (1 : Int32))])) _
        refine XS.istore X3.here hx rfl (hb hby at_190) rfl (l' := #[.val (.int p1), .val (.int p2), .val (.int (own_n p1)), .val (.int (own_N p1)), .val (.int (own_j p1 p2)), .val (.int ((own_N p1) - (own_j p1 p2))), .val (.double (own_mean (own_n p1) (own_j p1 p2))), .second, .val (.double (own_diff (own_n p1) (own_j p1 p2))), .second, .val (.double (4517110426252607488 : UInt64)), .second, .val (.int (1 : Int32)), .val (.double (own_mean ((2 : Int32) * (own_n p1) + (1 : Int32)) ((2 : Int32) * (own_j p1 p2)))), .second]) rfl ?_
        show Steps p.tables e below (T3.setTop (mkF m 192 #[.val (.int p1), .val (.int p2), .val (.int (own_n p1)), .val (.int (own_N p1)), .val (.int (own_j p1 p2)), .val (.int ((own_N p1) - (own_j p1 p2))), .val (.double (own_mean (own_n p1) (own_j p1 p2))), .second, .val (.double (own_diff (own_n p1) (own_j p1 p2))), .second, .val (.double (4517110426252607488 : UInt64)), .second, .val (.int (1 : Int32)), .val (.double (own_mean ((2 : Int32) * (own_n p1) + (1 : Int32)) ((2 : Int32) * (own_j p1 p2)))), .second] [])) _
        refine XS.iload X3.here hx rfl (hb hby at_192) rfl ?_
        show Steps p.tables e below (T3.setTop (mkF m 194 #[.val (.int p1), .val (.int p2), .val (.int (own_n p1)), .val (.int (own_N p1)), .val (.int (own_j p1 p2)), .val (.int ((own_N p1) - (own_j p1 p2))), .val (.double (own_mean (own_n p1) (own_j p1 p2))), .second, .val (.double (own_diff (own_n p1) (own_j p1 p2))), .second, .val (.double (4517110426252607488 : UInt64)), .second, .val (.int (1 : Int32)), .val (.double (own_mean ((2 : Int32) * (own_n p1) + (1 : Int32)) ((2 : Int32) * (own_j p1 p2)))), .second] [(.int (1 : Int32))])) _
        exact retN X3 hx (t := .boolean) Bd.returns (by simp) (hb hby at_194) hr
      · show Q0 Z p1 p2 h0 n0 _ T3.heap _
        exact ⟨rfl, N3⟩
    · have hsm : (1073741821 : Int32) < (own_n p1) := by rw [Int32.lt_iff_toInt_lt, show (1073741821 : Int32).toInt = 1073741821 from by decide]; omega
      obtain ⟨_, _, ⟨T4, L4, k4, n4⟩, -, X4, ⟨Lc4, hQ4, l4, y4, z4⟩, st4⟩ := Jvm.LawKit.callS X0 hx (y := (⟨"com/example/outcry/outcry/core/UniformPrice", "meanOfHighest", "(II)D"⟩ : MethodName)) hown (mvT hZ (hw _ (List.mem_of_getElem? (i := 2) rfl))) (mvT hZ (hw _ (List.mem_of_getElem? (i := 3) rfl))) (mvT hZ (hw _ (List.mem_of_getElem? (i := 4) rfl))) (mvT hZ (hw _ (List.mem_of_getElem? (i := 5) rfl))) (by decide) (backOf (W := 0) (rm1 l Z a0 hw [] (own_n p1) (own_j p1 p2) ((own_N p1).toInt - (own_j p1 p2).toInt) (own_N p1).toInt h0 n0 Z0 ok) hZ (hw _ (List.mem_of_getElem? (i := 5) rfl)) (hw _ (List.mem_of_getElem? (i := 4) rfl)) (by decide) (by decide)) (g := (mkF m 33 #[.val (.int p1), .val (.int p2), .val (.int (own_n p1)), .val (.int (own_N p1)), .val (.int (own_j p1 p2)), .val (.int ((own_N p1) - (own_j p1 p2))), .unset, .unset, .unset, .unset, .unset, .unset, .unset, .unset, .unset] [(.int (own_j p1 p2)), (.int (own_n p1))])) rfl (by rw [hml]; rfl) (argsL := [(.int (own_n p1)), (.int (own_j p1 p2))]) (rest := []) (lenOf pd_0 rfl) rfl (by show 2 * 0 + _ ≤ _; exact Nat.le_of_eq rfl) (hb hby at_33) (fun _ _ => ⟨rfl, e0, (by decide : 0 + 0 ≤ _), (by decide : 0 + 0 ≤ _)⟩)
      dsimp only [Pt.U, Pt.locs, Pt.cells, Pt.slots] at X4 l4 y4 z4 st4 hQ4
      subst l4 y4 z4
      obtain ⟨rfl, N4q, eh4⟩ := hQ4
      have N4 := Fr.app N0 N4q
      have Zq : n0 ≤ T4.heap.size := by rw [eh4]; exact Z0
      obtain ⟨_, _, ⟨T5, L5, k5, n5⟩, -, X5, ⟨Lc5, hQ5, l5, y5, z5⟩, st5⟩ := Jvm.LawKit.callS X4 hx (y := (⟨"com/example/outcry/outcry/core/UniformPrice", "meanOfHighest", "(II)D"⟩ : MethodName)) hown (mvT hZ (hw _ (List.mem_of_getElem? (i := 2) rfl))) (mvT hZ (hw _ (List.mem_of_getElem? (i := 3) rfl))) (mvT hZ (hw _ (List.mem_of_getElem? (i := 4) rfl))) (mvT hZ (hw _ (List.mem_of_getElem? (i := 5) rfl))) (by decide) (backOf (W := 0) (rm1 l Z a0 hw [] (own_n p1) ((own_j p1 p2) + (1 : Int32)) (((own_N p1).toInt - (own_j p1 p2).toInt) - 1) (own_N p1).toInt T4.heap n0 Zq ok2) hZ (hw _ (List.mem_of_getElem? (i := 5) rfl)) (hw _ (List.mem_of_getElem? (i := 4) rfl)) (by decide) (by decide)) (g := (mkF m 127 #[.val (.int p1), .val (.int p2), .val (.int (own_n p1)), .val (.int (own_N p1)), .val (.int (own_j p1 p2)), .val (.int ((own_N p1) - (own_j p1 p2))), .val (.double (own_mean (own_n p1) (own_j p1 p2))), .second, .val (.double (own_diff (own_n p1) (own_j p1 p2))), .second, .val (.double (4517110426252607488 : UInt64)), .second, .val (.int (1 : Int32)), .unset, .unset] [(.int ((own_j p1 p2) + (1 : Int32))), (.int (own_n p1))])) rfl (by rw [hml]; rfl) (argsL := [(.int (own_n p1)), (.int ((own_j p1 p2) + (1 : Int32)))]) (rest := []) (lenOf pd_0 rfl) rfl (by show 2 * 0 + _ ≤ _; exact Nat.le_of_eq rfl) (hb hby at_127) (fun _ _ => ⟨rfl, rfl, (by decide : 0 + 0 ≤ _), (by decide : 0 + 0 ≤ _)⟩)
      dsimp only [Pt.U, Pt.locs, Pt.cells, Pt.slots] at X5 l5 y5 z5 st5 hQ5
      subst l5 y5 z5
      obtain ⟨rfl, N5q, eh5⟩ := hQ5
      have N5 := Fr.app N4 N5q
      obtain ⟨fs, hr, hrun, hended, hW, hsame⟩ := X5.leave (v := some (.int (1 : Int32))) (fun h => by rw [Bd.returns] at h; cases h)
      refine ⟨_, _, pre0 _ ?_, hrun, hended, _, _, rfl, ?_, ⟨_, rfl⟩, hW, hsame.mono (by decide) (by decide)⟩
      · show Steps p.tables e below (s₁.setTop (mkF m 0 #[.val (.int p1), .val (.int p2), .unset, .unset, .unset, .unset, .unset, .unset, .unset, .unset, .unset, .unset, .unset, .unset, .unset] [])) _
        refine XS.iloadN X0.here hx rfl (hb hby at_0) rfl ?_
        show Steps p.tables e below (s₁.setTop (mkF m 1 #[.val (.int p1), .val (.int p2), .unset, .unset, .unset, .unset, .unset, .unset, .unset, .unset, .unset, .unset, .unset, .unset, .unset] [(.int p1)])) _
        refine X0.ldcI hx hown (mvT hZ (hw _ (List.mem_of_getElem? (i := 0) rfl))) (g := (mkF m 1 #[.val (.int p1), .val (.int p2), .unset, .unset, .unset, .unset, .unset, .unset, .unset, .unset, .unset, .unset, .unset, .unset, .unset] [(.int p1)])) rfl (hb hby at_1) ?_
        show Steps p.tables e below (s₁.setTop (mkF m 3 #[.val (.int p1), .val (.int p2), .unset, .unset, .unset, .unset, .unset, .unset, .unset, .unset, .unset, .unset, .unset, .unset, .unset] [(.int (2147483647 : Int32)), (.int p1)])) _
        refine XS.iand X0.here hx rfl (hb hby at_3) rfl ?_
        show Steps p.tables e below (s₁.setTop (mkF m 4 #[.val (.int p1), .val (.int p2), .unset, .unset, .unset, .unset, .unset, .unset, .unset, .unset, .unset, .unset, .unset, .unset, .unset] [(.int (p1 &&& (2147483647 : Int32)))])) _
        refine X0.ldcI hx hown (mvT hZ (hw _ (List.mem_of_getElem? (i := 1) rfl))) (g := (mkF m 4 #[.val (.int p1), .val (.int p2), .unset, .unset, .unset, .unset, .unset, .unset, .unset, .unset, .unset, .unset, .unset, .unset, .unset] [(.int (p1 &&& (2147483647 : Int32)))])) rfl (hb hby at_4) ?_
        show Steps p.tables e below (s₁.setTop (mkF m 6 #[.val (.int p1), .val (.int p2), .unset, .unset, .unset, .unset, .unset, .unset, .unset, .unset, .unset, .unset, .unset, .unset, .unset] [(.int (2147483646 : Int32)), (.int (p1 &&& (2147483647 : Int32)))])) _
        refine iremM X0 hx rfl (hb hby at_6) rfl (by decide) ?_
        show Steps p.tables e below (s₁.setTop (mkF m 7 #[.val (.int p1), .val (.int p2), .unset, .unset, .unset, .unset, .unset, .unset, .unset, .unset, .unset, .unset, .unset, .unset, .unset] [(.int ((p1 &&& (2147483647 : Int32)) % (2147483646 : Int32)))])) _
        refine XS.iconst X0.here hx rfl (hb hby at_7) ?_
        show Steps p.tables e below (s₁.setTop (mkF m 8 #[.val (.int p1), .val (.int p2), .unset, .unset, .unset, .unset, .unset, .unset, .unset, .unset, .unset, .unset, .unset, .unset, .unset] [(.int (1 : Int32)), (.int ((p1 &&& (2147483647 : Int32)) % (2147483646 : Int32)))])) _
        refine XS.iadd X0.here hx rfl (hb hby at_8) rfl ?_
        show Steps p.tables e below (s₁.setTop (mkF m 9 #[.val (.int p1), .val (.int p2), .unset, .unset, .unset, .unset, .unset, .unset, .unset, .unset, .unset, .unset, .unset, .unset, .unset] [(.int (own_n p1))])) _
        refine XS.istoreN X0.here hx rfl (hb hby at_9) rfl (l' := #[.val (.int p1), .val (.int p2), .val (.int (own_n p1)), .unset, .unset, .unset, .unset, .unset, .unset, .unset, .unset, .unset, .unset, .unset, .unset]) rfl ?_
        show Steps p.tables e below (s₁.setTop (mkF m 10 #[.val (.int p1), .val (.int p2), .val (.int (own_n p1)), .unset, .unset, .unset, .unset, .unset, .unset, .unset, .unset, .unset, .unset, .unset, .unset] [])) _
        refine XS.iloadN X0.here hx rfl (hb hby at_10) rfl ?_
        show Steps p.tables e below (s₁.setTop (mkF m 11 #[.val (.int p1), .val (.int p2), .val (.int (own_n p1)), .unset, .unset, .unset, .unset, .unset, .unset, .unset, .unset, .unset, .unset, .unset, .unset] [(.int (own_n p1))])) _
        refine XS.iconst X0.here hx rfl (hb hby at_11) ?_
        show Steps p.tables e below (s₁.setTop (mkF m 12 #[.val (.int p1), .val (.int p2), .val (.int (own_n p1)), .unset, .unset, .unset, .unset, .unset, .unset, .unset, .unset, .unset, .unset, .unset, .unset] [(.int (1 : Int32)), (.int (own_n p1))])) _
        refine XS.iadd X0.here hx rfl (hb hby at_12) rfl ?_
        show Steps p.tables e below (s₁.setTop (mkF m 13 #[.val (.int p1), .val (.int p2), .val (.int (own_n p1)), .unset, .unset, .unset, .unset, .unset, .unset, .unset, .unset, .unset, .unset, .unset, .unset] [(.int (own_N p1))])) _
        refine XS.istoreN X0.here hx rfl (hb hby at_13) rfl (l' := #[.val (.int p1), .val (.int p2), .val (.int (own_n p1)), .val (.int (own_N p1)), .unset, .unset, .unset, .unset, .unset, .unset, .unset, .unset, .unset, .unset, .unset]) rfl ?_
        show Steps p.tables e below (s₁.setTop (mkF m 14 #[.val (.int p1), .val (.int p2), .val (.int (own_n p1)), .val (.int (own_N p1)), .unset, .unset, .unset, .unset, .unset, .unset, .unset, .unset, .unset, .unset, .unset] [])) _
        refine XS.iloadN X0.here hx rfl (hb hby at_14) rfl ?_
        show Steps p.tables e below (s₁.setTop (mkF m 15 #[.val (.int p1), .val (.int p2), .val (.int (own_n p1)), .val (.int (own_N p1)), .unset, .unset, .unset, .unset, .unset, .unset, .unset, .unset, .unset, .unset, .unset] [(.int p2)])) _
        refine X0.ldcI hx hown (mvT hZ (hw _ (List.mem_of_getElem? (i := 0) rfl))) (g := (mkF m 15 #[.val (.int p1), .val (.int p2), .val (.int (own_n p1)), .val (.int (own_N p1)), .unset, .unset, .unset, .unset, .unset, .unset, .unset, .unset, .unset, .unset, .unset] [(.int p2)])) rfl (hb hby at_15) ?_
        show Steps p.tables e below (s₁.setTop (mkF m 17 #[.val (.int p1), .val (.int p2), .val (.int (own_n p1)), .val (.int (own_N p1)), .unset, .unset, .unset, .unset, .unset, .unset, .unset, .unset, .unset, .unset, .unset] [(.int (2147483647 : Int32)), (.int p2)])) _
        refine XS.iand X0.here hx rfl (hb hby at_17) rfl ?_
        show Steps p.tables e below (s₁.setTop (mkF m 18 #[.val (.int p1), .val (.int p2), .val (.int (own_n p1)), .val (.int (own_N p1)), .unset, .unset, .unset, .unset, .unset, .unset, .unset, .unset, .unset, .unset, .unset] [(.int (p2 &&& (2147483647 : Int32)))])) _
        refine XS.iloadN X0.here hx rfl (hb hby at_18) rfl ?_
        show Steps p.tables e below (s₁.setTop (mkF m 19 #[.val (.int p1), .val (.int p2), .val (.int (own_n p1)), .val (.int (own_N p1)), .unset, .unset, .unset, .unset, .unset, .unset, .unset, .unset, .unset, .unset, .unset] [(.int (own_N p1)), (.int (p2 &&& (2147483647 : Int32)))])) _
        refine iremM X0 hx rfl (hb hby at_19) rfl hN0 ?_
        show Steps p.tables e below (s₁.setTop (mkF m 20 #[.val (.int p1), .val (.int p2), .val (.int (own_n p1)), .val (.int (own_N p1)), .unset, .unset, .unset, .unset, .unset, .unset, .unset, .unset, .unset, .unset, .unset] [(.int ((p2 &&& (2147483647 : Int32)) % (own_N p1)))])) _
        refine XS.iconst X0.here hx rfl (hb hby at_20) ?_
        show Steps p.tables e below (s₁.setTop (mkF m 21 #[.val (.int p1), .val (.int p2), .val (.int (own_n p1)), .val (.int (own_N p1)), .unset, .unset, .unset, .unset, .unset, .unset, .unset, .unset, .unset, .unset, .unset] [(.int (1 : Int32)), (.int ((p2 &&& (2147483647 : Int32)) % (own_N p1)))])) _
        refine XS.iadd X0.here hx rfl (hb hby at_21) rfl ?_
        show Steps p.tables e below (s₁.setTop (mkF m 22 #[.val (.int p1), .val (.int p2), .val (.int (own_n p1)), .val (.int (own_N p1)), .unset, .unset, .unset, .unset, .unset, .unset, .unset, .unset, .unset, .unset, .unset] [(.int (own_j p1 p2))])) _
        refine XS.istore X0.here hx rfl (hb hby at_22) rfl (l' := #[.val (.int p1), .val (.int p2), .val (.int (own_n p1)), .val (.int (own_N p1)), .val (.int (own_j p1 p2)), .unset, .unset, .unset, .unset, .unset, .unset, .unset, .unset, .unset, .unset]) rfl ?_
        show Steps p.tables e below (s₁.setTop (mkF m 24 #[.val (.int p1), .val (.int p2), .val (.int (own_n p1)), .val (.int (own_N p1)), .val (.int (own_j p1 p2)), .unset, .unset, .unset, .unset, .unset, .unset, .unset, .unset, .unset, .unset] [])) _
        refine XS.iloadN X0.here hx rfl (hb hby at_24) rfl ?_
        show Steps p.tables e below (s₁.setTop (mkF m 25 #[.val (.int p1), .val (.int p2), .val (.int (own_n p1)), .val (.int (own_N p1)), .val (.int (own_j p1 p2)), .unset, .unset, .unset, .unset, .unset, .unset, .unset, .unset, .unset, .unset] [(.int (own_N p1))])) _
        refine XS.iload X0.here hx rfl (hb hby at_25) rfl ?_
        show Steps p.tables e below (s₁.setTop (mkF m 27 #[.val (.int p1), .val (.int p2), .val (.int (own_n p1)), .val (.int (own_N p1)), .val (.int (own_j p1 p2)), .unset, .unset, .unset, .unset, .unset, .unset, .unset, .unset, .unset, .unset] [(.int (own_j p1 p2)), (.int (own_N p1))])) _
        refine XS.isub X0.here hx rfl (hb hby at_27) rfl ?_
        show Steps p.tables e below (s₁.setTop (mkF m 28 #[.val (.int p1), .val (.int p2), .val (.int (own_n p1)), .val (.int (own_N p1)), .val (.int (own_j p1 p2)), .unset, .unset, .unset, .unset, .unset, .unset, .unset, .unset, .unset, .unset] [(.int ((own_N p1) - (own_j p1 p2)))])) _
        refine XS.istore X0.here hx rfl (hb hby at_28) rfl (l' := #[.val (.int p1), .val (.int p2), .val (.int (own_n p1)), .val (.int (own_N p1)), .val (.int (own_j p1 p2)), .val (.int ((own_N p1) - (own_j p1 p2))), .unset, .unset, .unset, .unset, .unset, .unset, .unset, .unset, .unset]) rfl ?_
        show Steps p.tables e below (s₁.setTop (mkF m 30 #[.val (.int p1), .val (.int p2), .val (.int (own_n p1)), .val (.int (own_N p1)), .val (.int (own_j p1 p2)), .val (.int ((own_N p1) - (own_j p1 p2))), .unset, .unset, .unset, .unset, .unset, .unset, .unset, .unset, .unset] [])) _
        refine XS.iloadN X0.here hx rfl (hb hby at_30) rfl ?_
        show Steps p.tables e below (s₁.setTop (mkF m 31 #[.val (.int p1), .val (.int p2), .val (.int (own_n p1)), .val (.int (own_N p1)), .val (.int (own_j p1 p2)), .val (.int ((own_N p1) - (own_j p1 p2))), .unset, .unset, .unset, .unset, .unset, .unset, .unset, .unset, .unset] [(.int (own_n p1))])) _
        refine XS.iload X0.here hx rfl (hb hby at_31) rfl ?_
        show Steps p.tables e below (s₁.setTop (mkF m 33 #[.val (.int p1), .val (.int p2), .val (.int (own_n p1)), .val (.int (own_N p1)), .val (.int (own_j p1 p2)), .val (.int ((own_N p1) - (own_j p1 p2))), .unset, .unset, .unset, .unset, .unset, .unset, .unset, .unset, .unset] [(.int (own_j p1 p2)), (.int (own_n p1))])) _
        refine st4 _ ?_
        show Steps p.tables e below (T4.setTop (mkF m 36 #[.val (.int p1), .val (.int p2), .val (.int (own_n p1)), .val (.int (own_N p1)), .val (.int (own_j p1 p2)), .val (.int ((own_N p1) - (own_j p1 p2))), .unset, .unset, .unset, .unset, .unset, .unset, .unset, .unset, .unset] [(.double (own_mean (own_n p1) (own_j p1 p2)))])) _
        refine XS.dstore X4.here hx rfl (hb hby at_36) rfl (l' := #[.val (.int p1), .val (.int p2), .val (.int (own_n p1)), .val (.int (own_N p1)), .val (.int (own_j p1 p2)), .val (.int ((own_N p1) - (own_j p1 p2))), .val (.double (own_mean (own_n p1) (own_j p1 p2))), .second, .unset, .unset, .unset, .unset, .unset, .unset, .unset]) rfl ?_
        show Steps p.tables e below (T4.setTop (mkF m 38 #[.val (.int p1), .val (.int p2), .val (.int (own_n p1)), .val (.int (own_N p1)), .val (.int (own_j p1 p2)), .val (.int ((own_N p1) - (own_j p1 p2))), .val (.double (own_mean (own_n p1) (own_j p1 p2))), .second, .unset, .unset, .unset, .unset, .unset, .unset, .unset] [])) _
        refine XS.dload X4.here hx rfl (hb hby at_38) rfl ?_
        show Steps p.tables e below (T4.setTop (mkF m 40 #[.val (.int p1), .val (.int p2), .val (.int (own_n p1)), .val (.int (own_N p1)), .val (.int (own_j p1 p2)), .val (.int ((own_N p1) - (own_j p1 p2))), .val (.double (own_mean (own_n p1) (own_j p1 p2))), .second, .unset, .unset, .unset, .unset, .unset, .unset, .unset] [(.double (own_mean (own_n p1) (own_j p1 p2)))])) _
        refine XS.iloadN X4.here hx rfl (hb hby at_40) rfl ?_
        show Steps p.tables e below (T4.setTop (mkF m 41 #[.val (.int p1), .val (.int p2), .val (.int (own_n p1)), .val (.int (own_N p1)), .val (.int (own_j p1 p2)), .val (.int ((own_N p1) - (own_j p1 p2))), .val (.double (own_mean (own_n p1) (own_j p1 p2))), .second, .unset, .unset, .unset, .unset, .unset, .unset, .unset] [(.int (own_N p1)), (.double (own_mean (own_n p1) (own_j p1 p2)))])) _
        refine XS.i2dS X4.here hx rfl (v := (FP.i2d (own_N p1))) (hb hby at_41) rfl rfl ?_
        show Steps p.tables e below (T4.setTop (mkF m 42 #[.val (.int p1), .val (.int p2), .val (.int (own_n p1)), .val (.int (own_N p1)), .val (.int (own_j p1 p2)), .val (.int ((own_N p1) - (own_j p1 p2))), .val (.double (own_mean (own_n p1) (own_j p1 p2))), .second, .unset, .unset, .unset, .unset, .unset, .unset, .unset] [(.double (FP.i2d (own_N p1))), (.double (own_mean (own_n p1) (own_j p1 p2)))])) _
        refine XS.dmulS X4.here hx rfl (v := (own_back (own_n p1) (own_j p1 p2))) (hb hby at_42) rfl (own_nn (own_diff_f ok).1) rfl ?_
        show Steps p.tables e below (T4.setTop (mkF m 43 #[.val (.int p1), .val (.int p2), .val (.int (own_n p1)), .val (.int (own_N p1)), .val (.int (own_j p1 p2)), .val (.int ((own_N p1) - (own_j p1 p2))), .val (.double (own_mean (own_n p1) (own_j p1 p2))), .second, .unset, .unset, .unset, .unset, .unset, .unset, .unset] [(.double (own_back (own_n p1) (own_j p1 p2)))])) _
        refine XS.iload X4.here hx rfl (hb hby at_43) rfl ?_
        show Steps p.tables e below (T4.setTop (mkF m 45 #[.val (.int p1), .val (.int p2), .val (.int (own_n p1)), .val (.int (own_N p1)), .val (.int (own_j p1 p2)), .val (.int ((own_N p1) - (own_j p1 p2))), .val (.double (own_mean (own_n p1) (own_j p1 p2))), .second, .unset, .unset, .unset, .unset, .unset, .unset, .unset] [(.int ((own_N p1) - (own_j p1 p2))), (.double (own_back (own_n p1) (own_j p1 p2)))])) _
        refine XS.i2dS X4.here hx rfl (v := (FP.i2d ((own_N p1) - (own_j p1 p2)))) (hb hby at_45) rfl rfl ?_
        show Steps p.tables e below (T4.setTop (mkF m 46 #[.val (.int p1), .val (.int p2), .val (.int (own_n p1)), .val (.int (own_N p1)), .val (.int (own_j p1 p2)), .val (.int ((own_N p1) - (own_j p1 p2))), .val (.double (own_mean (own_n p1) (own_j p1 p2))), .second, .unset, .unset, .unset, .unset, .unset, .unset, .unset] [(.double (FP.i2d ((own_N p1) - (own_j p1 p2)))), (.double (own_back (own_n p1) (own_j p1 p2)))])) _
        refine XS.dsubS X4.here hx rfl (v := (own_diff (own_n p1) (own_j p1 p2))) (hb hby at_46) rfl (own_nn (own_diff_f ok).2.1) rfl ?_
        show Steps p.tables e below (T4.setTop (mkF m 47 #[.val (.int p1), .val (.int p2), .val (.int (own_n p1)), .val (.int (own_N p1)), .val (.int (own_j p1 p2)), .val (.int ((own_N p1) - (own_j p1 p2))), .val (.double (own_mean (own_n p1) (own_j p1 p2))), .second, .unset, .unset, .unset, .unset, .unset, .unset, .unset] [(.double (own_diff (own_n p1) (own_j p1 p2)))])) _
        refine XS.dstore X4.here hx rfl (hb hby at_47) rfl (l' := #[.val (.int p1), .val (.int p2), .val (.int (own_n p1)), .val (.int (own_N p1)), .val (.int (own_j p1 p2)), .val (.int ((own_N p1) - (own_j p1 p2))), .val (.double (own_mean (own_n p1) (own_j p1 p2))), .second, .val (.double (own_diff (own_n p1) (own_j p1 p2))), .second, .unset, .unset, .unset, .unset, .unset]) rfl ?_
        show Steps p.tables e below (T4.setTop (mkF m 49 #[.val (.int p1), .val (.int p2), .val (.int (own_n p1)), .val (.int (own_N p1)), .val (.int (own_j p1 p2)), .val (.int ((own_N p1) - (own_j p1 p2))), .val (.double (own_mean (own_n p1) (own_j p1 p2))), .second, .val (.double (own_diff (own_n p1) (own_j p1 p2))), .second, .unset, .unset, .unset, .unset, .unset] [])) _
        refine X4.ldc2DoubleC hx hown (mvT hZ (hw _ (List.mem_of_getElem? (i := 6) rfl))) (g := (mkF m 49 #[.val (.int p1), .val (.int p2), .val (.int (own_n p1)), .val (.int (own_N p1)), .val (.int (own_j p1 p2)), .val (.int ((own_N p1) - (own_j p1 p2))), .val (.double (own_mean (own_n p1) (own_j p1 p2))), .second, .val (.double (own_diff (own_n p1) (own_j p1 p2))), .second, .unset, .unset, .unset, .unset, .unset] [])) rfl (hb hby at_49) _ ?_
        show Steps p.tables e below (T4.setTop (mkF m 52 #[.val (.int p1), .val (.int p2), .val (.int (own_n p1)), .val (.int (own_N p1)), .val (.int (own_j p1 p2)), .val (.int ((own_N p1) - (own_j p1 p2))), .val (.double (own_mean (own_n p1) (own_j p1 p2))), .second, .val (.double (own_diff (own_n p1) (own_j p1 p2))), .second, .unset, .unset, .unset, .unset, .unset] [(.double (4517110426252607488 : UInt64))])) _
        refine XS.dstore X4.here hx rfl (hb hby at_52) rfl (l' := #[.val (.int p1), .val (.int p2), .val (.int (own_n p1)), .val (.int (own_N p1)), .val (.int (own_j p1 p2)), .val (.int ((own_N p1) - (own_j p1 p2))), .val (.double (own_mean (own_n p1) (own_j p1 p2))), .second, .val (.double (own_diff (own_n p1) (own_j p1 p2))), .second, .val (.double (4517110426252607488 : UInt64)), .second, .unset, .unset, .unset]) rfl ?_
        show Steps p.tables e below (T4.setTop (mkF m 54 #[.val (.int p1), .val (.int p2), .val (.int (own_n p1)), .val (.int (own_N p1)), .val (.int (own_j p1 p2)), .val (.int ((own_N p1) - (own_j p1 p2))), .val (.double (own_mean (own_n p1) (own_j p1 p2))), .second, .val (.double (own_diff (own_n p1) (own_j p1 p2))), .second, .val (.double (4517110426252607488 : UInt64)), .second, .unset, .unset, .unset] [])) _
        refine XS.dload X4.here hx rfl (hb hby at_54) rfl ?_
        show Steps p.tables e below (T4.setTop (mkF m 56 #[.val (.int p1), .val (.int p2), .val (.int (own_n p1)), .val (.int (own_N p1)), .val (.int (own_j p1 p2)), .val (.int ((own_N p1) - (own_j p1 p2))), .val (.double (own_mean (own_n p1) (own_j p1 p2))), .second, .val (.double (own_diff (own_n p1) (own_j p1 p2))), .second, .val (.double (4517110426252607488 : UInt64)), .second, .unset, .unset, .unset] [(.double (own_diff (own_n p1) (own_j p1 p2)))])) _
        refine XS.dload X4.here hx rfl (hb hby at_56) rfl ?_
        show Steps p.tables e below (T4.setTop (mkF m 58 #[.val (.int p1), .val (.int p2), .val (.int (own_n p1)), .val (.int (own_N p1)), .val (.int (own_j p1 p2)), .val (.int ((own_N p1) - (own_j p1 p2))), .val (.double (own_mean (own_n p1) (own_j p1 p2))), .second, .val (.double (own_diff (own_n p1) (own_j p1 p2))), .second, .val (.double (4517110426252607488 : UInt64)), .second, .unset, .unset, .unset] [(.double (4517110426252607488 : UInt64)), (.double (own_diff (own_n p1) (own_j p1 p2)))])) _
        refine XS.dcmpS X4.here hx rfl (v := (cmpValue (FP.dcmp (own_diff (own_n p1) (own_j p1 p2)) own_eps) .g)) (hb hby at_58) rfl rfl ?_
        show Steps p.tables e below (T4.setTop (mkF m 59 #[.val (.int p1), .val (.int p2), .val (.int (own_n p1)), .val (.int (own_N p1)), .val (.int (own_j p1 p2)), .val (.int ((own_N p1) - (own_j p1 p2))), .val (.double (own_mean (own_n p1) (own_j p1 p2))), .second, .val (.double (own_diff (own_n p1) (own_j p1 p2))), .second, .val (.double (4517110426252607488 : UInt64)), .second, .unset, .unset, .unset] [(.int (cmpValue (FP.dcmp (own_diff (own_n p1) (own_j p1 p2)) own_eps) .g))])) _
        refine XS.ifNo X4.here hx rfl (hb hby at_59) rfl ((if0 _ _).trans (flt (own_le1 ok)).2.2.1) ?_
        show Steps p.tables e below (T4.setTop (mkF m 62 #[.val (.int p1), .val (.int p2), .val (.int (own_n p1)), .val (.int (own_N p1)), .val (.int (own_j p1 p2)), .val (.int ((own_N p1) - (own_j p1 p2))), .val (.double (own_mean (own_n p1) (own_j p1 p2))), .second, .val (.double (own_diff (own_n p1) (own_j p1 p2))), .second, .val (.double (4517110426252607488 : UInt64)), .second, .unset, .unset, .unset] [])) _
        refine XS.dload X4.here hx rfl (hb hby at_62) rfl ?_
        show Steps p.tables e below (T4.setTop (mkF m 64 #[.val (.int p1), .val (.int p2), .val (.int (own_n p1)), .val (.int (own_N p1)), .val (.int (own_j p1 p2)), .val (.int ((own_N p1) - (own_j p1 p2))), .val (.double (own_mean (own_n p1) (own_j p1 p2))), .second, .val (.double (own_diff (own_n p1) (own_j p1 p2))), .second, .val (.double (4517110426252607488 : UInt64)), .second, .unset, .unset, .unset] [(.double (4517110426252607488 : UInt64))])) _
        refine XS.dnegS X4.here hx rfl (v := (FP.dneg (4517110426252607488 : UInt64))) (hb hby at_64) rfl rfl ?_
        show Steps p.tables e below (T4.setTop (mkF m 65 #[.val (.int p1), .val (.int p2), .val (.int (own_n p1)), .val (.int (own_N p1)), .val (.int (own_j p1 p2)), .val (.int ((own_N p1) - (own_j p1 p2))), .val (.double (own_mean (own_n p1) (own_j p1 p2))), .second, .val (.double (own_diff (own_n p1) (own_j p1 p2))), .second, .val (.double (4517110426252607488 : UInt64)), .second, .unset, .unset, .unset] [(.double (FP.dneg (4517110426252607488 : UInt64)))])) _
        refine XS.dload X4.here hx rfl (hb hby at_65) rfl ?_
        show Steps p.tables e below (T4.setTop (mkF m 67 #[.val (.int p1), .val (.int p2), .val (.int (own_n p1)), .val (.int (own_N p1)), .val (.int (own_j p1 p2)), .val (.int ((own_N p1) - (own_j p1 p2))), .val (.double (own_mean (own_n p1) (own_j p1 p2))), .second, .val (.double (own_diff (own_n p1) (own_j p1 p2))), .second, .val (.double (4517110426252607488 : UInt64)), .second, .unset, .unset, .unset] [(.double (own_diff (own_n p1) (own_j p1 p2))), (.double (FP.dneg (4517110426252607488 : UInt64)))])) _
        refine XS.dcmpS X4.here hx rfl (v := (cmpValue (FP.dcmp (FP.dneg own_eps) (own_diff (own_n p1) (own_j p1 p2))) .g)) (hb hby at_67) rfl rfl ?_
        show Steps p.tables e below (T4.setTop (mkF m 68 #[.val (.int p1), .val (.int p2), .val (.int (own_n p1)), .val (.int (own_N p1)), .val (.int (own_j p1 p2)), .val (.int ((own_N p1) - (own_j p1 p2))), .val (.double (own_mean (own_n p1) (own_j p1 p2))), .second, .val (.double (own_diff (own_n p1) (own_j p1 p2))), .second, .val (.double (4517110426252607488 : UInt64)), .second, .unset, .unset, .unset] [(.int (cmpValue (FP.dcmp (FP.dneg own_eps) (own_diff (own_n p1) (own_j p1 p2))) .g))])) _
        refine XS.ifNo X4.here hx rfl (hb hby at_68) rfl ((if0 _ _).trans (flt (own_le2 ok)).2.2.1) ?_
        show Steps p.tables e below (T4.setTop (mkF m 71 #[.val (.int p1), .val (.int p2), .val (.int (own_n p1)), .val (.int (own_N p1)), .val (.int (own_j p1 p2)), .val (.int ((own_N p1) - (own_j p1 p2))), .val (.double (own_mean (own_n p1) (own_j p1 p2))), .second, .val (.double (own_diff (own_n p1) (own_j p1 p2))), .second, .val (.double (4517110426252607488 : UInt64)), .second, .unset, .unset, .unset] [])) _
        refine XS.iconst X4.here hx rfl (hb hby at_71) ?_
        show Steps p.tables e below (T4.setTop (mkF m 72 #[.val (.int p1), .val (.int p2), .val (.int (own_n p1)), .val (.int (own_N p1)), .val (.int (own_j p1 p2)), .val (.int ((own_N p1) - (own_j p1 p2))), .val (.double (own_mean (own_n p1) (own_j p1 p2))), .second, .val (.double (own_diff (own_n p1) (own_j p1 p2))), .second, .val (.double (4517110426252607488 : UInt64)), .second, .unset, .unset, .unset] [(.int (1 : Int32))])) _
        refine XS.goto X4.here hx rfl (pc0 := 72) (pc' := 76) rfl (hb hby at_72) (by decide) (by decide) ?_
        show Steps p.tables e below (T4.setTop (mkF m 76 #[.val (.int p1), .val (.int p2), .val (.int (own_n p1)), .val (.int (own_N p1)), .val (.int (own_j p1 p2)), .val (.int ((own_N p1) - (own_j p1 p2))), .val (.double (own_mean (own_n p1) (own_j p1 p2))), .second, .val (.double (own_diff (own_n p1) (own_j p1 p2))), .second, .val (.double (4517110426252607488 : UInt64)), .second, .unset, .unset, .unset] [(.int (1 : Int32))])) _
        refine XS.istore X4.here hx rfl (hb hby at_76) rfl (l' := #[.val (.int p1), .val (.int p2), .val (.int (own_n p1)), .val (.int (own_N p1)), .val (.int (own_j p1 p2)), .val (.int ((own_N p1) - (own_j p1 p2))), .val (.double (own_mean (own_n p1) (own_j p1 p2))), .second, .val (.double (own_diff (own_n p1) (own_j p1 p2))), .second, .val (.double (4517110426252607488 : UInt64)), .second, .val (.int (1 : Int32)), .unset, .unset]) rfl ?_
        show Steps p.tables e below (T4.setTop (mkF m 78 #[.val (.int p1), .val (.int p2), .val (.int (own_n p1)), .val (.int (own_N p1)), .val (.int (own_j p1 p2)), .val (.int ((own_N p1) - (own_j p1 p2))), .val (.double (own_mean (own_n p1) (own_j p1 p2))), .second, .val (.double (own_diff (own_n p1) (own_j p1 p2))), .second, .val (.double (4517110426252607488 : UInt64)), .second, .val (.int (1 : Int32)), .unset, .unset] [])) _
        refine XS.iload X4.here hx rfl (hb hby at_78) rfl ?_
        show Steps p.tables e below (T4.setTop (mkF m 80 #[.val (.int p1), .val (.int p2), .val (.int (own_n p1)), .val (.int (own_N p1)), .val (.int (own_j p1 p2)), .val (.int ((own_N p1) - (own_j p1 p2))), .val (.double (own_mean (own_n p1) (own_j p1 p2))), .second, .val (.double (own_diff (own_n p1) (own_j p1 p2))), .second, .val (.double (4517110426252607488 : UInt64)), .second, .val (.int (1 : Int32)), .unset, .unset] [(.int (1 : Int32))])) _
        refine XS.ifNo X4.here hx rfl (hb hby at_80) rfl (by decide) ?_
        show Steps p.tables e below (T4.setTop (mkF m 83 #[.val (.int p1), .val (.int p2), .val (.int (own_n p1)), .val (.int (own_N p1)), .val (.int (own_j p1 p2)), .val (.int ((own_N p1) - (own_j p1 p2))), .val (.double (own_mean (own_n p1) (own_j p1 p2))), .second, .val (.double (own_diff (own_n p1) (own_j p1 p2))), .second, .val (.double (4517110426252607488 : UInt64)), .second, .val (.int (1 : Int32)), .unset, .unset] [])) _
        refine XS.dload X4.here hx rfl (hb hby at_83) rfl ?_
        show Steps p.tables e below (T4.setTop (mkF m 85 #[.val (.int p1), .val (.int p2), .val (.int (own_n p1)), .val (.int (own_N p1)), .val (.int (own_j p1 p2)), .val (.int ((own_N p1) - (own_j p1 p2))), .val (.double (own_mean (own_n p1) (own_j p1 p2))), .second, .val (.double (own_diff (own_n p1) (own_j p1 p2))), .second, .val (.double (4517110426252607488 : UInt64)), .second, .val (.int (1 : Int32)), .unset, .unset] [(.double (own_mean (own_n p1) (own_j p1 p2)))])) _
        refine XS.dconst0 X4.here hx rfl (v := FP.dconst0) (hb hby at_85) rfl ?_
        show Steps p.tables e below (T4.setTop (mkF m 86 #[.val (.int p1), .val (.int p2), .val (.int (own_n p1)), .val (.int (own_N p1)), .val (.int (own_j p1 p2)), .val (.int ((own_N p1) - (own_j p1 p2))), .val (.double (own_mean (own_n p1) (own_j p1 p2))), .second, .val (.double (own_diff (own_n p1) (own_j p1 p2))), .second, .val (.double (4517110426252607488 : UInt64)), .second, .val (.int (1 : Int32)), .unset, .unset] [(.double FP.dconst0), (.double (own_mean (own_n p1) (own_j p1 p2)))])) _
        refine XS.dcmpS X4.here hx rfl (v := (1 : Int32)) (hb hby at_86) rfl (own_above ok hpos) ?_
        show Steps p.tables e below (T4.setTop (mkF m 87 #[.val (.int p1), .val (.int p2), .val (.int (own_n p1)), .val (.int (own_N p1)), .val (.int (own_j p1 p2)), .val (.int ((own_N p1) - (own_j p1 p2))), .val (.double (own_mean (own_n p1) (own_j p1 p2))), .second, .val (.double (own_diff (own_n p1) (own_j p1 p2))), .second, .val (.double (4517110426252607488 : UInt64)), .second, .val (.int (1 : Int32)), .unset, .unset] [(.int (1 : Int32))])) _
        refine XS.ifYes X4.here hx rfl (pc0 := 87) (pc' := 94) rfl (hb hby at_87) rfl (by decide) (by decide) (by decide) ?_
        show Steps p.tables e below (T4.setTop (mkF m 94 #[.val (.int p1), .val (.int p2), .val (.int (own_n p1)), .val (.int (own_N p1)), .val (.int (own_j p1 p2)), .val (.int ((own_N p1) - (own_j p1 p2))), .val (.double (own_mean (own_n p1) (own_j p1 p2))), .second, .val (.double (own_diff (own_n p1) (own_j p1 p2))), .second, .val (.double (4517110426252607488 : UInt64)), .second, .val (.int (1 : Int32)), .unset, .unset] [])) _
        refine XS.iconst X4.here hx rfl (hb hby at_94) ?_
        show Steps p.tables e below (T4.setTop (mkF m 95 #[.val (.int p1), .val (.int p2), .val (.int (own_n p1)), .val (.int (own_N p1)), .val (.int (own_j p1 p2)), .val (.int ((own_N p1) - (own_j p1 p2))), .val (.double (own_mean (own_n p1) (own_j p1 p2))), .second, .val (.double (own_diff (own_n p1) (own_j p1 p2))), .second, .val (.double (4517110426252607488 : UInt64)), .second, .val (.int (1 : Int32)), .unset, .unset] [(.int (0 : Int32))])) _
        refine XS.iload X4.here hx rfl (hb hby at_95) rfl ?_
        show Steps p.tables e below (T4.setTop (mkF m 97 #[.val (.int p1), .val (.int p2), .val (.int (own_n p1)), .val (.int (own_N p1)), .val (.int (own_j p1 p2)), .val (.int ((own_N p1) - (own_j p1 p2))), .val (.double (own_mean (own_n p1) (own_j p1 p2))), .second, .val (.double (own_diff (own_n p1) (own_j p1 p2))), .second, .val (.double (4517110426252607488 : UInt64)), .second, .val (.int (1 : Int32)), .unset, .unset] [(.int (own_j p1 p2)), (.int (0 : Int32))])) _
        refine XS.iloadN X4.here hx rfl (hb hby at_97) rfl ?_
        show Steps p.tables e below (T4.setTop (mkF m 98 #[.val (.int p1), .val (.int p2), .val (.int (own_n p1)), .val (.int (own_N p1)), .val (.int (own_j p1 p2)), .val (.int ((own_N p1) - (own_j p1 p2))), .val (.double (own_mean (own_n p1) (own_j p1 p2))), .second, .val (.double (own_diff (own_n p1) (own_j p1 p2))), .second, .val (.double (4517110426252607488 : UInt64)), .second, .val (.int (1 : Int32)), .unset, .unset] [(.int (own_N p1)), (.int (own_j p1 p2)), (.int (0 : Int32))])) _
        refine XS.icmpYes X4.here hx rfl (pc0 := 98) (pc' := 105) rfl (hb hby at_98) rfl (feq hne).2 (by decide) (by decide) ?_
        show Steps p.tables e below (T4.setTop (mkF m 105 #[.val (.int p1), .val (.int p2), .val (.int (own_n p1)), .val (.int (own_N p1)), .val (.int (own_j p1 p2)), .val (.int ((own_N p1) - (own_j p1 p2))), .val (.double (own_mean (own_n p1) (own_j p1 p2))), .second, .val (.double (own_diff (own_n p1) (own_j p1 p2))), .second, .val (.double (4517110426252607488 : UInt64)), .second, .val (.int (1 : Int32)), .unset, .unset] [(.int (0 : Int32))])) _
        refine XS.iconst X4.here hx rfl (hb hby at_105) ?_
        show Steps p.tables e below (T4.setTop (mkF m 106 #[.val (.int p1), .val (.int p2), .val (.int (own_n p1)), .val (.int (own_N p1)), .val (.int (own_j p1 p2)), .val (.int ((own_N p1) - (own_j p1 p2))), .val (.double (own_mean (own_n p1) (own_j p1 p2))), .second, .val (.double (own_diff (own_n p1) (own_j p1 p2))), .second, .val (.double (4517110426252607488 : UInt64)), .second, .val (.int (1 : Int32)), .unset, .unset] [(.int (0 : Int32)), (.int (0 : Int32))])) _
        refine XS.icmpNo X4.here hx rfl (hb hby at_106) rfl (by decide) ?_
        show Steps p.tables e below (T4.setTop (mkF m 109 #[.val (.int p1), .val (.int p2), .val (.int (own_n p1)), .val (.int (own_N p1)), .val (.int (own_j p1 p2)), .val (.int ((own_N p1) - (own_j p1 p2))), .val (.double (own_mean (own_n p1) (own_j p1 p2))), .second, .val (.double (own_diff (own_n p1) (own_j p1 p2))), .second, .val (.double (4517110426252607488 : UInt64)), .second, .val (.int (1 : Int32)), .unset, .unset] [])) _
        refine XS.iconst X4.here hx rfl (hb hby at_109) ?_
        show Steps p.tables e below (T4.setTop (mkF m 110 #[.val (.int p1), .val (.int p2), .val (.int (own_n p1)), .val (.int (own_N p1)), .val (.int (own_j p1 p2)), .val (.int ((own_N p1) - (own_j p1 p2))), .val (.double (own_mean (own_n p1) (own_j p1 p2))), .second, .val (.double (own_diff (own_n p1) (own_j p1 p2))), .second, .val (.double (4517110426252607488 : UInt64)), .second, .val (.int (1 : Int32)), .unset, .unset] [(.int (1 : Int32))])) _
        refine XS.goto X4.here hx rfl (pc0 := 110) (pc' := 114) rfl (hb hby at_110) (by decide) (by decide) ?_
        show Steps p.tables e below (T4.setTop (mkF m 114 #[.val (.int p1), .val (.int p2), .val (.int (own_n p1)), .val (.int (own_N p1)), .val (.int (own_j p1 p2)), .val (.int ((own_N p1) - (own_j p1 p2))), .val (.double (own_mean (own_n p1) (own_j p1 p2))), .second, .val (.double (own_diff (own_n p1) (own_j p1 p2))), .second, .val (.double (4517110426252607488 : UInt64)), .second, .val (.int (1 : Int32)), .unset, .unset] [(.int (1 : Int32))])) _
        refine XS.istore X4.here hx rfl (hb hby at_114) rfl (l' := #[.val (.int p1), .val (.int p2), .val (.int (own_n p1)), .val (.int (own_N p1)), .val (.int (own_j p1 p2)), .val (.int ((own_N p1) - (own_j p1 p2))), .val (.double (own_mean (own_n p1) (own_j p1 p2))), .second, .val (.double (own_diff (own_n p1) (own_j p1 p2))), .second, .val (.double (4517110426252607488 : UInt64)), .second, .val (.int (1 : Int32)), .unset, .unset]) rfl ?_
        show Steps p.tables e below (T4.setTop (mkF m 116 #[.val (.int p1), .val (.int p2), .val (.int (own_n p1)), .val (.int (own_N p1)), .val (.int (own_j p1 p2)), .val (.int ((own_N p1) - (own_j p1 p2))), .val (.double (own_mean (own_n p1) (own_j p1 p2))), .second, .val (.double (own_diff (own_n p1) (own_j p1 p2))), .second, .val (.double (4517110426252607488 : UInt64)), .second, .val (.int (1 : Int32)), .unset, .unset] [])) _
        refine XS.iload X4.here hx rfl (hb hby at_116) rfl ?_
        show Steps p.tables e below (T4.setTop (mkF m 118 #[.val (.int p1), .val (.int p2), .val (.int (own_n p1)), .val (.int (own_N p1)), .val (.int (own_j p1 p2)), .val (.int ((own_N p1) - (own_j p1 p2))), .val (.double (own_mean (own_n p1) (own_j p1 p2))), .second, .val (.double (own_diff (own_n p1) (own_j p1 p2))), .second, .val (.double (4517110426252607488 : UInt64)), .second, .val (.int (1 : Int32)), .unset, .unset] [(.int (own_j p1 p2))])) _
        refine XS.iloadN X4.here hx rfl (hb hby at_118) rfl ?_
        show Steps p.tables e below (T4.setTop (mkF m 119 #[.val (.int p1), .val (.int p2), .val (.int (own_n p1)), .val (.int (own_N p1)), .val (.int (own_j p1 p2)), .val (.int ((own_N p1) - (own_j p1 p2))), .val (.double (own_mean (own_n p1) (own_j p1 p2))), .second, .val (.double (own_diff (own_n p1) (own_j p1 p2))), .second, .val (.double (4517110426252607488 : UInt64)), .second, .val (.int (1 : Int32)), .unset, .unset] [(.int (own_n p1)), (.int (own_j p1 p2))])) _
        refine XS.icmpNo X4.here hx rfl (hb hby at_119) rfl (flt hle).2.2.1 ?_
        show Steps p.tables e below (T4.setTop (mkF m 122 #[.val (.int p1), .val (.int p2), .val (.int (own_n p1)), .val (.int (own_N p1)), .val (.int (own_j p1 p2)), .val (.int ((own_N p1) - (own_j p1 p2))), .val (.double (own_mean (own_n p1) (own_j p1 p2))), .second, .val (.double (own_diff (own_n p1) (own_j p1 p2))), .second, .val (.double (4517110426252607488 : UInt64)), .second, .val (.int (1 : Int32)), .unset, .unset] [])) _
        refine XS.iloadN X4.here hx rfl (hb hby at_122) rfl ?_
        show Steps p.tables e below (T4.setTop (mkF m 123 #[.val (.int p1), .val (.int p2), .val (.int (own_n p1)), .val (.int (own_N p1)), .val (.int (own_j p1 p2)), .val (.int ((own_N p1) - (own_j p1 p2))), .val (.double (own_mean (own_n p1) (own_j p1 p2))), .second, .val (.double (own_diff (own_n p1) (own_j p1 p2))), .second, .val (.double (4517110426252607488 : UInt64)), .second, .val (.int (1 : Int32)), .unset, .unset] [(.int (own_n p1))])) _
        refine XS.iload X4.here hx rfl (hb hby at_123) rfl ?_
        show Steps p.tables e below (T4.setTop (mkF m 125 #[.val (.int p1), .val (.int p2), .val (.int (own_n p1)), .val (.int (own_N p1)), .val (.int (own_j p1 p2)), .val (.int ((own_N p1) - (own_j p1 p2))), .val (.double (own_mean (own_n p1) (own_j p1 p2))), .second, .val (.double (own_diff (own_n p1) (own_j p1 p2))), .second, .val (.double (4517110426252607488 : UInt64)), .second, .val (.int (1 : Int32)), .unset, .unset] [(.int (own_j p1 p2)), (.int (own_n p1))])) _
        refine XS.iconst X4.here hx rfl (hb hby at_125) ?_
        show Steps p.tables e below (T4.setTop (mkF m 126 #[.val (.int p1), .val (.int p2), .val (.int (own_n p1)), .val (.int (own_N p1)), .val (.int (own_j p1 p2)), .val (.int ((own_N p1) - (own_j p1 p2))), .val (.double (own_mean (own_n p1) (own_j p1 p2))), .second, .val (.double (own_diff (own_n p1) (own_j p1 p2))), .second, .val (.double (4517110426252607488 : UInt64)), .second, .val (.int (1 : Int32)), .unset, .unset] [(.int (1 : Int32)), (.int (own_j p1 p2)), (.int (own_n p1))])) _
        refine XS.iadd X4.here hx rfl (hb hby at_126) rfl ?_
        show Steps p.tables e below (T4.setTop (mkF m 127 #[.val (.int p1), .val (.int p2), .val (.int (own_n p1)), .val (.int (own_N p1)), .val (.int (own_j p1 p2)), .val (.int ((own_N p1) - (own_j p1 p2))), .val (.double (own_mean (own_n p1) (own_j p1 p2))), .second, .val (.double (own_diff (own_n p1) (own_j p1 p2))), .second, .val (.double (4517110426252607488 : UInt64)), .second, .val (.int (1 : Int32)), .unset, .unset] [(.int ((own_j p1 p2) + (1 : Int32))), (.int (own_n p1))])) _
        refine st5 _ ?_
        show Steps p.tables e below (T5.setTop (mkF m 130 #[.val (.int p1), .val (.int p2), .val (.int (own_n p1)), .val (.int (own_N p1)), .val (.int (own_j p1 p2)), .val (.int ((own_N p1) - (own_j p1 p2))), .val (.double (own_mean (own_n p1) (own_j p1 p2))), .second, .val (.double (own_diff (own_n p1) (own_j p1 p2))), .second, .val (.double (4517110426252607488 : UInt64)), .second, .val (.int (1 : Int32)), .unset, .unset] [(.double (own_mean (own_n p1) ((own_j p1 p2) + (1 : Int32))))])) _
        refine XS.dstore X5.here hx rfl (hb hby at_130) rfl (l' := #[.val (.int p1), .val (.int p2), .val (.int (own_n p1)), .val (.int (own_N p1)), .val (.int (own_j p1 p2)), .val (.int ((own_N p1) - (own_j p1 p2))), .val (.double (own_mean (own_n p1) (own_j p1 p2))), .second, .val (.double (own_diff (own_n p1) (own_j p1 p2))), .second, .val (.double (4517110426252607488 : UInt64)), .second, .val (.int (1 : Int32)), .val (.double (own_mean (own_n p1) ((own_j p1 p2) + (1 : Int32)))), .second]) rfl ?_
        show Steps p.tables e below (T5.setTop (mkF m 132 #[.val (.int p1), .val (.int p2), .val (.int (own_n p1)), .val (.int (own_N p1)), .val (.int (own_j p1 p2)), .val (.int ((own_N p1) - (own_j p1 p2))), .val (.double (own_mean (own_n p1) (own_j p1 p2))), .second, .val (.double (own_diff (own_n p1) (own_j p1 p2))), .second, .val (.double (4517110426252607488 : UInt64)), .second, .val (.int (1 : Int32)), .val (.double (own_mean (own_n p1) ((own_j p1 p2) + (1 : Int32)))), .second] [])) _
        refine XS.iload X5.here hx rfl (hb hby at_132) rfl ?_
        show Steps p.tables e below (T5.setTop (mkF m 134 #[.val (.int p1), .val (.int p2), .val (.int (own_n p1)), .val (.int (own_N p1)), .val (.int (own_j p1 p2)), .val (.int ((own_N p1) - (own_j p1 p2))), .val (.double (own_mean (own_n p1) (own_j p1 p2))), .second, .val (.double (own_diff (own_n p1) (own_j p1 p2))), .second, .val (.double (4517110426252607488 : UInt64)), .second, .val (.int (1 : Int32)), .val (.double (own_mean (own_n p1) ((own_j p1 p2) + (1 : Int32)))), .second] [(.int (1 : Int32))])) _
        refine XS.ifNo X5.here hx rfl (hb hby at_134) rfl (by decide) ?_
        show Steps p.tables e below (T5.setTop (mkF m 137 #[.val (.int p1), .val (.int p2), .val (.int (own_n p1)), .val (.int (own_N p1)), .val (.int (own_j p1 p2)), .val (.int ((own_N p1) - (own_j p1 p2))), .val (.double (own_mean (own_n p1) (own_j p1 p2))), .second, .val (.double (own_diff (own_n p1) (own_j p1 p2))), .second, .val (.double (4517110426252607488 : UInt64)), .second, .val (.int (1 : Int32)), .val (.double (own_mean (own_n p1) ((own_j p1 p2) + (1 : Int32)))), .second] [])) _
        refine XS.dload X5.here hx rfl (hb hby at_137) rfl ?_
        show Steps p.tables e below (T5.setTop (mkF m 139 #[.val (.int p1), .val (.int p2), .val (.int (own_n p1)), .val (.int (own_N p1)), .val (.int (own_j p1 p2)), .val (.int ((own_N p1) - (own_j p1 p2))), .val (.double (own_mean (own_n p1) (own_j p1 p2))), .second, .val (.double (own_diff (own_n p1) (own_j p1 p2))), .second, .val (.double (4517110426252607488 : UInt64)), .second, .val (.int (1 : Int32)), .val (.double (own_mean (own_n p1) ((own_j p1 p2) + (1 : Int32)))), .second] [(.double (own_mean (own_n p1) ((own_j p1 p2) + (1 : Int32))))])) _
        refine XS.dload X5.here hx rfl (hb hby at_139) rfl ?_
        show Steps p.tables e below (T5.setTop (mkF m 141 #[.val (.int p1), .val (.int p2), .val (.int (own_n p1)), .val (.int (own_N p1)), .val (.int (own_j p1 p2)), .val (.int ((own_N p1) - (own_j p1 p2))), .val (.double (own_mean (own_n p1) (own_j p1 p2))), .second, .val (.double (own_diff (own_n p1) (own_j p1 p2))), .second, .val (.double (4517110426252607488 : UInt64)), .second, .val (.int (1 : Int32)), .val (.double (own_mean (own_n p1) ((own_j p1 p2) + (1 : Int32)))), .second] [(.double (own_mean (own_n p1) (own_j p1 p2))), (.double (own_mean (own_n p1) ((own_j p1 p2) + (1 : Int32))))])) _
        refine XS.dcmpS X5.here hx rfl (v := (-1 : Int32)) (hb hby at_141) rfl (own_strict ok ok2) ?_
        show Steps p.tables e below (T5.setTop (mkF m 142 #[.val (.int p1), .val (.int p2), .val (.int (own_n p1)), .val (.int (own_N p1)), .val (.int (own_j p1 p2)), .val (.int ((own_N p1) - (own_j p1 p2))), .val (.double (own_mean (own_n p1) (own_j p1 p2))), .second, .val (.double (own_diff (own_n p1) (own_j p1 p2))), .second, .val (.double (4517110426252607488 : UInt64)), .second, .val (.int (1 : Int32)), .val (.double (own_mean (own_n p1) ((own_j p1 p2) + (1 : Int32)))), .second] [(.int (-1 : Int32))])) _
        refine XS.ifNo X5.here hx rfl (hb hby at_142) rfl (by decide) ?_
        show Steps p.tables e below (T5.setTop (mkF m 145 #[.val (.int p1), .val (.int p2), .val (.int (own_n p1)), .val (.int (own_N p1)), .val (.int (own_j p1 p2)), .val (.int ((own_N p1) - (own_j p1 p2))), .val (.double (own_mean (own_n p1) (own_j p1 p2))), .second, .val (.double (own_diff (own_n p1) (own_j p1 p2))), .second, .val (.double (4517110426252607488 : UInt64)), .second, .val (.int (1 : Int32)), .val (.double (own_mean (own_n p1) ((own_j p1 p2) + (1 : Int32)))), .second] [])) _
        refine XS.iconst X5.here hx rfl (hb hby at_145) ?_
        show Steps p.tables e below (T5.setTop (mkF m 146 #[.val (.int p1), .val (.int p2), .val (.int (own_n p1)), .val (.int (own_N p1)), .val (.int (own_j p1 p2)), .val (.int ((own_N p1) - (own_j p1 p2))), .val (.double (own_mean (own_n p1) (own_j p1 p2))), .second, .val (.double (own_diff (own_n p1) (own_j p1 p2))), .second, .val (.double (4517110426252607488 : UInt64)), .second, .val (.int (1 : Int32)), .val (.double (own_mean (own_n p1) ((own_j p1 p2) + (1 : Int32)))), .second] [(.int (1 : Int32))])) _
        refine XS.goto X5.here hx rfl (pc0 := 146) (pc' := 150) rfl (hb hby at_146) (by decide) (by decide) ?_
        show Steps p.tables e below (T5.setTop (mkF m 150 #[.val (.int p1), .val (.int p2), .val (.int (own_n p1)), .val (.int (own_N p1)), .val (.int (own_j p1 p2)), .val (.int ((own_N p1) - (own_j p1 p2))), .val (.double (own_mean (own_n p1) (own_j p1 p2))), .second, .val (.double (own_diff (own_n p1) (own_j p1 p2))), .second, .val (.double (4517110426252607488 : UInt64)), .second, .val (.int (1 : Int32)), .val (.double (own_mean (own_n p1) ((own_j p1 p2) + (1 : Int32)))), .second] [(.int (1 : Int32))])) _
        refine XS.istore X5.here hx rfl (hb hby at_150) rfl (l' := #[.val (.int p1), .val (.int p2), .val (.int (own_n p1)), .val (.int (own_N p1)), .val (.int (own_j p1 p2)), .val (.int ((own_N p1) - (own_j p1 p2))), .val (.double (own_mean (own_n p1) (own_j p1 p2))), .second, .val (.double (own_diff (own_n p1) (own_j p1 p2))), .second, .val (.double (4517110426252607488 : UInt64)), .second, .val (.int (1 : Int32)), .val (.double (own_mean (own_n p1) ((own_j p1 p2) + (1 : Int32)))), .second]) rfl ?_
        show Steps p.tables e below (T5.setTop (mkF m 152 #[.val (.int p1), .val (.int p2), .val (.int (own_n p1)), .val (.int (own_N p1)), .val (.int (own_j p1 p2)), .val (.int ((own_N p1) - (own_j p1 p2))), .val (.double (own_mean (own_n p1) (own_j p1 p2))), .second, .val (.double (own_diff (own_n p1) (own_j p1 p2))), .second, .val (.double (4517110426252607488 : UInt64)), .second, .val (.int (1 : Int32)), .val (.double (own_mean (own_n p1) ((own_j p1 p2) + (1 : Int32)))), .second] [])) _
        refine XS.iloadN X5.here hx rfl (hb hby at_152) rfl ?_
        show Steps p.tables e below (T5.setTop (mkF m 153 #[.val (.int p1), .val (.int p2), .val (.int (own_n p1)), .val (.int (own_N p1)), .val (.int (own_j p1 p2)), .val (.int ((own_N p1) - (own_j p1 p2))), .val (.double (own_mean (own_n p1) (own_j p1 p2))), .second, .val (.double (own_diff (own_n p1) (own_j p1 p2))), .second, .val (.double (4517110426252607488 : UInt64)), .second, .val (.int (1 : Int32)), .val (.double (own_mean (own_n p1) ((own_j p1 p2) + (1 : Int32)))), .second] [(.int (own_n p1))])) _
        refine X5.ldcI hx hown (mvT hZ (hw _ (List.mem_of_getElem? (i := 7) rfl))) (g := (mkF m 153 #[.val (.int p1), .val (.int p2), .val (.int (own_n p1)), .val (.int (own_N p1)), .val (.int (own_j p1 p2)), .val (.int ((own_N p1) - (own_j p1 p2))), .val (.double (own_mean (own_n p1) (own_j p1 p2))), .second, .val (.double (own_diff (own_n p1) (own_j p1 p2))), .second, .val (.double (4517110426252607488 : UInt64)), .second, .val (.int (1 : Int32)), .val (.double (own_mean (own_n p1) ((own_j p1 p2) + (1 : Int32)))), .second] [(.int (own_n p1))])) rfl (hb hby at_153) ?_
        show Steps p.tables e below (T5.setTop (mkF m 155 #[.val (.int p1), .val (.int p2), .val (.int (own_n p1)), .val (.int (own_N p1)), .val (.int (own_j p1 p2)), .val (.int ((own_N p1) - (own_j p1 p2))), .val (.double (own_mean (own_n p1) (own_j p1 p2))), .second, .val (.double (own_diff (own_n p1) (own_j p1 p2))), .second, .val (.double (4517110426252607488 : UInt64)), .second, .val (.int (1 : Int32)), .val (.double (own_mean (own_n p1) ((own_j p1 p2) + (1 : Int32)))), .second] [(.int (1073741821 : Int32)), (.int (own_n p1))])) _
        refine XS.icmpYes X5.here hx rfl (pc0 := 155) (pc' := 192) rfl (hb hby at_155) rfl (tlt hsm).2.2.1 (by decide) (by decide) ?_
        show Steps p.tables e below (T5.setTop (mkF m 192 #[.val (.int p1), .val (.int p2), .val (.int (own_n p1)), .val (.int (own_N p1)), .val (.int (own_j p1 p2)), .val (.int ((own_N p1) - (own_j p1 p2))), .val (.double (own_mean (own_n p1) (own_j p1 p2))), .second, .val (.double (own_diff (own_n p1) (own_j p1 p2))), .second, .val (.double (4517110426252607488 : UInt64)), .second, .val (.int (1 : Int32)), .val (.double (own_mean (own_n p1) ((own_j p1 p2) + (1 : Int32)))), .second] [])) _
        refine XS.iload X5.here hx rfl (hb hby at_192) rfl ?_
        show Steps p.tables e below (T5.setTop (mkF m 194 #[.val (.int p1), .val (.int p2), .val (.int (own_n p1)), .val (.int (own_N p1)), .val (.int (own_j p1 p2)), .val (.int ((own_N p1) - (own_j p1 p2))), .val (.double (own_mean (own_n p1) (own_j p1 p2))), .second, .val (.double (own_diff (own_n p1) (own_j p1 p2))), .second, .val (.double (4517110426252607488 : UInt64)), .second, .val (.int (1 : Int32)), .val (.double (own_mean (own_n p1) ((own_j p1 p2) + (1 : Int32)))), .second] [(.int (1 : Int32))])) _
        exact retN X5 hx (t := .boolean) Bd.returns (by simp) (hb hby at_194) hr
      · show Q0 Z p1 p2 h0 n0 _ T5.heap _
        exact ⟨rfl, N5⟩
  · have heq : (own_j p1 p2) = (own_N p1) := Int32.toInt_inj.mp (by omega)
    have hle : (own_n p1) < (own_j p1 p2) := by rw [Int32.lt_iff_toInt_lt]; omega
    have ok0 : own_ok (own_n p1) (own_j p1 p2) 0 (own_N p1).toInt := by have q := ok; rw [show ((own_N p1).toInt - (own_j p1 p2).toInt) = 0 by omega] at q; exact q
    by_cases hs : (own_n p1).toInt ≤ 1073741821
    · have hsm : ¬ ((1073741821 : Int32) < (own_n p1)) := by rw [Int32.lt_iff_toInt_lt, show (1073741821 : Int32).toInt = 1073741821 from by decide]; omega
      have ok3 := own_twice (p2 := p2) hs
      obtain ⟨_, _, ⟨T6, L6, k6, n6⟩, -, X6, ⟨Lc6, hQ6, l6, y6, z6⟩, st6⟩ := Jvm.LawKit.callS X0 hx (y := (⟨"com/example/outcry/outcry/core/UniformPrice", "meanOfHighest", "(II)D"⟩ : MethodName)) hown (mvT hZ (hw _ (List.mem_of_getElem? (i := 2) rfl))) (mvT hZ (hw _ (List.mem_of_getElem? (i := 3) rfl))) (mvT hZ (hw _ (List.mem_of_getElem? (i := 4) rfl))) (mvT hZ (hw _ (List.mem_of_getElem? (i := 5) rfl))) (by decide) (backOf (W := 0) (rm1 l Z a0 hw [] (own_n p1) (own_j p1 p2) ((own_N p1).toInt - (own_j p1 p2).toInt) (own_N p1).toInt h0 n0 Z0 ok) hZ (hw _ (List.mem_of_getElem? (i := 5) rfl)) (hw _ (List.mem_of_getElem? (i := 4) rfl)) (by decide) (by decide)) (g := (mkF m 33 #[.val (.int p1), .val (.int p2), .val (.int (own_n p1)), .val (.int (own_N p1)), .val (.int (own_j p1 p2)), .val (.int ((own_N p1) - (own_j p1 p2))), .unset, .unset, .unset, .unset, .unset, .unset, .unset, .unset, .unset] [(.int (own_j p1 p2)), (.int (own_n p1))])) rfl (by rw [hml]; rfl) (argsL := [(.int (own_n p1)), (.int (own_j p1 p2))]) (rest := []) (lenOf pd_0 rfl) rfl (by show 2 * 0 + _ ≤ _; exact Nat.le_of_eq rfl) (hb hby at_33) (fun _ _ => ⟨rfl, e0, (by decide : 0 + 0 ≤ _), (by decide : 0 + 0 ≤ _)⟩)
      dsimp only [Pt.U, Pt.locs, Pt.cells, Pt.slots] at X6 l6 y6 z6 st6 hQ6
      subst l6 y6 z6
      obtain ⟨rfl, N6q, eh6⟩ := hQ6
      have N6 := Fr.app N0 N6q
      have Zq : n0 ≤ T6.heap.size := by rw [eh6]; exact Z0
      obtain ⟨_, _, ⟨T7, L7, k7, n7⟩, -, X7, ⟨Lc7, hQ7, l7, y7, z7⟩, st7⟩ := Jvm.LawKit.callS X6 hx (y := (⟨"com/example/outcry/outcry/core/UniformPrice", "meanOfHighest", "(II)D"⟩ : MethodName)) hown (mvT hZ (hw _ (List.mem_of_getElem? (i := 2) rfl))) (mvT hZ (hw _ (List.mem_of_getElem? (i := 3) rfl))) (mvT hZ (hw _ (List.mem_of_getElem? (i := 4) rfl))) (mvT hZ (hw _ (List.mem_of_getElem? (i := 5) rfl))) (by decide) (backOf (W := 0) (rm1 l Z a0 hw [] ((2 : Int32) * (own_n p1) + (1 : Int32)) ((2 : Int32) * (own_j p1 p2)) (2 * ((own_N p1).toInt - (own_j p1 p2).toInt)) (2 * (own_N p1).toInt) T6.heap n0 Zq ok3) hZ (hw _ (List.mem_of_getElem? (i := 5) rfl)) (hw _ (List.mem_of_getElem? (i := 4) rfl)) (by decide) (by decide)) (g := (mkF m 167 #[.val (.int p1), .val (.int p2), .val (.int (own_n p1)), .val (.int (own_N p1)), .val (.int (own_j p1 p2)), .val (.int ((own_N p1) - (own_j p1 p2))), .val (.double (own_mean (own_n p1) (own_j p1 p2))), .second, .val (.double (own_diff (own_n p1) (own_j p1 p2))), .second, .val (.double (4517110426252607488 : UInt64)), .second, .val (.int (1 : Int32)), .unset, .unset] [(.int ((2 : Int32) * (own_j p1 p2))), (.int (((2 : Int32) * (own_n p1)) + (1 : Int32)))])) rfl (by rw [hml]; rfl) (argsL := [(.int (((2 : Int32) * (own_n p1)) + (1 : Int32))), (.int ((2 : Int32) * (own_j p1 p2)))]) (rest := []) (lenOf pd_0 rfl) rfl (by show 2 * 0 + _ ≤ _; exact Nat.le_of_eq rfl) (hb hby at_167) (fun _ _ => ⟨rfl, rfl, (by decide : 0 + 0 ≤ _), (by decide : 0 + 0 ≤ _)⟩)
      dsimp only [Pt.U, Pt.locs, Pt.cells, Pt.slots] at X7 l7 y7 z7 st7 hQ7
      subst l7 y7 z7
      obtain ⟨rfl, N7q, eh7⟩ := hQ7
      have N7 := Fr.app N6 N7q
      obtain ⟨fs, hr, hrun, hended, hW, hsame⟩ := X7.leave (v := some (.int (1 : Int32))) (fun h => by rw [Bd.returns] at h; cases h)
      refine ⟨_, _, pre0 _ ?_, hrun, hended, _, _, rfl, ?_, ⟨_, rfl⟩, hW, hsame.mono (by decide) (by decide)⟩
      · show Steps p.tables e below (s₁.setTop (mkF m 0 #[.val (.int p1), .val (.int p2), .unset, .unset, .unset, .unset, .unset, .unset, .unset, .unset, .unset, .unset, .unset, .unset, .unset] [])) _
        refine XS.iloadN X0.here hx rfl (hb hby at_0) rfl ?_
        show Steps p.tables e below (s₁.setTop (mkF m 1 #[.val (.int p1), .val (.int p2), .unset, .unset, .unset, .unset, .unset, .unset, .unset, .unset, .unset, .unset, .unset, .unset, .unset] [(.int p1)])) _
        refine X0.ldcI hx hown (mvT hZ (hw _ (List.mem_of_getElem? (i := 0) rfl))) (g := (mkF m 1 #[.val (.int p1), .val (.int p2), .unset, .unset, .unset, .unset, .unset, .unset, .unset, .unset, .unset, .unset, .unset, .unset, .unset] [(.int p1)])) rfl (hb hby at_1) ?_
        show Steps p.tables e below (s₁.setTop (mkF m 3 #[.val (.int p1), .val (.int p2), .unset, .unset, .unset, .unset, .unset, .unset, .unset, .unset, .unset, .unset, .unset, .unset, .unset] [(.int (2147483647 : Int32)), (.int p1)])) _
        refine XS.iand X0.here hx rfl (hb hby at_3) rfl ?_
        show Steps p.tables e below (s₁.setTop (mkF m 4 #[.val (.int p1), .val (.int p2), .unset, .unset, .unset, .unset, .unset, .unset, .unset, .unset, .unset, .unset, .unset, .unset, .unset] [(.int (p1 &&& (2147483647 : Int32)))])) _
        refine X0.ldcI hx hown (mvT hZ (hw _ (List.mem_of_getElem? (i := 1) rfl))) (g := (mkF m 4 #[.val (.int p1), .val (.int p2), .unset, .unset, .unset, .unset, .unset, .unset, .unset, .unset, .unset, .unset, .unset, .unset, .unset] [(.int (p1 &&& (2147483647 : Int32)))])) rfl (hb hby at_4) ?_
        show Steps p.tables e below (s₁.setTop (mkF m 6 #[.val (.int p1), .val (.int p2), .unset, .unset, .unset, .unset, .unset, .unset, .unset, .unset, .unset, .unset, .unset, .unset, .unset] [(.int (2147483646 : Int32)), (.int (p1 &&& (2147483647 : Int32)))])) _
        refine iremM X0 hx rfl (hb hby at_6) rfl (by decide) ?_
        show Steps p.tables e below (s₁.setTop (mkF m 7 #[.val (.int p1), .val (.int p2), .unset, .unset, .unset, .unset, .unset, .unset, .unset, .unset, .unset, .unset, .unset, .unset, .unset] [(.int ((p1 &&& (2147483647 : Int32)) % (2147483646 : Int32)))])) _
        refine XS.iconst X0.here hx rfl (hb hby at_7) ?_
        show Steps p.tables e below (s₁.setTop (mkF m 8 #[.val (.int p1), .val (.int p2), .unset, .unset, .unset, .unset, .unset, .unset, .unset, .unset, .unset, .unset, .unset, .unset, .unset] [(.int (1 : Int32)), (.int ((p1 &&& (2147483647 : Int32)) % (2147483646 : Int32)))])) _
        refine XS.iadd X0.here hx rfl (hb hby at_8) rfl ?_
        show Steps p.tables e below (s₁.setTop (mkF m 9 #[.val (.int p1), .val (.int p2), .unset, .unset, .unset, .unset, .unset, .unset, .unset, .unset, .unset, .unset, .unset, .unset, .unset] [(.int (own_n p1))])) _
        refine XS.istoreN X0.here hx rfl (hb hby at_9) rfl (l' := #[.val (.int p1), .val (.int p2), .val (.int (own_n p1)), .unset, .unset, .unset, .unset, .unset, .unset, .unset, .unset, .unset, .unset, .unset, .unset]) rfl ?_
        show Steps p.tables e below (s₁.setTop (mkF m 10 #[.val (.int p1), .val (.int p2), .val (.int (own_n p1)), .unset, .unset, .unset, .unset, .unset, .unset, .unset, .unset, .unset, .unset, .unset, .unset] [])) _
        refine XS.iloadN X0.here hx rfl (hb hby at_10) rfl ?_
        show Steps p.tables e below (s₁.setTop (mkF m 11 #[.val (.int p1), .val (.int p2), .val (.int (own_n p1)), .unset, .unset, .unset, .unset, .unset, .unset, .unset, .unset, .unset, .unset, .unset, .unset] [(.int (own_n p1))])) _
        refine XS.iconst X0.here hx rfl (hb hby at_11) ?_
        show Steps p.tables e below (s₁.setTop (mkF m 12 #[.val (.int p1), .val (.int p2), .val (.int (own_n p1)), .unset, .unset, .unset, .unset, .unset, .unset, .unset, .unset, .unset, .unset, .unset, .unset] [(.int (1 : Int32)), (.int (own_n p1))])) _
        refine XS.iadd X0.here hx rfl (hb hby at_12) rfl ?_
        show Steps p.tables e below (s₁.setTop (mkF m 13 #[.val (.int p1), .val (.int p2), .val (.int (own_n p1)), .unset, .unset, .unset, .unset, .unset, .unset, .unset, .unset, .unset, .unset, .unset, .unset] [(.int (own_N p1))])) _
        refine XS.istoreN X0.here hx rfl (hb hby at_13) rfl (l' := #[.val (.int p1), .val (.int p2), .val (.int (own_n p1)), .val (.int (own_N p1)), .unset, .unset, .unset, .unset, .unset, .unset, .unset, .unset, .unset, .unset, .unset]) rfl ?_
        show Steps p.tables e below (s₁.setTop (mkF m 14 #[.val (.int p1), .val (.int p2), .val (.int (own_n p1)), .val (.int (own_N p1)), .unset, .unset, .unset, .unset, .unset, .unset, .unset, .unset, .unset, .unset, .unset] [])) _
        refine XS.iloadN X0.here hx rfl (hb hby at_14) rfl ?_
        show Steps p.tables e below (s₁.setTop (mkF m 15 #[.val (.int p1), .val (.int p2), .val (.int (own_n p1)), .val (.int (own_N p1)), .unset, .unset, .unset, .unset, .unset, .unset, .unset, .unset, .unset, .unset, .unset] [(.int p2)])) _
        refine X0.ldcI hx hown (mvT hZ (hw _ (List.mem_of_getElem? (i := 0) rfl))) (g := (mkF m 15 #[.val (.int p1), .val (.int p2), .val (.int (own_n p1)), .val (.int (own_N p1)), .unset, .unset, .unset, .unset, .unset, .unset, .unset, .unset, .unset, .unset, .unset] [(.int p2)])) rfl (hb hby at_15) ?_
        show Steps p.tables e below (s₁.setTop (mkF m 17 #[.val (.int p1), .val (.int p2), .val (.int (own_n p1)), .val (.int (own_N p1)), .unset, .unset, .unset, .unset, .unset, .unset, .unset, .unset, .unset, .unset, .unset] [(.int (2147483647 : Int32)), (.int p2)])) _
        refine XS.iand X0.here hx rfl (hb hby at_17) rfl ?_
        show Steps p.tables e below (s₁.setTop (mkF m 18 #[.val (.int p1), .val (.int p2), .val (.int (own_n p1)), .val (.int (own_N p1)), .unset, .unset, .unset, .unset, .unset, .unset, .unset, .unset, .unset, .unset, .unset] [(.int (p2 &&& (2147483647 : Int32)))])) _
        refine XS.iloadN X0.here hx rfl (hb hby at_18) rfl ?_
        show Steps p.tables e below (s₁.setTop (mkF m 19 #[.val (.int p1), .val (.int p2), .val (.int (own_n p1)), .val (.int (own_N p1)), .unset, .unset, .unset, .unset, .unset, .unset, .unset, .unset, .unset, .unset, .unset] [(.int (own_N p1)), (.int (p2 &&& (2147483647 : Int32)))])) _
        refine iremM X0 hx rfl (hb hby at_19) rfl hN0 ?_
        show Steps p.tables e below (s₁.setTop (mkF m 20 #[.val (.int p1), .val (.int p2), .val (.int (own_n p1)), .val (.int (own_N p1)), .unset, .unset, .unset, .unset, .unset, .unset, .unset, .unset, .unset, .unset, .unset] [(.int ((p2 &&& (2147483647 : Int32)) % (own_N p1)))])) _
        refine XS.iconst X0.here hx rfl (hb hby at_20) ?_
        show Steps p.tables e below (s₁.setTop (mkF m 21 #[.val (.int p1), .val (.int p2), .val (.int (own_n p1)), .val (.int (own_N p1)), .unset, .unset, .unset, .unset, .unset, .unset, .unset, .unset, .unset, .unset, .unset] [(.int (1 : Int32)), (.int ((p2 &&& (2147483647 : Int32)) % (own_N p1)))])) _
        refine XS.iadd X0.here hx rfl (hb hby at_21) rfl ?_
        show Steps p.tables e below (s₁.setTop (mkF m 22 #[.val (.int p1), .val (.int p2), .val (.int (own_n p1)), .val (.int (own_N p1)), .unset, .unset, .unset, .unset, .unset, .unset, .unset, .unset, .unset, .unset, .unset] [(.int (own_j p1 p2))])) _
        refine XS.istore X0.here hx rfl (hb hby at_22) rfl (l' := #[.val (.int p1), .val (.int p2), .val (.int (own_n p1)), .val (.int (own_N p1)), .val (.int (own_j p1 p2)), .unset, .unset, .unset, .unset, .unset, .unset, .unset, .unset, .unset, .unset]) rfl ?_
        show Steps p.tables e below (s₁.setTop (mkF m 24 #[.val (.int p1), .val (.int p2), .val (.int (own_n p1)), .val (.int (own_N p1)), .val (.int (own_j p1 p2)), .unset, .unset, .unset, .unset, .unset, .unset, .unset, .unset, .unset, .unset] [])) _
        refine XS.iloadN X0.here hx rfl (hb hby at_24) rfl ?_
        show Steps p.tables e below (s₁.setTop (mkF m 25 #[.val (.int p1), .val (.int p2), .val (.int (own_n p1)), .val (.int (own_N p1)), .val (.int (own_j p1 p2)), .unset, .unset, .unset, .unset, .unset, .unset, .unset, .unset, .unset, .unset] [(.int (own_N p1))])) _
        refine XS.iload X0.here hx rfl (hb hby at_25) rfl ?_
        show Steps p.tables e below (s₁.setTop (mkF m 27 #[.val (.int p1), .val (.int p2), .val (.int (own_n p1)), .val (.int (own_N p1)), .val (.int (own_j p1 p2)), .unset, .unset, .unset, .unset, .unset, .unset, .unset, .unset, .unset, .unset] [(.int (own_j p1 p2)), (.int (own_N p1))])) _
        refine XS.isub X0.here hx rfl (hb hby at_27) rfl ?_
        show Steps p.tables e below (s₁.setTop (mkF m 28 #[.val (.int p1), .val (.int p2), .val (.int (own_n p1)), .val (.int (own_N p1)), .val (.int (own_j p1 p2)), .unset, .unset, .unset, .unset, .unset, .unset, .unset, .unset, .unset, .unset] [(.int ((own_N p1) - (own_j p1 p2)))])) _
        refine XS.istore X0.here hx rfl (hb hby at_28) rfl (l' := #[.val (.int p1), .val (.int p2), .val (.int (own_n p1)), .val (.int (own_N p1)), .val (.int (own_j p1 p2)), .val (.int ((own_N p1) - (own_j p1 p2))), .unset, .unset, .unset, .unset, .unset, .unset, .unset, .unset, .unset]) rfl ?_
        show Steps p.tables e below (s₁.setTop (mkF m 30 #[.val (.int p1), .val (.int p2), .val (.int (own_n p1)), .val (.int (own_N p1)), .val (.int (own_j p1 p2)), .val (.int ((own_N p1) - (own_j p1 p2))), .unset, .unset, .unset, .unset, .unset, .unset, .unset, .unset, .unset] [])) _
        refine XS.iloadN X0.here hx rfl (hb hby at_30) rfl ?_
        show Steps p.tables e below (s₁.setTop (mkF m 31 #[.val (.int p1), .val (.int p2), .val (.int (own_n p1)), .val (.int (own_N p1)), .val (.int (own_j p1 p2)), .val (.int ((own_N p1) - (own_j p1 p2))), .unset, .unset, .unset, .unset, .unset, .unset, .unset, .unset, .unset] [(.int (own_n p1))])) _
        refine XS.iload X0.here hx rfl (hb hby at_31) rfl ?_
        show Steps p.tables e below (s₁.setTop (mkF m 33 #[.val (.int p1), .val (.int p2), .val (.int (own_n p1)), .val (.int (own_N p1)), .val (.int (own_j p1 p2)), .val (.int ((own_N p1) - (own_j p1 p2))), .unset, .unset, .unset, .unset, .unset, .unset, .unset, .unset, .unset] [(.int (own_j p1 p2)), (.int (own_n p1))])) _
        refine st6 _ ?_
        show Steps p.tables e below (T6.setTop (mkF m 36 #[.val (.int p1), .val (.int p2), .val (.int (own_n p1)), .val (.int (own_N p1)), .val (.int (own_j p1 p2)), .val (.int ((own_N p1) - (own_j p1 p2))), .unset, .unset, .unset, .unset, .unset, .unset, .unset, .unset, .unset] [(.double (own_mean (own_n p1) (own_j p1 p2)))])) _
        refine XS.dstore X6.here hx rfl (hb hby at_36) rfl (l' := #[.val (.int p1), .val (.int p2), .val (.int (own_n p1)), .val (.int (own_N p1)), .val (.int (own_j p1 p2)), .val (.int ((own_N p1) - (own_j p1 p2))), .val (.double (own_mean (own_n p1) (own_j p1 p2))), .second, .unset, .unset, .unset, .unset, .unset, .unset, .unset]) rfl ?_
        show Steps p.tables e below (T6.setTop (mkF m 38 #[.val (.int p1), .val (.int p2), .val (.int (own_n p1)), .val (.int (own_N p1)), .val (.int (own_j p1 p2)), .val (.int ((own_N p1) - (own_j p1 p2))), .val (.double (own_mean (own_n p1) (own_j p1 p2))), .second, .unset, .unset, .unset, .unset, .unset, .unset, .unset] [])) _
        refine XS.dload X6.here hx rfl (hb hby at_38) rfl ?_
        show Steps p.tables e below (T6.setTop (mkF m 40 #[.val (.int p1), .val (.int p2), .val (.int (own_n p1)), .val (.int (own_N p1)), .val (.int (own_j p1 p2)), .val (.int ((own_N p1) - (own_j p1 p2))), .val (.double (own_mean (own_n p1) (own_j p1 p2))), .second, .unset, .unset, .unset, .unset, .unset, .unset, .unset] [(.double (own_mean (own_n p1) (own_j p1 p2)))])) _
        refine XS.iloadN X6.here hx rfl (hb hby at_40) rfl ?_
        show Steps p.tables e below (T6.setTop (mkF m 41 #[.val (.int p1), .val (.int p2), .val (.int (own_n p1)), .val (.int (own_N p1)), .val (.int (own_j p1 p2)), .val (.int ((own_N p1) - (own_j p1 p2))), .val (.double (own_mean (own_n p1) (own_j p1 p2))), .second, .unset, .unset, .unset, .unset, .unset, .unset, .unset] [(.int (own_N p1)), (.double (own_mean (own_n p1) (own_j p1 p2)))])) _
        refine XS.i2dS X6.here hx rfl (v := (FP.i2d (own_N p1))) (hb hby at_41) rfl rfl ?_
        show Steps p.tables e below (T6.setTop (mkF m 42 #[.val (.int p1), .val (.int p2), .val (.int (own_n p1)), .val (.int (own_N p1)), .val (.int (own_j p1 p2)), .val (.int ((own_N p1) - (own_j p1 p2))), .val (.double (own_mean (own_n p1) (own_j p1 p2))), .second, .unset, .unset, .unset, .unset, .unset, .unset, .unset] [(.double (FP.i2d (own_N p1))), (.double (own_mean (own_n p1) (own_j p1 p2)))])) _
        refine XS.dmulS X6.here hx rfl (v := (own_back (own_n p1) (own_j p1 p2))) (hb hby at_42) rfl (own_nn (own_diff_f ok).1) rfl ?_
        show Steps p.tables e below (T6.setTop (mkF m 43 #[.val (.int p1), .val (.int p2), .val (.int (own_n p1)), .val (.int (own_N p1)), .val (.int (own_j p1 p2)), .val (.int ((own_N p1) - (own_j p1 p2))), .val (.double (own_mean (own_n p1) (own_j p1 p2))), .second, .unset, .unset, .unset, .unset, .unset, .unset, .unset] [(.double (own_back (own_n p1) (own_j p1 p2)))])) _
        refine XS.iload X6.here hx rfl (hb hby at_43) rfl ?_
        show Steps p.tables e below (T6.setTop (mkF m 45 #[.val (.int p1), .val (.int p2), .val (.int (own_n p1)), .val (.int (own_N p1)), .val (.int (own_j p1 p2)), .val (.int ((own_N p1) - (own_j p1 p2))), .val (.double (own_mean (own_n p1) (own_j p1 p2))), .second, .unset, .unset, .unset, .unset, .unset, .unset, .unset] [(.int ((own_N p1) - (own_j p1 p2))), (.double (own_back (own_n p1) (own_j p1 p2)))])) _
        refine XS.i2dS X6.here hx rfl (v := (FP.i2d ((own_N p1) - (own_j p1 p2)))) (hb hby at_45) rfl rfl ?_
        show Steps p.tables e below (T6.setTop (mkF m 46 #[.val (.int p1), .val (.int p2), .val (.int (own_n p1)), .val (.int (own_N p1)), .val (.int (own_j p1 p2)), .val (.int ((own_N p1) - (own_j p1 p2))), .val (.double (own_mean (own_n p1) (own_j p1 p2))), .second, .unset, .unset, .unset, .unset, .unset, .unset, .unset] [(.double (FP.i2d ((own_N p1) - (own_j p1 p2)))), (.double (own_back (own_n p1) (own_j p1 p2)))])) _
        refine XS.dsubS X6.here hx rfl (v := (own_diff (own_n p1) (own_j p1 p2))) (hb hby at_46) rfl (own_nn (own_diff_f ok).2.1) rfl ?_
        show Steps p.tables e below (T6.setTop (mkF m 47 #[.val (.int p1), .val (.int p2), .val (.int (own_n p1)), .val (.int (own_N p1)), .val (.int (own_j p1 p2)), .val (.int ((own_N p1) - (own_j p1 p2))), .val (.double (own_mean (own_n p1) (own_j p1 p2))), .second, .unset, .unset, .unset, .unset, .unset, .unset, .unset] [(.double (own_diff (own_n p1) (own_j p1 p2)))])) _
        refine XS.dstore X6.here hx rfl (hb hby at_47) rfl (l' := #[.val (.int p1), .val (.int p2), .val (.int (own_n p1)), .val (.int (own_N p1)), .val (.int (own_j p1 p2)), .val (.int ((own_N p1) - (own_j p1 p2))), .val (.double (own_mean (own_n p1) (own_j p1 p2))), .second, .val (.double (own_diff (own_n p1) (own_j p1 p2))), .second, .unset, .unset, .unset, .unset, .unset]) rfl ?_
        show Steps p.tables e below (T6.setTop (mkF m 49 #[.val (.int p1), .val (.int p2), .val (.int (own_n p1)), .val (.int (own_N p1)), .val (.int (own_j p1 p2)), .val (.int ((own_N p1) - (own_j p1 p2))), .val (.double (own_mean (own_n p1) (own_j p1 p2))), .second, .val (.double (own_diff (own_n p1) (own_j p1 p2))), .second, .unset, .unset, .unset, .unset, .unset] [])) _
        refine X6.ldc2DoubleC hx hown (mvT hZ (hw _ (List.mem_of_getElem? (i := 6) rfl))) (g := (mkF m 49 #[.val (.int p1), .val (.int p2), .val (.int (own_n p1)), .val (.int (own_N p1)), .val (.int (own_j p1 p2)), .val (.int ((own_N p1) - (own_j p1 p2))), .val (.double (own_mean (own_n p1) (own_j p1 p2))), .second, .val (.double (own_diff (own_n p1) (own_j p1 p2))), .second, .unset, .unset, .unset, .unset, .unset] [])) rfl (hb hby at_49) _ ?_
        show Steps p.tables e below (T6.setTop (mkF m 52 #[.val (.int p1), .val (.int p2), .val (.int (own_n p1)), .val (.int (own_N p1)), .val (.int (own_j p1 p2)), .val (.int ((own_N p1) - (own_j p1 p2))), .val (.double (own_mean (own_n p1) (own_j p1 p2))), .second, .val (.double (own_diff (own_n p1) (own_j p1 p2))), .second, .unset, .unset, .unset, .unset, .unset] [(.double (4517110426252607488 : UInt64))])) _
        refine XS.dstore X6.here hx rfl (hb hby at_52) rfl (l' := #[.val (.int p1), .val (.int p2), .val (.int (own_n p1)), .val (.int (own_N p1)), .val (.int (own_j p1 p2)), .val (.int ((own_N p1) - (own_j p1 p2))), .val (.double (own_mean (own_n p1) (own_j p1 p2))), .second, .val (.double (own_diff (own_n p1) (own_j p1 p2))), .second, .val (.double (4517110426252607488 : UInt64)), .second, .unset, .unset, .unset]) rfl ?_
        show Steps p.tables e below (T6.setTop (mkF m 54 #[.val (.int p1), .val (.int p2), .val (.int (own_n p1)), .val (.int (own_N p1)), .val (.int (own_j p1 p2)), .val (.int ((own_N p1) - (own_j p1 p2))), .val (.double (own_mean (own_n p1) (own_j p1 p2))), .second, .val (.double (own_diff (own_n p1) (own_j p1 p2))), .second, .val (.double (4517110426252607488 : UInt64)), .second, .unset, .unset, .unset] [])) _
        refine XS.dload X6.here hx rfl (hb hby at_54) rfl ?_
        show Steps p.tables e below (T6.setTop (mkF m 56 #[.val (.int p1), .val (.int p2), .val (.int (own_n p1)), .val (.int (own_N p1)), .val (.int (own_j p1 p2)), .val (.int ((own_N p1) - (own_j p1 p2))), .val (.double (own_mean (own_n p1) (own_j p1 p2))), .second, .val (.double (own_diff (own_n p1) (own_j p1 p2))), .second, .val (.double (4517110426252607488 : UInt64)), .second, .unset, .unset, .unset] [(.double (own_diff (own_n p1) (own_j p1 p2)))])) _
        refine XS.dload X6.here hx rfl (hb hby at_56) rfl ?_
        show Steps p.tables e below (T6.setTop (mkF m 58 #[.val (.int p1), .val (.int p2), .val (.int (own_n p1)), .val (.int (own_N p1)), .val (.int (own_j p1 p2)), .val (.int ((own_N p1) - (own_j p1 p2))), .val (.double (own_mean (own_n p1) (own_j p1 p2))), .second, .val (.double (own_diff (own_n p1) (own_j p1 p2))), .second, .val (.double (4517110426252607488 : UInt64)), .second, .unset, .unset, .unset] [(.double (4517110426252607488 : UInt64)), (.double (own_diff (own_n p1) (own_j p1 p2)))])) _
        refine XS.dcmpS X6.here hx rfl (v := (cmpValue (FP.dcmp (own_diff (own_n p1) (own_j p1 p2)) own_eps) .g)) (hb hby at_58) rfl rfl ?_
        show Steps p.tables e below (T6.setTop (mkF m 59 #[.val (.int p1), .val (.int p2), .val (.int (own_n p1)), .val (.int (own_N p1)), .val (.int (own_j p1 p2)), .val (.int ((own_N p1) - (own_j p1 p2))), .val (.double (own_mean (own_n p1) (own_j p1 p2))), .second, .val (.double (own_diff (own_n p1) (own_j p1 p2))), .second, .val (.double (4517110426252607488 : UInt64)), .second, .unset, .unset, .unset] [(.int (cmpValue (FP.dcmp (own_diff (own_n p1) (own_j p1 p2)) own_eps) .g))])) _
        refine XS.ifNo X6.here hx rfl (hb hby at_59) rfl ((if0 _ _).trans (flt (own_le1 ok)).2.2.1) ?_
        show Steps p.tables e below (T6.setTop (mkF m 62 #[.val (.int p1), .val (.int p2), .val (.int (own_n p1)), .val (.int (own_N p1)), .val (.int (own_j p1 p2)), .val (.int ((own_N p1) - (own_j p1 p2))), .val (.double (own_mean (own_n p1) (own_j p1 p2))), .second, .val (.double (own_diff (own_n p1) (own_j p1 p2))), .second, .val (.double (4517110426252607488 : UInt64)), .second, .unset, .unset, .unset] [])) _
        refine XS.dload X6.here hx rfl (hb hby at_62) rfl ?_
        show Steps p.tables e below (T6.setTop (mkF m 64 #[.val (.int p1), .val (.int p2), .val (.int (own_n p1)), .val (.int (own_N p1)), .val (.int (own_j p1 p2)), .val (.int ((own_N p1) - (own_j p1 p2))), .val (.double (own_mean (own_n p1) (own_j p1 p2))), .second, .val (.double (own_diff (own_n p1) (own_j p1 p2))), .second, .val (.double (4517110426252607488 : UInt64)), .second, .unset, .unset, .unset] [(.double (4517110426252607488 : UInt64))])) _
        refine XS.dnegS X6.here hx rfl (v := (FP.dneg (4517110426252607488 : UInt64))) (hb hby at_64) rfl rfl ?_
        show Steps p.tables e below (T6.setTop (mkF m 65 #[.val (.int p1), .val (.int p2), .val (.int (own_n p1)), .val (.int (own_N p1)), .val (.int (own_j p1 p2)), .val (.int ((own_N p1) - (own_j p1 p2))), .val (.double (own_mean (own_n p1) (own_j p1 p2))), .second, .val (.double (own_diff (own_n p1) (own_j p1 p2))), .second, .val (.double (4517110426252607488 : UInt64)), .second, .unset, .unset, .unset] [(.double (FP.dneg (4517110426252607488 : UInt64)))])) _
        refine XS.dload X6.here hx rfl (hb hby at_65) rfl ?_
        show Steps p.tables e below (T6.setTop (mkF m 67 #[.val (.int p1), .val (.int p2), .val (.int (own_n p1)), .val (.int (own_N p1)), .val (.int (own_j p1 p2)), .val (.int ((own_N p1) - (own_j p1 p2))), .val (.double (own_mean (own_n p1) (own_j p1 p2))), .second, .val (.double (own_diff (own_n p1) (own_j p1 p2))), .second, .val (.double (4517110426252607488 : UInt64)), .second, .unset, .unset, .unset] [(.double (own_diff (own_n p1) (own_j p1 p2))), (.double (FP.dneg (4517110426252607488 : UInt64)))])) _
        refine XS.dcmpS X6.here hx rfl (v := (cmpValue (FP.dcmp (FP.dneg own_eps) (own_diff (own_n p1) (own_j p1 p2))) .g)) (hb hby at_67) rfl rfl ?_
        show Steps p.tables e below (T6.setTop (mkF m 68 #[.val (.int p1), .val (.int p2), .val (.int (own_n p1)), .val (.int (own_N p1)), .val (.int (own_j p1 p2)), .val (.int ((own_N p1) - (own_j p1 p2))), .val (.double (own_mean (own_n p1) (own_j p1 p2))), .second, .val (.double (own_diff (own_n p1) (own_j p1 p2))), .second, .val (.double (4517110426252607488 : UInt64)), .second, .unset, .unset, .unset] [(.int (cmpValue (FP.dcmp (FP.dneg own_eps) (own_diff (own_n p1) (own_j p1 p2))) .g))])) _
        refine XS.ifNo X6.here hx rfl (hb hby at_68) rfl ((if0 _ _).trans (flt (own_le2 ok)).2.2.1) ?_
        show Steps p.tables e below (T6.setTop (mkF m 71 #[.val (.int p1), .val (.int p2), .val (.int (own_n p1)), .val (.int (own_N p1)), .val (.int (own_j p1 p2)), .val (.int ((own_N p1) - (own_j p1 p2))), .val (.double (own_mean (own_n p1) (own_j p1 p2))), .second, .val (.double (own_diff (own_n p1) (own_j p1 p2))), .second, .val (.double (4517110426252607488 : UInt64)), .second, .unset, .unset, .unset] [])) _
        refine XS.iconst X6.here hx rfl (hb hby at_71) ?_
        show Steps p.tables e below (T6.setTop (mkF m 72 #[.val (.int p1), .val (.int p2), .val (.int (own_n p1)), .val (.int (own_N p1)), .val (.int (own_j p1 p2)), .val (.int ((own_N p1) - (own_j p1 p2))), .val (.double (own_mean (own_n p1) (own_j p1 p2))), .second, .val (.double (own_diff (own_n p1) (own_j p1 p2))), .second, .val (.double (4517110426252607488 : UInt64)), .second, .unset, .unset, .unset] [(.int (1 : Int32))])) _
        refine XS.goto X6.here hx rfl (pc0 := 72) (pc' := 76) rfl (hb hby at_72) (by decide) (by decide) ?_
        show Steps p.tables e below (T6.setTop (mkF m 76 #[.val (.int p1), .val (.int p2), .val (.int (own_n p1)), .val (.int (own_N p1)), .val (.int (own_j p1 p2)), .val (.int ((own_N p1) - (own_j p1 p2))), .val (.double (own_mean (own_n p1) (own_j p1 p2))), .second, .val (.double (own_diff (own_n p1) (own_j p1 p2))), .second, .val (.double (4517110426252607488 : UInt64)), .second, .unset, .unset, .unset] [(.int (1 : Int32))])) _
        refine XS.istore X6.here hx rfl (hb hby at_76) rfl (l' := #[.val (.int p1), .val (.int p2), .val (.int (own_n p1)), .val (.int (own_N p1)), .val (.int (own_j p1 p2)), .val (.int ((own_N p1) - (own_j p1 p2))), .val (.double (own_mean (own_n p1) (own_j p1 p2))), .second, .val (.double (own_diff (own_n p1) (own_j p1 p2))), .second, .val (.double (4517110426252607488 : UInt64)), .second, .val (.int (1 : Int32)), .unset, .unset]) rfl ?_
        show Steps p.tables e below (T6.setTop (mkF m 78 #[.val (.int p1), .val (.int p2), .val (.int (own_n p1)), .val (.int (own_N p1)), .val (.int (own_j p1 p2)), .val (.int ((own_N p1) - (own_j p1 p2))), .val (.double (own_mean (own_n p1) (own_j p1 p2))), .second, .val (.double (own_diff (own_n p1) (own_j p1 p2))), .second, .val (.double (4517110426252607488 : UInt64)), .second, .val (.int (1 : Int32)), .unset, .unset] [])) _
        refine XS.iload X6.here hx rfl (hb hby at_78) rfl ?_
        show Steps p.tables e below (T6.setTop (mkF m 80 #[.val (.int p1), .val (.int p2), .val (.int (own_n p1)), .val (.int (own_N p1)), .val (.int (own_j p1 p2)), .val (.int ((own_N p1) - (own_j p1 p2))), .val (.double (own_mean (own_n p1) (own_j p1 p2))), .second, .val (.double (own_diff (own_n p1) (own_j p1 p2))), .second, .val (.double (4517110426252607488 : UInt64)), .second, .val (.int (1 : Int32)), .unset, .unset] [(.int (1 : Int32))])) _
        refine XS.ifNo X6.here hx rfl (hb hby at_80) rfl (by decide) ?_
        show Steps p.tables e below (T6.setTop (mkF m 83 #[.val (.int p1), .val (.int p2), .val (.int (own_n p1)), .val (.int (own_N p1)), .val (.int (own_j p1 p2)), .val (.int ((own_N p1) - (own_j p1 p2))), .val (.double (own_mean (own_n p1) (own_j p1 p2))), .second, .val (.double (own_diff (own_n p1) (own_j p1 p2))), .second, .val (.double (4517110426252607488 : UInt64)), .second, .val (.int (1 : Int32)), .unset, .unset] [])) _
        refine XS.dload X6.here hx rfl (hb hby at_83) rfl ?_
        show Steps p.tables e below (T6.setTop (mkF m 85 #[.val (.int p1), .val (.int p2), .val (.int (own_n p1)), .val (.int (own_N p1)), .val (.int (own_j p1 p2)), .val (.int ((own_N p1) - (own_j p1 p2))), .val (.double (own_mean (own_n p1) (own_j p1 p2))), .second, .val (.double (own_diff (own_n p1) (own_j p1 p2))), .second, .val (.double (4517110426252607488 : UInt64)), .second, .val (.int (1 : Int32)), .unset, .unset] [(.double (own_mean (own_n p1) (own_j p1 p2)))])) _
        refine XS.dconst0 X6.here hx rfl (v := FP.dconst0) (hb hby at_85) rfl ?_
        show Steps p.tables e below (T6.setTop (mkF m 86 #[.val (.int p1), .val (.int p2), .val (.int (own_n p1)), .val (.int (own_N p1)), .val (.int (own_j p1 p2)), .val (.int ((own_N p1) - (own_j p1 p2))), .val (.double (own_mean (own_n p1) (own_j p1 p2))), .second, .val (.double (own_diff (own_n p1) (own_j p1 p2))), .second, .val (.double (4517110426252607488 : UInt64)), .second, .val (.int (1 : Int32)), .unset, .unset] [(.double FP.dconst0), (.double (own_mean (own_n p1) (own_j p1 p2)))])) _
        refine XS.dcmpS X6.here hx rfl (v := (0 : Int32)) (hb hby at_86) rfl (own_nought ok0) ?_
        show Steps p.tables e below (T6.setTop (mkF m 87 #[.val (.int p1), .val (.int p2), .val (.int (own_n p1)), .val (.int (own_N p1)), .val (.int (own_j p1 p2)), .val (.int ((own_N p1) - (own_j p1 p2))), .val (.double (own_mean (own_n p1) (own_j p1 p2))), .second, .val (.double (own_diff (own_n p1) (own_j p1 p2))), .second, .val (.double (4517110426252607488 : UInt64)), .second, .val (.int (1 : Int32)), .unset, .unset] [(.int (0 : Int32))])) _
        refine XS.ifNo X6.here hx rfl (hb hby at_87) rfl (by decide) ?_
        show Steps p.tables e below (T6.setTop (mkF m 90 #[.val (.int p1), .val (.int p2), .val (.int (own_n p1)), .val (.int (own_N p1)), .val (.int (own_j p1 p2)), .val (.int ((own_N p1) - (own_j p1 p2))), .val (.double (own_mean (own_n p1) (own_j p1 p2))), .second, .val (.double (own_diff (own_n p1) (own_j p1 p2))), .second, .val (.double (4517110426252607488 : UInt64)), .second, .val (.int (1 : Int32)), .unset, .unset] [])) _
        refine XS.iconst X6.here hx rfl (hb hby at_90) ?_
        show Steps p.tables e below (T6.setTop (mkF m 91 #[.val (.int p1), .val (.int p2), .val (.int (own_n p1)), .val (.int (own_N p1)), .val (.int (own_j p1 p2)), .val (.int ((own_N p1) - (own_j p1 p2))), .val (.double (own_mean (own_n p1) (own_j p1 p2))), .second, .val (.double (own_diff (own_n p1) (own_j p1 p2))), .second, .val (.double (4517110426252607488 : UInt64)), .second, .val (.int (1 : Int32)), .unset, .unset] [(.int (1 : Int32))])) _
        refine XS.goto X6.here hx rfl (pc0 := 91) (pc' := 95) rfl (hb hby at_91) (by decide) (by decide) ?_
        show Steps p.tables e below (T6.setTop (mkF m 95 #[.val (.int p1), .val (.int p2), .val (.int (own_n p1)), .val (.int (own_N p1)), .val (.int (own_j p1 p2)), .val (.int ((own_N p1) - (own_j p1 p2))), .val (.double (own_mean (own_n p1) (own_j p1 p2))), .second, .val (.double (own_diff (own_n p1) (own_j p1 p2))), .second, .val (.double (4517110426252607488 : UInt64)), .second, .val (.int (1 : Int32)), .unset, .unset] [(.int (1 : Int32))])) _
        refine XS.iload X6.here hx rfl (hb hby at_95) rfl ?_
        show Steps p.tables e below (T6.setTop (mkF m 97 #[.val (.int p1), .val (.int p2), .val (.int (own_n p1)), .val (.int (own_N p1)), .val (.int (own_j p1 p2)), .val (.int ((own_N p1) - (own_j p1 p2))), .val (.double (own_mean (own_n p1) (own_j p1 p2))), .second, .val (.double (own_diff (own_n p1) (own_j p1 p2))), .second, .val (.double (4517110426252607488 : UInt64)), .second, .val (.int (1 : Int32)), .unset, .unset] [(.int (own_j p1 p2)), (.int (1 : Int32))])) _
        refine XS.iloadN X6.here hx rfl (hb hby at_97) rfl ?_
        show Steps p.tables e below (T6.setTop (mkF m 98 #[.val (.int p1), .val (.int p2), .val (.int (own_n p1)), .val (.int (own_N p1)), .val (.int (own_j p1 p2)), .val (.int ((own_N p1) - (own_j p1 p2))), .val (.double (own_mean (own_n p1) (own_j p1 p2))), .second, .val (.double (own_diff (own_n p1) (own_j p1 p2))), .second, .val (.double (4517110426252607488 : UInt64)), .second, .val (.int (1 : Int32)), .unset, .unset] [(.int (own_N p1)), (.int (own_j p1 p2)), (.int (1 : Int32))])) _
        refine XS.icmpNo X6.here hx rfl (hb hby at_98) rfl (teq heq).2 ?_
        show Steps p.tables e below (T6.setTop (mkF m 101 #[.val (.int p1), .val (.int p2), .val (.int (own_n p1)), .val (.int (own_N p1)), .val (.int (own_j p1 p2)), .val (.int ((own_N p1) - (own_j p1 p2))), .val (.double (own_mean (own_n p1) (own_j p1 p2))), .second, .val (.double (own_diff (own_n p1) (own_j p1 p2))), .second, .val (.double (4517110426252607488 : UInt64)), .second, .val (.int (1 : Int32)), .unset, .unset] [(.int (1 : Int32))])) _
        refine XS.iconst X6.here hx rfl (hb hby at_101) ?_
        show Steps p.tables e below (T6.setTop (mkF m 102 #[.val (.int p1), .val (.int p2), .val (.int (own_n p1)), .val (.int (own_N p1)), .val (.int (own_j p1 p2)), .val (.int ((own_N p1) - (own_j p1 p2))), .val (.double (own_mean (own_n p1) (own_j p1 p2))), .second, .val (.double (own_diff (own_n p1) (own_j p1 p2))), .second, .val (.double (4517110426252607488 : UInt64)), .second, .val (.int (1 : Int32)), .unset, .unset] [(.int (1 : Int32)), (.int (1 : Int32))])) _
        refine XS.goto X6.here hx rfl (pc0 := 102) (pc' := 106) rfl (hb hby at_102) (by decide) (by decide) ?_
        show Steps p.tables e below (T6.setTop (mkF m 106 #[.val (.int p1), .val (.int p2), .val (.int (own_n p1)), .val (.int (own_N p1)), .val (.int (own_j p1 p2)), .val (.int ((own_N p1) - (own_j p1 p2))), .val (.double (own_mean (own_n p1) (own_j p1 p2))), .second, .val (.double (own_diff (own_n p1) (own_j p1 p2))), .second, .val (.double (4517110426252607488 : UInt64)), .second, .val (.int (1 : Int32)), .unset, .unset] [(.int (1 : Int32)), (.int (1 : Int32))])) _
        refine XS.icmpNo X6.here hx rfl (hb hby at_106) rfl (by decide) ?_
        show Steps p.tables e below (T6.setTop (mkF m 109 #[.val (.int p1), .val (.int p2), .val (.int (own_n p1)), .val (.int (own_N p1)), .val (.int (own_j p1 p2)), .val (.int ((own_N p1) - (own_j p1 p2))), .val (.double (own_mean (own_n p1) (own_j p1 p2))), .second, .val (.double (own_diff (own_n p1) (own_j p1 p2))), .second, .val (.double (4517110426252607488 : UInt64)), .second, .val (.int (1 : Int32)), .unset, .unset] [])) _
        refine XS.iconst X6.here hx rfl (hb hby at_109) ?_
        show Steps p.tables e below (T6.setTop (mkF m 110 #[.val (.int p1), .val (.int p2), .val (.int (own_n p1)), .val (.int (own_N p1)), .val (.int (own_j p1 p2)), .val (.int ((own_N p1) - (own_j p1 p2))), .val (.double (own_mean (own_n p1) (own_j p1 p2))), .second, .val (.double (own_diff (own_n p1) (own_j p1 p2))), .second, .val (.double (4517110426252607488 : UInt64)), .second, .val (.int (1 : Int32)), .unset, .unset] [(.int (1 : Int32))])) _
        refine XS.goto X6.here hx rfl (pc0 := 110) (pc' := 114) rfl (hb hby at_110) (by decide) (by decide) ?_
        show Steps p.tables e below (T6.setTop (mkF m 114 #[.val (.int p1), .val (.int p2), .val (.int (own_n p1)), .val (.int (own_N p1)), .val (.int (own_j p1 p2)), .val (.int ((own_N p1) - (own_j p1 p2))), .val (.double (own_mean (own_n p1) (own_j p1 p2))), .second, .val (.double (own_diff (own_n p1) (own_j p1 p2))), .second, .val (.double (4517110426252607488 : UInt64)), .second, .val (.int (1 : Int32)), .unset, .unset] [(.int (1 : Int32))])) _
        refine XS.istore X6.here hx rfl (hb hby at_114) rfl (l' := #[.val (.int p1), .val (.int p2), .val (.int (own_n p1)), .val (.int (own_N p1)), .val (.int (own_j p1 p2)), .val (.int ((own_N p1) - (own_j p1 p2))), .val (.double (own_mean (own_n p1) (own_j p1 p2))), .second, .val (.double (own_diff (own_n p1) (own_j p1 p2))), .second, .val (.double (4517110426252607488 : UInt64)), .second, .val (.int (1 : Int32)), .unset, .unset]) rfl ?_
        show Steps p.tables e below (T6.setTop (mkF m 116 #[.val (.int p1), .val (.int p2), .val (.int (own_n p1)), .val (.int (own_N p1)), .val (.int (own_j p1 p2)), .val (.int ((own_N p1) - (own_j p1 p2))), .val (.double (own_mean (own_n p1) (own_j p1 p2))), .second, .val (.double (own_diff (own_n p1) (own_j p1 p2))), .second, .val (.double (4517110426252607488 : UInt64)), .second, .val (.int (1 : Int32)), .unset, .unset] [])) _
        refine XS.iload X6.here hx rfl (hb hby at_116) rfl ?_
        show Steps p.tables e below (T6.setTop (mkF m 118 #[.val (.int p1), .val (.int p2), .val (.int (own_n p1)), .val (.int (own_N p1)), .val (.int (own_j p1 p2)), .val (.int ((own_N p1) - (own_j p1 p2))), .val (.double (own_mean (own_n p1) (own_j p1 p2))), .second, .val (.double (own_diff (own_n p1) (own_j p1 p2))), .second, .val (.double (4517110426252607488 : UInt64)), .second, .val (.int (1 : Int32)), .unset, .unset] [(.int (own_j p1 p2))])) _
        refine XS.iloadN X6.here hx rfl (hb hby at_118) rfl ?_
        show Steps p.tables e below (T6.setTop (mkF m 119 #[.val (.int p1), .val (.int p2), .val (.int (own_n p1)), .val (.int (own_N p1)), .val (.int (own_j p1 p2)), .val (.int ((own_N p1) - (own_j p1 p2))), .val (.double (own_mean (own_n p1) (own_j p1 p2))), .second, .val (.double (own_diff (own_n p1) (own_j p1 p2))), .second, .val (.double (4517110426252607488 : UInt64)), .second, .val (.int (1 : Int32)), .unset, .unset] [(.int (own_n p1)), (.int (own_j p1 p2))])) _
        refine XS.icmpYes X6.here hx rfl (pc0 := 119) (pc' := 152) rfl (hb hby at_119) rfl (tlt hle).2.2.1 (by decide) (by decide) ?_
        show Steps p.tables e below (T6.setTop (mkF m 152 #[.val (.int p1), .val (.int p2), .val (.int (own_n p1)), .val (.int (own_N p1)), .val (.int (own_j p1 p2)), .val (.int ((own_N p1) - (own_j p1 p2))), .val (.double (own_mean (own_n p1) (own_j p1 p2))), .second, .val (.double (own_diff (own_n p1) (own_j p1 p2))), .second, .val (.double (4517110426252607488 : UInt64)), .second, .val (.int (1 : Int32)), .unset, .unset] [])) _
        refine XS.iloadN X6.here hx rfl (hb hby at_152) rfl ?_
        show Steps p.tables e below (T6.setTop (mkF m 153 #[.val (.int p1), .val (.int p2), .val (.int (own_n p1)), .val (.int (own_N p1)), .val (.int (own_j p1 p2)), .val (.int ((own_N p1) - (own_j p1 p2))), .val (.double (own_mean (own_n p1) (own_j p1 p2))), .second, .val (.double (own_diff (own_n p1) (own_j p1 p2))), .second, .val (.double (4517110426252607488 : UInt64)), .second, .val (.int (1 : Int32)), .unset, .unset] [(.int (own_n p1))])) _
        refine X6.ldcI hx hown (mvT hZ (hw _ (List.mem_of_getElem? (i := 7) rfl))) (g := (mkF m 153 #[.val (.int p1), .val (.int p2), .val (.int (own_n p1)), .val (.int (own_N p1)), .val (.int (own_j p1 p2)), .val (.int ((own_N p1) - (own_j p1 p2))), .val (.double (own_mean (own_n p1) (own_j p1 p2))), .second, .val (.double (own_diff (own_n p1) (own_j p1 p2))), .second, .val (.double (4517110426252607488 : UInt64)), .second, .val (.int (1 : Int32)), .unset, .unset] [(.int (own_n p1))])) rfl (hb hby at_153) ?_
        show Steps p.tables e below (T6.setTop (mkF m 155 #[.val (.int p1), .val (.int p2), .val (.int (own_n p1)), .val (.int (own_N p1)), .val (.int (own_j p1 p2)), .val (.int ((own_N p1) - (own_j p1 p2))), .val (.double (own_mean (own_n p1) (own_j p1 p2))), .second, .val (.double (own_diff (own_n p1) (own_j p1 p2))), .second, .val (.double (4517110426252607488 : UInt64)), .second, .val (.int (1 : Int32)), .unset, .unset] [(.int (1073741821 : Int32)), (.int (own_n p1))])) _
        refine XS.icmpNo X6.here hx rfl (hb hby at_155) rfl (flt hsm).2.2.1 ?_
        show Steps p.tables e below (T6.setTop (mkF m 158 #[.val (.int p1), .val (.int p2), .val (.int (own_n p1)), .val (.int (own_N p1)), .val (.int (own_j p1 p2)), .val (.int ((own_N p1) - (own_j p1 p2))), .val (.double (own_mean (own_n p1) (own_j p1 p2))), .second, .val (.double (own_diff (own_n p1) (own_j p1 p2))), .second, .val (.double (4517110426252607488 : UInt64)), .second, .val (.int (1 : Int32)), .unset, .unset] [])) _
        refine XS.iconst X6.here hx rfl (hb hby at_158) ?_
        show Steps p.tables e below (T6.setTop (mkF m 159 #[.val (.int p1), .val (.int p2), .val (.int (own_n p1)), .val (.int (own_N p1)), .val (.int (own_j p1 p2)), .val (.int ((own_N p1) - (own_j p1 p2))), .val (.double (own_mean (own_n p1) (own_j p1 p2))), .second, .val (.double (own_diff (own_n p1) (own_j p1 p2))), .second, .val (.double (4517110426252607488 : UInt64)), .second, .val (.int (1 : Int32)), .unset, .unset] [(.int (2 : Int32))])) _
        refine XS.iloadN X6.here hx rfl (hb hby at_159) rfl ?_
        show Steps p.tables e below (T6.setTop (mkF m 160 #[.val (.int p1), .val (.int p2), .val (.int (own_n p1)), .val (.int (own_N p1)), .val (.int (own_j p1 p2)), .val (.int ((own_N p1) - (own_j p1 p2))), .val (.double (own_mean (own_n p1) (own_j p1 p2))), .second, .val (.double (own_diff (own_n p1) (own_j p1 p2))), .second, .val (.double (4517110426252607488 : UInt64)), .second, .val (.int (1 : Int32)), .unset, .unset] [(.int (own_n p1)), (.int (2 : Int32))])) _
        refine XS.imul X6.here hx rfl (hb hby at_160) rfl ?_
        show Steps p.tables e below (T6.setTop (mkF m 161 #[.val (.int p1), .val (.int p2), .val (.int (own_n p1)), .val (.int (own_N p1)), .val (.int (own_j p1 p2)), .val (.int ((own_N p1) - (own_j p1 p2))), .val (.double (own_mean (own_n p1) (own_j p1 p2))), .second, .val (.double (own_diff (own_n p1) (own_j p1 p2))), .second, .val (.double (4517110426252607488 : UInt64)), .second, .val (.int (1 : Int32)), .unset, .unset] [(.int ((2 : Int32) * (own_n p1)))])) _
        refine XS.iconst X6.here hx rfl (hb hby at_161) ?_
        show Steps p.tables e below (T6.setTop (mkF m 162 #[.val (.int p1), .val (.int p2), .val (.int (own_n p1)), .val (.int (own_N p1)), .val (.int (own_j p1 p2)), .val (.int ((own_N p1) - (own_j p1 p2))), .val (.double (own_mean (own_n p1) (own_j p1 p2))), .second, .val (.double (own_diff (own_n p1) (own_j p1 p2))), .second, .val (.double (4517110426252607488 : UInt64)), .second, .val (.int (1 : Int32)), .unset, .unset] [(.int (1 : Int32)), (.int ((2 : Int32) * (own_n p1)))])) _
        refine XS.iadd X6.here hx rfl (hb hby at_162) rfl ?_
        show Steps p.tables e below (T6.setTop (mkF m 163 #[.val (.int p1), .val (.int p2), .val (.int (own_n p1)), .val (.int (own_N p1)), .val (.int (own_j p1 p2)), .val (.int ((own_N p1) - (own_j p1 p2))), .val (.double (own_mean (own_n p1) (own_j p1 p2))), .second, .val (.double (own_diff (own_n p1) (own_j p1 p2))), .second, .val (.double (4517110426252607488 : UInt64)), .second, .val (.int (1 : Int32)), .unset, .unset] [(.int (((2 : Int32) * (own_n p1)) + (1 : Int32)))])) _
        refine XS.iconst X6.here hx rfl (hb hby at_163) ?_
        show Steps p.tables e below (T6.setTop (mkF m 164 #[.val (.int p1), .val (.int p2), .val (.int (own_n p1)), .val (.int (own_N p1)), .val (.int (own_j p1 p2)), .val (.int ((own_N p1) - (own_j p1 p2))), .val (.double (own_mean (own_n p1) (own_j p1 p2))), .second, .val (.double (own_diff (own_n p1) (own_j p1 p2))), .second, .val (.double (4517110426252607488 : UInt64)), .second, .val (.int (1 : Int32)), .unset, .unset] [(.int (2 : Int32)), (.int (((2 : Int32) * (own_n p1)) + (1 : Int32)))])) _
        refine XS.iload X6.here hx rfl (hb hby at_164) rfl ?_
        show Steps p.tables e below (T6.setTop (mkF m 166 #[.val (.int p1), .val (.int p2), .val (.int (own_n p1)), .val (.int (own_N p1)), .val (.int (own_j p1 p2)), .val (.int ((own_N p1) - (own_j p1 p2))), .val (.double (own_mean (own_n p1) (own_j p1 p2))), .second, .val (.double (own_diff (own_n p1) (own_j p1 p2))), .second, .val (.double (4517110426252607488 : UInt64)), .second, .val (.int (1 : Int32)), .unset, .unset] [(.int (own_j p1 p2)), (.int (2 : Int32)), (.int (((2 : Int32) * (own_n p1)) + (1 : Int32)))])) _
        refine XS.imul X6.here hx rfl (hb hby at_166) rfl ?_
        show Steps p.tables e below (T6.setTop (mkF m 167 #[.val (.int p1), .val (.int p2), .val (.int (own_n p1)), .val (.int (own_N p1)), .val (.int (own_j p1 p2)), .val (.int ((own_N p1) - (own_j p1 p2))), .val (.double (own_mean (own_n p1) (own_j p1 p2))), .second, .val (.double (own_diff (own_n p1) (own_j p1 p2))), .second, .val (.double (4517110426252607488 : UInt64)), .second, .val (.int (1 : Int32)), .unset, .unset] [(.int ((2 : Int32) * (own_j p1 p2))), (.int (((2 : Int32) * (own_n p1)) + (1 : Int32)))])) _
        refine st7 _ ?_
        show Steps p.tables e below (T7.setTop (mkF m 170 #[.val (.int p1), .val (.int p2), .val (.int (own_n p1)), .val (.int (own_N p1)), .val (.int (own_j p1 p2)), .val (.int ((own_N p1) - (own_j p1 p2))), .val (.double (own_mean (own_n p1) (own_j p1 p2))), .second, .val (.double (own_diff (own_n p1) (own_j p1 p2))), .second, .val (.double (4517110426252607488 : UInt64)), .second, .val (.int (1 : Int32)), .unset, .unset] [(.double (own_mean ((2 : Int32) * (own_n p1) + (1 : Int32)) ((2 : Int32) * (own_j p1 p2))))])) _
        refine XS.dstore X7.here hx rfl (hb hby at_170) rfl (l' := #[.val (.int p1), .val (.int p2), .val (.int (own_n p1)), .val (.int (own_N p1)), .val (.int (own_j p1 p2)), .val (.int ((own_N p1) - (own_j p1 p2))), .val (.double (own_mean (own_n p1) (own_j p1 p2))), .second, .val (.double (own_diff (own_n p1) (own_j p1 p2))), .second, .val (.double (4517110426252607488 : UInt64)), .second, .val (.int (1 : Int32)), .val (.double (own_mean ((2 : Int32) * (own_n p1) + (1 : Int32)) ((2 : Int32) * (own_j p1 p2)))), .second]) rfl ?_
        show Steps p.tables e below (T7.setTop (mkF m 172 #[.val (.int p1), .val (.int p2), .val (.int (own_n p1)), .val (.int (own_N p1)), .val (.int (own_j p1 p2)), .val (.int ((own_N p1) - (own_j p1 p2))), .val (.double (own_mean (own_n p1) (own_j p1 p2))), .second, .val (.double (own_diff (own_n p1) (own_j p1 p2))), .second, .val (.double (4517110426252607488 : UInt64)), .second, .val (.int (1 : Int32)), .val (.double (own_mean ((2 : Int32) * (own_n p1) + (1 : Int32)) ((2 : Int32) * (own_j p1 p2)))), .second] [])) _
        refine XS.iload X7.here hx rfl (hb hby at_172) rfl ?_
        show Steps p.tables e below (T7.setTop (mkF m 174 #[.val (.int p1), .val (.int p2), .val (.int (own_n p1)), .val (.int (own_N p1)), .val (.int (own_j p1 p2)), .val (.int ((own_N p1) - (own_j p1 p2))), .val (.double (own_mean (own_n p1) (own_j p1 p2))), .second, .val (.double (own_diff (own_n p1) (own_j p1 p2))), .second, .val (.double (4517110426252607488 : UInt64)), .second, .val (.int (1 : Int32)), .val (.double (own_mean ((2 : Int32) * (own_n p1) + (1 : Int32)) ((2 : Int32) * (own_j p1 p2)))), .second] [(.int (1 : Int32))])) _
        refine XS.ifNo X7.here hx rfl (hb hby at_174) rfl (by decide) ?_
        show Steps p.tables e below (T7.setTop (mkF m 177 #[.val (.int p1), .val (.int p2), .val (.int (own_n p1)), .val (.int (own_N p1)), .val (.int (own_j p1 p2)), .val (.int ((own_N p1) - (own_j p1 p2))), .val (.double (own_mean (own_n p1) (own_j p1 p2))), .second, .val (.double (own_diff (own_n p1) (own_j p1 p2))), .second, .val (.double (4517110426252607488 : UInt64)), .second, .val (.int (1 : Int32)), .val (.double (own_mean ((2 : Int32) * (own_n p1) + (1 : Int32)) ((2 : Int32) * (own_j p1 p2)))), .second] [])) _
        refine XS.dload X7.here hx rfl (hb hby at_177) rfl ?_
        show Steps p.tables e below (T7.setTop (mkF m 179 #[.val (.int p1), .val (.int p2), .val (.int (own_n p1)), .val (.int (own_N p1)), .val (.int (own_j p1 p2)), .val (.int ((own_N p1) - (own_j p1 p2))), .val (.double (own_mean (own_n p1) (own_j p1 p2))), .second, .val (.double (own_diff (own_n p1) (own_j p1 p2))), .second, .val (.double (4517110426252607488 : UInt64)), .second, .val (.int (1 : Int32)), .val (.double (own_mean ((2 : Int32) * (own_n p1) + (1 : Int32)) ((2 : Int32) * (own_j p1 p2)))), .second] [(.double (own_mean ((2 : Int32) * (own_n p1) + (1 : Int32)) ((2 : Int32) * (own_j p1 p2))))])) _
        refine XS.dload X7.here hx rfl (hb hby at_179) rfl ?_
        show Steps p.tables e below (T7.setTop (mkF m 181 #[.val (.int p1), .val (.int p2), .val (.int (own_n p1)), .val (.int (own_N p1)), .val (.int (own_j p1 p2)), .val (.int ((own_N p1) - (own_j p1 p2))), .val (.double (own_mean (own_n p1) (own_j p1 p2))), .second, .val (.double (own_diff (own_n p1) (own_j p1 p2))), .second, .val (.double (4517110426252607488 : UInt64)), .second, .val (.int (1 : Int32)), .val (.double (own_mean ((2 : Int32) * (own_n p1) + (1 : Int32)) ((2 : Int32) * (own_j p1 p2)))), .second] [(.double (own_mean (own_n p1) (own_j p1 p2))), (.double (own_mean ((2 : Int32) * (own_n p1) + (1 : Int32)) ((2 : Int32) * (own_j p1 p2))))])) _
        refine XS.dcmpS X7.here hx rfl (v := (0 : Int32)) (hb hby at_181) rfl (own_same ok ok3) ?_
        show Steps p.tables e below (T7.setTop (mkF m 182 #[.val (.int p1), .val (.int p2), .val (.int (own_n p1)), .val (.int (own_N p1)), .val (.int (own_j p1 p2)), .val (.int ((own_N p1) - (own_j p1 p2))), .val (.double (own_mean (own_n p1) (own_j p1 p2))), .second, .val (.double (own_diff (own_n p1) (own_j p1 p2))), .second, .val (.double (4517110426252607488 : UInt64)), .second, .val (.int (1 : Int32)), .val (.double (own_mean ((2 : Int32) * (own_n p1) + (1 : Int32)) ((2 : Int32) * (own_j p1 p2)))), .second] [(.int (0 : Int32))])) _
        refine XS.ifNo X7.here hx rfl (hb hby at_182) rfl (by decide) ?_
        show Steps p.tables e below (T7.setTop (mkF m 185 #[.val (.int p1), .val (.int p2), .val (.int (own_n p1)), .val (.int (own_N p1)), .val (.int (own_j p1 p2)), .val (.int ((own_N p1) - (own_j p1 p2))), .val (.double (own_mean (own_n p1) (own_j p1 p2))), .second, .val (.double (own_diff (own_n p1) (own_j p1 p2))), .second, .val (.double (4517110426252607488 : UInt64)), .second, .val (.int (1 : Int32)), .val (.double (own_mean ((2 : Int32) * (own_n p1) + (1 : Int32)) ((2 : Int32) * (own_j p1 p2)))), .second] [])) _
        refine XS.iconst X7.here hx rfl (hb hby at_185) ?_
        show Steps p.tables e below (T7.setTop (mkF m 186 #[.val (.int p1), .val (.int p2), .val (.int (own_n p1)), .val (.int (own_N p1)), .val (.int (own_j p1 p2)), .val (.int ((own_N p1) - (own_j p1 p2))), .val (.double (own_mean (own_n p1) (own_j p1 p2))), .second, .val (.double (own_diff (own_n p1) (own_j p1 p2))), .second, .val (.double (4517110426252607488 : UInt64)), .second, .val (.int (1 : Int32)), .val (.double (own_mean ((2 : Int32) * (own_n p1) + (1 : Int32)) ((2 : Int32) * (own_j p1 p2)))), .second] [(.int (1 : Int32))])) _
        refine XS.goto X7.here hx rfl (pc0 := 186) (pc' := 190) rfl (hb hby at_186) (by decide) (by decide) ?_
        show Steps p.tables e below (T7.setTop (mkF m 190 #[.val (.int p1), .val (.int p2), .val (.int (own_n p1)), .val (.int (own_N p1)), .val (.int (own_j p1 p2)), .val (.int ((own_N p1) - (own_j p1 p2))), .val (.double (own_mean (own_n p1) (own_j p1 p2))), .second, .val (.double (own_diff (own_n p1) (own_j p1 p2))), .second, .val (.double (4517110426252607488 : UInt64)), .second, .val (.int (1 : Int32)), .val (.double (own_mean ((2 : Int32) * (own_n p1) + (1 : Int32)) ((2 : Int32) * (own_j p1 p2)))), .second] [(.int (1 : Int32))])) _
        refine XS.istore X7.here hx rfl (hb hby at_190) rfl (l' := #[.val (.int p1), .val (.int p2), .val (.int (own_n p1)), .val (.int (own_N p1)), .val (.int (own_j p1 p2)), .val (.int ((own_N p1) - (own_j p1 p2))), .val (.double (own_mean (own_n p1) (own_j p1 p2))), .second, .val (.double (own_diff (own_n p1) (own_j p1 p2))), .second, .val (.double (4517110426252607488 : UInt64)), .second, .val (.int (1 : Int32)), .val (.double (own_mean ((2 : Int32) * (own_n p1) + (1 : Int32)) ((2 : Int32) * (own_j p1 p2)))), .second]) rfl ?_
        show Steps p.tables e below (T7.setTop (mkF m 192 #[.val (.int p1), .val (.int p2), .val (.int (own_n p1)), .val (.int (own_N p1)), .val (.int (own_j p1 p2)), .val (.int ((own_N p1) - (own_j p1 p2))), .val (.double (own_mean (own_n p1) (own_j p1 p2))), .second, .val (.double (own_diff (own_n p1) (own_j p1 p2))), .second, .val (.double (4517110426252607488 : UInt64)), .second, .val (.int (1 : Int32)), .val (.double (own_mean ((2 : Int32) * (own_n p1) + (1 : Int32)) ((2 : Int32) * (own_j p1 p2)))), .second] [])) _
        refine XS.iload X7.here hx rfl (hb hby at_192) rfl ?_
        show Steps p.tables e below (T7.setTop (mkF m 194 #[.val (.int p1), .val (.int p2), .val (.int (own_n p1)), .val (.int (own_N p1)), .val (.int (own_j p1 p2)), .val (.int ((own_N p1) - (own_j p1 p2))), .val (.double (own_mean (own_n p1) (own_j p1 p2))), .second, .val (.double (own_diff (own_n p1) (own_j p1 p2))), .second, .val (.double (4517110426252607488 : UInt64)), .second, .val (.int (1 : Int32)), .val (.double (own_mean ((2 : Int32) * (own_n p1) + (1 : Int32)) ((2 : Int32) * (own_j p1 p2)))), .second] [(.int (1 : Int32))])) _
        exact retN X7 hx (t := .boolean) Bd.returns (by simp) (hb hby at_194) hr
      · show Q0 Z p1 p2 h0 n0 _ T7.heap _
        exact ⟨rfl, N7⟩
    · have hsm : (1073741821 : Int32) < (own_n p1) := by rw [Int32.lt_iff_toInt_lt, show (1073741821 : Int32).toInt = 1073741821 from by decide]; omega
      obtain ⟨_, _, ⟨T8, L8, k8, n8⟩, -, X8, ⟨Lc8, hQ8, l8, y8, z8⟩, st8⟩ := Jvm.LawKit.callS X0 hx (y := (⟨"com/example/outcry/outcry/core/UniformPrice", "meanOfHighest", "(II)D"⟩ : MethodName)) hown (mvT hZ (hw _ (List.mem_of_getElem? (i := 2) rfl))) (mvT hZ (hw _ (List.mem_of_getElem? (i := 3) rfl))) (mvT hZ (hw _ (List.mem_of_getElem? (i := 4) rfl))) (mvT hZ (hw _ (List.mem_of_getElem? (i := 5) rfl))) (by decide) (backOf (W := 0) (rm1 l Z a0 hw [] (own_n p1) (own_j p1 p2) ((own_N p1).toInt - (own_j p1 p2).toInt) (own_N p1).toInt h0 n0 Z0 ok) hZ (hw _ (List.mem_of_getElem? (i := 5) rfl)) (hw _ (List.mem_of_getElem? (i := 4) rfl)) (by decide) (by decide)) (g := (mkF m 33 #[.val (.int p1), .val (.int p2), .val (.int (own_n p1)), .val (.int (own_N p1)), .val (.int (own_j p1 p2)), .val (.int ((own_N p1) - (own_j p1 p2))), .unset, .unset, .unset, .unset, .unset, .unset, .unset, .unset, .unset] [(.int (own_j p1 p2)), (.int (own_n p1))])) rfl (by rw [hml]; rfl) (argsL := [(.int (own_n p1)), (.int (own_j p1 p2))]) (rest := []) (lenOf pd_0 rfl) rfl (by show 2 * 0 + _ ≤ _; exact Nat.le_of_eq rfl) (hb hby at_33) (fun _ _ => ⟨rfl, e0, (by decide : 0 + 0 ≤ _), (by decide : 0 + 0 ≤ _)⟩)
      dsimp only [Pt.U, Pt.locs, Pt.cells, Pt.slots] at X8 l8 y8 z8 st8 hQ8
      subst l8 y8 z8
      obtain ⟨rfl, N8q, eh8⟩ := hQ8
      have N8 := Fr.app N0 N8q
      obtain ⟨fs, hr, hrun, hended, hW, hsame⟩ := X8.leave (v := some (.int (1 : Int32))) (fun h => by rw [Bd.returns] at h; cases h)
      refine ⟨_, _, pre0 _ ?_, hrun, hended, _, _, rfl, ?_, ⟨_, rfl⟩, hW, hsame.mono (by decide) (by decide)⟩
      · show Steps p.tables e below (s₁.setTop (mkF m 0 #[.val (.int p1), .val (.int p2), .unset, .unset, .unset, .unset, .unset, .unset, .unset, .unset, .unset, .unset, .unset, .unset, .unset] [])) _
        refine XS.iloadN X0.here hx rfl (hb hby at_0) rfl ?_
        show Steps p.tables e below (s₁.setTop (mkF m 1 #[.val (.int p1), .val (.int p2), .unset, .unset, .unset, .unset, .unset, .unset, .unset, .unset, .unset, .unset, .unset, .unset, .unset] [(.int p1)])) _
        refine X0.ldcI hx hown (mvT hZ (hw _ (List.mem_of_getElem? (i := 0) rfl))) (g := (mkF m 1 #[.val (.int p1), .val (.int p2), .unset, .unset, .unset, .unset, .unset, .unset, .unset, .unset, .unset, .unset, .unset, .unset, .unset] [(.int p1)])) rfl (hb hby at_1) ?_
        show Steps p.tables e below (s₁.setTop (mkF m 3 #[.val (.int p1), .val (.int p2), .unset, .unset, .unset, .unset, .unset, .unset, .unset, .unset, .unset, .unset, .unset, .unset, .unset] [(.int (2147483647 : Int32)), (.int p1)])) _
        refine XS.iand X0.here hx rfl (hb hby at_3) rfl ?_
        show Steps p.tables e below (s₁.setTop (mkF m 4 #[.val (.int p1), .val (.int p2), .unset, .unset, .unset, .unset, .unset, .unset, .unset, .unset, .unset, .unset, .unset, .unset, .unset] [(.int (p1 &&& (2147483647 : Int32)))])) _
        refine X0.ldcI hx hown (mvT hZ (hw _ (List.mem_of_getElem? (i := 1) rfl))) (g := (mkF m 4 #[.val (.int p1), .val (.int p2), .unset, .unset, .unset, .unset, .unset, .unset, .unset, .unset, .unset, .unset, .unset, .unset, .unset] [(.int (p1 &&& (2147483647 : Int32)))])) rfl (hb hby at_4) ?_
        show Steps p.tables e below (s₁.setTop (mkF m 6 #[.val (.int p1), .val (.int p2), .unset, .unset, .unset, .unset, .unset, .unset, .unset, .unset, .unset, .unset, .unset, .unset, .unset] [(.int (2147483646 : Int32)), (.int (p1 &&& (2147483647 : Int32)))])) _
        refine iremM X0 hx rfl (hb hby at_6) rfl (by decide) ?_
        show Steps p.tables e below (s₁.setTop (mkF m 7 #[.val (.int p1), .val (.int p2), .unset, .unset, .unset, .unset, .unset, .unset, .unset, .unset, .unset, .unset, .unset, .unset, .unset] [(.int ((p1 &&& (2147483647 : Int32)) % (2147483646 : Int32)))])) _
        refine XS.iconst X0.here hx rfl (hb hby at_7) ?_
        show Steps p.tables e below (s₁.setTop (mkF m 8 #[.val (.int p1), .val (.int p2), .unset, .unset, .unset, .unset, .unset, .unset, .unset, .unset, .unset, .unset, .unset, .unset, .unset] [(.int (1 : Int32)), (.int ((p1 &&& (2147483647 : Int32)) % (2147483646 : Int32)))])) _
        refine XS.iadd X0.here hx rfl (hb hby at_8) rfl ?_
        show Steps p.tables e below (s₁.setTop (mkF m 9 #[.val (.int p1), .val (.int p2), .unset, .unset, .unset, .unset, .unset, .unset, .unset, .unset, .unset, .unset, .unset, .unset, .unset] [(.int (own_n p1))])) _
        refine XS.istoreN X0.here hx rfl (hb hby at_9) rfl (l' := #[.val (.int p1), .val (.int p2), .val (.int (own_n p1)), .unset, .unset, .unset, .unset, .unset, .unset, .unset, .unset, .unset, .unset, .unset, .unset]) rfl ?_
        show Steps p.tables e below (s₁.setTop (mkF m 10 #[.val (.int p1), .val (.int p2), .val (.int (own_n p1)), .unset, .unset, .unset, .unset, .unset, .unset, .unset, .unset, .unset, .unset, .unset, .unset] [])) _
        refine XS.iloadN X0.here hx rfl (hb hby at_10) rfl ?_
        show Steps p.tables e below (s₁.setTop (mkF m 11 #[.val (.int p1), .val (.int p2), .val (.int (own_n p1)), .unset, .unset, .unset, .unset, .unset, .unset, .unset, .unset, .unset, .unset, .unset, .unset] [(.int (own_n p1))])) _
        refine XS.iconst X0.here hx rfl (hb hby at_11) ?_
        show Steps p.tables e below (s₁.setTop (mkF m 12 #[.val (.int p1), .val (.int p2), .val (.int (own_n p1)), .unset, .unset, .unset, .unset, .unset, .unset, .unset, .unset, .unset, .unset, .unset, .unset] [(.int (1 : Int32)), (.int (own_n p1))])) _
        refine XS.iadd X0.here hx rfl (hb hby at_12) rfl ?_
        show Steps p.tables e below (s₁.setTop (mkF m 13 #[.val (.int p1), .val (.int p2), .val (.int (own_n p1)), .unset, .unset, .unset, .unset, .unset, .unset, .unset, .unset, .unset, .unset, .unset, .unset] [(.int (own_N p1))])) _
        refine XS.istoreN X0.here hx rfl (hb hby at_13) rfl (l' := #[.val (.int p1), .val (.int p2), .val (.int (own_n p1)), .val (.int (own_N p1)), .unset, .unset, .unset, .unset, .unset, .unset, .unset, .unset, .unset, .unset, .unset]) rfl ?_
        show Steps p.tables e below (s₁.setTop (mkF m 14 #[.val (.int p1), .val (.int p2), .val (.int (own_n p1)), .val (.int (own_N p1)), .unset, .unset, .unset, .unset, .unset, .unset, .unset, .unset, .unset, .unset, .unset] [])) _
        refine XS.iloadN X0.here hx rfl (hb hby at_14) rfl ?_
        show Steps p.tables e below (s₁.setTop (mkF m 15 #[.val (.int p1), .val (.int p2), .val (.int (own_n p1)), .val (.int (own_N p1)), .unset, .unset, .unset, .unset, .unset, .unset, .unset, .unset, .unset, .unset, .unset] [(.int p2)])) _
        refine X0.ldcI hx hown (mvT hZ (hw _ (List.mem_of_getElem? (i := 0) rfl))) (g := (mkF m 15 #[.val (.int p1), .val (.int p2), .val (.int (own_n p1)), .val (.int (own_N p1)), .unset, .unset, .unset, .unset, .unset, .unset, .unset, .unset, .unset, .unset, .unset] [(.int p2)])) rfl (hb hby at_15) ?_
        show Steps p.tables e below (s₁.setTop (mkF m 17 #[.val (.int p1), .val (.int p2), .val (.int (own_n p1)), .val (.int (own_N p1)), .unset, .unset, .unset, .unset, .unset, .unset, .unset, .unset, .unset, .unset, .unset] [(.int (2147483647 : Int32)), (.int p2)])) _
        refine XS.iand X0.here hx rfl (hb hby at_17) rfl ?_
        show Steps p.tables e below (s₁.setTop (mkF m 18 #[.val (.int p1), .val (.int p2), .val (.int (own_n p1)), .val (.int (own_N p1)), .unset, .unset, .unset, .unset, .unset, .unset, .unset, .unset, .unset, .unset, .unset] [(.int (p2 &&& (2147483647 : Int32)))])) _
        refine XS.iloadN X0.here hx rfl (hb hby at_18) rfl ?_
        show Steps p.tables e below (s₁.setTop (mkF m 19 #[.val (.int p1), .val (.int p2), .val (.int (own_n p1)), .val (.int (own_N p1)), .unset, .unset, .unset, .unset, .unset, .unset, .unset, .unset, .unset, .unset, .unset] [(.int (own_N p1)), (.int (p2 &&& (2147483647 : Int32)))])) _
        refine iremM X0 hx rfl (hb hby at_19) rfl hN0 ?_
        show Steps p.tables e below (s₁.setTop (mkF m 20 #[.val (.int p1), .val (.int p2), .val (.int (own_n p1)), .val (.int (own_N p1)), .unset, .unset, .unset, .unset, .unset, .unset, .unset, .unset, .unset, .unset, .unset] [(.int ((p2 &&& (2147483647 : Int32)) % (own_N p1)))])) _
        refine XS.iconst X0.here hx rfl (hb hby at_20) ?_
        show Steps p.tables e below (s₁.setTop (mkF m 21 #[.val (.int p1), .val (.int p2), .val (.int (own_n p1)), .val (.int (own_N p1)), .unset, .unset, .unset, .unset, .unset, .unset, .unset, .unset, .unset, .unset, .unset] [(.int (1 : Int32)), (.int ((p2 &&& (2147483647 : Int32)) % (own_N p1)))])) _
        refine XS.iadd X0.here hx rfl (hb hby at_21) rfl ?_
        show Steps p.tables e below (s₁.setTop (mkF m 22 #[.val (.int p1), .val (.int p2), .val (.int (own_n p1)), .val (.int (own_N p1)), .unset, .unset, .unset, .unset, .unset, .unset, .unset, .unset, .unset, .unset, .unset] [(.int (own_j p1 p2))])) _
        refine XS.istore X0.here hx rfl (hb hby at_22) rfl (l' := #[.val (.int p1), .val (.int p2), .val (.int (own_n p1)), .val (.int (own_N p1)), .val (.int (own_j p1 p2)), .unset, .unset, .unset, .unset, .unset, .unset, .unset, .unset, .unset, .unset]) rfl ?_
        show Steps p.tables e below (s₁.setTop (mkF m 24 #[.val (.int p1), .val (.int p2), .val (.int (own_n p1)), .val (.int (own_N p1)), .val (.int (own_j p1 p2)), .unset, .unset, .unset, .unset, .unset, .unset, .unset, .unset, .unset, .unset] [])) _
        refine XS.iloadN X0.here hx rfl (hb hby at_24) rfl ?_
        show Steps p.tables e below (s₁.setTop (mkF m 25 #[.val (.int p1), .val (.int p2), .val (.int (own_n p1)), .val (.int (own_N p1)), .val (.int (own_j p1 p2)), .unset, .unset, .unset, .unset, .unset, .unset, .unset, .unset, .unset, .unset] [(.int (own_N p1))])) _
        refine XS.iload X0.here hx rfl (hb hby at_25) rfl ?_
        show Steps p.tables e below (s₁.setTop (mkF m 27 #[.val (.int p1), .val (.int p2), .val (.int (own_n p1)), .val (.int (own_N p1)), .val (.int (own_j p1 p2)), .unset, .unset, .unset, .unset, .unset, .unset, .unset, .unset, .unset, .unset] [(.int (own_j p1 p2)), (.int (own_N p1))])) _
        refine XS.isub X0.here hx rfl (hb hby at_27) rfl ?_
        show Steps p.tables e below (s₁.setTop (mkF m 28 #[.val (.int p1), .val (.int p2), .val (.int (own_n p1)), .val (.int (own_N p1)), .val (.int (own_j p1 p2)), .unset, .unset, .unset, .unset, .unset, .unset, .unset, .unset, .unset, .unset] [(.int ((own_N p1) - (own_j p1 p2)))])) _
        refine XS.istore X0.here hx rfl (hb hby at_28) rfl (l' := #[.val (.int p1), .val (.int p2), .val (.int (own_n p1)), .val (.int (own_N p1)), .val (.int (own_j p1 p2)), .val (.int ((own_N p1) - (own_j p1 p2))), .unset, .unset, .unset, .unset, .unset, .unset, .unset, .unset, .unset]) rfl ?_
        show Steps p.tables e below (s₁.setTop (mkF m 30 #[.val (.int p1), .val (.int p2), .val (.int (own_n p1)), .val (.int (own_N p1)), .val (.int (own_j p1 p2)), .val (.int ((own_N p1) - (own_j p1 p2))), .unset, .unset, .unset, .unset, .unset, .unset, .unset, .unset, .unset] [])) _
        refine XS.iloadN X0.here hx rfl (hb hby at_30) rfl ?_
        show Steps p.tables e below (s₁.setTop (mkF m 31 #[.val (.int p1), .val (.int p2), .val (.int (own_n p1)), .val (.int (own_N p1)), .val (.int (own_j p1 p2)), .val (.int ((own_N p1) - (own_j p1 p2))), .unset, .unset, .unset, .unset, .unset, .unset, .unset, .unset, .unset] [(.int (own_n p1))])) _
        refine XS.iload X0.here hx rfl (hb hby at_31) rfl ?_
        show Steps p.tables e below (s₁.setTop (mkF m 33 #[.val (.int p1), .val (.int p2), .val (.int (own_n p1)), .val (.int (own_N p1)), .val (.int (own_j p1 p2)), .val (.int ((own_N p1) - (own_j p1 p2))), .unset, .unset, .unset, .unset, .unset, .unset, .unset, .unset, .unset] [(.int (own_j p1 p2)), (.int (own_n p1))])) _
        refine st8 _ ?_
        show Steps p.tables e below (T8.setTop (mkF m 36 #[.val (.int p1), .val (.int p2), .val (.int (own_n p1)), .val (.int (own_N p1)), .val (.int (own_j p1 p2)), .val (.int ((own_N p1) - (own_j p1 p2))), .unset, .unset, .unset, .unset, .unset, .unset, .unset, .unset, .unset] [(.double (own_mean (own_n p1) (own_j p1 p2)))])) _
        refine XS.dstore X8.here hx rfl (hb hby at_36) rfl (l' := #[.val (.int p1), .val (.int p2), .val (.int (own_n p1)), .val (.int (own_N p1)), .val (.int (own_j p1 p2)), .val (.int ((own_N p1) - (own_j p1 p2))), .val (.double (own_mean (own_n p1) (own_j p1 p2))), .second, .unset, .unset, .unset, .unset, .unset, .unset, .unset]) rfl ?_
        show Steps p.tables e below (T8.setTop (mkF m 38 #[.val (.int p1), .val (.int p2), .val (.int (own_n p1)), .val (.int (own_N p1)), .val (.int (own_j p1 p2)), .val (.int ((own_N p1) - (own_j p1 p2))), .val (.double (own_mean (own_n p1) (own_j p1 p2))), .second, .unset, .unset, .unset, .unset, .unset, .unset, .unset] [])) _
        refine XS.dload X8.here hx rfl (hb hby at_38) rfl ?_
        show Steps p.tables e below (T8.setTop (mkF m 40 #[.val (.int p1), .val (.int p2), .val (.int (own_n p1)), .val (.int (own_N p1)), .val (.int (own_j p1 p2)), .val (.int ((own_N p1) - (own_j p1 p2))), .val (.double (own_mean (own_n p1) (own_j p1 p2))), .second, .unset, .unset, .unset, .unset, .unset, .unset, .unset] [(.double (own_mean (own_n p1) (own_j p1 p2)))])) _
        refine XS.iloadN X8.here hx rfl (hb hby at_40) rfl ?_
        show Steps p.tables e below (T8.setTop (mkF m 41 #[.val (.int p1), .val (.int p2), .val (.int (own_n p1)), .val (.int (own_N p1)), .val (.int (own_j p1 p2)), .val (.int ((own_N p1) - (own_j p1 p2))), .val (.double (own_mean (own_n p1) (own_j p1 p2))), .second, .unset, .unset, .unset, .unset, .unset, .unset, .unset] [(.int (own_N p1)), (.double (own_mean (own_n p1) (own_j p1 p2)))])) _
        refine XS.i2dS X8.here hx rfl (v := (FP.i2d (own_N p1))) (hb hby at_41) rfl rfl ?_
        show Steps p.tables e below (T8.setTop (mkF m 42 #[.val (.int p1), .val (.int p2), .val (.int (own_n p1)), .val (.int (own_N p1)), .val (.int (own_j p1 p2)), .val (.int ((own_N p1) - (own_j p1 p2))), .val (.double (own_mean (own_n p1) (own_j p1 p2))), .second, .unset, .unset, .unset, .unset, .unset, .unset, .unset] [(.double (FP.i2d (own_N p1))), (.double (own_mean (own_n p1) (own_j p1 p2)))])) _
        refine XS.dmulS X8.here hx rfl (v := (own_back (own_n p1) (own_j p1 p2))) (hb hby at_42) rfl (own_nn (own_diff_f ok).1) rfl ?_
        show Steps p.tables e below (T8.setTop (mkF m 43 #[.val (.int p1), .val (.int p2), .val (.int (own_n p1)), .val (.int (own_N p1)), .val (.int (own_j p1 p2)), .val (.int ((own_N p1) - (own_j p1 p2))), .val (.double (own_mean (own_n p1) (own_j p1 p2))), .second, .unset, .unset, .unset, .unset, .unset, .unset, .unset] [(.double (own_back (own_n p1) (own_j p1 p2)))])) _
        refine XS.iload X8.here hx rfl (hb hby at_43) rfl ?_
        show Steps p.tables e below (T8.setTop (mkF m 45 #[.val (.int p1), .val (.int p2), .val (.int (own_n p1)), .val (.int (own_N p1)), .val (.int (own_j p1 p2)), .val (.int ((own_N p1) - (own_j p1 p2))), .val (.double (own_mean (own_n p1) (own_j p1 p2))), .second, .unset, .unset, .unset, .unset, .unset, .unset, .unset] [(.int ((own_N p1) - (own_j p1 p2))), (.double (own_back (own_n p1) (own_j p1 p2)))])) _
        refine XS.i2dS X8.here hx rfl (v := (FP.i2d ((own_N p1) - (own_j p1 p2)))) (hb hby at_45) rfl rfl ?_
        show Steps p.tables e below (T8.setTop (mkF m 46 #[.val (.int p1), .val (.int p2), .val (.int (own_n p1)), .val (.int (own_N p1)), .val (.int (own_j p1 p2)), .val (.int ((own_N p1) - (own_j p1 p2))), .val (.double (own_mean (own_n p1) (own_j p1 p2))), .second, .unset, .unset, .unset, .unset, .unset, .unset, .unset] [(.double (FP.i2d ((own_N p1) - (own_j p1 p2)))), (.double (own_back (own_n p1) (own_j p1 p2)))])) _
        refine XS.dsubS X8.here hx rfl (v := (own_diff (own_n p1) (own_j p1 p2))) (hb hby at_46) rfl (own_nn (own_diff_f ok).2.1) rfl ?_
        show Steps p.tables e below (T8.setTop (mkF m 47 #[.val (.int p1), .val (.int p2), .val (.int (own_n p1)), .val (.int (own_N p1)), .val (.int (own_j p1 p2)), .val (.int ((own_N p1) - (own_j p1 p2))), .val (.double (own_mean (own_n p1) (own_j p1 p2))), .second, .unset, .unset, .unset, .unset, .unset, .unset, .unset] [(.double (own_diff (own_n p1) (own_j p1 p2)))])) _
        refine XS.dstore X8.here hx rfl (hb hby at_47) rfl (l' := #[.val (.int p1), .val (.int p2), .val (.int (own_n p1)), .val (.int (own_N p1)), .val (.int (own_j p1 p2)), .val (.int ((own_N p1) - (own_j p1 p2))), .val (.double (own_mean (own_n p1) (own_j p1 p2))), .second, .val (.double (own_diff (own_n p1) (own_j p1 p2))), .second, .unset, .unset, .unset, .unset, .unset]) rfl ?_
        show Steps p.tables e below (T8.setTop (mkF m 49 #[.val (.int p1), .val (.int p2), .val (.int (own_n p1)), .val (.int (own_N p1)), .val (.int (own_j p1 p2)), .val (.int ((own_N p1) - (own_j p1 p2))), .val (.double (own_mean (own_n p1) (own_j p1 p2))), .second, .val (.double (own_diff (own_n p1) (own_j p1 p2))), .second, .unset, .unset, .unset, .unset, .unset] [])) _
        refine X8.ldc2DoubleC hx hown (mvT hZ (hw _ (List.mem_of_getElem? (i := 6) rfl))) (g := (mkF m 49 #[.val (.int p1), .val (.int p2), .val (.int (own_n p1)), .val (.int (own_N p1)), .val (.int (own_j p1 p2)), .val (.int ((own_N p1) - (own_j p1 p2))), .val (.double (own_mean (own_n p1) (own_j p1 p2))), .second, .val (.double (own_diff (own_n p1) (own_j p1 p2))), .second, .unset, .unset, .unset, .unset, .unset] [])) rfl (hb hby at_49) _ ?_
        show Steps p.tables e below (T8.setTop (mkF m 52 #[.val (.int p1), .val (.int p2), .val (.int (own_n p1)), .val (.int (own_N p1)), .val (.int (own_j p1 p2)), .val (.int ((own_N p1) - (own_j p1 p2))), .val (.double (own_mean (own_n p1) (own_j p1 p2))), .second, .val (.double (own_diff (own_n p1) (own_j p1 p2))), .second, .unset, .unset, .unset, .unset, .unset] [(.double (4517110426252607488 : UInt64))])) _
        refine XS.dstore X8.here hx rfl (hb hby at_52) rfl (l' := #[.val (.int p1), .val (.int p2), .val (.int (own_n p1)), .val (.int (own_N p1)), .val (.int (own_j p1 p2)), .val (.int ((own_N p1) - (own_j p1 p2))), .val (.double (own_mean (own_n p1) (own_j p1 p2))), .second, .val (.double (own_diff (own_n p1) (own_j p1 p2))), .second, .val (.double (4517110426252607488 : UInt64)), .second, .unset, .unset, .unset]) rfl ?_
        show Steps p.tables e below (T8.setTop (mkF m 54 #[.val (.int p1), .val (.int p2), .val (.int (own_n p1)), .val (.int (own_N p1)), .val (.int (own_j p1 p2)), .val (.int ((own_N p1) - (own_j p1 p2))), .val (.double (own_mean (own_n p1) (own_j p1 p2))), .second, .val (.double (own_diff (own_n p1) (own_j p1 p2))), .second, .val (.double (4517110426252607488 : UInt64)), .second, .unset, .unset, .unset] [])) _
        refine XS.dload X8.here hx rfl (hb hby at_54) rfl ?_
        show Steps p.tables e below (T8.setTop (mkF m 56 #[.val (.int p1), .val (.int p2), .val (.int (own_n p1)), .val (.int (own_N p1)), .val (.int (own_j p1 p2)), .val (.int ((own_N p1) - (own_j p1 p2))), .val (.double (own_mean (own_n p1) (own_j p1 p2))), .second, .val (.double (own_diff (own_n p1) (own_j p1 p2))), .second, .val (.double (4517110426252607488 : UInt64)), .second, .unset, .unset, .unset] [(.double (own_diff (own_n p1) (own_j p1 p2)))])) _
        refine XS.dload X8.here hx rfl (hb hby at_56) rfl ?_
        show Steps p.tables e below (T8.setTop (mkF m 58 #[.val (.int p1), .val (.int p2), .val (.int (own_n p1)), .val (.int (own_N p1)), .val (.int (own_j p1 p2)), .val (.int ((own_N p1) - (own_j p1 p2))), .val (.double (own_mean (own_n p1) (own_j p1 p2))), .second, .val (.double (own_diff (own_n p1) (own_j p1 p2))), .second, .val (.double (4517110426252607488 : UInt64)), .second, .unset, .unset, .unset] [(.double (4517110426252607488 : UInt64)), (.double (own_diff (own_n p1) (own_j p1 p2)))])) _
        refine XS.dcmpS X8.here hx rfl (v := (cmpValue (FP.dcmp (own_diff (own_n p1) (own_j p1 p2)) own_eps) .g)) (hb hby at_58) rfl rfl ?_
        show Steps p.tables e below (T8.setTop (mkF m 59 #[.val (.int p1), .val (.int p2), .val (.int (own_n p1)), .val (.int (own_N p1)), .val (.int (own_j p1 p2)), .val (.int ((own_N p1) - (own_j p1 p2))), .val (.double (own_mean (own_n p1) (own_j p1 p2))), .second, .val (.double (own_diff (own_n p1) (own_j p1 p2))), .second, .val (.double (4517110426252607488 : UInt64)), .second, .unset, .unset, .unset] [(.int (cmpValue (FP.dcmp (own_diff (own_n p1) (own_j p1 p2)) own_eps) .g))])) _
        refine XS.ifNo X8.here hx rfl (hb hby at_59) rfl ((if0 _ _).trans (flt (own_le1 ok)).2.2.1) ?_
        show Steps p.tables e below (T8.setTop (mkF m 62 #[.val (.int p1), .val (.int p2), .val (.int (own_n p1)), .val (.int (own_N p1)), .val (.int (own_j p1 p2)), .val (.int ((own_N p1) - (own_j p1 p2))), .val (.double (own_mean (own_n p1) (own_j p1 p2))), .second, .val (.double (own_diff (own_n p1) (own_j p1 p2))), .second, .val (.double (4517110426252607488 : UInt64)), .second, .unset, .unset, .unset] [])) _
        refine XS.dload X8.here hx rfl (hb hby at_62) rfl ?_
        show Steps p.tables e below (T8.setTop (mkF m 64 #[.val (.int p1), .val (.int p2), .val (.int (own_n p1)), .val (.int (own_N p1)), .val (.int (own_j p1 p2)), .val (.int ((own_N p1) - (own_j p1 p2))), .val (.double (own_mean (own_n p1) (own_j p1 p2))), .second, .val (.double (own_diff (own_n p1) (own_j p1 p2))), .second, .val (.double (4517110426252607488 : UInt64)), .second, .unset, .unset, .unset] [(.double (4517110426252607488 : UInt64))])) _
        refine XS.dnegS X8.here hx rfl (v := (FP.dneg (4517110426252607488 : UInt64))) (hb hby at_64) rfl rfl ?_
        show Steps p.tables e below (T8.setTop (mkF m 65 #[.val (.int p1), .val (.int p2), .val (.int (own_n p1)), .val (.int (own_N p1)), .val (.int (own_j p1 p2)), .val (.int ((own_N p1) - (own_j p1 p2))), .val (.double (own_mean (own_n p1) (own_j p1 p2))), .second, .val (.double (own_diff (own_n p1) (own_j p1 p2))), .second, .val (.double (4517110426252607488 : UInt64)), .second, .unset, .unset, .unset] [(.double (FP.dneg (4517110426252607488 : UInt64)))])) _
        refine XS.dload X8.here hx rfl (hb hby at_65) rfl ?_
        show Steps p.tables e below (T8.setTop (mkF m 67 #[.val (.int p1), .val (.int p2), .val (.int (own_n p1)), .val (.int (own_N p1)), .val (.int (own_j p1 p2)), .val (.int ((own_N p1) - (own_j p1 p2))), .val (.double (own_mean (own_n p1) (own_j p1 p2))), .second, .val (.double (own_diff (own_n p1) (own_j p1 p2))), .second, .val (.double (4517110426252607488 : UInt64)), .second, .unset, .unset, .unset] [(.double (own_diff (own_n p1) (own_j p1 p2))), (.double (FP.dneg (4517110426252607488 : UInt64)))])) _
        refine XS.dcmpS X8.here hx rfl (v := (cmpValue (FP.dcmp (FP.dneg own_eps) (own_diff (own_n p1) (own_j p1 p2))) .g)) (hb hby at_67) rfl rfl ?_
        show Steps p.tables e below (T8.setTop (mkF m 68 #[.val (.int p1), .val (.int p2), .val (.int (own_n p1)), .val (.int (own_N p1)), .val (.int (own_j p1 p2)), .val (.int ((own_N p1) - (own_j p1 p2))), .val (.double (own_mean (own_n p1) (own_j p1 p2))), .second, .val (.double (own_diff (own_n p1) (own_j p1 p2))), .second, .val (.double (4517110426252607488 : UInt64)), .second, .unset, .unset, .unset] [(.int (cmpValue (FP.dcmp (FP.dneg own_eps) (own_diff (own_n p1) (own_j p1 p2))) .g))])) _
        refine XS.ifNo X8.here hx rfl (hb hby at_68) rfl ((if0 _ _).trans (flt (own_le2 ok)).2.2.1) ?_
        show Steps p.tables e below (T8.setTop (mkF m 71 #[.val (.int p1), .val (.int p2), .val (.int (own_n p1)), .val (.int (own_N p1)), .val (.int (own_j p1 p2)), .val (.int ((own_N p1) - (own_j p1 p2))), .val (.double (own_mean (own_n p1) (own_j p1 p2))), .second, .val (.double (own_diff (own_n p1) (own_j p1 p2))), .second, .val (.double (4517110426252607488 : UInt64)), .second, .unset, .unset, .unset] [])) _
        refine XS.iconst X8.here hx rfl (hb hby at_71) ?_
        show Steps p.tables e below (T8.setTop (mkF m 72 #[.val (.int p1), .val (.int p2), .val (.int (own_n p1)), .val (.int (own_N p1)), .val (.int (own_j p1 p2)), .val (.int ((own_N p1) - (own_j p1 p2))), .val (.double (own_mean (own_n p1) (own_j p1 p2))), .second, .val (.double (own_diff (own_n p1) (own_j p1 p2))), .second, .val (.double (4517110426252607488 : UInt64)), .second, .unset, .unset, .unset] [(.int (1 : Int32))])) _
        refine XS.goto X8.here hx rfl (pc0 := 72) (pc' := 76) rfl (hb hby at_72) (by decide) (by decide) ?_
        show Steps p.tables e below (T8.setTop (mkF m 76 #[.val (.int p1), .val (.int p2), .val (.int (own_n p1)), .val (.int (own_N p1)), .val (.int (own_j p1 p2)), .val (.int ((own_N p1) - (own_j p1 p2))), .val (.double (own_mean (own_n p1) (own_j p1 p2))), .second, .val (.double (own_diff (own_n p1) (own_j p1 p2))), .second, .val (.double (4517110426252607488 : UInt64)), .second, .unset, .unset, .unset] [(.int (1 : Int32))])) _
        refine XS.istore X8.here hx rfl (hb hby at_76) rfl (l' := #[.val (.int p1), .val (.int p2), .val (.int (own_n p1)), .val (.int (own_N p1)), .val (.int (own_j p1 p2)), .val (.int ((own_N p1) - (own_j p1 p2))), .val (.double (own_mean (own_n p1) (own_j p1 p2))), .second, .val (.double (own_diff (own_n p1) (own_j p1 p2))), .second, .val (.double (4517110426252607488 : UInt64)), .second, .val (.int (1 : Int32)), .unset, .unset]) rfl ?_
        show Steps p.tables e below (T8.setTop (mkF m 78 #[.val (.int p1), .val (.int p2), .val (.int (own_n p1)), .val (.int (own_N p1)), .val (.int (own_j p1 p2)), .val (.int ((own_N p1) - (own_j p1 p2))), .val (.double (own_mean (own_n p1) (own_j p1 p2))), .second, .val (.double (own_diff (own_n p1) (own_j p1 p2))), .second, .val (.double (4517110426252607488 : UInt64)), .second, .val (.int (1 : Int32)), .unset, .unset] [])) _
        refine XS.iload X8.here hx rfl (hb hby at_78) rfl ?_
        show Steps p.tables e below (T8.setTop (mkF m 80 #[.val (.int p1), .val (.int p2), .val (.int (own_n p1)), .val (.int (own_N p1)), .val (.int (own_j p1 p2)), .val (.int ((own_N p1) - (own_j p1 p2))), .val (.double (own_mean (own_n p1) (own_j p1 p2))), .second, .val (.double (own_diff (own_n p1) (own_j p1 p2))), .second, .val (.double (4517110426252607488 : UInt64)), .second, .val (.int (1 : Int32)), .unset, .unset] [(.int (1 : Int32))])) _
        refine XS.ifNo X8.here hx rfl (hb hby at_80) rfl (by decide) ?_
        show Steps p.tables e below (T8.setTop (mkF m 83 #[.val (.int p1), .val (.int p2), .val (.int (own_n p1)), .val (.int (own_N p1)), .val (.int (own_j p1 p2)), .val (.int ((own_N p1) - (own_j p1 p2))), .val (.double (own_mean (own_n p1) (own_j p1 p2))), .second, .val (.double (own_diff (own_n p1) (own_j p1 p2))), .second, .val (.double (4517110426252607488 : UInt64)), .second, .val (.int (1 : Int32)), .unset, .unset] [])) _
        refine XS.dload X8.here hx rfl (hb hby at_83) rfl ?_
        show Steps p.tables e below (T8.setTop (mkF m 85 #[.val (.int p1), .val (.int p2), .val (.int (own_n p1)), .val (.int (own_N p1)), .val (.int (own_j p1 p2)), .val (.int ((own_N p1) - (own_j p1 p2))), .val (.double (own_mean (own_n p1) (own_j p1 p2))), .second, .val (.double (own_diff (own_n p1) (own_j p1 p2))), .second, .val (.double (4517110426252607488 : UInt64)), .second, .val (.int (1 : Int32)), .unset, .unset] [(.double (own_mean (own_n p1) (own_j p1 p2)))])) _
        refine XS.dconst0 X8.here hx rfl (v := FP.dconst0) (hb hby at_85) rfl ?_
        show Steps p.tables e below (T8.setTop (mkF m 86 #[.val (.int p1), .val (.int p2), .val (.int (own_n p1)), .val (.int (own_N p1)), .val (.int (own_j p1 p2)), .val (.int ((own_N p1) - (own_j p1 p2))), .val (.double (own_mean (own_n p1) (own_j p1 p2))), .second, .val (.double (own_diff (own_n p1) (own_j p1 p2))), .second, .val (.double (4517110426252607488 : UInt64)), .second, .val (.int (1 : Int32)), .unset, .unset] [(.double FP.dconst0), (.double (own_mean (own_n p1) (own_j p1 p2)))])) _
        refine XS.dcmpS X8.here hx rfl (v := (0 : Int32)) (hb hby at_86) rfl (own_nought ok0) ?_
        show Steps p.tables e below (T8.setTop (mkF m 87 #[.val (.int p1), .val (.int p2), .val (.int (own_n p1)), .val (.int (own_N p1)), .val (.int (own_j p1 p2)), .val (.int ((own_N p1) - (own_j p1 p2))), .val (.double (own_mean (own_n p1) (own_j p1 p2))), .second, .val (.double (own_diff (own_n p1) (own_j p1 p2))), .second, .val (.double (4517110426252607488 : UInt64)), .second, .val (.int (1 : Int32)), .unset, .unset] [(.int (0 : Int32))])) _
        refine XS.ifNo X8.here hx rfl (hb hby at_87) rfl (by decide) ?_
        show Steps p.tables e below (T8.setTop (mkF m 90 #[.val (.int p1), .val (.int p2), .val (.int (own_n p1)), .val (.int (own_N p1)), .val (.int (own_j p1 p2)), .val (.int ((own_N p1) - (own_j p1 p2))), .val (.double (own_mean (own_n p1) (own_j p1 p2))), .second, .val (.double (own_diff (own_n p1) (own_j p1 p2))), .second, .val (.double (4517110426252607488 : UInt64)), .second, .val (.int (1 : Int32)), .unset, .unset] [])) _
        refine XS.iconst X8.here hx rfl (hb hby at_90) ?_
        show Steps p.tables e below (T8.setTop (mkF m 91 #[.val (.int p1), .val (.int p2), .val (.int (own_n p1)), .val (.int (own_N p1)), .val (.int (own_j p1 p2)), .val (.int ((own_N p1) - (own_j p1 p2))), .val (.double (own_mean (own_n p1) (own_j p1 p2))), .second, .val (.double (own_diff (own_n p1) (own_j p1 p2))), .second, .val (.double (4517110426252607488 : UInt64)), .second, .val (.int (1 : Int32)), .unset, .unset] [(.int (1 : Int32))])) _
        refine XS.goto X8.here hx rfl (pc0 := 91) (pc' := 95) rfl (hb hby at_91) (by decide) (by decide) ?_
        show Steps p.tables e below (T8.setTop (mkF m 95 #[.val (.int p1), .val (.int p2), .val (.int (own_n p1)), .val (.int (own_N p1)), .val (.int (own_j p1 p2)), .val (.int ((own_N p1) - (own_j p1 p2))), .val (.double (own_mean (own_n p1) (own_j p1 p2))), .second, .val (.double (own_diff (own_n p1) (own_j p1 p2))), .second, .val (.double (4517110426252607488 : UInt64)), .second, .val (.int (1 : Int32)), .unset, .unset] [(.int (1 : Int32))])) _
        refine XS.iload X8.here hx rfl (hb hby at_95) rfl ?_
        show Steps p.tables e below (T8.setTop (mkF m 97 #[.val (.int p1), .val (.int p2), .val (.int (own_n p1)), .val (.int (own_N p1)), .val (.int (own_j p1 p2)), .val (.int ((own_N p1) - (own_j p1 p2))), .val (.double (own_mean (own_n p1) (own_j p1 p2))), .second, .val (.double (own_diff (own_n p1) (own_j p1 p2))), .second, .val (.double (4517110426252607488 : UInt64)), .second, .val (.int (1 : Int32)), .unset, .unset] [(.int (own_j p1 p2)), (.int (1 : Int32))])) _
        refine XS.iloadN X8.here hx rfl (hb hby at_97) rfl ?_
        show Steps p.tables e below (T8.setTop (mkF m 98 #[.val (.int p1), .val (.int p2), .val (.int (own_n p1)), .val (.int (own_N p1)), .val (.int (own_j p1 p2)), .val (.int ((own_N p1) - (own_j p1 p2))), .val (.double (own_mean (own_n p1) (own_j p1 p2))), .second, .val (.double (own_diff (own_n p1) (own_j p1 p2))), .second, .val (.double (4517110426252607488 : UInt64)), .second, .val (.int (1 : Int32)), .unset, .unset] [(.int (own_N p1)), (.int (own_j p1 p2)), (.int (1 : Int32))])) _
        refine XS.icmpNo X8.here hx rfl (hb hby at_98) rfl (teq heq).2 ?_
        show Steps p.tables e below (T8.setTop (mkF m 101 #[.val (.int p1), .val (.int p2), .val (.int (own_n p1)), .val (.int (own_N p1)), .val (.int (own_j p1 p2)), .val (.int ((own_N p1) - (own_j p1 p2))), .val (.double (own_mean (own_n p1) (own_j p1 p2))), .second, .val (.double (own_diff (own_n p1) (own_j p1 p2))), .second, .val (.double (4517110426252607488 : UInt64)), .second, .val (.int (1 : Int32)), .unset, .unset] [(.int (1 : Int32))])) _
        refine XS.iconst X8.here hx rfl (hb hby at_101) ?_
        show Steps p.tables e below (T8.setTop (mkF m 102 #[.val (.int p1), .val (.int p2), .val (.int (own_n p1)), .val (.int (own_N p1)), .val (.int (own_j p1 p2)), .val (.int ((own_N p1) - (own_j p1 p2))), .val (.double (own_mean (own_n p1) (own_j p1 p2))), .second, .val (.double (own_diff (own_n p1) (own_j p1 p2))), .second, .val (.double (4517110426252607488 : UInt64)), .second, .val (.int (1 : Int32)), .unset, .unset] [(.int (1 : Int32)), (.int (1 : Int32))])) _
        refine XS.goto X8.here hx rfl (pc0 := 102) (pc' := 106) rfl (hb hby at_102) (by decide) (by decide) ?_
        show Steps p.tables e below (T8.setTop (mkF m 106 #[.val (.int p1), .val (.int p2), .val (.int (own_n p1)), .val (.int (own_N p1)), .val (.int (own_j p1 p2)), .val (.int ((own_N p1) - (own_j p1 p2))), .val (.double (own_mean (own_n p1) (own_j p1 p2))), .second, .val (.double (own_diff (own_n p1) (own_j p1 p2))), .second, .val (.double (4517110426252607488 : UInt64)), .second, .val (.int (1 : Int32)), .unset, .unset] [(.int (1 : Int32)), (.int (1 : Int32))])) _
        refine XS.icmpNo X8.here hx rfl (hb hby at_106) rfl (by decide) ?_
        show Steps p.tables e below (T8.setTop (mkF m 109 #[.val (.int p1), .val (.int p2), .val (.int (own_n p1)), .val (.int (own_N p1)), .val (.int (own_j p1 p2)), .val (.int ((own_N p1) - (own_j p1 p2))), .val (.double (own_mean (own_n p1) (own_j p1 p2))), .second, .val (.double (own_diff (own_n p1) (own_j p1 p2))), .second, .val (.double (4517110426252607488 : UInt64)), .second, .val (.int (1 : Int32)), .unset, .unset] [])) _
        refine XS.iconst X8.here hx rfl (hb hby at_109) ?_
        show Steps p.tables e below (T8.setTop (mkF m 110 #[.val (.int p1), .val (.int p2), .val (.int (own_n p1)), .val (.int (own_N p1)), .val (.int (own_j p1 p2)), .val (.int ((own_N p1) - (own_j p1 p2))), .val (.double (own_mean (own_n p1) (own_j p1 p2))), .second, .val (.double (own_diff (own_n p1) (own_j p1 p2))), .second, .val (.double (4517110426252607488 : UInt64)), .second, .val (.int (1 : Int32)), .unset, .unset] [(.int (1 : Int32))])) _
        refine XS.goto X8.here hx rfl (pc0 := 110) (pc' := 114) rfl (hb hby at_110) (by decide) (by decide) ?_
        show Steps p.tables e below (T8.setTop (mkF m 114 #[.val (.int p1), .val (.int p2), .val (.int (own_n p1)), .val (.int (own_N p1)), .val (.int (own_j p1 p2)), .val (.int ((own_N p1) - (own_j p1 p2))), .val (.double (own_mean (own_n p1) (own_j p1 p2))), .second, .val (.double (own_diff (own_n p1) (own_j p1 p2))), .second, .val (.double (4517110426252607488 : UInt64)), .second, .val (.int (1 : Int32)), .unset, .unset] [(.int (1 : Int32))])) _
        refine XS.istore X8.here hx rfl (hb hby at_114) rfl (l' := #[.val (.int p1), .val (.int p2), .val (.int (own_n p1)), .val (.int (own_N p1)), .val (.int (own_j p1 p2)), .val (.int ((own_N p1) - (own_j p1 p2))), .val (.double (own_mean (own_n p1) (own_j p1 p2))), .second, .val (.double (own_diff (own_n p1) (own_j p1 p2))), .second, .val (.double (4517110426252607488 : UInt64)), .second, .val (.int (1 : Int32)), .unset, .unset]) rfl ?_
        show Steps p.tables e below (T8.setTop (mkF m 116 #[.val (.int p1), .val (.int p2), .val (.int (own_n p1)), .val (.int (own_N p1)), .val (.int (own_j p1 p2)), .val (.int ((own_N p1) - (own_j p1 p2))), .val (.double (own_mean (own_n p1) (own_j p1 p2))), .second, .val (.double (own_diff (own_n p1) (own_j p1 p2))), .second, .val (.double (4517110426252607488 : UInt64)), .second, .val (.int (1 : Int32)), .unset, .unset] [])) _
        refine XS.iload X8.here hx rfl (hb hby at_116) rfl ?_
        show Steps p.tables e below (T8.setTop (mkF m 118 #[.val (.int p1), .val (.int p2), .val (.int (own_n p1)), .val (.int (own_N p1)), .val (.int (own_j p1 p2)), .val (.int ((own_N p1) - (own_j p1 p2))), .val (.double (own_mean (own_n p1) (own_j p1 p2))), .second, .val (.double (own_diff (own_n p1) (own_j p1 p2))), .second, .val (.double (4517110426252607488 : UInt64)), .second, .val (.int (1 : Int32)), .unset, .unset] [(.int (own_j p1 p2))])) _
        refine XS.iloadN X8.here hx rfl (hb hby at_118) rfl ?_
        show Steps p.tables e below (T8.setTop (mkF m 119 #[.val (.int p1), .val (.int p2), .val (.int (own_n p1)), .val (.int (own_N p1)), .val (.int (own_j p1 p2)), .val (.int ((own_N p1) - (own_j p1 p2))), .val (.double (own_mean (own_n p1) (own_j p1 p2))), .second, .val (.double (own_diff (own_n p1) (own_j p1 p2))), .second, .val (.double (4517110426252607488 : UInt64)), .second, .val (.int (1 : Int32)), .unset, .unset] [(.int (own_n p1)), (.int (own_j p1 p2))])) _
        refine XS.icmpYes X8.here hx rfl (pc0 := 119) (pc' := 152) rfl (hb hby at_119) rfl (tlt hle).2.2.1 (by decide) (by decide) ?_
        show Steps p.tables e below (T8.setTop (mkF m 152 #[.val (.int p1), .val (.int p2), .val (.int (own_n p1)), .val (.int (own_N p1)), .val (.int (own_j p1 p2)), .val (.int ((own_N p1) - (own_j p1 p2))), .val (.double (own_mean (own_n p1) (own_j p1 p2))), .second, .val (.double (own_diff (own_n p1) (own_j p1 p2))), .second, .val (.double (4517110426252607488 : UInt64)), .second, .val (.int (1 : Int32)), .unset, .unset] [])) _
        refine XS.iloadN X8.here hx rfl (hb hby at_152) rfl ?_
        show Steps p.tables e below (T8.setTop (mkF m 153 #[.val (.int p1), .val (.int p2), .val (.int (own_n p1)), .val (.int (own_N p1)), .val (.int (own_j p1 p2)), .val (.int ((own_N p1) - (own_j p1 p2))), .val (.double (own_mean (own_n p1) (own_j p1 p2))), .second, .val (.double (own_diff (own_n p1) (own_j p1 p2))), .second, .val (.double (4517110426252607488 : UInt64)), .second, .val (.int (1 : Int32)), .unset, .unset] [(.int (own_n p1))])) _
        refine X8.ldcI hx hown (mvT hZ (hw _ (List.mem_of_getElem? (i := 7) rfl))) (g := (mkF m 153 #[.val (.int p1), .val (.int p2), .val (.int (own_n p1)), .val (.int (own_N p1)), .val (.int (own_j p1 p2)), .val (.int ((own_N p1) - (own_j p1 p2))), .val (.double (own_mean (own_n p1) (own_j p1 p2))), .second, .val (.double (own_diff (own_n p1) (own_j p1 p2))), .second, .val (.double (4517110426252607488 : UInt64)), .second, .val (.int (1 : Int32)), .unset, .unset] [(.int (own_n p1))])) rfl (hb hby at_153) ?_
        show Steps p.tables e below (T8.setTop (mkF m 155 #[.val (.int p1), .val (.int p2), .val (.int (own_n p1)), .val (.int (own_N p1)), .val (.int (own_j p1 p2)), .val (.int ((own_N p1) - (own_j p1 p2))), .val (.double (own_mean (own_n p1) (own_j p1 p2))), .second, .val (.double (own_diff (own_n p1) (own_j p1 p2))), .second, .val (.double (4517110426252607488 : UInt64)), .second, .val (.int (1 : Int32)), .unset, .unset] [(.int (1073741821 : Int32)), (.int (own_n p1))])) _
        refine XS.icmpYes X8.here hx rfl (pc0 := 155) (pc' := 192) rfl (hb hby at_155) rfl (tlt hsm).2.2.1 (by decide) (by decide) ?_
        show Steps p.tables e below (T8.setTop (mkF m 192 #[.val (.int p1), .val (.int p2), .val (.int (own_n p1)), .val (.int (own_N p1)), .val (.int (own_j p1 p2)), .val (.int ((own_N p1) - (own_j p1 p2))), .val (.double (own_mean (own_n p1) (own_j p1 p2))), .second, .val (.double (own_diff (own_n p1) (own_j p1 p2))), .second, .val (.double (4517110426252607488 : UInt64)), .second, .val (.int (1 : Int32)), .unset, .unset] [])) _
        refine XS.iload X8.here hx rfl (hb hby at_192) rfl ?_
        show Steps p.tables e below (T8.setTop (mkF m 194 #[.val (.int p1), .val (.int p2), .val (.int (own_n p1)), .val (.int (own_N p1)), .val (.int (own_j p1 p2)), .val (.int ((own_N p1) - (own_j p1 p2))), .val (.double (own_mean (own_n p1) (own_j p1 p2))), .second, .val (.double (own_diff (own_n p1) (own_j p1 p2))), .second, .val (.double (4517110426252607488 : UInt64)), .second, .val (.int (1 : Int32)), .unset, .unset] [(.int (1 : Int32))])) _
        exact retN X8 hx (t := .boolean) Bd.returns (by simp) (hb hby at_194) hr
      · show Q0 Z p1 p2 h0 n0 _ T8.heap _
        exact ⟨rfl, N8⟩
set_option maxRecDepth 65536 in
set_option maxHeartbeats 40000000 in
theorem comes_1 {Post : Tables → Env → Array Value → State → Outcome → State → Prop} (hpost : ∀ tb e args s v u, (limb_1_1.after args s (.returned v) u = true ∧ limb_1_2.after args s (.returned v) u = true ∧ True) → FrameEnd s (.returned v) u (Jvm.fieldLocs frame_1_writes args s ++ Jvm.arrayLocs frame_1_arrays args s ++ Jvm.staticLocs frame_1_statics s) 0 0 → Post tb e args s (.returned v) u) :
    ArmFor flags0 classFile x code maxLocals ret World_1 tables_1 room_1 Calls_1 rest_1 Pre_1 Post := by
  intro l hfl _ _ p e ha hc hk s m args below hf hA hF happ hP
  obtain ⟨hcalls, hrest, hpre⟩ := hP
  obtain ⟨-, -, -, hnamed, -, -, -, hat⟩ := (Spec.applies_iff hf).mp happ
  obtain ⟨hg, hn⟩ := and_e (Cond.before_iff.mp (show (Jvm.Cond.and given_1 narrow_1).before args s = true from hpre))
  obtain ⟨gc, gr0⟩ := and_e hg
  obtain ⟨ga0, gr1⟩ := and_e gr0
  have ga1 := gr1
  obtain ⟨w0, w1, rfl⟩ : ∃ w0 w1 : Value, args = #[w0, w1] := by
    have hs : args.size = 2 := by simpa [Cond.value, given_1] using gc
    obtain ⟨L⟩ := args
    match L, hs with
    | [w0, w1], _ => exact ⟨w0, w1, rfl⟩
  have hw := fun d (hd : d ∈ tables_1) => atoms_spec (ws := Jvm.Cond.code x code maxLocals ret :: tables_1) hat d (List.mem_cons_of_mem _ hd)
  obtain ⟨i0, ei0⟩ := is_v ga0
  obtain rfl : w0 = (.int i0) := Option.some.inj ei0
  obtain ⟨i1, ei1⟩ := is_v ga1
  obtain rfl : w1 = (.int i1) := Option.some.inj ei1
  obtain ⟨n, o, h1, h2, h3, _, L, rfl, ⟨rfl, N⟩, hq⟩ := rm0 l s _ hw tables_1 i0 i1 s.heap s.heap.size (Nat.le_refl _) p e ha hc hk s m _ below hf ((Spec.applies_iff_loose hf).mp happ).1 ⟨rfl, State.Warmed39.refl s, rfl⟩ trivial
  refine ⟨n, _, h1, h2, h3, hpost _ _ _ _ _ _ ⟨Cond.after_iff.mpr rfl, Cond.after_iff.mpr (eq_i res_at (Term.int_eval (1)) rfl), trivial⟩ ⟨hq.1, hq.2.1, (hq.2.2.sift fun y hy => Or.inr (N y hy)).mono (by decide) (by decide)⟩⟩
theorem main_1_1 : Claimed_1_1 := comes_1 fun _ _ _ _ _ _ h hF => ⟨h.1, hF⟩
theorem main_1_2 : Claimed_1_2 := comes_1 fun _ _ _ _ _ _ h hF => ⟨h.2.1, hF⟩
end Jvm.Pilot.@@N@@
namespace Jvm.Pilot.@@N@@
open Jvm Jvm.ClassFile Sem Op Lib Jvm.Free Jvm.Stand Jvm.Pilot.@@N@@.Jvm.D
/-! MADE BY PROGRAM (witnessworld.py) out of the Statement's table words and the real class files: 12 classes; the members and pool entries that the words name. The judged class is class 1, her method 1. -/
namespace start1
open Jvm.ClassFile
def u (s : String) : CpInfo := .utf8 (stringToUtf16 s)
/-- a pool by its gaps: so many unusable entries, then the entry; so many at the end -/
def gap : Nat → List CpInfo → List CpInfo
  | 0, r => r
  | n + 1, r => .unusable :: gap n r
def poolList (es : List (Nat × CpInfo)) (last : Nat) : List CpInfo := es.foldr (fun e r => gap e.1 (e.2 :: r)) (gap last [])
def pool (es : List (Nat × CpInfo)) (last : Nat) : Array CpInfo := ⟨poolList es last⟩
def fileOf (pool : Array CpInfo) (this : Nat) (attrs : Array Attribute := #[]) (ms : Array MethodInfo := #[]) (fl : Nat := 33) (sup : Nat := 0) (ifs : Array Nat := #[]) (fds : Array FieldInfo := #[]) : ClassFile where
  minorVersion := 0
  majorVersion := 65
  constantPool := pool
  accessFlags := fl
  thisClass := this
  superClass := sup
  interfaces := ifs
  fields := fds
  methods := ms
  attributes := attrs
def plain (name : String) (sup : Option ClassId) : Class where
  name := name
  kind := .ordinary
  loader := none
  accessFlags := 33
  super := sup
  interfaces := #[]
  cf := none
  fields := #[]
  methods := #[]
  instanceTypes := #[]
  staticTypes := #[]
  resolved := #[]
  callSites := []
  init := .initialized
  statics := none
  mirror := none

def pool0 : Array CpInfo := pool [(5, u "<init>"), (0, u "()V"), (1, .class_ 10), (1, u "java/lang/Object")] 113

def k0m0 : Method := { name := "<init>", desc := "()V", sig := { parameters := [], returnType := none }, accessFlags := 1, code := none }
/-- java/lang/Object -/
def k0 : Class := { plain "java/lang/Object" none with
  accessFlags := 33
  interfaces := #[]
  cf := some (fileOf pool0 8 #[] #[{ accessFlags := 1, nameIndex := 5, descriptorIndex := 6, attributes := #[] }] 33 0 #[] #[])
  fields := #[]
  methods := #[k0m0]
  instanceTypes := #[]
  staticTypes := #[]
  resolved := Array.replicate 124 none
  statics := none }

def pool1 : Array CpInfo := pool [(2, .class_ 4), (1, u "java/lang/Object"), (0, u "<init>"), (0, u "()V"), (0, .integer 2147483647), (0, .integer 2147483646), (0, .methodref 10 11), (0, .class_ 12), (0, .nameAndType 13 14), (0, u "com/example/outcry/outcry/core/UniformPrice"), (0, u "meanOfHighest"), (0, u "(II)D"), (0, .double 4517110426252607488), (1, .integer 1073741821), (0, .class_ 19), (0, u "com/example/outcry/outcry/core/UniformPriceMeanOfHighestPinLaw"), (2, u "law"), (0, u "(II)Z")] 3

def k1m0 : Method := { name := "<init>", desc := "()V", sig := { parameters := [], returnType := none }, accessFlags := 2, code := none }
def k1c1 : Code := { maxStack := 4, maxLocals := 15, code := code, exceptionTable := #[], attributes := #[] }
def k1m1 : Method := { name := "law", desc := "(II)Z", sig := { parameters := [.int, .int], returnType := some .boolean }, accessFlags := 9, code := some k1c1 }
/-- com/example/outcry/outcry/core/UniformPriceMeanOfHighestPinLaw -/
def k1 : Class := { plain "com/example/outcry/outcry/core/UniformPriceMeanOfHighestPinLaw" (some 0) with
  accessFlags := 49
  interfaces := #[]
  cf := some (fileOf pool1 18 #[] #[{ accessFlags := 2, nameIndex := 5, descriptorIndex := 6, attributes := #[] }, { accessFlags := 9, nameIndex := 22, descriptorIndex := 23, attributes := #[] }] 49 2 #[] #[])
  fields := #[]
  methods := #[k1m0, k1m1]
  instanceTypes := #[]
  staticTypes := #[]
  resolved := Array.replicate 27 none
  statics := none }

def pool2 : Array CpInfo := pool [(1, .class_ 2), (0, u "java/lang/constant/Constable"), (0, .class_ 4), (0, u "java/lang/Object")] 6

/-- java/lang/constant/Constable -/
def k2 : Class := { plain "java/lang/constant/Constable" (some 0) with
  accessFlags := 1537
  interfaces := #[]
  cf := some (fileOf pool2 1 #[] #[] 1537 3 #[] #[])
  fields := #[]
  methods := #[]
  instanceTypes := #[]
  staticTypes := #[]
  resolved := Array.replicate 11 none
  statics := none }

def pool3 : Array CpInfo := pool [(1, .class_ 2), (0, u "java/lang/Comparable"), (0, .class_ 4), (0, u "java/lang/Object")] 7

/-- java/lang/Comparable -/
def k3 : Class := { plain "java/lang/Comparable" (some 0) with
  accessFlags := 1537
  interfaces := #[]
  cf := some (fileOf pool3 1 #[] #[] 1537 3 #[] #[])
  fields := #[]
  methods := #[]
  instanceTypes := #[]
  staticTypes := #[]
  resolved := Array.replicate 12 none
  statics := none }

def pool4 : Array CpInfo := pool [(1, .class_ 2), (0, u "java/io/Serializable"), (0, .class_ 4), (0, u "java/lang/Object")] 2

/-- java/io/Serializable -/
def k4 : Class := { plain "java/io/Serializable" (some 0) with
  accessFlags := 1537
  interfaces := #[]
  cf := some (fileOf pool4 1 #[] #[] 1537 3 #[] #[])
  fields := #[]
  methods := #[]
  instanceTypes := #[]
  staticTypes := #[]
  resolved := Array.replicate 7 none
  statics := none }

def pool5 : Array CpInfo := pool [(2, .class_ 4), (1, u "java/lang/Enum"), (0, u "name"), (0, u "Ljava/lang/String;"), (2, u "ordinal"), (0, u "I"), (1, .class_ 14), (1, u "java/lang/Object"), (4, u "hash"), (86, .class_ 108), (1, u "java/lang/Enum$EnumDesc"), (2, .class_ 112), (0, u "java/lang/constant/Constable"), (0, .class_ 114), (0, u "java/lang/Comparable"), (0, .class_ 116), (0, u "java/io/Serializable")] 87

/-- java/lang/Enum -/
def k5 : Class := { plain "java/lang/Enum" (some 0) with
  accessFlags := 1057
  interfaces := #[2, 3, 4]
  cf := some (fileOf pool5 2 #[.nestMembers #[106]] #[] 1057 12 #[111, 113, 115] #[{ accessFlags := 18, nameIndex := 5, descriptorIndex := 6, attributes := #[] }, { accessFlags := 18, nameIndex := 9, descriptorIndex := 10, attributes := #[] }, { accessFlags := 2, nameIndex := 19, descriptorIndex := 10, attributes := #[] }])
  fields := #[{ name := "name", type := (.object "java/lang/String"), accessFlags := 18, slot := 0, constantValue := 0 }, { name := "ordinal", type := .int, accessFlags := 18, slot := 1, constantValue := 0 }, { name := "hash", type := .int, accessFlags := 2, slot := 2, constantValue := 0 }]
  methods := #[]
  instanceTypes := #[(.object "java/lang/String"), .int, .int]
  staticTypes := #[]
  resolved := Array.replicate 204 none
  statics := none }

def pool6 : Array CpInfo := pool [(1, .class_ 2), (0, u "com/example/outcry/outcry/core/UniformPrice"), (2, u "LOWEST_WINNING_BID"), (0, u "Lcom/example/outcry/outcry/core/UniformPrice;"), (2, u "HIGHEST_LOSING_BID"), (2, u "$VALUES"), (0, u "[Lcom/example/outcry/outcry/core/UniformPrice;"), (6, .class_ 22), (1, u "java/lang/Enum"), (6, .class_ 30), (0, u "com/example/outcry/outcry/core/UniformPrice$1"), (2, .class_ 34), (0, u "com/example/outcry/outcry/core/UniformPrice$2"), (21, u "meanOfHighest"), (0, u "(II)D")] 11

def k6c0 : Code := { maxStack := 4, maxLocals := 2, code := prog_46_method_8_code, exceptionTable := #[], attributes := #[] }
def k6m0 : Method := { name := "meanOfHighest", desc := "(II)D", sig := { parameters := [.int, .int], returnType := some .double }, accessFlags := 8, code := some k6c0 }
/-- com/example/outcry/outcry/core/UniformPrice -/
def k6 : Class := { plain "com/example/outcry/outcry/core/UniformPrice" (some 5) with
  accessFlags := 17440
  interfaces := #[]
  cf := some (fileOf pool6 1 #[.nestMembers #[33, 29]] #[{ accessFlags := 8, nameIndex := 56, descriptorIndex := 57, attributes := #[] }] 17440 20 #[] #[{ accessFlags := 16409, nameIndex := 5, descriptorIndex := 6, attributes := #[] }, { accessFlags := 16409, nameIndex := 9, descriptorIndex := 6, attributes := #[] }, { accessFlags := 4122, nameIndex := 12, descriptorIndex := 13, attributes := #[] }])
  fields := #[{ name := "LOWEST_WINNING_BID", type := (.object "com/example/outcry/outcry/core/UniformPrice"), accessFlags := 16409, slot := 0, constantValue := 0 }, { name := "HIGHEST_LOSING_BID", type := (.object "com/example/outcry/outcry/core/UniformPrice"), accessFlags := 16409, slot := 1, constantValue := 0 }, { name := "$VALUES", type := (.array (.object "com/example/outcry/outcry/core/UniformPrice")), accessFlags := 4122, slot := 2, constantValue := 0 }]
  methods := #[k6m0]
  instanceTypes := #[(.object "java/lang/String"), .int, .int]
  staticTypes := #[(.object "com/example/outcry/outcry/core/UniformPrice"), (.object "com/example/outcry/outcry/core/UniformPrice"), (.array (.object "com/example/outcry/outcry/core/UniformPrice"))]
  resolved := Array.replicate 69 none
  statics := none }

def pool7 : Array CpInfo := pool [(1, u "java/lang/Cloneable"), (0, .class_ 1), (0, u "java/lang/Object"), (0, .class_ 3)] 3

/-- java/lang/Cloneable -/
def k7 : Class := { plain "java/lang/Cloneable" (some 0) with
  accessFlags := 1537
  interfaces := #[]
  cf := some (fileOf pool7 2 #[] #[] 1537 4 #[] #[])
  fields := #[]
  methods := #[]
  instanceTypes := #[]
  staticTypes := #[]
  resolved := Array.replicate 8 none
  statics := none }

/-- the primitive byte -/
def k8 : Class := { plain "byte" none with kind := .primitive 'B', accessFlags := 0x411 }
/-- [B -/
def k9 : Class := { plain "[B" (some 0) with kind := .array 8 .byte, interfaces := #[7, 4], accessFlags := 1041 }

/-- the primitive int -/
def k10 : Class := { plain "int" none with kind := .primitive 'I', accessFlags := 0x411 }
/-- [I -/
def k11 : Class := { plain "[I" (some 0) with kind := .array 10 .int, interfaces := #[7, 4], accessFlags := 1041 }

def heap : Heap := #[]
def classes : Array Class := #[k0, k1, k2, k3, k4, k5, k6, k7, k8, k9, k10, k11]
def interned : List (Array UInt16 × Addr) := []
def slotsUsed : Nat := 0
def theMethod : MethodId := ⟨1, 1⟩
def args0 : Array Value := #[.int 5, .int 5]
def aboutOver (below : List Frame) : State where
  vm := { classes := classes, interned := interned.toArray }
  heap := heap
  slotsUsed := slotsUsed
  threads := #[{ frames := .invoking theMethod args0 :: below }]
def below0 : List Frame := [.native { method := ⟨0, 0⟩, args := #[] }]
def about1 : State := aboutOver below0
def p0 : Program := .bare "" "" ""
def e0 : Env := launch0.env 0 0 0
theorem w_frames : about1.frames = Frame.invoking theMethod args0 :: below0 := rfl
set_option maxRecDepth 65536 in
theorem w_args : argsFit about1.vm theMethod args0 = true := by decide +kernel
set_option maxRecDepth 65536 in
theorem w_heap : heapFits about1 = true := by decide +kernel
set_option maxRecDepth 65536 in
theorem w_runnable : about1.curStatus? = some .runnable := by decide +kernel
set_option maxRecDepth 65536 in
theorem w_alone : about1.alone = true := by decide +kernel
set_option maxRecDepth 65536 in
theorem w_named : about1.methodNamed? x = some theMethod := by decide +kernel
set_option maxRecDepth 65536 in
theorem w_hears : about1.hears theMethod below0 = true := by decide +kernel
set_option maxRecDepth 65536 in
theorem w_ripe : about1.ripe theMethod args0 below0 = true := by decide +kernel
theorem w_running : about1.status = .running := rfl
set_option maxRecDepth 65536 in
theorem w_room : about1.hasRoom e0.platform room_1 = true :=
  launch0.hasRoom_least _ room_1 (by decide +kernel) (by decide +kernel) (by decide +kernel) (by decide +kernel) (by decide +kernel) (by decide +kernel)
theorem allAtoms_all (ts : List Jvm.Cond) (a : Array Jvm.Value) (st : Jvm.State) : (allAtoms ts).before a st = ts.all (fun c => c.before a st) := by
  induction ts with
  | nil => rfl
  | cons c t ih =>
    show (Jvm.Cond.and c (allAtoms t)).before a st = _
    rw [Jvm.Cond.before_and, ih, List.all_cons]
def words1 : List Jvm.Cond := Jvm.Cond.code x code maxLocals ret :: tables_1
/-- a 'code' word, met by the world's own term for the bytes: nothing is compared byte by byte -/
theorem code_word {y : MethodName} {bytes : ByteArray} {mx : Nat} {rt : Option FieldType} {a : Array Value} {s : State} {m : MethodId} {meth : Method} {c : Code} (h1 : s.methodNamed? y = some m) (h2 : s.vm.method? m = some meth) (h3 : meth.code = some c) (h4 : c.code = bytes)
    (h5 : (c.maxLocals == mx && c.exceptionTable.isEmpty && decide (c.maxStack ≤ mostOperands) && decide (meth.sig.returnType = rt) && !meth.locks && decide (parseMethodDescriptor y.desc = some meth.sig)) = true) : (Jvm.Cond.code y bytes mx rt).before a s = true := by
  simp only [Bool.and_eq_true, beq_iff_eq, Bool.not_eq_true', decide_eq_true_eq] at h5
  obtain ⟨⟨⟨⟨⟨g1, g2⟩, g3⟩, g4⟩, g5⟩, g6⟩ := h5
  simp [Cond.before, Cond.holds, Cond.value, h1, h2, h3, h4, g1, g2, g3, g4, g5, g6]
def isCode : Jvm.Cond → Bool
  | .code _ _ _ _ => true
  | _ => false
theorem all_split {L : List Jvm.Cond} {P : Jvm.Cond → Bool} (h1 : L.all (fun c => isCode c || P c) = true) (h2 : ∀ c ∈ L.filter isCode, P c = true) : L.all P = true := by
  refine List.all_eq_true.mpr fun c hc => ?_
  have h := List.all_eq_true.mp h1 c hc
  rcases Bool.eq_false_or_eq_true (isCode c) with hi | hi
  · exact h2 c (List.mem_filter.mpr ⟨hc, hi⟩)
  · simpa [hi] using h
set_option maxRecDepth 65536 in
theorem w_c0 : (Jvm.Cond.code x code maxLocals ret).before args0 about1 = true := code_word (m := ⟨1, 1⟩) (meth := k1m1) (c := k1c1) (by decide +kernel) rfl rfl rfl (by decide +kernel)
set_option maxRecDepth 65536 in
theorem w_c1 : (Jvm.Cond.code ({ cls := "com/example/outcry/outcry/core/UniformPrice", name := "meanOfHighest", desc := "(II)D" } : Jvm.MethodName) prog_46_method_8_code (2 : Nat) (Option.some Jvm.ClassFile.FieldType.double)).before args0 about1 = true := code_word (m := ⟨6, 0⟩) (meth := k6m0) (c := k6c0) (by decide +kernel) rfl rfl rfl (by decide +kernel)
def codes1 : List Jvm.Cond := [Jvm.Cond.code x code maxLocals ret, Jvm.Cond.code ({ cls := "com/example/outcry/outcry/core/UniformPrice", name := "meanOfHighest", desc := "(II)D" } : Jvm.MethodName) prog_46_method_8_code (2 : Nat) (Option.some Jvm.ClassFile.FieldType.double)]
set_option maxRecDepth 65536 in
theorem codes_eq : words1.filter isCode = codes1 := rfl
theorem w_codes : ∀ c ∈ words1.filter isCode, c.before args0 about1 = true := by
  rw [codes_eq]
  intro c hc
  simp only [codes1, List.mem_cons, List.not_mem_nil, or_false] at hc
  rcases hc with rfl | rfl
  · exact w_c0
  · exact w_c1
set_option maxRecDepth 65536 in
theorem w_t1 : words1.all (fun c => isCode c || c.before args0 about1) = true := by decide +kernel
theorem w_tables : (allAtoms (Jvm.Cond.code x code maxLocals ret :: tables_1)).before args0 about1 = true := by
  rw [allAtoms_all]
  show words1.all (fun c => c.before args0 about1) = true
  refine all_split ?_ w_codes
  rw [w_t1]
set_option maxRecDepth 65536 in
theorem w_case : (Jvm.Cond.and given_1 narrow_1).before args0 about1 = true := by decide +kernel
theorem w_applies : (headSpec (Jvm.Cond.code x code maxLocals ret :: tables_1) room_1).applies x e0.platform about1 = true :=
  (Spec.applies_iff w_frames).mpr ⟨w_running, w_runnable, w_alone, w_named, w_hears, w_ripe, w_room, w_tables⟩
theorem atStart : AtStart classFile x code maxLocals ret World_1 tables_1 room_1 Calls_1 rest_1 Pre_1 launch0 p0 e0 about1 theMethod args0 below0 :=
  ⟨lists_1, trivial, launch0.admits_env _ _ _, launch0.least_env, fairChoices_fair.cas, fairChoices_fair.clock, w_frames, w_args, w_heap, w_applies, trivial, trivial, w_case⟩
end start1
theorem witness_1 : WitnessClaimed_1 := ⟨start1.p0, start1.e0, start1.about1, start1.theMethod, start1.args0, start1.below0, start1.atStart⟩
end Jvm.Pilot.@@N@@
