import JvmDerived
import JvmDerived.Pilot.@@N@@Statement
import JvmDerived.Pilot.@@N@@Code
set_option linter.unusedVariables false
set_option linter.unusedSimpArgs false
@@BLOCK:NumsL.lean.txt@@
namespace Jvm.Pilot.@@N@@
section OwnFl
open Jvm Jvm.FP Jvm.FP.Core Jvm.Free.Fl Jvm.Op
/-- a double's worth, in units of the least double -/
def own_zv (x : UInt64) : Int := zval b64 (val64 x)
/-- a worth that a finite double has -/
def own_rep (z : Int) : Prop := ∃ V, Core.fits b64 V ∧ (∃ s c q, V = .fin s c q) ∧ zval b64 V = z
theorem own_fin_ne {x : UInt64} (h : DFin x) : val64 x ≠ .nan := by
  obtain ⟨s, c, q, h⟩ := h; rw [h]; exact Datum.noConfusion
theorem own_nn {x : UInt64} (h : DFin x) : NoNaN64 x := val64_no.mpr (own_fin_ne h)
theorem own_rep_of {x : UInt64} (h : DFin x) : own_rep (own_zv x) := ⟨_, val64_fits x, h, rfl⟩
theorem own_rep_mk (s : Bool) {c k : Nat} (hc : c < 2 ^ 53) (hk : k ≤ 2045) : own_rep (signed s (c * 2 ^ k)) := by
  obtain ⟨c', q', h1, h2⟩ := round_exact (f := b64) good_b64 s (c := c) (q := (k : Int) - 1074) hc (by rw [qmin_b64]; omega)
    (by rw [show b64.qmax = 971 from by decide]; omega)
  refine ⟨_, round_fits good_b64 (.fin s c ((k : Int) - 1074)), ⟨_, _, _, h1⟩, ?_⟩
  rw [h1]
  show signed s (inUnits c' q' b64.qmin) = _
  rw [h2]
  unfold inUnits
  rw [qmin_b64, show ((k : Int) - 1074 - -1074).toNat = k by omega]
theorem own_rep_nat {c k : Nat} (hc : c < 2 ^ 53) (hk : k ≤ 2045) : own_rep ((c : Int) * ((2 ^ k : Nat) : Int)) := by
  have := own_rep_mk false hc hk
  simp only [signed, Bool.false_eq_true, if_false] at this
  rw [Int.natCast_mul] at this; exact this
theorem own_rep_neg {z : Int} (h : own_rep z) : own_rep (-z) := by
  obtain ⟨V, h1, ⟨s, c, q, rfl⟩, h3⟩ := h
  exact ⟨negate (.fin s c q), negate_fits h1, ⟨_, _, _, rfl⟩, by rw [zval_negate, h3]⟩
theorem own_rep_int {i : Int} {k : Nat} (hi : i.natAbs < 2 ^ 53) (hk : k ≤ 2045) : own_rep (i * ((2 ^ k : Nat) : Int)) := by
  have := own_rep_nat hi hk
  rcases Int.natAbs_eq i with h | h
  · rw [h]; exact this
  · rw [h, Int.neg_mul]; exact own_rep_neg this
theorem own_top {z : Int} (h : own_rep z) : z < ((b64.tails * 2 ^ (b64.exps - 2) : Nat) : Int) ∧ -((b64.tails * 2 ^ (b64.exps - 2) : Nat) : Int) < z := by
  obtain ⟨V, h1, ⟨s, c, q, rfl⟩, rfl⟩ := h
  have h2 := zmag_lt_top good_b64 h1
  show signed s (inUnits c q b64.qmin) < _ ∧ _ < signed s (inUnits c q b64.qmin)
  generalize b64.tails * 2 ^ (b64.exps - 2) = K at *
  generalize inUnits c q b64.qmin = k at *
  cases s <;> simp only [signed, if_true, Bool.false_eq_true, if_false] <;> constructor <;> omega
/-- no NaN and between two finite worths: finite -/
theorem own_fin_of {x : UInt64} (hn : val64 x ≠ .nan) {lo hi : Int} (hl : own_rep lo) (hh : own_rep hi) (h1 : lo ≤ own_zv x) (h2 : own_zv x ≤ hi) : DFin x := by
  have a := (own_top hl).2
  have b := (own_top hh).1
  unfold own_zv at h1 h2
  cases hv : val64 x with
  | nan => exact absurd hv hn
  | fin s c q => exact ⟨s, c, q, hv⟩
  | inf s =>
    exfalso
    rw [hv] at h1 h2
    simp only [zval, sgn, zmag] at h1 h2
    generalize b64.tails * 2 ^ (b64.exps - 2) = K at *
    cases s <;> simp only [signed, if_true, Bool.false_eq_true, if_false] at h1 h2 <;> omega
theorem own_cmp {x y : UInt64} (hx : DFin x) (hy : DFin y) : FP.dcmp x y = some (compare (own_zv x) (own_zv y)) :=
  order_zval good_b64 (val64_fits x) (val64_fits y) (own_fin_ne hx) (own_fin_ne hy)
theorem own_cmp_lt {x y : UInt64} (hx : DFin x) (hy : DFin y) (h : own_zv x < own_zv y) : FP.dcmp x y = some .lt := by
  rw [own_cmp hx hy, compare_ite, if_pos h]
theorem own_cmp_eq {x y : UInt64} (hx : DFin x) (hy : DFin y) (h : own_zv x = own_zv y) : FP.dcmp x y = some .eq := by
  rw [own_cmp hx hy, compare_ite, if_neg (by omega), if_pos h]
theorem own_cmp_gt {x y : UInt64} (hx : DFin x) (hy : DFin y) (h : own_zv y < own_zv x) : FP.dcmp x y = some .gt := by
  rw [own_cmp hx hy, compare_ite, if_neg (by omega), if_neg (by omega)]
theorem own_v_lt {x y : UInt64} (h : FP.dcmp x y = some .lt) (o : ClassFile.CmpOp) : cmpValue (FP.dcmp x y) o = -1 := by rw [h]; rfl
theorem own_v_eq {x y : UInt64} (h : FP.dcmp x y = some .eq) (o : ClassFile.CmpOp) : cmpValue (FP.dcmp x y) o = 0 := by rw [h]; rfl
theorem own_v_gt {x y : UInt64} (h : FP.dcmp x y = some .gt) (o : ClassFile.CmpOp) : cmpValue (FP.dcmp x y) o = 1 := by rw [h]; rfl
/-! sums -/
theorem own_round_ne (d : Datum) (h : d ≠ .nan) : round b64 d ≠ .nan := by
  cases d with
  | nan => exact absurd rfl h
  | inf s => exact Datum.noConfusion
  | fin s c q => exact roundRatio_ne_nan _ _ _ _ _
theorem own_add {x y : UInt64} (hx : DFin x) (hy : DFin y) {lo hi : Int} (hl : own_rep lo) (hh : own_rep hi) (h1 : lo ≤ own_zv x + own_zv y) (h2 : own_zv x + own_zv y ≤ hi) :
    DFin (FP.dadd x y) ∧ lo ≤ own_zv (FP.dadd x y) ∧ own_zv (FP.dadd x y) ≤ hi := by
  have e : val64 (FP.dadd x y) = round b64 (exactSum (val64 x) (val64 y)) := val64_dadd x y
  have hn : val64 (FP.dadd x y) ≠ .nan := by
    rw [e]; apply own_round_ne
    obtain ⟨s, c, q, hx⟩ := hx; obtain ⟨t, d, r, hy⟩ := hy
    rw [hx, hy]; exact Datum.noConfusion
  obtain ⟨Vl, a1, ⟨_, _, _, a2⟩, rfl⟩ := id hl
  obtain ⟨Vh, b1, ⟨_, _, _, b2⟩, rfl⟩ := id hh
  have g1 : zval b64 Vl ≤ own_zv (FP.dadd x y) := by
    unfold own_zv; rw [e]; exact sum_ge good_b64 hx hy (val64_fits x) (val64_fits y) a1 (by rw [a2]; exact Datum.noConfusion) h1
  have g2 : own_zv (FP.dadd x y) ≤ zval b64 Vh := by
    unfold own_zv; rw [e]; exact sum_le good_b64 hx hy (val64_fits x) (val64_fits y) b1 (by rw [b2]; exact Datum.noConfusion) h2
  exact ⟨own_fin_of hn hl hh g1 g2, g1, g2⟩
theorem own_add_eq {x y : UInt64} (hx : DFin x) (hy : DFin y) (hr : own_rep (own_zv x + own_zv y)) : DFin (FP.dadd x y) ∧ own_zv (FP.dadd x y) = own_zv x + own_zv y := by
  obtain ⟨a, b, c⟩ := own_add hx hy hr hr (Int.le_refl _) (Int.le_refl _)
  exact ⟨a, Int.le_antisymm c b⟩
theorem own_neg_fin {x : UInt64} (h : DFin x) : DFin (FP.dneg x) ∧ own_zv (FP.dneg x) = -own_zv x := by
  have e : val64 (FP.dneg x) = negate (val64 x) := FP.val64_dneg x
  unfold own_zv DFin
  rw [e, zval_negate]
  obtain ⟨s, c, q, h⟩ := h
  exact ⟨⟨_, _, _, by rw [h]; rfl⟩, rfl⟩
theorem own_sub {x y : UInt64} (hx : DFin x) (hy : DFin y) {lo hi : Int} (hl : own_rep lo) (hh : own_rep hi) (h1 : lo ≤ own_zv x - own_zv y) (h2 : own_zv x - own_zv y ≤ hi) :
    DFin (FP.dsub x y) ∧ lo ≤ own_zv (FP.dsub x y) ∧ own_zv (FP.dsub x y) ≤ hi := by
  obtain ⟨n1, n2⟩ := own_neg_fin hy
  have e : FP.dsub x y = FP.dadd x (FP.dneg y) := by
    rw [show FP.dneg y = Core.dneg y from dneg_core (noNaN64_no.mp (own_nn hy))]; exact dsub_eq x y
  rw [e]
  exact own_add hx n1 hl hh (by rw [n2]; omega) (by rw [n2]; omega)
/-! products -/
theorem own_pow_U : (b64.qmin - 2 * b64.qmin).toNat = 1074 := by decide
theorem own_mul {x y : UInt64} (hx : DFin x) (hy : DFin y) {lo hi : Int} (hl : own_rep lo) (hh : own_rep hi) (h1 : lo * ((2 ^ 1074 : Nat) : Int) ≤ own_zv x * own_zv y) (h2 : own_zv x * own_zv y ≤ hi * ((2 ^ 1074 : Nat) : Int)) :
    DFin (FP.dmul x y) ∧ lo ≤ own_zv (FP.dmul x y) ∧ own_zv (FP.dmul x y) ≤ hi := by
  have e : val64 (FP.dmul x y) = round b64 (exactProduct (val64 x) (val64 y)) := val64_dmul x y
  have fx := val64_fits x
  have fy := val64_fits y
  unfold own_zv at h1 h2
  obtain ⟨s, c, q, ex⟩ := hx
  obtain ⟨t, d, r, ey⟩ := hy
  rw [ex] at fx e h1 h2
  rw [ey] at fy e h1 h2
  obtain ⟨p1, p2, p3⟩ := product_units fx fy
  rw [p1] at e
  have hn : val64 (FP.dmul x y) ≠ .nan := by rw [e]; exact roundRatio_ne_nan _ _ _ _ _
  have hv : signed (s != t) (inUnits (c * d) (q + r) (2 * b64.qmin)) = zval b64 (.fin s c q) * zval b64 (.fin t d r) := by
    rw [p3, signed_xor]; rfl
  obtain ⟨Vl, a1, ⟨_, _, _, a2⟩, rfl⟩ := id hl
  obtain ⟨Vh, b1, ⟨_, _, _, b2⟩, rfl⟩ := id hh
  have hq := qmin_neg good_b64
  have g1 : zval b64 Vl ≤ own_zv (FP.dmul x y) := by
    unfold own_zv; rw [e]
    exact zval_round_ge good_b64 a1 (by rw [a2]; exact Datum.noConfusion) (by omega) p2 (by rw [hv, own_pow_U]; exact h1)
  have g2 : own_zv (FP.dmul x y) ≤ zval b64 Vh := by
    unfold own_zv; rw [e]
    exact zval_round_le good_b64 b1 (by rw [b2]; exact Datum.noConfusion) (by omega) p2 (by rw [hv, own_pow_U]; exact h2)
  exact ⟨own_fin_of hn hl hh g1 g2, g1, g2⟩
theorem own_mul_eq {x y : UInt64} (hx : DFin x) (hy : DFin y) {z : Int} (hr : own_rep z) (h : own_zv x * own_zv y = z * ((2 ^ 1074 : Nat) : Int)) : DFin (FP.dmul x y) ∧ own_zv (FP.dmul x y) = z := by
  obtain ⟨a, b, c⟩ := own_mul hx hy hr hr (Int.le_of_eq h.symm) (Int.le_of_eq h)
  exact ⟨a, Int.le_antisymm c b⟩
/-! quotients of a number from nought on by one above nought -/
theorem own_div {x y : UInt64} (hx : DFin x) (hy : DFin y) (px : 0 ≤ own_zv x) (sx : sgn (val64 x) = false) (py : 0 < own_zv y) {lo hi : Int} (hl : own_rep lo) (hh : own_rep hi) (l0 : 0 ≤ lo) (h1 : lo * own_zv y ≤ own_zv x * ((2 ^ 1074 : Nat) : Int)) (h2 : own_zv x * ((2 ^ 1074 : Nat) : Int) ≤ hi * own_zv y) :
    DFin (FP.ddiv x y) ∧ lo ≤ own_zv (FP.ddiv x y) ∧ own_zv (FP.ddiv x y) ≤ hi ∧ sgn (val64 (FP.ddiv x y)) = false := by
  have e : val64 (FP.ddiv x y) = quotient b64 (val64 x) (val64 y) := val64_ddiv x y
  have fx := val64_fits x
  have fy := val64_fits y
  unfold own_zv at h1 h2 px py
  obtain ⟨s, c, q, ex⟩ := hx
  obtain ⟨t, d, r, ey⟩ := hy
  rw [ex] at fx e h1 h2 px sx
  rw [ey] at fy e h1 h2 py
  obtain rfl : s = false := sx
  have hpos : t = false ∧ 0 < d := by
    simp only [zval, sgn, zmag] at py
    cases t
    · refine ⟨rfl, ?_⟩
      rcases Nat.eq_zero_or_pos d with h | h
      · subst h; simp [signed, inUnits] at py
      · exact h
    · simp only [signed, if_true] at py; omega
  obtain ⟨rfl, hd⟩ := hpos
  have e2 : val64 (FP.ddiv x y) = roundRatio b64 false c d (q - r) := by
    rw [e]; simp only [quotient]; rw [if_neg (by omega)]; rfl
  have hn : val64 (FP.ddiv x y) ≠ .nan := by rw [e2]; exact roundRatio_ne_nan _ _ _ _ _
  have hs : sgn (val64 (FP.ddiv x y)) = false := by rw [e2]; exact sgn_roundRatio _ _ _ _ _
  have hzz : own_zv (FP.ddiv x y) = (zmag b64 (roundRatio b64 false c d (q - r)) : Int) := by
    unfold own_zv zval; rw [hs, e2]; rfl
  have q1 := fx.2.1; have q2 := fx.2.2.1; have r1 := fy.2.1; have r2 := fy.2.2.1
  rw [qmin_b64] at q1 r1
  rw [show b64.qmax = 971 from by decide] at q2 r2
  have k1 : zval b64 (.fin false c q) = ((c * 2 ^ (q + 1074).toNat : Nat) : Int) := by
    show ((inUnits c q b64.qmin : Nat) : Int) = _
    unfold inUnits; rw [qmin_b64, show (q - -1074).toNat = (q + 1074).toNat by omega]
  have k2 : zval b64 (.fin false d r) = ((d * 2 ^ (r + 1074).toNat : Nat) : Int) := by
    show ((inUnits d r b64.qmin : Nat) : Int) = _
    unfold inUnits; rw [qmin_b64, show (r - -1074).toNat = (r + 1074).toNat by omega]
  rw [k1, k2] at h1 h2
  have key : ∀ M : Nat, (inUnits c (q - r) (-4096) * 2 ^ (r + 1074).toNat = c * 2 ^ (q + 1074).toNat * 2 ^ 1074 * 2 ^ 1948 * 2 ^ 1074) ∧ (M * 2 ^ (b64.qmin - -4096).toNat * d * 2 ^ (r + 1074).toNat = M * (d * 2 ^ (r + 1074).toNat) * 2 ^ 1074 * 2 ^ 1948) := by
    intro M
    unfold inUnits
    refine ⟨?_, ?_⟩
    · rw [Nat.mul_assoc, ← Nat.pow_add, Nat.mul_assoc, Nat.mul_assoc, Nat.mul_assoc, ← Nat.pow_add, ← Nat.pow_add, ← Nat.pow_add]
      congr 2; omega
    · rw [show (b64.qmin - -4096).toNat = 1074 + 1948 from by decide, Nat.pow_add]
      generalize 2 ^ 1074 = a; generalize 2 ^ 1948 = b; generalize 2 ^ (r + 1074).toNat = w
      ac_rfl
  obtain ⟨Vl, a1, ⟨_, _, _, a2⟩, al⟩ := id hl
  obtain ⟨Vh, b1, ⟨_, _, _, b2⟩, bl⟩ := id hh
  have m1 : (zmag b64 Vl : Int) = lo ∨ (zmag b64 Vl : Int) = -lo := by
    rw [← al]; unfold zval; cases sgn Vl <;> simp [signed]
  have hi0 : 0 ≤ hi := by
    refine Int.not_lt.mp fun hneg => ?_
    have hw : (0 : Int) < ((d * 2 ^ (r + 1074).toNat : Nat) : Int) := by have := Nat.mul_pos hd (Nat.two_pow_pos (r + 1074).toNat); omega
    have := Int.mul_neg_of_neg_of_pos hneg hw
    have h0 : (0 : Int) ≤ ((c * 2 ^ (q + 1074).toNat : Nat) : Int) * ((2 ^ 1074 : Nat) : Int) := Int.mul_nonneg (Int.natCast_nonneg _) (Int.natCast_nonneg _)
    omega
  have m2 : (zmag b64 Vh : Int) = hi := by
    have : (zmag b64 Vh : Int) = hi ∨ (zmag b64 Vh : Int) = -hi := by
      rw [← bl]; unfold zval; cases sgn Vh <;> simp [signed]
    omega
  have m1' : (zmag b64 Vl : Int) = lo := by omega
  have g1 : zmag b64 Vl ≤ zmag b64 (roundRatio b64 false c d (q - r)) := by
    refine zmag_roundRatio_ge good_b64 hd a1 (e0 := -4096) (by rw [qmin_b64]; omega) (by omega) ?_
    refine Nat.le_of_mul_le_mul_right ?_ (Nat.two_pow_pos (r + 1074).toNat)
    rw [(key 0).1, (key (zmag b64 Vl)).2]
    rw [← m1'] at h1
    have h1' : zmag b64 Vl * (d * 2 ^ (r + 1074).toNat) ≤ c * 2 ^ (q + 1074).toNat * 2 ^ 1074 := by
      rw [← Int.natCast_mul, ← Int.natCast_mul] at h1; exact Int.ofNat_le.mp h1
    calc zmag b64 Vl * (d * 2 ^ (r + 1074).toNat) * 2 ^ 1074 * 2 ^ 1948 ≤ c * 2 ^ (q + 1074).toNat * 2 ^ 1074 * 2 ^ 1074 * 2 ^ 1948 :=
          Nat.mul_le_mul_right _ (Nat.mul_le_mul_right _ h1')
      _ = _ := by generalize 2 ^ 1074 = a; generalize 2 ^ 1948 = b; generalize c * 2 ^ (q + 1074).toNat = w; ac_rfl
  have g2 : zmag b64 (roundRatio b64 false c d (q - r)) ≤ zmag b64 Vh := by
    refine zmag_roundRatio_le good_b64 hd b1 (by rw [b2]; exact Datum.noConfusion) (e0 := -4096) (by rw [qmin_b64]; omega) (by omega) ?_
    refine Nat.le_of_mul_le_mul_right ?_ (Nat.two_pow_pos (r + 1074).toNat)
    rw [(key 0).1, (key (zmag b64 Vh)).2]
    rw [← m2] at h2
    have h2' : c * 2 ^ (q + 1074).toNat * 2 ^ 1074 ≤ zmag b64 Vh * (d * 2 ^ (r + 1074).toNat) := by
      rw [← Int.natCast_mul, ← Int.natCast_mul] at h2; exact Int.ofNat_le.mp h2
    calc c * 2 ^ (q + 1074).toNat * 2 ^ 1074 * 2 ^ 1948 * 2 ^ 1074 = c * 2 ^ (q + 1074).toNat * 2 ^ 1074 * 2 ^ 1074 * 2 ^ 1948 := by
          generalize 2 ^ 1074 = a; generalize 2 ^ 1948 = b; generalize c * 2 ^ (q + 1074).toNat = w; ac_rfl
      _ ≤ _ := Nat.mul_le_mul_right _ (Nat.mul_le_mul_right _ h2')
  have z1 : lo ≤ own_zv (FP.ddiv x y) := by rw [hzz, ← m1']; exact Int.ofNat_le.mpr g1
  have z2 : own_zv (FP.ddiv x y) ≤ hi := by rw [hzz, ← m2]; exact Int.ofNat_le.mpr g2
  exact ⟨own_fin_of hn hl hh z1 z2, z1, z2, hs⟩
/-! whole numbers -/
theorem own_whole {i : Int} {x : UInt64} (h : DInt i x) : DFin x ∧ own_zv x = i * ((2 ^ 1074 : Nat) : Int) := by
  have fx := val64_fits x
  unfold DInt at h
  unfold own_zv DFin
  cases hv : val64 x with
  | nan => rw [hv] at h; exact absurd h (by simp [Whole])
  | inf s => rw [hv] at h; exact absurd h (by simp [Whole])
  | fin s c q =>
    refine ⟨⟨s, c, q, rfl⟩, ?_⟩
    rw [hv] at h fx
    have q1 := fx.2.1
    rw [qmin_b64] at q1
    simp only [Whole] at h
    show signed s (inUnits c q b64.qmin) = _
    unfold inUnits
    rw [qmin_b64]
    rcases Int.le_total 0 q with hq | hq
    · rw [show (-q).toNat = 0 by omega] at h
      rw [show (q - -1074).toNat = q.toNat + 1074 by omega, Nat.pow_add, ← Nat.mul_assoc, signed_mul, h]
      simp
    · rw [show q.toNat = 0 by omega] at h
      rw [show (2 : Nat) ^ 1074 = 2 ^ (-q).toNat * 2 ^ (q - -1074).toNat by rw [← Nat.pow_add]; congr 1; omega, Int.natCast_mul, ← Int.mul_assoc, ← h, signed_mul, Nat.pow_zero, Nat.mul_one]
theorem own_i2d (n : Int32) : DFin (FP.i2d n) ∧ own_zv (FP.i2d n) = n.toInt * ((2 ^ 1074 : Nat) : Int) := own_whole (i2d_int n)
theorem own_l2d {n : Int64} (h : n.toInt.natAbs ≤ 2 ^ 53) : DFin (FP.l2d n) ∧ own_zv (FP.l2d n) = n.toInt * ((2 ^ 1074 : Nat) : Int) := own_whole (l2d_int h)
theorem own_sgn_i2d {n : Int32} (h : 0 ≤ n.toInt) : sgn (val64 (FP.i2d n)) = false := by
  rw [show val64 (FP.i2d n) = round b64 (ofInt n.toInt) from val64_i2d n]
  show sgn (roundRatio b64 (decide (n.toInt < 0)) _ 1 0) = false
  rw [sgn_roundRatio]; exact decide_eq_false (by omega)
theorem own_sgn_l2d {n : Int64} (h : 0 ≤ n.toInt) : sgn (val64 (FP.l2d n)) = false := by
  rw [show val64 (FP.l2d n) = round b64 (ofInt n.toInt) from val64_l2d n]
  show sgn (roundRatio b64 (decide (n.toInt < 0)) _ 1 0) = false
  rw [sgn_roundRatio]; exact decide_eq_false (by omega)
theorem own_sgn_of {x : UInt64} (h : DFin x) (hp : 0 < own_zv x) : sgn (val64 x) = false := by
  obtain ⟨s, c, q, e⟩ := h
  unfold own_zv at hp
  rw [e] at hp ⊢
  cases s
  · rfl
  · simp only [zval, sgn, zmag, signed, if_true] at hp; omega
theorem own_one : DFin FP.dconst1 ∧ own_zv FP.dconst1 = 1 * ((2 ^ 1074 : Nat) : Int) :=
  own_whole (show Whole 1 (val64 FP.dconst1) by
    rw [show val64 FP.dconst1 = _ from val64_dconst1]
    show signed false (2 ^ 52 * 2 ^ (-52 : Int).toNat) = 1 * ((2 ^ (-(-52 : Int)).toNat : Nat) : Int)
    decide +kernel)
theorem own_zero : DFin FP.dconst0 ∧ own_zv FP.dconst0 = 0 := by
  have := own_whole (show Whole 0 (val64 FP.dconst0) by
    rw [show val64 FP.dconst0 = _ from val64_dconst0]
    show signed false (0 * 2 ^ b64.qmin.toNat) = 0 * _
    rw [Nat.zero_mul, Int.zero_mul]; rfl)
  rw [Int.zero_mul] at this; exact this
/-- a written constant: its datum by computation -/
theorem own_const {x : UInt64} {s : Bool} {c : Nat} {k : Nat} {q : Int} (h : val64 x = .fin s c q) (hq : q = (k : Int) - 1074) : DFin x ∧ own_zv x = signed s (c * 2 ^ k) := by
  refine ⟨⟨_, _, _, h⟩, ?_⟩
  unfold own_zv; rw [h]
  show signed s (inUnits c q b64.qmin) = _
  unfold inUnits; rw [qmin_b64, show (q - -1074).toNat = k by omega]
end OwnFl
end Jvm.Pilot.@@N@@
namespace Jvm.Pilot.@@N@@
section OwnA
open Jvm Jvm.FP Jvm.FP.Core Jvm.Free.Fl Jvm.Op
/-- the sum's double is as near to the true sum as any double -/
theorem own_add_near {x y : UInt64} (hx : DFin x) (hy : DFin y) (hs : 0 < own_zv x + own_zv y) (hf : DFin (FP.dadd x y)) {z : Int} (hz : own_rep z) (z0 : 0 ≤ z) (zp : 0 ≤ own_zv (FP.dadd x y)) :
    (own_zv x + own_zv y - own_zv (FP.dadd x y)).natAbs ≤ (own_zv x + own_zv y - z).natAbs := by
  have e : val64 (FP.dadd x y) = round b64 (exactSum (val64 x) (val64 y)) := val64_dadd x y
  have fx := val64_fits x
  have fy := val64_fits y
  unfold own_zv at hs zp ⊢
  obtain ⟨s, c, q, ex⟩ := hx
  obtain ⟨t, d, r, ey⟩ := hy
  obtain ⟨u, k, w, er⟩ := hf
  rw [ex] at fx e hs ⊢
  rw [ey] at fy e hs ⊢
  obtain ⟨sg, n, e1, h1, h2, h3⟩ := sum_units fx fy
  rw [h1] at e
  rw [← h3] at hs ⊢
  obtain ⟨V, v1, ⟨vs, vc, vq, rfl⟩, rfl⟩ := hz
  have hd := roundRatio_nearest good_b64 (e0 := b64.qmin) (by decide : 0 < 1) (e.symm.trans er : roundRatio b64 sg n 1 e1 = .fin u k w) v1.1 v1.2.1 (Int.le_refl _) h2
  unfold distance at hd
  rw [er] at zp ⊢
  have g1 : signed sg (inUnits n e1 b64.qmin) = (inUnits n e1 b64.qmin : Int) := by
    cases sg
    · rfl
    · simp only [signed, if_true] at hs; omega
  have g2 : zval b64 (.fin u k w) = (inUnits k w b64.qmin : Int) := by
    simp only [zval, sgn, zmag] at zp ⊢
    cases u
    · rfl
    · simp only [signed, if_true] at zp ⊢; omega
  have g3 : zval b64 (.fin vs vc vq) = (inUnits vc vq b64.qmin : Int) := by
    simp only [zval, sgn, zmag] at z0 ⊢
    cases vs
    · rfl
    · simp only [signed, if_true] at z0 ⊢; omega
  rw [g1, g2, g3]
  generalize inUnits n e1 b64.qmin = a1 at *
  generalize inUnits k w b64.qmin = a2 at *
  generalize inUnits vc vq b64.qmin = a3 at *
  omega
/-- a double from 2^(j+53) units on is a multiple of 2^j -/
theorem own_mult {x : UInt64} (hx : DFin x) {j : Nat} (h : ((2 ^ (j + 53) : Nat) : Int) ≤ own_zv x) : ∃ k : Nat, own_zv x = ((k * 2 ^ j : Nat) : Int) := by
  have fx := val64_fits x
  unfold own_zv at h ⊢
  obtain ⟨s, c, q, ex⟩ := hx
  rw [ex] at fx h ⊢
  have hc := fx.1
  have hq := fx.2.1
  rw [qmin_b64] at hq
  have hp := Nat.two_pow_pos (j + 53)
  simp only [zval, sgn, zmag] at h ⊢
  have hs : s = false := by
    cases s
    · rfl
    · simp only [signed, if_true] at h; omega
  subst hs
  simp only [signed, Bool.false_eq_true, if_false] at h ⊢
  unfold inUnits at h ⊢
  rw [qmin_b64] at h ⊢
  have h' : 2 ^ (j + 53) ≤ c * 2 ^ (q - -1074).toNat := Int.ofNat_le.mp h
  have hj : j ≤ (q - -1074).toNat := by
    refine Nat.le_of_not_lt fun hlt => ?_
    have h1 : c * 2 ^ (q - -1074).toNat < 2 ^ 53 * 2 ^ (q - -1074).toNat := Nat.mul_lt_mul_of_pos_right hc (Nat.two_pow_pos _)
    have h2 : 2 ^ 53 * 2 ^ (q - -1074).toNat ≤ 2 ^ (j + 53) := by rw [← Nat.pow_add]; exact Nat.pow_le_pow_right (by decide) (by omega)
    omega
  refine ⟨c * 2 ^ ((q - -1074).toNat - j), ?_⟩
  rw [Nat.mul_assoc, ← Nat.pow_add, show (q - -1074).toNat - j + j = (q - -1074).toNat by omega]
def own_k2 : UInt64 := 4611686018427387904
def own_k53 : UInt64 := 4368491638549381120
def own_k1000 : UInt64 := 103582791429521408
theorem own_two : DFin own_k2 ∧ own_zv own_k2 = 2 * ((2 ^ 1074 : Nat) : Int) := by
  have := own_const (x := own_k2) (s := false) (c := 2 ^ 52) (k := 1023) (q := -51) (by decide +kernel) (by decide)
  refine ⟨this.1, this.2.trans ?_⟩
  simp only [signed, Bool.false_eq_true, if_false]
  rw [← Nat.pow_add, show 52 + 1023 = 1074 + 1 from rfl, Nat.pow_succ, Nat.mul_comm, Int.natCast_mul]; rfl
theorem own_53 : DFin own_k53 ∧ own_zv own_k53 = ((2 ^ 1021 : Nat) : Int) := by
  have := own_const (x := own_k53) (s := false) (c := 2 ^ 52) (k := 969) (q := -105) (by decide +kernel) (by decide)
  refine ⟨this.1, this.2.trans ?_⟩
  simp only [signed, Bool.false_eq_true, if_false]
  rw [← Nat.pow_add]
theorem own_1000 : DFin own_k1000 ∧ own_zv own_k1000 = ((2 ^ 74 : Nat) : Int) := by
  have := own_const (x := own_k1000) (s := false) (c := 2 ^ 52) (k := 22) (q := -1052) (by decide +kernel) (by decide)
  refine ⟨this.1, this.2.trans ?_⟩
  decide +kernel
def own_t1 (m : Int32) : UInt64 := FP.dmul own_k2 (FP.i2d m)
def own_t2 (n m : Int32) : UInt64 := FP.dmul (own_t1 m) (FP.i2d (n + (3 : Int32)))
def own_t3 (v n m : Int32) : UInt64 := FP.dmul (FP.i2d v) (own_t2 n m)
def own_t4 (v n m : Int32) : UInt64 := FP.dmul (own_t3 v n m) own_k53
def own_t5 (v n m : Int32) : UInt64 := FP.dadd (own_t4 v n m) own_k1000
def own_k (v n m : Int32) : Int64 := (((2 : Int64) * m.toInt64) * (n.toInt64 + (3 : Int64))) * v.toInt64
def own_ex (v n m : Int32) : UInt64 := FP.dmul (FP.l2d (own_k v n m)) own_k53
theorem own_bound {v n m : Int} (v0 : 0 ≤ v) (v1 : v < 2 ^ 20) (n0 : 0 ≤ n) (n1 : n < 2 ^ 20) (m0 : 2 ≤ m) (m1 : m ≤ 1025) :
    0 ≤ 2 * m * (n + 3) ∧ 2 * m * (n + 3) ≤ 2149584900 ∧ 0 ≤ v * (2 * m * (n + 3)) ∧ v * (2 * m * (n + 3)) < 2 ^ 52 ∧ 12 * v ≤ v * (2 * m * (n + 3)) := by
  have h1 : 12 ≤ 2 * m * (n + 3) := by
    have : (4 : Int) * 3 ≤ 2 * m * (n + 3) := Int.mul_le_mul (by omega) (by omega) (by decide) (by omega)
    omega
  have h2 : 2 * m * (n + 3) ≤ 2149584900 := by
    have : 2 * m * (n + 3) ≤ 2050 * 1048578 := Int.mul_le_mul (by omega) (by omega) (by omega) (by decide)
    omega
  generalize 2 * m * (n + 3) = w at *
  have h3 : v * w ≤ 1048575 * 2149584900 := Int.mul_le_mul (by omega) h2 (by omega) (by decide)
  have h4 : 0 ≤ v * w := Int.mul_nonneg v0 (by omega)
  have h5 : 12 * v ≤ v * w := by
    have : v * 12 ≤ v * w := Int.mul_le_mul_of_nonneg_left h1 v0
    omega
  exact ⟨by omega, h2, h4, by omega, h5⟩
theorem own_facts {v n m : Int32} (v0 : 0 ≤ v.toInt) (v1 : v.toInt < 2 ^ 20) (n0 : 0 ≤ n.toInt) (n1 : n.toInt < 2 ^ 20) (m0 : 2 ≤ m.toInt) (m1 : m.toInt ≤ 1025) :
    DFin (own_t1 m) ∧ DFin (own_t2 n m) ∧ DFin (own_t3 v n m) ∧ (DFin (own_t4 v n m) ∧ own_zv (own_t4 v n m) = (v.toInt * (2 * m.toInt * (n.toInt + 3))) * ((2 ^ 1021 : Nat) : Int)) ∧
      (DFin (own_ex v n m) ∧ own_zv (own_ex v n m) = (v.toInt * (2 * m.toInt * (n.toInt + 3))) * ((2 ^ 1021 : Nat) : Int)) := by
  obtain ⟨b1, b2, b3, b4, -⟩ := own_bound v0 v1 n0 n1 m0 m1
  have hn3 : (n + (3 : Int32)).toInt = n.toInt + 3 := by
    have h3 : (3 : Int32).toInt = 3 := by decide
    rw [Jvm.Kit.i32_add (by omega) (by omega), h3]
  obtain ⟨M1, M2⟩ := own_i2d m
  obtain ⟨N1, N2⟩ := own_i2d (n + (3 : Int32))
  obtain ⟨V1, V2⟩ := own_i2d v
  rw [hn3] at N2
  have T1 : DFin (own_t1 m) ∧ own_zv (own_t1 m) = (2 * m.toInt) * ((2 ^ 1074 : Nat) : Int) := by
    refine own_mul_eq own_two.1 M1 (own_rep_int (by omega) (by decide)) ?_
    rw [own_two.2, M2]; generalize ((2 ^ 1074 : Nat) : Int) = U; ac_rfl
  have T2 : DFin (own_t2 n m) ∧ own_zv (own_t2 n m) = (2 * m.toInt * (n.toInt + 3)) * ((2 ^ 1074 : Nat) : Int) := by
    refine own_mul_eq T1.1 N1 (own_rep_int (by omega) (by decide)) ?_
    rw [T1.2, N2]; generalize ((2 ^ 1074 : Nat) : Int) = U; generalize n.toInt + 3 = w; ac_rfl
  have T3 : DFin (own_t3 v n m) ∧ own_zv (own_t3 v n m) = (v.toInt * (2 * m.toInt * (n.toInt + 3))) * ((2 ^ 1074 : Nat) : Int) := by
    refine own_mul_eq V1 T2.1 (own_rep_int (by omega) (by decide)) ?_
    rw [T2.2, V2]; generalize ((2 ^ 1074 : Nat) : Int) = U; generalize 2 * m.toInt * (n.toInt + 3) = w; ac_rfl
  have hk : (own_k v n m).toInt = v.toInt * (2 * m.toInt * (n.toInt + 3)) := by
    unfold own_k
    have e2 : (2 : Int64).toInt = 2 := by decide
    have e3 : (3 : Int64).toInt = 3 := by decide
    have a1 : ((2 : Int64) * m.toInt64).toInt = 2 * m.toInt := by rw [Jvm.Kit.i64_mul, e2, Int32.toInt_toInt64] <;> rw [e2, Int32.toInt_toInt64] <;> omega
    have a2 : (n.toInt64 + (3 : Int64)).toInt = n.toInt + 3 := by rw [Jvm.Kit.i64_add, e3, Int32.toInt_toInt64] <;> rw [e3, Int32.toInt_toInt64] <;> omega
    have a3 : (((2 : Int64) * m.toInt64) * (n.toInt64 + (3 : Int64))).toInt = 2 * m.toInt * (n.toInt + 3) := by rw [Jvm.Kit.i64_mul, a1, a2] <;> rw [a1, a2] <;> omega
    rw [Jvm.Kit.i64_mul, a3, Int32.toInt_toInt64, Int.mul_comm] <;> rw [a3, Int32.toInt_toInt64, Int.mul_comm] <;> omega
  have K1 := own_l2d (n := own_k v n m) (by rw [hk]; omega)
  rw [hk] at K1
  have T4 : DFin (own_t4 v n m) ∧ own_zv (own_t4 v n m) = (v.toInt * (2 * m.toInt * (n.toInt + 3))) * ((2 ^ 1021 : Nat) : Int) := by
    refine own_mul_eq T3.1 own_53.1 (own_rep_int (by omega) (by decide)) ?_
    rw [T3.2, own_53.2]; generalize ((2 ^ 1074 : Nat) : Int) = U; generalize ((2 ^ 1021 : Nat) : Int) = W; ac_rfl
  have T6 : DFin (own_ex v n m) ∧ own_zv (own_ex v n m) = (v.toInt * (2 * m.toInt * (n.toInt + 3))) * ((2 ^ 1021 : Nat) : Int) := by
    refine own_mul_eq K1.1 own_53.1 (own_rep_int (by omega) (by decide)) ?_
    rw [K1.2, own_53.2]; generalize ((2 ^ 1074 : Nat) : Int) = U; generalize ((2 ^ 1021 : Nat) : Int) = W; ac_rfl
  exact ⟨T1.1, T2.1, T3.1, T4, T6⟩
theorem own_sum {v n m : Int32} (v0 : 0 ≤ v.toInt) (v1 : v.toInt < 2 ^ 20) (n0 : 0 ≤ n.toInt) (n1 : n.toInt < 2 ^ 20) (m0 : 2 ≤ m.toInt) (m1 : m.toInt ≤ 1025) :
    DFin (own_t5 v n m) ∧ (v.toInt = 0 → own_zv (own_t5 v n m) = ((2 ^ 74 : Nat) : Int)) ∧ (v.toInt ≠ 0 → own_zv (own_t5 v n m) = own_zv (own_ex v n m)) := by
  obtain ⟨b1, b2, b3, b4, b5⟩ := own_bound v0 v1 n0 n1 m0 m1
  obtain ⟨-, -, -, ⟨T1, T2⟩, ⟨E1, E2⟩⟩ := own_facts v0 v1 n0 n1 m0 m1
  obtain ⟨C1, C2⟩ := own_1000
  have h74 : (0 : Int) < ((2 ^ 74 : Nat) : Int) := by decide
  have h74' : ((2 ^ 74 : Nat) : Int) + ((2 ^ 74 : Nat) : Int) < ((2 ^ 968 : Nat) : Int) := by decide +kernel
  have hW : ((2 ^ 1021 : Nat) : Int) = ((2 ^ 53 : Nat) : Int) * ((2 ^ 968 : Nat) : Int) := by rw [← Int.natCast_mul, ← Nat.pow_add]
  have h968 : (0 : Int) < ((2 ^ 968 : Nat) : Int) := Int.natCast_pos.mpr (Nat.two_pow_pos _)
  have h1021 : (0 : Int) < ((2 ^ 1021 : Nat) : Int) := Int.natCast_pos.mpr (Nat.two_pow_pos _)
  by_cases hv : v.toInt = 0
  · have z4 : own_zv (own_t4 v n m) = 0 := by rw [T2, hv]; simp
    have q := own_add_eq T1 C1 (by rw [z4, C2, Int.zero_add]; have := own_rep_nat (c := 1) (k := 74) (by decide) (by decide); rw [Int.natCast_one, Int.one_mul] at this; exact this)
    refine ⟨q.1, fun _ => ?_, fun h => absurd hv h⟩
    show own_zv (FP.dadd _ _) = _
    rw [q.2, z4, C2, Int.zero_add]
  · have hK : 1 ≤ v.toInt * (2 * m.toInt * (n.toInt + 3)) := by omega
    generalize hKK : v.toInt * (2 * m.toInt * (n.toInt + 3)) = K at *
    have rK : own_rep (K * ((2 ^ 1021 : Nat) : Int)) := own_rep_int (by omega) (by decide)
    have hKW : ((2 ^ 1021 : Nat) : Int) ≤ K * ((2 ^ 1021 : Nat) : Int) := by
      have := Int.mul_le_mul_of_nonneg_right hK (Int.le_of_lt h1021); omega
    have hlt : ((2 ^ 74 : Nat) : Int) ≤ ((2 ^ 1021 : Nat) : Int) := by decide +kernel
    have q := own_add T1 C1 rK (own_rep_int (i := K + 1) (k := 1021) (by omega) (by decide)) (by rw [T2, C2]; omega) (by rw [T2, C2, Int.add_mul]; omega)
    have nr := own_add_near T1 C1 (by rw [T2, C2]; omega) q.1 rK (by omega) (by have := q.2.1; omega)
    rw [T2, C2] at nr
    have q1 := q.2.1
    obtain ⟨k, hk⟩ := own_mult q.1 (j := 968) (Int.le_trans hKW q1)
    refine ⟨q.1, fun h => absurd h hv, fun _ => ?_⟩
    rw [E2]
    show own_zv (FP.dadd _ _) = _
    rw [hk] at nr q1 ⊢
    rw [hW, ← Int.mul_assoc] at nr q1 ⊢
    rw [Int.natCast_mul] at nr q1 ⊢
    generalize ((2 ^ 968 : Nat) : Int) = D at *
    generalize ((2 ^ 74 : Nat) : Int) = d at *
    have e1 : (k : Int) * D - K * ((2 ^ 53 : Nat) : Int) * D = ((k : Int) - K * ((2 ^ 53 : Nat) : Int)) * D := by rw [Int.sub_mul]
    have e2 : (k : Int) * D - K * ((2 ^ 53 : Nat) : Int) * D < D := by omega
    have e3 : 0 ≤ (k : Int) * D - K * ((2 ^ 53 : Nat) : Int) * D := by omega
    rw [e1] at e2 e3
    generalize (k : Int) - K * ((2 ^ 53 : Nat) : Int) = j at *
    have hj : j = 0 := by
      rcases Int.lt_trichotomy j 0 with h | h | h
      · have := Int.mul_neg_of_neg_of_pos h h968; omega
      · exact h
      · have := Int.mul_le_mul_of_nonneg_right (show 1 ≤ j by omega) (Int.le_of_lt h968); omega
    rw [hj] at e1
    omega
theorem own_mask (p : Int32) : 0 ≤ (p &&& (1048575 : Int32)).toInt ∧ (p &&& (1048575 : Int32)).toInt < 2 ^ 20 := by
  have h : (p &&& (1048575 : Int32)).toInt = p.toInt % 2 ^ 20 := Jvm.Kit.i32_mask p 1048575 (k := 20) (by decide) (by decide)
  omega
theorem own_mask2 (p : Int32) : 2 ≤ ((2 : Int32) + (p &&& (1023 : Int32))).toInt ∧ ((2 : Int32) + (p &&& (1023 : Int32))).toInt ≤ 1025 := by
  have h : (p &&& (1023 : Int32)).toInt = p.toInt % 2 ^ 10 := Jvm.Kit.i32_mask p 1023 (k := 10) (by decide) (by decide)
  have h1 : (2 : Int32).toInt = 2 := by decide
  rw [Jvm.Kit.i32_add (by omega) (by omega)]
  omega
theorem own_one_mul (m : Int32) : (1 : Int32) * m = m := by rw [Int32.one_mul]
theorem own_nneg {m : Int32} (m0 : 2 ≤ m.toInt) : ¬ m < 0 := by rw [Int32.lt_iff_toInt_lt]; have : (0 : Int32).toInt = 0 := rfl; omega
theorem own_cap {m : Int32} (m0 : 2 ≤ m.toInt) (m1 : m.toInt ≤ 1025) : m.toNatClampNeg ≤ 1025 := by show m.toInt.toNat ≤ 1025; omega
end OwnA
end Jvm.Pilot.@@N@@
namespace Jvm.RoadKit
open Sem ClassFile Op Lib Jvm.Stand Jvm.Free Jvm.LawKit
section New
variable {p : Program} {l : Launch} {e : Env} {R : Room} {s : State} {m : MethodId} {args : Array Value} {below : List Frame} {meth : Method} {c : Code} {T : State} {locs : List Loc} {cells slots : Nat}
theorem retI (X : Stand p l e R s m args below meth c T locs cells slots) (hx : p.tables.exec = Jvm.exec) {pc : Nat} {Ls : Array Slot} {z : Int32} {rest : List Value} (hret : meth.sig.returnType = some .int) (hd : decode c.code pc = .ok (.ireturn, 1)) {fs : List Frame}
    (hl : ∀ (f : JFrame) (acts : List Action), f.method = m → f.locked = none → f.entered = [] → (doReturn e (T.setTop f) acts (some (.int z))).1 = T.setFrames fs) : Steps p.tables e below (T.setTop (mkF m pc Ls (.int z :: rest))) (T.setFrames fs) := by
  have hm' : T.vm.method? m = some meth := X.method'
  have hn : narrow .int (.int z) = .int z := rfl
  show Steps p.tables e below (T.setTop { method := m, pc := pc, locals := Ls, stack := _ :: rest, locked := none }) _
  jvm_step X.here [X.here.top, hx, hd, hm', hret, hn]
  first | (intro acts; rw [hl _ acts rfl rfl rfl]) | rw [hl _ _ rfl rfl rfl]
  exact Steps.refl _
end New
end Jvm.RoadKit
namespace Jvm.Pilot.@@N@@
open Jvm Jvm.ClassFile Sem Op Lib Jvm.Free Jvm.Stand Jvm.LawKit Jvm.RoadKit Bundle Jvm.Pilot.@@N@@.Jvm.D
open Jvm.FP Jvm.Free.Fl
theorem d_jdk_29_method_65_code_0 : decode jdk_29_method_65_code 0 = .ok (.iload_n 0, 1) := by decide +kernel
theorem d_jdk_29_method_65_code_1 : decode jdk_29_method_65_code 1 = .ok (.iload_n 1, 1) := by decide +kernel
theorem d_jdk_29_method_65_code_2 : decode jdk_29_method_65_code 2 = .ok (.if_icmp .lt 7, 3) := by decide +kernel
theorem d_jdk_29_method_65_code_5 : decode jdk_29_method_65_code 5 = .ok (.iload_n 0, 1) := by decide +kernel
theorem d_jdk_29_method_65_code_6 : decode jdk_29_method_65_code 6 = .ok (.goto 4, 3) := by decide +kernel
theorem d_jdk_29_method_65_code_10 : decode jdk_29_method_65_code 10 = .ok (.ireturn, 1) := by decide +kernel
theorem d_prog_3_method_1_code_0 : decode prog_3_method_1_code 0 = .ok (.aload_n 0, 1) := by decide +kernel
theorem d_prog_3_method_1_code_1 : decode prog_3_method_1_code 1 = .ok (.invokespecial 1, 3) := by decide +kernel
theorem d_prog_3_method_1_code_4 : decode prog_3_method_1_code 4 = .ok (.aload_n 0, 1) := by decide +kernel
theorem d_prog_3_method_1_code_5 : decode prog_3_method_1_code 5 = .ok (.iload_n 1, 1) := by decide +kernel
theorem d_prog_3_method_1_code_6 : decode prog_3_method_1_code 6 = .ok (.putfield 7, 3) := by decide +kernel
theorem d_prog_3_method_1_code_9 : decode prog_3_method_1_code 9 = .ok (.iload_n 2, 1) := by decide +kernel
theorem d_prog_3_method_1_code_10 : decode prog_3_method_1_code 10 = .ok (.iconst 1, 1) := by decide +kernel
theorem d_prog_3_method_1_code_11 : decode prog_3_method_1_code 11 = .ok (.invokestatic 13, 3) := by decide +kernel
theorem d_prog_3_method_1_code_14 : decode prog_3_method_1_code 14 = .ok (.istore_n 3, 1) := by decide +kernel
theorem d_prog_3_method_1_code_15 : decode prog_3_method_1_code 15 = .ok (.aload_n 0, 1) := by decide +kernel
theorem d_prog_3_method_1_code_16 : decode prog_3_method_1_code 16 = .ok (.iload_n 3, 1) := by decide +kernel
theorem d_prog_3_method_1_code_17 : decode prog_3_method_1_code 17 = .ok (.aload_n 0, 1) := by decide +kernel
theorem d_prog_3_method_1_code_18 : decode prog_3_method_1_code 18 = .ok (.getfield 7, 3) := by decide +kernel
theorem d_prog_3_method_1_code_21 : decode prog_3_method_1_code 21 = .ok (.imul, 1) := by decide +kernel
theorem d_prog_3_method_1_code_22 : decode prog_3_method_1_code 22 = .ok (.newarray .double, 2) := by decide +kernel
theorem d_prog_3_method_1_code_24 : decode prog_3_method_1_code 24 = .ok (.putfield 19, 3) := by decide +kernel
theorem d_prog_3_method_1_code_27 : decode prog_3_method_1_code 27 = .ok (.aload_n 0, 1) := by decide +kernel
theorem d_prog_3_method_1_code_28 : decode prog_3_method_1_code 28 = .ok (.iload_n 3, 1) := by decide +kernel
theorem d_prog_3_method_1_code_29 : decode prog_3_method_1_code 29 = .ok (.newarray .int, 2) := by decide +kernel
theorem d_prog_3_method_1_code_31 : decode prog_3_method_1_code 31 = .ok (.putfield 23, 3) := by decide +kernel
theorem d_prog_3_method_1_code_34 : decode prog_3_method_1_code 34 = .ok (.aload_n 0, 1) := by decide +kernel
theorem d_prog_3_method_1_code_35 : decode prog_3_method_1_code 35 = .ok (.iconst 2, 1) := by decide +kernel
theorem d_prog_3_method_1_code_36 : decode prog_3_method_1_code 36 = .ok (.iload_n 3, 1) := by decide +kernel
theorem d_prog_3_method_1_code_37 : decode prog_3_method_1_code 37 = .ok (.imul, 1) := by decide +kernel
theorem d_prog_3_method_1_code_38 : decode prog_3_method_1_code 38 = .ok (.newarray .int, 2) := by decide +kernel
theorem d_prog_3_method_1_code_40 : decode prog_3_method_1_code 40 = .ok (.putfield 27, 3) := by decide +kernel
theorem d_prog_3_method_1_code_43 : decode prog_3_method_1_code 43 = .ok (.return_, 1) := by decide +kernel
theorem d_prog_3_method_5_code_0 : decode prog_3_method_5_code 0 = .ok (.dload_n 1, 1) := by decide +kernel
theorem d_prog_3_method_5_code_1 : decode prog_3_method_5_code 1 = .ok (.ldc2_w 70, 3) := by decide +kernel
theorem d_prog_3_method_5_code_4 : decode prog_3_method_5_code 4 = .ok (.aload_n 0, 1) := by decide +kernel
theorem d_prog_3_method_5_code_5 : decode prog_3_method_5_code 5 = .ok (.getfield 7, 3) := by decide +kernel
theorem d_prog_3_method_5_code_8 : decode prog_3_method_5_code 8 = .ok (.i2d, 1) := by decide +kernel
theorem d_prog_3_method_5_code_9 : decode prog_3_method_5_code 9 = .ok (.dmul, 1) := by decide +kernel
theorem d_prog_3_method_5_code_10 : decode prog_3_method_5_code 10 = .ok (.iload_n 3, 1) := by decide +kernel
theorem d_prog_3_method_5_code_11 : decode prog_3_method_5_code 11 = .ok (.iconst 3, 1) := by decide +kernel
theorem d_prog_3_method_5_code_12 : decode prog_3_method_5_code 12 = .ok (.iadd, 1) := by decide +kernel
theorem d_prog_3_method_5_code_13 : decode prog_3_method_5_code 13 = .ok (.i2d, 1) := by decide +kernel
theorem d_prog_3_method_5_code_14 : decode prog_3_method_5_code 14 = .ok (.dmul, 1) := by decide +kernel
theorem d_prog_3_method_5_code_15 : decode prog_3_method_5_code 15 = .ok (.dmul, 1) := by decide +kernel
theorem d_prog_3_method_5_code_16 : decode prog_3_method_5_code 16 = .ok (.ldc2_w 72, 3) := by decide +kernel
theorem d_prog_3_method_5_code_19 : decode prog_3_method_5_code 19 = .ok (.dmul, 1) := by decide +kernel
theorem d_prog_3_method_5_code_20 : decode prog_3_method_5_code 20 = .ok (.ldc2_w 74, 3) := by decide +kernel
theorem d_prog_3_method_5_code_23 : decode prog_3_method_5_code 23 = .ok (.dadd, 1) := by decide +kernel
theorem d_prog_3_method_5_code_24 : decode prog_3_method_5_code 24 = .ok (.dreturn, 1) := by decide +kernel
theorem pd_0 : parseMethodDescriptor "(II)I" = some ⟨[.int, .int], some .int⟩ := by decide +kernel
theorem pd_1 : parseMethodDescriptor "(II)V" = some ⟨[.int, .int], none⟩ := by decide +kernel
theorem pd_2 : parseMethodDescriptor "(DI)D" = some ⟨[.double, .int], some .double⟩ := by decide +kernel
theorem ef_3 (m : MethodId) (x0 : Int32) (x1 : Int32) : entryFrame m #[(.int x0), (.int x1)] 2 = mkF m 0 #[.val (.int x0), .val (.int x1)] [] := by first | (simp [entryFrame, mkF, argsToLocals, Value.category]; done) | rfl
def Q3 (Z : State) (x1 : Int32) (x2 : Int32) (h0 : Heap) (n0 : Nat) (v : Option Value) (h : Heap) (L : List Loc) : Prop := v = some (.int x1) ∧ Fr n0 L ∧ h = h0
set_option maxRecDepth 65536 in
set_option maxHeartbeats 40000000 in
theorem rm3 (l : Launch) (Z : State) (a0 : Array Value) (hw : ∀ d ∈ tables_1, d.before a0 Z = true) (ws : List Jvm.Cond) (x1 : Int32) (x2 : Int32) (h0 : Heap) (n0 : Nat) (Z0 : n0 ≤ h0.size) (hlt : ¬ (x1 < x2)) :
    MetFree l (⟨"java/lang/Math", "max", "(II)I"⟩ : MethodName) (head1 (Jvm.Cond.code (⟨"java/lang/Math", "max", "(II)I"⟩ : MethodName) jdk_29_method_65_code 2 (some .int) :: ws) ({ frames := 0, cells := 0, slots := 0, locals := 0 } : Room)) (fun a U => a = #[(.int x1), (.int x2)] ∧ Z.Warmed39 U.vm ∧ U.heap = h0) (fun _ _ _ _ _ => True) (fun _ U o U' => ∃ v L, o = .returned v ∧ Q3 Z x1 x2 h0 n0 v U'.heap L ∧ FrameEnd U o U' L ({ frames := 0, cells := 0, slots := 0, locals := 0 } : Room).cells ({ frames := 0, cells := 0, slots := 0, locals := 0 } : Room).slots) := by
  refine MetFree.of_bodySF (Jvm.Free.JP.mathPlain rfl (by decide +kernel)) hisR ?_
  intro p e s m args below meth c s₁ Bd hml0 hP hK
  obtain ⟨rfl, hZ, hh⟩ := hP
  have hx := Bd.exec
  have hby := Bd.bytes
  have hml : c.maxLocals = 2 := hml0
  have hown : s.vm.findClass "java/lang/Math" = some m.cls := findClass_of_methodNamed Bd.named
  have hnm := (name_of_methodNamed Bd.named Bd.method).1
  have X0 : Stand p l e ({ frames := 0, cells := 0, slots := 0, locals := 0 } : Room) s m #[(.int x1), (.int x2)] below meth c s₁ [] 0 0 := Stand.of_body Bd
  have e0 : s₁.heap = h0 := by rw [← hh, Bd.state]; rfl
  have N0 := Fr.nil n0
  have pre0 : ∀ t, Steps p.tables e below (s₁.setTop (mkF m 0 #[.val (.int x1), .val (.int x2)] [])) t → Steps p.tables e below (s₁.setTop (entryFrame m #[(.int x1), (.int x2)] 2)) t := fun t k => castTop (ef_3 m x1 x2) k
  obtain ⟨fs, hr, hrun, hended, hW, hsame⟩ := X0.leave (v := some (.int x1)) (fun h => by rw [Bd.returns] at h; cases h)
  refine ⟨_, _, pre0 _ ?_, hrun, hended, _, _, rfl, ?_, ⟨_, rfl⟩, hW, hsame.mono (by decide) (by decide)⟩
  · show Steps p.tables e below (s₁.setTop (mkF m 0 #[.val (.int x1), .val (.int x2)] [])) _
    refine XS.iloadN X0.here hx rfl (hb hby d_jdk_29_method_65_code_0) rfl ?_
    show Steps p.tables e below (s₁.setTop (mkF m 1 #[.val (.int x1), .val (.int x2)] [(.int x1)])) _
    refine XS.iloadN X0.here hx rfl (hb hby d_jdk_29_method_65_code_1) rfl ?_
    show Steps p.tables e below (s₁.setTop (mkF m 2 #[.val (.int x1), .val (.int x2)] [(.int x2), (.int x1)])) _
    refine XS.icmpNo X0.here hx rfl (hb hby d_jdk_29_method_65_code_2) rfl (flt hlt).1 ?_
    show Steps p.tables e below (s₁.setTop (mkF m 5 #[.val (.int x1), .val (.int x2)] [])) _
    refine XS.iloadN X0.here hx rfl (hb hby d_jdk_29_method_65_code_5) rfl ?_
    show Steps p.tables e below (s₁.setTop (mkF m 6 #[.val (.int x1), .val (.int x2)] [(.int x1)])) _
    refine XS.goto X0.here hx rfl (pc0 := 6) (pc' := 10) rfl (hb hby d_jdk_29_method_65_code_6) (by decide) (by decide) ?_
    show Steps p.tables e below (s₁.setTop (mkF m 10 #[.val (.int x1), .val (.int x2)] [(.int x1)])) _
    exact retI X0 hx Bd.returns (hb hby d_jdk_29_method_65_code_10) hr
  · show Q3 Z x1 x2 h0 n0 _ s₁.heap _
    rw [e0]
    exact ⟨rfl, N0, rfl⟩
theorem ef_1 (m : MethodId) (x0 : Addr) (x1 : Int32) (x2 : Int32) : entryFrame m #[(.ref x0), (.int x1), (.int x2)] 4 = mkF m 0 #[.val (.ref x0), .val (.int x1), .val (.int x2), .unset] [] := by first | (simp [entryFrame, mkF, argsToLocals, Value.category]; done) | rfl
theorem pn_1 : plainName "com/example/frontgauge/frontgauge/BoxPartition" = true := by first | (simp [plainName, overriddenIn]; done) | decide +kernel
def Q1 (Z : State) (a1 : Addr) (m1 : Int32) (h0 : Heap) (n0 : Nat) (v : Option Value) (h : Heap) (L : List Loc) : Prop := v = none ∧ Fr n0 L ∧ Keep h0 h [a1] ∧ Exa Z h a1 "com/example/frontgauge/frontgauge/BoxPartition" ∧ Fld Z h a1 "com/example/frontgauge/frontgauge/BoxPartition" "m" "I" (.int m1)
set_option maxRecDepth 65536 in
set_option maxHeartbeats 40000000 in
theorem rm1 (l : Launch) (Z : State) (a0 : Array Value) (hw : ∀ d ∈ tables_1, d.before a0 Z = true) (ws : List Jvm.Cond) (a1 : Addr) (m1 : Int32) (h0 : Heap) (n0 : Nat) (Z0 : n0 ≤ h0.size) (F_m : Fld Z h0 a1 "com/example/frontgauge/frontgauge/BoxPartition" "m" "I" (.int (0 : Int32))) (F_values : Fld Z h0 a1 "com/example/frontgauge/frontgauge/BoxPartition" "values" "[D" (.null)) (F_ids : Fld Z h0 a1 "com/example/frontgauge/frontgauge/BoxPartition" "ids" "[I" (.null)) (F_rows : Fld Z h0 a1 "com/example/frontgauge/frontgauge/BoxPartition" "rows" "[I" (.null)) (E_a : Exa Z h0 a1 "com/example/frontgauge/frontgauge/BoxPartition") (g_a : n0 ≤ a1) (m0 : 2 ≤ m1.toInt) (m1' : m1.toInt ≤ 1025) :
    MetFree l (⟨"com/example/frontgauge/frontgauge/BoxPartition", "<init>", "(II)V"⟩ : MethodName) (head1 (Jvm.Cond.code (⟨"com/example/frontgauge/frontgauge/BoxPartition", "<init>", "(II)V"⟩ : MethodName) prog_3_method_1_code 4 none :: ws) ({ frames := 1, cells := 3, slots := 1028, locals := 20 } : Room)) (fun a U => a = #[(.ref a1), (.int m1), (.int (1 : Int32))] ∧ Z.Warmed39 U.vm ∧ U.heap = h0) (fun _ _ _ _ _ => True) (fun _ U o U' => ∃ v L, o = .returned v ∧ Q1 Z a1 m1 h0 n0 v U'.heap L ∧ FrameEnd U o U' L ({ frames := 1, cells := 3, slots := 1028, locals := 20 } : Room).cells ({ frames := 1, cells := 3, slots := 1028, locals := 20 } : Room).slots) := by
  refine MetFree.of_bodySF (plainFor_of_name pn_1) hisR ?_
  intro p e s m args below meth c s₁ Bd hml0 hP hK
  obtain ⟨rfl, hZ, hh⟩ := hP
  have hx := Bd.exec
  have hby := Bd.bytes
  have hml : c.maxLocals = 4 := hml0
  have hown : s.vm.findClass "com/example/frontgauge/frontgauge/BoxPartition" = some m.cls := findClass_of_methodNamed Bd.named
  have hnm := (name_of_methodNamed Bd.named Bd.method).1
  have X0 : Stand p l e ({ frames := 1, cells := 3, slots := 1028, locals := 20 } : Room) s m #[(.ref a1), (.int m1), (.int (1 : Int32))] below meth c s₁ [] 0 0 := Stand.of_body Bd
  have e0 : s₁.heap = h0 := by rw [← hh, Bd.state]; rfl
  have N0 := Fr.nil n0
  have pre0 : ∀ t, Steps p.tables e below (s₁.setTop (mkF m 0 #[.val (.ref a1), .val (.int m1), .val (.int (1 : Int32)), .unset] [])) t → Steps p.tables e below (s₁.setTop (entryFrame m #[(.ref a1), (.int m1), (.int (1 : Int32))] 4)) t := fun t k => castTop (ef_1 m a1 m1 (1 : Int32)) k
  obtain ⟨T1, X1, e1, st1⟩ := initO X0 hx hZ hown (hw _ (List.mem_of_getElem? (i := 7) rfl)) (hw _ (List.mem_of_getElem? (i := 8) rfl)) (hw _ (List.mem_of_getElem? (i := 9) rfl)) e0 (g := (mkF m 1 #[.val (.ref a1), .val (.int m1), .val (.int (1 : Int32)), .unset] [(.ref a1)])) rfl (by rw [hml]; rfl) rfl (hb hby d_prog_3_method_1_code_1) (by decide) (W := 0) (by show 2 * 0 + _ ≤ _; exact Nat.le_of_eq rfl) (by decide)
  obtain ⟨T2, h2, X2, e2, W2, st2⟩ := putF X1 hx hZ hown (host := "") (Or.inl (hw _ (List.mem_of_getElem? (i := 10) rfl))) Via.refl e1 F_m E_a (Or.inr ⟨(hw _ (List.mem_of_getElem? (i := 11) rfl)), rfl, hnm⟩) (hw _ (List.mem_of_getElem? (i := 2) rfl)) (ty := .int) (by decide) rfl rfl (g := (mkF m 6 #[.val (.ref a1), .val (.int m1), .val (.int (1 : Int32)), .unset] [(.int m1), (.ref a1)])) rfl rfl (hb hby d_prog_3_method_1_code_6)
  have N2 := Fr.snoc X2 N0 g_a
  have F1_m := F_m.same W2
  have F1_values := F_values.other W2 (Or.inr (slot_ne (Or.inl (hw _ (List.mem_of_getElem? (i := 18) rfl))) (Or.inr (hw _ (List.mem_of_getElem? (i := 11) rfl))) (by decide) (t := (.array .double)) (t' := .int) (by decide) (by decide)))
  have F1_ids := F_ids.other W2 (Or.inr (slot_ne (Or.inl (hw _ (List.mem_of_getElem? (i := 21) rfl))) (Or.inr (hw _ (List.mem_of_getElem? (i := 11) rfl))) (by decide) (t := (.array .int)) (t' := .int) (by decide) (by decide)))
  have F1_rows := F_rows.other W2 (Or.inr (slot_ne (Or.inl (hw _ (List.mem_of_getElem? (i := 23) rfl))) (Or.inr (hw _ (List.mem_of_getElem? (i := 11) rfl))) (by decide) (t := (.array .int)) (t' := .int) (by decide) (by decide)))
  have E1_a := E_a.wr W2
  have K1_a := (Keep.refl h0 [a1]).wr W2 (Or.inl (List.mem_of_getElem? (i := 0) rfl))
  have Zm : n0 ≤ h2.size := Nat.le_trans Z0 K1_a.1
  obtain ⟨_, _, ⟨T3, L3, k3, n3⟩, -, X3, ⟨Lc3, hQ3, l3, y3, z3⟩, st3⟩ := Jvm.LawKit.callS X2 hx (y := (⟨"java/lang/Math", "max", "(II)I"⟩ : MethodName)) hown (mvT hZ (hw _ (List.mem_of_getElem? (i := 12) rfl))) (mvT hZ (hw _ (List.mem_of_getElem? (i := 13) rfl))) (mvT hZ (hw _ (List.mem_of_getElem? (i := 14) rfl))) (mvT hZ (hw _ (List.mem_of_getElem? (i := 15) rfl))) (by decide) (backOf (W := 0) (rm3 l Z a0 hw [] (1 : Int32) (1 : Int32) h2 n0 Zm (by decide)) hZ (hw _ (List.mem_of_getElem? (i := 15) rfl)) (hw _ (List.mem_of_getElem? (i := 14) rfl)) (by decide) (by decide)) (g := (mkF m 11 #[.val (.ref a1), .val (.int m1), .val (.int (1 : Int32)), .unset] [(.int (1 : Int32)), (.int (1 : Int32))])) rfl (by rw [hml]; rfl) (argsL := [(.int (1 : Int32)), (.int (1 : Int32))]) (rest := []) (lenOf pd_0 rfl) rfl (by show 2 * 0 + _ ≤ _; exact Nat.le_of_eq rfl) (hb hby d_prog_3_method_1_code_11) (fun _ _ => ⟨rfl, e2, (by decide : 0 + 0 ≤ _), (by decide : 0 + 0 ≤ _)⟩)
  dsimp only [Pt.U, Pt.locs, Pt.cells, Pt.slots] at X3 l3 y3 z3 st3 hQ3
  subst l3 y3 z3
  obtain ⟨rfl, N3q, ehm⟩ := hQ3
  have N3 := Fr.app N2 N3q
  have F2_m : Fld Z T3.heap a1 "com/example/frontgauge/frontgauge/BoxPartition" "m" "I" (.int m1) := by rw [ehm]; exact F1_m
  have F2_values : Fld Z T3.heap a1 "com/example/frontgauge/frontgauge/BoxPartition" "values" "[D" (.null) := by rw [ehm]; exact F1_values
  have F2_ids : Fld Z T3.heap a1 "com/example/frontgauge/frontgauge/BoxPartition" "ids" "[I" (.null) := by rw [ehm]; exact F1_ids
  have F2_rows : Fld Z T3.heap a1 "com/example/frontgauge/frontgauge/BoxPartition" "rows" "[I" (.null) := by rw [ehm]; exact F1_rows
  have E2_a : Exa Z T3.heap a1 "com/example/frontgauge/frontgauge/BoxPartition" := by rw [ehm]; exact E1_a
  have K2_a : Keep h0 T3.heap [a1] := by rw [ehm]; exact K1_a
  obtain ⟨T4, X4, e4, st4⟩ := getF X3 hx hZ hown (host := "") (Or.inl (hw _ (List.mem_of_getElem? (i := 10) rfl))) Via.refl rfl F2_m (g := (mkF m 18 #[.val (.ref a1), .val (.int m1), .val (.int (1 : Int32)), .val (.int (1 : Int32))] [(.ref a1), (.int (1 : Int32)), (.ref a1)])) rfl rfl (hb hby d_prog_3_method_1_code_18)
  obtain ⟨T5, h5, k5, X5, e5, E5, A5, st5⟩ := newP X4 hx hZ (hw _ (List.mem_of_getElem? (i := 16) rfl)) e4 (g := (mkF m 22 #[.val (.ref a1), .val (.int m1), .val (.int (1 : Int32)), .val (.int (1 : Int32))] [(.int m1), (.ref a1)])) rfl (hb hby d_prog_3_method_1_code_22) rfl (own_nneg m0) (cap := 1025) (own_cap m0 m1') (by decide) (by decide) (by decide)
  obtain ⟨b5, g5⟩ : ∃ z, z = T3.heap.size := ⟨_, rfl⟩
  rw [← g5] at A5 st5
  have F3_m := F2_m.ext E5
  have F3_values := F2_values.ext E5
  have F3_ids := F2_ids.ext E5
  have F3_rows := F2_rows.ext E5
  have E3_a := E2_a.ext E5
  have K3_a := K2_a.ext E5
  obtain ⟨T6, h6, X6, e6, W6, st6⟩ := putF X5 hx hZ hown (host := "") (Or.inl (hw _ (List.mem_of_getElem? (i := 17) rfl))) Via.refl e5 F3_values E3_a (Or.inl (hw _ (List.mem_of_getElem? (i := 18) rfl))) (hw _ (List.mem_of_getElem? (i := 2) rfl)) (ty := (.array .double)) (by decide) rfl rfl (g := (mkF m 24 #[.val (.ref a1), .val (.int m1), .val (.int (1 : Int32)), .val (.int (1 : Int32))] [(.ref b5), (.ref a1)])) rfl rfl (hb hby d_prog_3_method_1_code_24)
  have N6 := Fr.snoc X6 N3 g_a
  have F4_m := F3_m.other W6 (Or.inr (slot_ne (Or.inr (hw _ (List.mem_of_getElem? (i := 11) rfl))) (Or.inl (hw _ (List.mem_of_getElem? (i := 18) rfl))) (by decide) (t := .int) (t' := (.array .double)) (by decide) (by decide)))
  have F4_values := F3_values.same W6
  have F4_ids := F3_ids.other W6 (Or.inr (slot_ne (Or.inl (hw _ (List.mem_of_getElem? (i := 21) rfl))) (Or.inl (hw _ (List.mem_of_getElem? (i := 18) rfl))) (by decide) (t := (.array .int)) (t' := (.array .double)) (by decide) (by decide)))
  have F4_rows := F3_rows.other W6 (Or.inr (slot_ne (Or.inl (hw _ (List.mem_of_getElem? (i := 23) rfl))) (Or.inl (hw _ (List.mem_of_getElem? (i := 18) rfl))) (by decide) (t := (.array .int)) (t' := (.array .double)) (by decide) (by decide)))
  have E4_a := E3_a.wr W6
  have K4_a := K3_a.wr W6 (Or.inl (List.mem_of_getElem? (i := 0) rfl))
  obtain ⟨T7, h7, k7, X7, e7, E7, A7, st7⟩ := newP X6 hx hZ (hw _ (List.mem_of_getElem? (i := 19) rfl)) e6 (g := (mkF m 29 #[.val (.ref a1), .val (.int m1), .val (.int (1 : Int32)), .val (.int (1 : Int32))] [(.int (1 : Int32)), (.ref a1)])) rfl (hb hby d_prog_3_method_1_code_29) rfl (by decide) (cap := 1) (by decide) (by decide) (by decide) (by decide)
  obtain ⟨b7, g7⟩ : ∃ z, z = h6.size := ⟨_, rfl⟩
  rw [← g7] at A7 st7
  have F5_m := F4_m.ext E7
  have F5_values := F4_values.ext E7
  have F5_ids := F4_ids.ext E7
  have F5_rows := F4_rows.ext E7
  have E5_a := E4_a.ext E7
  have K5_a := K4_a.ext E7
  obtain ⟨T8, h8, X8, e8, W8, st8⟩ := putF X7 hx hZ hown (host := "") (Or.inl (hw _ (List.mem_of_getElem? (i := 20) rfl))) Via.refl e7 F5_ids E5_a (Or.inl (hw _ (List.mem_of_getElem? (i := 21) rfl))) (hw _ (List.mem_of_getElem? (i := 2) rfl)) (ty := (.array .int)) (by decide) rfl rfl (g := (mkF m 31 #[.val (.ref a1), .val (.int m1), .val (.int (1 : Int32)), .val (.int (1 : Int32))] [(.ref b7), (.ref a1)])) rfl rfl (hb hby d_prog_3_method_1_code_31)
  have N8 := Fr.snoc X8 N6 g_a
  have F6_m := F5_m.other W8 (Or.inr (slot_ne (Or.inr (hw _ (List.mem_of_getElem? (i := 11) rfl))) (Or.inl (hw _ (List.mem_of_getElem? (i := 21) rfl))) (by decide) (t := .int) (t' := (.array .int)) (by decide) (by decide)))
  have F6_values := F5_values.other W8 (Or.inr (slot_ne (Or.inl (hw _ (List.mem_of_getElem? (i := 18) rfl))) (Or.inl (hw _ (List.mem_of_getElem? (i := 21) rfl))) (by decide) (t := (.array .double)) (t' := (.array .int)) (by decide) (by decide)))
  have F6_ids := F5_ids.same W8
  have F6_rows := F5_rows.other W8 (Or.inr (slot_ne (Or.inl (hw _ (List.mem_of_getElem? (i := 23) rfl))) (Or.inl (hw _ (List.mem_of_getElem? (i := 21) rfl))) (by decide) (t := (.array .int)) (t' := (.array .int)) (by decide) (by decide)))
  have E6_a := E5_a.wr W8
  have K6_a := K5_a.wr W8 (Or.inl (List.mem_of_getElem? (i := 0) rfl))
  obtain ⟨T9, h9, k9, X9, e9, E9, A9, st9⟩ := newP X8 hx hZ (hw _ (List.mem_of_getElem? (i := 19) rfl)) e8 (g := (mkF m 38 #[.val (.ref a1), .val (.int m1), .val (.int (1 : Int32)), .val (.int (1 : Int32))] [(.int ((2 : Int32) * (1 : Int32))), (.ref a1)])) rfl (hb hby d_prog_3_method_1_code_38) rfl (by decide) (cap := 2) (by decide) (by decide) (by decide) (by decide)
  obtain ⟨b9, g9⟩ : ∃ z, z = h8.size := ⟨_, rfl⟩
  rw [← g9] at A9 st9
  have F7_m := F6_m.ext E9
  have F7_values := F6_values.ext E9
  have F7_ids := F6_ids.ext E9
  have F7_rows := F6_rows.ext E9
  have E7_a := E6_a.ext E9
  have K7_a := K6_a.ext E9
  obtain ⟨T10, h10, X10, e10, W10, st10⟩ := putF X9 hx hZ hown (host := "") (Or.inl (hw _ (List.mem_of_getElem? (i := 22) rfl))) Via.refl e9 F7_rows E7_a (Or.inl (hw _ (List.mem_of_getElem? (i := 23) rfl))) (hw _ (List.mem_of_getElem? (i := 2) rfl)) (ty := (.array .int)) (by decide) rfl rfl (g := (mkF m 40 #[.val (.ref a1), .val (.int m1), .val (.int (1 : Int32)), .val (.int (1 : Int32))] [(.ref b9), (.ref a1)])) rfl rfl (hb hby d_prog_3_method_1_code_40)
  have N10 := Fr.snoc X10 N8 g_a
  have F8_m := F7_m.other W10 (Or.inr (slot_ne (Or.inr (hw _ (List.mem_of_getElem? (i := 11) rfl))) (Or.inl (hw _ (List.mem_of_getElem? (i := 23) rfl))) (by decide) (t := .int) (t' := (.array .int)) (by decide) (by decide)))
  have F8_values := F7_values.other W10 (Or.inr (slot_ne (Or.inl (hw _ (List.mem_of_getElem? (i := 18) rfl))) (Or.inl (hw _ (List.mem_of_getElem? (i := 23) rfl))) (by decide) (t := (.array .double)) (t' := (.array .int)) (by decide) (by decide)))
  have F8_ids := F7_ids.other W10 (Or.inr (slot_ne (Or.inl (hw _ (List.mem_of_getElem? (i := 21) rfl))) (Or.inl (hw _ (List.mem_of_getElem? (i := 23) rfl))) (by decide) (t := (.array .int)) (t' := (.array .int)) (by decide) (by decide)))
  have F8_rows := F7_rows.same W10
  have E8_a := E7_a.wr W10
  have K8_a := K7_a.wr W10 (Or.inl (List.mem_of_getElem? (i := 0) rfl))
  obtain ⟨fs, hr, hrun, hended, hW, hsame⟩ := X10.leave (v := none) (fun _ => rfl)
  refine ⟨_, _, pre0 _ ?_, hrun, hended, _, _, rfl, ?_, ⟨_, rfl⟩, hW, hsame.mono (by decide) (by decide)⟩
  · show Steps p.tables e below (s₁.setTop (mkF m 0 #[.val (.ref a1), .val (.int m1), .val (.int (1 : Int32)), .unset] [])) _
    refine XS.aloadN X0.here hx rfl (hb hby d_prog_3_method_1_code_0) rfl rfl ?_
    show Steps p.tables e below (s₁.setTop (mkF m 1 #[.val (.ref a1), .val (.int m1), .val (.int (1 : Int32)), .unset] [(.ref a1)])) _
    refine st1 _ ?_
    show Steps p.tables e below (T1.setTop (mkF m 4 #[.val (.ref a1), .val (.int m1), .val (.int (1 : Int32)), .unset] [])) _
    refine XS.aloadN X1.here hx rfl (hb hby d_prog_3_method_1_code_4) rfl rfl ?_
    show Steps p.tables e below (T1.setTop (mkF m 5 #[.val (.ref a1), .val (.int m1), .val (.int (1 : Int32)), .unset] [(.ref a1)])) _
    refine XS.iloadN X1.here hx rfl (hb hby d_prog_3_method_1_code_5) rfl ?_
    show Steps p.tables e below (T1.setTop (mkF m 6 #[.val (.ref a1), .val (.int m1), .val (.int (1 : Int32)), .unset] [(.int m1), (.ref a1)])) _
    refine st2 _ ?_
    show Steps p.tables e below (T2.setTop (mkF m 9 #[.val (.ref a1), .val (.int m1), .val (.int (1 : Int32)), .unset] [])) _
    refine XS.iloadN X2.here hx rfl (hb hby d_prog_3_method_1_code_9) rfl ?_
    show Steps p.tables e below (T2.setTop (mkF m 10 #[.val (.ref a1), .val (.int m1), .val (.int (1 : Int32)), .unset] [(.int (1 : Int32))])) _
    refine XS.iconst X2.here hx rfl (hb hby d_prog_3_method_1_code_10) ?_
    show Steps p.tables e below (T2.setTop (mkF m 11 #[.val (.ref a1), .val (.int m1), .val (.int (1 : Int32)), .unset] [(.int (1 : Int32)), (.int (1 : Int32))])) _
    refine st3 _ ?_
    show Steps p.tables e below (T3.setTop (mkF m 14 #[.val (.ref a1), .val (.int m1), .val (.int (1 : Int32)), .unset] [(.int (1 : Int32))])) _
    refine XS.istoreN X3.here hx rfl (hb hby d_prog_3_method_1_code_14) rfl (l' := #[.val (.ref a1), .val (.int m1), .val (.int (1 : Int32)), .val (.int (1 : Int32))]) rfl ?_
    show Steps p.tables e below (T3.setTop (mkF m 15 #[.val (.ref a1), .val (.int m1), .val (.int (1 : Int32)), .val (.int (1 : Int32))] [])) _
    refine XS.aloadN X3.here hx rfl (hb hby d_prog_3_method_1_code_15) rfl rfl ?_
    show Steps p.tables e below (T3.setTop (mkF m 16 #[.val (.ref a1), .val (.int m1), .val (.int (1 : Int32)), .val (.int (1 : Int32))] [(.ref a1)])) _
    refine XS.iloadN X3.here hx rfl (hb hby d_prog_3_method_1_code_16) rfl ?_
    show Steps p.tables e below (T3.setTop (mkF m 17 #[.val (.ref a1), .val (.int m1), .val (.int (1 : Int32)), .val (.int (1 : Int32))] [(.int (1 : Int32)), (.ref a1)])) _
    refine XS.aloadN X3.here hx rfl (hb hby d_prog_3_method_1_code_17) rfl rfl ?_
    show Steps p.tables e below (T3.setTop (mkF m 18 #[.val (.ref a1), .val (.int m1), .val (.int (1 : Int32)), .val (.int (1 : Int32))] [(.ref a1), (.int (1 : Int32)), (.ref a1)])) _
    refine st4 _ ?_
    show Steps p.tables e below (T4.setTop (mkF m 21 #[.val (.ref a1), .val (.int m1), .val (.int (1 : Int32)), .val (.int (1 : Int32))] [(.int m1), (.int (1 : Int32)), (.ref a1)])) _
    refine XS.imul X4.here hx rfl (hb hby d_prog_3_method_1_code_21) rfl ?_
    rw [(own_one_mul m1 : ((1 : Int32) * m1) = m1)]
    show Steps p.tables e below (T4.setTop (mkF m 22 #[.val (.ref a1), .val (.int m1), .val (.int (1 : Int32)), .val (.int (1 : Int32))] [(.int m1), (.ref a1)])) _
    refine st5 _ ?_
    show Steps p.tables e below (T5.setTop (mkF m 24 #[.val (.ref a1), .val (.int m1), .val (.int (1 : Int32)), .val (.int (1 : Int32))] [(.ref b5), (.ref a1)])) _
    refine st6 _ ?_
    show Steps p.tables e below (T6.setTop (mkF m 27 #[.val (.ref a1), .val (.int m1), .val (.int (1 : Int32)), .val (.int (1 : Int32))] [])) _
    refine XS.aloadN X6.here hx rfl (hb hby d_prog_3_method_1_code_27) rfl rfl ?_
    show Steps p.tables e below (T6.setTop (mkF m 28 #[.val (.ref a1), .val (.int m1), .val (.int (1 : Int32)), .val (.int (1 : Int32))] [(.ref a1)])) _
    refine XS.iloadN X6.here hx rfl (hb hby d_prog_3_method_1_code_28) rfl ?_
    show Steps p.tables e below (T6.setTop (mkF m 29 #[.val (.ref a1), .val (.int m1), .val (.int (1 : Int32)), .val (.int (1 : Int32))] [(.int (1 : Int32)), (.ref a1)])) _
    refine st7 _ ?_
    show Steps p.tables e below (T7.setTop (mkF m 31 #[.val (.ref a1), .val (.int m1), .val (.int (1 : Int32)), .val (.int (1 : Int32))] [(.ref b7), (.ref a1)])) _
    refine st8 _ ?_
    show Steps p.tables e below (T8.setTop (mkF m 34 #[.val (.ref a1), .val (.int m1), .val (.int (1 : Int32)), .val (.int (1 : Int32))] [])) _
    refine XS.aloadN X8.here hx rfl (hb hby d_prog_3_method_1_code_34) rfl rfl ?_
    show Steps p.tables e below (T8.setTop (mkF m 35 #[.val (.ref a1), .val (.int m1), .val (.int (1 : Int32)), .val (.int (1 : Int32))] [(.ref a1)])) _
    refine XS.iconst X8.here hx rfl (hb hby d_prog_3_method_1_code_35) ?_
    show Steps p.tables e below (T8.setTop (mkF m 36 #[.val (.ref a1), .val (.int m1), .val (.int (1 : Int32)), .val (.int (1 : Int32))] [(.int (2 : Int32)), (.ref a1)])) _
    refine XS.iloadN X8.here hx rfl (hb hby d_prog_3_method_1_code_36) rfl ?_
    show Steps p.tables e below (T8.setTop (mkF m 37 #[.val (.ref a1), .val (.int m1), .val (.int (1 : Int32)), .val (.int (1 : Int32))] [(.int (1 : Int32)), (.int (2 : Int32)), (.ref a1)])) _
    refine XS.imul X8.here hx rfl (hb hby d_prog_3_method_1_code_37) rfl ?_
    show Steps p.tables e below (T8.setTop (mkF m 38 #[.val (.ref a1), .val (.int m1), .val (.int (1 : Int32)), .val (.int (1 : Int32))] [(.int ((2 : Int32) * (1 : Int32))), (.ref a1)])) _
    refine st9 _ ?_
    show Steps p.tables e below (T9.setTop (mkF m 40 #[.val (.ref a1), .val (.int m1), .val (.int (1 : Int32)), .val (.int (1 : Int32))] [(.ref b9), (.ref a1)])) _
    refine st10 _ ?_
    show Steps p.tables e below (T10.setTop (mkF m 43 #[.val (.ref a1), .val (.int m1), .val (.int (1 : Int32)), .val (.int (1 : Int32))] [])) _
    exact X10.returnOut hx Bd.returns (hb hby d_prog_3_method_1_code_43) hr
  · show Q1 Z a1 m1 h0 n0 _ T10.heap _
    rw [e10]
    exact ⟨rfl, N10, K8_a, E8_a, F8_m⟩
theorem ef_2 (m : MethodId) (x0 : Addr) (x1 : UInt64) (x2 : Int32) : entryFrame m #[(.ref x0), (.double x1), (.int x2)] 4 = mkF m 0 #[.val (.ref x0), .val (.double x1), .second, .val (.int x2)] [] := by first | (simp [entryFrame, mkF, argsToLocals, Value.category]; done) | rfl
theorem pn_2 : plainName "com/example/frontgauge/frontgauge/BoxPartition" = true := by first | (simp [plainName, overriddenIn]; done) | decide +kernel
def Q2 (Z : State) (a1 : Addr) (v1 : Int32) (n1 : Int32) (m1 : Int32) (h0 : Heap) (n0 : Nat) (v : Option Value) (h : Heap) (L : List Loc) : Prop := v = some (.double (own_t5 v1 n1 m1)) ∧ Fr n0 L ∧ h = h0
set_option maxRecDepth 65536 in
set_option maxHeartbeats 40000000 in
theorem rm2 (l : Launch) (Z : State) (a0 : Array Value) (hw : ∀ d ∈ tables_1, d.before a0 Z = true) (ws : List Jvm.Cond) (a1 : Addr) (v1 : Int32) (n1 : Int32) (m1 : Int32) (h0 : Heap) (n0 : Nat) (Z0 : n0 ≤ h0.size) (F_m : Fld Z h0 a1 "com/example/frontgauge/frontgauge/BoxPartition" "m" "I" (.int m1)) (T1 : Jvm.FP.Core.DFin (own_t1 m1)) (T2 : Jvm.FP.Core.DFin (own_t2 n1 m1)) (T3 : Jvm.FP.Core.DFin (own_t3 v1 n1 m1)) (T4 : Jvm.FP.Core.DFin (own_t4 v1 n1 m1)) (T5 : Jvm.FP.Core.DFin (own_t5 v1 n1 m1)) :
    MetFree l (⟨"com/example/frontgauge/frontgauge/BoxPartition", "exclusiveError", "(DI)D"⟩ : MethodName) (head1 (Jvm.Cond.code (⟨"com/example/frontgauge/frontgauge/BoxPartition", "exclusiveError", "(DI)D"⟩ : MethodName) prog_3_method_5_code 4 (some .double) :: ws) ({ frames := 0, cells := 0, slots := 0, locals := 0 } : Room)) (fun a U => a = #[(.ref a1), (.double (FP.i2d v1)), (.int n1)] ∧ Z.Warmed39 U.vm ∧ U.heap = h0) (fun _ _ _ _ _ => True) (fun _ U o U' => ∃ v L, o = .returned v ∧ Q2 Z a1 v1 n1 m1 h0 n0 v U'.heap L ∧ FrameEnd U o U' L ({ frames := 0, cells := 0, slots := 0, locals := 0 } : Room).cells ({ frames := 0, cells := 0, slots := 0, locals := 0 } : Room).slots) := by
  refine MetFree.of_bodySF (plainFor_of_name pn_2) hisR ?_
  intro p e s m args below meth c s₁ Bd hml0 hP hK
  obtain ⟨rfl, hZ, hh⟩ := hP
  have hx := Bd.exec
  have hby := Bd.bytes
  have hml : c.maxLocals = 4 := hml0
  have hown : s.vm.findClass "com/example/frontgauge/frontgauge/BoxPartition" = some m.cls := findClass_of_methodNamed Bd.named
  have hnm := (name_of_methodNamed Bd.named Bd.method).1
  have X0 : Stand p l e ({ frames := 0, cells := 0, slots := 0, locals := 0 } : Room) s m #[(.ref a1), (.double (FP.i2d v1)), (.int n1)] below meth c s₁ [] 0 0 := Stand.of_body Bd
  have e0 : s₁.heap = h0 := by rw [← hh, Bd.state]; rfl
  have N0 := Fr.nil n0
  have pre0 : ∀ t, Steps p.tables e below (s₁.setTop (mkF m 0 #[.val (.ref a1), .val (.double (FP.i2d v1)), .second, .val (.int n1)] [])) t → Steps p.tables e below (s₁.setTop (entryFrame m #[(.ref a1), (.double (FP.i2d v1)), (.int n1)] 4)) t := fun t k => castTop (ef_2 m a1 (FP.i2d v1) n1) k
  obtain ⟨T11, X11, e11, st11⟩ := getF X0 hx hZ hown (host := "") (Or.inl (hw _ (List.mem_of_getElem? (i := 10) rfl))) Via.refl e0 F_m (g := (mkF m 5 #[.val (.ref a1), .val (.double (FP.i2d v1)), .second, .val (.int n1)] [(.ref a1), (.double (4611686018427387904 : UInt64)), (.double (FP.i2d v1))])) rfl rfl (hb hby d_prog_3_method_5_code_5)
  obtain ⟨fs, hr, hrun, hended, hW, hsame⟩ := X11.leave (v := some (.double (own_t5 v1 n1 m1))) (fun h => by rw [Bd.returns] at h; cases h)
  refine ⟨_, _, pre0 _ ?_, hrun, hended, _, _, rfl, ?_, ⟨_, rfl⟩, hW, hsame.mono (by decide) (by decide)⟩
  · show Steps p.tables e below (s₁.setTop (mkF m 0 #[.val (.ref a1), .val (.double (FP.i2d v1)), .second, .val (.int n1)] [])) _
    refine XS.dloadN X0.here hx rfl (hb hby d_prog_3_method_5_code_0) rfl ?_
    show Steps p.tables e below (s₁.setTop (mkF m 1 #[.val (.ref a1), .val (.double (FP.i2d v1)), .second, .val (.int n1)] [(.double (FP.i2d v1))])) _
    refine X0.ldc2DoubleC hx hown (mvT hZ (hw _ (List.mem_of_getElem? (i := 29) rfl))) (g := (mkF m 1 #[.val (.ref a1), .val (.double (FP.i2d v1)), .second, .val (.int n1)] [(.double (FP.i2d v1))])) rfl (hb hby d_prog_3_method_5_code_1) _ ?_
    show Steps p.tables e below (s₁.setTop (mkF m 4 #[.val (.ref a1), .val (.double (FP.i2d v1)), .second, .val (.int n1)] [(.double (4611686018427387904 : UInt64)), (.double (FP.i2d v1))])) _
    refine XS.aloadN X0.here hx rfl (hb hby d_prog_3_method_5_code_4) rfl rfl ?_
    show Steps p.tables e below (s₁.setTop (mkF m 5 #[.val (.ref a1), .val (.double (FP.i2d v1)), .second, .val (.int n1)] [(.ref a1), (.double (4611686018427387904 : UInt64)), (.double (FP.i2d v1))])) _
    refine st11 _ ?_
    show Steps p.tables e below (T11.setTop (mkF m 8 #[.val (.ref a1), .val (.double (FP.i2d v1)), .second, .val (.int n1)] [(.int m1), (.double (4611686018427387904 : UInt64)), (.double (FP.i2d v1))])) _
    refine XS.i2dS X11.here hx rfl (v := (FP.i2d m1)) (hb hby d_prog_3_method_5_code_8) rfl rfl ?_
    show Steps p.tables e below (T11.setTop (mkF m 9 #[.val (.ref a1), .val (.double (FP.i2d v1)), .second, .val (.int n1)] [(.double (FP.i2d m1)), (.double (4611686018427387904 : UInt64)), (.double (FP.i2d v1))])) _
    refine XS.dmulS X11.here hx rfl (v := (own_t1 m1)) (hb hby d_prog_3_method_5_code_9) rfl (own_nn T1) rfl ?_
    show Steps p.tables e below (T11.setTop (mkF m 10 #[.val (.ref a1), .val (.double (FP.i2d v1)), .second, .val (.int n1)] [(.double (own_t1 m1)), (.double (FP.i2d v1))])) _
    refine XS.iloadN X11.here hx rfl (hb hby d_prog_3_method_5_code_10) rfl ?_
    show Steps p.tables e below (T11.setTop (mkF m 11 #[.val (.ref a1), .val (.double (FP.i2d v1)), .second, .val (.int n1)] [(.int n1), (.double (own_t1 m1)), (.double (FP.i2d v1))])) _
    refine XS.iconst X11.here hx rfl (hb hby d_prog_3_method_5_code_11) ?_
    show Steps p.tables e below (T11.setTop (mkF m 12 #[.val (.ref a1), .val (.double (FP.i2d v1)), .second, .val (.int n1)] [(.int (3 : Int32)), (.int n1), (.double (own_t1 m1)), (.double (FP.i2d v1))])) _
    refine XS.iadd X11.here hx rfl (hb hby d_prog_3_method_5_code_12) rfl ?_
    show Steps p.tables e below (T11.setTop (mkF m 13 #[.val (.ref a1), .val (.double (FP.i2d v1)), .second, .val (.int n1)] [(.int (n1 + (3 : Int32))), (.double (own_t1 m1)), (.double (FP.i2d v1))])) _
    refine XS.i2dS X11.here hx rfl (v := (FP.i2d (n1 + (3 : Int32)))) (hb hby d_prog_3_method_5_code_13) rfl rfl ?_
    show Steps p.tables e below (T11.setTop (mkF m 14 #[.val (.ref a1), .val (.double (FP.i2d v1)), .second, .val (.int n1)] [(.double (FP.i2d (n1 + (3 : Int32)))), (.double (own_t1 m1)), (.double (FP.i2d v1))])) _
    refine XS.dmulS X11.here hx rfl (v := (own_t2 n1 m1)) (hb hby d_prog_3_method_5_code_14) rfl (own_nn T2) rfl ?_
    show Steps p.tables e below (T11.setTop (mkF m 15 #[.val (.ref a1), .val (.double (FP.i2d v1)), .second, .val (.int n1)] [(.double (own_t2 n1 m1)), (.double (FP.i2d v1))])) _
    refine XS.dmulS X11.here hx rfl (v := (own_t3 v1 n1 m1)) (hb hby d_prog_3_method_5_code_15) rfl (own_nn T3) rfl ?_
    show Steps p.tables e below (T11.setTop (mkF m 16 #[.val (.ref a1), .val (.double (FP.i2d v1)), .second, .val (.int n1)] [(.double (own_t3 v1 n1 m1))])) _
    refine X11.ldc2DoubleC hx hown (mvT hZ (hw _ (List.mem_of_getElem? (i := 30) rfl))) (g := (mkF m 16 #[.val (.ref a1), .val (.double (FP.i2d v1)), .second, .val (.int n1)] [(.double (own_t3 v1 n1 m1))])) rfl (hb hby d_prog_3_method_5_code_16) _ ?_
    show Steps p.tables e below (T11.setTop (mkF m 19 #[.val (.ref a1), .val (.double (FP.i2d v1)), .second, .val (.int n1)] [(.double (4368491638549381120 : UInt64)), (.double (own_t3 v1 n1 m1))])) _
    refine XS.dmulS X11.here hx rfl (v := (own_t4 v1 n1 m1)) (hb hby d_prog_3_method_5_code_19) rfl (own_nn T4) rfl ?_
    show Steps p.tables e below (T11.setTop (mkF m 20 #[.val (.ref a1), .val (.double (FP.i2d v1)), .second, .val (.int n1)] [(.double (own_t4 v1 n1 m1))])) _
    refine X11.ldc2DoubleC hx hown (mvT hZ (hw _ (List.mem_of_getElem? (i := 31) rfl))) (g := (mkF m 20 #[.val (.ref a1), .val (.double (FP.i2d v1)), .second, .val (.int n1)] [(.double (own_t4 v1 n1 m1))])) rfl (hb hby d_prog_3_method_5_code_20) _ ?_
    show Steps p.tables e below (T11.setTop (mkF m 23 #[.val (.ref a1), .val (.double (FP.i2d v1)), .second, .val (.int n1)] [(.double (103582791429521408 : UInt64)), (.double (own_t4 v1 n1 m1))])) _
    refine XS.daddS X11.here hx rfl (v := (own_t5 v1 n1 m1)) (hb hby d_prog_3_method_5_code_23) rfl (own_nn T5) rfl ?_
    show Steps p.tables e below (T11.setTop (mkF m 24 #[.val (.ref a1), .val (.double (FP.i2d v1)), .second, .val (.int n1)] [(.double (own_t5 v1 n1 m1))])) _
    jvm_step X11.here [X11.here.top, hx, (hb hby d_prog_3_method_5_code_24), X11.method', Bd.returns, narrow]
    first | (intro acts; rw [hr _ acts rfl rfl rfl]) | rw [hr _ _ rfl rfl rfl]
    exact Steps.refl _
  · show Q2 Z a1 v1 n1 m1 h0 n0 _ T11.heap _
    rw [e11]
    exact ⟨rfl, N0, rfl⟩
theorem ef_0 (m : MethodId) (x0 : Int32) (x1 : Int32) (x2 : Int32) : entryFrame m #[(.int x0), (.int x1), (.int x2)] maxLocals = mkF m 0 #[.val (.int x0), .val (.int x1), .val (.int x2), .unset, .unset, .unset, .unset, .unset, .unset, .unset, .unset, .unset, .unset] [] := by first | (simp [entryFrame, mkF, argsToLocals, Value.category, maxLocals]; done) | rfl
theorem pn_0 : plainName "com/example/frontgauge/frontgauge/BoxPartitionExclusiveErrorPinLaw" = true := by first | (simp [plainName, overriddenIn]; done) | decide +kernel
def Q0 (Z : State) (p1 : Int32) (p2 : Int32) (p3 : Int32) (h0 : Heap) (n0 : Nat) (v : Option Value) (h : Heap) (L : List Loc) : Prop := v = some (.int 1) ∧ Fr n0 L
set_option maxRecDepth 65536 in
set_option maxHeartbeats 40000000 in
theorem rm0 (l : Launch) (Z : State) (a0 : Array Value) (hw : ∀ d ∈ tables_1, d.before a0 Z = true) (ws : List Jvm.Cond) (p1 : Int32) (p2 : Int32) (p3 : Int32) (h0 : Heap) (n0 : Nat) (Z0 : n0 ≤ h0.size) :
    MetFree l x (head1 (Jvm.Cond.code x code maxLocals ret :: ws) room_1) (fun a U => a = #[(.int p1), (.int p2), (.int p3)] ∧ Z.Warmed39 U.vm ∧ U.heap = h0) (fun _ _ _ _ _ => True) (fun _ U o U' => ∃ v L, o = .returned v ∧ Q0 Z p1 p2 p3 h0 n0 v U'.heap L ∧ FrameEnd U o U' L room_1.cells room_1.slots) := by
  refine MetFree.of_bodySF (plainFor_of_name pn_0) hisR ?_
  intro p e s m args below meth c s₁ Bd hml0 hP hK
  obtain ⟨rfl, hZ, hh⟩ := hP
  have hx := Bd.exec
  have hby := Bd.bytes
  have hml : c.maxLocals = 13 := hml0
  have hown : s.vm.findClass "com/example/frontgauge/frontgauge/BoxPartitionExclusiveErrorPinLaw" = some m.cls := findClass_of_methodNamed Bd.named
  have hnm := (name_of_methodNamed Bd.named Bd.method).1
  have X0 : Stand p l e room_1 s m #[(.int p1), (.int p2), (.int p3)] below meth c s₁ [] 0 0 := Stand.of_body Bd
  have e0 : s₁.heap = h0 := by rw [← hh, Bd.state]; rfl
  have N0 := Fr.nil n0
  have pre0 : ∀ t, Steps p.tables e below (s₁.setTop (mkF m 0 #[.val (.int p1), .val (.int p2), .val (.int p3), .unset, .unset, .unset, .unset, .unset, .unset, .unset, .unset, .unset, .unset] [])) t → Steps p.tables e below (s₁.setTop (entryFrame m #[(.int p1), (.int p2), (.int p3)] maxLocals)) t := fun t k => castTop (ef_0 m p1 p2 p3) k
  obtain ⟨v0, v1⟩ := own_mask p1
  obtain ⟨n0', n1⟩ := own_mask p2
  obtain ⟨m0, m1⟩ := own_mask2 p3
  obtain ⟨T1, T2, T3, T4, T6⟩ := own_facts v0 v1 n0' n1 m0 m1
  obtain ⟨T5, S0, S1⟩ := own_sum v0 v1 n0' n1 m0 m1
  obtain ⟨T12, h12, X12, e12, E12, A12, D12, -, st12⟩ := newO X0 hx hZ hown (hw _ (List.mem_of_getElem? (i := 1) rfl)) (hw _ (List.mem_of_getElem? (i := 2) rfl)) (hw _ (List.mem_of_getElem? (i := 3) rfl)) e0 (g := (mkF m 20 #[.val (.int p1), .val (.int p2), .val (.int p3), .val (.int (p1 &&& (1048575 : Int32))), .val (.int (p2 &&& (1048575 : Int32))), .val (.int ((2 : Int32) + (p3 &&& (1023 : Int32)))), .unset, .unset, .unset, .unset, .unset, .unset, .unset] [])) rfl (hb hby at_20) (by decide) (by decide)
  obtain ⟨b1, g12⟩ : ∃ z, z = h0.size := ⟨_, rfl⟩
  rw [← g12] at A12 D12 st12
  have F_m : Fld Z h12 b1 "com/example/frontgauge/frontgauge/BoxPartition" "m" "I" (.int (0 : Int32)) := D12 (Or.inr (hw _ (List.mem_of_getElem? (i := 11) rfl))) (ty := .int) (by decide)
  have F_values : Fld Z h12 b1 "com/example/frontgauge/frontgauge/BoxPartition" "values" "[D" (.null) := D12 (Or.inl (hw _ (List.mem_of_getElem? (i := 18) rfl))) (ty := (.array .double)) (by decide)
  have F_ids : Fld Z h12 b1 "com/example/frontgauge/frontgauge/BoxPartition" "ids" "[I" (.null) := D12 (Or.inl (hw _ (List.mem_of_getElem? (i := 21) rfl))) (ty := (.array .int)) (by decide)
  have F_rows : Fld Z h12 b1 "com/example/frontgauge/frontgauge/BoxPartition" "rows" "[I" (.null) := D12 (Or.inl (hw _ (List.mem_of_getElem? (i := 23) rfl))) (ty := (.array .int)) (by decide)
  have gb : n0 ≤ b1 := Nat.le_trans Z0 (Nat.le_of_eq g12.symm)
  have Zn : n0 ≤ h12.size := Nat.le_trans Z0 E12.1
  obtain ⟨_, _, ⟨T13, L13, k13, n13⟩, -, X13, ⟨Lc13, hQ13, l13, y13, z13⟩, st13⟩ := X12.specialBack hx (y := (⟨"com/example/frontgauge/frontgauge/BoxPartition", "<init>", "(II)V"⟩ : MethodName)) rfl hown (mvT hZ (hw _ (List.mem_of_getElem? (i := 4) rfl))) (mvT hZ (hw _ (List.mem_of_getElem? (i := 5) rfl))) (mvT hZ (hw _ (List.mem_of_getElem? (i := 6) rfl))) (by decide) (backOf (W := 1) (rm1 l Z a0 hw [] b1 ((2 : Int32) + (p3 &&& (1023 : Int32))) h12 n0 Zn F_m F_values F_ids F_rows A12 gb m0 m1) hZ (hw _ (List.mem_of_getElem? (i := 6) rfl)) (hw _ (List.mem_of_getElem? (i := 3) rfl)) (by decide) (by decide)) (g := (mkF m 27 #[.val (.int p1), .val (.int p2), .val (.int p3), .val (.int (p1 &&& (1048575 : Int32))), .val (.int (p2 &&& (1048575 : Int32))), .val (.int ((2 : Int32) + (p3 &&& (1023 : Int32)))), .unset, .unset, .unset, .unset, .unset, .unset, .unset] [(.int (1 : Int32)), (.int ((2 : Int32) + (p3 &&& (1023 : Int32)))), (.ref b1), (.ref b1)])) rfl (by rw [hml]; rfl) (Steps.refl _) (a := b1) (argsL := [(.int ((2 : Int32) + (p3 &&& (1023 : Int32)))), (.int (1 : Int32))]) (rest := [(.ref b1)]) (lenOf pd_1 rfl) rfl (by show 2 * 0 + _ ≤ _; exact Nat.le_of_eq rfl) (hb hby at_27) (fun _ _ => ⟨rfl, e12, (by decide : 1 + 3 ≤ _), (by decide : 5 + 1028 ≤ _)⟩)
  dsimp only [Pt.U, Pt.locs, Pt.cells, Pt.slots] at X13 l13 y13 z13 st13 hQ13
  subst l13 y13 z13
  obtain ⟨rfl, N13q, Kb, Eb, Fb⟩ := hQ13
  have N13 := Fr.app N0 N13q
  have Z1 : n0 ≤ T13.heap.size := Nat.le_trans Zn Kb.1
  obtain ⟨cq14, kq14, q14a, q14b, q14c⟩ := isOf hZ rfl Eb
  obtain ⟨_, _, ⟨T14, L14, k14, n14⟩, -, X14, ⟨Lc14, hQ14, l14, y14, z14⟩, st14⟩ := X13.virtualBack hx (y := (⟨"com/example/frontgauge/frontgauge/BoxPartition", "exclusiveError", "(DI)D"⟩ : MethodName)) (z := (⟨"com/example/frontgauge/frontgauge/BoxPartition", "exclusiveError", "(DI)D"⟩ : MethodName)) hown (mvT hZ (hw _ (List.mem_of_getElem? (i := 24) rfl))) (mvT hZ (hw _ (List.mem_of_getElem? (i := 25) rfl))) (notFace_of_selects (args := #[]) (mvT hZ (hw _ (List.mem_of_getElem? (i := 27) rfl)))) (mvT hZ (hw _ (List.mem_of_getElem? (i := 27) rfl))) (mvT hZ (hw _ (List.mem_of_getElem? (i := 26) rfl))) (by decide) (backOf (W := 0) (rm2 l Z a0 hw [] b1 (p1 &&& (1048575 : Int32)) (p2 &&& (1048575 : Int32)) ((2 : Int32) + (p3 &&& (1023 : Int32))) T13.heap n0 Z1 Fb T1 T2 T3 T4.1 T5) hZ (hw _ (List.mem_of_getElem? (i := 28) rfl)) (hw _ (List.mem_of_getElem? (i := 3) rfl)) (by decide) (by decide)) q14a q14c (g := (mkF m 38 #[.val (.int p1), .val (.int p2), .val (.int p3), .val (.int (p1 &&& (1048575 : Int32))), .val (.int (p2 &&& (1048575 : Int32))), .val (.int ((2 : Int32) + (p3 &&& (1023 : Int32)))), .val (.ref b1), .unset, .unset, .unset, .unset, .unset, .unset] [(.int (p2 &&& (1048575 : Int32))), (.double (FP.i2d (p1 &&& (1048575 : Int32)))), (.ref b1)])) rfl (by rw [hml]; rfl) (Steps.refl _) (argsL := [(.double (FP.i2d (p1 &&& (1048575 : Int32)))), (.int (p2 &&& (1048575 : Int32)))]) (rest := []) (lenOf pd_2 rfl) rfl (by show 2 * 0 + _ ≤ _; exact Nat.le_of_eq rfl) (hb hby at_38) (fun _ _ => ⟨rfl, rfl, (by decide : 4 + 0 ≤ _), (by decide : 1033 + 0 ≤ _)⟩)
  dsimp only [Pt.U, Pt.locs, Pt.cells, Pt.slots] at X14 l14 y14 z14 st14 hQ14
  subst l14 y14 z14
  obtain ⟨rfl, N14q, ehe⟩ := hQ14
  have N14 := Fr.app N13 N14q
  obtain ⟨fs, hr, hrun, hended, hW, hsame⟩ := X14.leave (v := some (.int (1 : Int32))) (fun h => by rw [Bd.returns] at h; cases h)
  refine ⟨_, _, pre0 _ ?_, hrun, hended, _, _, rfl, ?_, ⟨_, rfl⟩, hW, hsame.mono (by decide) (by decide)⟩
  · show Steps p.tables e below (s₁.setTop (mkF m 0 #[.val (.int p1), .val (.int p2), .val (.int p3), .unset, .unset, .unset, .unset, .unset, .unset, .unset, .unset, .unset, .unset] [])) _
    refine XS.iloadN X0.here hx rfl (hb hby at_0) rfl ?_
    show Steps p.tables e below (s₁.setTop (mkF m 1 #[.val (.int p1), .val (.int p2), .val (.int p3), .unset, .unset, .unset, .unset, .unset, .unset, .unset, .unset, .unset, .unset] [(.int p1)])) _
    refine X0.ldcI hx hown (mvT hZ (hw _ (List.mem_of_getElem? (i := 0) rfl))) (g := (mkF m 1 #[.val (.int p1), .val (.int p2), .val (.int p3), .unset, .unset, .unset, .unset, .unset, .unset, .unset, .unset, .unset, .unset] [(.int p1)])) rfl (hb hby at_1) ?_
    show Steps p.tables e below (s₁.setTop (mkF m 3 #[.val (.int p1), .val (.int p2), .val (.int p3), .unset, .unset, .unset, .unset, .unset, .unset, .unset, .unset, .unset, .unset] [(.int (1048575 : Int32)), (.int p1)])) _
    refine XS.iand X0.here hx rfl (hb hby at_3) rfl ?_
    show Steps p.tables e below (s₁.setTop (mkF m 4 #[.val (.int p1), .val (.int p2), .val (.int p3), .unset, .unset, .unset, .unset, .unset, .unset, .unset, .unset, .unset, .unset] [(.int (p1 &&& (1048575 : Int32)))])) _
    refine XS.istoreN X0.here hx rfl (hb hby at_4) rfl (l' := #[.val (.int p1), .val (.int p2), .val (.int p3), .val (.int (p1 &&& (1048575 : Int32))), .unset, .unset, .unset, .unset, .unset, .unset, .unset, .unset, .unset]) rfl ?_
    show Steps p.tables e below (s₁.setTop (mkF m 5 #[.val (.int p1), .val (.int p2), .val (.int p3), .val (.int (p1 &&& (1048575 : Int32))), .unset, .unset, .unset, .unset, .unset, .unset, .unset, .unset, .unset] [])) _
    refine XS.iloadN X0.here hx rfl (hb hby at_5) rfl ?_
    show Steps p.tables e below (s₁.setTop (mkF m 6 #[.val (.int p1), .val (.int p2), .val (.int p3), .val (.int (p1 &&& (1048575 : Int32))), .unset, .unset, .unset, .unset, .unset, .unset, .unset, .unset, .unset] [(.int p2)])) _
    refine X0.ldcI hx hown (mvT hZ (hw _ (List.mem_of_getElem? (i := 0) rfl))) (g := (mkF m 6 #[.val (.int p1), .val (.int p2), .val (.int p3), .val (.int (p1 &&& (1048575 : Int32))), .unset, .unset, .unset, .unset, .unset, .unset, .unset, .unset, .unset] [(.int p2)])) rfl (hb hby at_6) ?_
    show Steps p.tables e below (s₁.setTop (mkF m 8 #[.val (.int p1), .val (.int p2), .val (.int p3), .val (.int (p1 &&& (1048575 : Int32))), .unset, .unset, .unset, .unset, .unset, .unset, .unset, .unset, .unset] [(.int (1048575 : Int32)), (.int p2)])) _
    refine XS.iand X0.here hx rfl (hb hby at_8) rfl ?_
    show Steps p.tables e below (s₁.setTop (mkF m 9 #[.val (.int p1), .val (.int p2), .val (.int p3), .val (.int (p1 &&& (1048575 : Int32))), .unset, .unset, .unset, .unset, .unset, .unset, .unset, .unset, .unset] [(.int (p2 &&& (1048575 : Int32)))])) _
    refine XS.istore X0.here hx rfl (hb hby at_9) rfl (l' := #[.val (.int p1), .val (.int p2), .val (.int p3), .val (.int (p1 &&& (1048575 : Int32))), .val (.int (p2 &&& (1048575 : Int32))), .unset, .unset, .unset, .unset, .unset, .unset, .unset, .unset]) rfl ?_
    show Steps p.tables e below (s₁.setTop (mkF m 11 #[.val (.int p1), .val (.int p2), .val (.int p3), .val (.int (p1 &&& (1048575 : Int32))), .val (.int (p2 &&& (1048575 : Int32))), .unset, .unset, .unset, .unset, .unset, .unset, .unset, .unset] [])) _
    refine XS.iconst X0.here hx rfl (hb hby at_11) ?_
    show Steps p.tables e below (s₁.setTop (mkF m 12 #[.val (.int p1), .val (.int p2), .val (.int p3), .val (.int (p1 &&& (1048575 : Int32))), .val (.int (p2 &&& (1048575 : Int32))), .unset, .unset, .unset, .unset, .unset, .unset, .unset, .unset] [(.int (2 : Int32))])) _
    refine XS.iloadN X0.here hx rfl (hb hby at_12) rfl ?_
    show Steps p.tables e below (s₁.setTop (mkF m 13 #[.val (.int p1), .val (.int p2), .val (.int p3), .val (.int (p1 &&& (1048575 : Int32))), .val (.int (p2 &&& (1048575 : Int32))), .unset, .unset, .unset, .unset, .unset, .unset, .unset, .unset] [(.int p3), (.int (2 : Int32))])) _
    refine XS.sipush X0.here hx rfl (hb hby at_13) ?_
    show Steps p.tables e below (s₁.setTop (mkF m 16 #[.val (.int p1), .val (.int p2), .val (.int p3), .val (.int (p1 &&& (1048575 : Int32))), .val (.int (p2 &&& (1048575 : Int32))), .unset, .unset, .unset, .unset, .unset, .unset, .unset, .unset] [(.int (1023 : Int32)), (.int p3), (.int (2 : Int32))])) _
    refine XS.iand X0.here hx rfl (hb hby at_16) rfl ?_
    show Steps p.tables e below (s₁.setTop (mkF m 17 #[.val (.int p1), .val (.int p2), .val (.int p3), .val (.int (p1 &&& (1048575 : Int32))), .val (.int (p2 &&& (1048575 : Int32))), .unset, .unset, .unset, .unset, .unset, .unset, .unset, .unset] [(.int (p3 &&& (1023 : Int32))), (.int (2 : Int32))])) _
    refine XS.iadd X0.here hx rfl (hb hby at_17) rfl ?_
    show Steps p.tables e below (s₁.setTop (mkF m 18 #[.val (.int p1), .val (.int p2), .val (.int p3), .val (.int (p1 &&& (1048575 : Int32))), .val (.int (p2 &&& (1048575 : Int32))), .unset, .unset, .unset, .unset, .unset, .unset, .unset, .unset] [(.int ((2 : Int32) + (p3 &&& (1023 : Int32))))])) _
    refine XS.istore X0.here hx rfl (hb hby at_18) rfl (l' := #[.val (.int p1), .val (.int p2), .val (.int p3), .val (.int (p1 &&& (1048575 : Int32))), .val (.int (p2 &&& (1048575 : Int32))), .val (.int ((2 : Int32) + (p3 &&& (1023 : Int32)))), .unset, .unset, .unset, .unset, .unset, .unset, .unset]) rfl ?_
    show Steps p.tables e below (s₁.setTop (mkF m 20 #[.val (.int p1), .val (.int p2), .val (.int p3), .val (.int (p1 &&& (1048575 : Int32))), .val (.int (p2 &&& (1048575 : Int32))), .val (.int ((2 : Int32) + (p3 &&& (1023 : Int32)))), .unset, .unset, .unset, .unset, .unset, .unset, .unset] [])) _
    refine st12 _ ?_
    show Steps p.tables e below (T12.setTop (mkF m 23 #[.val (.int p1), .val (.int p2), .val (.int p3), .val (.int (p1 &&& (1048575 : Int32))), .val (.int (p2 &&& (1048575 : Int32))), .val (.int ((2 : Int32) + (p3 &&& (1023 : Int32)))), .unset, .unset, .unset, .unset, .unset, .unset, .unset] [(.ref b1)])) _
    refine XS.dup X12.here hx rfl (hb hby at_23) rfl rfl ?_
    show Steps p.tables e below (T12.setTop (mkF m 24 #[.val (.int p1), .val (.int p2), .val (.int p3), .val (.int (p1 &&& (1048575 : Int32))), .val (.int (p2 &&& (1048575 : Int32))), .val (.int ((2 : Int32) + (p3 &&& (1023 : Int32)))), .unset, .unset, .unset, .unset, .unset, .unset, .unset] [(.ref b1), (.ref b1)])) _
    refine XS.iload X12.here hx rfl (hb hby at_24) rfl ?_
    show Steps p.tables e below (T12.setTop (mkF m 26 #[.val (.int p1), .val (.int p2), .val (.int p3), .val (.int (p1 &&& (1048575 : Int32))), .val (.int (p2 &&& (1048575 : Int32))), .val (.int ((2 : Int32) + (p3 &&& (1023 : Int32)))), .unset, .unset, .unset, .unset, .unset, .unset, .unset] [(.int ((2 : Int32) + (p3 &&& (1023 : Int32)))), (.ref b1), (.ref b1)])) _
    refine XS.iconst X12.here hx rfl (hb hby at_26) ?_
    show Steps p.tables e below (T12.setTop (mkF m 27 #[.val (.int p1), .val (.int p2), .val (.int p3), .val (.int (p1 &&& (1048575 : Int32))), .val (.int (p2 &&& (1048575 : Int32))), .val (.int ((2 : Int32) + (p3 &&& (1023 : Int32)))), .unset, .unset, .unset, .unset, .unset, .unset, .unset] [(.int (1 : Int32)), (.int ((2 : Int32) + (p3 &&& (1023 : Int32)))), (.ref b1), (.ref b1)])) _
    refine st13.trans ?_
    show Steps p.tables e below (T13.setTop (mkF m 30 #[.val (.int p1), .val (.int p2), .val (.int p3), .val (.int (p1 &&& (1048575 : Int32))), .val (.int (p2 &&& (1048575 : Int32))), .val (.int ((2 : Int32) + (p3 &&& (1023 : Int32)))), .unset, .unset, .unset, .unset, .unset, .unset, .unset] [(.ref b1)])) _
    refine XS.astore X13.here hx rfl (hb hby at_30) rfl rfl (l' := #[.val (.int p1), .val (.int p2), .val (.int p3), .val (.int (p1 &&& (1048575 : Int32))), .val (.int (p2 &&& (1048575 : Int32))), .val (.int ((2 : Int32) + (p3 &&& (1023 : Int32)))), .val (.ref b1), .unset, .unset, .unset, .unset, .unset, .unset]) rfl ?_
    show Steps p.tables e below (T13.setTop (mkF m 32 #[.val (.int p1), .val (.int p2), .val (.int p3), .val (.int (p1 &&& (1048575 : Int32))), .val (.int (p2 &&& (1048575 : Int32))), .val (.int ((2 : Int32) + (p3 &&& (1023 : Int32)))), .val (.ref b1), .unset, .unset, .unset, .unset, .unset, .unset] [])) _
    refine XS.aload X13.here hx rfl (hb hby at_32) rfl rfl ?_
    show Steps p.tables e below (T13.setTop (mkF m 34 #[.val (.int p1), .val (.int p2), .val (.int p3), .val (.int (p1 &&& (1048575 : Int32))), .val (.int (p2 &&& (1048575 : Int32))), .val (.int ((2 : Int32) + (p3 &&& (1023 : Int32)))), .val (.ref b1), .unset, .unset, .unset, .unset, .unset, .unset] [(.ref b1)])) _
    refine XS.iloadN X13.here hx rfl (hb hby at_34) rfl ?_
    show Steps p.tables e below (T13.setTop (mkF m 35 #[.val (.int p1), .val (.int p2), .val (.int p3), .val (.int (p1 &&& (1048575 : Int32))), .val (.int (p2 &&& (1048575 : Int32))), .val (.int ((2 : Int32) + (p3 &&& (1023 : Int32)))), .val (.ref b1), .unset, .unset, .unset, .unset, .unset, .unset] [(.int (p1 &&& (1048575 : Int32))), (.ref b1)])) _
    refine XS.i2dS X13.here hx rfl (v := (FP.i2d (p1 &&& (1048575 : Int32)))) (hb hby at_35) rfl rfl ?_
    show Steps p.tables e below (T13.setTop (mkF m 36 #[.val (.int p1), .val (.int p2), .val (.int p3), .val (.int (p1 &&& (1048575 : Int32))), .val (.int (p2 &&& (1048575 : Int32))), .val (.int ((2 : Int32) + (p3 &&& (1023 : Int32)))), .val (.ref b1), .unset, .unset, .unset, .unset, .unset, .unset] [(.double (FP.i2d (p1 &&& (1048575 : Int32)))), (.ref b1)])) _
    refine XS.iload X13.here hx rfl (hb hby at_36) rfl ?_
    show Steps p.tables e below (T13.setTop (mkF m 38 #[.val (.int p1), .val (.int p2), .val (.int p3), .val (.int (p1 &&& (1048575 : Int32))), .val (.int (p2 &&& (1048575 : Int32))), .val (.int ((2 : Int32) + (p3 &&& (1023 : Int32)))), .val (.ref b1), .unset, .unset, .unset, .unset, .unset, .unset] [(.int (p2 &&& (1048575 : Int32))), (.double (FP.i2d (p1 &&& (1048575 : Int32)))), (.ref b1)])) _
    refine st14.trans ?_
    show Steps p.tables e below (T14.setTop (mkF m 41 #[.val (.int p1), .val (.int p2), .val (.int p3), .val (.int (p1 &&& (1048575 : Int32))), .val (.int (p2 &&& (1048575 : Int32))), .val (.int ((2 : Int32) + (p3 &&& (1023 : Int32)))), .val (.ref b1), .unset, .unset, .unset, .unset, .unset, .unset] [(.double (own_t5 (p1 &&& (1048575 : Int32)) (p2 &&& (1048575 : Int32)) ((2 : Int32) + (p3 &&& (1023 : Int32)))))])) _
    refine XS.dstore X14.here hx rfl (hb hby at_41) rfl (l' := #[.val (.int p1), .val (.int p2), .val (.int p3), .val (.int (p1 &&& (1048575 : Int32))), .val (.int (p2 &&& (1048575 : Int32))), .val (.int ((2 : Int32) + (p3 &&& (1023 : Int32)))), .val (.ref b1), .val (.double (own_t5 (p1 &&& (1048575 : Int32)) (p2 &&& (1048575 : Int32)) ((2 : Int32) + (p3 &&& (1023 : Int32))))), .second, .unset, .unset, .unset, .unset]) rfl ?_
    show Steps p.tables e below (T14.setTop (mkF m 43 #[.val (.int p1), .val (.int p2), .val (.int p3), .val (.int (p1 &&& (1048575 : Int32))), .val (.int (p2 &&& (1048575 : Int32))), .val (.int ((2 : Int32) + (p3 &&& (1023 : Int32)))), .val (.ref b1), .val (.double (own_t5 (p1 &&& (1048575 : Int32)) (p2 &&& (1048575 : Int32)) ((2 : Int32) + (p3 &&& (1023 : Int32))))), .second, .unset, .unset, .unset, .unset] [])) _
    refine XS.iloadN X14.here hx rfl (hb hby at_43) rfl ?_
    show Steps p.tables e below (T14.setTop (mkF m 44 #[.val (.int p1), .val (.int p2), .val (.int p3), .val (.int (p1 &&& (1048575 : Int32))), .val (.int (p2 &&& (1048575 : Int32))), .val (.int ((2 : Int32) + (p3 &&& (1023 : Int32)))), .val (.ref b1), .val (.double (own_t5 (p1 &&& (1048575 : Int32)) (p2 &&& (1048575 : Int32)) ((2 : Int32) + (p3 &&& (1023 : Int32))))), .second, .unset, .unset, .unset, .unset] [(.int (p1 &&& (1048575 : Int32)))])) _
    by_cases hq : (p1 &&& (1048575 : Int32)) = (0 : Int32)
    · have hz1 : cmpValue (FP.dcmp (own_t5 (p1 &&& (1048575 : Int32)) (p2 &&& (1048575 : Int32)) ((2 : Int32) + (p3 &&& (1023 : Int32)))) (103582791429521408 : UInt64)) .l = 0 := own_v_eq (own_cmp_eq T5 own_1000.1 (by rw [S0 (by rw [hq]; rfl)]; exact own_1000.2.symm)) _
      show Steps p.tables e below (T14.setTop (mkF m 44 #[.val (.int p1), .val (.int p2), .val (.int p3), .val (.int (p1 &&& (1048575 : Int32))), .val (.int (p2 &&& (1048575 : Int32))), .val (.int ((2 : Int32) + (p3 &&& (1023 : Int32)))), .val (.ref b1), .val (.double (own_t5 (p1 &&& (1048575 : Int32)) (p2 &&& (1048575 : Int32)) ((2 : Int32) + (p3 &&& (1023 : Int32))))), .second, .unset, .unset, .unset, .unset] [(.int (p1 &&& (1048575 : Int32)))])) _
      refine XS.ifNo X14.here hx rfl (hb hby at_44) rfl ((if0 _ _).trans (teq hq).2) ?_
      show Steps p.tables e below (T14.setTop (mkF m 47 #[.val (.int p1), .val (.int p2), .val (.int p3), .val (.int (p1 &&& (1048575 : Int32))), .val (.int (p2 &&& (1048575 : Int32))), .val (.int ((2 : Int32) + (p3 &&& (1023 : Int32)))), .val (.ref b1), .val (.double (own_t5 (p1 &&& (1048575 : Int32)) (p2 &&& (1048575 : Int32)) ((2 : Int32) + (p3 &&& (1023 : Int32))))), .second, .unset, .unset, .unset, .unset] [])) _
      refine XS.dload X14.here hx rfl (hb hby at_47) rfl ?_
      show Steps p.tables e below (T14.setTop (mkF m 49 #[.val (.int p1), .val (.int p2), .val (.int p3), .val (.int (p1 &&& (1048575 : Int32))), .val (.int (p2 &&& (1048575 : Int32))), .val (.int ((2 : Int32) + (p3 &&& (1023 : Int32)))), .val (.ref b1), .val (.double (own_t5 (p1 &&& (1048575 : Int32)) (p2 &&& (1048575 : Int32)) ((2 : Int32) + (p3 &&& (1023 : Int32))))), .second, .unset, .unset, .unset, .unset] [(.double (own_t5 (p1 &&& (1048575 : Int32)) (p2 &&& (1048575 : Int32)) ((2 : Int32) + (p3 &&& (1023 : Int32)))))])) _
      refine X14.ldc2DoubleC hx hown (mvT hZ (hw _ (List.mem_of_getElem? (i := 32) rfl))) (g := (mkF m 49 #[.val (.int p1), .val (.int p2), .val (.int p3), .val (.int (p1 &&& (1048575 : Int32))), .val (.int (p2 &&& (1048575 : Int32))), .val (.int ((2 : Int32) + (p3 &&& (1023 : Int32)))), .val (.ref b1), .val (.double (own_t5 (p1 &&& (1048575 : Int32)) (p2 &&& (1048575 : Int32)) ((2 : Int32) + (p3 &&& (1023 : Int32))))), .second, .unset, .unset, .unset, .unset] [(.double (own_t5 (p1 &&& (1048575 : Int32)) (p2 &&& (1048575 : Int32)) ((2 : Int32) + (p3 &&& (1023 : Int32)))))])) rfl (hb hby at_49) _ ?_
      show Steps p.tables e below (T14.setTop (mkF m 52 #[.val (.int p1), .val (.int p2), .val (.int p3), .val (.int (p1 &&& (1048575 : Int32))), .val (.int (p2 &&& (1048575 : Int32))), .val (.int ((2 : Int32) + (p3 &&& (1023 : Int32)))), .val (.ref b1), .val (.double (own_t5 (p1 &&& (1048575 : Int32)) (p2 &&& (1048575 : Int32)) ((2 : Int32) + (p3 &&& (1023 : Int32))))), .second, .unset, .unset, .unset, .unset] [(.double (103582791429521408 : UInt64)), (.double (own_t5 (p1 &&& (1048575 : Int32)) (p2 &&& (1048575 : Int32)) ((2 : Int32) + (p3 &&& (1023 : Int32)))))])) _
      refine XS.dcmpS X14.here hx rfl (v := (0 : Int32)) (hb hby at_52) rfl hz1 ?_
      show Steps p.tables e below (T14.setTop (mkF m 53 #[.val (.int p1), .val (.int p2), .val (.int p3), .val (.int (p1 &&& (1048575 : Int32))), .val (.int (p2 &&& (1048575 : Int32))), .val (.int ((2 : Int32) + (p3 &&& (1023 : Int32)))), .val (.ref b1), .val (.double (own_t5 (p1 &&& (1048575 : Int32)) (p2 &&& (1048575 : Int32)) ((2 : Int32) + (p3 &&& (1023 : Int32))))), .second, .unset, .unset, .unset, .unset] [(.int (0 : Int32))])) _
      refine XS.ifNo X14.here hx rfl (hb hby at_53) rfl (by decide) ?_
      show Steps p.tables e below (T14.setTop (mkF m 56 #[.val (.int p1), .val (.int p2), .val (.int p3), .val (.int (p1 &&& (1048575 : Int32))), .val (.int (p2 &&& (1048575 : Int32))), .val (.int ((2 : Int32) + (p3 &&& (1023 : Int32)))), .val (.ref b1), .val (.double (own_t5 (p1 &&& (1048575 : Int32)) (p2 &&& (1048575 : Int32)) ((2 : Int32) + (p3 &&& (1023 : Int32))))), .second, .unset, .unset, .unset, .unset] [])) _
      refine XS.iconst X14.here hx rfl (hb hby at_56) ?_
      show Steps p.tables e below (T14.setTop (mkF m 57 #[.val (.int p1), .val (.int p2), .val (.int p3), .val (.int (p1 &&& (1048575 : Int32))), .val (.int (p2 &&& (1048575 : Int32))), .val (.int ((2 : Int32) + (p3 &&& (1023 : Int32)))), .val (.ref b1), .val (.double (own_t5 (p1 &&& (1048575 : Int32)) (p2 &&& (1048575 : Int32)) ((2 : Int32) + (p3 &&& (1023 : Int32))))), .second, .unset, .unset, .unset, .unset] [(.int (1 : Int32))])) _
      refine XS.goto X14.here hx rfl (pc0 := 57) (pc' := 61) rfl (hb hby at_57) (by decide) (by decide) ?_
      show Steps p.tables e below (T14.setTop (mkF m 61 #[.val (.int p1), .val (.int p2), .val (.int p3), .val (.int (p1 &&& (1048575 : Int32))), .val (.int (p2 &&& (1048575 : Int32))), .val (.int ((2 : Int32) + (p3 &&& (1023 : Int32)))), .val (.ref b1), .val (.double (own_t5 (p1 &&& (1048575 : Int32)) (p2 &&& (1048575 : Int32)) ((2 : Int32) + (p3 &&& (1023 : Int32))))), .second, .unset, .unset, .unset, .unset] [(.int (1 : Int32))])) _
      exact retN X14 hx (t := .boolean) Bd.returns (by simp) (hb hby at_61) hr
    · have hz2 : cmpValue (FP.dcmp (own_t5 (p1 &&& (1048575 : Int32)) (p2 &&& (1048575 : Int32)) ((2 : Int32) + (p3 &&& (1023 : Int32)))) (own_ex (p1 &&& (1048575 : Int32)) (p2 &&& (1048575 : Int32)) ((2 : Int32) + (p3 &&& (1023 : Int32))))) .l = 0 := own_v_eq (own_cmp_eq T5 T6.1 (S1 (fun h => hq (Int32.toInt_inj.mp h)))) _
      show Steps p.tables e below (T14.setTop (mkF m 44 #[.val (.int p1), .val (.int p2), .val (.int p3), .val (.int (p1 &&& (1048575 : Int32))), .val (.int (p2 &&& (1048575 : Int32))), .val (.int ((2 : Int32) + (p3 &&& (1023 : Int32)))), .val (.ref b1), .val (.double (own_t5 (p1 &&& (1048575 : Int32)) (p2 &&& (1048575 : Int32)) ((2 : Int32) + (p3 &&& (1023 : Int32))))), .second, .unset, .unset, .unset, .unset] [(.int (p1 &&& (1048575 : Int32)))])) _
      refine XS.ifYes X14.here hx rfl (pc0 := 44) (pc' := 62) rfl (hb hby at_44) rfl ((if0 _ _).trans (feq hq).2) (by decide) (by decide) ?_
      show Steps p.tables e below (T14.setTop (mkF m 62 #[.val (.int p1), .val (.int p2), .val (.int p3), .val (.int (p1 &&& (1048575 : Int32))), .val (.int (p2 &&& (1048575 : Int32))), .val (.int ((2 : Int32) + (p3 &&& (1023 : Int32)))), .val (.ref b1), .val (.double (own_t5 (p1 &&& (1048575 : Int32)) (p2 &&& (1048575 : Int32)) ((2 : Int32) + (p3 &&& (1023 : Int32))))), .second, .unset, .unset, .unset, .unset] [])) _
      refine X14.ldc2J hx hown (mvT hZ (hw _ (List.mem_of_getElem? (i := 33) rfl))) (g := (mkF m 62 #[.val (.int p1), .val (.int p2), .val (.int p3), .val (.int (p1 &&& (1048575 : Int32))), .val (.int (p2 &&& (1048575 : Int32))), .val (.int ((2 : Int32) + (p3 &&& (1023 : Int32)))), .val (.ref b1), .val (.double (own_t5 (p1 &&& (1048575 : Int32)) (p2 &&& (1048575 : Int32)) ((2 : Int32) + (p3 &&& (1023 : Int32))))), .second, .unset, .unset, .unset, .unset] [])) rfl (hb hby at_62) ?_
      show Steps p.tables e below (T14.setTop (mkF m 65 #[.val (.int p1), .val (.int p2), .val (.int p3), .val (.int (p1 &&& (1048575 : Int32))), .val (.int (p2 &&& (1048575 : Int32))), .val (.int ((2 : Int32) + (p3 &&& (1023 : Int32)))), .val (.ref b1), .val (.double (own_t5 (p1 &&& (1048575 : Int32)) (p2 &&& (1048575 : Int32)) ((2 : Int32) + (p3 &&& (1023 : Int32))))), .second, .unset, .unset, .unset, .unset] [(.long (2 : Int64))])) _
      refine XS.iload X14.here hx rfl (hb hby at_65) rfl ?_
      show Steps p.tables e below (T14.setTop (mkF m 67 #[.val (.int p1), .val (.int p2), .val (.int p3), .val (.int (p1 &&& (1048575 : Int32))), .val (.int (p2 &&& (1048575 : Int32))), .val (.int ((2 : Int32) + (p3 &&& (1023 : Int32)))), .val (.ref b1), .val (.double (own_t5 (p1 &&& (1048575 : Int32)) (p2 &&& (1048575 : Int32)) ((2 : Int32) + (p3 &&& (1023 : Int32))))), .second, .unset, .unset, .unset, .unset] [(.int ((2 : Int32) + (p3 &&& (1023 : Int32)))), (.long (2 : Int64))])) _
      refine XS.i2l X14.here hx rfl (hb hby at_67) rfl ?_
      show Steps p.tables e below (T14.setTop (mkF m 68 #[.val (.int p1), .val (.int p2), .val (.int p3), .val (.int (p1 &&& (1048575 : Int32))), .val (.int (p2 &&& (1048575 : Int32))), .val (.int ((2 : Int32) + (p3 &&& (1023 : Int32)))), .val (.ref b1), .val (.double (own_t5 (p1 &&& (1048575 : Int32)) (p2 &&& (1048575 : Int32)) ((2 : Int32) + (p3 &&& (1023 : Int32))))), .second, .unset, .unset, .unset, .unset] [(.long ((2 : Int32) + (p3 &&& (1023 : Int32))).toInt64), (.long (2 : Int64))])) _
      refine XS.lmul X14.here hx rfl (hb hby at_68) rfl ?_
      show Steps p.tables e below (T14.setTop (mkF m 69 #[.val (.int p1), .val (.int p2), .val (.int p3), .val (.int (p1 &&& (1048575 : Int32))), .val (.int (p2 &&& (1048575 : Int32))), .val (.int ((2 : Int32) + (p3 &&& (1023 : Int32)))), .val (.ref b1), .val (.double (own_t5 (p1 &&& (1048575 : Int32)) (p2 &&& (1048575 : Int32)) ((2 : Int32) + (p3 &&& (1023 : Int32))))), .second, .unset, .unset, .unset, .unset] [(.long ((2 : Int64) * ((2 : Int32) + (p3 &&& (1023 : Int32))).toInt64))])) _
      refine XS.iload X14.here hx rfl (hb hby at_69) rfl ?_
      show Steps p.tables e below (T14.setTop (mkF m 71 #[.val (.int p1), .val (.int p2), .val (.int p3), .val (.int (p1 &&& (1048575 : Int32))), .val (.int (p2 &&& (1048575 : Int32))), .val (.int ((2 : Int32) + (p3 &&& (1023 : Int32)))), .val (.ref b1), .val (.double (own_t5 (p1 &&& (1048575 : Int32)) (p2 &&& (1048575 : Int32)) ((2 : Int32) + (p3 &&& (1023 : Int32))))), .second, .unset, .unset, .unset, .unset] [(.int (p2 &&& (1048575 : Int32))), (.long ((2 : Int64) * ((2 : Int32) + (p3 &&& (1023 : Int32))).toInt64))])) _
      refine XS.i2l X14.here hx rfl (hb hby at_71) rfl ?_
      show Steps p.tables e below (T14.setTop (mkF m 72 #[.val (.int p1), .val (.int p2), .val (.int p3), .val (.int (p1 &&& (1048575 : Int32))), .val (.int (p2 &&& (1048575 : Int32))), .val (.int ((2 : Int32) + (p3 &&& (1023 : Int32)))), .val (.ref b1), .val (.double (own_t5 (p1 &&& (1048575 : Int32)) (p2 &&& (1048575 : Int32)) ((2 : Int32) + (p3 &&& (1023 : Int32))))), .second, .unset, .unset, .unset, .unset] [(.long (p2 &&& (1048575 : Int32)).toInt64), (.long ((2 : Int64) * ((2 : Int32) + (p3 &&& (1023 : Int32))).toInt64))])) _
      refine X14.ldc2J hx hown (mvT hZ (hw _ (List.mem_of_getElem? (i := 34) rfl))) (g := (mkF m 72 #[.val (.int p1), .val (.int p2), .val (.int p3), .val (.int (p1 &&& (1048575 : Int32))), .val (.int (p2 &&& (1048575 : Int32))), .val (.int ((2 : Int32) + (p3 &&& (1023 : Int32)))), .val (.ref b1), .val (.double (own_t5 (p1 &&& (1048575 : Int32)) (p2 &&& (1048575 : Int32)) ((2 : Int32) + (p3 &&& (1023 : Int32))))), .second, .unset, .unset, .unset, .unset] [(.long (p2 &&& (1048575 : Int32)).toInt64), (.long ((2 : Int64) * ((2 : Int32) + (p3 &&& (1023 : Int32))).toInt64))])) rfl (hb hby at_72) ?_
      show Steps p.tables e below (T14.setTop (mkF m 75 #[.val (.int p1), .val (.int p2), .val (.int p3), .val (.int (p1 &&& (1048575 : Int32))), .val (.int (p2 &&& (1048575 : Int32))), .val (.int ((2 : Int32) + (p3 &&& (1023 : Int32)))), .val (.ref b1), .val (.double (own_t5 (p1 &&& (1048575 : Int32)) (p2 &&& (1048575 : Int32)) ((2 : Int32) + (p3 &&& (1023 : Int32))))), .second, .unset, .unset, .unset, .unset] [(.long (3 : Int64)), (.long (p2 &&& (1048575 : Int32)).toInt64), (.long ((2 : Int64) * ((2 : Int32) + (p3 &&& (1023 : Int32))).toInt64))])) _
      refine XS.ladd X14.here hx rfl (hb hby at_75) rfl ?_
      show Steps p.tables e below (T14.setTop (mkF m 76 #[.val (.int p1), .val (.int p2), .val (.int p3), .val (.int (p1 &&& (1048575 : Int32))), .val (.int (p2 &&& (1048575 : Int32))), .val (.int ((2 : Int32) + (p3 &&& (1023 : Int32)))), .val (.ref b1), .val (.double (own_t5 (p1 &&& (1048575 : Int32)) (p2 &&& (1048575 : Int32)) ((2 : Int32) + (p3 &&& (1023 : Int32))))), .second, .unset, .unset, .unset, .unset] [(.long ((p2 &&& (1048575 : Int32)).toInt64 + (3 : Int64))), (.long ((2 : Int64) * ((2 : Int32) + (p3 &&& (1023 : Int32))).toInt64))])) _
      refine XS.lmul X14.here hx rfl (hb hby at_76) rfl ?_
      show Steps p.tables e below (T14.setTop (mkF m 77 #[.val (.int p1), .val (.int p2), .val (.int p3), .val (.int (p1 &&& (1048575 : Int32))), .val (.int (p2 &&& (1048575 : Int32))), .val (.int ((2 : Int32) + (p3 &&& (1023 : Int32)))), .val (.ref b1), .val (.double (own_t5 (p1 &&& (1048575 : Int32)) (p2 &&& (1048575 : Int32)) ((2 : Int32) + (p3 &&& (1023 : Int32))))), .second, .unset, .unset, .unset, .unset] [(.long (((2 : Int64) * ((2 : Int32) + (p3 &&& (1023 : Int32))).toInt64) * ((p2 &&& (1048575 : Int32)).toInt64 + (3 : Int64))))])) _
      refine XS.iloadN X14.here hx rfl (hb hby at_77) rfl ?_
      show Steps p.tables e below (T14.setTop (mkF m 78 #[.val (.int p1), .val (.int p2), .val (.int p3), .val (.int (p1 &&& (1048575 : Int32))), .val (.int (p2 &&& (1048575 : Int32))), .val (.int ((2 : Int32) + (p3 &&& (1023 : Int32)))), .val (.ref b1), .val (.double (own_t5 (p1 &&& (1048575 : Int32)) (p2 &&& (1048575 : Int32)) ((2 : Int32) + (p3 &&& (1023 : Int32))))), .second, .unset, .unset, .unset, .unset] [(.int (p1 &&& (1048575 : Int32))), (.long (((2 : Int64) * ((2 : Int32) + (p3 &&& (1023 : Int32))).toInt64) * ((p2 &&& (1048575 : Int32)).toInt64 + (3 : Int64))))])) _
      refine XS.i2l X14.here hx rfl (hb hby at_78) rfl ?_
      show Steps p.tables e below (T14.setTop (mkF m 79 #[.val (.int p1), .val (.int p2), .val (.int p3), .val (.int (p1 &&& (1048575 : Int32))), .val (.int (p2 &&& (1048575 : Int32))), .val (.int ((2 : Int32) + (p3 &&& (1023 : Int32)))), .val (.ref b1), .val (.double (own_t5 (p1 &&& (1048575 : Int32)) (p2 &&& (1048575 : Int32)) ((2 : Int32) + (p3 &&& (1023 : Int32))))), .second, .unset, .unset, .unset, .unset] [(.long (p1 &&& (1048575 : Int32)).toInt64), (.long (((2 : Int64) * ((2 : Int32) + (p3 &&& (1023 : Int32))).toInt64) * ((p2 &&& (1048575 : Int32)).toInt64 + (3 : Int64))))])) _
      refine XS.lmul X14.here hx rfl (hb hby at_79) rfl ?_
      show Steps p.tables e below (T14.setTop (mkF m 80 #[.val (.int p1), .val (.int p2), .val (.int p3), .val (.int (p1 &&& (1048575 : Int32))), .val (.int (p2 &&& (1048575 : Int32))), .val (.int ((2 : Int32) + (p3 &&& (1023 : Int32)))), .val (.ref b1), .val (.double (own_t5 (p1 &&& (1048575 : Int32)) (p2 &&& (1048575 : Int32)) ((2 : Int32) + (p3 &&& (1023 : Int32))))), .second, .unset, .unset, .unset, .unset] [(.long ((((2 : Int64) * ((2 : Int32) + (p3 &&& (1023 : Int32))).toInt64) * ((p2 &&& (1048575 : Int32)).toInt64 + (3 : Int64))) * (p1 &&& (1048575 : Int32)).toInt64))])) _
      refine XS.lstore X14.here hx rfl (hb hby at_80) rfl (l' := #[.val (.int p1), .val (.int p2), .val (.int p3), .val (.int (p1 &&& (1048575 : Int32))), .val (.int (p2 &&& (1048575 : Int32))), .val (.int ((2 : Int32) + (p3 &&& (1023 : Int32)))), .val (.ref b1), .val (.double (own_t5 (p1 &&& (1048575 : Int32)) (p2 &&& (1048575 : Int32)) ((2 : Int32) + (p3 &&& (1023 : Int32))))), .second, .val (.long ((((2 : Int64) * ((2 : Int32) + (p3 &&& (1023 : Int32))).toInt64) * ((p2 &&& (1048575 : Int32)).toInt64 + (3 : Int64))) * (p1 &&& (1048575 : Int32)).toInt64)), .second, .unset, .unset]) rfl ?_
      show Steps p.tables e below (T14.setTop (mkF m 82 #[.val (.int p1), .val (.int p2), .val (.int p3), .val (.int (p1 &&& (1048575 : Int32))), .val (.int (p2 &&& (1048575 : Int32))), .val (.int ((2 : Int32) + (p3 &&& (1023 : Int32)))), .val (.ref b1), .val (.double (own_t5 (p1 &&& (1048575 : Int32)) (p2 &&& (1048575 : Int32)) ((2 : Int32) + (p3 &&& (1023 : Int32))))), .second, .val (.long ((((2 : Int64) * ((2 : Int32) + (p3 &&& (1023 : Int32))).toInt64) * ((p2 &&& (1048575 : Int32)).toInt64 + (3 : Int64))) * (p1 &&& (1048575 : Int32)).toInt64)), .second, .unset, .unset] [])) _
      refine XS.lload X14.here hx rfl (hb hby at_82) rfl ?_
      show Steps p.tables e below (T14.setTop (mkF m 84 #[.val (.int p1), .val (.int p2), .val (.int p3), .val (.int (p1 &&& (1048575 : Int32))), .val (.int (p2 &&& (1048575 : Int32))), .val (.int ((2 : Int32) + (p3 &&& (1023 : Int32)))), .val (.ref b1), .val (.double (own_t5 (p1 &&& (1048575 : Int32)) (p2 &&& (1048575 : Int32)) ((2 : Int32) + (p3 &&& (1023 : Int32))))), .second, .val (.long ((((2 : Int64) * ((2 : Int32) + (p3 &&& (1023 : Int32))).toInt64) * ((p2 &&& (1048575 : Int32)).toInt64 + (3 : Int64))) * (p1 &&& (1048575 : Int32)).toInt64)), .second, .unset, .unset] [(.long ((((2 : Int64) * ((2 : Int32) + (p3 &&& (1023 : Int32))).toInt64) * ((p2 &&& (1048575 : Int32)).toInt64 + (3 : Int64))) * (p1 &&& (1048575 : Int32)).toInt64))])) _
      refine XS.l2dS X14.here hx rfl (v := (FP.l2d ((((2 : Int64) * ((2 : Int32) + (p3 &&& (1023 : Int32))).toInt64) * ((p2 &&& (1048575 : Int32)).toInt64 + (3 : Int64))) * (p1 &&& (1048575 : Int32)).toInt64))) (hb hby at_84) rfl rfl ?_
      show Steps p.tables e below (T14.setTop (mkF m 85 #[.val (.int p1), .val (.int p2), .val (.int p3), .val (.int (p1 &&& (1048575 : Int32))), .val (.int (p2 &&& (1048575 : Int32))), .val (.int ((2 : Int32) + (p3 &&& (1023 : Int32)))), .val (.ref b1), .val (.double (own_t5 (p1 &&& (1048575 : Int32)) (p2 &&& (1048575 : Int32)) ((2 : Int32) + (p3 &&& (1023 : Int32))))), .second, .val (.long ((((2 : Int64) * ((2 : Int32) + (p3 &&& (1023 : Int32))).toInt64) * ((p2 &&& (1048575 : Int32)).toInt64 + (3 : Int64))) * (p1 &&& (1048575 : Int32)).toInt64)), .second, .unset, .unset] [(.double (FP.l2d ((((2 : Int64) * ((2 : Int32) + (p3 &&& (1023 : Int32))).toInt64) * ((p2 &&& (1048575 : Int32)).toInt64 + (3 : Int64))) * (p1 &&& (1048575 : Int32)).toInt64)))])) _
      refine X14.ldc2DoubleC hx hown (mvT hZ (hw _ (List.mem_of_getElem? (i := 35) rfl))) (g := (mkF m 85 #[.val (.int p1), .val (.int p2), .val (.int p3), .val (.int (p1 &&& (1048575 : Int32))), .val (.int (p2 &&& (1048575 : Int32))), .val (.int ((2 : Int32) + (p3 &&& (1023 : Int32)))), .val (.ref b1), .val (.double (own_t5 (p1 &&& (1048575 : Int32)) (p2 &&& (1048575 : Int32)) ((2 : Int32) + (p3 &&& (1023 : Int32))))), .second, .val (.long ((((2 : Int64) * ((2 : Int32) + (p3 &&& (1023 : Int32))).toInt64) * ((p2 &&& (1048575 : Int32)).toInt64 + (3 : Int64))) * (p1 &&& (1048575 : Int32)).toInt64)), .second, .unset, .unset] [(.double (FP.l2d ((((2 : Int64) * ((2 : Int32) + (p3 &&& (1023 : Int32))).toInt64) * ((p2 &&& (1048575 : Int32)).toInt64 + (3 : Int64))) * (p1 &&& (1048575 : Int32)).toInt64)))])) rfl (hb hby at_85) _ ?_
      show Steps p.tables e below (T14.setTop (mkF m 88 #[.val (.int p1), .val (.int p2), .val (.int p3), .val (.int (p1 &&& (1048575 : Int32))), .val (.int (p2 &&& (1048575 : Int32))), .val (.int ((2 : Int32) + (p3 &&& (1023 : Int32)))), .val (.ref b1), .val (.double (own_t5 (p1 &&& (1048575 : Int32)) (p2 &&& (1048575 : Int32)) ((2 : Int32) + (p3 &&& (1023 : Int32))))), .second, .val (.long ((((2 : Int64) * ((2 : Int32) + (p3 &&& (1023 : Int32))).toInt64) * ((p2 &&& (1048575 : Int32)).toInt64 + (3 : Int64))) * (p1 &&& (1048575 : Int32)).toInt64)), .second, .unset, .unset] [(.double (4368491638549381120 : UInt64)), (.double (FP.l2d ((((2 : Int64) * ((2 : Int32) + (p3 &&& (1023 : Int32))).toInt64) * ((p2 &&& (1048575 : Int32)).toInt64 + (3 : Int64))) * (p1 &&& (1048575 : Int32)).toInt64)))])) _
      refine XS.dmulS X14.here hx rfl (v := (own_ex (p1 &&& (1048575 : Int32)) (p2 &&& (1048575 : Int32)) ((2 : Int32) + (p3 &&& (1023 : Int32))))) (hb hby at_88) rfl (own_nn T6.1) rfl ?_
      show Steps p.tables e below (T14.setTop (mkF m 89 #[.val (.int p1), .val (.int p2), .val (.int p3), .val (.int (p1 &&& (1048575 : Int32))), .val (.int (p2 &&& (1048575 : Int32))), .val (.int ((2 : Int32) + (p3 &&& (1023 : Int32)))), .val (.ref b1), .val (.double (own_t5 (p1 &&& (1048575 : Int32)) (p2 &&& (1048575 : Int32)) ((2 : Int32) + (p3 &&& (1023 : Int32))))), .second, .val (.long ((((2 : Int64) * ((2 : Int32) + (p3 &&& (1023 : Int32))).toInt64) * ((p2 &&& (1048575 : Int32)).toInt64 + (3 : Int64))) * (p1 &&& (1048575 : Int32)).toInt64)), .second, .unset, .unset] [(.double (own_ex (p1 &&& (1048575 : Int32)) (p2 &&& (1048575 : Int32)) ((2 : Int32) + (p3 &&& (1023 : Int32)))))])) _
      refine XS.dstore X14.here hx rfl (hb hby at_89) rfl (l' := #[.val (.int p1), .val (.int p2), .val (.int p3), .val (.int (p1 &&& (1048575 : Int32))), .val (.int (p2 &&& (1048575 : Int32))), .val (.int ((2 : Int32) + (p3 &&& (1023 : Int32)))), .val (.ref b1), .val (.double (own_t5 (p1 &&& (1048575 : Int32)) (p2 &&& (1048575 : Int32)) ((2 : Int32) + (p3 &&& (1023 : Int32))))), .second, .val (.long ((((2 : Int64) * ((2 : Int32) + (p3 &&& (1023 : Int32))).toInt64) * ((p2 &&& (1048575 : Int32)).toInt64 + (3 : Int64))) * (p1 &&& (1048575 : Int32)).toInt64)), .second, .val (.double (own_ex (p1 &&& (1048575 : Int32)) (p2 &&& (1048575 : Int32)) ((2 : Int32) + (p3 &&& (1023 : Int32))))), .second]) rfl ?_
      show Steps p.tables e below (T14.setTop (mkF m 91 #[.val (.int p1), .val (.int p2), .val (.int p3), .val (.int (p1 &&& (1048575 : Int32))), .val (.int (p2 &&& (1048575 : Int32))), .val (.int ((2 : Int32) + (p3 &&& (1023 : Int32)))), .val (.ref b1), .val (.double (own_t5 (p1 &&& (1048575 : Int32)) (p2 &&& (1048575 : Int32)) ((2 : Int32) + (p3 &&& (1023 : Int32))))), .second, .val (.long ((((2 : Int64) * ((2 : Int32) + (p3 &&& (1023 : Int32))).toInt64) * ((p2 &&& (1048575 : Int32)).toInt64 + (3 : Int64))) * (p1 &&& (1048575 : Int32)).toInt64)), .second, .val (.double (own_ex (p1 &&& (1048575 : Int32)) (p2 &&& (1048575 : Int32)) ((2 : Int32) + (p3 &&& (1023 : Int32))))), .second] [])) _
      refine XS.dload X14.here hx rfl (hb hby at_91) rfl ?_
      show Steps p.tables e below (T14.setTop (mkF m 93 #[.val (.int p1), .val (.int p2), .val (.int p3), .val (.int (p1 &&& (1048575 : Int32))), .val (.int (p2 &&& (1048575 : Int32))), .val (.int ((2 : Int32) + (p3 &&& (1023 : Int32)))), .val (.ref b1), .val (.double (own_t5 (p1 &&& (1048575 : Int32)) (p2 &&& (1048575 : Int32)) ((2 : Int32) + (p3 &&& (1023 : Int32))))), .second, .val (.long ((((2 : Int64) * ((2 : Int32) + (p3 &&& (1023 : Int32))).toInt64) * ((p2 &&& (1048575 : Int32)).toInt64 + (3 : Int64))) * (p1 &&& (1048575 : Int32)).toInt64)), .second, .val (.double (own_ex (p1 &&& (1048575 : Int32)) (p2 &&& (1048575 : Int32)) ((2 : Int32) + (p3 &&& (1023 : Int32))))), .second] [(.double (own_t5 (p1 &&& (1048575 : Int32)) (p2 &&& (1048575 : Int32)) ((2 : Int32) + (p3 &&& (1023 : Int32)))))])) _
      refine XS.dload X14.here hx rfl (hb hby at_93) rfl ?_
      show Steps p.tables e below (T14.setTop (mkF m 95 #[.val (.int p1), .val (.int p2), .val (.int p3), .val (.int (p1 &&& (1048575 : Int32))), .val (.int (p2 &&& (1048575 : Int32))), .val (.int ((2 : Int32) + (p3 &&& (1023 : Int32)))), .val (.ref b1), .val (.double (own_t5 (p1 &&& (1048575 : Int32)) (p2 &&& (1048575 : Int32)) ((2 : Int32) + (p3 &&& (1023 : Int32))))), .second, .val (.long ((((2 : Int64) * ((2 : Int32) + (p3 &&& (1023 : Int32))).toInt64) * ((p2 &&& (1048575 : Int32)).toInt64 + (3 : Int64))) * (p1 &&& (1048575 : Int32)).toInt64)), .second, .val (.double (own_ex (p1 &&& (1048575 : Int32)) (p2 &&& (1048575 : Int32)) ((2 : Int32) + (p3 &&& (1023 : Int32))))), .second] [(.double (own_ex (p1 &&& (1048575 : Int32)) (p2 &&& (1048575 : Int32)) ((2 : Int32) + (p3 &&& (1023 : Int32))))), (.double (own_t5 (p1 &&& (1048575 : Int32)) (p2 &&& (1048575 : Int32)) ((2 : Int32) + (p3 &&& (1023 : Int32)))))])) _
      refine XS.dcmpS X14.here hx rfl (v := (0 : Int32)) (hb hby at_95) rfl hz2 ?_
      show Steps p.tables e below (T14.setTop (mkF m 96 #[.val (.int p1), .val (.int p2), .val (.int p3), .val (.int (p1 &&& (1048575 : Int32))), .val (.int (p2 &&& (1048575 : Int32))), .val (.int ((2 : Int32) + (p3 &&& (1023 : Int32)))), .val (.ref b1), .val (.double (own_t5 (p1 &&& (1048575 : Int32)) (p2 &&& (1048575 : Int32)) ((2 : Int32) + (p3 &&& (1023 : Int32))))), .second, .val (.long ((((2 : Int64) * ((2 : Int32) + (p3 &&& (1023 : Int32))).toInt64) * ((p2 &&& (1048575 : Int32)).toInt64 + (3 : Int64))) * (p1 &&& (1048575 : Int32)).toInt64)), .second, .val (.double (own_ex (p1 &&& (1048575 : Int32)) (p2 &&& (1048575 : Int32)) ((2 : Int32) + (p3 &&& (1023 : Int32))))), .second] [(.int (0 : Int32))])) _
      refine XS.ifNo X14.here hx rfl (hb hby at_96) rfl (by decide) ?_
      show Steps p.tables e below (T14.setTop (mkF m 99 #[.val (.int p1), .val (.int p2), .val (.int p3), .val (.int (p1 &&& (1048575 : Int32))), .val (.int (p2 &&& (1048575 : Int32))), .val (.int ((2 : Int32) + (p3 &&& (1023 : Int32)))), .val (.ref b1), .val (.double (own_t5 (p1 &&& (1048575 : Int32)) (p2 &&& (1048575 : Int32)) ((2 : Int32) + (p3 &&& (1023 : Int32))))), .second, .val (.long ((((2 : Int64) * ((2 : Int32) + (p3 &&& (1023 : Int32))).toInt64) * ((p2 &&& (1048575 : Int32)).toInt64 + (3 : Int64))) * (p1 &&& (1048575 : Int32)).toInt64)), .second, .val (.double (own_ex (p1 &&& (1048575 : Int32)) (p2 &&& (1048575 : Int32)) ((2 : Int32) + (p3 &&& (1023 : Int32))))), .second] [])) _
      refine XS.iconst X14.here hx rfl (hb hby at_99) ?_
      show Steps p.tables e below (T14.setTop (mkF m 100 #[.val (.int p1), .val (.int p2), .val (.int p3), .val (.int (p1 &&& (1048575 : Int32))), .val (.int (p2 &&& (1048575 : Int32))), .val (.int ((2 : Int32) + (p3 &&& (1023 : Int32)))), .val (.ref b1), .val (.double (own_t5 (p1 &&& (1048575 : Int32)) (p2 &&& (1048575 : Int32)) ((2 : Int32) + (p3 &&& (1023 : Int32))))), .second, .val (.long ((((2 : Int64) * ((2 : Int32) + (p3 &&& (1023 : Int32))).toInt64) * ((p2 &&& (1048575 : Int32)).toInt64 + (3 : Int64))) * (p1 &&& (1048575 : Int32)).toInt64)), .second, .val (.double (own_ex (p1 &&& (1048575 : Int32)) (p2 &&& (1048575 : Int32)) ((2 : Int32) + (p3 &&& (1023 : Int32))))), .second] [(.int (1 : Int32))])) _
      refine XS.goto X14.here hx rfl (pc0 := 100) (pc' := 104) rfl (hb hby at_100) (by decide) (by decide) ?_
      show Steps p.tables e below (T14.setTop (mkF m 104 #[.val (.int p1), .val (.int p2), .val (.int p3), .val (.int (p1 &&& (1048575 : Int32))), .val (.int (p2 &&& (1048575 : Int32))), .val (.int ((2 : Int32) + (p3 &&& (1023 : Int32)))), .val (.ref b1), .val (.double (own_t5 (p1 &&& (1048575 : Int32)) (p2 &&& (1048575 : Int32)) ((2 : Int32) + (p3 &&& (1023 : Int32))))), .second, .val (.long ((((2 : Int64) * ((2 : Int32) + (p3 &&& (1023 : Int32))).toInt64) * ((p2 &&& (1048575 : Int32)).toInt64 + (3 : Int64))) * (p1 &&& (1048575 : Int32)).toInt64)), .second, .val (.double (own_ex (p1 &&& (1048575 : Int32)) (p2 &&& (1048575 : Int32)) ((2 : Int32) + (p3 &&& (1023 : Int32))))), .second] [(.int (1 : Int32))])) _
      exact retN X14 hx (t := .boolean) Bd.returns (by simp) (hb hby at_104) hr
  · show Q0 Z p1 p2 p3 h0 n0 _ T14.heap _
    exact ⟨rfl, N14⟩
set_option maxRecDepth 65536 in
set_option maxHeartbeats 40000000 in
theorem comes_1 {Post : Tables → Env → Array Value → State → Outcome → State → Prop} (hpost : ∀ tb e args s v u, (limb_1_1.after args s (.returned v) u = true ∧ limb_1_2.after args s (.returned v) u = true ∧ True) → FrameEnd s (.returned v) u (Jvm.fieldLocs frame_1_writes args s ++ Jvm.arrayLocs frame_1_arrays args s ++ Jvm.staticLocs frame_1_statics s) 16 2176 → Post tb e args s (.returned v) u) :
    ArmFor flags0 classFile x code maxLocals ret World_1 tables_1 room_1 Calls_1 rest_1 Pre_1 Post := by
  intro l hfl _ _ p e ha hc hk s m args below hf hA hF happ hP
  obtain ⟨hcalls, hrest, hpre⟩ := hP
  obtain ⟨-, -, -, hnamed, -, -, -, hat⟩ := (Spec.applies_iff hf).mp happ
  obtain ⟨hg, hn⟩ := and_e (Cond.before_iff.mp (show (Jvm.Cond.and given_1 narrow_1).before args s = true from hpre))
  obtain ⟨gc, gr0⟩ := and_e hg
  obtain ⟨ga0, gr1⟩ := and_e gr0
  obtain ⟨ga1, gr2⟩ := and_e gr1
  have ga2 := gr2
  obtain ⟨w0, w1, w2, rfl⟩ : ∃ w0 w1 w2 : Value, args = #[w0, w1, w2] := by
    have hs : args.size = 3 := by simpa [Cond.value, given_1] using gc
    obtain ⟨L⟩ := args
    match L, hs with
    | [w0, w1, w2], _ => exact ⟨w0, w1, w2, rfl⟩
  have hw := fun d (hd : d ∈ tables_1) => atoms_spec (ws := Jvm.Cond.code x code maxLocals ret :: tables_1) hat d (List.mem_cons_of_mem _ hd)
  obtain ⟨i0, ei0⟩ := is_v ga0
  obtain rfl : w0 = (.int i0) := Option.some.inj ei0
  obtain ⟨i1, ei1⟩ := is_v ga1
  obtain rfl : w1 = (.int i1) := Option.some.inj ei1
  obtain ⟨i2, ei2⟩ := is_v ga2
  obtain rfl : w2 = (.int i2) := Option.some.inj ei2
  obtain ⟨n, o, h1, h2, h3, _, L, rfl, ⟨rfl, N⟩, hq⟩ := rm0 l s _ hw tables_1 i0 i1 i2 s.heap s.heap.size (Nat.le_refl _) p e ha hc hk s m _ below hf ((Spec.applies_iff_loose hf).mp happ).1 ⟨rfl, State.Warmed39.refl s, rfl⟩ trivial
  refine ⟨n, _, h1, h2, h3, hpost _ _ _ _ _ _ ⟨Cond.after_iff.mpr rfl, Cond.after_iff.mpr (eq_i res_at (Term.int_eval (1)) rfl), trivial⟩ ⟨hq.1, hq.2.1, (hq.2.2.sift fun y hy => Or.inr (N y hy)).mono (by decide) (by decide)⟩⟩
theorem main_1_1 : Claimed_1_1 := comes_1 fun _ _ _ _ _ _ h hF => ⟨h.1, hF⟩
theorem main_1_2 : Claimed_1_2 := comes_1 fun _ _ _ _ _ _ h hF => ⟨h.2.1, hF⟩
end Jvm.Pilot.@@N@@
namespace Jvm.Pilot.@@N@@
open Jvm Jvm.ClassFile Sem Op Lib Jvm.Free Jvm.Stand Jvm.Pilot.@@N@@.Jvm.D
/-! MADE BY PROGRAM (witnessworld.py) out of the Statement's table words and the real class files: 12 classes; the members and pool entries that the words name. The judged class is class 1, her method 1. -/
namespace start1
open Jvm.ClassFile
def u (s : String) : CpInfo := .utf8 (stringToUtf16 s)
/-- a pool by its gaps: so many unusable entries, then the entry; so many at the end -/
def gap : Nat → List CpInfo → List CpInfo
  | 0, r => r
  | n + 1, r => .unusable :: gap n r
def poolList (es : List (Nat × CpInfo)) (last : Nat) : List CpInfo := es.foldr (fun e r => gap e.1 (e.2 :: r)) (gap last [])
def pool (es : List (Nat × CpInfo)) (last : Nat) : Array CpInfo := ⟨poolList es last⟩
def fileOf (pool : Array CpInfo) (this : Nat) (attrs : Array Attribute := #[]) (ms : Array MethodInfo := #[]) (fl : Nat := 33) (sup : Nat := 0) (ifs : Array Nat := #[]) (fds : Array FieldInfo := #[]) : ClassFile where
  minorVersion := 0
  majorVersion := 65
  constantPool := pool
  accessFlags := fl
  thisClass := this
  superClass := sup
  interfaces := ifs
  fields := fds
  methods := ms
  attributes := attrs
def plain (name : String) (sup : Option ClassId) : Class where
  name := name
  kind := .ordinary
  loader := none
  accessFlags := 33
  super := sup
  interfaces := #[]
  cf := none
  fields := #[]
  methods := #[]
  instanceTypes := #[]
  staticTypes := #[]
  resolved := #[]
  callSites := []
  init := .initialized
  statics := none
  mirror := none

def pool0 : Array CpInfo := pool [(5, u "<init>"), (0, u "()V"), (1, .class_ 10), (1, u "java/lang/Object")] 113

def k0c0 : Code := { maxStack := 0, maxLocals := 1, code := object_method_1_code, exceptionTable := #[], attributes := #[] }
def k0m0 : Method := { name := "<init>", desc := "()V", sig := { parameters := [], returnType := none }, accessFlags := 1, code := some k0c0 }
/-- java/lang/Object -/
def k0 : Class := { plain "java/lang/Object" none with
  accessFlags := 33
  interfaces := #[]
  cf := some (fileOf pool0 8 #[] #[{ accessFlags := 1, nameIndex := 5, descriptorIndex := 6, attributes := #[] }] 33 0 #[] #[])
  fields := #[]
  methods := #[k0m0]
  instanceTypes := #[]
  staticTypes := #[]
  resolved := Array.replicate 124 none
  statics := none }

def pool1 : Array CpInfo := pool [(2, .class_ 4), (1, u "java/lang/Object"), (0, u "<init>"), (0, u "()V"), (0, .integer 1048575), (0, .class_ 9), (0, u "com/example/frontgauge/frontgauge/BoxPartition"), (0, .methodref 8 11), (0, .nameAndType 5 12), (0, u "(II)V"), (0, .methodref 8 14), (0, .nameAndType 15 16), (0, u "exclusiveError"), (0, u "(DI)D"), (0, .double 103582791429521408), (1, .long 2), (1, .long 3), (1, .double 4368491638549381120), (1, .class_ 26), (0, u "com/example/frontgauge/frontgauge/BoxPartitionExclusiveErrorPinLaw"), (2, u "law"), (0, u "(III)Z")] 3

def k1m0 : Method := { name := "<init>", desc := "()V", sig := { parameters := [], returnType := none }, accessFlags := 1, code := none }
def k1c1 : Code := { maxStack := 6, maxLocals := 13, code := code, exceptionTable := #[], attributes := #[] }
def k1m1 : Method := { name := "law", desc := "(III)Z", sig := { parameters := [.int, .int, .int], returnType := some .boolean }, accessFlags := 9, code := some k1c1 }
/-- com/example/frontgauge/frontgauge/BoxPartitionExclusiveErrorPinLaw -/
def k1 : Class := { plain "com/example/frontgauge/frontgauge/BoxPartitionExclusiveErrorPinLaw" (some 0) with
  accessFlags := 49
  interfaces := #[]
  cf := some (fileOf pool1 25 #[] #[{ accessFlags := 1, nameIndex := 5, descriptorIndex := 6, attributes := #[] }, { accessFlags := 9, nameIndex := 29, descriptorIndex := 30, attributes := #[] }] 49 2 #[] #[])
  fields := #[]
  methods := #[k1m0, k1m1]
  instanceTypes := #[]
  staticTypes := #[]
  resolved := Array.replicate 34 none
  statics := none }

def pool2 : Array CpInfo := pool [(1, .methodref 2 3), (0, .class_ 4), (0, .nameAndType 5 6), (0, u "java/lang/Object"), (0, u "<init>"), (0, u "()V"), (0, .fieldref 8 9), (0, .class_ 10), (0, .nameAndType 11 12), (0, u "com/example/frontgauge/frontgauge/BoxPartition"), (0, u "m"), (0, u "I"), (0, .methodref 14 15), (0, .class_ 16), (0, .nameAndType 17 18), (0, u "java/lang/Math"), (0, u "max"), (0, u "(II)I"), (0, .fieldref 8 20), (0, .nameAndType 21 22), (0, u "values"), (0, u "[D"), (0, .fieldref 8 24), (0, .nameAndType 25 26), (0, u "ids"), (0, u "[I"), (0, .fieldref 8 28), (0, .nameAndType 29 26), (0, u "rows"), (22, u "visited"), (0, u "J"), (16, .double 4611686018427387904), (1, .double 4368491638549381120), (1, .double 103582791429521408), (82, u "(II)V"), (8, u "exclusiveError"), (0, u "(DI)D")] 4

def k2c0 : Code := { maxStack := 3, maxLocals := 4, code := prog_3_method_1_code, exceptionTable := #[], attributes := #[] }
def k2m0 : Method := { name := "<init>", desc := "(II)V", sig := { parameters := [.int, .int], returnType := none }, accessFlags := 0, code := some k2c0 }
def k2c1 : Code := { maxStack := 6, maxLocals := 4, code := prog_3_method_5_code, exceptionTable := #[], attributes := #[] }
def k2m1 : Method := { name := "exclusiveError", desc := "(DI)D", sig := { parameters := [.double, .int], returnType := some .double }, accessFlags := 0, code := some k2c1 }
/-- com/example/frontgauge/frontgauge/BoxPartition -/
def k2 : Class := { plain "com/example/frontgauge/frontgauge/BoxPartition" (some 0) with
  accessFlags := 48
  interfaces := #[]
  cf := some (fileOf pool2 8 #[] #[{ accessFlags := 0, nameIndex := 5, descriptorIndex := 157, attributes := #[] }, { accessFlags := 0, nameIndex := 166, descriptorIndex := 167, attributes := #[] }] 48 2 #[] #[{ accessFlags := 18, nameIndex := 11, descriptorIndex := 12, attributes := #[] }, { accessFlags := 2, nameIndex := 21, descriptorIndex := 22, attributes := #[] }, { accessFlags := 2, nameIndex := 25, descriptorIndex := 26, attributes := #[] }, { accessFlags := 2, nameIndex := 29, descriptorIndex := 26, attributes := #[] }, { accessFlags := 2, nameIndex := 52, descriptorIndex := 53, attributes := #[] }])
  fields := #[{ name := "m", type := .int, accessFlags := 18, slot := 0, constantValue := 0 }, { name := "values", type := (.array .double), accessFlags := 2, slot := 1, constantValue := 0 }, { name := "ids", type := (.array .int), accessFlags := 2, slot := 2, constantValue := 0 }, { name := "rows", type := (.array .int), accessFlags := 2, slot := 3, constantValue := 0 }, { name := "visited", type := .long, accessFlags := 2, slot := 4, constantValue := 0 }]
  methods := #[k2m0, k2m1]
  instanceTypes := #[.int, (.array .double), (.array .int), (.array .int), .long]
  staticTypes := #[]
  resolved := Array.replicate 172 none
  statics := none }

def pool3 : Array CpInfo := pool [(1, .class_ 2), (0, u "java/lang/Math"), (1, .class_ 6), (1, u "java/lang/Object"), (0, u "<init>"), (0, u "()V"), (89, .class_ 100), (1, u "java/lang/Math$RandomNumberGeneratorHolder"), (71, u "negativeZeroFloatBits"), (0, u "J"), (2, u "negativeZeroDoubleBits"), (21, u "max"), (46, u "$assertionsDisabled"), (0, u "Z"), (88, u "(II)I"), (2, u "twoToTheDoubleScaleDown"), (0, u "D"), (4, u "twoToTheDoubleScaleUp"), (9, u "E"), (3, u "PI"), (2, u "TAU"), (2, u "DEGREES_TO_RADIANS"), (0, u "RADIANS_TO_DEGREES")] 94

def k3m0 : Method := { name := "<init>", desc := "()V", sig := { parameters := [], returnType := none }, accessFlags := 2, code := none }
def k3c1 : Code := { maxStack := 2, maxLocals := 2, code := jdk_29_method_65_code, exceptionTable := #[], attributes := #[] }
def k3m1 : Method := { name := "max", desc := "(II)I", sig := { parameters := [.int, .int], returnType := some .int }, accessFlags := 9, code := some k3c1 }
/-- java/lang/Math -/
def k3 : Class := { plain "java/lang/Math" (some 0) with
  accessFlags := 49
  interfaces := #[]
  cf := some (fileOf pool3 1 #[.nestMembers #[98]] #[{ accessFlags := 2, nameIndex := 7, descriptorIndex := 8, attributes := #[] }, { accessFlags := 9, nameIndex := 198, descriptorIndex := 335, attributes := #[] }] 49 4 #[] #[{ accessFlags := 25, nameIndex := 354, descriptorIndex := 339, attributes := #[] }, { accessFlags := 25, nameIndex := 358, descriptorIndex := 339, attributes := #[] }, { accessFlags := 25, nameIndex := 361, descriptorIndex := 339, attributes := #[] }, { accessFlags := 26, nameIndex := 364, descriptorIndex := 339, attributes := #[] }, { accessFlags := 26, nameIndex := 365, descriptorIndex := 339, attributes := #[] }, { accessFlags := 26, nameIndex := 172, descriptorIndex := 173, attributes := #[] }, { accessFlags := 26, nameIndex := 176, descriptorIndex := 173, attributes := #[] }, { accessFlags := 8, nameIndex := 344, descriptorIndex := 339, attributes := #[] }, { accessFlags := 8, nameIndex := 338, descriptorIndex := 339, attributes := #[] }, { accessFlags := 4120, nameIndex := 245, descriptorIndex := 246, attributes := #[] }])
  fields := #[{ name := "E", type := .double, accessFlags := 25, slot := 0, constantValue := 0 }, { name := "PI", type := .double, accessFlags := 25, slot := 1, constantValue := 0 }, { name := "TAU", type := .double, accessFlags := 25, slot := 2, constantValue := 0 }, { name := "DEGREES_TO_RADIANS", type := .double, accessFlags := 26, slot := 3, constantValue := 0 }, { name := "RADIANS_TO_DEGREES", type := .double, accessFlags := 26, slot := 4, constantValue := 0 }, { name := "negativeZeroFloatBits", type := .long, accessFlags := 26, slot := 5, constantValue := 0 }, { name := "negativeZeroDoubleBits", type := .long, accessFlags := 26, slot := 6, constantValue := 0 }, { name := "twoToTheDoubleScaleUp", type := .double, accessFlags := 8, slot := 7, constantValue := 0 }, { name := "twoToTheDoubleScaleDown", type := .double, accessFlags := 8, slot := 8, constantValue := 0 }, { name := "$assertionsDisabled", type := .boolean, accessFlags := 4120, slot := 9, constantValue := 0 }]
  methods := #[k3m0, k3m1]
  instanceTypes := #[]
  staticTypes := #[.double, .double, .double, .double, .double, .long, .long, .double, .double, .boolean]
  resolved := Array.replicate 460 none
  statics := none }

def pool4 : Array CpInfo := pool [(1, u "java/lang/Cloneable"), (0, .class_ 1), (0, u "java/lang/Object"), (0, .class_ 3)] 3

/-- java/lang/Cloneable -/
def k4 : Class := { plain "java/lang/Cloneable" (some 0) with
  accessFlags := 1537
  interfaces := #[]
  cf := some (fileOf pool4 2 #[] #[] 1537 4 #[] #[])
  fields := #[]
  methods := #[]
  instanceTypes := #[]
  staticTypes := #[]
  resolved := Array.replicate 8 none
  statics := none }

def pool5 : Array CpInfo := pool [(1, u "java/io/Serializable"), (0, .class_ 1), (0, u "java/lang/Object"), (0, .class_ 3)] 3

/-- java/io/Serializable -/
def k5 : Class := { plain "java/io/Serializable" (some 0) with
  accessFlags := 1537
  interfaces := #[]
  cf := some (fileOf pool5 2 #[] #[] 1537 4 #[] #[])
  fields := #[]
  methods := #[]
  instanceTypes := #[]
  staticTypes := #[]
  resolved := Array.replicate 8 none
  statics := none }

/-- the primitive byte -/
def k6 : Class := { plain "byte" none with kind := .primitive 'B', accessFlags := 0x411 }
/-- [B -/
def k7 : Class := { plain "[B" (some 0) with kind := .array 6 .byte, interfaces := #[4, 5], accessFlags := 1041 }

/-- the primitive double -/
def k8 : Class := { plain "double" none with kind := .primitive 'D', accessFlags := 0x411 }
/-- [D -/
def k9 : Class := { plain "[D" (some 0) with kind := .array 8 .double, interfaces := #[4, 5], accessFlags := 1041 }

/-- the primitive int -/
def k10 : Class := { plain "int" none with kind := .primitive 'I', accessFlags := 0x411 }
/-- [I -/
def k11 : Class := { plain "[I" (some 0) with kind := .array 10 .int, interfaces := #[4, 5], accessFlags := 1041 }

def heap : Heap := #[]
def classes : Array Class := #[k0, k1, k2, k3, k4, k5, k6, k7, k8, k9, k10, k11]
def interned : List (Array UInt16 × Addr) := []
def slotsUsed : Nat := 0
def theMethod : MethodId := ⟨1, 1⟩
def args0 : Array Value := #[.int 5, .int 5, .int 5]
def aboutOver (below : List Frame) : State where
  vm := { classes := classes, interned := interned.toArray }
  heap := heap
  slotsUsed := slotsUsed
  threads := #[{ frames := .invoking theMethod args0 :: below }]
def below0 : List Frame := [.native { method := ⟨0, 0⟩, args := #[] }]
def about1 : State := aboutOver below0
def p0 : Program := .bare "" "" ""
def e0 : Env := launch0.env 0 0 0
theorem w_frames : about1.frames = Frame.invoking theMethod args0 :: below0 := rfl
set_option maxRecDepth 65536 in
theorem w_args : argsFit about1.vm theMethod args0 = true := by decide +kernel
set_option maxRecDepth 65536 in
theorem w_heap : heapFits about1 = true := by decide +kernel
set_option maxRecDepth 65536 in
theorem w_runnable : about1.curStatus? = some .runnable := by decide +kernel
set_option maxRecDepth 65536 in
theorem w_alone : about1.alone = true := by decide +kernel
set_option maxRecDepth 65536 in
theorem w_named : about1.methodNamed? x = some theMethod := by decide +kernel
set_option maxRecDepth 65536 in
theorem w_hears : about1.hears theMethod below0 = true := by decide +kernel
set_option maxRecDepth 65536 in
theorem w_ripe : about1.ripe theMethod args0 below0 = true := by decide +kernel
theorem w_running : about1.status = .running := rfl
set_option maxRecDepth 65536 in
theorem w_room : about1.hasRoom e0.platform room_1 = true :=
  launch0.hasRoom_least _ room_1 (by decide +kernel) (by decide +kernel) (by decide +kernel) (by decide +kernel) (by decide +kernel) (by decide +kernel)
theorem allAtoms_all (ts : List Jvm.Cond) (a : Array Jvm.Value) (st : Jvm.State) : (allAtoms ts).before a st = ts.all (fun c => c.before a st) := by
  induction ts with
  | nil => rfl
  | cons c t ih =>
    show (Jvm.Cond.and c (allAtoms t)).before a st = _
    rw [Jvm.Cond.before_and, ih, List.all_cons]
def words1 : List Jvm.Cond := Jvm.Cond.code x code maxLocals ret :: tables_1
/-- a 'code' word, met by the world's own term for the bytes: nothing is compared byte by byte -/
theorem code_word {y : MethodName} {bytes : ByteArray} {mx : Nat} {rt : Option FieldType} {a : Array Value} {s : State} {m : MethodId} {meth : Method} {c : Code} (h1 : s.methodNamed? y = some m) (h2 : s.vm.method? m = some meth) (h3 : meth.code = some c) (h4 : c.code = bytes)
    (h5 : (c.maxLocals == mx && c.exceptionTable.isEmpty && decide (c.maxStack ≤ mostOperands) && decide (meth.sig.returnType = rt) && !meth.locks && decide (parseMethodDescriptor y.desc = some meth.sig)) = true) : (Jvm.Cond.code y bytes mx rt).before a s = true := by
  simp only [Bool.and_eq_true, beq_iff_eq, Bool.not_eq_true', decide_eq_true_eq] at h5
  obtain ⟨⟨⟨⟨⟨g1, g2⟩, g3⟩, g4⟩, g5⟩, g6⟩ := h5
  simp [Cond.before, Cond.holds, Cond.value, h1, h2, h3, h4, g1, g2, g3, g4, g5, g6]
def isCode : Jvm.Cond → Bool
  | .code _ _ _ _ => true
  | _ => false
theorem all_split {L : List Jvm.Cond} {P : Jvm.Cond → Bool} (h1 : L.all (fun c => isCode c || P c) = true) (h2 : ∀ c ∈ L.filter isCode, P c = true) : L.all P = true := by
  refine List.all_eq_true.mpr fun c hc => ?_
  have h := List.all_eq_true.mp h1 c hc
  rcases Bool.eq_false_or_eq_true (isCode c) with hi | hi
  · exact h2 c (List.mem_filter.mpr ⟨hc, hi⟩)
  · simpa [hi] using h
set_option maxRecDepth 65536 in
theorem w_c0 : (Jvm.Cond.code x code maxLocals ret).before args0 about1 = true := code_word (m := ⟨1, 1⟩) (meth := k1m1) (c := k1c1) (by decide +kernel) rfl rfl rfl (by decide +kernel)
set_option maxRecDepth 65536 in
theorem w_c1 : (Jvm.Cond.code ({ cls := "com/example/frontgauge/frontgauge/BoxPartition", name := "<init>", desc := "(II)V" } : Jvm.MethodName) prog_3_method_1_code (4 : Nat) (Option.none : Option Jvm.ClassFile.FieldType)).before args0 about1 = true := code_word (m := ⟨2, 0⟩) (meth := k2m0) (c := k2c0) (by decide +kernel) rfl rfl rfl (by decide +kernel)
set_option maxRecDepth 65536 in
theorem w_c2 : (Jvm.Cond.code ({ cls := "java/lang/Object", name := "<init>", desc := "()V" } : Jvm.MethodName) object_method_1_code (1 : Nat) (Option.none : Option Jvm.ClassFile.FieldType)).before args0 about1 = true := code_word (m := ⟨0, 0⟩) (meth := k0m0) (c := k0c0) (by decide +kernel) rfl rfl rfl (by decide +kernel)
set_option maxRecDepth 65536 in
theorem w_c3 : (Jvm.Cond.code ({ cls := "java/lang/Math", name := "max", desc := "(II)I" } : Jvm.MethodName) jdk_29_method_65_code (2 : Nat) (Option.some Jvm.ClassFile.FieldType.int)).before args0 about1 = true := code_word (m := ⟨3, 1⟩) (meth := k3m1) (c := k3c1) (by decide +kernel) rfl rfl rfl (by decide +kernel)
set_option maxRecDepth 65536 in
theorem w_c4 : (Jvm.Cond.code ({ cls := "com/example/frontgauge/frontgauge/BoxPartition", name := "exclusiveError", desc := "(DI)D" } : Jvm.MethodName) prog_3_method_5_code (4 : Nat) (Option.some Jvm.ClassFile.FieldType.double)).before args0 about1 = true := code_word (m := ⟨2, 1⟩) (meth := k2m1) (c := k2c1) (by decide +kernel) rfl rfl rfl (by decide +kernel)
def codes1 : List Jvm.Cond := [Jvm.Cond.code x code maxLocals ret, Jvm.Cond.code ({ cls := "com/example/frontgauge/frontgauge/BoxPartition", name := "<init>", desc := "(II)V" } : Jvm.MethodName) prog_3_method_1_code (4 : Nat) (Option.none : Option Jvm.ClassFile.FieldType), Jvm.Cond.code ({ cls := "java/lang/Object", name := "<init>", desc := "()V" } : Jvm.MethodName) object_method_1_code (1 : Nat) (Option.none : Option Jvm.ClassFile.FieldType), Jvm.Cond.code ({ cls := "java/lang/Math", name := "max", desc := "(II)I" } : Jvm.MethodName) jdk_29_method_65_code (2 : Nat) (Option.some Jvm.ClassFile.FieldType.int), Jvm.Cond.code ({ cls := "com/example/frontgauge/frontgauge/BoxPartition", name := "exclusiveError", desc := "(DI)D" } : Jvm.MethodName) prog_3_method_5_code (4 : Nat) (Option.some Jvm.ClassFile.FieldType.double)]
set_option maxRecDepth 65536 in
theorem codes_eq : words1.filter isCode = codes1 := rfl
theorem w_codes : ∀ c ∈ words1.filter isCode, c.before args0 about1 = true := by
  rw [codes_eq]
  intro c hc
  simp only [codes1, List.mem_cons, List.not_mem_nil, or_false] at hc
  rcases hc with rfl | rfl | rfl | rfl | rfl
  · exact w_c0
  · exact w_c1
  · exact w_c2
  · exact w_c3
  · exact w_c4
set_option maxRecDepth 65536 in
theorem w_t1 : (words1.take 24).all (fun c => isCode c || c.before args0 about1) = true := by decide +kernel
set_option maxRecDepth 65536 in
theorem w_t2 : (words1.drop 24).all (fun c => isCode c || c.before args0 about1) = true := by decide +kernel
theorem w_tables : (allAtoms (Jvm.Cond.code x code maxLocals ret :: tables_1)).before args0 about1 = true := by
  rw [allAtoms_all]
  show words1.all (fun c => c.before args0 about1) = true
  refine all_split ?_ w_codes
  rw [← List.take_append_drop 24 words1, List.all_append, w_t1, w_t2]
  rfl
set_option maxRecDepth 65536 in
theorem w_case : (Jvm.Cond.and given_1 narrow_1).before args0 about1 = true := by decide +kernel
theorem w_applies : (headSpec (Jvm.Cond.code x code maxLocals ret :: tables_1) room_1).applies x e0.platform about1 = true :=
  (Spec.applies_iff w_frames).mpr ⟨w_running, w_runnable, w_alone, w_named, w_hears, w_ripe, w_room, w_tables⟩
theorem atStart : AtStart classFile x code maxLocals ret World_1 tables_1 room_1 Calls_1 rest_1 Pre_1 launch0 p0 e0 about1 theMethod args0 below0 :=
  ⟨lists_1, trivial, launch0.admits_env _ _ _, launch0.least_env, fairChoices_fair.cas, fairChoices_fair.clock, w_frames, w_args, w_heap, w_applies, trivial, trivial, w_case⟩
end start1
theorem witness_1 : WitnessClaimed_1 := ⟨start1.p0, start1.e0, start1.about1, start1.theMethod, start1.args0, start1.below0, start1.atStart⟩
end Jvm.Pilot.@@N@@
