import JvmDerived
import JvmDerived.Pilot.@@N@@Statement
import JvmDerived.Pilot.@@N@@Code
set_option linter.unusedVariables false
set_option linter.unusedSimpArgs false
@@BLOCK:NumsL.lean.txt@@
namespace Jvm.Pilot.@@N@@
section OwnFl
open Jvm Jvm.FP Jvm.FP.Core Jvm.Free.Fl Jvm.Op
/-- a double's worth, in units of the least double -/
def own_zv (x : UInt64) : Int := zval b64 (val64 x)
/-- a worth that a finite double has -/
def own_rep (z : Int) : Prop := ∃ V, Core.fits b64 V ∧ (∃ s c q, V = .fin s c q) ∧ zval b64 V = z
theorem own_fin_ne {x : UInt64} (h : DFin x) : val64 x ≠ .nan := by
  obtain ⟨s, c, q, h⟩ := h; rw [h]; exact Datum.noConfusion
theorem own_nn {x : UInt64} (h : DFin x) : NoNaN64 x := val64_no.mpr (own_fin_ne h)
theorem own_rep_of {x : UInt64} (h : DFin x) : own_rep (own_zv x) := ⟨_, val64_fits x, h, rfl⟩
theorem own_rep_mk (s : Bool) {c k : Nat} (hc : c < 2 ^ 53) (hk : k ≤ 2045) : own_rep (signed s (c * 2 ^ k)) := by
  obtain ⟨c', q', h1, h2⟩ := round_exact (f := b64) good_b64 s (c := c) (q := (k : Int) - 1074) hc (by rw [qmin_b64]; omega)
    (by rw [show b64.qmax = 971 from by decide]; omega)
  refine ⟨_, round_fits good_b64 (.fin s c ((k : Int) - 1074)), ⟨_, _, _, h1⟩, ?_⟩
  rw [h1]
  show signed s (inUnits c' q' b64.qmin) = _
  rw [h2]
  unfold inUnits
  rw [qmin_b64, show ((k : Int) - 1074 - -1074).toNat = k by omega]
theorem own_rep_nat {c k : Nat} (hc : c < 2 ^ 53) (hk : k ≤ 2045) : own_rep ((c : Int) * ((2 ^ k : Nat) : Int)) := by
  have := own_rep_mk false hc hk
  simp only [signed, Bool.false_eq_true, if_false] at this
  rw [Int.natCast_mul] at this; exact this
theorem own_rep_neg {z : Int} (h : own_rep z) : own_rep (-z) := by
  obtain ⟨V, h1, ⟨s, c, q, rfl⟩, h3⟩ := h
  exact ⟨negate (.fin s c q), negate_fits h1, ⟨_, _, _, rfl⟩, by rw [zval_negate, h3]⟩
theorem own_rep_int {i : Int} {k : Nat} (hi : i.natAbs < 2 ^ 53) (hk : k ≤ 2045) : own_rep (i * ((2 ^ k : Nat) : Int)) := by
  have := own_rep_nat hi hk
  rcases Int.natAbs_eq i with h | h
  · rw [h]; exact this
  · rw [h, Int.neg_mul]; exact own_rep_neg this
theorem own_top {z : Int} (h : own_rep z) : z < ((b64.tails * 2 ^ (b64.exps - 2) : Nat) : Int) ∧ -((b64.tails * 2 ^ (b64.exps - 2) : Nat) : Int) < z := by
  obtain ⟨V, h1, ⟨s, c, q, rfl⟩, rfl⟩ := h
  have h2 := zmag_lt_top good_b64 h1
  show signed s (inUnits c q b64.qmin) < _ ∧ _ < signed s (inUnits c q b64.qmin)
  generalize b64.tails * 2 ^ (b64.exps - 2) = K at *
  generalize inUnits c q b64.qmin = k at *
  cases s <;> simp only [signed, if_true, Bool.false_eq_true, if_false] <;> constructor <;> omega
/-- no NaN and between two finite worths: finite -/
theorem own_fin_of {x : UInt64} (hn : val64 x ≠ .nan) {lo hi : Int} (hl : own_rep lo) (hh : own_rep hi) (h1 : lo ≤ own_zv x) (h2 : own_zv x ≤ hi) : DFin x := by
  have a := (own_top hl).2
  have b := (own_top hh).1
  unfold own_zv at h1 h2
  cases hv : val64 x with
  | nan => exact absurd hv hn
  | fin s c q => exact ⟨s, c, q, hv⟩
  | inf s =>
    exfalso
    rw [hv] at h1 h2
    simp only [zval, sgn, zmag] at h1 h2
    generalize b64.tails * 2 ^ (b64.exps - 2) = K at *
    cases s <;> simp only [signed, if_true, Bool.false_eq_true, if_false] at h1 h2 <;> omega
theorem own_cmp {x y : UInt64} (hx : DFin x) (hy : DFin y) : FP.dcmp x y = some (compare (own_zv x) (own_zv y)) :=
  order_zval good_b64 (val64_fits x) (val64_fits y) (own_fin_ne hx) (own_fin_ne hy)
theorem own_cmp_lt {x y : UInt64} (hx : DFin x) (hy : DFin y) (h : own_zv x < own_zv y) : FP.dcmp x y = some .lt := by
  rw [own_cmp hx hy, compare_ite, if_pos h]
theorem own_cmp_eq {x y : UInt64} (hx : DFin x) (hy : DFin y) (h : own_zv x = own_zv y) : FP.dcmp x y = some .eq := by
  rw [own_cmp hx hy, compare_ite, if_neg (by omega), if_pos h]
theorem own_cmp_gt {x y : UInt64} (hx : DFin x) (hy : DFin y) (h : own_zv y < own_zv x) : FP.dcmp x y = some .gt := by
  rw [own_cmp hx hy, compare_ite, if_neg (by omega), if_neg (by omega)]
theorem own_v_lt {x y : UInt64} (h : FP.dcmp x y = some .lt) (o : ClassFile.CmpOp) : cmpValue (FP.dcmp x y) o = -1 := by rw [h]; rfl
theorem own_v_eq {x y : UInt64} (h : FP.dcmp x y = some .eq) (o : ClassFile.CmpOp) : cmpValue (FP.dcmp x y) o = 0 := by rw [h]; rfl
theorem own_v_gt {x y : UInt64} (h : FP.dcmp x y = some .gt) (o : ClassFile.CmpOp) : cmpValue (FP.dcmp x y) o = 1 := by rw [h]; rfl
/-! sums -/
theorem own_round_ne (d : Datum) (h : d ≠ .nan) : round b64 d ≠ .nan := by
  cases d with
  | nan => exact absurd rfl h
  | inf s => exact Datum.noConfusion
  | fin s c q => exact roundRatio_ne_nan _ _ _ _ _
theorem own_add {x y : UInt64} (hx : DFin x) (hy : DFin y) {lo hi : Int} (hl : own_rep lo) (hh : own_rep hi) (h1 : lo ≤ own_zv x + own_zv y) (h2 : own_zv x + own_zv y ≤ hi) :
    DFin (FP.dadd x y) ∧ lo ≤ own_zv (FP.dadd x y) ∧ own_zv (FP.dadd x y) ≤ hi := by
  have e : val64 (FP.dadd x y) = round b64 (exactSum (val64 x) (val64 y)) := val64_dadd x y
  have hn : val64 (FP.dadd x y) ≠ .nan := by
    rw [e]; apply own_round_ne
    obtain ⟨s, c, q, hx⟩ := hx; obtain ⟨t, d, r, hy⟩ := hy
    rw [hx, hy]; exact Datum.noConfusion
  obtain ⟨Vl, a1, ⟨_, _, _, a2⟩, rfl⟩ := id hl
  obtain ⟨Vh, b1, ⟨_, _, _, b2⟩, rfl⟩ := id hh
  have g1 : zval b64 Vl ≤ own_zv (FP.dadd x y) := by
    unfold own_zv; rw [e]; exact sum_ge good_b64 hx hy (val64_fits x) (val64_fits y) a1 (by rw [a2]; exact Datum.noConfusion) h1
  have g2 : own_zv (FP.dadd x y) ≤ zval b64 Vh := by
    unfold own_zv; rw [e]; exact sum_le good_b64 hx hy (val64_fits x) (val64_fits y) b1 (by rw [b2]; exact Datum.noConfusion) h2
  exact ⟨own_fin_of hn hl hh g1 g2, g1, g2⟩
theorem own_add_eq {x y : UInt64} (hx : DFin x) (hy : DFin y) (hr : own_rep (own_zv x + own_zv y)) : DFin (FP.dadd x y) ∧ own_zv (FP.dadd x y) = own_zv x + own_zv y := by
  obtain ⟨a, b, c⟩ := own_add hx hy hr hr (Int.le_refl _) (Int.le_refl _)
  exact ⟨a, Int.le_antisymm c b⟩
theorem own_neg_fin {x : UInt64} (h : DFin x) : DFin (FP.dneg x) ∧ own_zv (FP.dneg x) = -own_zv x := by
  have e : val64 (FP.dneg x) = negate (val64 x) := FP.val64_dneg x
  unfold own_zv DFin
  rw [e, zval_negate]
  obtain ⟨s, c, q, h⟩ := h
  exact ⟨⟨_, _, _, by rw [h]; rfl⟩, rfl⟩
theorem own_sub {x y : UInt64} (hx : DFin x) (hy : DFin y) {lo hi : Int} (hl : own_rep lo) (hh : own_rep hi) (h1 : lo ≤ own_zv x - own_zv y) (h2 : own_zv x - own_zv y ≤ hi) :
    DFin (FP.dsub x y) ∧ lo ≤ own_zv (FP.dsub x y) ∧ own_zv (FP.dsub x y) ≤ hi := by
  obtain ⟨n1, n2⟩ := own_neg_fin hy
  have e : FP.dsub x y = FP.dadd x (FP.dneg y) := by
    rw [show FP.dneg y = Core.dneg y from dneg_core (noNaN64_no.mp (own_nn hy))]; exact dsub_eq x y
  rw [e]
  exact own_add hx n1 hl hh (by rw [n2]; omega) (by rw [n2]; omega)
/-! products -/
theorem own_pow_U : (b64.qmin - 2 * b64.qmin).toNat = 1074 := by decide
theorem own_mul {x y : UInt64} (hx : DFin x) (hy : DFin y) {lo hi : Int} (hl : own_rep lo) (hh : own_rep hi) (h1 : lo * ((2 ^ 1074 : Nat) : Int) ≤ own_zv x * own_zv y) (h2 : own_zv x * own_zv y ≤ hi * ((2 ^ 1074 : Nat) : Int)) :
    DFin (FP.dmul x y) ∧ lo ≤ own_zv (FP.dmul x y) ∧ own_zv (FP.dmul x y) ≤ hi := by
  have e : val64 (FP.dmul x y) = round b64 (exactProduct (val64 x) (val64 y)) := val64_dmul x y
  have fx := val64_fits x
  have fy := val64_fits y
  unfold own_zv at h1 h2
  obtain ⟨s, c, q, ex⟩ := hx
  obtain ⟨t, d, r, ey⟩ := hy
  rw [ex] at fx e h1 h2
  rw [ey] at fy e h1 h2
  obtain ⟨p1, p2, p3⟩ := product_units fx fy
  rw [p1] at e
  have hn : val64 (FP.dmul x y) ≠ .nan := by rw [e]; exact roundRatio_ne_nan _ _ _ _ _
  have hv : signed (s != t) (inUnits (c * d) (q + r) (2 * b64.qmin)) = zval b64 (.fin s c q) * zval b64 (.fin t d r) := by
    rw [p3, signed_xor]; rfl
  obtain ⟨Vl, a1, ⟨_, _, _, a2⟩, rfl⟩ := id hl
  obtain ⟨Vh, b1, ⟨_, _, _, b2⟩, rfl⟩ := id hh
  have hq := qmin_neg good_b64
  have g1 : zval b64 Vl ≤ own_zv (FP.dmul x y) := by
    unfold own_zv; rw [e]
    exact zval_round_ge good_b64 a1 (by rw [a2]; exact Datum.noConfusion) (by omega) p2 (by rw [hv, own_pow_U]; exact h1)
  have g2 : own_zv (FP.dmul x y) ≤ zval b64 Vh := by
    unfold own_zv; rw [e]
    exact zval_round_le good_b64 b1 (by rw [b2]; exact Datum.noConfusion) (by omega) p2 (by rw [hv, own_pow_U]; exact h2)
  exact ⟨own_fin_of hn hl hh g1 g2, g1, g2⟩
theorem own_mul_eq {x y : UInt64} (hx : DFin x) (hy : DFin y) {z : Int} (hr : own_rep z) (h : own_zv x * own_zv y = z * ((2 ^ 1074 : Nat) : Int)) : DFin (FP.dmul x y) ∧ own_zv (FP.dmul x y) = z := by
  obtain ⟨a, b, c⟩ := own_mul hx hy hr hr (Int.le_of_eq h.symm) (Int.le_of_eq h)
  exact ⟨a, Int.le_antisymm c b⟩
/-! quotients of a number from nought on by one above nought -/
theorem own_div {x y : UInt64} (hx : DFin x) (hy : DFin y) (px : 0 ≤ own_zv x) (sx : sgn (val64 x) = false) (py : 0 < own_zv y) {lo hi : Int} (hl : own_rep lo) (hh : own_rep hi) (l0 : 0 ≤ lo) (h1 : lo * own_zv y ≤ own_zv x * ((2 ^ 1074 : Nat) : Int)) (h2 : own_zv x * ((2 ^ 1074 : Nat) : Int) ≤ hi * own_zv y) :
    DFin (FP.ddiv x y) ∧ lo ≤ own_zv (FP.ddiv x y) ∧ own_zv (FP.ddiv x y) ≤ hi ∧ sgn (val64 (FP.ddiv x y)) = false := by
  have e : val64 (FP.ddiv x y) = quotient b64 (val64 x) (val64 y) := val64_ddiv x y
  have fx := val64_fits x
  have fy := val64_fits y
  unfold own_zv at h1 h2 px py
  obtain ⟨s, c, q, ex⟩ := hx
  obtain ⟨t, d, r, ey⟩ := hy
  rw [ex] at fx e h1 h2 px sx
  rw [ey] at fy e h1 h2 py
  obtain rfl : s = false := sx
  have hpos : t = false ∧ 0 < d := by
    simp only [zval, sgn, zmag] at py
    cases t
    · refine ⟨rfl, ?_⟩
      rcases Nat.eq_zero_or_pos d with h | h
      · subst h; simp [signed, inUnits] at py
      · exact h
    · simp only [signed, if_true] at py; omega
  obtain ⟨rfl, hd⟩ := hpos
  have e2 : val64 (FP.ddiv x y) = roundRatio b64 false c d (q - r) := by
    rw [e]; simp only [quotient]; rw [if_neg (by omega)]; rfl
  have hn : val64 (FP.ddiv x y) ≠ .nan := by rw [e2]; exact roundRatio_ne_nan _ _ _ _ _
  have hs : sgn (val64 (FP.ddiv x y)) = false := by rw [e2]; exact sgn_roundRatio _ _ _ _ _
  have hzz : own_zv (FP.ddiv x y) = (zmag b64 (roundRatio b64 false c d (q - r)) : Int) := by
    unfold own_zv zval; rw [hs, e2]; rfl
  have q1 := fx.2.1; have q2 := fx.2.2.1; have r1 := fy.2.1; have r2 := fy.2.2.1
  rw [qmin_b64] at q1 r1
  rw [show b64.qmax = 971 from by decide] at q2 r2
  have k1 : zval b64 (.fin false c q) = ((c * 2 ^ (q + 1074).toNat : Nat) : Int) := by
    show ((inUnits c q b64.qmin : Nat) : Int) = _
    unfold inUnits; rw [qmin_b64, show (q - -1074).toNat = (q + 1074).toNat by omega]
  have k2 : zval b64 (.fin false d r) = ((d * 2 ^ (r + 1074).toNat : Nat) : Int) := by
    show ((inUnits d r b64.qmin : Nat) : Int) = _
    unfold inUnits; rw [qmin_b64, show (r - -1074).toNat = (r + 1074).toNat by omega]
  rw [k1, k2] at h1 h2
  have key : ∀ M : Nat, (inUnits c (q - r) (-4096) * 2 ^ (r + 1074).toNat = c * 2 ^ (q + 1074).toNat * 2 ^ 1074 * 2 ^ 1948 * 2 ^ 1074) ∧ (M * 2 ^ (b64.qmin - -4096).toNat * d * 2 ^ (r + 1074).toNat = M * (d * 2 ^ (r + 1074).toNat) * 2 ^ 1074 * 2 ^ 1948) := by
    intro M
    unfold inUnits
    refine ⟨?_, ?_⟩
    · rw [Nat.mul_assoc, ← Nat.pow_add, Nat.mul_assoc, Nat.mul_assoc, Nat.mul_assoc, ← Nat.pow_add, ← Nat.pow_add, ← Nat.pow_add]
      congr 2; omega
    · rw [show (b64.qmin - -4096).toNat = 1074 + 1948 from by decide, Nat.pow_add]
      generalize 2 ^ 1074 = a; generalize 2 ^ 1948 = b; generalize 2 ^ (r + 1074).toNat = w
      ac_rfl
  obtain ⟨Vl, a1, ⟨_, _, _, a2⟩, al⟩ := id hl
  obtain ⟨Vh, b1, ⟨_, _, _, b2⟩, bl⟩ := id hh
  have m1 : (zmag b64 Vl : Int) = lo ∨ (zmag b64 Vl : Int) = -lo := by
    rw [← al]; unfold zval; cases sgn Vl <;> simp [signed]
  have hi0 : 0 ≤ hi := by
    refine Int.not_lt.mp fun hneg => ?_
    have hw : (0 : Int) < ((d * 2 ^ (r + 1074).toNat : Nat) : Int) := by have := Nat.mul_pos hd (Nat.two_pow_pos (r + 1074).toNat); omega
    have := Int.mul_neg_of_neg_of_pos hneg hw
    have h0 : (0 : Int) ≤ ((c * 2 ^ (q + 1074).toNat : Nat) : Int) * ((2 ^ 1074 : Nat) : Int) := Int.mul_nonneg (Int.natCast_nonneg _) (Int.natCast_nonneg _)
    omega
  have m2 : (zmag b64 Vh : Int) = hi := by
    have : (zmag b64 Vh : Int) = hi ∨ (zmag b64 Vh : Int) = -hi := by
      rw [← bl]; unfold zval; cases sgn Vh <;> simp [signed]
    omega
  have m1' : (zmag b64 Vl : Int) = lo := by omega
  have g1 : zmag b64 Vl ≤ zmag b64 (roundRatio b64 false c d (q - r)) := by
    refine zmag_roundRatio_ge good_b64 hd a1 (e0 := -4096) (by rw [qmin_b64]; omega) (by omega) ?_
    refine Nat.le_of_mul_le_mul_right ?_ (Nat.two_pow_pos (r + 1074).toNat)
    rw [(key 0).1, (key (zmag b64 Vl)).2]
    rw [← m1'] at h1
    have h1' : zmag b64 Vl * (d * 2 ^ (r + 1074).toNat) ≤ c * 2 ^ (q + 1074).toNat * 2 ^ 1074 := by
      rw [← Int.natCast_mul, ← Int.natCast_mul] at h1; exact Int.ofNat_le.mp h1
    calc zmag b64 Vl * (d * 2 ^ (r + 1074).toNat) * 2 ^ 1074 * 2 ^ 1948 ≤ c * 2 ^ (q + 1074).toNat * 2 ^ 1074 * 2 ^ 1074 * 2 ^ 1948 :=
          Nat.mul_le_mul_right _ (Nat.mul_le_mul_right _ h1')
      _ = _ := by generalize 2 ^ 1074 = a; generalize 2 ^ 1948 = b; generalize c * 2 ^ (q + 1074).toNat = w; ac_rfl
  have g2 : zmag b64 (roundRatio b64 false c d (q - r)) ≤ zmag b64 Vh := by
    refine zmag_roundRatio_le good_b64 hd b1 (by rw [b2]; exact Datum.noConfusion) (e0 := -4096) (by rw [qmin_b64]; omega) (by omega) ?_
    refine Nat.le_of_mul_le_mul_right ?_ (Nat.two_pow_pos (r + 1074).toNat)
    rw [(key 0).1, (key (zmag b64 Vh)).2]
    rw [← m2] at h2
    have h2' : c * 2 ^ (q + 1074).toNat * 2 ^ 1074 ≤ zmag b64 Vh * (d * 2 ^ (r + 1074).toNat) := by
      rw [← Int.natCast_mul, ← Int.natCast_mul] at h2; exact Int.ofNat_le.mp h2
    calc c * 2 ^ (q + 1074).toNat * 2 ^ 1074 * 2 ^ 1948 * 2 ^ 1074 = c * 2 ^ (q + 1074).toNat * 2 ^ 1074 * 2 ^ 1074 * 2 ^ 1948 := by
          generalize 2 ^ 1074 = a; generalize 2 ^ 1948 = b; generalize c * 2 ^ (q + 1074).toNat = w; ac_rfl
      _ ≤ _ := Nat.mul_le_mul_right _ (Nat.mul_le_mul_right _ h2')
  have z1 : lo ≤ own_zv (FP.ddiv x y) := by rw [hzz, ← m1']; exact Int.ofNat_le.mpr g1
  have z2 : own_zv (FP.ddiv x y) ≤ hi := by rw [hzz, ← m2]; exact Int.ofNat_le.mpr g2
  exact ⟨own_fin_of hn hl hh z1 z2, z1, z2, hs⟩
/-! whole numbers -/
theorem own_whole {i : Int} {x : UInt64} (h : DInt i x) : DFin x ∧ own_zv x = i * ((2 ^ 1074 : Nat) : Int) := by
  have fx := val64_fits x
  unfold DInt at h
  unfold own_zv DFin
  cases hv : val64 x with
  | nan => rw [hv] at h; exact absurd h (by simp [Whole])
  | inf s => rw [hv] at h; exact absurd h (by simp [Whole])
  | fin s c q =>
    refine ⟨⟨s, c, q, rfl⟩, ?_⟩
    rw [hv] at h fx
    have q1 := fx.2.1
    rw [qmin_b64] at q1
    simp only [Whole] at h
    show signed s (inUnits c q b64.qmin) = _
    unfold inUnits
    rw [qmin_b64]
    rcases Int.le_total 0 q with hq | hq
    · rw [show (-q).toNat = 0 by omega] at h
      rw [show (q - -1074).toNat = q.toNat + 1074 by omega, Nat.pow_add, ← Nat.mul_assoc, signed_mul, h]
      simp
    · rw [show q.toNat = 0 by omega] at h
      rw [show (2 : Nat) ^ 1074 = 2 ^ (-q).toNat * 2 ^ (q - -1074).toNat by rw [← Nat.pow_add]; congr 1; omega, Int.natCast_mul, ← Int.mul_assoc, ← h, signed_mul, Nat.pow_zero, Nat.mul_one]
theorem own_i2d (n : Int32) : DFin (FP.i2d n) ∧ own_zv (FP.i2d n) = n.toInt * ((2 ^ 1074 : Nat) : Int) := own_whole (i2d_int n)
theorem own_l2d {n : Int64} (h : n.toInt.natAbs ≤ 2 ^ 53) : DFin (FP.l2d n) ∧ own_zv (FP.l2d n) = n.toInt * ((2 ^ 1074 : Nat) : Int) := own_whole (l2d_int h)
theorem own_sgn_i2d {n : Int32} (h : 0 ≤ n.toInt) : sgn (val64 (FP.i2d n)) = false := by
  rw [show val64 (FP.i2d n) = round b64 (ofInt n.toInt) from val64_i2d n]
  show sgn (roundRatio b64 (decide (n.toInt < 0)) _ 1 0) = false
  rw [sgn_roundRatio]; exact decide_eq_false (by omega)
theorem own_sgn_l2d {n : Int64} (h : 0 ≤ n.toInt) : sgn (val64 (FP.l2d n)) = false := by
  rw [show val64 (FP.l2d n) = round b64 (ofInt n.toInt) from val64_l2d n]
  show sgn (roundRatio b64 (decide (n.toInt < 0)) _ 1 0) = false
  rw [sgn_roundRatio]; exact decide_eq_false (by omega)
theorem own_sgn_of {x : UInt64} (h : DFin x) (hp : 0 < own_zv x) : sgn (val64 x) = false := by
  obtain ⟨s, c, q, e⟩ := h
  unfold own_zv at hp
  rw [e] at hp ⊢
  cases s
  · rfl
  · simp only [zval, sgn, zmag, signed, if_true] at hp; omega
theorem own_one : DFin FP.dconst1 ∧ own_zv FP.dconst1 = 1 * ((2 ^ 1074 : Nat) : Int) :=
  own_whole (show Whole 1 (val64 FP.dconst1) by
    rw [show val64 FP.dconst1 = _ from val64_dconst1]
    show signed false (2 ^ 52 * 2 ^ (-52 : Int).toNat) = 1 * ((2 ^ (-(-52 : Int)).toNat : Nat) : Int)
    decide +kernel)
theorem own_zero : DFin FP.dconst0 ∧ own_zv FP.dconst0 = 0 := by
  have := own_whole (show Whole 0 (val64 FP.dconst0) by
    rw [show val64 FP.dconst0 = _ from val64_dconst0]
    show signed false (0 * 2 ^ b64.qmin.toNat) = 0 * _
    rw [Nat.zero_mul, Int.zero_mul]; rfl)
  rw [Int.zero_mul] at this; exact this
/-- a written constant: its datum by computation -/
theorem own_const {x : UInt64} {s : Bool} {c : Nat} {k : Nat} {q : Int} (h : val64 x = .fin s c q) (hq : q = (k : Int) - 1074) : DFin x ∧ own_zv x = signed s (c * 2 ^ k) := by
  refine ⟨⟨_, _, _, h⟩, ?_⟩
  unfold own_zv; rw [h]
  show signed s (inUnits c q b64.qmin) = _
  unfold inUnits; rw [qmin_b64, show (q - -1074).toNat = k by omega]
end OwnFl
end Jvm.Pilot.@@N@@
namespace Jvm.Pilot.@@N@@
section OwnDy
open Jvm Jvm.FP Jvm.FP.Core Jvm.Free.Fl Jvm.Op
/-- the double is n over 2^k -/
def own_dy (x : UInt64) (n : Int) (k : Nat) : Prop := k ≤ 64 ∧ DFin x ∧ own_zv x = n * ((2 ^ (1074 - k) : Nat) : Int)
theorem own_dy.fin {x : UInt64} {n : Int} {k : Nat} (h : own_dy x n k) : DFin x := h.2.1
theorem own_dy.nn {x : UInt64} {n : Int} {k : Nat} (h : own_dy x n k) : NoNaN64 x := own_nn h.2.1
theorem own_dy_up {x : UInt64} {n : Int} {k : Nat} (h : own_dy x n k) (j : Nat) (hj : k + j ≤ 64) : own_dy x (n * ((2 ^ j : Nat) : Int)) (k + j) := by
  refine ⟨hj, h.2.1, ?_⟩
  rw [h.2.2, show 1074 - k = j + (1074 - (k + j)) by omega, Nat.pow_add, Int.natCast_mul, Int.mul_assoc]
theorem own_dy_add {x y : UInt64} {n m : Int} {k : Nat} (hx : own_dy x n k) (hy : own_dy y m k) (hb : (n + m).natAbs < 2 ^ 53) : own_dy (FP.dadd x y) (n + m) k := by
  have e : own_zv x + own_zv y = (n + m) * ((2 ^ (1074 - k) : Nat) : Int) := by rw [hx.2.2, hy.2.2, Int.add_mul]
  obtain ⟨a, b⟩ := own_add_eq hx.2.1 hy.2.1 (by rw [e]; exact own_rep_int hb (by omega))
  exact ⟨hx.1, a, b.trans e⟩
theorem own_dy_mul {x y : UInt64} {n m : Int} {k l : Nat} (hx : own_dy x n k) (hy : own_dy y m l) (hb : (n * m).natAbs < 2 ^ 53) (hk : k + l ≤ 64) : own_dy (FP.dmul x y) (n * m) (k + l) := by
  have e : own_zv x * own_zv y = (n * m) * ((2 ^ (1074 - (k + l)) : Nat) : Int) * ((2 ^ 1074 : Nat) : Int) := by
    rw [hx.2.2, hy.2.2]
    have q : (2 : Nat) ^ (1074 - k) * 2 ^ (1074 - l) = 2 ^ (1074 - (k + l)) * 2 ^ 1074 := by rw [← Nat.pow_add, ← Nat.pow_add]; congr 1; omega
    have q' : ((2 ^ (1074 - k) : Nat) : Int) * ((2 ^ (1074 - l) : Nat) : Int) = ((2 ^ (1074 - (k + l)) : Nat) : Int) * ((2 ^ 1074 : Nat) : Int) := by rw [← Int.natCast_mul, ← Int.natCast_mul, q]
    generalize ((2 ^ (1074 - k) : Nat) : Int) = a at *
    generalize ((2 ^ (1074 - l) : Nat) : Int) = b at *
    generalize ((2 ^ (1074 - (k + l)) : Nat) : Int) = c at *
    generalize ((2 ^ 1074 : Nat) : Int) = d at *
    calc n * a * (m * b) = n * m * (a * b) := by ac_rfl
      _ = n * m * c * d := by rw [q']; ac_rfl
  obtain ⟨a, b⟩ := own_mul_eq hx.2.1 hy.2.1 (own_rep_int hb (by omega)) e
  exact ⟨hk, a, b⟩
theorem own_dy_sub {x y : UInt64} {n m : Int} {k : Nat} (hx : own_dy x n k) (hy : own_dy y m k) (hb : (n - m).natAbs < 2 ^ 53) : own_dy (FP.dsub x y) (n - m) k := by
  have e : own_zv x - own_zv y = (n - m) * ((2 ^ (1074 - k) : Nat) : Int) := by rw [hx.2.2, hy.2.2, Int.sub_mul]
  have hr := own_rep_int (k := 1074 - k) hb (by omega)
  obtain ⟨a, b, d⟩ := own_sub hx.2.1 hy.2.1 hr hr (Int.le_of_eq e.symm) (Int.le_of_eq e)
  exact ⟨hx.1, a, Int.le_antisymm d b⟩
/-- a quotient that is exact: n/2^k over m/2^l is q/2^j -/
theorem own_dy_div {x y : UInt64} {n m q : Int} {k l j : Nat} (hx : own_dy x n k) (hy : own_dy y m l) (hn : 0 ≤ n) (sx : sgn (val64 x) = false) (hm : 0 < m) (hq : 0 ≤ q) (hb : q.natAbs < 2 ^ 53) (hj : j ≤ 64) (e : q * m * ((2 ^ k : Nat) : Int) = n * ((2 ^ (j + l) : Nat) : Int)) : own_dy (FP.ddiv x y) q j ∧ sgn (val64 (FP.ddiv x y)) = false := by
  have hk := hx.1
  have hl := hy.1
  have P : ∀ a : Nat, (0 : Int) < ((2 ^ a : Nat) : Int) := fun a => Int.natCast_pos.mpr (Nat.two_pow_pos a)
  have r1 : (2 : Nat) ^ (1074 - j) * 2 ^ (1074 - l) = 2 ^ (1074 - k) * 2 ^ 1074 * 2 ^ k / 2 ^ (j + l) := by
    rw [← Nat.pow_add, ← Nat.pow_add, ← Nat.pow_add, Nat.pow_div (by omega) (by omega)]; congr 1; omega
  have r2 : (2 : Nat) ^ (1074 - j) * 2 ^ (1074 - l) * 2 ^ (j + l) = 2 ^ (1074 - k) * 2 ^ 1074 * 2 ^ k := by
    rw [← Nat.pow_add, ← Nat.pow_add, ← Nat.pow_add, ← Nat.pow_add]; congr 1; omega
  have r3 : ((2 ^ (1074 - j) : Nat) : Int) * ((2 ^ (1074 - l) : Nat) : Int) * ((2 ^ (j + l) : Nat) : Int) = ((2 ^ (1074 - k) : Nat) : Int) * ((2 ^ 1074 : Nat) : Int) * ((2 ^ k : Nat) : Int) := by
    rw [← Int.natCast_mul, ← Int.natCast_mul, ← Int.natCast_mul, ← Int.natCast_mul, r2]
  have key : q * ((2 ^ (1074 - j) : Nat) : Int) * own_zv y = own_zv x * ((2 ^ 1074 : Nat) : Int) := by
    rw [hx.2.2, hy.2.2]
    have p1 := P k; have p2 := P (j + l)
    generalize ((2 ^ (1074 - j) : Nat) : Int) = a at *
    generalize ((2 ^ (1074 - l) : Nat) : Int) = b at *
    generalize ((2 ^ (j + l) : Nat) : Int) = c at *
    generalize ((2 ^ (1074 - k) : Nat) : Int) = d at *
    generalize ((2 ^ 1074 : Nat) : Int) = f at *
    generalize ((2 ^ k : Nat) : Int) = g at *
    refine Int.eq_of_mul_eq_mul_right (a := g * c) (Int.ne_of_gt (Int.mul_pos p1 p2)) ?_
    calc q * a * (m * b) * (g * c) = (q * m * g) * (a * b * c) := by ac_rfl
      _ = (n * c) * (d * f * g) := by rw [e, r3]
      _ = n * d * f * (g * c) := by ac_rfl
  have hr := own_rep_int (k := 1074 - j) hb (by omega)
  have z0 : 0 ≤ own_zv x := by rw [hx.2.2]; exact Int.mul_nonneg hn (Int.le_of_lt (P _))
  have z1 : 0 < own_zv y := by rw [hy.2.2]; exact Int.mul_pos hm (P _)
  obtain ⟨a, b, d, s⟩ := own_div hx.2.1 hy.2.1 z0 sx z1 hr hr (Int.mul_nonneg hq (Int.le_of_lt (P _))) (Int.le_of_eq key) (Int.le_of_eq key.symm)
  exact ⟨⟨hj, a, Int.le_antisymm d b⟩, s⟩
theorem own_dy_i2d (n : Int32) : own_dy (FP.i2d n) n.toInt 0 := ⟨by omega, (own_i2d n).1, (own_i2d n).2⟩
theorem own_dy_one : own_dy FP.dconst1 1 0 := ⟨by omega, own_one.1, own_one.2⟩
theorem own_dy_zero (k : Nat) (hk : k ≤ 64) : own_dy FP.dconst0 0 k := ⟨hk, own_zero.1, by rw [own_zero.2, Int.zero_mul]⟩
theorem own_dy_cmp {x y : UInt64} {n m : Int} {k : Nat} (hx : own_dy x n k) (hy : own_dy y m k) : (n < m → FP.dcmp x y = some .lt) ∧ (n = m → FP.dcmp x y = some .eq) ∧ (m < n → FP.dcmp x y = some .gt) := by
  have P : (0 : Int) < ((2 ^ (1074 - k) : Nat) : Int) := Int.natCast_pos.mpr (Nat.two_pow_pos _)
  refine ⟨fun h => own_cmp_lt hx.2.1 hy.2.1 ?_, fun h => own_cmp_eq hx.2.1 hy.2.1 ?_, fun h => own_cmp_gt hx.2.1 hy.2.1 ?_⟩
  · rw [hx.2.2, hy.2.2]; exact Int.mul_lt_mul_of_pos_right h P
  · rw [hx.2.2, hy.2.2, h]
  · rw [hx.2.2, hy.2.2]; exact Int.mul_lt_mul_of_pos_right h P
theorem own_dy_const {x : UInt64} {c k : Nat} {q n : Int} {j : Nat} (h : val64 x = .fin false c q) (hq : q = (k : Int) - 1074) (hj : j ≤ 64) (e : ((c * 2 ^ k : Nat) : Int) = n * ((2 ^ (1074 - j) : Nat) : Int)) : own_dy x n j := by
  obtain ⟨a, b⟩ := own_const h hq
  exact ⟨hj, a, b.trans e⟩
theorem own_c4 : own_dy (4616189618054758400 : UInt64) 4 0 := own_dy_const (c := 2 ^ 52) (k := 1024) (q := -50) (by decide +kernel) (by decide) (by decide) (by decide +kernel)
theorem own_c2 : own_dy (4611686018427387904 : UInt64) 2 0 := own_dy_const (c := 2 ^ 52) (k := 1023) (q := -51) (by decide +kernel) (by decide) (by decide) (by decide +kernel)
theorem own_ch : own_dy (4602678819172646912 : UInt64) 8 4 := own_dy_const (c := 2 ^ 52) (k := 1021) (q := -53) (by decide +kernel) (by decide) (by decide) (by decide +kernel)
theorem own_ct : own_dy (4604930618986332160 : UInt64) 12 4 := own_dy_const (c := 3 * 2 ^ 51) (k := 1021) (q := -53) (by decide +kernel) (by decide) (by decide) (by decide +kernel)
theorem own_dy_down {x : UInt64} {n : Int} {k : Nat} (j : Nat) (h : own_dy x (n * ((2 ^ j : Nat) : Int)) (k + j)) : own_dy x n k := by
  have := h.1
  refine ⟨by omega, h.2.1, ?_⟩
  rw [h.2.2, show 1074 - k = j + (1074 - (k + j)) by omega, Nat.pow_add, Int.natCast_mul, Int.mul_assoc]
theorem own_quarter {U : Int32} (h0 : 0 ≤ U.toInt) (h4 : U.toInt ≤ 4) : own_dy (FP.ddiv (FP.i2d U) (4616189618054758400 : UInt64)) U.toInt 2 ∧ sgn (val64 (FP.ddiv (FP.i2d U) (4616189618054758400 : UInt64))) = false :=
  own_dy_div (own_dy_i2d U) own_c4 h0 (own_sgn_i2d h0) (by decide) h0 (by omega) (by decide) (by
    rw [show ((2 ^ 0 : Nat) : Int) = 1 from rfl, show ((2 ^ (2 + 0) : Nat) : Int) = 4 from rfl, Int.mul_one])
theorem own_mb {a b : Int} {M N : Nat} (ha : a.natAbs ≤ M) (hb : b.natAbs ≤ N) : (a * b).natAbs ≤ M * N := by rw [Int.natAbs_mul]; exact Nat.mul_le_mul ha hb
theorem own_ab {a b : Int} {M N K : Nat} (ha : a.natAbs ≤ M) (hb : b.natAbs ≤ N) (h : M + N ≤ K) : (a + b).natAbs ≤ K := Nat.le_trans (Int.natAbs_add_le a b) (Nat.le_trans (Nat.add_le_add ha hb) h)
/-- a weight, the pivot row's entry, what the row then reads of itself, the scale -/
def own_fac (w c ow sc : UInt64) : Prop := NoNaN64 (FP.dmul w c) ∧ NoNaN64 (FP.dadd FP.dconst0 (FP.dmul w c)) ∧ FP.dadd FP.dconst0 (FP.dmul w c) = ow ∧ NoNaN64 (FP.dsub FP.dconst1 ow) ∧ NoNaN64 (FP.ddiv FP.dconst1 (FP.dsub FP.dconst1 ow)) ∧ FP.ddiv FP.dconst1 (FP.dsub FP.dconst1 ow) = sc ∧ FP.dcmp ow FP.dconst1 = some .lt ∧ FP.dcmp ow FP.dconst0 = some .gt
theorem own_z1 : FP.dcmp FP.dconst0 FP.dconst1 = some .lt := own_cmp_lt own_zero.1 own_one.1 (by rw [own_zero.2, own_one.2, Int.one_mul]; exact Int.natCast_pos.mpr (Nat.two_pow_pos 1074))
theorem own_z0 : FP.dcmp FP.dconst0 FP.dconst0 = some .eq := own_cmp_eq own_zero.1 own_zero.1 rfl
/-- a weight W/4 and an entry Y/4: the scale S with S(16 - WY) = 16 -/
theorem own_fac_of {w c : UInt64} {W Y S : Int} (hw : own_dy w W 2) (hc : own_dy c Y 2) (h0 : 0 < W * Y) (h1 : W * Y < 16) (hS : S * (16 - W * Y) = 16) :
    ∃ ow sc, own_fac w c ow sc ∧ own_dy sc S 0 := by
  have hb : (W * Y).natAbs < 2 ^ 53 := by omega
  have p1 := own_dy_mul hw hc hb (by decide)
  have p2 := own_dy_add (own_dy_zero 4 (by decide)) p1 (by rw [Int.zero_add]; exact hb)
  rw [Int.zero_add] at p2
  have o16 : own_dy FP.dconst1 16 4 := own_dy_up own_dy_one 4 (by decide)
  have p3 := own_dy_sub o16 p2 (by omega)
  have hSp : 0 < S := by
    refine Int.not_le.mp fun q => ?_
    have := Int.mul_nonpos_of_nonpos_of_nonneg q (show 0 ≤ 16 - W * Y by omega)
    omega
  have hS16 : S ≤ 16 := by
    have : S * 1 ≤ S * (16 - W * Y) := Int.mul_le_mul_of_nonneg_left (by omega) (Int.le_of_lt hSp)
    omega
  have p4 := own_dy_div own_dy_one p3 (q := S) (j := 0) (by decide) (own_sgn_of own_one.1 (by rw [own_one.2, Int.one_mul]; exact Int.natCast_pos.mpr (Nat.two_pow_pos 1074))) (by omega) (Int.le_of_lt hSp) (by omega) (by decide) (by
    rw [show ((2 ^ 0 : Nat) : Int) = 1 from rfl, show ((2 ^ (0 + 4) : Nat) : Int) = 16 from rfl, Int.mul_one, hS]; rfl)
  refine ⟨_, _, ⟨p1.nn, p2.nn, rfl, p3.nn, p4.1.nn, rfl, ?_, ?_⟩, p4.1⟩
  · exact (own_dy_cmp p2 o16).1 h1
  · exact (own_dy_cmp p2 (own_dy_zero 4 (by decide))).2.2 h0
theorem own_step2 {f : Bool} {y v x : UInt64} {Y V X : Int} {k j : Nat} (i : Nat) (hy : own_dy y Y j) (hv : own_dy v V 2) (hx : own_dy x X k) (hk : k + 2 ≤ 64) (e : k + 2 = j + i) (b1 : (V * X).natAbs < 2 ^ 53) (b2 : (Y * ((2 ^ i : Nat) : Int) + V * X).natAbs < 2 ^ 53) (hf : f = false → V = 0) :
    (NoNaN64 (FP.dmul v x) ∧ NoNaN64 (FP.dadd y (FP.dmul v x))) ∧ own_dy (cond f (FP.dadd y (FP.dmul v x)) y) (Y * ((2 ^ i : Nat) : Int) + V * X) (k + 2) := by
  have p1 := own_dy_mul hv hx b1 (by omega)
  rw [Nat.add_comm 2 k] at p1
  have p2 := own_dy_up hy i (by omega)
  rw [← e] at p2
  have p3 := own_dy_add p2 p1 b2
  refine ⟨⟨p1.nn, p3.nn⟩, ?_⟩
  cases f
  · rw [hf rfl, Int.zero_mul, Int.add_zero]; exact p2
  · exact p3
theorem own_step1 {f : Bool} {y v x z : UInt64} {Y V X S : Int} {k : Nat} (hy : own_dy y Y 0) (hv : own_dy v V 2) (hx : own_dy x X k) (hz : own_dy z S 0) (hk : k + 2 ≤ 64) (b1 : (V * X).natAbs < 2 ^ 53) (b2 : (Y * ((2 ^ (k + 2) : Nat) : Int) + V * X).natAbs < 2 ^ 53) (b3 : ((Y * ((2 ^ (k + 2) : Nat) : Int) + V * X) * S).natAbs < 2 ^ 53) (hf : f = false → V = 0 ∧ S = 1) :
    (NoNaN64 (FP.dmul v x) ∧ NoNaN64 (FP.dadd y (FP.dmul v x)) ∧ NoNaN64 (FP.dmul (FP.dadd y (FP.dmul v x)) z)) ∧ own_dy (cond f (FP.dmul (FP.dadd y (FP.dmul v x)) z) y) ((Y * ((2 ^ (k + 2) : Nat) : Int) + V * X) * S) (k + 2) := by
  obtain ⟨⟨n1, n2⟩, q⟩ := own_step2 (f := true) (k + 2) hy hv hx hk (by omega) b1 b2 (fun h => nomatch h)
  have p4 := own_dy_mul q hz b3 (by omega)
  refine ⟨⟨n1, n2, p4.nn⟩, ?_⟩
  cases f
  · rw [(hf rfl).1, (hf rfl).2, Int.zero_mul, Int.add_zero, Int.mul_one]
    have := own_dy_up hy (k + 2) (by omega); rw [Nat.zero_add] at this; exact this
  · exact p4
theorem own_id1 {A C U S D B0 B1 P Q R T : Int} (hS : S * (16 - A * C) = 16) (hD : D * S = 4 * U) (hP : P = (B1 * 4 + C * B0) * S) (hR : R = P * 16 + U * Q) (hT : T = B0 * 256 + A * R) : C * T + D * Q * 4 + B1 * 1024 = R * 16 := by
  have h0 : S ≠ 0 := fun q => by rw [q, Int.zero_mul] at hS; exact absurd hS (by decide)
  refine Int.eq_of_mul_eq_mul_left h0 ?_
  grind
theorem own_id2 {U E S2 B2 P Q R : Int} (hS : S2 * (16 - E * U) = 16) (hQ : Q = (B2 * 16 + E * P) * S2) (hR : R = P * 16 + U * Q) : E * R + B2 * 256 = Q * 16 := by
  have h0 : S2 ≠ 0 := fun q => by rw [q, Int.zero_mul] at hS; exact absurd hS (by decide)
  refine Int.eq_of_mul_eq_mul_left h0 ?_
  grind
set_option maxHeartbeats 4000000 in
/-- what the solve computes, exactly -/
theorem own_solve {fa fc fd fe : Bool} {va vc ve dd d0 d1 d2 z1 z2 : UInt64} {A C U E S S2 B0 B1 B2 : Int} (ha : own_dy va A 2) (hc : own_dy vc C 2) (hdd : own_dy dd U 2) (he : own_dy ve E 2) (h0 : own_dy d0 B0 0) (h1 : own_dy d1 B1 0) (h2 : own_dy d2 B2 0) (hz1 : own_dy z1 S 0) (hz2 : own_dy z2 S2 0)
    (bA : A.natAbs ≤ 4) (bC : C.natAbs ≤ 4) (bU : U.natAbs ≤ 4) (bE : E.natAbs ≤ 4) (bS : S.natAbs ≤ 4) (bS2 : S2.natAbs ≤ 4) (b0 : B0.natAbs ≤ 2 ^ 31) (b1 : B1.natAbs ≤ 2 ^ 31) (b2 : B2.natAbs ≤ 2 ^ 31)
    (na : fa = false → A = 0) (nc : fc = false → C = 0 ∧ S = 1) (nd : fd = false → U = 0) (ne : fe = false → E = 0 ∧ S2 = 1) {e1 e2 x1 x0 : UInt64}
    (q1 : e1 = cond fc (FP.dmul (FP.dadd d1 (FP.dmul vc d0)) z1) d1) (q2 : e2 = cond fe (FP.dmul (FP.dadd d2 (FP.dmul ve e1)) z2) d2) (q3 : x1 = cond fd (FP.dadd e1 (FP.dmul dd e2)) e1) (q4 : x0 = cond fa (FP.dadd d0 (FP.dmul va x1)) d0) :
    ∃ P Q R T : Int, (P = (B1 * 4 + C * B0) * S ∧ Q = (B2 * 16 + E * P) * S2 ∧ R = P * 16 + U * Q ∧ T = B0 * 256 + A * R) ∧ (Q.natAbs ≤ 2 ^ 41 ∧ R.natAbs ≤ 2 ^ 44 ∧ T.natAbs ≤ 2 ^ 47) ∧
      (NoNaN64 (FP.dmul vc d0) ∧ NoNaN64 (FP.dadd d1 (FP.dmul vc d0)) ∧ NoNaN64 (FP.dmul (FP.dadd d1 (FP.dmul vc d0)) z1)) ∧ (NoNaN64 (FP.dmul ve e1) ∧ NoNaN64 (FP.dadd d2 (FP.dmul ve e1)) ∧ NoNaN64 (FP.dmul (FP.dadd d2 (FP.dmul ve e1)) z2)) ∧
      (NoNaN64 (FP.dmul dd e2) ∧ NoNaN64 (FP.dadd e1 (FP.dmul dd e2))) ∧ (NoNaN64 (FP.dmul va x1) ∧ NoNaN64 (FP.dadd d0 (FP.dmul va x1))) ∧ own_dy e2 Q 4 ∧ own_dy x1 R 6 ∧ own_dy x0 T 8 := by
  have w4 : ((2 ^ (0 + 2) : Nat) : Int) = 4 := rfl
  have w16 : ((2 ^ (2 + 2) : Nat) : Int) = 16 := rfl
  have v16 : ((2 ^ 4 : Nat) : Int) = 16 := rfl
  have v256 : ((2 ^ 8 : Nat) : Int) = 256 := rfl
  have m1 := own_mb bC b0
  have m2 : (B1 * 4 + C * B0).natAbs ≤ 2 ^ 34 := own_ab (own_mb b1 (Nat.le_refl 4)) m1 (by decide)
  have m3 := own_mb m2 bS
  obtain ⟨n1, p1⟩ := own_step1 (f := fc) h1 hc h0 hz1 (by decide) (Nat.lt_of_le_of_lt m1 (by decide)) (by rw [w4]; exact Nat.lt_of_le_of_lt m2 (by decide)) (by rw [w4]; exact Nat.lt_of_le_of_lt m3 (by decide)) nc
  rw [w4, ← q1] at p1
  obtain ⟨P, hP⟩ : ∃ P, P = (B1 * 4 + C * B0) * S := ⟨_, rfl⟩
  rw [← hP] at p1 m3
  have m4 := own_mb bE m3
  have m5 : (B2 * 16 + E * P).natAbs ≤ 2 ^ 39 := own_ab (own_mb b2 (Nat.le_refl 16)) m4 (by decide)
  have m6 := own_mb m5 bS2
  obtain ⟨n2, p2⟩ := own_step1 (f := fe) h2 he p1 hz2 (by decide) (Nat.lt_of_le_of_lt m4 (by decide)) (by rw [w16]; exact Nat.lt_of_le_of_lt m5 (by decide)) (by rw [w16]; exact Nat.lt_of_le_of_lt m6 (by decide)) ne
  rw [w16, ← q2] at p2
  obtain ⟨Q, hQ⟩ : ∃ Q, Q = (B2 * 16 + E * P) * S2 := ⟨_, rfl⟩
  rw [← hQ] at p2 m6
  have m7 := own_mb bU m6
  have m8 : (P * 16 + U * Q).natAbs ≤ 2 ^ 44 := own_ab (own_mb m3 (Nat.le_refl 16)) m7 (by decide)
  obtain ⟨n3, p3⟩ := own_step2 (f := fd) 4 p1 hdd p2 (by decide) (by decide) (Nat.lt_of_le_of_lt m7 (by decide)) (by rw [v16]; exact Nat.lt_of_le_of_lt m8 (by decide)) nd
  rw [v16, ← q3] at p3
  obtain ⟨R, hR⟩ : ∃ R, R = P * 16 + U * Q := ⟨_, rfl⟩
  rw [← hR] at p3 m8
  have m9 := own_mb bA m8
  have m10 : (B0 * 256 + A * R).natAbs ≤ 2 ^ 47 := own_ab (own_mb b0 (Nat.le_refl 256)) m9 (by decide)
  obtain ⟨n4, p4⟩ := own_step2 (f := fa) 8 h0 ha p3 (by decide) (by decide) (Nat.lt_of_le_of_lt m9 (by decide)) (by rw [v256]; exact Nat.lt_of_le_of_lt m10 (by decide)) na
  rw [v256, ← q4] at p4
  exact ⟨P, Q, R, _, ⟨hP, hQ, hR, rfl⟩, ⟨Nat.le_trans m6 (by decide), m8, m10⟩, n1, n2, n3, n4, p2, p3, p4⟩
end OwnDy
end Jvm.Pilot.@@N@@
namespace Jvm.Pilot.@@N@@
section OwnLaw
open Jvm Jvm.FP Jvm.FP.Core Jvm.Free.Fl Jvm.Op
def own_13 (x : Int32) : Prop := x = 0 ∨ x = 1 ∨ x = 2 ∨ x = 3 ∨ x = 4 ∨ x = 5 ∨ x = 6 ∨ x = 7 ∨ x = 8 ∨ x = 9 ∨ x = 10 ∨ x = 11 ∨ x = 12
theorem own_13_to {x : Int32} (h0 : 0 ≤ x.toInt) (h1 : x.toInt < 13) : own_13 x := by
  have h : x.toInt = 0 ∨ x.toInt = 1 ∨ x.toInt = 2 ∨ x.toInt = 3 ∨ x.toInt = 4 ∨ x.toInt = 5 ∨ x.toInt = 6 ∨ x.toInt = 7 ∨ x.toInt = 8 ∨ x.toInt = 9 ∨ x.toInt = 10 ∨ x.toInt = 11 ∨ x.toInt = 12 := by omega
  unfold own_13
  rcases h with h | h | h | h | h | h | h | h | h | h | h | h | h
  · exact Or.inl (Int32.toInt_inj.mp (h.trans (by decide)))
  · exact Or.inr (Or.inl (Int32.toInt_inj.mp (h.trans (by decide))))
  · exact Or.inr (Or.inr (Or.inl (Int32.toInt_inj.mp (h.trans (by decide)))))
  · exact Or.inr (Or.inr (Or.inr (Or.inl (Int32.toInt_inj.mp (h.trans (by decide))))))
  · exact Or.inr (Or.inr (Or.inr (Or.inr (Or.inl (Int32.toInt_inj.mp (h.trans (by decide)))))))
  · exact Or.inr (Or.inr (Or.inr (Or.inr (Or.inr (Or.inl (Int32.toInt_inj.mp (h.trans (by decide))))))))
  · exact Or.inr (Or.inr (Or.inr (Or.inr (Or.inr (Or.inr (Or.inl (Int32.toInt_inj.mp (h.trans (by decide)))))))))
  · exact Or.inr (Or.inr (Or.inr (Or.inr (Or.inr (Or.inr (Or.inr (Or.inl (Int32.toInt_inj.mp (h.trans (by decide))))))))))
  · exact Or.inr (Or.inr (Or.inr (Or.inr (Or.inr (Or.inr (Or.inr (Or.inr (Or.inl (Int32.toInt_inj.mp (h.trans (by decide)))))))))))
  · exact Or.inr (Or.inr (Or.inr (Or.inr (Or.inr (Or.inr (Or.inr (Or.inr (Or.inr (Or.inl (Int32.toInt_inj.mp (h.trans (by decide))))))))))))
  · exact Or.inr (Or.inr (Or.inr (Or.inr (Or.inr (Or.inr (Or.inr (Or.inr (Or.inr (Or.inr (Or.inl (Int32.toInt_inj.mp (h.trans (by decide)))))))))))))
  · exact Or.inr (Or.inr (Or.inr (Or.inr (Or.inr (Or.inr (Or.inr (Or.inr (Or.inr (Or.inr (Or.inr (Or.inl (Int32.toInt_inj.mp (h.trans (by decide))))))))))))))
  · exact Or.inr (Or.inr (Or.inr (Or.inr (Or.inr (Or.inr (Or.inr (Or.inr (Or.inr (Or.inr (Or.inr (Or.inr (Int32.toInt_inj.mp (h.trans (by decide))))))))))))))
theorem own_and0 (i : Int32) : 0 ≤ (i &&& 2147483647).toInt := by
  have q : (i &&& 2147483647).toBitVec.msb = false := by
    rw [Int32.toBitVec_and, BitVec.msb_and, show (2147483647 : Int32).toBitVec.msb = false by decide, Bool.and_false]
  exact BitVec.toInt_nonneg_of_msb_false q
theorem own_13_of (i : Int32) : own_13 ((i &&& 2147483647) % 13) := by
  have h := own_and0 i
  have e : ((i &&& 2147483647) % 13).toInt = (i &&& 2147483647).toInt % 13 := by
    rw [Int32.toInt_mod, show (13 : Int32).toInt = 13 by decide, Int.tmod_eq_emod_of_nonneg h]
  exact own_13_to (by omega) (by omega)
def own_u (x : Int32) : Int32 := ([0, 0, 0, 0, 0, 1, 2, 3, 4, 2, 4, 3, 4] : List Int32).getD x.toNatClampNeg 0
theorem own_tu {x : Int32} (h : own_13 x) : ([(.int 0), (.int 0), (.int 0), (.int 0), (.int 0), (.int 1), (.int 2), (.int 3), (.int 4), (.int 2), (.int 4), (.int 3), (.int 4)] : List Value).getD x.toNatClampNeg (.int 0) = .int (own_u x) := by rcases h with rfl | rfl | rfl | rfl | rfl | rfl | rfl | rfl | rfl | rfl | rfl | rfl | rfl <;> rfl
def own_v (x : Int32) : Int32 := ([0, 1, 2, 3, 4, 0, 0, 0, 0, 4, 2, 4, 3] : List Int32).getD x.toNatClampNeg 0
theorem own_tv {x : Int32} (h : own_13 x) : ([(.int 0), (.int 1), (.int 2), (.int 3), (.int 4), (.int 0), (.int 0), (.int 0), (.int 0), (.int 4), (.int 2), (.int 4), (.int 3)] : List Value).getD x.toNatClampNeg (.int 0) = .int (own_v x) := by rcases h with rfl | rfl | rfl | rfl | rfl | rfl | rfl | rfl | rfl | rfl | rfl | rfl | rfl <;> rfl
theorem own_13a {x : Int32} (h : own_13 x) : ¬ x < 0 := by rcases h with rfl | rfl | rfl | rfl | rfl | rfl | rfl | rfl | rfl | rfl | rfl | rfl | rfl <;> decide
theorem own_13b {x : Int32} (h : own_13 x) : x < 13 := by rcases h with rfl | rfl | rfl | rfl | rfl | rfl | rfl | rfl | rfl | rfl | rfl | rfl | rfl <;> decide
theorem own_tab {x : Int32} (h : own_13 x) : (0 ≤ (own_u x).toInt ∧ (own_u x).toInt ≤ 4) ∧ (0 ≤ (own_v x).toInt ∧ (own_v x).toInt ≤ 4) ∧ ((own_u x).toInt * (own_v x).toInt = 0 ∨ (own_u x).toInt * (own_v x).toInt = 8 ∨ (own_u x).toInt * (own_v x).toInt = 12) := by
  rcases h with rfl | rfl | rfl | rfl | rfl | rfl | rfl | rfl | rfl | rfl | rfl | rfl | rfl <;> decide
abbrev own_q (u : Int32) : UInt64 := FP.ddiv (FP.i2d u) (4616189618054758400 : UInt64)
theorem own_fl_of {v : UInt64} {N : Int} {k : Nat} (h : own_dy v N k) (h0 : 0 ≤ N) : FP.dcmp v FP.dconst0 = some (cond (decide (0 < N)) .gt .eq) := by
  have z := own_dy_cmp h (own_dy_zero k h.1)
  by_cases q : 0 < N
  · rw [decide_eq_true q]; exact z.2.2 q
  · rw [decide_eq_false q]; exact z.2.1 (by omega)
/-- which constant the law takes for s1 -/
def own_s1 (o s : UInt64) : Prop := (FP.dcmp o (4602678819172646912 : UInt64) = some .eq ∧ s = (4611686018427387904 : UInt64)) ∨ (FP.dcmp o (4602678819172646912 : UInt64) = some .gt ∧ FP.dcmp o (4604930618986332160 : UInt64) = some .eq ∧ s = (4616189618054758400 : UInt64)) ∨ (FP.dcmp o (4602678819172646912 : UInt64) = some .lt ∧ FP.dcmp o (4604930618986332160 : UInt64) = some .lt ∧ s = FP.dconst1)
theorem own_s1_of {o : UInt64} {N : Int} (h : own_dy o N 4) (hN : N = 0 ∨ N = 8 ∨ N = 12) : ∃ (s : UInt64) (S : Int), own_s1 o s ∧ own_dy s S 0 ∧ (S = 1 ∨ S = 2 ∨ S = 4) ∧ (N = 0 ∧ S = 1 ∨ 0 < N ∧ N < 16 ∧ S * (16 - N) = 16) := by
  rcases hN with rfl | rfl | rfl
  · exact ⟨_, 1, Or.inr (Or.inr ⟨(own_dy_cmp h own_ch).1 (by decide), (own_dy_cmp h own_ct).1 (by decide), rfl⟩), own_dy_one, Or.inl rfl, Or.inl ⟨rfl, rfl⟩⟩
  · exact ⟨_, 2, Or.inl ⟨(own_dy_cmp h own_ch).2.1 rfl, rfl⟩, own_c2, by decide, by decide⟩
  · exact ⟨_, 4, Or.inr (Or.inl ⟨(own_dy_cmp h own_ch).2.2 (by decide), (own_dy_cmp h own_ct).2.1 rfl, rfl⟩), own_c4, by decide, by decide⟩
theorem own_S_of {N : Int} (hN : N = 0 ∨ N = 8 ∨ N = 12) : ∃ S : Int, (S = 1 ∨ S = 2 ∨ S = 4) ∧ (N = 0 ∧ S = 1 ∨ 0 < N ∧ N < 16 ∧ S * (16 - N) = 16) := by
  rcases hN with rfl | rfl | rfl
  · exact ⟨1, by decide, by decide⟩
  · exact ⟨2, by decide, by decide⟩
  · exact ⟨4, by decide, by decide⟩
theorem own_fac_all {w c : UInt64} {W Y N S : Int} (hw : own_dy w W 2) (hc : own_dy c Y 2) (hN : N = W * Y) (hS : N = 0 ∧ S = 1 ∨ 0 < N ∧ N < 16 ∧ S * (16 - N) = 16) : ∃ ow sc, (0 < N → own_fac w c ow sc) ∧ own_dy sc S 0 := by
  subst hN
  rcases hS with ⟨h0, rfl⟩ | ⟨h0, h1, h2⟩
  · exact ⟨FP.dconst1, FP.dconst1, fun q => absurd q (by omega), own_dy_one⟩
  · obtain ⟨ow, sc, a, b⟩ := own_fac_of hw hc h0 h1 h2
    exact ⟨ow, sc, fun _ => a, b⟩
theorem own_S16 {N S : Int} (hS : N = 0 ∧ S = 1 ∨ 0 < N ∧ N < 16 ∧ S * (16 - N) = 16) : S * (16 - N) = 16 := by
  rcases hS with ⟨rfl, rfl⟩ | ⟨-, -, h⟩
  · decide
  · exact h
theorem own_eq0 {va d0 x1 x0 : UInt64} {A B0 R T : Int} (ha : own_dy va A 2) (h0 : own_dy d0 B0 0) (hx1 : own_dy x1 R 6) (hx0 : own_dy x0 T 8) (bA : A.natAbs ≤ 4) (bR : R.natAbs ≤ 2 ^ 44) (b0 : B0.natAbs ≤ 2 ^ 31) (hT : A * R + B0 * 256 = T) :
    NoNaN64 (FP.dmul va x1) ∧ NoNaN64 (FP.dadd (FP.dmul va x1) d0) ∧ FP.dcmp x0 (FP.dadd (FP.dmul va x1) d0) = some .eq := by
  have m := own_mb bA bR
  have p1 : own_dy (FP.dmul va x1) (A * R) 8 := own_dy_mul ha hx1 (Nat.lt_of_le_of_lt m (by decide)) (by decide)
  have p2 : own_dy d0 (B0 * 256) 8 := own_dy_up h0 8 (by decide)
  have m' : (A * R + B0 * 256).natAbs ≤ 2 ^ 48 := own_ab m (own_mb b0 (Nat.le_refl 256)) (by decide)
  have p3 := own_dy_add p1 p2 (Nat.lt_of_le_of_lt m' (by decide))
  exact ⟨p1.nn, p3.nn, (own_dy_cmp hx0 p3).2.1 hT.symm⟩
theorem own_eq1 {vc vd d1 e2 x1 x0 : UInt64} {C D B1 Q R T : Int} (hc : own_dy vc C 2) (hd : own_dy vd D 4) (h1 : own_dy d1 B1 0) (he2 : own_dy e2 Q 4) (hx1 : own_dy x1 R 6) (hx0 : own_dy x0 T 8) (bC : C.natAbs ≤ 4) (bD : D.natAbs ≤ 16) (bQ : Q.natAbs ≤ 2 ^ 41) (bT : T.natAbs ≤ 2 ^ 47) (b1 : B1.natAbs ≤ 2 ^ 31) (hR : C * T + D * Q * 4 + B1 * 1024 = R * 16) :
    NoNaN64 (FP.dmul vc x0) ∧ NoNaN64 (FP.dmul vd e2) ∧ NoNaN64 (FP.dadd (FP.dmul vc x0) (FP.dmul vd e2)) ∧ NoNaN64 (FP.dadd (FP.dadd (FP.dmul vc x0) (FP.dmul vd e2)) d1) ∧ FP.dcmp x1 (FP.dadd (FP.dadd (FP.dmul vc x0) (FP.dmul vd e2)) d1) = some .eq := by
  have m1 := own_mb bC bT
  have m2 := own_mb bD bQ
  have p1 : own_dy (FP.dmul vc x0) (C * T) 10 := own_dy_mul hc hx0 (Nat.lt_of_le_of_lt m1 (by decide)) (by decide)
  have p2 : own_dy (FP.dmul vd e2) (D * Q) 8 := own_dy_mul hd he2 (Nat.lt_of_le_of_lt m2 (by decide)) (by decide)
  have p3 : own_dy (FP.dmul vd e2) (D * Q * 4) 10 := own_dy_up p2 2 (by decide)
  have p4 : own_dy d1 (B1 * 1024) 10 := own_dy_up h1 10 (by decide)
  have m3 : (C * T + D * Q * 4).natAbs ≤ 2 ^ 50 := own_ab m1 (own_mb m2 (Nat.le_refl 4)) (by decide)
  have m4 : (C * T + D * Q * 4 + B1 * 1024).natAbs ≤ 2 ^ 51 := own_ab m3 (own_mb b1 (Nat.le_refl 1024)) (by decide)
  have p5 := own_dy_add p1 p3 (Nat.lt_of_le_of_lt m3 (by decide))
  have p6 := own_dy_add p5 p4 (Nat.lt_of_le_of_lt m4 (by decide))
  have p7 : own_dy x1 (R * 16) 10 := own_dy_up hx1 4 (by decide)
  exact ⟨p1.nn, p2.nn, p5.nn, p6.nn, (own_dy_cmp p7 p6).2.1 hR.symm⟩
theorem own_eq2 {ve d2 x1 e2 : UInt64} {E B2 R Q : Int} (he : own_dy ve E 2) (h2 : own_dy d2 B2 0) (hx1 : own_dy x1 R 6) (he2 : own_dy e2 Q 4) (bE : E.natAbs ≤ 4) (bR : R.natAbs ≤ 2 ^ 44) (b2 : B2.natAbs ≤ 2 ^ 31) (hQ : E * R + B2 * 256 = Q * 16) :
    NoNaN64 (FP.dmul ve x1) ∧ NoNaN64 (FP.dadd (FP.dmul ve x1) d2) ∧ FP.dcmp e2 (FP.dadd (FP.dmul ve x1) d2) = some .eq :=
  have p : own_dy e2 (Q * 16) 8 := own_dy_up he2 4 (by decide)
  own_eq0 he h2 hx1 p bE bR b2 hQ
theorem own_i32b (i : Int32) : i.toInt.natAbs ≤ 2 ^ 31 := by have := Int32.le_toInt i; have := Int32.toInt_lt i; omega
theorem own_D {U S : Int} (h0 : 0 ≤ U) (h4 : U ≤ 4) (hS : S = 1 ∨ S = 2 ∨ S = 4) : ∃ D : Int, D * S = 4 * U ∧ 0 ≤ D ∧ D ≤ 16 ∧ (0 < D ↔ 0 < U) := by
  rcases hS with rfl | rfl | rfl
  · exact ⟨4 * U, by omega, by omega, by omega, by omega⟩
  · exact ⟨2 * U, by omega, by omega, by omega, by omega⟩
  · exact ⟨U, by omega, by omega, by omega, by omega⟩
/-- all that the law's run asks of the numbers -/
theorem own_all {x y i0 i1 i2 : Int32} (hx : own_13 x) (hy : own_13 y) {va vc vq ve d0 d1 d2 : UInt64} (ha : va = own_q (own_u x)) (hc : vc = own_q (own_v x)) (hq : vq = own_q (own_u y)) (he : ve = own_q (own_v y)) (h0 : d0 = FP.i2d i0) (h1 : d1 = FP.i2d i1) (h2 : d2 = FP.i2d i2) :
    ∃ s1 : UInt64, (NoNaN64 va ∧ NoNaN64 vc ∧ NoNaN64 vq ∧ NoNaN64 ve ∧ NoNaN64 (FP.dmul va vc)) ∧ (NoNaN64 d0 ∧ NoNaN64 d1 ∧ NoNaN64 d2) ∧ own_s1 (FP.dmul va vc) s1 ∧ NoNaN64 (FP.ddiv vq s1) ∧ ∀ vd, vd = FP.ddiv vq s1 →
      ∃ (fa fc fd fe : Bool) (ow1 sc1 ow2 sc2 : UInt64), (FP.dcmp va FP.dconst0 = some (cond fa .gt .eq) ∧ FP.dcmp vc FP.dconst0 = some (cond fc .gt .eq) ∧ FP.dcmp vd FP.dconst0 = some (cond fd .gt .eq) ∧ FP.dcmp ve FP.dconst0 = some (cond fe .gt .eq)) ∧
        (fa = true → fc = true → own_fac vc va ow1 sc1) ∧ (fa = true → fc = true → fd = true → NoNaN64 (FP.dmul vd sc1)) ∧ (fe = true → fd = true → own_fac ve (cond fc (cond fa (FP.dmul vd sc1) vd) vd) ow2 sc2) ∧
        ∀ e1 e2 x1 x0, e1 = cond fc (FP.dmul (FP.dadd d1 (FP.dmul vc d0)) (cond fa sc1 FP.dconst1)) d1 → e2 = cond fe (FP.dmul (FP.dadd d2 (FP.dmul ve e1)) (cond fd sc2 FP.dconst1)) d2 → x1 = cond fd (FP.dadd e1 (FP.dmul (cond fc (cond fa (FP.dmul vd sc1) vd) vd) e2)) e1 → x0 = cond fa (FP.dadd d0 (FP.dmul va x1)) d0 →
          (NoNaN64 (FP.dmul vc d0) ∧ NoNaN64 (FP.dadd d1 (FP.dmul vc d0)) ∧ NoNaN64 (FP.dmul (FP.dadd d1 (FP.dmul vc d0)) (cond fa sc1 FP.dconst1))) ∧
          (NoNaN64 (FP.dmul ve e1) ∧ NoNaN64 (FP.dadd d2 (FP.dmul ve e1)) ∧ NoNaN64 (FP.dmul (FP.dadd d2 (FP.dmul ve e1)) (cond fd sc2 FP.dconst1))) ∧
          (NoNaN64 (FP.dmul (cond fc (cond fa (FP.dmul vd sc1) vd) vd) e2) ∧ NoNaN64 (FP.dadd e1 (FP.dmul (cond fc (cond fa (FP.dmul vd sc1) vd) vd) e2))) ∧ (NoNaN64 (FP.dmul va x1) ∧ NoNaN64 (FP.dadd d0 (FP.dmul va x1))) ∧
          (NoNaN64 (FP.dmul va x1) ∧ NoNaN64 (FP.dadd (FP.dmul va x1) d0) ∧ FP.dcmp x0 (FP.dadd (FP.dmul va x1) d0) = some .eq) ∧
          (NoNaN64 (FP.dmul vc x0) ∧ NoNaN64 (FP.dmul vd e2) ∧ NoNaN64 (FP.dadd (FP.dmul vc x0) (FP.dmul vd e2)) ∧ NoNaN64 (FP.dadd (FP.dadd (FP.dmul vc x0) (FP.dmul vd e2)) d1) ∧ FP.dcmp x1 (FP.dadd (FP.dadd (FP.dmul vc x0) (FP.dmul vd e2)) d1) = some .eq) ∧
          (NoNaN64 (FP.dmul ve x1) ∧ NoNaN64 (FP.dadd (FP.dmul ve x1) d2) ∧ FP.dcmp e2 (FP.dadd (FP.dmul ve x1) d2) = some .eq) := by
  obtain ⟨⟨a1, a2⟩, ⟨c1, c2⟩, hN⟩ := own_tab hx
  obtain ⟨⟨u1, u2⟩, ⟨w1, w2⟩, hM⟩ := own_tab hy
  have pa : own_dy (own_q (own_u x)) _ 2 := (own_quarter a1 a2).1
  have pc : own_dy (own_q (own_v x)) _ 2 := (own_quarter c1 c2).1
  have pu : own_dy (own_q (own_u y)) _ 2 := (own_quarter u1 u2).1
  have su : sgn (val64 (own_q (own_u y))) = false := (own_quarter u1 u2).2
  have pe : own_dy (own_q (own_v y)) _ 2 := (own_quarter w1 w2).1
  rw [← ha] at pa
  rw [← hc] at pc
  rw [← hq] at pu su
  rw [← he] at pe
  have p0 := own_dy_i2d i0
  have p1 := own_dy_i2d i1
  have p2 := own_dy_i2d i2
  rw [← h0] at p0
  rw [← h1] at p1
  rw [← h2] at p2
  have b0 := own_i32b i0
  have b1 := own_i32b i1
  have b2 := own_i32b i2
  generalize (own_u x).toInt = A at *
  generalize (own_v x).toInt = C at *
  generalize (own_u y).toInt = U at *
  generalize (own_v y).toInt = E at *
  generalize i0.toInt = B0 at *
  generalize i1.toInt = B1 at *
  generalize i2.toInt = B2 at *
  have po : own_dy (FP.dmul va vc) (A * C) 4 := own_dy_mul pa pc (by omega) (by decide)
  obtain ⟨s1, S, hs, ps, hS3, hS⟩ := own_s1_of po hN
  have hS' := own_S16 hS
  obtain ⟨D, hD, D0, D16, DU⟩ := own_D u1 u2 hS3
  have pd := (own_dy_div pu ps (q := D) (j := 4) u1 su (by omega) D0 (by omega) (by decide) (by
    rw [show ((2 ^ 2 : Nat) : Int) = 4 from rfl, show ((2 ^ (4 + 0) : Nat) : Int) = 16 from rfl, hD]; omega)).1
  refine ⟨s1, ⟨pa.nn, pc.nn, pu.nn, pe.nn, po.nn⟩, ⟨p0.nn, p1.nn, p2.nn⟩, hs, pd.nn, fun vd hvd => ?_⟩
  rw [← hvd] at pd
  obtain ⟨ow1, sc1, fac1, ps1⟩ := own_fac_all pc pa (Int.mul_comm A C) hS
  have bD : D.natAbs ≤ 16 := by omega
  have pm : own_dy (FP.dmul vd sc1) U 2 := by
    have m := own_mb bD (show S.natAbs ≤ 4 by omega)
    have z : own_dy (FP.dmul vd sc1) (D * S) (4 + 0) := own_dy_mul pd ps1 (by omega) (by decide)
    rw [hD, Int.mul_comm] at z
    exact own_dy_down 2 z
  have pdd : own_dy (cond (decide (0 < C)) (cond (decide (0 < A)) (FP.dmul vd sc1) vd) vd) U 2 := by
    by_cases qc : 0 < C
    · by_cases qa : 0 < A
      · rw [decide_eq_true qc, decide_eq_true qa]; exact pm
      · rw [decide_eq_true qc, decide_eq_false qa]
        have : A = 0 := by omega
        subst this
        rw [Int.zero_mul] at hS
        have : S = 1 := by omega
        subst this
        rw [Int.mul_one] at hD
        rw [hD, Int.mul_comm] at pd
        exact own_dy_down 2 pd
    · rw [decide_eq_false qc]
      have : C = 0 := by omega
      subst this
      rw [Int.mul_zero] at hS
      have : S = 1 := by omega
      subst this
      rw [Int.mul_one] at hD
      rw [hD, Int.mul_comm] at pd
      exact own_dy_down 2 pd
  obtain ⟨S2, hT3, hT⟩ := own_S_of hM
  have hT' := own_S16 hT
  obtain ⟨ow2, sc2, fac2, ps2⟩ := own_fac_all pe pdd (Int.mul_comm U E) hT
  refine ⟨decide (0 < A), decide (0 < C), decide (0 < D), decide (0 < E), ow1, sc1, ow2, sc2, ⟨own_fl_of pa a1, own_fl_of pc c1, own_fl_of pd D0, own_fl_of pe w1⟩,
    fun q1 q2 => fac1 (Int.mul_pos (of_decide_eq_true q1) (of_decide_eq_true q2)), fun _ _ _ => pm.nn, fun q1 q2 => fac2 (Int.mul_pos (DU.mp (of_decide_eq_true q2)) (of_decide_eq_true q1)), fun e1 e2 x1 x0 q1 q2 q3 q4 => ?_⟩
  have hz1 : own_dy (cond (decide (0 < A)) sc1 FP.dconst1) S 0 := by
    by_cases qa : 0 < A
    · rw [decide_eq_true qa]; exact ps1
    · rw [decide_eq_false qa]
      have : A = 0 := by omega
      subst this
      rw [Int.zero_mul] at hS
      have : S = 1 := by omega
      subst this
      exact own_dy_one
  have hz2 : own_dy (cond (decide (0 < D)) sc2 FP.dconst1) S2 0 := by
    by_cases qa : 0 < D
    · rw [decide_eq_true qa]; exact ps2
    · rw [decide_eq_false qa]
      have : U = 0 := by omega
      subst this
      rw [Int.zero_mul] at hT
      have : S2 = 1 := by omega
      subst this
      exact own_dy_one
  obtain ⟨P, Q, R, T, ⟨hP, hQ, hR, hTT⟩, ⟨bQ, bR, bT⟩, n1, n2, n3, n4, r1, r2, r3⟩ := own_solve (fa := decide (0 < A)) (fc := decide (0 < C)) (fd := decide (0 < D)) (fe := decide (0 < E)) pa pc pdd pe p0 p1 p2 hz1 hz2 (by omega) (by omega) (by omega) (by omega) (by omega) (by omega) b0 b1 b2
    (fun q => by have := of_decide_eq_false q; omega) (fun q => by
      have : C = 0 := by have := of_decide_eq_false q; omega
      subst this
      rw [Int.mul_zero] at hS
      omega) (fun q => by have := of_decide_eq_false q; omega) (fun q => by
      have : E = 0 := by have := of_decide_eq_false q; omega
      subst this
      rw [Int.mul_zero] at hT
      omega) q1 q2 q3 q4
  refine ⟨n1, n2, n3, n4, own_eq0 pa p0 r2 r3 (by omega) bR b0 (by rw [hTT]; exact Int.add_comm _ _), own_eq1 pc pd p1 r1 r2 r3 (by omega) bD bQ bT b1 (own_id1 hS' hD hP hR hTT), own_eq2 pe p2 r2 r1 (by omega) bR b2 (own_id2 (by rw [Int.mul_comm E U]; exact hT') hQ hR)⟩
end OwnLaw
end Jvm.Pilot.@@N@@
namespace Jvm.RoadKit
open Sem ClassFile Op Lib Jvm.Stand Jvm.Free Jvm.LawKit
section New
variable {p : Program} {l : Launch} {e : Env} {R : Room} {s : State} {m : MethodId} {args : Array Value} {below : List Frame} {meth : Method} {c : Code} {T : State} {locs : List Loc} {cells slots : Nat}
theorem retI (X : Stand p l e R s m args below meth c T locs cells slots) (hx : p.tables.exec = Jvm.exec) {pc : Nat} {Ls : Array Slot} {z : Int32} {rest : List Value} (hret : meth.sig.returnType = some .int) (hd : decode c.code pc = .ok (.ireturn, 1)) {fs : List Frame}
    (hl : ∀ (f : JFrame) (acts : List Action), f.method = m → f.locked = none → f.entered = [] → (doReturn e (T.setTop f) acts (some (.int z))).1 = T.setFrames fs) : Steps p.tables e below (T.setTop (mkF m pc Ls (.int z :: rest))) (T.setFrames fs) := by
  have hm' : T.vm.method? m = some meth := X.method'
  have hn : narrow .int (.int z) = .int z := rfl
  show Steps p.tables e below (T.setTop { method := m, pc := pc, locals := Ls, stack := _ :: rest, locked := none }) _
  jvm_step X.here [X.here.top, hx, hd, hm', hret, hn]
  first | (intro acts; rw [hl _ acts rfl rfl rfl]) | rw [hl _ _ rfl rfl rfl]
  exact Steps.refl _
end New
end Jvm.RoadKit
namespace Jvm.Pilot.@@N@@
open Jvm Jvm.ClassFile Sem Op Lib Jvm.Free Jvm.Stand Jvm.LawKit Jvm.RoadKit Bundle Jvm.Pilot.@@N@@.Jvm.D
open Jvm.FP Jvm.Free.Fl
def tm0 := List.mem_of_getElem? (l := tables_1) (i := 0) rfl
def tm1 := List.mem_of_getElem? (l := tables_1) (i := 1) rfl
def tm2 := List.mem_of_getElem? (l := tables_1) (i := 2) rfl
def tm3 := List.mem_of_getElem? (l := tables_1) (i := 3) rfl
def tm4 := List.mem_of_getElem? (l := tables_1) (i := 4) rfl
def tm5 := List.mem_of_getElem? (l := tables_1) (i := 5) rfl
def tm6 := List.mem_of_getElem? (l := tables_1) (i := 6) rfl
def tm7 := List.mem_of_getElem? (l := tables_1) (i := 7) rfl
def tm8 := List.mem_of_getElem? (l := tables_1) (i := 8) rfl
def tm9 := List.mem_of_getElem? (l := tables_1) (i := 9) rfl
def tm10 := List.mem_of_getElem? (l := tables_1) (i := 10) rfl
def tm11 := List.mem_of_getElem? (l := tables_1) (i := 11) rfl
def tm12 := List.mem_of_getElem? (l := tables_1) (i := 12) rfl
def tm13 := List.mem_of_getElem? (l := tables_1) (i := 13) rfl
def tm14 := List.mem_of_getElem? (l := tables_1) (i := 14) rfl
def tm15 := List.mem_of_getElem? (l := tables_1) (i := 15) rfl
def tm16 := List.mem_of_getElem? (l := tables_1) (i := 16) rfl
def tm17 := List.mem_of_getElem? (l := tables_1) (i := 17) rfl
def tm18 := List.mem_of_getElem? (l := tables_1) (i := 18) rfl
def tm19 := List.mem_of_getElem? (l := tables_1) (i := 19) rfl
def tm20 := List.mem_of_getElem? (l := tables_1) (i := 20) rfl
def tm21 := List.mem_of_getElem? (l := tables_1) (i := 21) rfl
def tm22 := List.mem_of_getElem? (l := tables_1) (i := 22) rfl
def tm23 := List.mem_of_getElem? (l := tables_1) (i := 23) rfl
def tm24 := List.mem_of_getElem? (l := tables_1) (i := 24) rfl
def tm25 := List.mem_of_getElem? (l := tables_1) (i := 25) rfl
def tm26 := List.mem_of_getElem? (l := tables_1) (i := 26) rfl
def tm27 := List.mem_of_getElem? (l := tables_1) (i := 27) rfl
def tm28 := List.mem_of_getElem? (l := tables_1) (i := 28) rfl
def tm29 := List.mem_of_getElem? (l := tables_1) (i := 29) rfl
def tm30 := List.mem_of_getElem? (l := tables_1) (i := 30) rfl
def tm31 := List.mem_of_getElem? (l := tables_1) (i := 31) rfl
def tm32 := List.mem_of_getElem? (l := tables_1) (i := 32) rfl
def tm33 := List.mem_of_getElem? (l := tables_1) (i := 33) rfl
def tm34 := List.mem_of_getElem? (l := tables_1) (i := 34) rfl
def tm35 := List.mem_of_getElem? (l := tables_1) (i := 35) rfl
def tm36 := List.mem_of_getElem? (l := tables_1) (i := 36) rfl
def tm37 := List.mem_of_getElem? (l := tables_1) (i := 37) rfl
def tm38 := List.mem_of_getElem? (l := tables_1) (i := 38) rfl
def tm39 := List.mem_of_getElem? (l := tables_1) (i := 39) rfl
def tm40 := List.mem_of_getElem? (l := tables_1) (i := 40) rfl
def tm41 := List.mem_of_getElem? (l := tables_1) (i := 41) rfl
def tm42 := List.mem_of_getElem? (l := tables_1) (i := 42) rfl
def tm43 := List.mem_of_getElem? (l := tables_1) (i := 43) rfl
def tm44 := List.mem_of_getElem? (l := tables_1) (i := 44) rfl
def tm45 := List.mem_of_getElem? (l := tables_1) (i := 45) rfl
def tm46 := List.mem_of_getElem? (l := tables_1) (i := 46) rfl
def tm47 := List.mem_of_getElem? (l := tables_1) (i := 47) rfl
def tm48 := List.mem_of_getElem? (l := tables_1) (i := 48) rfl
def tm49 := List.mem_of_getElem? (l := tables_1) (i := 49) rfl
def tm50 := List.mem_of_getElem? (l := tables_1) (i := 50) rfl
def tm51 := List.mem_of_getElem? (l := tables_1) (i := 51) rfl
def tm52 := List.mem_of_getElem? (l := tables_1) (i := 52) rfl
def tm53 := List.mem_of_getElem? (l := tables_1) (i := 53) rfl
def tm54 := List.mem_of_getElem? (l := tables_1) (i := 54) rfl
def tm55 := List.mem_of_getElem? (l := tables_1) (i := 55) rfl
def tm56 := List.mem_of_getElem? (l := tables_1) (i := 56) rfl
def tm57 := List.mem_of_getElem? (l := tables_1) (i := 57) rfl
def tm58 := List.mem_of_getElem? (l := tables_1) (i := 58) rfl
def tm59 := List.mem_of_getElem? (l := tables_1) (i := 59) rfl
def tm60 := List.mem_of_getElem? (l := tables_1) (i := 60) rfl
def tm61 := List.mem_of_getElem? (l := tables_1) (i := 61) rfl
def tm62 := List.mem_of_getElem? (l := tables_1) (i := 62) rfl
def tm63 := List.mem_of_getElem? (l := tables_1) (i := 63) rfl
def tm64 := List.mem_of_getElem? (l := tables_1) (i := 64) rfl
def tm65 := List.mem_of_getElem? (l := tables_1) (i := 65) rfl
def tm66 := List.mem_of_getElem? (l := tables_1) (i := 66) rfl
def tm67 := List.mem_of_getElem? (l := tables_1) (i := 67) rfl
def tm68 := List.mem_of_getElem? (l := tables_1) (i := 68) rfl
def tm69 := List.mem_of_getElem? (l := tables_1) (i := 69) rfl
def tm70 := List.mem_of_getElem? (l := tables_1) (i := 70) rfl
def tm73 := List.mem_of_getElem? (l := tables_1) (i := 73) rfl
def tm74 := List.mem_of_getElem? (l := tables_1) (i := 74) rfl
def tm75 := List.mem_of_getElem? (l := tables_1) (i := 75) rfl
def tm76 := List.mem_of_getElem? (l := tables_1) (i := 76) rfl
def tm77 := List.mem_of_getElem? (l := tables_1) (i := 77) rfl
def tm78 := List.mem_of_getElem? (l := tables_1) (i := 78) rfl
def tm79 := List.mem_of_getElem? (l := tables_1) (i := 79) rfl
def tm80 := List.mem_of_getElem? (l := tables_1) (i := 80) rfl
def tm81 := List.mem_of_getElem? (l := tables_1) (i := 81) rfl
def tm82 := List.mem_of_getElem? (l := tables_1) (i := 82) rfl
def tm83 := List.mem_of_getElem? (l := tables_1) (i := 83) rfl
def tm84 := List.mem_of_getElem? (l := tables_1) (i := 84) rfl
def tm85 := List.mem_of_getElem? (l := tables_1) (i := 85) rfl
def tm86 := List.mem_of_getElem? (l := tables_1) (i := 86) rfl
def tm87 := List.mem_of_getElem? (l := tables_1) (i := 87) rfl
def tm88 := List.mem_of_getElem? (l := tables_1) (i := 88) rfl
def tm89 := List.mem_of_getElem? (l := tables_1) (i := 89) rfl
def tm90 := List.mem_of_getElem? (l := tables_1) (i := 90) rfl
def tm91 := List.mem_of_getElem? (l := tables_1) (i := 91) rfl
def tm92 := List.mem_of_getElem? (l := tables_1) (i := 92) rfl
def tm93 := List.mem_of_getElem? (l := tables_1) (i := 93) rfl
def tm94 := List.mem_of_getElem? (l := tables_1) (i := 94) rfl
def tm95 := List.mem_of_getElem? (l := tables_1) (i := 95) rfl
def tm96 := List.mem_of_getElem? (l := tables_1) (i := 96) rfl
def tm97 := List.mem_of_getElem? (l := tables_1) (i := 97) rfl
def tm98 := List.mem_of_getElem? (l := tables_1) (i := 98) rfl
def tm99 := List.mem_of_getElem? (l := tables_1) (i := 99) rfl
def tm100 := List.mem_of_getElem? (l := tables_1) (i := 100) rfl
def tm101 := List.mem_of_getElem? (l := tables_1) (i := 101) rfl
def tm102 := List.mem_of_getElem? (l := tables_1) (i := 102) rfl
def tm103 := List.mem_of_getElem? (l := tables_1) (i := 103) rfl
def tm104 := List.mem_of_getElem? (l := tables_1) (i := 104) rfl
def tm105 := List.mem_of_getElem? (l := tables_1) (i := 105) rfl
def tm106 := List.mem_of_getElem? (l := tables_1) (i := 106) rfl
def tm107 := List.mem_of_getElem? (l := tables_1) (i := 107) rfl
def tm108 := List.mem_of_getElem? (l := tables_1) (i := 108) rfl
def tm109 := List.mem_of_getElem? (l := tables_1) (i := 109) rfl
def tm110 := List.mem_of_getElem? (l := tables_1) (i := 110) rfl
def tm111 := List.mem_of_getElem? (l := tables_1) (i := 111) rfl
def tm112 := List.mem_of_getElem? (l := tables_1) (i := 112) rfl
def tm113 := List.mem_of_getElem? (l := tables_1) (i := 113) rfl
def tm114 := List.mem_of_getElem? (l := tables_1) (i := 114) rfl
def tm115 := List.mem_of_getElem? (l := tables_1) (i := 115) rfl
def tm116 := List.mem_of_getElem? (l := tables_1) (i := 116) rfl
def tm117 := List.mem_of_getElem? (l := tables_1) (i := 117) rfl
def tm118 := List.mem_of_getElem? (l := tables_1) (i := 118) rfl
def tm119 := List.mem_of_getElem? (l := tables_1) (i := 119) rfl
def tm120 := List.mem_of_getElem? (l := tables_1) (i := 120) rfl
def tm121 := List.mem_of_getElem? (l := tables_1) (i := 121) rfl
def tm122 := List.mem_of_getElem? (l := tables_1) (i := 122) rfl
def tm123 := List.mem_of_getElem? (l := tables_1) (i := 123) rfl
def tm124 := List.mem_of_getElem? (l := tables_1) (i := 124) rfl
def tm125 := List.mem_of_getElem? (l := tables_1) (i := 125) rfl
def tm126 := List.mem_of_getElem? (l := tables_1) (i := 126) rfl
def tm127 := List.mem_of_getElem? (l := tables_1) (i := 127) rfl
def tm128 := List.mem_of_getElem? (l := tables_1) (i := 128) rfl
def tm130 := List.mem_of_getElem? (l := tables_1) (i := 130) rfl
def tm131 := List.mem_of_getElem? (l := tables_1) (i := 131) rfl
def tm132 := List.mem_of_getElem? (l := tables_1) (i := 132) rfl
def tm133 := List.mem_of_getElem? (l := tables_1) (i := 133) rfl
def tm134 := List.mem_of_getElem? (l := tables_1) (i := 134) rfl
abbrev own_dc (b : ByteArray) (p : Nat) (i : Instr) (n : Nat) : Prop := decode b p = .ok (i, n)
theorem own_nm (a : Array Slot) : ∃ L : Array Slot, L = a := ⟨a, rfl⟩
theorem own_ld {L a : Array Slot} (h : L = a) (k : Nat) {v : Slot} (q : a[k]? = some v) : L[k]? = some v := by rw [h]; exact q
abbrev own_S (p : Program) (e : Env) (below : List Frame) (m : MethodId) (T : State) (pc : Nat) (L : Array Slot) (S : List Value) (t : State) : Prop := Steps p.tables e below (T.setTop (mkF m pc L S)) t
def own_EL : String := "com/example/odds2/odds2/engine/Elimination"
def own_fs : List (String × String) := [("size", "I"), ("columns", "[[I"), ("coefficients", "[[D"), ("lengths", "[I"), ("readers", "[[I"), ("readerCounts", "[I"), ("rows", "I"), ("entries", "J"), ("work", "J"), ("openColumns", "[I"), ("openCoefficients", "[D"), ("openLength", "I"), ("mergedColumns", "[I"), ("mergedCoefficients", "[D"), ("steps", "I"), ("stepRows", "[I"), ("stepPivots", "[I"), ("stepWeights", "[D"), ("stepScales", "[D")]
/-- an object of the class, with all its fields -/
def own_obj (Z : State) (h : Heap) (a : Nat) (vs : List Value) : Prop := Exa Z h a "com/example/odds2/odds2/engine/Elimination" ∧ vs.length = 19 ∧ ∀ i, i < 19 → Fld Z h a "com/example/odds2/odds2/engine/Elimination" (own_fs.getD i ("", "")).1 (own_fs.getD i ("", "")).2 (vs.getD i .null)
abbrev own_E (Z : State) (h : Heap) (a1 oc od mc md sr sp sw ss co cf le re rc : Nat) (r : Int32) (en wk : Int64) (ol st : Int32) : Prop := own_obj Z h a1 [.int 3, .ref co, .ref cf, .ref le, .ref re, .ref rc, .int r, .long en, .long wk, .ref oc, .ref od, .int ol, .ref mc, .ref md, .int st, .ref sr, .ref sp, .ref sw, .ref ss]
def own_laid (Z : State) (a0 : Array Value) : Prop := ∀ i, i < 19 → Laid Z a0 "com/example/odds2/odds2/engine/Elimination" "com/example/odds2/odds2/engine/Elimination" (own_fs.getD i ("", "")).1 (own_fs.getD i ("", "")).2
theorem own_obj.ext {Z : State} {h h' : Heap} {a : Nat} {vs : List Value} (O : own_obj Z h a vs) (E : Ext h h') : own_obj Z h' a vs := ⟨O.1.ext E, O.2.1, fun i hi => (O.2.2 i hi).ext E⟩
theorem own_obj.other {Z : State} {h h' : Heap} {a b : Nat} {sl : Nat} {v : Value} {vs : List Value} (O : own_obj Z h a vs) (W : Wr h h' b sl v) (q : a ≠ b) : own_obj Z h' a vs := ⟨O.1.wr W, O.2.1, fun i hi => (O.2.2 i hi).other W (Or.inl q)⟩
theorem own_obj.keep {Z : State} {h h' : Heap} {a : Nat} {ws : List Addr} {vs : List Value} (O : own_obj Z h a vs) (K : Keep h h' ws) (q : a ∉ ws) : own_obj Z h' a vs := ⟨O.1.keep K, O.2.1, fun i hi => (O.2.2 i hi).keep K q⟩
theorem own_obj.lt {Z : State} {h : Heap} {a : Nat} {vs : List Value} (O : own_obj Z h a vs) : a < h.size := O.1.lt
theorem own_fs_desc : ∀ i : Fin 19, (parseFieldDescriptor (own_fs.getD i.val ("", "")).2).isSome = true := by decide +kernel
theorem own_fs_ne : ∀ i j : Fin 19, i ≠ j → (own_fs.getD i.val ("", "")).1 ≠ (own_fs.getD j.val ("", "")).1 := by decide +kernel
theorem own_put {Z : State} {h h' : Heap} {a0 : Array Value} {a : Nat} {v : Value} {vs : List Value} (O : own_obj Z h a vs) (hl : own_laid Z a0) {i : Nat} (hi : i < 19) (W : Wr h h' a (Jvm.RoadKit.slotOf Z "com/example/odds2/odds2/engine/Elimination" (own_fs.getD i ("", "")).1 (own_fs.getD i ("", "")).2) v) : own_obj Z h' a (vs.set i v) := by
  refine ⟨O.1.wr W, by rw [List.length_set]; exact O.2.1, fun j hj => ?_⟩
  by_cases e : i = j
  · subst e
    have hlen : i < vs.length := by rw [O.2.1]; exact hi
    rw [show (vs.set i v).getD i .null = v by simp [List.getD, List.getElem?_set, hlen]]
    exact (O.2.2 i hi).same W
  · rw [show (vs.set i v).getD j .null = vs.getD j .null by simp [List.getD, List.getElem?_set, e]]
    obtain ⟨t, ht⟩ := Option.isSome_iff_exists.mp (own_fs_desc ⟨j, hj⟩)
    obtain ⟨t', ht'⟩ := Option.isSome_iff_exists.mp (own_fs_desc ⟨i, hi⟩)
    exact (O.2.2 j hj).other W (Or.inr (slot_ne (hl j hj) (hl i hi) (own_fs_ne ⟨j, hj⟩ ⟨i, hi⟩ (fun q => e (Fin.mk.inj q).symm)) ht ht'))
theorem own_laid_of {Z : State} {a0 : Array Value} (hw : ∀ d ∈ tables_1, d.before a0 Z = true) : own_laid Z a0 := fun i hi => by
  match i, hi with
  | 0, _ => exact Or.inr (hw _ tm32)
  | 1, _ => exact Or.inr (hw _ tm36)
  | 2, _ => exact Or.inr (hw _ tm40)
  | 3, _ => exact Or.inr (hw _ tm42)
  | 4, _ => exact Or.inr (hw _ tm44)
  | 5, _ => exact Or.inr (hw _ tm46)
  | 6, _ => exact Or.inl (hw _ tm70)
  | 7, _ => exact Or.inl (hw _ tm74)
  | 8, _ => exact Or.inl (hw _ tm76)
  | 9, _ => exact Or.inl (hw _ tm15)
  | 10, _ => exact Or.inl (hw _ tm18)
  | 11, _ => exact Or.inl (hw _ tm53)
  | 12, _ => exact Or.inl (hw _ tm20)
  | 13, _ => exact Or.inl (hw _ tm22)
  | 14, _ => exact Or.inl (hw _ tm116)
  | 15, _ => exact Or.inl (hw _ tm24)
  | 16, _ => exact Or.inl (hw _ tm26)
  | 17, _ => exact Or.inl (hw _ tm28)
  | 18, _ => exact Or.inl (hw _ tm30)
  | j + 19, h => exact absurd h (by omega)
theorem own_at {Z : State} {h : Heap} {a : Addr} {k : ClassId} {ty : FieldType} {z : Int32} {vs : List Value} {dv : Value} (F : Arv Z h a k ty z vs dv) (j : Int32) (i : Nat) (hj : j.toNatClampNeg = i) (hn : ¬ j < 0) (hi : j < z) :
    ∃ cl : Cell, Arr Z h a cl ty ∧ ¬ (j < 0 ∨ cl.slots.size ≤ j.toNatClampNeg) ∧ cl.slots[j.toNatClampNeg]? = some (vs.getD i dv) := by
  obtain ⟨cl, A, -, S, N, H, -⟩ := F
  have hin := inb_of (j := j) S ⟨hn, hi⟩
  refine ⟨cl, A, hin, ?_⟩
  subst hj
  exact H _ (Nat.lt_of_not_le fun q => hin (Or.inr q))
section GetR
variable {p : Program} {l : Launch} {e : Env} {R : Room} {s : State} {m : MethodId} {args : Array Value} {below : List Frame} {meth : Method} {c : Code} {T : State} {locs : List Loc} {cells slots : Nat} {Z : State} {h : Heap}
/-- getfield where the pool's entry has been resolved ahead (fieldRef) -/
theorem getR (X : Stand p l e R s m args below meth c T locs cells slots) (hx : p.tables.exec = Jvm.exec) (hZ : Z.Warmed39 s.vm) {a0 : Array Value} {own O n d : String} {index : Nat} (hown : s.vm.findClass own = some m.cls) (w : (Cond.fieldRef own index O n d).before a0 Z = true)
    (eT : T.heap = h) {a : Addr} {v : Value} (F : Fld Z h a O n d v) {g : JFrame} (hg : g.method = m) {rest : List Value} (hs : g.stack = .ref a :: rest) (hd : decode c.code g.pc = .ok (.getfield index, 3)) {target : State}
    (hr : Steps p.tables e below (T.setTop { g with pc := g.pc + 3, stack := v :: rest }) target) : Steps p.tables e below (T.setTop g) target := by
  obtain ⟨cell, cf, k, i, f, h1, h2, h3, h4, -, -, h7⟩ := F
  have hU : Z.Warmed39 T.vm := wtrans hZ X.warmed
  obtain ⟨k', hi, -⟩ := State.fieldFound?_setVm (s := Z) hU.alike h2
  have hown' : (Z.setVm T.vm).vm.findClass own = some m.cls := by
    show T.vm.findClass own = some m.cls
    rw [X.warmed.alike.findClass]; exact hown
  obtain ⟨c1, k1, i1, f1, hf1, hready⟩ := Cond.fieldRef_spec hown' (Cond.fieldRef_warmed39 hU w)
  cases hi.symm.trans hf1
  have hc : T.heap[a]? = some cell := by rw [eT]; exact h1
  obtain ⟨gm, gp, gl, gs, gk, ge, gr⟩ := g
  simp only at hs hd hg
  subst hs hg
  jvm_step X.here [X.here.top, hx, hd, getfield.at_ready X.here.top hready h3 hc h4 h7]
  exact hr
end GetR
section OwnW
variable {p : Program} {l : Launch} {e : Env} {R : Room} {s : State} {m : MethodId} {args : Array Value} {below : List Frame} {meth : Method} {c : Code} {T : State} {locs : List Loc} {cells slots : Nat} {B : ByteArray} {pc : Nat} {L L' A A' : Array Slot} {S : List Value} {t : State} {Z : State} {h : Heap} {a0 : Array Value}
theorem wiload (X : Stand p l e R s m args below meth c T locs cells slots) (hx : p.tables.exec = Jvm.exec) (y : c.code = B) {k : Nat} {v : Int32} (hd : decode B pc = .ok (.iload k, 2)) (hl : L[k]? = some (.val (.int v))) (hr : own_S p e below m T (pc + 2) L (.int v :: S) t) : own_S p e below m T pc L S t := XS.iload (g := mkF m pc L S) X.here hx rfl (hb y hd) hl hr
theorem wiloadN (X : Stand p l e R s m args below meth c T locs cells slots) (hx : p.tables.exec = Jvm.exec) (y : c.code = B) {k : Fin 4} {v : Int32} (hd : decode B pc = .ok (.iload_n k, 1)) (hl : L[k.val]? = some (.val (.int v))) (hr : own_S p e below m T (pc + 1) L (.int v :: S) t) : own_S p e below m T pc L S t := XS.iloadN (g := mkF m pc L S) X.here hx rfl (hb y hd) hl hr
theorem waload (X : Stand p l e R s m args below meth c T locs cells slots) (hx : p.tables.exec = Jvm.exec) (y : c.code = B) {k : Nat} {v : Value} (hd : decode B pc = .ok (.aload k, 2)) (hl : L[k]? = some (.val v)) (hv : v.isRef = true) (hr : own_S p e below m T (pc + 2) L (v :: S) t) : own_S p e below m T pc L S t := XS.aload (g := mkF m pc L S) X.here hx rfl (hb y hd) hl hv hr
theorem waloadN (X : Stand p l e R s m args below meth c T locs cells slots) (hx : p.tables.exec = Jvm.exec) (y : c.code = B) {k : Fin 4} {v : Value} (hd : decode B pc = .ok (.aload_n k, 1)) (hl : L[k.val]? = some (.val v)) (hv : v.isRef = true) (hr : own_S p e below m T (pc + 1) L (v :: S) t) : own_S p e below m T pc L S t := XS.aloadN (g := mkF m pc L S) X.here hx rfl (hb y hd) hl hv hr
theorem wdload (X : Stand p l e R s m args below meth c T locs cells slots) (hx : p.tables.exec = Jvm.exec) (y : c.code = B) {k : Nat} {v : UInt64} (hd : decode B pc = .ok (.dload k, 2)) (hl : L[k]? = some (.val (.double v))) (hr : own_S p e below m T (pc + 2) L (.double v :: S) t) : own_S p e below m T pc L S t := XS.dload (g := mkF m pc L S) X.here hx rfl (hb y hd) hl hr
theorem wiconst (X : Stand p l e R s m args below meth c T locs cells slots) (hx : p.tables.exec = Jvm.exec) (y : c.code = B) {i : Int} (hd : decode B pc = .ok (.iconst i, 1)) (hr : own_S p e below m T (pc + 1) L (.int (Int32.ofInt i) :: S) t) : own_S p e below m T pc L S t := XS.iconst (g := mkF m pc L S) X.here hx rfl (hb y hd) hr
theorem wgoto (X : Stand p l e R s m args below meth c T locs cells slots) (hx : p.tables.exec = Jvm.exec) (y : c.code = B) {o : Int} (hd : decode B pc = .ok (.goto o, 3)) (pc0 pc' : Nat) (hpc : pc = pc0) (ho : 0 ≤ (pc0 : Int) + o) (hp : ((pc0 : Int) + o).toNat = pc') (hr : own_S p e below m T pc' L S t) : own_S p e below m T pc L S t := XS.goto (g := mkF m pc L S) X.here hx rfl hpc (hb y hd) ho hp hr
theorem wifYes (X : Stand p l e R s m args below meth c T locs cells slots) (hx : p.tables.exec = Jvm.exec) (y : c.code = B) {cd : ClassFile.Cond} {o : Int} {x : Int32} (hd : decode B pc = .ok (.ifCond cd o, 3)) (pc0 pc' : Nat) (hpc : pc = pc0) (hc : ifCond.holds cd x = true) (ho : 0 ≤ (pc0 : Int) + o) (hp : ((pc0 : Int) + o).toNat = pc') (hr : own_S p e below m T pc' L S t) : own_S p e below m T pc L (.int x :: S) t := XS.ifYes (g := mkF m pc L (.int x :: S)) X.here hx rfl hpc (hb y hd) rfl hc ho hp hr
theorem wifNo (X : Stand p l e R s m args below meth c T locs cells slots) (hx : p.tables.exec = Jvm.exec) (y : c.code = B) {cd : ClassFile.Cond} {o : Int} {x : Int32} (hd : decode B pc = .ok (.ifCond cd o, 3)) (hc : ifCond.holds cd x = false) (hr : own_S p e below m T (pc + 3) L S t) : own_S p e below m T pc L (.int x :: S) t := XS.ifNo (g := mkF m pc L (.int x :: S)) X.here hx rfl (hb y hd) rfl hc hr
theorem wicmpYes (X : Stand p l e R s m args below meth c T locs cells slots) (hx : p.tables.exec = Jvm.exec) (y : c.code = B) {cd : ClassFile.Cond} {o : Int} {x z : Int32} (hd : decode B pc = .ok (.if_icmp cd o, 3)) (pc0 pc' : Nat) (hpc : pc = pc0) (hc : if_icmp.holds cd x z = true) (ho : 0 ≤ (pc0 : Int) + o) (hp : ((pc0 : Int) + o).toNat = pc') (hr : own_S p e below m T pc' L S t) : own_S p e below m T pc L (.int z :: .int x :: S) t := XS.icmpYes (g := mkF m pc L (.int z :: .int x :: S)) X.here hx rfl hpc (hb y hd) rfl hc ho hp hr
theorem wicmpNo (X : Stand p l e R s m args below meth c T locs cells slots) (hx : p.tables.exec = Jvm.exec) (y : c.code = B) {cd : ClassFile.Cond} {o : Int} {x z : Int32} (hd : decode B pc = .ok (.if_icmp cd o, 3)) (hc : if_icmp.holds cd x z = false) (hr : own_S p e below m T (pc + 3) L S t) : own_S p e below m T pc L (.int z :: .int x :: S) t := XS.icmpNo (g := mkF m pc L (.int z :: .int x :: S)) X.here hx rfl (hb y hd) rfl hc hr
theorem wistore (X : Stand p l e R s m args below meth c T locs cells slots) (hx : p.tables.exec = Jvm.exec) (y : c.code = B) {k : Nat} {x : Int32} (hd : decode B pc = .ok (.istore k, 2)) (h1 : L = A) (h2 : L' = A') (q : storeLocals A k (.int x) = some A') (hr : own_S p e below m T (pc + 2) L' S t) : own_S p e below m T pc L (.int x :: S) t := XS.istore (g := mkF m pc L (.int x :: S)) X.here hx rfl (hb y hd) rfl (by rw [h2]; show storeLocals L _ _ = _; rw [h1]; exact q) hr
theorem wiinc (X : Stand p l e R s m args below meth c T locs cells slots) (hx : p.tables.exec = Jvm.exec) (y : c.code = B) {k : Nat} {i : Int} {x : Int32} (hd : decode B pc = .ok (.iinc k i, 3)) (hl : L[k]? = some (.val (.int x))) (h1 : L = A) (h2 : L' = A') (q : storeLocals A k (.int (x + Int32.ofInt i)) = some A') (hr : own_S p e below m T (pc + 3) L' S t) : own_S p e below m T pc L S t := XS.iinc (g := mkF m pc L S) X.here hx rfl (hb y hd) hl (by rw [h2]; show storeLocals L _ _ = _; rw [h1]; exact q) hr
theorem wiaload (X : Stand p l e R s m args below meth c T locs cells slots) (hx : p.tables.exec = Jvm.exec) (y : c.code = B) (hZ : Z.Warmed39 s.vm) (eT : T.heap = h) {a : Addr} {k : ClassId} {n : Int32} {vs : List Value} {dv : Value} (F : Arv Z h a k .int n vs dv) {j : Int32} (i : Nat) (hj : j.toNatClampNeg = i) (hn : ¬ j < 0) (hi : j < n) {v : Value} (hv : vs.getD i dv = v) (hd : decode B pc = .ok (.iaload, 1)) (hr : own_S p e below m T (pc + 1) L (v :: S) t) : own_S p e below m T pc L (.int j :: .ref a :: S) t := by
  obtain ⟨cl, A, hin, hat⟩ := own_at F j i hj hn hi
  exact X.iaload hx (j := j) (v := v) (by rw [eT]; exact A.1) (State.isArrayOf_alike hZ.alike A.2.1) A.2.2 hin (hat.trans (congrArg some hv)) (g := mkF m pc L (.int j :: .ref a :: S)) rfl rfl (hb y hd) _ hr
theorem wlaload (X : Stand p l e R s m args below meth c T locs cells slots) (hx : p.tables.exec = Jvm.exec) (y : c.code = B) (hZ : Z.Warmed39 s.vm) (eT : T.heap = h) {a : Addr} {k : ClassId} {n : Int32} {vs : List Value} {dv : Value} (F : Arv Z h a k .long n vs dv) {j : Int32} (i : Nat) (hj : j.toNatClampNeg = i) (hn : ¬ j < 0) (hi : j < n) {v : Value} (hv : vs.getD i dv = v) (hd : decode B pc = .ok (.laload, 1)) (hr : own_S p e below m T (pc + 1) L (v :: S) t) : own_S p e below m T pc L (.int j :: .ref a :: S) t := by
  obtain ⟨cl, A, hin, hat⟩ := own_at F j i hj hn hi
  exact X.laload hx (j := j) (v := v) (by rw [eT]; exact A.1) (State.isArrayOf_alike hZ.alike A.2.1) A.2.2 hin (hat.trans (congrArg some hv)) (g := mkF m pc L (.int j :: .ref a :: S)) rfl rfl (hb y hd) _ hr
theorem wdaload (X : Stand p l e R s m args below meth c T locs cells slots) (hx : p.tables.exec = Jvm.exec) (y : c.code = B) (hZ : Z.Warmed39 s.vm) (eT : T.heap = h) {a : Addr} {k : ClassId} {n : Int32} {vs : List Value} {dv : Value} (F : Arv Z h a k .double n vs dv) {j : Int32} (i : Nat) (hj : j.toNatClampNeg = i) (hn : ¬ j < 0) (hi : j < n) {v : Value} (hv : vs.getD i dv = v) (hd : decode B pc = .ok (.daload, 1)) (hr : own_S p e below m T (pc + 1) L (v :: S) t) : own_S p e below m T pc L (.int j :: .ref a :: S) t := by
  obtain ⟨cl, A, hin, hat⟩ := own_at F j i hj hn hi
  exact X.daload hx (j := j) (v := v) (by rw [eT]; exact A.1) (State.isArrayOf_alike hZ.alike A.2.1) A.2.2 hin (hat.trans (congrArg some hv)) (g := mkF m pc L (.int j :: .ref a :: S)) rfl rfl (hb y hd) _ hr
theorem waaload (X : Stand p l e R s m args below meth c T locs cells slots) (hx : p.tables.exec = Jvm.exec) (y : c.code = B) (hZ : Z.Warmed39 s.vm) (eT : T.heap = h) {a : Addr} {k : ClassId} {ty : FieldType} {n : Int32} {vs : List Value} {dv : Value} (F : Arv Z h a k (.array ty) n vs dv) {j : Int32} (i : Nat) (hj : j.toNatClampNeg = i) (hn : ¬ j < 0) (hi : j < n) {v : Value} (hv : vs.getD i dv = v) (hd : decode B pc = .ok (.aaload, 1)) (hr : own_S p e below m T (pc + 1) L (v :: S) t) : own_S p e below m T pc L (.int j :: .ref a :: S) t := by
  obtain ⟨cl, A, hin, hat⟩ := own_at F j i hj hn hi
  exact X.aaload hx (j := j) (v := v) (by rw [eT]; exact A.1) (State.isArrayOf_alike hZ.alike A.2.1) rfl A.2.2 hin (hat.trans (congrArg some hv)) (g := mkF m pc L (.int j :: .ref a :: S)) rfl rfl (hb y hd) _ hr
theorem wiastore (X : Stand p l e R s m args below meth c T locs cells slots) (hx : p.tables.exec = Jvm.exec) (y : c.code = B) (hZ : Z.Warmed39 s.vm) (eT : T.heap = h) {n0 : Nat} (N : Fr n0 locs) {a : Addr} {k : ClassId} {n : Int32} {vs : List Value} {dv : Value} (F : Arv Z h a k .int n vs dv) (g0 : n0 ≤ a) (j x : Int32) (i : Nat) (hj : j.toNatClampNeg = i) (hn : ¬ j < 0) (hi : j < n) (hlen : i < vs.length) (L : Array Slot) (S : List Value) (hd : decode B pc = .ok (.iastore, 1)) :
    ∃ T' h', Stand p l e R s m args below meth c T' (locs ++ [⟨a, j.toNatClampNeg⟩]) cells slots ∧ T'.heap = h' ∧ Wr h h' a j.toNatClampNeg (.int x) ∧ Arv Z h' a k .int n (vs.set i (.int x)) dv ∧ Fr n0 (locs ++ [⟨a, j.toNatClampNeg⟩]) ∧ ∀ t, own_S p e below m T' (pc + 1) L S t → own_S p e below m T pc L (.int x :: .int j :: .ref a :: S) t := by
  obtain ⟨cl, A, q, sz, M, Hh, G⟩ := F
  obtain ⟨T', h', X', e', W, st⟩ := stI X hx hZ eT A (j := j) (x := x) (inb_of sz ⟨hn, hi⟩) (g := mkF m pc L (.int x :: .int j :: .ref a :: S)) rfl rfl (hb y hd)
  exact ⟨T', h', X', e', W, Arv.set A q sz M Hh G rfl W i hj hlen, Fr.snoc X' N g0, st⟩
theorem wdastore (X : Stand p l e R s m args below meth c T locs cells slots) (hx : p.tables.exec = Jvm.exec) (y : c.code = B) (hZ : Z.Warmed39 s.vm) (eT : T.heap = h) {n0 : Nat} (N : Fr n0 locs) {a : Addr} {k : ClassId} {n : Int32} {vs : List Value} {dv : Value} (F : Arv Z h a k .double n vs dv) (g0 : n0 ≤ a) (j : Int32) (x : UInt64) (i : Nat) (hj : j.toNatClampNeg = i) (hn : ¬ j < 0) (hi : j < n) (hlen : i < vs.length) (L : Array Slot) (S : List Value) (hd : decode B pc = .ok (.dastore, 1)) :
    ∃ T' h', Stand p l e R s m args below meth c T' (locs ++ [⟨a, j.toNatClampNeg⟩]) cells slots ∧ T'.heap = h' ∧ Wr h h' a j.toNatClampNeg (.double x) ∧ Arv Z h' a k .double n (vs.set i (.double x)) dv ∧ Fr n0 (locs ++ [⟨a, j.toNatClampNeg⟩]) ∧ ∀ t, own_S p e below m T' (pc + 1) L S t → own_S p e below m T pc L (.double x :: .int j :: .ref a :: S) t := by
  obtain ⟨cl, A, q, sz, M, Hh, G⟩ := F
  obtain ⟨T', h', X', e', W, st⟩ := stD X hx hZ eT A (j := j) (x := x) (inb_of sz ⟨hn, hi⟩) (g := mkF m pc L (.double x :: .int j :: .ref a :: S)) rfl rfl (hb y hd)
  exact ⟨T', h', X', e', W, Arv.set A q sz M Hh G rfl W i hj hlen, Fr.snoc X' N g0, st⟩
theorem wlastore (X : Stand p l e R s m args below meth c T locs cells slots) (hx : p.tables.exec = Jvm.exec) (y : c.code = B) (hZ : Z.Warmed39 s.vm) (eT : T.heap = h) {n0 : Nat} (N : Fr n0 locs) {a : Addr} {k : ClassId} {n : Int32} {vs : List Value} {dv : Value} (F : Arv Z h a k .long n vs dv) (g0 : n0 ≤ a) (j : Int32) (x : Int64) (i : Nat) (hj : j.toNatClampNeg = i) (hn : ¬ j < 0) (hi : j < n) (hlen : i < vs.length) (L : Array Slot) (S : List Value) (hd : decode B pc = .ok (.lastore, 1)) :
    ∃ T' h', Stand p l e R s m args below meth c T' (locs ++ [⟨a, j.toNatClampNeg⟩]) cells slots ∧ T'.heap = h' ∧ Wr h h' a j.toNatClampNeg (.long x) ∧ Arv Z h' a k .long n (vs.set i (.long x)) dv ∧ Fr n0 (locs ++ [⟨a, j.toNatClampNeg⟩]) ∧ ∀ t, own_S p e below m T' (pc + 1) L S t → own_S p e below m T pc L (.long x :: .int j :: .ref a :: S) t := by
  obtain ⟨cl, A, q, sz, M, Hh, G⟩ := F
  obtain ⟨T', h', X', e', W, st⟩ := stJ X hx hZ eT A (j := j) (x := x) (inb_of sz ⟨hn, hi⟩) (g := mkF m pc L (.long x :: .int j :: .ref a :: S)) rfl rfl (hb y hd)
  exact ⟨T', h', X', e', W, Arv.set A q sz M Hh G rfl W i hj hlen, Fr.snoc X' N g0, st⟩
theorem own_obj.at {a : Nat} {vs : List Value} (O : own_obj Z h a vs) (i : Nat) (hi : i < 19 := by decide) : Fld Z h a own_EL (own_fs.getD i ("", "")).1 (own_fs.getD i ("", "")).2 (vs.getD i .null) := O.2.2 i hi
theorem wget (X : Stand p l e R s m args below meth c T locs cells slots) (hx : p.tables.exec = Jvm.exec) (y : c.code = B) (hZ : Z.Warmed39 s.vm) {own n d : String} {index : Nat} (hown : s.vm.findClass own = some m.cls) (w : (Cond.fieldLink own index own_EL n d).before a0 Z = true) (eT : T.heap = h) {a : Addr} {v : Value} (F : Fld Z h a own_EL n d v) (L : Array Slot) (S : List Value) (hd : decode B pc = .ok (.getfield index, 3)) :
    ∃ T', Stand p l e R s m args below meth c T' locs cells slots ∧ T'.heap = h ∧ ∀ t, own_S p e below m T' (pc + 3) L (v :: S) t → own_S p e below m T pc L (.ref a :: S) t :=
  getF X hx hZ hown (host := "") (Or.inl w) Via.refl eT F (g := mkF m pc L (.ref a :: S)) rfl rfl (hb y hd)
end OwnW
def own_ord (a1 oc od mc md sr sp sw ss co cf le re rc : Nat) : Prop := a1 < oc ∧ oc < od ∧ od < mc ∧ mc < md ∧ md < sr ∧ sr < sp ∧ sp < sw ∧ sw < ss ∧ ss < co ∧ co < cf ∧ cf < le ∧ le < re ∧ re < rc
theorem own_sel {Z s : State} {a0 args : Array Value} (hZ : Z.Warmed39 s.vm) (hw : ∀ d ∈ tables_1, d.before a0 Z = true) {nm ds : String} (wp : (Jvm.Cond.privateMethod (⟨"com/example/odds2/odds2/engine/Elimination", nm, ds⟩ : MethodName)).before a0 Z = true) (wi : (Jvm.Cond.instanceMethod (⟨"com/example/odds2/odds2/engine/Elimination", nm, ds⟩ : MethodName)).before a0 Z = true) : (Jvm.Cond.selects "com/example/odds2/odds2/engine/Elimination" (⟨"com/example/odds2/odds2/engine/Elimination", nm, ds⟩ : MethodName) (⟨"com/example/odds2/odds2/engine/Elimination", nm, ds⟩ : MethodName)).before args s = true := by
  have hs : (Jvm.Cond.selects "com/example/odds2/odds2/engine/Elimination" (⟨"com/example/odds2/odds2/engine/Elimination", "endRow", "()V"⟩ : MethodName) (⟨"com/example/odds2/odds2/engine/Elimination", "endRow", "()V"⟩ : MethodName)).before args s = true := mvT hZ (hw _ (List.mem_of_getElem? (i := 50) rfl))
  obtain ⟨c2, r2, m2, q1, -, q3, -, kP, hkP, hkPi⟩ := Cond.selects_spec hs
  exact Jvm.Stand.selects_self_of_private (y := ⟨"com/example/odds2/odds2/engine/Elimination", nm, ds⟩) (show s.vm.findClass "com/example/odds2/odds2/engine/Elimination" = some m2.cls from findClass_of_methodNamed q3) hkP hkPi (Cond.privateMethod_at (mvP hZ wp (args := #[]))) (mvT hZ wi) ⟨(by decide : "com/example/odds2/odds2/engine/Elimination" ≠ "java/lang/invoke/MethodHandle"), (by decide : "com/example/odds2/odds2/engine/Elimination" ≠ "java/lang/invoke/VarHandle")⟩
def own_3 (x : Int32) : Prop := x = 0 ∨ x = 1 ∨ x = 2
theorem own_3a {x : Int32} (h : own_3 x) : ¬ x < 0 := by rcases h with rfl | rfl | rfl <;> decide
theorem own_3b {x : Int32} (h : own_3 x) : x < 3 := by rcases h with rfl | rfl | rfl <;> decide
theorem own_3c {x : Int32} (h : own_3 x) : x.toNatClampNeg < 3 := by rcases h with rfl | rfl | rfl <;> decide
def own_key (x : Int32) : Int64 := (x.toInt64 <<< ((32 : Int32) &&& 0x3f).toInt64) ||| (0 : Int32).toInt64
theorem own_key1 {x : Int32} (h : own_3 x) : (((own_key x).toUInt64 >>> ((32 : Int32) &&& 0x3f).toInt64.toUInt64).toInt64).toInt32 = x := by rcases h with rfl | rfl | rfl <;> decide +kernel
theorem own_key2 {x : Int32} (h : own_3 x) : (own_key x).toInt32 = (0 : Int32) := by rcases h with rfl | rfl | rfl <;> decide +kernel
theorem own_nlt1 {n : Int32} (h : n = 0 ∨ n = 1 ∨ n = 2) : ¬ n < 0 := by rcases h with rfl | rfl | rfl <;> decide
theorem own_pad0 {q : Value} (i : Nat) : ([q, q] : List Value).getD i q = ([] : List Value).getD i q := by
  match i with
  | 0 => rfl
  | 1 => rfl
  | j + 2 => rfl
theorem own_pad1 {p q : Value} (i : Nat) : ([p, q] : List Value).getD i q = ([p] : List Value).getD i q := by
  match i with
  | 0 => rfl
  | 1 => rfl
  | j + 2 => rfl
theorem own_pad2 {p r q : Value} (i : Nat) : ([p, r] : List Value).getD i q = ([p, r] : List Value).getD i q := rfl
theorem own_skip {vs : List Value} {i j : Nat} {v w d : Value} (h : vs.getD j d = w) (q : i ≠ j) : (vs.set i v).getD j d = w := by
  rw [← h]; simp [List.getD, List.getElem?_set, q]
def own_12 (n : Int32) : Prop := n = 1 ∨ n = 2
def own_01 (n : Int32) : Prop := n = 0 ∨ n = 1
theorem own_irr (x : Int32) : ¬ x < x := by rw [Int32.lt_iff_toInt_lt]; omega
theorem own_01a {x : Int32} (h : own_01 x) : ¬ x < 0 := by rcases h with rfl | rfl <;> decide
theorem own_01b {x : Int32} (h : own_01 x) : x < 16 := by rcases h with rfl | rfl <;> decide
theorem own_01c {x : Int32} (h : own_01 x) : x.toNatClampNeg < 2 := by rcases h with rfl | rfl <;> decide
theorem own_01d {x : Int32} (h : own_01 x) : ¬ x = 16 := by rcases h with rfl | rfl <;> decide
theorem own_3m {x : Int32} (h : own_3 x) : ¬ ((2147483647 : Int32) = x) := by rcases h with rfl | rfl | rfl <;> decide
theorem own_3n {x : Int32} (h : own_3 x) : x < (2147483647 : Int32) := by rcases h with rfl | rfl | rfl <;> decide
abbrev own_i (b : Bool) : Int32 := cond b 1 0
abbrev own_lb (c d : Bool) : Int32 := cond c (cond d 2 1) (cond d 1 0)
abbrev own_de (d : Bool) : Int64 := cond d (((1 : Int32) - (2 : Int32)).toInt64) (((0 : Int32) - (1 : Int32)).toInt64)
abbrev own_en (a c d e : Bool) : Int64 := cond a (cond c (cond d (cond e 4 3) (cond e 3 2)) (cond d (cond e 3 2) (cond e 2 1))) (cond c (cond d (cond e 3 2) (cond e 2 1)) (cond d (cond e 2 1) (cond e 1 0)))
abbrev own_e1 (a c d e : Bool) : Int64 := cond c (own_en a c d e + own_de d) (own_en a c d e)
abbrev own_e2 (a c d e : Bool) : Int64 := cond e (own_e1 a c d e + ((0 : Int32) - (1 : Int32)).toInt64) (own_e1 a c d e)
theorem own_wk (x : Int64) : ¬ ((0 : Int32) < lcmpW x (9223372036854775807 : Int64)) := by
  have h : ¬ ((9223372036854775807 : Int64) < x) := by
    rw [Int64.lt_iff_toInt_lt]
    have := Int64.toInt_lt x
    rw [show (9223372036854775807 : Int64).toInt = 9223372036854775807 from by decide]; omega
  rw [lw_gt]; exact h
theorem own_l1 (a d e : Bool) : ¬ ((0 : Int32) < lcmpW (own_en a true d e + own_de d) ((16 : Int64) * own_en a true d e + (3 : Int32).toInt64)) := by cases a <;> cases d <;> cases e <;> decide +kernel
theorem own_l2 (a c d : Bool) : ¬ ((0 : Int32) < lcmpW (own_e1 a c d true + ((0 : Int32) - (1 : Int32)).toInt64) ((16 : Int64) * own_en a c d true + (3 : Int32).toInt64)) := by cases a <;> cases c <;> cases d <;> decide +kernel
theorem own_arv0 {Z : State} {h : Heap} {a : Nat} {k : ClassId} {ty : FieldType} {vs : List Value} {dv : Value} (vs' : List Value) (F : Arv Z h a k ty (0 : Int32) vs dv) : Arv Z h a k ty (0 : Int32) vs' dv := by
  obtain ⟨c, A, r1, r2, r3, H, G⟩ := F
  have z : c.slots.size = 0 := r2.trans (by decide)
  exact ⟨c, A, r1, r2, r3, fun i hi => absurd hi (by omega), fun i hi => absurd hi (by omega)⟩
theorem own_arv1 {Z : State} {h : Heap} {a : Nat} {k : ClassId} {ty : FieldType} {v : Value} {vs : List Value} {dv : Value} (vs' : List Value) (F : Arv Z h a k ty (1 : Int32) (v :: vs) dv) : Arv Z h a k ty (1 : Int32) (v :: vs') dv := by
  obtain ⟨c, A, r1, r2, r3, H, G⟩ := F
  have z : c.slots.size = 1 := r2.trans (by decide)
  refine ⟨c, A, r1, r2, r3, fun i hi => ?_, fun i hi => ?_⟩
  · obtain rfl : i = 0 := by omega
    exact H 0 hi
  · obtain rfl : i = 0 := by omega
    exact G 0 hi
theorem own_pad3 {p r q : Value} (i : Nat) : ([p, r, q] : List Value).getD i q = ([p, r] : List Value).getD i q := by
  match i with
  | 0 => rfl
  | 1 => rfl
  | 2 => rfl
  | j + 3 => rfl
theorem own_ens (a c d e : Bool) : ((((0 : Int64) + (own_i a).toInt64) + (own_lb c d).toInt64) + (own_i e).toInt64) = own_en a c d e := by cases a <;> cases c <;> cases d <;> cases e <;> decide +kernel
theorem own_X1 {f : Bool} {a b s t : UInt64} (h : f = true → s = t) : cond f (FP.dadd a (FP.dmul s b)) a = cond f (FP.dadd a (FP.dmul t b)) a := by
  cases f
  · rfl
  · rw [h rfl]
theorem own_back (w z : Int64) : (w + z) - w = z := by
  apply Int64.toBitVec_inj.mp
  rw [Int64.toBitVec_sub, Int64.toBitVec_add, BitVec.add_comm, BitVec.add_sub_cancel]
theorem own_fin (w : Int64) (a c d e : Bool) : lcmpW ((w + ((own_lb c e).toInt64 + (own_e2 a c d e))) - w) ((((own_i a + own_i c) + own_i d) + own_i e).toInt64) = (0 : Int32) := by
  rw [own_back]
  cases a <;> cases c <;> cases d <;> cases e <;> decide +kernel
abbrev k0_b := prog_14_method_1_code
theorem k0_0 : own_dc k0_b 0 (.aload_n 0) 1 := by decide +kernel
theorem k0_1 : own_dc k0_b 1 (.invokespecial 1) 3 := by decide +kernel
theorem k0_4 : own_dc k0_b 4 (.aload_n 0) 1 := by decide +kernel
theorem k0_5 : own_dc k0_b 5 (.bipush 16) 2 := by decide +kernel
theorem k0_7 : own_dc k0_b 7 (.newarray .int) 2 := by decide +kernel
theorem k0_9 : own_dc k0_b 9 (.putfield 7) 3 := by decide +kernel
theorem k0_12 : own_dc k0_b 12 (.aload_n 0) 1 := by decide +kernel
theorem k0_13 : own_dc k0_b 13 (.bipush 16) 2 := by decide +kernel
theorem k0_15 : own_dc k0_b 15 (.newarray .double) 2 := by decide +kernel
theorem k0_17 : own_dc k0_b 17 (.putfield 13) 3 := by decide +kernel
theorem k0_20 : own_dc k0_b 20 (.aload_n 0) 1 := by decide +kernel
theorem k0_21 : own_dc k0_b 21 (.bipush 16) 2 := by decide +kernel
theorem k0_23 : own_dc k0_b 23 (.newarray .int) 2 := by decide +kernel
theorem k0_25 : own_dc k0_b 25 (.putfield 17) 3 := by decide +kernel
theorem k0_28 : own_dc k0_b 28 (.aload_n 0) 1 := by decide +kernel
theorem k0_29 : own_dc k0_b 29 (.bipush 16) 2 := by decide +kernel
theorem k0_31 : own_dc k0_b 31 (.newarray .double) 2 := by decide +kernel
theorem k0_33 : own_dc k0_b 33 (.putfield 20) 3 := by decide +kernel
theorem k0_36 : own_dc k0_b 36 (.aload_n 0) 1 := by decide +kernel
theorem k0_37 : own_dc k0_b 37 (.bipush 16) 2 := by decide +kernel
theorem k0_39 : own_dc k0_b 39 (.newarray .int) 2 := by decide +kernel
theorem k0_41 : own_dc k0_b 41 (.putfield 23) 3 := by decide +kernel
theorem k0_44 : own_dc k0_b 44 (.aload_n 0) 1 := by decide +kernel
theorem k0_45 : own_dc k0_b 45 (.bipush 16) 2 := by decide +kernel
theorem k0_47 : own_dc k0_b 47 (.newarray .int) 2 := by decide +kernel
theorem k0_49 : own_dc k0_b 49 (.putfield 26) 3 := by decide +kernel
theorem k0_52 : own_dc k0_b 52 (.aload_n 0) 1 := by decide +kernel
theorem k0_53 : own_dc k0_b 53 (.bipush 16) 2 := by decide +kernel
theorem k0_55 : own_dc k0_b 55 (.newarray .double) 2 := by decide +kernel
theorem k0_57 : own_dc k0_b 57 (.putfield 29) 3 := by decide +kernel
theorem k0_60 : own_dc k0_b 60 (.aload_n 0) 1 := by decide +kernel
theorem k0_61 : own_dc k0_b 61 (.bipush 16) 2 := by decide +kernel
theorem k0_63 : own_dc k0_b 63 (.newarray .double) 2 := by decide +kernel
theorem k0_65 : own_dc k0_b 65 (.putfield 32) 3 := by decide +kernel
theorem k0_68 : own_dc k0_b 68 (.aload_n 0) 1 := by decide +kernel
theorem k0_69 : own_dc k0_b 69 (.iload_n 1) 1 := by decide +kernel
theorem k0_70 : own_dc k0_b 70 (.putfield 35) 3 := by decide +kernel
theorem k0_73 : own_dc k0_b 73 (.aload_n 0) 1 := by decide +kernel
theorem k0_74 : own_dc k0_b 74 (.iload_n 1) 1 := by decide +kernel
theorem k0_75 : own_dc k0_b 75 (.anewarray 39) 3 := by decide +kernel
theorem k0_78 : own_dc k0_b 78 (.putfield 40) 3 := by decide +kernel
theorem k0_81 : own_dc k0_b 81 (.aload_n 0) 1 := by decide +kernel
theorem k0_82 : own_dc k0_b 82 (.iload_n 1) 1 := by decide +kernel
theorem k0_83 : own_dc k0_b 83 (.anewarray 44) 3 := by decide +kernel
theorem k0_86 : own_dc k0_b 86 (.putfield 45) 3 := by decide +kernel
theorem k0_89 : own_dc k0_b 89 (.aload_n 0) 1 := by decide +kernel
theorem k0_90 : own_dc k0_b 90 (.iload_n 1) 1 := by decide +kernel
theorem k0_91 : own_dc k0_b 91 (.newarray .int) 2 := by decide +kernel
theorem k0_93 : own_dc k0_b 93 (.putfield 49) 3 := by decide +kernel
theorem k0_96 : own_dc k0_b 96 (.aload_n 0) 1 := by decide +kernel
theorem k0_97 : own_dc k0_b 97 (.iload_n 1) 1 := by decide +kernel
theorem k0_98 : own_dc k0_b 98 (.anewarray 39) 3 := by decide +kernel
theorem k0_101 : own_dc k0_b 101 (.putfield 52) 3 := by decide +kernel
theorem k0_104 : own_dc k0_b 104 (.aload_n 0) 1 := by decide +kernel
theorem k0_105 : own_dc k0_b 105 (.iload_n 1) 1 := by decide +kernel
theorem k0_106 : own_dc k0_b 106 (.newarray .int) 2 := by decide +kernel
theorem k0_108 : own_dc k0_b 108 (.putfield 55) 3 := by decide +kernel
theorem k0_111 : own_dc k0_b 111 .return_ 1 := by decide +kernel
abbrev k1_b := prog_14_method_2_code
theorem k1_0 : own_dc k1_b 0 (.aload_n 0) 1 := by decide +kernel
theorem k1_1 : own_dc k1_b 1 (.getfield 58) 3 := by decide +kernel
theorem k1_4 : own_dc k1_b 4 (.aload_n 0) 1 := by decide +kernel
theorem k1_5 : own_dc k1_b 5 (.getfield 7) 3 := by decide +kernel
theorem k1_8 : own_dc k1_b 8 .arraylength 1 := by decide +kernel
theorem k1_9 : own_dc k1_b 9 (.if_icmp .ne 37) 3 := by decide +kernel
theorem k1_46 : own_dc k1_b 46 (.aload_n 0) 1 := by decide +kernel
theorem k1_47 : own_dc k1_b 47 (.getfield 7) 3 := by decide +kernel
theorem k1_50 : own_dc k1_b 50 (.aload_n 0) 1 := by decide +kernel
theorem k1_51 : own_dc k1_b 51 (.getfield 58) 3 := by decide +kernel
theorem k1_54 : own_dc k1_b 54 (.iload_n 1) 1 := by decide +kernel
theorem k1_55 : own_dc k1_b 55 .iastore 1 := by decide +kernel
theorem k1_56 : own_dc k1_b 56 (.aload_n 0) 1 := by decide +kernel
theorem k1_57 : own_dc k1_b 57 (.getfield 13) 3 := by decide +kernel
theorem k1_60 : own_dc k1_b 60 (.aload_n 0) 1 := by decide +kernel
theorem k1_61 : own_dc k1_b 61 (.getfield 58) 3 := by decide +kernel
theorem k1_64 : own_dc k1_b 64 (.dload_n 2) 1 := by decide +kernel
theorem k1_65 : own_dc k1_b 65 .dastore 1 := by decide +kernel
theorem k1_66 : own_dc k1_b 66 (.aload_n 0) 1 := by decide +kernel
theorem k1_67 : own_dc k1_b 67 .dup 1 := by decide +kernel
theorem k1_68 : own_dc k1_b 68 (.getfield 58) 3 := by decide +kernel
theorem k1_71 : own_dc k1_b 71 (.iconst 1) 1 := by decide +kernel
theorem k1_72 : own_dc k1_b 72 .iadd 1 := by decide +kernel
theorem k1_73 : own_dc k1_b 73 (.putfield 58) 3 := by decide +kernel
theorem k1_76 : own_dc k1_b 76 .return_ 1 := by decide +kernel
abbrev k2_b := jdk_2529_method_15_code
theorem k2_0 : own_dc k2_b 0 (.iload_n 1) 1 := by decide +kernel
theorem k2_1 : own_dc k2_b 1 (.istore 4) 2 := by decide +kernel
theorem k2_3 : own_dc k2_b 3 (.iinc 4 1) 3 := by decide +kernel
theorem k2_6 : own_dc k2_b 6 (.iload 4) 2 := by decide +kernel
theorem k2_8 : own_dc k2_b 8 (.iload_n 2) 1 := by decide +kernel
theorem k2_9 : own_dc k2_b 9 (.if_icmp .ge 60) 3 := by decide +kernel
theorem k2_12 : own_dc k2_b 12 (.aload_n 0) 1 := by decide +kernel
theorem k2_13 : own_dc k2_b 13 (.iload 4) 2 := by decide +kernel
theorem k2_15 : own_dc k2_b 15 .dup 1 := by decide +kernel
theorem k2_16 : own_dc k2_b 16 (.istore_n 3) 1 := by decide +kernel
theorem k2_17 : own_dc k2_b 17 .laload 1 := by decide +kernel
theorem k2_18 : own_dc k2_b 18 (.lstore 5) 2 := by decide +kernel
theorem k2_20 : own_dc k2_b 20 (.lload 5) 2 := by decide +kernel
theorem k2_22 : own_dc k2_b 22 (.aload_n 0) 1 := by decide +kernel
theorem k2_23 : own_dc k2_b 23 (.iload_n 3) 1 := by decide +kernel
theorem k2_24 : own_dc k2_b 24 (.iconst 1) 1 := by decide +kernel
theorem k2_25 : own_dc k2_b 25 .isub 1 := by decide +kernel
theorem k2_26 : own_dc k2_b 26 .laload 1 := by decide +kernel
theorem k2_27 : own_dc k2_b 27 .lcmp 1 := by decide +kernel
theorem k2_28 : own_dc k2_b 28 (.ifCond .ge 38) 3 := by decide +kernel
theorem k2_66 : own_dc k2_b 66 (.goto (-63)) 3 := by decide +kernel
theorem k2_69 : own_dc k2_b 69 .return_ 1 := by decide +kernel
abbrev k3_b := jdk_2529_method_13_code
theorem k3_0 : own_dc k3_b 0 (.iload 4) 2 := by decide +kernel
theorem k3_2 : own_dc k3_b 2 (.iconst 1) 1 := by decide +kernel
theorem k3_3 : own_dc k3_b 3 .isub 1 := by decide +kernel
theorem k3_4 : own_dc k3_b 4 (.istore 5) 2 := by decide +kernel
theorem k3_6 : own_dc k3_b 6 (.iload 4) 2 := by decide +kernel
theorem k3_8 : own_dc k3_b 8 (.iload_n 3) 1 := by decide +kernel
theorem k3_9 : own_dc k3_b 9 .isub 1 := by decide +kernel
theorem k3_10 : own_dc k3_b 10 (.istore 6) 2 := by decide +kernel
theorem k3_12 : own_dc k3_b 12 (.iload 6) 2 := by decide +kernel
theorem k3_14 : own_dc k3_b 14 (.bipush 65) 2 := by decide +kernel
theorem k3_16 : own_dc k3_b 16 (.iload_n 2) 1 := by decide +kernel
theorem k3_17 : own_dc k3_b 17 .iadd 1 := by decide +kernel
theorem k3_18 : own_dc k3_b 18 (.if_icmp .ge 28) 3 := by decide +kernel
theorem k3_21 : own_dc k3_b 21 (.iload_n 2) 1 := by decide +kernel
theorem k3_22 : own_dc k3_b 22 (.iconst 1) 1 := by decide +kernel
theorem k3_23 : own_dc k3_b 23 .iand 1 := by decide +kernel
theorem k3_24 : own_dc k3_b 24 (.ifCond .le 22) 3 := by decide +kernel
theorem k3_46 : own_dc k3_b 46 (.iload 6) 2 := by decide +kernel
theorem k3_48 : own_dc k3_b 48 (.bipush 44) 2 := by decide +kernel
theorem k3_50 : own_dc k3_b 50 (.if_icmp .ge 11) 3 := by decide +kernel
theorem k3_53 : own_dc k3_b 53 (.aload_n 1) 1 := by decide +kernel
theorem k3_54 : own_dc k3_b 54 (.iload_n 3) 1 := by decide +kernel
theorem k3_55 : own_dc k3_b 55 (.iload 4) 2 := by decide +kernel
theorem k3_57 : own_dc k3_b 57 (.invokestatic 105) 3 := by decide +kernel
theorem k3_60 : own_dc k3_b 60 .return_ 1 := by decide +kernel
abbrev k4_b := jdk_2529_method_12_code
theorem k4_0 : own_dc k4_b 0 (.iload_n 3) 1 := by decide +kernel
theorem k4_1 : own_dc k4_b 1 (.iload_n 2) 1 := by decide +kernel
theorem k4_2 : own_dc k4_b 2 .isub 1 := by decide +kernel
theorem k4_3 : own_dc k4_b 3 (.istore 4) 2 := by decide +kernel
theorem k4_5 : own_dc k4_b 5 (.iload_n 1) 1 := by decide +kernel
theorem k4_6 : own_dc k4_b 6 (.iconst 1) 1 := by decide +kernel
theorem k4_7 : own_dc k4_b 7 (.if_icmp .le 61) 3 := by decide +kernel
theorem k4_68 : own_dc k4_b 68 .aconst_null 1 := by decide +kernel
theorem k4_69 : own_dc k4_b 69 (.aload_n 0) 1 := by decide +kernel
theorem k4_70 : own_dc k4_b 70 (.iconst 0) 1 := by decide +kernel
theorem k4_71 : own_dc k4_b 71 (.iload_n 2) 1 := by decide +kernel
theorem k4_72 : own_dc k4_b 72 (.iload_n 3) 1 := by decide +kernel
theorem k4_73 : own_dc k4_b 73 (.invokestatic 99) 3 := by decide +kernel
theorem k4_76 : own_dc k4_b 76 .return_ 1 := by decide +kernel
abbrev k5_b := jdk_65_method_4_code
theorem k5_0 : own_dc k5_b 0 (.aload_n 0) 1 := by decide +kernel
theorem k5_1 : own_dc k5_b 1 (.iconst 0) 1 := by decide +kernel
theorem k5_2 : own_dc k5_b 2 (.iconst 0) 1 := by decide +kernel
theorem k5_3 : own_dc k5_b 3 (.aload_n 0) 1 := by decide +kernel
theorem k5_4 : own_dc k5_b 4 .arraylength 1 := by decide +kernel
theorem k5_5 : own_dc k5_b 5 (.invokestatic 19) 3 := by decide +kernel
theorem k5_8 : own_dc k5_b 8 .return_ 1 := by decide +kernel
abbrev k6_b := prog_14_method_9_code
theorem k6_0 : own_dc k6_b 0 (.aload_n 0) 1 := by decide +kernel
theorem k6_1 : own_dc k6_b 1 (.getfield 52) 3 := by decide +kernel
theorem k6_4 : own_dc k6_b 4 (.iload_n 1) 1 := by decide +kernel
theorem k6_5 : own_dc k6_b 5 .aaload 1 := by decide +kernel
theorem k6_6 : own_dc k6_b 6 (.astore_n 3) 1 := by decide +kernel
theorem k6_7 : own_dc k6_b 7 (.aload_n 3) 1 := by decide +kernel
theorem k6_8 : own_dc k6_b 8 (.ifnonnull 17) 3 := by decide +kernel
theorem k6_11 : own_dc k6_b 11 (.iconst 4) 1 := by decide +kernel
theorem k6_12 : own_dc k6_b 12 (.newarray .int) 2 := by decide +kernel
theorem k6_14 : own_dc k6_b 14 (.astore_n 3) 1 := by decide +kernel
theorem k6_15 : own_dc k6_b 15 (.aload_n 0) 1 := by decide +kernel
theorem k6_16 : own_dc k6_b 16 (.getfield 52) 3 := by decide +kernel
theorem k6_19 : own_dc k6_b 19 (.iload_n 1) 1 := by decide +kernel
theorem k6_20 : own_dc k6_b 20 (.aload_n 3) 1 := by decide +kernel
theorem k6_21 : own_dc k6_b 21 .aastore 1 := by decide +kernel
theorem k6_22 : own_dc k6_b 22 (.goto 30) 3 := by decide +kernel
theorem k6_25 : own_dc k6_b 25 (.aload_n 0) 1 := by decide +kernel
theorem k6_26 : own_dc k6_b 26 (.getfield 55) 3 := by decide +kernel
theorem k6_29 : own_dc k6_b 29 (.iload_n 1) 1 := by decide +kernel
theorem k6_30 : own_dc k6_b 30 .iaload 1 := by decide +kernel
theorem k6_31 : own_dc k6_b 31 (.aload_n 3) 1 := by decide +kernel
theorem k6_32 : own_dc k6_b 32 .arraylength 1 := by decide +kernel
theorem k6_33 : own_dc k6_b 33 (.if_icmp .ne 19) 3 := by decide +kernel
theorem k6_52 : own_dc k6_b 52 (.aload_n 3) 1 := by decide +kernel
theorem k6_53 : own_dc k6_b 53 (.aload_n 0) 1 := by decide +kernel
theorem k6_54 : own_dc k6_b 54 (.getfield 55) 3 := by decide +kernel
theorem k6_57 : own_dc k6_b 57 (.iload_n 1) 1 := by decide +kernel
theorem k6_58 : own_dc k6_b 58 .dup2 1 := by decide +kernel
theorem k6_59 : own_dc k6_b 59 .iaload 1 := by decide +kernel
theorem k6_60 : own_dc k6_b 60 .dup_x2 1 := by decide +kernel
theorem k6_61 : own_dc k6_b 61 (.iconst 1) 1 := by decide +kernel
theorem k6_62 : own_dc k6_b 62 .iadd 1 := by decide +kernel
theorem k6_63 : own_dc k6_b 63 .iastore 1 := by decide +kernel
theorem k6_64 : own_dc k6_b 64 (.iload_n 2) 1 := by decide +kernel
theorem k6_65 : own_dc k6_b 65 .iastore 1 := by decide +kernel
theorem k6_66 : own_dc k6_b 66 .return_ 1 := by decide +kernel
abbrev k7_b := prog_14_method_3_code
theorem k7_0 : own_dc k7_b 0 (.aload_n 0) 1 := by decide +kernel
theorem k7_1 : own_dc k7_b 1 (.getfield 58) 3 := by decide +kernel
theorem k7_4 : own_dc k7_b 4 (.newarray .long) 2 := by decide +kernel
theorem k7_6 : own_dc k7_b 6 (.astore_n 1) 1 := by decide +kernel
theorem k7_7 : own_dc k7_b 7 (.iconst 0) 1 := by decide +kernel
theorem k7_8 : own_dc k7_b 8 (.istore_n 2) 1 := by decide +kernel
theorem k7_9 : own_dc k7_b 9 (.iload_n 2) 1 := by decide +kernel
theorem k7_10 : own_dc k7_b 10 (.aload_n 0) 1 := by decide +kernel
theorem k7_11 : own_dc k7_b 11 (.getfield 58) 3 := by decide +kernel
theorem k7_14 : own_dc k7_b 14 (.if_icmp .ge 25) 3 := by decide +kernel
theorem k7_17 : own_dc k7_b 17 (.aload_n 1) 1 := by decide +kernel
theorem k7_18 : own_dc k7_b 18 (.iload_n 2) 1 := by decide +kernel
theorem k7_19 : own_dc k7_b 19 (.aload_n 0) 1 := by decide +kernel
theorem k7_20 : own_dc k7_b 20 (.getfield 7) 3 := by decide +kernel
theorem k7_23 : own_dc k7_b 23 (.iload_n 2) 1 := by decide +kernel
theorem k7_24 : own_dc k7_b 24 .iaload 1 := by decide +kernel
theorem k7_25 : own_dc k7_b 25 .i2l 1 := by decide +kernel
theorem k7_26 : own_dc k7_b 26 (.bipush 32) 2 := by decide +kernel
theorem k7_28 : own_dc k7_b 28 .lshl 1 := by decide +kernel
theorem k7_29 : own_dc k7_b 29 (.iload_n 2) 1 := by decide +kernel
theorem k7_30 : own_dc k7_b 30 .i2l 1 := by decide +kernel
theorem k7_31 : own_dc k7_b 31 .lor 1 := by decide +kernel
theorem k7_32 : own_dc k7_b 32 .lastore 1 := by decide +kernel
theorem k7_33 : own_dc k7_b 33 (.iinc 2 1) 3 := by decide +kernel
theorem k7_36 : own_dc k7_b 36 (.goto (-27)) 3 := by decide +kernel
theorem k7_39 : own_dc k7_b 39 (.aload_n 1) 1 := by decide +kernel
theorem k7_40 : own_dc k7_b 40 (.invokestatic 70) 3 := by decide +kernel
theorem k7_43 : own_dc k7_b 43 (.aload_n 0) 1 := by decide +kernel
theorem k7_44 : own_dc k7_b 44 (.getfield 58) 3 := by decide +kernel
theorem k7_47 : own_dc k7_b 47 (.newarray .int) 2 := by decide +kernel
theorem k7_49 : own_dc k7_b 49 (.astore_n 2) 1 := by decide +kernel
theorem k7_50 : own_dc k7_b 50 (.aload_n 0) 1 := by decide +kernel
theorem k7_51 : own_dc k7_b 51 (.getfield 58) 3 := by decide +kernel
theorem k7_54 : own_dc k7_b 54 (.newarray .double) 2 := by decide +kernel
theorem k7_56 : own_dc k7_b 56 (.astore_n 3) 1 := by decide +kernel
theorem k7_57 : own_dc k7_b 57 (.iconst 0) 1 := by decide +kernel
theorem k7_58 : own_dc k7_b 58 (.istore 4) 2 := by decide +kernel
theorem k7_60 : own_dc k7_b 60 (.aload_n 1) 1 := by decide +kernel
theorem k7_61 : own_dc k7_b 61 (.astore 5) 2 := by decide +kernel
theorem k7_63 : own_dc k7_b 63 (.aload 5) 2 := by decide +kernel
theorem k7_65 : own_dc k7_b 65 .arraylength 1 := by decide +kernel
theorem k7_66 : own_dc k7_b 66 (.istore 6) 2 := by decide +kernel
theorem k7_68 : own_dc k7_b 68 (.iconst 0) 1 := by decide +kernel
theorem k7_69 : own_dc k7_b 69 (.istore 7) 2 := by decide +kernel
theorem k7_71 : own_dc k7_b 71 (.iload 7) 2 := by decide +kernel
theorem k7_73 : own_dc k7_b 73 (.iload 6) 2 := by decide +kernel
theorem k7_75 : own_dc k7_b 75 (.if_icmp .ge 89) 3 := by decide +kernel
theorem k7_78 : own_dc k7_b 78 (.aload 5) 2 := by decide +kernel
theorem k7_80 : own_dc k7_b 80 (.iload 7) 2 := by decide +kernel
theorem k7_82 : own_dc k7_b 82 .laload 1 := by decide +kernel
theorem k7_83 : own_dc k7_b 83 (.lstore 8) 2 := by decide +kernel
theorem k7_85 : own_dc k7_b 85 (.lload 8) 2 := by decide +kernel
theorem k7_87 : own_dc k7_b 87 (.bipush 32) 2 := by decide +kernel
theorem k7_89 : own_dc k7_b 89 .lushr 1 := by decide +kernel
theorem k7_90 : own_dc k7_b 90 .l2i 1 := by decide +kernel
theorem k7_91 : own_dc k7_b 91 (.istore 10) 2 := by decide +kernel
theorem k7_93 : own_dc k7_b 93 (.aload_n 0) 1 := by decide +kernel
theorem k7_94 : own_dc k7_b 94 (.getfield 13) 3 := by decide +kernel
theorem k7_97 : own_dc k7_b 97 (.lload 8) 2 := by decide +kernel
theorem k7_99 : own_dc k7_b 99 .l2i 1 := by decide +kernel
theorem k7_100 : own_dc k7_b 100 .daload 1 := by decide +kernel
theorem k7_101 : own_dc k7_b 101 (.dstore 11) 2 := by decide +kernel
theorem k7_103 : own_dc k7_b 103 (.iload 4) 2 := by decide +kernel
theorem k7_105 : own_dc k7_b 105 (.ifCond .le 28) 3 := by decide +kernel
theorem k7_108 : own_dc k7_b 108 (.aload_n 2) 1 := by decide +kernel
theorem k7_109 : own_dc k7_b 109 (.iload 4) 2 := by decide +kernel
theorem k7_111 : own_dc k7_b 111 (.iconst 1) 1 := by decide +kernel
theorem k7_112 : own_dc k7_b 112 .isub 1 := by decide +kernel
theorem k7_113 : own_dc k7_b 113 .iaload 1 := by decide +kernel
theorem k7_114 : own_dc k7_b 114 (.iload 10) 2 := by decide +kernel
theorem k7_116 : own_dc k7_b 116 (.if_icmp .ne 17) 3 := by decide +kernel
theorem k7_133 : own_dc k7_b 133 (.aload_n 2) 1 := by decide +kernel
theorem k7_134 : own_dc k7_b 134 (.iload 4) 2 := by decide +kernel
theorem k7_136 : own_dc k7_b 136 (.iload 10) 2 := by decide +kernel
theorem k7_138 : own_dc k7_b 138 .iastore 1 := by decide +kernel
theorem k7_139 : own_dc k7_b 139 (.aload_n 3) 1 := by decide +kernel
theorem k7_140 : own_dc k7_b 140 (.iload 4) 2 := by decide +kernel
theorem k7_142 : own_dc k7_b 142 (.dload 11) 2 := by decide +kernel
theorem k7_144 : own_dc k7_b 144 .dastore 1 := by decide +kernel
theorem k7_145 : own_dc k7_b 145 (.iinc 4 1) 3 := by decide +kernel
theorem k7_148 : own_dc k7_b 148 (.aload_n 0) 1 := by decide +kernel
theorem k7_149 : own_dc k7_b 149 (.iload 10) 2 := by decide +kernel
theorem k7_151 : own_dc k7_b 151 (.aload_n 0) 1 := by decide +kernel
theorem k7_152 : own_dc k7_b 152 (.getfield 74) 3 := by decide +kernel
theorem k7_155 : own_dc k7_b 155 (.invokevirtual 77) 3 := by decide +kernel
theorem k7_158 : own_dc k7_b 158 (.iinc 7 1) 3 := by decide +kernel
theorem k7_161 : own_dc k7_b 161 (.goto (-90)) 3 := by decide +kernel
theorem k7_164 : own_dc k7_b 164 (.aload_n 0) 1 := by decide +kernel
theorem k7_165 : own_dc k7_b 165 (.getfield 40) 3 := by decide +kernel
theorem k7_168 : own_dc k7_b 168 (.aload_n 0) 1 := by decide +kernel
theorem k7_169 : own_dc k7_b 169 (.getfield 74) 3 := by decide +kernel
theorem k7_172 : own_dc k7_b 172 (.aload_n 2) 1 := by decide +kernel
theorem k7_173 : own_dc k7_b 173 .aastore 1 := by decide +kernel
theorem k7_174 : own_dc k7_b 174 (.aload_n 0) 1 := by decide +kernel
theorem k7_175 : own_dc k7_b 175 (.getfield 45) 3 := by decide +kernel
theorem k7_178 : own_dc k7_b 178 (.aload_n 0) 1 := by decide +kernel
theorem k7_179 : own_dc k7_b 179 (.getfield 74) 3 := by decide +kernel
theorem k7_182 : own_dc k7_b 182 (.aload_n 3) 1 := by decide +kernel
theorem k7_183 : own_dc k7_b 183 .aastore 1 := by decide +kernel
theorem k7_184 : own_dc k7_b 184 (.aload_n 0) 1 := by decide +kernel
theorem k7_185 : own_dc k7_b 185 (.getfield 49) 3 := by decide +kernel
theorem k7_188 : own_dc k7_b 188 (.aload_n 0) 1 := by decide +kernel
theorem k7_189 : own_dc k7_b 189 (.getfield 74) 3 := by decide +kernel
theorem k7_192 : own_dc k7_b 192 (.iload 4) 2 := by decide +kernel
theorem k7_194 : own_dc k7_b 194 .iastore 1 := by decide +kernel
theorem k7_195 : own_dc k7_b 195 (.aload_n 0) 1 := by decide +kernel
theorem k7_196 : own_dc k7_b 196 .dup 1 := by decide +kernel
theorem k7_197 : own_dc k7_b 197 (.getfield 81) 3 := by decide +kernel
theorem k7_200 : own_dc k7_b 200 (.iload 4) 2 := by decide +kernel
theorem k7_202 : own_dc k7_b 202 .i2l 1 := by decide +kernel
theorem k7_203 : own_dc k7_b 203 .ladd 1 := by decide +kernel
theorem k7_204 : own_dc k7_b 204 (.putfield 81) 3 := by decide +kernel
theorem k7_207 : own_dc k7_b 207 (.aload_n 0) 1 := by decide +kernel
theorem k7_208 : own_dc k7_b 208 .dup 1 := by decide +kernel
theorem k7_209 : own_dc k7_b 209 (.getfield 85) 3 := by decide +kernel
theorem k7_212 : own_dc k7_b 212 (.iload 4) 2 := by decide +kernel
theorem k7_214 : own_dc k7_b 214 .i2l 1 := by decide +kernel
theorem k7_215 : own_dc k7_b 215 .ladd 1 := by decide +kernel
theorem k7_216 : own_dc k7_b 216 (.putfield 85) 3 := by decide +kernel
theorem k7_219 : own_dc k7_b 219 (.aload_n 0) 1 := by decide +kernel
theorem k7_220 : own_dc k7_b 220 .dup 1 := by decide +kernel
theorem k7_221 : own_dc k7_b 221 (.getfield 74) 3 := by decide +kernel
theorem k7_224 : own_dc k7_b 224 (.iconst 1) 1 := by decide +kernel
theorem k7_225 : own_dc k7_b 225 .iadd 1 := by decide +kernel
theorem k7_226 : own_dc k7_b 226 (.putfield 74) 3 := by decide +kernel
theorem k7_229 : own_dc k7_b 229 (.aload_n 0) 1 := by decide +kernel
theorem k7_230 : own_dc k7_b 230 (.iconst 0) 1 := by decide +kernel
theorem k7_231 : own_dc k7_b 231 (.putfield 58) 3 := by decide +kernel
theorem k7_234 : own_dc k7_b 234 .return_ 1 := by decide +kernel
abbrev k8_b := jdk_65_method_30_code
theorem k8_0 : own_dc k8_b 0 (.iload_n 1) 1 := by decide +kernel
theorem k8_1 : own_dc k8_b 1 (.iload_n 2) 1 := by decide +kernel
theorem k8_2 : own_dc k8_b 2 (.if_icmp .le 44) 3 := by decide +kernel
theorem k8_46 : own_dc k8_b 46 (.iload_n 1) 1 := by decide +kernel
theorem k8_47 : own_dc k8_b 47 (.ifCond .ge 12) 3 := by decide +kernel
theorem k8_59 : own_dc k8_b 59 (.iload_n 2) 1 := by decide +kernel
theorem k8_60 : own_dc k8_b 60 (.iload_n 0) 1 := by decide +kernel
theorem k8_61 : own_dc k8_b 61 (.if_icmp .le 12) 3 := by decide +kernel
theorem k8_73 : own_dc k8_b 73 .return_ 1 := by decide +kernel
abbrev k9_b := jdk_65_method_59_code
theorem k9_0 : own_dc k9_b 0 (.iload_n 1) 1 := by decide +kernel
theorem k9_1 : own_dc k9_b 1 (.istore 4) 2 := by decide +kernel
theorem k9_3 : own_dc k9_b 3 (.iload_n 2) 1 := by decide +kernel
theorem k9_4 : own_dc k9_b 4 (.iconst 1) 1 := by decide +kernel
theorem k9_5 : own_dc k9_b 5 .isub 1 := by decide +kernel
theorem k9_6 : own_dc k9_b 6 (.istore 5) 2 := by decide +kernel
theorem k9_8 : own_dc k9_b 8 (.iload 4) 2 := by decide +kernel
theorem k9_10 : own_dc k9_b 10 (.iload 5) 2 := by decide +kernel
theorem k9_12 : own_dc k9_b 12 (.if_icmp .gt 54) 3 := by decide +kernel
theorem k9_15 : own_dc k9_b 15 (.iload 4) 2 := by decide +kernel
theorem k9_17 : own_dc k9_b 17 (.iload 5) 2 := by decide +kernel
theorem k9_19 : own_dc k9_b 19 .iadd 1 := by decide +kernel
theorem k9_20 : own_dc k9_b 20 (.iconst 1) 1 := by decide +kernel
theorem k9_21 : own_dc k9_b 21 .iushr 1 := by decide +kernel
theorem k9_22 : own_dc k9_b 22 (.istore 6) 2 := by decide +kernel
theorem k9_24 : own_dc k9_b 24 (.aload_n 0) 1 := by decide +kernel
theorem k9_25 : own_dc k9_b 25 (.iload 6) 2 := by decide +kernel
theorem k9_27 : own_dc k9_b 27 .iaload 1 := by decide +kernel
theorem k9_28 : own_dc k9_b 28 (.istore 7) 2 := by decide +kernel
theorem k9_30 : own_dc k9_b 30 (.iload 7) 2 := by decide +kernel
theorem k9_32 : own_dc k9_b 32 (.iload_n 3) 1 := by decide +kernel
theorem k9_33 : own_dc k9_b 33 (.if_icmp .ge 12) 3 := by decide +kernel
theorem k9_45 : own_dc k9_b 45 (.iload 7) 2 := by decide +kernel
theorem k9_47 : own_dc k9_b 47 (.iload_n 3) 1 := by decide +kernel
theorem k9_48 : own_dc k9_b 48 (.if_icmp .le 12) 3 := by decide +kernel
theorem k9_60 : own_dc k9_b 60 (.iload 6) 2 := by decide +kernel
theorem k9_62 : own_dc k9_b 62 .ireturn 1 := by decide +kernel
abbrev k10_b := jdk_65_method_58_code
theorem k10_0 : own_dc k10_b 0 (.aload_n 0) 1 := by decide +kernel
theorem k10_1 : own_dc k10_b 1 .arraylength 1 := by decide +kernel
theorem k10_2 : own_dc k10_b 2 (.iload_n 1) 1 := by decide +kernel
theorem k10_3 : own_dc k10_b 3 (.iload_n 2) 1 := by decide +kernel
theorem k10_4 : own_dc k10_b 4 (.invokestatic 13) 3 := by decide +kernel
theorem k10_7 : own_dc k10_b 7 (.aload_n 0) 1 := by decide +kernel
theorem k10_8 : own_dc k10_b 8 (.iload_n 1) 1 := by decide +kernel
theorem k10_9 : own_dc k10_b 9 (.iload_n 2) 1 := by decide +kernel
theorem k10_10 : own_dc k10_b 10 (.iload_n 3) 1 := by decide +kernel
theorem k10_11 : own_dc k10_b 11 (.invokestatic 209) 3 := by decide +kernel
theorem k10_14 : own_dc k10_b 14 .ireturn 1 := by decide +kernel
abbrev k11_b := prog_14_method_8_code
theorem k11_0 : own_dc k11_b 0 (.aload_n 0) 1 := by decide +kernel
theorem k11_1 : own_dc k11_b 1 (.getfield 98) 3 := by decide +kernel
theorem k11_4 : own_dc k11_b 4 (.aload_n 0) 1 := by decide +kernel
theorem k11_5 : own_dc k11_b 5 (.getfield 23) 3 := by decide +kernel
theorem k11_8 : own_dc k11_b 8 .arraylength 1 := by decide +kernel
theorem k11_9 : own_dc k11_b 9 (.if_icmp .ne 71) 3 := by decide +kernel
theorem k11_80 : own_dc k11_b 80 (.aload_n 0) 1 := by decide +kernel
theorem k11_81 : own_dc k11_b 81 (.getfield 23) 3 := by decide +kernel
theorem k11_84 : own_dc k11_b 84 (.aload_n 0) 1 := by decide +kernel
theorem k11_85 : own_dc k11_b 85 (.getfield 98) 3 := by decide +kernel
theorem k11_88 : own_dc k11_b 88 (.iload_n 1) 1 := by decide +kernel
theorem k11_89 : own_dc k11_b 89 .iastore 1 := by decide +kernel
theorem k11_90 : own_dc k11_b 90 (.aload_n 0) 1 := by decide +kernel
theorem k11_91 : own_dc k11_b 91 (.getfield 26) 3 := by decide +kernel
theorem k11_94 : own_dc k11_b 94 (.aload_n 0) 1 := by decide +kernel
theorem k11_95 : own_dc k11_b 95 (.getfield 98) 3 := by decide +kernel
theorem k11_98 : own_dc k11_b 98 (.iload_n 2) 1 := by decide +kernel
theorem k11_99 : own_dc k11_b 99 .iastore 1 := by decide +kernel
theorem k11_100 : own_dc k11_b 100 (.aload_n 0) 1 := by decide +kernel
theorem k11_101 : own_dc k11_b 101 (.getfield 29) 3 := by decide +kernel
theorem k11_104 : own_dc k11_b 104 (.aload_n 0) 1 := by decide +kernel
theorem k11_105 : own_dc k11_b 105 (.getfield 98) 3 := by decide +kernel
theorem k11_108 : own_dc k11_b 108 (.dload_n 3) 1 := by decide +kernel
theorem k11_109 : own_dc k11_b 109 .dastore 1 := by decide +kernel
theorem k11_110 : own_dc k11_b 110 (.aload_n 0) 1 := by decide +kernel
theorem k11_111 : own_dc k11_b 111 (.getfield 32) 3 := by decide +kernel
theorem k11_114 : own_dc k11_b 114 (.aload_n 0) 1 := by decide +kernel
theorem k11_115 : own_dc k11_b 115 (.getfield 98) 3 := by decide +kernel
theorem k11_118 : own_dc k11_b 118 (.dload 5) 2 := by decide +kernel
theorem k11_120 : own_dc k11_b 120 .dastore 1 := by decide +kernel
theorem k11_121 : own_dc k11_b 121 (.aload_n 0) 1 := by decide +kernel
theorem k11_122 : own_dc k11_b 122 .dup 1 := by decide +kernel
theorem k11_123 : own_dc k11_b 123 (.getfield 98) 3 := by decide +kernel
theorem k11_126 : own_dc k11_b 126 (.iconst 1) 1 := by decide +kernel
theorem k11_127 : own_dc k11_b 127 .iadd 1 := by decide +kernel
theorem k11_128 : own_dc k11_b 128 (.putfield 98) 3 := by decide +kernel
theorem k11_131 : own_dc k11_b 131 .return_ 1 := by decide +kernel
abbrev k12_b := prog_14_method_7_code
theorem k12_0 : own_dc k12_b 0 (.aload_n 0) 1 := by decide +kernel
theorem k12_1 : own_dc k12_b 1 (.getfield 40) 3 := by decide +kernel
theorem k12_4 : own_dc k12_b 4 (.iload_n 1) 1 := by decide +kernel
theorem k12_5 : own_dc k12_b 5 .aaload 1 := by decide +kernel
theorem k12_6 : own_dc k12_b 6 (.astore_n 3) 1 := by decide +kernel
theorem k12_7 : own_dc k12_b 7 (.aload_n 0) 1 := by decide +kernel
theorem k12_8 : own_dc k12_b 8 (.getfield 45) 3 := by decide +kernel
theorem k12_11 : own_dc k12_b 11 (.iload_n 1) 1 := by decide +kernel
theorem k12_12 : own_dc k12_b 12 .aaload 1 := by decide +kernel
theorem k12_13 : own_dc k12_b 13 (.astore 4) 2 := by decide +kernel
theorem k12_15 : own_dc k12_b 15 (.aload_n 0) 1 := by decide +kernel
theorem k12_16 : own_dc k12_b 16 (.getfield 49) 3 := by decide +kernel
theorem k12_19 : own_dc k12_b 19 (.iload_n 1) 1 := by decide +kernel
theorem k12_20 : own_dc k12_b 20 .iaload 1 := by decide +kernel
theorem k12_21 : own_dc k12_b 21 (.istore 5) 2 := by decide +kernel
theorem k12_23 : own_dc k12_b 23 (.aload_n 0) 1 := by decide +kernel
theorem k12_24 : own_dc k12_b 24 (.getfield 40) 3 := by decide +kernel
theorem k12_27 : own_dc k12_b 27 (.iload_n 2) 1 := by decide +kernel
theorem k12_28 : own_dc k12_b 28 .aaload 1 := by decide +kernel
theorem k12_29 : own_dc k12_b 29 (.astore 6) 2 := by decide +kernel
theorem k12_31 : own_dc k12_b 31 (.aload_n 0) 1 := by decide +kernel
theorem k12_32 : own_dc k12_b 32 (.getfield 45) 3 := by decide +kernel
theorem k12_35 : own_dc k12_b 35 (.iload_n 2) 1 := by decide +kernel
theorem k12_36 : own_dc k12_b 36 .aaload 1 := by decide +kernel
theorem k12_37 : own_dc k12_b 37 (.astore 7) 2 := by decide +kernel
theorem k12_39 : own_dc k12_b 39 (.aload_n 0) 1 := by decide +kernel
theorem k12_40 : own_dc k12_b 40 (.getfield 49) 3 := by decide +kernel
theorem k12_43 : own_dc k12_b 43 (.iload_n 2) 1 := by decide +kernel
theorem k12_44 : own_dc k12_b 44 .iaload 1 := by decide +kernel
theorem k12_45 : own_dc k12_b 45 (.istore 8) 2 := by decide +kernel
theorem k12_47 : own_dc k12_b 47 (.aload 4) 2 := by decide +kernel
theorem k12_49 : own_dc k12_b 49 (.aload_n 3) 1 := by decide +kernel
theorem k12_50 : own_dc k12_b 50 (.iconst 0) 1 := by decide +kernel
theorem k12_51 : own_dc k12_b 51 (.iload 5) 2 := by decide +kernel
theorem k12_53 : own_dc k12_b 53 (.iload_n 2) 1 := by decide +kernel
theorem k12_54 : own_dc k12_b 54 (.invokestatic 101) 3 := by decide +kernel
theorem k12_57 : own_dc k12_b 57 .daload 1 := by decide +kernel
theorem k12_58 : own_dc k12_b 58 (.dstore 9) 2 := by decide +kernel
theorem k12_60 : own_dc k12_b 60 (.aload_n 0) 1 := by decide +kernel
theorem k12_61 : own_dc k12_b 61 (.getfield 17) 3 := by decide +kernel
theorem k12_64 : own_dc k12_b 64 .arraylength 1 := by decide +kernel
theorem k12_65 : own_dc k12_b 65 (.iload 5) 2 := by decide +kernel
theorem k12_67 : own_dc k12_b 67 (.iload 8) 2 := by decide +kernel
theorem k12_69 : own_dc k12_b 69 .iadd 1 := by decide +kernel
theorem k12_70 : own_dc k12_b 70 (.if_icmp .ge 29) 3 := by decide +kernel
theorem k12_99 : own_dc k12_b 99 (.dconst 0) 1 := by decide +kernel
theorem k12_100 : own_dc k12_b 100 (.dstore 11) 2 := by decide +kernel
theorem k12_102 : own_dc k12_b 102 (.iconst 0) 1 := by decide +kernel
theorem k12_103 : own_dc k12_b 103 (.istore 13) 2 := by decide +kernel
theorem k12_105 : own_dc k12_b 105 (.iconst 0) 1 := by decide +kernel
theorem k12_106 : own_dc k12_b 106 (.istore 14) 2 := by decide +kernel
theorem k12_108 : own_dc k12_b 108 (.iconst 0) 1 := by decide +kernel
theorem k12_109 : own_dc k12_b 109 (.istore 15) 2 := by decide +kernel
theorem k12_111 : own_dc k12_b 111 (.iload 14) 2 := by decide +kernel
theorem k12_113 : own_dc k12_b 113 (.iload 5) 2 := by decide +kernel
theorem k12_115 : own_dc k12_b 115 (.if_icmp .lt 10) 3 := by decide +kernel
theorem k12_118 : own_dc k12_b 118 (.iload 15) 2 := by decide +kernel
theorem k12_120 : own_dc k12_b 120 (.iload 8) 2 := by decide +kernel
theorem k12_122 : own_dc k12_b 122 (.if_icmp .ge 203) 3 := by decide +kernel
theorem k12_125 : own_dc k12_b 125 (.iload 14) 2 := by decide +kernel
theorem k12_127 : own_dc k12_b 127 (.iload 5) 2 := by decide +kernel
theorem k12_129 : own_dc k12_b 129 (.if_icmp .ge 10) 3 := by decide +kernel
theorem k12_132 : own_dc k12_b 132 (.aload_n 3) 1 := by decide +kernel
theorem k12_133 : own_dc k12_b 133 (.iload 14) 2 := by decide +kernel
theorem k12_135 : own_dc k12_b 135 .iaload 1 := by decide +kernel
theorem k12_136 : own_dc k12_b 136 (.goto 5) 3 := by decide +kernel
theorem k12_139 : own_dc k12_b 139 (.ldc 107) 2 := by decide +kernel
theorem k12_141 : own_dc k12_b 141 (.istore 16) 2 := by decide +kernel
theorem k12_143 : own_dc k12_b 143 (.iload 15) 2 := by decide +kernel
theorem k12_145 : own_dc k12_b 145 (.iload 8) 2 := by decide +kernel
theorem k12_147 : own_dc k12_b 147 (.if_icmp .ge 11) 3 := by decide +kernel
theorem k12_150 : own_dc k12_b 150 (.aload 6) 2 := by decide +kernel
theorem k12_152 : own_dc k12_b 152 (.iload 15) 2 := by decide +kernel
theorem k12_154 : own_dc k12_b 154 .iaload 1 := by decide +kernel
theorem k12_155 : own_dc k12_b 155 (.goto 5) 3 := by decide +kernel
theorem k12_158 : own_dc k12_b 158 (.ldc 107) 2 := by decide +kernel
theorem k12_160 : own_dc k12_b 160 (.istore 17) 2 := by decide +kernel
theorem k12_162 : own_dc k12_b 162 (.iload 16) 2 := by decide +kernel
theorem k12_164 : own_dc k12_b 164 (.iload_n 2) 1 := by decide +kernel
theorem k12_165 : own_dc k12_b 165 (.if_icmp .ne 9) 3 := by decide +kernel
theorem k12_168 : own_dc k12_b 168 (.iinc 14 1) 3 := by decide +kernel
theorem k12_171 : own_dc k12_b 171 (.goto 151) 3 := by decide +kernel
theorem k12_174 : own_dc k12_b 174 (.iload 17) 2 := by decide +kernel
theorem k12_176 : own_dc k12_b 176 (.iload_n 1) 1 := by decide +kernel
theorem k12_177 : own_dc k12_b 177 (.if_icmp .ne 22) 3 := by decide +kernel
theorem k12_180 : own_dc k12_b 180 (.dload 11) 2 := by decide +kernel
theorem k12_182 : own_dc k12_b 182 (.dload 9) 2 := by decide +kernel
theorem k12_184 : own_dc k12_b 184 (.aload 7) 2 := by decide +kernel
theorem k12_186 : own_dc k12_b 186 (.iload 15) 2 := by decide +kernel
theorem k12_188 : own_dc k12_b 188 (.iinc 15 1) 3 := by decide +kernel
theorem k12_191 : own_dc k12_b 191 .daload 1 := by decide +kernel
theorem k12_192 : own_dc k12_b 192 .dmul 1 := by decide +kernel
theorem k12_193 : own_dc k12_b 193 .dadd 1 := by decide +kernel
theorem k12_194 : own_dc k12_b 194 (.dstore 11) 2 := by decide +kernel
theorem k12_196 : own_dc k12_b 196 (.goto 126) 3 := by decide +kernel
theorem k12_199 : own_dc k12_b 199 (.iload 16) 2 := by decide +kernel
theorem k12_201 : own_dc k12_b 201 (.iload 17) 2 := by decide +kernel
theorem k12_203 : own_dc k12_b 203 (.if_icmp .ge 33) 3 := by decide +kernel
theorem k12_206 : own_dc k12_b 206 (.aload_n 0) 1 := by decide +kernel
theorem k12_207 : own_dc k12_b 207 (.getfield 17) 3 := by decide +kernel
theorem k12_210 : own_dc k12_b 210 (.iload 13) 2 := by decide +kernel
theorem k12_212 : own_dc k12_b 212 (.iload 16) 2 := by decide +kernel
theorem k12_214 : own_dc k12_b 214 .iastore 1 := by decide +kernel
theorem k12_215 : own_dc k12_b 215 (.aload_n 0) 1 := by decide +kernel
theorem k12_216 : own_dc k12_b 216 (.getfield 20) 3 := by decide +kernel
theorem k12_219 : own_dc k12_b 219 (.iload 13) 2 := by decide +kernel
theorem k12_221 : own_dc k12_b 221 (.iinc 13 1) 3 := by decide +kernel
theorem k12_224 : own_dc k12_b 224 (.aload 4) 2 := by decide +kernel
theorem k12_226 : own_dc k12_b 226 (.iload 14) 2 := by decide +kernel
theorem k12_228 : own_dc k12_b 228 (.iinc 14 1) 3 := by decide +kernel
theorem k12_231 : own_dc k12_b 231 .daload 1 := by decide +kernel
theorem k12_232 : own_dc k12_b 232 .dastore 1 := by decide +kernel
theorem k12_233 : own_dc k12_b 233 (.goto 89) 3 := by decide +kernel
theorem k12_322 : own_dc k12_b 322 (.goto (-211)) 3 := by decide +kernel
theorem k12_325 : own_dc k12_b 325 (.dload 11) 2 := by decide +kernel
theorem k12_327 : own_dc k12_b 327 (.dconst 1) 1 := by decide +kernel
theorem k12_328 : own_dc k12_b 328 (.dcmp .g) 1 := by decide +kernel
theorem k12_329 : own_dc k12_b 329 (.ifCond .lt 5) 3 := by decide +kernel
theorem k12_334 : own_dc k12_b 334 (.dconst 1) 1 := by decide +kernel
theorem k12_335 : own_dc k12_b 335 (.dstore 16) 2 := by decide +kernel
theorem k12_337 : own_dc k12_b 337 (.dload 11) 2 := by decide +kernel
theorem k12_339 : own_dc k12_b 339 (.dconst 0) 1 := by decide +kernel
theorem k12_340 : own_dc k12_b 340 (.dcmp .l) 1 := by decide +kernel
theorem k12_341 : own_dc k12_b 341 (.ifCond .le 39) 3 := by decide +kernel
theorem k12_344 : own_dc k12_b 344 (.dconst 1) 1 := by decide +kernel
theorem k12_345 : own_dc k12_b 345 (.dconst 1) 1 := by decide +kernel
theorem k12_346 : own_dc k12_b 346 (.dload 11) 2 := by decide +kernel
theorem k12_348 : own_dc k12_b 348 .dsub 1 := by decide +kernel
theorem k12_349 : own_dc k12_b 349 .ddiv 1 := by decide +kernel
theorem k12_350 : own_dc k12_b 350 (.dstore 16) 2 := by decide +kernel
theorem k12_352 : own_dc k12_b 352 (.iconst 0) 1 := by decide +kernel
theorem k12_353 : own_dc k12_b 353 (.istore 18) 2 := by decide +kernel
theorem k12_355 : own_dc k12_b 355 (.iload 18) 2 := by decide +kernel
theorem k12_357 : own_dc k12_b 357 (.iload 13) 2 := by decide +kernel
theorem k12_359 : own_dc k12_b 359 (.if_icmp .ge 21) 3 := by decide +kernel
theorem k12_362 : own_dc k12_b 362 (.aload_n 0) 1 := by decide +kernel
theorem k12_363 : own_dc k12_b 363 (.getfield 20) 3 := by decide +kernel
theorem k12_366 : own_dc k12_b 366 (.iload 18) 2 := by decide +kernel
theorem k12_368 : own_dc k12_b 368 .dup2 1 := by decide +kernel
theorem k12_369 : own_dc k12_b 369 .daload 1 := by decide +kernel
theorem k12_370 : own_dc k12_b 370 (.dload 16) 2 := by decide +kernel
theorem k12_372 : own_dc k12_b 372 .dmul 1 := by decide +kernel
theorem k12_373 : own_dc k12_b 373 .dastore 1 := by decide +kernel
theorem k12_374 : own_dc k12_b 374 (.iinc 18 1) 3 := by decide +kernel
theorem k12_377 : own_dc k12_b 377 (.goto (-22)) 3 := by decide +kernel
theorem k12_380 : own_dc k12_b 380 (.aload_n 3) 1 := by decide +kernel
theorem k12_381 : own_dc k12_b 381 .arraylength 1 := by decide +kernel
theorem k12_382 : own_dc k12_b 382 (.iload 13) 2 := by decide +kernel
theorem k12_384 : own_dc k12_b 384 (.if_icmp .ge 35) 3 := by decide +kernel
theorem k12_419 : own_dc k12_b 419 (.aload_n 0) 1 := by decide +kernel
theorem k12_420 : own_dc k12_b 420 (.getfield 17) 3 := by decide +kernel
theorem k12_423 : own_dc k12_b 423 (.iconst 0) 1 := by decide +kernel
theorem k12_424 : own_dc k12_b 424 (.aload_n 0) 1 := by decide +kernel
theorem k12_425 : own_dc k12_b 425 (.getfield 40) 3 := by decide +kernel
theorem k12_428 : own_dc k12_b 428 (.iload_n 1) 1 := by decide +kernel
theorem k12_429 : own_dc k12_b 429 .aaload 1 := by decide +kernel
theorem k12_430 : own_dc k12_b 430 (.iconst 0) 1 := by decide +kernel
theorem k12_431 : own_dc k12_b 431 (.iload 13) 2 := by decide +kernel
theorem k12_433 : own_dc k12_b 433 (.invokestatic 114) 3 := by decide +kernel
theorem k12_436 : own_dc k12_b 436 (.aload_n 0) 1 := by decide +kernel
theorem k12_437 : own_dc k12_b 437 (.getfield 20) 3 := by decide +kernel
theorem k12_440 : own_dc k12_b 440 (.iconst 0) 1 := by decide +kernel
theorem k12_441 : own_dc k12_b 441 (.aload_n 0) 1 := by decide +kernel
theorem k12_442 : own_dc k12_b 442 (.getfield 45) 3 := by decide +kernel
theorem k12_445 : own_dc k12_b 445 (.iload_n 1) 1 := by decide +kernel
theorem k12_446 : own_dc k12_b 446 .aaload 1 := by decide +kernel
theorem k12_447 : own_dc k12_b 447 (.iconst 0) 1 := by decide +kernel
theorem k12_448 : own_dc k12_b 448 (.iload 13) 2 := by decide +kernel
theorem k12_450 : own_dc k12_b 450 (.invokestatic 114) 3 := by decide +kernel
theorem k12_453 : own_dc k12_b 453 (.aload_n 0) 1 := by decide +kernel
theorem k12_454 : own_dc k12_b 454 .dup 1 := by decide +kernel
theorem k12_455 : own_dc k12_b 455 (.getfield 81) 3 := by decide +kernel
theorem k12_458 : own_dc k12_b 458 (.iload 13) 2 := by decide +kernel
theorem k12_460 : own_dc k12_b 460 (.iload 5) 2 := by decide +kernel
theorem k12_462 : own_dc k12_b 462 .isub 1 := by decide +kernel
theorem k12_463 : own_dc k12_b 463 .i2l 1 := by decide +kernel
theorem k12_464 : own_dc k12_b 464 .ladd 1 := by decide +kernel
theorem k12_465 : own_dc k12_b 465 (.putfield 81) 3 := by decide +kernel
theorem k12_468 : own_dc k12_b 468 (.aload_n 0) 1 := by decide +kernel
theorem k12_469 : own_dc k12_b 469 (.getfield 49) 3 := by decide +kernel
theorem k12_472 : own_dc k12_b 472 (.iload_n 1) 1 := by decide +kernel
theorem k12_473 : own_dc k12_b 473 (.iload 13) 2 := by decide +kernel
theorem k12_475 : own_dc k12_b 475 .iastore 1 := by decide +kernel
theorem k12_476 : own_dc k12_b 476 (.aload_n 0) 1 := by decide +kernel
theorem k12_477 : own_dc k12_b 477 (.iload_n 1) 1 := by decide +kernel
theorem k12_478 : own_dc k12_b 478 (.iload_n 2) 1 := by decide +kernel
theorem k12_479 : own_dc k12_b 479 (.dload 9) 2 := by decide +kernel
theorem k12_481 : own_dc k12_b 481 (.dload 16) 2 := by decide +kernel
theorem k12_483 : own_dc k12_b 483 (.invokevirtual 120) 3 := by decide +kernel
theorem k12_486 : own_dc k12_b 486 (.iconst 1) 1 := by decide +kernel
theorem k12_487 : own_dc k12_b 487 .ireturn 1 := by decide +kernel
abbrev k13_b := prog_14_method_4_code
theorem k13_0 : own_dc k13_b 0 (.ldc2_w 88) 3 := by decide +kernel
theorem k13_3 : own_dc k13_b 3 (.aload_n 0) 1 := by decide +kernel
theorem k13_4 : own_dc k13_b 4 (.getfield 81) 3 := by decide +kernel
theorem k13_7 : own_dc k13_b 7 .lmul 1 := by decide +kernel
theorem k13_8 : own_dc k13_b 8 (.aload_n 0) 1 := by decide +kernel
theorem k13_9 : own_dc k13_b 9 (.getfield 35) 3 := by decide +kernel
theorem k13_12 : own_dc k13_b 12 .i2l 1 := by decide +kernel
theorem k13_13 : own_dc k13_b 13 .ladd 1 := by decide +kernel
theorem k13_14 : own_dc k13_b 14 (.lstore_n 3) 1 := by decide +kernel
theorem k13_15 : own_dc k13_b 15 (.iconst 0) 1 := by decide +kernel
theorem k13_16 : own_dc k13_b 16 (.istore 5) 2 := by decide +kernel
theorem k13_18 : own_dc k13_b 18 (.iload 5) 2 := by decide +kernel
theorem k13_20 : own_dc k13_b 20 (.aload_n 0) 1 := by decide +kernel
theorem k13_21 : own_dc k13_b 21 (.getfield 35) 3 := by decide +kernel
theorem k13_24 : own_dc k13_b 24 (.if_icmp .ge 116) 3 := by decide +kernel
theorem k13_27 : own_dc k13_b 27 (.iconst 0) 1 := by decide +kernel
theorem k13_28 : own_dc k13_b 28 (.istore 6) 2 := by decide +kernel
theorem k13_30 : own_dc k13_b 30 (.iload 6) 2 := by decide +kernel
theorem k13_32 : own_dc k13_b 32 (.aload_n 0) 1 := by decide +kernel
theorem k13_33 : own_dc k13_b 33 (.getfield 55) 3 := by decide +kernel
theorem k13_36 : own_dc k13_b 36 (.iload 5) 2 := by decide +kernel
theorem k13_38 : own_dc k13_b 38 .iaload 1 := by decide +kernel
theorem k13_39 : own_dc k13_b 39 (.if_icmp .ge 87) 3 := by decide +kernel
theorem k13_42 : own_dc k13_b 42 (.aload_n 0) 1 := by decide +kernel
theorem k13_43 : own_dc k13_b 43 (.getfield 52) 3 := by decide +kernel
theorem k13_46 : own_dc k13_b 46 (.iload 5) 2 := by decide +kernel
theorem k13_48 : own_dc k13_b 48 .aaload 1 := by decide +kernel
theorem k13_49 : own_dc k13_b 49 (.iload 6) 2 := by decide +kernel
theorem k13_51 : own_dc k13_b 51 .iaload 1 := by decide +kernel
theorem k13_52 : own_dc k13_b 52 (.istore 7) 2 := by decide +kernel
theorem k13_54 : own_dc k13_b 54 (.iload 7) 2 := by decide +kernel
theorem k13_56 : own_dc k13_b 56 (.iload 5) 2 := by decide +kernel
theorem k13_58 : own_dc k13_b 58 (.if_icmp .ge 6) 3 := by decide +kernel
theorem k13_61 : own_dc k13_b 61 (.goto 59) 3 := by decide +kernel
theorem k13_64 : own_dc k13_b 64 (.aload_n 0) 1 := by decide +kernel
theorem k13_65 : own_dc k13_b 65 .dup 1 := by decide +kernel
theorem k13_66 : own_dc k13_b 66 (.getfield 85) 3 := by decide +kernel
theorem k13_69 : own_dc k13_b 69 (.aload_n 0) 1 := by decide +kernel
theorem k13_70 : own_dc k13_b 70 (.getfield 49) 3 := by decide +kernel
theorem k13_73 : own_dc k13_b 73 (.iload 7) 2 := by decide +kernel
theorem k13_75 : own_dc k13_b 75 .iaload 1 := by decide +kernel
theorem k13_76 : own_dc k13_b 76 (.aload_n 0) 1 := by decide +kernel
theorem k13_77 : own_dc k13_b 77 (.getfield 49) 3 := by decide +kernel
theorem k13_80 : own_dc k13_b 80 (.iload 5) 2 := by decide +kernel
theorem k13_82 : own_dc k13_b 82 .iaload 1 := by decide +kernel
theorem k13_83 : own_dc k13_b 83 .iadd 1 := by decide +kernel
theorem k13_84 : own_dc k13_b 84 .i2l 1 := by decide +kernel
theorem k13_85 : own_dc k13_b 85 .ladd 1 := by decide +kernel
theorem k13_86 : own_dc k13_b 86 (.putfield 85) 3 := by decide +kernel
theorem k13_89 : own_dc k13_b 89 (.aload_n 0) 1 := by decide +kernel
theorem k13_90 : own_dc k13_b 90 (.getfield 85) 3 := by decide +kernel
theorem k13_93 : own_dc k13_b 93 (.lload_n 1) 1 := by decide +kernel
theorem k13_94 : own_dc k13_b 94 .lcmp 1 := by decide +kernel
theorem k13_95 : own_dc k13_b 95 (.ifCond .gt 23) 3 := by decide +kernel
theorem k13_98 : own_dc k13_b 98 (.aload_n 0) 1 := by decide +kernel
theorem k13_99 : own_dc k13_b 99 (.iload 7) 2 := by decide +kernel
theorem k13_101 : own_dc k13_b 101 (.iload 5) 2 := by decide +kernel
theorem k13_103 : own_dc k13_b 103 (.invokevirtual 90) 3 := by decide +kernel
theorem k13_106 : own_dc k13_b 106 (.ifCond .eq 12) 3 := by decide +kernel
theorem k13_109 : own_dc k13_b 109 (.aload_n 0) 1 := by decide +kernel
theorem k13_110 : own_dc k13_b 110 (.getfield 81) 3 := by decide +kernel
theorem k13_113 : own_dc k13_b 113 (.lload_n 3) 1 := by decide +kernel
theorem k13_114 : own_dc k13_b 114 .lcmp 1 := by decide +kernel
theorem k13_115 : own_dc k13_b 115 (.ifCond .le 5) 3 := by decide +kernel
theorem k13_120 : own_dc k13_b 120 (.iinc 6 1) 3 := by decide +kernel
theorem k13_123 : own_dc k13_b 123 (.goto (-93)) 3 := by decide +kernel
theorem k13_126 : own_dc k13_b 126 (.aload_n 0) 1 := by decide +kernel
theorem k13_127 : own_dc k13_b 127 (.getfield 52) 3 := by decide +kernel
theorem k13_130 : own_dc k13_b 130 (.iload 5) 2 := by decide +kernel
theorem k13_132 : own_dc k13_b 132 .aconst_null 1 := by decide +kernel
theorem k13_133 : own_dc k13_b 133 .aastore 1 := by decide +kernel
theorem k13_134 : own_dc k13_b 134 (.iinc 5 1) 3 := by decide +kernel
theorem k13_137 : own_dc k13_b 137 (.goto (-119)) 3 := by decide +kernel
theorem k13_140 : own_dc k13_b 140 (.iconst 1) 1 := by decide +kernel
theorem k13_141 : own_dc k13_b 141 .ireturn 1 := by decide +kernel
abbrev k14_b := prog_14_method_6_code
theorem k14_0 : own_dc k14_b 0 (.aload_n 0) 1 := by decide +kernel
theorem k14_1 : own_dc k14_b 1 (.getfield 85) 3 := by decide +kernel
theorem k14_4 : own_dc k14_b 4 .lreturn 1 := by decide +kernel
abbrev k15_b := prog_14_method_5_code
theorem k15_0 : own_dc k15_b 0 (.aload_n 1) 1 := by decide +kernel
theorem k15_1 : own_dc k15_b 1 (.invokevirtual 94) 3 := by decide +kernel
theorem k15_4 : own_dc k15_b 4 (.checkcast 44) 3 := by decide +kernel
theorem k15_7 : own_dc k15_b 7 (.astore_n 2) 1 := by decide +kernel
theorem k15_8 : own_dc k15_b 8 (.iconst 0) 1 := by decide +kernel
theorem k15_9 : own_dc k15_b 9 (.istore_n 3) 1 := by decide +kernel
theorem k15_10 : own_dc k15_b 10 (.iload_n 3) 1 := by decide +kernel
theorem k15_11 : own_dc k15_b 11 (.aload_n 0) 1 := by decide +kernel
theorem k15_12 : own_dc k15_b 12 (.getfield 98) 3 := by decide +kernel
theorem k15_15 : own_dc k15_b 15 (.if_icmp .ge 48) 3 := by decide +kernel
theorem k15_18 : own_dc k15_b 18 (.aload_n 0) 1 := by decide +kernel
theorem k15_19 : own_dc k15_b 19 (.getfield 23) 3 := by decide +kernel
theorem k15_22 : own_dc k15_b 22 (.iload_n 3) 1 := by decide +kernel
theorem k15_23 : own_dc k15_b 23 .iaload 1 := by decide +kernel
theorem k15_24 : own_dc k15_b 24 (.istore 4) 2 := by decide +kernel
theorem k15_26 : own_dc k15_b 26 (.aload_n 2) 1 := by decide +kernel
theorem k15_27 : own_dc k15_b 27 (.iload 4) 2 := by decide +kernel
theorem k15_29 : own_dc k15_b 29 (.aload_n 2) 1 := by decide +kernel
theorem k15_30 : own_dc k15_b 30 (.iload 4) 2 := by decide +kernel
theorem k15_32 : own_dc k15_b 32 .daload 1 := by decide +kernel
theorem k15_33 : own_dc k15_b 33 (.aload_n 0) 1 := by decide +kernel
theorem k15_34 : own_dc k15_b 34 (.getfield 29) 3 := by decide +kernel
theorem k15_37 : own_dc k15_b 37 (.iload_n 3) 1 := by decide +kernel
theorem k15_38 : own_dc k15_b 38 .daload 1 := by decide +kernel
theorem k15_39 : own_dc k15_b 39 (.aload_n 2) 1 := by decide +kernel
theorem k15_40 : own_dc k15_b 40 (.aload_n 0) 1 := by decide +kernel
theorem k15_41 : own_dc k15_b 41 (.getfield 26) 3 := by decide +kernel
theorem k15_44 : own_dc k15_b 44 (.iload_n 3) 1 := by decide +kernel
theorem k15_45 : own_dc k15_b 45 .iaload 1 := by decide +kernel
theorem k15_46 : own_dc k15_b 46 .daload 1 := by decide +kernel
theorem k15_47 : own_dc k15_b 47 .dmul 1 := by decide +kernel
theorem k15_48 : own_dc k15_b 48 .dadd 1 := by decide +kernel
theorem k15_49 : own_dc k15_b 49 (.aload_n 0) 1 := by decide +kernel
theorem k15_50 : own_dc k15_b 50 (.getfield 32) 3 := by decide +kernel
theorem k15_53 : own_dc k15_b 53 (.iload_n 3) 1 := by decide +kernel
theorem k15_54 : own_dc k15_b 54 .daload 1 := by decide +kernel
theorem k15_55 : own_dc k15_b 55 .dmul 1 := by decide +kernel
theorem k15_56 : own_dc k15_b 56 .dastore 1 := by decide +kernel
theorem k15_57 : own_dc k15_b 57 (.iinc 3 1) 3 := by decide +kernel
theorem k15_60 : own_dc k15_b 60 (.goto (-50)) 3 := by decide +kernel
theorem k15_63 : own_dc k15_b 63 (.aload_n 0) 1 := by decide +kernel
theorem k15_64 : own_dc k15_b 64 (.getfield 35) 3 := by decide +kernel
theorem k15_67 : own_dc k15_b 67 (.iconst 1) 1 := by decide +kernel
theorem k15_68 : own_dc k15_b 68 .isub 1 := by decide +kernel
theorem k15_69 : own_dc k15_b 69 (.istore_n 3) 1 := by decide +kernel
theorem k15_70 : own_dc k15_b 70 (.iload_n 3) 1 := by decide +kernel
theorem k15_71 : own_dc k15_b 71 (.ifCond .lt 65) 3 := by decide +kernel
theorem k15_74 : own_dc k15_b 74 (.aload_n 2) 1 := by decide +kernel
theorem k15_75 : own_dc k15_b 75 (.iload_n 3) 1 := by decide +kernel
theorem k15_76 : own_dc k15_b 76 .daload 1 := by decide +kernel
theorem k15_77 : own_dc k15_b 77 (.dstore 4) 2 := by decide +kernel
theorem k15_79 : own_dc k15_b 79 (.iconst 0) 1 := by decide +kernel
theorem k15_80 : own_dc k15_b 80 (.istore 6) 2 := by decide +kernel
theorem k15_82 : own_dc k15_b 82 (.iload 6) 2 := by decide +kernel
theorem k15_84 : own_dc k15_b 84 (.aload_n 0) 1 := by decide +kernel
theorem k15_85 : own_dc k15_b 85 (.getfield 49) 3 := by decide +kernel
theorem k15_88 : own_dc k15_b 88 (.iload_n 3) 1 := by decide +kernel
theorem k15_89 : own_dc k15_b 89 .iaload 1 := by decide +kernel
theorem k15_90 : own_dc k15_b 90 (.if_icmp .ge 35) 3 := by decide +kernel
theorem k15_93 : own_dc k15_b 93 (.dload 4) 2 := by decide +kernel
theorem k15_95 : own_dc k15_b 95 (.aload_n 0) 1 := by decide +kernel
theorem k15_96 : own_dc k15_b 96 (.getfield 45) 3 := by decide +kernel
theorem k15_99 : own_dc k15_b 99 (.iload_n 3) 1 := by decide +kernel
theorem k15_100 : own_dc k15_b 100 .aaload 1 := by decide +kernel
theorem k15_101 : own_dc k15_b 101 (.iload 6) 2 := by decide +kernel
theorem k15_103 : own_dc k15_b 103 .daload 1 := by decide +kernel
theorem k15_104 : own_dc k15_b 104 (.aload_n 2) 1 := by decide +kernel
theorem k15_105 : own_dc k15_b 105 (.aload_n 0) 1 := by decide +kernel
theorem k15_106 : own_dc k15_b 106 (.getfield 40) 3 := by decide +kernel
theorem k15_109 : own_dc k15_b 109 (.iload_n 3) 1 := by decide +kernel
theorem k15_110 : own_dc k15_b 110 .aaload 1 := by decide +kernel
theorem k15_111 : own_dc k15_b 111 (.iload 6) 2 := by decide +kernel
theorem k15_113 : own_dc k15_b 113 .iaload 1 := by decide +kernel
theorem k15_114 : own_dc k15_b 114 .daload 1 := by decide +kernel
theorem k15_115 : own_dc k15_b 115 .dmul 1 := by decide +kernel
theorem k15_116 : own_dc k15_b 116 .dadd 1 := by decide +kernel
theorem k15_117 : own_dc k15_b 117 (.dstore 4) 2 := by decide +kernel
theorem k15_119 : own_dc k15_b 119 (.iinc 6 1) 3 := by decide +kernel
theorem k15_122 : own_dc k15_b 122 (.goto (-40)) 3 := by decide +kernel
theorem k15_125 : own_dc k15_b 125 (.aload_n 2) 1 := by decide +kernel
theorem k15_126 : own_dc k15_b 126 (.iload_n 3) 1 := by decide +kernel
theorem k15_127 : own_dc k15_b 127 (.dload 4) 2 := by decide +kernel
theorem k15_129 : own_dc k15_b 129 .dastore 1 := by decide +kernel
theorem k15_130 : own_dc k15_b 130 (.iinc 3 (-1)) 3 := by decide +kernel
theorem k15_133 : own_dc k15_b 133 (.goto (-63)) 3 := by decide +kernel
theorem k15_136 : own_dc k15_b 136 (.aload_n 0) 1 := by decide +kernel
theorem k15_137 : own_dc k15_b 137 .dup 1 := by decide +kernel
theorem k15_138 : own_dc k15_b 138 (.getfield 85) 3 := by decide +kernel
theorem k15_141 : own_dc k15_b 141 (.aload_n 0) 1 := by decide +kernel
theorem k15_142 : own_dc k15_b 142 (.getfield 98) 3 := by decide +kernel
theorem k15_145 : own_dc k15_b 145 .i2l 1 := by decide +kernel
theorem k15_146 : own_dc k15_b 146 (.aload_n 0) 1 := by decide +kernel
theorem k15_147 : own_dc k15_b 147 (.getfield 81) 3 := by decide +kernel
theorem k15_150 : own_dc k15_b 150 .ladd 1 := by decide +kernel
theorem k15_151 : own_dc k15_b 151 .ladd 1 := by decide +kernel
theorem k15_152 : own_dc k15_b 152 (.putfield 85) 3 := by decide +kernel
theorem k15_155 : own_dc k15_b 155 (.aload_n 2) 1 := by decide +kernel
theorem k15_156 : own_dc k15_b 156 .areturn 1 := by decide +kernel
theorem pd_0 : parseMethodDescriptor "([JII)V" = some ⟨[(.array .long), .int, .int], none⟩ := by decide +kernel
theorem pd_1 : parseMethodDescriptor "(Ljava/util/DualPivotQuicksort$Sorter;[JIII)V" = some ⟨[(.object "java/util/DualPivotQuicksort$Sorter"), (.array .long), .int, .int, .int], none⟩ := by decide +kernel
theorem pd_2 : parseMethodDescriptor "([JIII)V" = some ⟨[(.array .long), .int, .int, .int], none⟩ := by decide +kernel
theorem pd_3 : parseMethodDescriptor "([J)V" = some ⟨[(.array .long)], none⟩ := by decide +kernel
theorem pd_4 : parseMethodDescriptor "(II)V" = some ⟨[.int, .int], none⟩ := by decide +kernel
theorem pd_5 : parseMethodDescriptor "(III)V" = some ⟨[.int, .int, .int], none⟩ := by decide +kernel
theorem pd_6 : parseMethodDescriptor "([IIII)I" = some ⟨[(.array .int), .int, .int, .int], some .int⟩ := by decide +kernel
theorem pd_7 : parseMethodDescriptor "(IIDD)V" = some ⟨[.int, .int, .double, .double], none⟩ := by decide +kernel
theorem pd_8 : parseMethodDescriptor "(II)Z" = some ⟨[.int, .int], some .boolean⟩ := by decide +kernel
theorem pd_9 : parseMethodDescriptor "()V" = some ⟨[], none⟩ := by decide +kernel
theorem pd_10 : parseMethodDescriptor "(ID)V" = some ⟨[.int, .double], none⟩ := by decide +kernel
theorem pd_11 : parseMethodDescriptor "(I)V" = some ⟨[.int], none⟩ := by decide +kernel
theorem pd_12 : parseMethodDescriptor "(J)Z" = some ⟨[.long], some .boolean⟩ := by decide +kernel
theorem pd_13 : parseMethodDescriptor "()J" = some ⟨[], some .long⟩ := by decide +kernel
theorem pd_14 : parseMethodDescriptor "([D)[D" = some ⟨[(.array .double)], some (.array .double)⟩ := by decide +kernel
theorem ef_1 (m : MethodId) (x0 : Addr) (x1 : Int32) : entryFrame m #[(.ref x0), (.int x1)] 2 = mkF m 0 #[.val (.ref x0), .val (.int x1)] [] := by first | (simp [entryFrame, mkF, argsToLocals, Value.category]; done) | rfl
theorem pn_1 : plainName "com/example/odds2/odds2/engine/Elimination" = true := by first | (simp [plainName, overriddenIn]; done) | decide +kernel
def Q1 (Z : State) (a1 : Nat) (h0 : Heap) (n0 : Nat) (v : Option Value) (h : Heap) (L : List Loc) : Prop := ∃ (oc od mc md sr sp sw ss co cf le re rc : Nat) (k_oc k_od k_mc k_md k_sr k_sp k_sw k_ss k_co k_cf k_le k_re k_rc : ClassId), v = none ∧ Fr n0 L ∧ Keep h0 h [a1] ∧ own_E Z h a1 oc od mc md sr sp sw ss co cf le re rc (0 : Int32) (0 : Int64) (0 : Int64) (0 : Int32) (0 : Int32) ∧ Arv Z h oc k_oc .int 16 [(.int 0), (.int 0)] (.int 0) ∧ Arv Z h od k_od .double 16 [(.double 0), (.double 0)] (.double 0) ∧ Arv Z h mc k_mc .int 16 [(.int 0), (.int 0)] (.int 0) ∧ Arv Z h md k_md .double 16 [(.double 0), (.double 0)] (.double 0) ∧ Arv Z h sr k_sr .int 16 [(.int 0), (.int 0)] (.int 0) ∧ Arv Z h sp k_sp .int 16 [(.int 0), (.int 0)] (.int 0) ∧ Arv Z h sw k_sw .double 16 [(.double 0), (.double 0)] (.double 0) ∧ Arv Z h ss k_ss .double 16 [(.double 0), (.double 0)] (.double 0) ∧ Arv Z h co k_co (.array .int) (3 : Int32) [.null, .null, .null] .null ∧ Arv Z h cf k_cf (.array .double) (3 : Int32) [.null, .null, .null] .null ∧ Arv Z h le k_le .int 3 [(.int 0), (.int 0)] (.int 0) ∧ Arv Z h re k_re (.array .int) (3 : Int32) [.null, .null, .null] .null ∧ Arv Z h rc k_rc .int 3 [(.int 0), (.int 0)] (.int 0) ∧ (OvrA Z k_co .int "[I" ∧ OvrA Z k_cf .double "[D" ∧ OvrA Z k_re .int "[I") ∧ h0.size ≤ oc ∧ oc < od ∧ od < mc ∧ mc < md ∧ md < sr ∧ sr < sp ∧ sp < sw ∧ sw < ss ∧ ss < co ∧ co < cf ∧ cf < le ∧ le < re ∧ re < rc
set_option maxRecDepth 65536 in
set_option maxHeartbeats 40000000 in
theorem rm1 (l : Launch) (Z : State) (a0 : Array Value) (hw : ∀ d ∈ tables_1, d.before a0 Z = true) (ws : List Jvm.Cond) (a1 : Nat) (h0 : Heap) (n0 : Nat) (Z0 : n0 ≤ h0.size) (O_a : own_obj Z h0 a1 [(.int 0), .null, .null, .null, .null, .null, (.int 0), (.long 0), (.long 0), .null, .null, (.int 0), .null, .null, (.int 0), .null, .null, .null, .null]) (g_a : n0 ≤ a1) :
    MetFree l (⟨"com/example/odds2/odds2/engine/Elimination", "<init>", "(I)V"⟩ : MethodName) (head1 (Jvm.Cond.code (⟨"com/example/odds2/odds2/engine/Elimination", "<init>", "(I)V"⟩ : MethodName) prog_14_method_1_code 2 none :: ws) ({ frames := 1, cells := 13, slots := 143, locals := 12 } : Room)) (fun a U => a = #[(.ref a1), (.int 3)] ∧ Z.Warmed39 U.vm ∧ U.heap = h0) (fun _ _ _ _ _ => True) (fun _ U o U' => ∃ v L, o = .returned v ∧ Q1 Z a1 h0 n0 v U'.heap L ∧ FrameEnd U o U' L ({ frames := 1, cells := 13, slots := 143, locals := 12 } : Room).cells ({ frames := 1, cells := 13, slots := 143, locals := 12 } : Room).slots) := by
  refine MetFree.of_bodySF (plainFor_of_name pn_1) hisR ?_
  intro p e s m args below meth c s₁ Bd hml0 hP hK
  obtain ⟨rfl, hZ, hh⟩ := hP
  have hx := Bd.exec
  have hby := Bd.bytes
  have hml : c.maxLocals = 2 := hml0
  have hown : s.vm.findClass "com/example/odds2/odds2/engine/Elimination" = some m.cls := findClass_of_methodNamed Bd.named
  have hnm := (name_of_methodNamed Bd.named Bd.method).1
  have X0 : Stand p l e ({ frames := 1, cells := 13, slots := 143, locals := 12 } : Room) s m #[(.ref a1), (.int 3)] below meth c s₁ [] 0 0 := Stand.of_body Bd
  have e0 : s₁.heap = h0 := by rw [← hh, Bd.state]; rfl
  have N0 := Fr.nil n0
  have pre0 : ∀ t, Steps p.tables e below (s₁.setTop (mkF m 0 #[.val (.ref a1), .val (.int 3)] [])) t → Steps p.tables e below (s₁.setTop (entryFrame m #[(.ref a1), (.int 3)] 2)) t := fun t k => castTop (ef_1 m a1 (3 : Int32)) k
  have hl := own_laid_of hw
  obtain ⟨L1, hL1⟩ := own_nm #[.val (.ref a1), .val (.int 3)]
  have L1_0 := own_ld hL1 0 rfl
  obtain ⟨T2, X2, e2, st2⟩ := initO X0 hx hZ hown (hw _ tm11) (hw _ tm12) (hw _ tm13) e0 (g := (mkF m 1 L1 [(.ref a1)])) rfl (by rw [hml, hL1]; rfl) rfl (hb hby k0_1) (by decide) (W := 0) (by show 2 * 0 + _ ≤ _; exact Nat.le_of_eq rfl) (by decide)
  obtain ⟨T3, h3, k3, X3, e3, E3, A3, Q3, st3⟩ := newPE X2 hx hZ (aty := .int) (hw _ tm0) e2 (g := (mkF m 7 L1 [(.int 16), (.ref a1)])) rfl (hb hby k0_7) rfl (by decide) (cap := 16) (by decide) (by decide) (by decide) (by decide) (ad := "[I") (by decide)
  obtain ⟨oc, g3⟩ : ∃ z, z = h0.size := ⟨_, rfl⟩
  rw [← g3] at A3 Q3 st3
  have lt_a1_oc : (a1 : Nat) < oc := by rw [g3]; exact O_a.lt
  have sz_h0_oc : h0.size ≤ (oc : Nat) := by rw [g3]; exact (Keep.refl h0 [a1]).1
  have f4 : Arv Z h3 oc k3 .int 16 [(.int 0), (.int 0)] (.int 0) := (Arv.new A3 (by decide)).pad (pad_rep [] (.int 0) 2)
  have f5 := (O_a.ext E3)
  obtain ⟨T6, h6, X6, e6, W6, st6⟩ := putF X3 hx hZ hown (host := "") (Or.inl (hw _ tm14)) Via.refl e3 (f5.2.2 9 (by decide)) f5.1 (Or.inl (hw _ tm15)) (hw _ tm6) (ty := (.array .int)) (by decide) rfl rfl (g := (mkF m 9 L1 [(.ref oc), (.ref a1)])) rfl rfl (hb hby k0_9)
  have N6 := Fr.snoc X6 N0 g_a
  have f7 : own_obj Z h6 a1 [(.int 0), .null, .null, .null, .null, .null, (.int 0), (.long 0), (.long 0), (.ref oc), .null, (.int 0), .null, .null, (.int 0), .null, .null, .null, .null] := own_put f5 hl (i := 9) (by decide) W6
  have f8 := (f4.other W6 (by omega : (oc : Nat) ≠ a1))
  have f9 := (((Keep.refl h0 [a1]).ext E3).wr W6 (Or.inl (List.mem_of_getElem? (i := 0) rfl)))
  obtain ⟨T10, h10, k10, X10, e10, E10, A10, Q10, st10⟩ := newPE X6 hx hZ (aty := .double) (hw _ tm16) e6 (g := (mkF m 15 L1 [(.int 16), (.ref a1)])) rfl (hb hby k0_15) rfl (by decide) (cap := 16) (by decide) (by decide) (by decide) (by decide) (ad := "[D") (by decide)
  obtain ⟨od, g10⟩ : ∃ z, z = h6.size := ⟨_, rfl⟩
  rw [← g10] at A10 Q10 st10
  have lt_oc_od : (oc : Nat) < od := by rw [g10]; exact f8.lt
  have sz_h0_od : h0.size ≤ (od : Nat) := by rw [g10]; exact f9.1
  have f11 : Arv Z h10 od k10 .double 16 [(.double 0), (.double 0)] (.double 0) := (Arv.new A10 (by decide)).pad (pad_rep [] (.double 0) 2)
  have f12 := (f7.ext E10)
  obtain ⟨T13, h13, X13, e13, W13, st13⟩ := putF X10 hx hZ hown (host := "") (Or.inl (hw _ tm17)) Via.refl e10 (f12.2.2 10 (by decide)) f12.1 (Or.inl (hw _ tm18)) (hw _ tm6) (ty := (.array .double)) (by decide) rfl rfl (g := (mkF m 17 L1 [(.ref od), (.ref a1)])) rfl rfl (hb hby k0_17)
  have N13 := Fr.snoc X13 N6 g_a
  have f14 : own_obj Z h13 a1 [(.int 0), .null, .null, .null, .null, .null, (.int 0), (.long 0), (.long 0), (.ref oc), (.ref od), (.int 0), .null, .null, (.int 0), .null, .null, .null, .null] := own_put f12 hl (i := 10) (by decide) W13
  have f15 := (f11.other W13 (by omega : (od : Nat) ≠ a1))
  have f16 := ((f9.ext E10).wr W13 (Or.inl (List.mem_of_getElem? (i := 0) rfl)))
  obtain ⟨T17, h17, k17, X17, e17, E17, A17, Q17, st17⟩ := newPE X13 hx hZ (aty := .int) (hw _ tm0) e13 (g := (mkF m 23 L1 [(.int 16), (.ref a1)])) rfl (hb hby k0_23) rfl (by decide) (cap := 16) (by decide) (by decide) (by decide) (by decide) (ad := "[I") (by decide)
  obtain ⟨mc, g17⟩ : ∃ z, z = h13.size := ⟨_, rfl⟩
  rw [← g17] at A17 Q17 st17
  have lt_od_mc : (od : Nat) < mc := by rw [g17]; exact f15.lt
  have sz_h0_mc : h0.size ≤ (mc : Nat) := by rw [g17]; exact f16.1
  have f18 : Arv Z h17 mc k17 .int 16 [(.int 0), (.int 0)] (.int 0) := (Arv.new A17 (by decide)).pad (pad_rep [] (.int 0) 2)
  have f19 := (f14.ext E17)
  obtain ⟨T20, h20, X20, e20, W20, st20⟩ := putF X17 hx hZ hown (host := "") (Or.inl (hw _ tm19)) Via.refl e17 (f19.2.2 12 (by decide)) f19.1 (Or.inl (hw _ tm20)) (hw _ tm6) (ty := (.array .int)) (by decide) rfl rfl (g := (mkF m 25 L1 [(.ref mc), (.ref a1)])) rfl rfl (hb hby k0_25)
  have N20 := Fr.snoc X20 N13 g_a
  have f21 : own_obj Z h20 a1 [(.int 0), .null, .null, .null, .null, .null, (.int 0), (.long 0), (.long 0), (.ref oc), (.ref od), (.int 0), (.ref mc), .null, (.int 0), .null, .null, .null, .null] := own_put f19 hl (i := 12) (by decide) W20
  have f22 := (f18.other W20 (by omega : (mc : Nat) ≠ a1))
  have f23 := ((f16.ext E17).wr W20 (Or.inl (List.mem_of_getElem? (i := 0) rfl)))
  obtain ⟨T24, h24, k24, X24, e24, E24, A24, Q24, st24⟩ := newPE X20 hx hZ (aty := .double) (hw _ tm16) e20 (g := (mkF m 31 L1 [(.int 16), (.ref a1)])) rfl (hb hby k0_31) rfl (by decide) (cap := 16) (by decide) (by decide) (by decide) (by decide) (ad := "[D") (by decide)
  obtain ⟨md, g24⟩ : ∃ z, z = h20.size := ⟨_, rfl⟩
  rw [← g24] at A24 Q24 st24
  have lt_mc_md : (mc : Nat) < md := by rw [g24]; exact f22.lt
  have sz_h0_md : h0.size ≤ (md : Nat) := by rw [g24]; exact f23.1
  have f25 : Arv Z h24 md k24 .double 16 [(.double 0), (.double 0)] (.double 0) := (Arv.new A24 (by decide)).pad (pad_rep [] (.double 0) 2)
  have f26 := (f21.ext E24)
  obtain ⟨T27, h27, X27, e27, W27, st27⟩ := putF X24 hx hZ hown (host := "") (Or.inl (hw _ tm21)) Via.refl e24 (f26.2.2 13 (by decide)) f26.1 (Or.inl (hw _ tm22)) (hw _ tm6) (ty := (.array .double)) (by decide) rfl rfl (g := (mkF m 33 L1 [(.ref md), (.ref a1)])) rfl rfl (hb hby k0_33)
  have N27 := Fr.snoc X27 N20 g_a
  have f28 : own_obj Z h27 a1 [(.int 0), .null, .null, .null, .null, .null, (.int 0), (.long 0), (.long 0), (.ref oc), (.ref od), (.int 0), (.ref mc), (.ref md), (.int 0), .null, .null, .null, .null] := own_put f26 hl (i := 13) (by decide) W27
  have f29 := (f25.other W27 (by omega : (md : Nat) ≠ a1))
  have f30 := ((f23.ext E24).wr W27 (Or.inl (List.mem_of_getElem? (i := 0) rfl)))
  obtain ⟨T31, h31, k31, X31, e31, E31, A31, Q31, st31⟩ := newPE X27 hx hZ (aty := .int) (hw _ tm0) e27 (g := (mkF m 39 L1 [(.int 16), (.ref a1)])) rfl (hb hby k0_39) rfl (by decide) (cap := 16) (by decide) (by decide) (by decide) (by decide) (ad := "[I") (by decide)
  obtain ⟨sr, g31⟩ : ∃ z, z = h27.size := ⟨_, rfl⟩
  rw [← g31] at A31 Q31 st31
  have lt_md_sr : (md : Nat) < sr := by rw [g31]; exact f29.lt
  have sz_h0_sr : h0.size ≤ (sr : Nat) := by rw [g31]; exact f30.1
  have f32 : Arv Z h31 sr k31 .int 16 [(.int 0), (.int 0)] (.int 0) := (Arv.new A31 (by decide)).pad (pad_rep [] (.int 0) 2)
  have f33 := (f28.ext E31)
  obtain ⟨T34, h34, X34, e34, W34, st34⟩ := putF X31 hx hZ hown (host := "") (Or.inl (hw _ tm23)) Via.refl e31 (f33.2.2 15 (by decide)) f33.1 (Or.inl (hw _ tm24)) (hw _ tm6) (ty := (.array .int)) (by decide) rfl rfl (g := (mkF m 41 L1 [(.ref sr), (.ref a1)])) rfl rfl (hb hby k0_41)
  have N34 := Fr.snoc X34 N27 g_a
  have f35 : own_obj Z h34 a1 [(.int 0), .null, .null, .null, .null, .null, (.int 0), (.long 0), (.long 0), (.ref oc), (.ref od), (.int 0), (.ref mc), (.ref md), (.int 0), (.ref sr), .null, .null, .null] := own_put f33 hl (i := 15) (by decide) W34
  have f36 := (f32.other W34 (by omega : (sr : Nat) ≠ a1))
  have f37 := ((f30.ext E31).wr W34 (Or.inl (List.mem_of_getElem? (i := 0) rfl)))
  obtain ⟨T38, h38, k38, X38, e38, E38, A38, Q38, st38⟩ := newPE X34 hx hZ (aty := .int) (hw _ tm0) e34 (g := (mkF m 47 L1 [(.int 16), (.ref a1)])) rfl (hb hby k0_47) rfl (by decide) (cap := 16) (by decide) (by decide) (by decide) (by decide) (ad := "[I") (by decide)
  obtain ⟨sp, g38⟩ : ∃ z, z = h34.size := ⟨_, rfl⟩
  rw [← g38] at A38 Q38 st38
  have lt_sr_sp : (sr : Nat) < sp := by rw [g38]; exact f36.lt
  have sz_h0_sp : h0.size ≤ (sp : Nat) := by rw [g38]; exact f37.1
  have f39 : Arv Z h38 sp k38 .int 16 [(.int 0), (.int 0)] (.int 0) := (Arv.new A38 (by decide)).pad (pad_rep [] (.int 0) 2)
  have f40 := (f35.ext E38)
  obtain ⟨T41, h41, X41, e41, W41, st41⟩ := putF X38 hx hZ hown (host := "") (Or.inl (hw _ tm25)) Via.refl e38 (f40.2.2 16 (by decide)) f40.1 (Or.inl (hw _ tm26)) (hw _ tm6) (ty := (.array .int)) (by decide) rfl rfl (g := (mkF m 49 L1 [(.ref sp), (.ref a1)])) rfl rfl (hb hby k0_49)
  have N41 := Fr.snoc X41 N34 g_a
  have f42 : own_obj Z h41 a1 [(.int 0), .null, .null, .null, .null, .null, (.int 0), (.long 0), (.long 0), (.ref oc), (.ref od), (.int 0), (.ref mc), (.ref md), (.int 0), (.ref sr), (.ref sp), .null, .null] := own_put f40 hl (i := 16) (by decide) W41
  have f43 := (f39.other W41 (by omega : (sp : Nat) ≠ a1))
  have f44 := ((f37.ext E38).wr W41 (Or.inl (List.mem_of_getElem? (i := 0) rfl)))
  obtain ⟨T45, h45, k45, X45, e45, E45, A45, Q45, st45⟩ := newPE X41 hx hZ (aty := .double) (hw _ tm16) e41 (g := (mkF m 55 L1 [(.int 16), (.ref a1)])) rfl (hb hby k0_55) rfl (by decide) (cap := 16) (by decide) (by decide) (by decide) (by decide) (ad := "[D") (by decide)
  obtain ⟨sw, g45⟩ : ∃ z, z = h41.size := ⟨_, rfl⟩
  rw [← g45] at A45 Q45 st45
  have lt_sp_sw : (sp : Nat) < sw := by rw [g45]; exact f43.lt
  have sz_h0_sw : h0.size ≤ (sw : Nat) := by rw [g45]; exact f44.1
  have f46 : Arv Z h45 sw k45 .double 16 [(.double 0), (.double 0)] (.double 0) := (Arv.new A45 (by decide)).pad (pad_rep [] (.double 0) 2)
  have f47 := (f42.ext E45)
  obtain ⟨T48, h48, X48, e48, W48, st48⟩ := putF X45 hx hZ hown (host := "") (Or.inl (hw _ tm27)) Via.refl e45 (f47.2.2 17 (by decide)) f47.1 (Or.inl (hw _ tm28)) (hw _ tm6) (ty := (.array .double)) (by decide) rfl rfl (g := (mkF m 57 L1 [(.ref sw), (.ref a1)])) rfl rfl (hb hby k0_57)
  have N48 := Fr.snoc X48 N41 g_a
  have f49 : own_obj Z h48 a1 [(.int 0), .null, .null, .null, .null, .null, (.int 0), (.long 0), (.long 0), (.ref oc), (.ref od), (.int 0), (.ref mc), (.ref md), (.int 0), (.ref sr), (.ref sp), (.ref sw), .null] := own_put f47 hl (i := 17) (by decide) W48
  have f50 := (f46.other W48 (by omega : (sw : Nat) ≠ a1))
  have f51 := ((f44.ext E45).wr W48 (Or.inl (List.mem_of_getElem? (i := 0) rfl)))
  obtain ⟨T52, h52, k52, X52, e52, E52, A52, Q52, st52⟩ := newPE X48 hx hZ (aty := .double) (hw _ tm16) e48 (g := (mkF m 63 L1 [(.int 16), (.ref a1)])) rfl (hb hby k0_63) rfl (by decide) (cap := 16) (by decide) (by decide) (by decide) (by decide) (ad := "[D") (by decide)
  obtain ⟨ss, g52⟩ : ∃ z, z = h48.size := ⟨_, rfl⟩
  rw [← g52] at A52 Q52 st52
  have lt_sw_ss : (sw : Nat) < ss := by rw [g52]; exact f50.lt
  have sz_h0_ss : h0.size ≤ (ss : Nat) := by rw [g52]; exact f51.1
  have f53 : Arv Z h52 ss k52 .double 16 [(.double 0), (.double 0)] (.double 0) := (Arv.new A52 (by decide)).pad (pad_rep [] (.double 0) 2)
  have f54 := (f49.ext E52)
  obtain ⟨T55, h55, X55, e55, W55, st55⟩ := putF X52 hx hZ hown (host := "") (Or.inl (hw _ tm29)) Via.refl e52 (f54.2.2 18 (by decide)) f54.1 (Or.inl (hw _ tm30)) (hw _ tm6) (ty := (.array .double)) (by decide) rfl rfl (g := (mkF m 65 L1 [(.ref ss), (.ref a1)])) rfl rfl (hb hby k0_65)
  have N55 := Fr.snoc X55 N48 g_a
  have f56 : own_obj Z h55 a1 [(.int 0), .null, .null, .null, .null, .null, (.int 0), (.long 0), (.long 0), (.ref oc), (.ref od), (.int 0), (.ref mc), (.ref md), (.int 0), (.ref sr), (.ref sp), (.ref sw), (.ref ss)] := own_put f54 hl (i := 18) (by decide) W55
  have L1_1 := own_ld hL1 1 rfl
  obtain ⟨T57, h57, X57, e57, W57, st57⟩ := putF X55 hx hZ hown (host := "") (Or.inl (hw _ tm31)) Via.refl e55 (f56.2.2 0 (by decide)) f56.1 (Or.inr ⟨(hw _ tm32), rfl, hnm⟩) (hw _ tm6) (ty := .int) (by decide) rfl rfl (g := (mkF m 70 L1 [(.int 3), (.ref a1)])) rfl rfl (hb hby k0_70)
  have N57 := Fr.snoc X57 N55 g_a
  have f58 : own_obj Z h57 a1 [(.int 3), .null, .null, .null, .null, .null, (.int 0), (.long 0), (.long 0), (.ref oc), (.ref od), (.int 0), (.ref mc), (.ref md), (.int 0), (.ref sr), (.ref sp), (.ref sw), (.ref ss)] := own_put f56 hl (i := 0) (by decide) W57
  have f59 := ((f53.other W55 (by omega : (ss : Nat) ≠ a1)).other W57 (by omega : (ss : Nat) ≠ a1))
  have f60 := (((f51.ext E52).wr W55 (Or.inl (List.mem_of_getElem? (i := 0) rfl))).wr W57 (Or.inl (List.mem_of_getElem? (i := 0) rfl)))
  obtain ⟨T61, h61, k61, X61, e61, E61, A61, -, O61, st61⟩ := newRA X57 hx hZ (ty := .int) hown (by decide) (hw _ tm33) (hw _ tm34) e57 (g := (mkF m 75 L1 [(.int 3), (.ref a1)])) rfl (hb hby k0_75) rfl (by decide) (cap := 3) (by decide) (by decide) (by decide) (by decide) (ad := "[[I") (by decide)
  obtain ⟨co, g61⟩ : ∃ z, z = h57.size := ⟨_, rfl⟩
  rw [← g61] at A61 st61
  have lt_ss_co : (ss : Nat) < co := by rw [g61]; exact f59.lt
  have sz_h0_co : h0.size ≤ (co : Nat) := by rw [g61]; exact f60.1
  have f62 : Arv Z h61 co k61 (.array .int) (3 : Int32) [.null, .null, .null] .null := (Arv.new A61 (by decide)).pad (pad_rep [] .null 3)
  have f63 := (f58.ext E61)
  obtain ⟨T64, h64, X64, e64, W64, st64⟩ := putF X61 hx hZ hown (host := "") (Or.inl (hw _ tm35)) Via.refl e61 (f63.2.2 1 (by decide)) f63.1 (Or.inr ⟨(hw _ tm36), rfl, hnm⟩) (hw _ tm6) (ty := (.array (.array .int))) (by decide) rfl rfl (g := (mkF m 78 L1 [(.ref co), (.ref a1)])) rfl rfl (hb hby k0_78)
  have N64 := Fr.snoc X64 N57 g_a
  have f65 : own_obj Z h64 a1 [(.int 3), (.ref co), .null, .null, .null, .null, (.int 0), (.long 0), (.long 0), (.ref oc), (.ref od), (.int 0), (.ref mc), (.ref md), (.int 0), (.ref sr), (.ref sp), (.ref sw), (.ref ss)] := own_put f63 hl (i := 1) (by decide) W64
  have f66 := (f62.other W64 (by omega : (co : Nat) ≠ a1))
  have f67 := ((f60.ext E61).wr W64 (Or.inl (List.mem_of_getElem? (i := 0) rfl)))
  obtain ⟨T68, h68, k68, X68, e68, E68, A68, -, O68, st68⟩ := newRA X64 hx hZ (ty := .double) hown (by decide) (hw _ tm37) (hw _ tm38) e64 (g := (mkF m 83 L1 [(.int 3), (.ref a1)])) rfl (hb hby k0_83) rfl (by decide) (cap := 3) (by decide) (by decide) (by decide) (by decide) (ad := "[[D") (by decide)
  obtain ⟨cf, g68⟩ : ∃ z, z = h64.size := ⟨_, rfl⟩
  rw [← g68] at A68 st68
  have lt_co_cf : (co : Nat) < cf := by rw [g68]; exact f66.lt
  have sz_h0_cf : h0.size ≤ (cf : Nat) := by rw [g68]; exact f67.1
  have f69 : Arv Z h68 cf k68 (.array .double) (3 : Int32) [.null, .null, .null] .null := (Arv.new A68 (by decide)).pad (pad_rep [] .null 3)
  have f70 := (f65.ext E68)
  obtain ⟨T71, h71, X71, e71, W71, st71⟩ := putF X68 hx hZ hown (host := "") (Or.inl (hw _ tm39)) Via.refl e68 (f70.2.2 2 (by decide)) f70.1 (Or.inr ⟨(hw _ tm40), rfl, hnm⟩) (hw _ tm6) (ty := (.array (.array .double))) (by decide) rfl rfl (g := (mkF m 86 L1 [(.ref cf), (.ref a1)])) rfl rfl (hb hby k0_86)
  have N71 := Fr.snoc X71 N64 g_a
  have f72 : own_obj Z h71 a1 [(.int 3), (.ref co), (.ref cf), .null, .null, .null, (.int 0), (.long 0), (.long 0), (.ref oc), (.ref od), (.int 0), (.ref mc), (.ref md), (.int 0), (.ref sr), (.ref sp), (.ref sw), (.ref ss)] := own_put f70 hl (i := 2) (by decide) W71
  have f73 := (f69.other W71 (by omega : (cf : Nat) ≠ a1))
  have f74 := ((f67.ext E68).wr W71 (Or.inl (List.mem_of_getElem? (i := 0) rfl)))
  obtain ⟨T75, h75, k75, X75, e75, E75, A75, Q75, st75⟩ := newPE X71 hx hZ (aty := .int) (hw _ tm0) e71 (g := (mkF m 91 L1 [(.int 3), (.ref a1)])) rfl (hb hby k0_91) rfl (by decide) (cap := 3) (by decide) (by decide) (by decide) (by decide) (ad := "[I") (by decide)
  obtain ⟨le, g75⟩ : ∃ z, z = h71.size := ⟨_, rfl⟩
  rw [← g75] at A75 Q75 st75
  have lt_cf_le : (cf : Nat) < le := by rw [g75]; exact f73.lt
  have sz_h0_le : h0.size ≤ (le : Nat) := by rw [g75]; exact f74.1
  have f76 : Arv Z h75 le k75 .int 3 [(.int 0), (.int 0)] (.int 0) := (Arv.new A75 (by decide)).pad (pad_rep [] (.int 0) 2)
  have f77 := (f72.ext E75)
  obtain ⟨T78, h78, X78, e78, W78, st78⟩ := putF X75 hx hZ hown (host := "") (Or.inl (hw _ tm41)) Via.refl e75 (f77.2.2 3 (by decide)) f77.1 (Or.inr ⟨(hw _ tm42), rfl, hnm⟩) (hw _ tm6) (ty := (.array .int)) (by decide) rfl rfl (g := (mkF m 93 L1 [(.ref le), (.ref a1)])) rfl rfl (hb hby k0_93)
  have N78 := Fr.snoc X78 N71 g_a
  have f79 : own_obj Z h78 a1 [(.int 3), (.ref co), (.ref cf), (.ref le), .null, .null, (.int 0), (.long 0), (.long 0), (.ref oc), (.ref od), (.int 0), (.ref mc), (.ref md), (.int 0), (.ref sr), (.ref sp), (.ref sw), (.ref ss)] := own_put f77 hl (i := 3) (by decide) W78
  have f80 := (f76.other W78 (by omega : (le : Nat) ≠ a1))
  have f81 := ((f74.ext E75).wr W78 (Or.inl (List.mem_of_getElem? (i := 0) rfl)))
  obtain ⟨T82, h82, k82, X82, e82, E82, A82, -, O82, st82⟩ := newRA X78 hx hZ (ty := .int) hown (by decide) (hw _ tm33) (hw _ tm34) e78 (g := (mkF m 98 L1 [(.int 3), (.ref a1)])) rfl (hb hby k0_98) rfl (by decide) (cap := 3) (by decide) (by decide) (by decide) (by decide) (ad := "[[I") (by decide)
  obtain ⟨re, g82⟩ : ∃ z, z = h78.size := ⟨_, rfl⟩
  rw [← g82] at A82 st82
  have lt_le_re : (le : Nat) < re := by rw [g82]; exact f80.lt
  have sz_h0_re : h0.size ≤ (re : Nat) := by rw [g82]; exact f81.1
  have f83 : Arv Z h82 re k82 (.array .int) (3 : Int32) [.null, .null, .null] .null := (Arv.new A82 (by decide)).pad (pad_rep [] .null 3)
  have f84 := (f79.ext E82)
  obtain ⟨T85, h85, X85, e85, W85, st85⟩ := putF X82 hx hZ hown (host := "") (Or.inl (hw _ tm43)) Via.refl e82 (f84.2.2 4 (by decide)) f84.1 (Or.inr ⟨(hw _ tm44), rfl, hnm⟩) (hw _ tm6) (ty := (.array (.array .int))) (by decide) rfl rfl (g := (mkF m 101 L1 [(.ref re), (.ref a1)])) rfl rfl (hb hby k0_101)
  have N85 := Fr.snoc X85 N78 g_a
  have f86 : own_obj Z h85 a1 [(.int 3), (.ref co), (.ref cf), (.ref le), (.ref re), .null, (.int 0), (.long 0), (.long 0), (.ref oc), (.ref od), (.int 0), (.ref mc), (.ref md), (.int 0), (.ref sr), (.ref sp), (.ref sw), (.ref ss)] := own_put f84 hl (i := 4) (by decide) W85
  have f87 := (f83.other W85 (by omega : (re : Nat) ≠ a1))
  have f88 := ((f81.ext E82).wr W85 (Or.inl (List.mem_of_getElem? (i := 0) rfl)))
  obtain ⟨T89, h89, k89, X89, e89, E89, A89, Q89, st89⟩ := newPE X85 hx hZ (aty := .int) (hw _ tm0) e85 (g := (mkF m 106 L1 [(.int 3), (.ref a1)])) rfl (hb hby k0_106) rfl (by decide) (cap := 3) (by decide) (by decide) (by decide) (by decide) (ad := "[I") (by decide)
  obtain ⟨rc, g89⟩ : ∃ z, z = h85.size := ⟨_, rfl⟩
  rw [← g89] at A89 Q89 st89
  have lt_re_rc : (re : Nat) < rc := by rw [g89]; exact f87.lt
  have sz_h0_rc : h0.size ≤ (rc : Nat) := by rw [g89]; exact f88.1
  have f90 : Arv Z h89 rc k89 .int 3 [(.int 0), (.int 0)] (.int 0) := (Arv.new A89 (by decide)).pad (pad_rep [] (.int 0) 2)
  have f91 := (f86.ext E89)
  obtain ⟨T92, h92, X92, e92, W92, st92⟩ := putF X89 hx hZ hown (host := "") (Or.inl (hw _ tm45)) Via.refl e89 (f91.2.2 5 (by decide)) f91.1 (Or.inr ⟨(hw _ tm46), rfl, hnm⟩) (hw _ tm6) (ty := (.array .int)) (by decide) rfl rfl (g := (mkF m 108 L1 [(.ref rc), (.ref a1)])) rfl rfl (hb hby k0_108)
  have N92 := Fr.snoc X92 N85 g_a
  have f93 : own_E Z h92 a1 oc od mc md sr sp sw ss co cf le re rc (0 : Int32) (0 : Int64) (0 : Int64) (0 : Int32) (0 : Int32) := own_put f91 hl (i := 5) (by decide) W92
  have f94 := ((f88.ext E89).wr W92 (Or.inl (List.mem_of_getElem? (i := 0) rfl)))
  have f95 := (((((((((((((((((((((((((f8.ext E10).other W13 (by omega : (oc : Nat) ≠ a1)).ext E17).other W20 (by omega : (oc : Nat) ≠ a1)).ext E24).other W27 (by omega : (oc : Nat) ≠ a1)).ext E31).other W34 (by omega : (oc : Nat) ≠ a1)).ext E38).other W41 (by omega : (oc : Nat) ≠ a1)).ext E45).other W48 (by omega : (oc : Nat) ≠ a1)).ext E52).other W55 (by omega : (oc : Nat) ≠ a1)).other W57 (by omega : (oc : Nat) ≠ a1)).ext E61).other W64 (by omega : (oc : Nat) ≠ a1)).ext E68).other W71 (by omega : (oc : Nat) ≠ a1)).ext E75).other W78 (by omega : (oc : Nat) ≠ a1)).ext E82).other W85 (by omega : (oc : Nat) ≠ a1)).ext E89).other W92 (by omega : (oc : Nat) ≠ a1))
  have f96 := (((((((((((((((((((((((f15.ext E17).other W20 (by omega : (od : Nat) ≠ a1)).ext E24).other W27 (by omega : (od : Nat) ≠ a1)).ext E31).other W34 (by omega : (od : Nat) ≠ a1)).ext E38).other W41 (by omega : (od : Nat) ≠ a1)).ext E45).other W48 (by omega : (od : Nat) ≠ a1)).ext E52).other W55 (by omega : (od : Nat) ≠ a1)).other W57 (by omega : (od : Nat) ≠ a1)).ext E61).other W64 (by omega : (od : Nat) ≠ a1)).ext E68).other W71 (by omega : (od : Nat) ≠ a1)).ext E75).other W78 (by omega : (od : Nat) ≠ a1)).ext E82).other W85 (by omega : (od : Nat) ≠ a1)).ext E89).other W92 (by omega : (od : Nat) ≠ a1))
  have f97 := (((((((((((((((((((((f22.ext E24).other W27 (by omega : (mc : Nat) ≠ a1)).ext E31).other W34 (by omega : (mc : Nat) ≠ a1)).ext E38).other W41 (by omega : (mc : Nat) ≠ a1)).ext E45).other W48 (by omega : (mc : Nat) ≠ a1)).ext E52).other W55 (by omega : (mc : Nat) ≠ a1)).other W57 (by omega : (mc : Nat) ≠ a1)).ext E61).other W64 (by omega : (mc : Nat) ≠ a1)).ext E68).other W71 (by omega : (mc : Nat) ≠ a1)).ext E75).other W78 (by omega : (mc : Nat) ≠ a1)).ext E82).other W85 (by omega : (mc : Nat) ≠ a1)).ext E89).other W92 (by omega : (mc : Nat) ≠ a1))
  have f98 := (((((((((((((((((((f29.ext E31).other W34 (by omega : (md : Nat) ≠ a1)).ext E38).other W41 (by omega : (md : Nat) ≠ a1)).ext E45).other W48 (by omega : (md : Nat) ≠ a1)).ext E52).other W55 (by omega : (md : Nat) ≠ a1)).other W57 (by omega : (md : Nat) ≠ a1)).ext E61).other W64 (by omega : (md : Nat) ≠ a1)).ext E68).other W71 (by omega : (md : Nat) ≠ a1)).ext E75).other W78 (by omega : (md : Nat) ≠ a1)).ext E82).other W85 (by omega : (md : Nat) ≠ a1)).ext E89).other W92 (by omega : (md : Nat) ≠ a1))
  have f99 := (((((((((((((((((f36.ext E38).other W41 (by omega : (sr : Nat) ≠ a1)).ext E45).other W48 (by omega : (sr : Nat) ≠ a1)).ext E52).other W55 (by omega : (sr : Nat) ≠ a1)).other W57 (by omega : (sr : Nat) ≠ a1)).ext E61).other W64 (by omega : (sr : Nat) ≠ a1)).ext E68).other W71 (by omega : (sr : Nat) ≠ a1)).ext E75).other W78 (by omega : (sr : Nat) ≠ a1)).ext E82).other W85 (by omega : (sr : Nat) ≠ a1)).ext E89).other W92 (by omega : (sr : Nat) ≠ a1))
  have f100 := (((((((((((((((f43.ext E45).other W48 (by omega : (sp : Nat) ≠ a1)).ext E52).other W55 (by omega : (sp : Nat) ≠ a1)).other W57 (by omega : (sp : Nat) ≠ a1)).ext E61).other W64 (by omega : (sp : Nat) ≠ a1)).ext E68).other W71 (by omega : (sp : Nat) ≠ a1)).ext E75).other W78 (by omega : (sp : Nat) ≠ a1)).ext E82).other W85 (by omega : (sp : Nat) ≠ a1)).ext E89).other W92 (by omega : (sp : Nat) ≠ a1))
  have f101 := (((((((((((((f50.ext E52).other W55 (by omega : (sw : Nat) ≠ a1)).other W57 (by omega : (sw : Nat) ≠ a1)).ext E61).other W64 (by omega : (sw : Nat) ≠ a1)).ext E68).other W71 (by omega : (sw : Nat) ≠ a1)).ext E75).other W78 (by omega : (sw : Nat) ≠ a1)).ext E82).other W85 (by omega : (sw : Nat) ≠ a1)).ext E89).other W92 (by omega : (sw : Nat) ≠ a1))
  have f102 := ((((((((((f59.ext E61).other W64 (by omega : (ss : Nat) ≠ a1)).ext E68).other W71 (by omega : (ss : Nat) ≠ a1)).ext E75).other W78 (by omega : (ss : Nat) ≠ a1)).ext E82).other W85 (by omega : (ss : Nat) ≠ a1)).ext E89).other W92 (by omega : (ss : Nat) ≠ a1))
  have f103 := ((((((((f66.ext E68).other W71 (by omega : (co : Nat) ≠ a1)).ext E75).other W78 (by omega : (co : Nat) ≠ a1)).ext E82).other W85 (by omega : (co : Nat) ≠ a1)).ext E89).other W92 (by omega : (co : Nat) ≠ a1))
  have f104 := ((((((f73.ext E75).other W78 (by omega : (cf : Nat) ≠ a1)).ext E82).other W85 (by omega : (cf : Nat) ≠ a1)).ext E89).other W92 (by omega : (cf : Nat) ≠ a1))
  have f105 := ((((f80.ext E82).other W85 (by omega : (le : Nat) ≠ a1)).ext E89).other W92 (by omega : (le : Nat) ≠ a1))
  have f106 := ((f87.ext E89).other W92 (by omega : (re : Nat) ≠ a1))
  have f107 := (f90.other W92 (by omega : (rc : Nat) ≠ a1))
  obtain ⟨fs, hr, hrun, hended, hW, hsame⟩ := X92.leave (v := none) (fun _ => rfl)
  refine ⟨_, _, pre0 _ ?_, hrun, hended, _, _, rfl, ?_, ⟨_, rfl⟩, hW, hsame.mono (by decide) (by decide)⟩
  · rw [← hL1]
    show own_S p e below m s₁ 0 L1 [] _
    refine waloadN X0 hx hby k0_0 L1_0 rfl ?_
    refine st2 _ ?_
    refine waloadN X2 hx hby k0_4 L1_0 rfl ?_
    refine XS.bipush X2.here hx rfl (hb hby k0_5) ?_
    show own_S p e below m T2 7 L1 [(.int 16), (.ref a1)] _
    refine st3 _ ?_
    refine st6 _ ?_
    refine waloadN X6 hx hby k0_12 L1_0 rfl ?_
    refine XS.bipush X6.here hx rfl (hb hby k0_13) ?_
    show own_S p e below m T6 15 L1 [(.int 16), (.ref a1)] _
    refine st10 _ ?_
    refine st13 _ ?_
    refine waloadN X13 hx hby k0_20 L1_0 rfl ?_
    refine XS.bipush X13.here hx rfl (hb hby k0_21) ?_
    show own_S p e below m T13 23 L1 [(.int 16), (.ref a1)] _
    refine st17 _ ?_
    refine st20 _ ?_
    refine waloadN X20 hx hby k0_28 L1_0 rfl ?_
    refine XS.bipush X20.here hx rfl (hb hby k0_29) ?_
    show own_S p e below m T20 31 L1 [(.int 16), (.ref a1)] _
    refine st24 _ ?_
    refine st27 _ ?_
    refine waloadN X27 hx hby k0_36 L1_0 rfl ?_
    refine XS.bipush X27.here hx rfl (hb hby k0_37) ?_
    show own_S p e below m T27 39 L1 [(.int 16), (.ref a1)] _
    refine st31 _ ?_
    refine st34 _ ?_
    refine waloadN X34 hx hby k0_44 L1_0 rfl ?_
    refine XS.bipush X34.here hx rfl (hb hby k0_45) ?_
    show own_S p e below m T34 47 L1 [(.int 16), (.ref a1)] _
    refine st38 _ ?_
    refine st41 _ ?_
    refine waloadN X41 hx hby k0_52 L1_0 rfl ?_
    refine XS.bipush X41.here hx rfl (hb hby k0_53) ?_
    show own_S p e below m T41 55 L1 [(.int 16), (.ref a1)] _
    refine st45 _ ?_
    refine st48 _ ?_
    refine waloadN X48 hx hby k0_60 L1_0 rfl ?_
    refine XS.bipush X48.here hx rfl (hb hby k0_61) ?_
    show own_S p e below m T48 63 L1 [(.int 16), (.ref a1)] _
    refine st52 _ ?_
    refine st55 _ ?_
    refine waloadN X55 hx hby k0_68 L1_0 rfl ?_
    refine wiloadN X55 hx hby k0_69 L1_1 ?_
    show own_S p e below m T55 70 L1 [(.int 3), (.ref a1)] _
    refine st57 _ ?_
    refine waloadN X57 hx hby k0_73 L1_0 rfl ?_
    refine wiloadN X57 hx hby k0_74 L1_1 ?_
    refine st61 _ ?_
    show own_S p e below m T61 78 L1 [(.ref co), (.ref a1)] _
    refine st64 _ ?_
    refine waloadN X64 hx hby k0_81 L1_0 rfl ?_
    refine wiloadN X64 hx hby k0_82 L1_1 ?_
    refine st68 _ ?_
    show own_S p e below m T68 86 L1 [(.ref cf), (.ref a1)] _
    refine st71 _ ?_
    refine waloadN X71 hx hby k0_89 L1_0 rfl ?_
    refine wiloadN X71 hx hby k0_90 L1_1 ?_
    refine st75 _ ?_
    show own_S p e below m T75 93 L1 [(.ref le), (.ref a1)] _
    refine st78 _ ?_
    refine waloadN X78 hx hby k0_96 L1_0 rfl ?_
    refine wiloadN X78 hx hby k0_97 L1_1 ?_
    refine st82 _ ?_
    show own_S p e below m T82 101 L1 [(.ref re), (.ref a1)] _
    refine st85 _ ?_
    refine waloadN X85 hx hby k0_104 L1_0 rfl ?_
    refine wiloadN X85 hx hby k0_105 L1_1 ?_
    refine st89 _ ?_
    show own_S p e below m T89 108 L1 [(.ref rc), (.ref a1)] _
    refine st92 _ ?_
    exact X92.returnOut hx Bd.returns (hb hby k0_111) hr
  · show Q1 Z a1 h0 n0 _ T92.heap _
    rw [e92]
    exact ⟨oc, od, mc, md, sr, sp, sw, ss, co, cf, le, re, rc, k3, k10, k17, k24, k31, k38, k45, k52, k61, k68, k75, k82, k89, rfl, N92, f94, f93, f95, f96, f97, f98, f99, f100, f101, f102, f103, f104, f105, f106, f107, ⟨O61, O68, O82⟩, sz_h0_oc, lt_oc_od, lt_od_mc, lt_mc_md, lt_md_sr, lt_sr_sp, lt_sp_sw, lt_sw_ss, lt_ss_co, lt_co_cf, lt_cf_le, lt_le_re, lt_re_rc⟩
theorem ef_2a (m : MethodId) (x0 : Addr) (x1 : Int32) (x2 : UInt64) : entryFrame m #[(.ref x0), (.int x1), (.double x2)] 4 = mkF m 0 #[.val (.ref x0), .val (.int x1), .val (.double x2), .second] [] := by first | (simp [entryFrame, mkF, argsToLocals, Value.category]; done) | rfl
theorem pn_2a : plainName "com/example/odds2/odds2/engine/Elimination" = true := by first | (simp [plainName, overriddenIn]; done) | decide +kernel
def Q2a (Z : State) (a1 oc od mc md sr sp sw ss co cf le re rc : Nat) (k_oc k_od : ClassId) (r : Int32) (en wk : Int64) (st x : Int32) (y : UInt64) (c0 c1 : Int32) (d0 d1 : UInt64) (h0 : Heap) (n0 : Nat) (v : Option Value) (h : Heap) (L : List Loc) : Prop := v = none ∧ Fr n0 L ∧ Keep h0 h [a1, oc, od] ∧ own_E Z h a1 oc od mc md sr sp sw ss co cf le re rc r en wk (1 : Int32) st ∧ Arv Z h oc k_oc .int 16 [(.int x), (.int c1)] (.int 0) ∧ Arv Z h od k_od .double 16 [(.double y), (.double d1)] (.double 0)
set_option maxRecDepth 65536 in
set_option maxHeartbeats 40000000 in
theorem rm2a (l : Launch) (Z : State) (a0 : Array Value) (hw : ∀ d ∈ tables_1, d.before a0 Z = true) (ws : List Jvm.Cond) (a1 oc od mc md sr sp sw ss co cf le re rc : Nat) (k_oc k_od : ClassId) (r : Int32) (en wk : Int64) (st x : Int32) (y : UInt64) (c0 c1 : Int32) (d0 d1 : UInt64) (h0 : Heap) (n0 : Nat) (Z0 : n0 ≤ h0.size) (O_a : own_E Z h0 a1 oc od mc md sr sp sw ss co cf le re rc r en wk (0 : Int32) st) (V_oc : Arv Z h0 oc k_oc .int 16 [(.int c0), (.int c1)] (.int 0)) (V_od : Arv Z h0 od k_od .double 16 [(.double d0), (.double d1)] (.double 0)) (ord : own_ord a1 oc od mc md sr sp sw ss co cf le re rc) (g_a : n0 ≤ a1) :
    MetFree l (⟨"com/example/odds2/odds2/engine/Elimination", "add", "(ID)V"⟩ : MethodName) (head1 (Jvm.Cond.code (⟨"com/example/odds2/odds2/engine/Elimination", "add", "(ID)V"⟩ : MethodName) prog_14_method_2_code 4 none :: ws) ({ frames := 0, cells := 0, slots := 0, locals := 0 } : Room)) (fun a U => a = #[(.ref a1), (.int x), (.double y)] ∧ Z.Warmed39 U.vm ∧ U.heap = h0) (fun _ _ _ _ _ => True) (fun _ U o U' => ∃ v L, o = .returned v ∧ Q2a Z a1 oc od mc md sr sp sw ss co cf le re rc k_oc k_od r en wk st x y c0 c1 d0 d1 h0 n0 v U'.heap L ∧ FrameEnd U o U' L ({ frames := 0, cells := 0, slots := 0, locals := 0 } : Room).cells ({ frames := 0, cells := 0, slots := 0, locals := 0 } : Room).slots) := by
  refine MetFree.of_bodySF (plainFor_of_name pn_2a) hisR ?_
  intro p e s m args below meth c s₁ Bd hml0 hP hK
  obtain ⟨rfl, hZ, hh⟩ := hP
  have hx := Bd.exec
  have hby := Bd.bytes
  have hml : c.maxLocals = 4 := hml0
  have hown : s.vm.findClass "com/example/odds2/odds2/engine/Elimination" = some m.cls := findClass_of_methodNamed Bd.named
  have hnm := (name_of_methodNamed Bd.named Bd.method).1
  have X0 : Stand p l e ({ frames := 0, cells := 0, slots := 0, locals := 0 } : Room) s m #[(.ref a1), (.int x), (.double y)] below meth c s₁ [] 0 0 := Stand.of_body Bd
  have e0 : s₁.heap = h0 := by rw [← hh, Bd.state]; rfl
  have N0 := Fr.nil n0
  have pre0 : ∀ t, Steps p.tables e below (s₁.setTop (mkF m 0 #[.val (.ref a1), .val (.int x), .val (.double y), .second] [])) t → Steps p.tables e below (s₁.setTop (entryFrame m #[(.ref a1), (.int x), (.double y)] 4)) t := fun t k => castTop (ef_2a m a1 x y) k
  have hl := own_laid_of hw
  obtain ⟨or0, or1, or2, or3, or4, or5, or6, or7, or8, or9, or10, or11, or12⟩ := id ord
  obtain ⟨L108, hL108⟩ := own_nm #[.val (.ref a1), .val (.int x), .val (.double y), .second]
  have L108_0 := own_ld hL108 0 rfl
  obtain ⟨T109, X109, e109, st109⟩ := wget X0 hx hby hZ hown (hw _ tm52) e0 (O_a.at 11) L108 [] k1_1
  obtain ⟨T110, X110, e110, st110⟩ := wget X109 hx hby hZ hown (hw _ tm14) e109 (O_a.at 9) L108 [(.int 0)] k1_5
  obtain ⟨cl111, Ar111, -, S111, M111, -, -⟩ := id V_oc
  obtain ⟨T112, X112, e112, st112⟩ := wget X110 hx hby hZ hown (hw _ tm14) e110 (O_a.at 9) L108 [] k1_47
  obtain ⟨T113, X113, e113, st113⟩ := wget X112 hx hby hZ hown (hw _ tm52) e112 (O_a.at 11) L108 [(.ref oc)] k1_51
  have L108_1 := own_ld hL108 1 rfl
  obtain ⟨T115, h115, X115, e115, W115, f114, N115, st115⟩ := wiastore X113 hx hby hZ e113 N0 V_oc (by omega : n0 ≤ (oc : Nat)) (0 : Int32) x 0 rfl (by decide) (by decide) (Nat.le_of_ble_eq_true rfl) L108 [] k1_55
  have f116 := (O_a.other W115 (by omega : (a1 : Nat) ≠ oc))
  obtain ⟨T117, X117, e117, st117⟩ := wget X115 hx hby hZ hown (hw _ tm17) e115 (f116.at 10) L108 [] k1_57
  obtain ⟨T118, X118, e118, st118⟩ := wget X117 hx hby hZ hown (hw _ tm52) e117 (f116.at 11) L108 [(.ref od)] k1_61
  have L108_2 := own_ld hL108 2 rfl
  have f119 := (V_od.other W115 (by omega : (od : Nat) ≠ oc))
  obtain ⟨T121, h121, X121, e121, W121, f120, N121, st121⟩ := wdastore X118 hx hby hZ e118 N115 f119 (by omega : n0 ≤ (od : Nat)) (0 : Int32) y 0 rfl (by decide) (by decide) (Nat.le_of_ble_eq_true rfl) L108 [] k1_65
  have f122 := (f116.other W121 (by omega : (a1 : Nat) ≠ od))
  obtain ⟨T123, X123, e123, st123⟩ := wget X121 hx hby hZ hown (hw _ tm52) e121 (f122.at 11) L108 [(.ref a1)] k1_68
  obtain ⟨T124, h124, X124, e124, W124, st124⟩ := putF X123 hx hZ hown (host := "") (Or.inl (hw _ tm52)) Via.refl e123 (f122.2.2 11 (by decide)) f122.1 (Or.inl (hw _ tm53)) (hw _ tm6) (ty := .int) (by decide) rfl rfl (g := (mkF m 73 L108 [(.int 1), (.ref a1)])) rfl rfl (hb hby k1_73)
  have N124 := Fr.snoc X124 N121 (by omega : n0 ≤ (a1 : Nat))
  have f125 : own_E Z h124 a1 oc od mc md sr sp sw ss co cf le re rc r en wk (1 : Int32) st := own_put f122 hl (i := 11) (by decide) W124
  have f126 := ((((Keep.refl h0 [a1, oc, od]).wr W115 (Or.inl (List.mem_of_getElem? (i := 1) rfl))).wr W121 (Or.inl (List.mem_of_getElem? (i := 2) rfl))).wr W124 (Or.inl (List.mem_of_getElem? (i := 0) rfl)))
  have f127 := ((f114.other W121 (by omega : (oc : Nat) ≠ od)).other W124 (by omega : (oc : Nat) ≠ a1))
  have f128 := (f120.other W124 (by omega : (od : Nat) ≠ a1))
  obtain ⟨fs, hr, hrun, hended, hW, hsame⟩ := X124.leave (v := none) (fun _ => rfl)
  refine ⟨_, _, pre0 _ ?_, hrun, hended, _, _, rfl, ?_, ⟨_, rfl⟩, hW, hsame.mono (by decide) (by decide)⟩
  · rw [← hL108]
    show own_S p e below m s₁ 0 L108 [] _
    refine waloadN X0 hx hby k1_0 L108_0 rfl ?_
    refine st109 _ ?_
    refine waloadN X109 hx hby k1_4 L108_0 rfl ?_
    refine st110 _ ?_
    show own_S p e below m T110 8 L108 [(.ref oc), (.int 0)] _
    refine X110.arraylength hx (by rw [e110]; exact Ar111.1) (State.isArrayOf_alike hZ.alike Ar111.2.1) (g := (mkF m 8 L108 [(.ref oc), (.int 0)])) rfl rfl (hb hby k1_8) _ ?_
    rw [len_of S111 M111]
    show own_S p e below m T110 9 L108 [(.int 16), (.int 0)] _
    refine wicmpYes X110 hx hby k1_9 9 46 rfl (by decide) (by decide) (by decide) ?_
    refine waloadN X110 hx hby k1_46 L108_0 rfl ?_
    refine st112 _ ?_
    refine waloadN X112 hx hby k1_50 L108_0 rfl ?_
    show own_S p e below m T112 51 L108 [(.ref a1), (.ref oc)] _
    refine st113 _ ?_
    refine wiloadN X113 hx hby k1_54 L108_1 ?_
    refine st115 _ ?_
    refine waloadN X115 hx hby k1_56 L108_0 rfl ?_
    show own_S p e below m T115 57 L108 [(.ref a1)] _
    refine st117 _ ?_
    refine waloadN X117 hx hby k1_60 L108_0 rfl ?_
    refine st118 _ ?_
    refine XS.dloadN X118.here hx rfl (hb hby k1_64) L108_2 ?_
    show own_S p e below m T118 65 L108 [(.double y), (.int 0), (.ref od)] _
    refine st121 _ ?_
    refine waloadN X121 hx hby k1_66 L108_0 rfl ?_
    refine XS.dup X121.here hx rfl (hb hby k1_67) rfl rfl ?_
    refine st123 _ ?_
    show own_S p e below m T123 71 L108 [(.int 0), (.ref a1)] _
    refine wiconst X123 hx hby k1_71 ?_
    refine XS.iadd X123.here hx rfl (hb hby k1_72) rfl ?_
    refine st124 _ ?_
    exact X124.returnOut hx Bd.returns (hb hby k1_76) hr
  · show Q2a Z a1 oc od mc md sr sp sw ss co cf le re rc k_oc k_od r en wk st x y c0 c1 d0 d1 h0 n0 _ T124.heap _
    rw [e124]
    exact ⟨rfl, N124, f126, f125, f127, f128⟩
theorem ef_2b (m : MethodId) (x0 : Addr) (x1 : Int32) (x2 : UInt64) : entryFrame m #[(.ref x0), (.int x1), (.double x2)] 4 = mkF m 0 #[.val (.ref x0), .val (.int x1), .val (.double x2), .second] [] := by first | (simp [entryFrame, mkF, argsToLocals, Value.category]; done) | rfl
theorem pn_2b : plainName "com/example/odds2/odds2/engine/Elimination" = true := by first | (simp [plainName, overriddenIn]; done) | decide +kernel
def Q2b (Z : State) (a1 oc od mc md sr sp sw ss co cf le re rc : Nat) (k_oc k_od : ClassId) (r : Int32) (en wk : Int64) (st x : Int32) (y : UInt64) (c0 c1 : Int32) (d0 d1 : UInt64) (h0 : Heap) (n0 : Nat) (v : Option Value) (h : Heap) (L : List Loc) : Prop := v = none ∧ Fr n0 L ∧ Keep h0 h [a1, oc, od] ∧ own_E Z h a1 oc od mc md sr sp sw ss co cf le re rc r en wk (2 : Int32) st ∧ Arv Z h oc k_oc .int 16 [(.int c0), (.int x)] (.int 0) ∧ Arv Z h od k_od .double 16 [(.double d0), (.double y)] (.double 0)
set_option maxRecDepth 65536 in
set_option maxHeartbeats 40000000 in
theorem rm2b (l : Launch) (Z : State) (a0 : Array Value) (hw : ∀ d ∈ tables_1, d.before a0 Z = true) (ws : List Jvm.Cond) (a1 oc od mc md sr sp sw ss co cf le re rc : Nat) (k_oc k_od : ClassId) (r : Int32) (en wk : Int64) (st x : Int32) (y : UInt64) (c0 c1 : Int32) (d0 d1 : UInt64) (h0 : Heap) (n0 : Nat) (Z0 : n0 ≤ h0.size) (O_a : own_E Z h0 a1 oc od mc md sr sp sw ss co cf le re rc r en wk (1 : Int32) st) (V_oc : Arv Z h0 oc k_oc .int 16 [(.int c0), (.int c1)] (.int 0)) (V_od : Arv Z h0 od k_od .double 16 [(.double d0), (.double d1)] (.double 0)) (ord : own_ord a1 oc od mc md sr sp sw ss co cf le re rc) (g_a : n0 ≤ a1) :
    MetFree l (⟨"com/example/odds2/odds2/engine/Elimination", "add", "(ID)V"⟩ : MethodName) (head1 (Jvm.Cond.code (⟨"com/example/odds2/odds2/engine/Elimination", "add", "(ID)V"⟩ : MethodName) prog_14_method_2_code 4 none :: ws) ({ frames := 0, cells := 0, slots := 0, locals := 0 } : Room)) (fun a U => a = #[(.ref a1), (.int x), (.double y)] ∧ Z.Warmed39 U.vm ∧ U.heap = h0) (fun _ _ _ _ _ => True) (fun _ U o U' => ∃ v L, o = .returned v ∧ Q2b Z a1 oc od mc md sr sp sw ss co cf le re rc k_oc k_od r en wk st x y c0 c1 d0 d1 h0 n0 v U'.heap L ∧ FrameEnd U o U' L ({ frames := 0, cells := 0, slots := 0, locals := 0 } : Room).cells ({ frames := 0, cells := 0, slots := 0, locals := 0 } : Room).slots) := by
  refine MetFree.of_bodySF (plainFor_of_name pn_2b) hisR ?_
  intro p e s m args below meth c s₁ Bd hml0 hP hK
  obtain ⟨rfl, hZ, hh⟩ := hP
  have hx := Bd.exec
  have hby := Bd.bytes
  have hml : c.maxLocals = 4 := hml0
  have hown : s.vm.findClass "com/example/odds2/odds2/engine/Elimination" = some m.cls := findClass_of_methodNamed Bd.named
  have hnm := (name_of_methodNamed Bd.named Bd.method).1
  have X0 : Stand p l e ({ frames := 0, cells := 0, slots := 0, locals := 0 } : Room) s m #[(.ref a1), (.int x), (.double y)] below meth c s₁ [] 0 0 := Stand.of_body Bd
  have e0 : s₁.heap = h0 := by rw [← hh, Bd.state]; rfl
  have N0 := Fr.nil n0
  have pre0 : ∀ t, Steps p.tables e below (s₁.setTop (mkF m 0 #[.val (.ref a1), .val (.int x), .val (.double y), .second] [])) t → Steps p.tables e below (s₁.setTop (entryFrame m #[(.ref a1), (.int x), (.double y)] 4)) t := fun t k => castTop (ef_2b m a1 x y) k
  have hl := own_laid_of hw
  obtain ⟨or0, or1, or2, or3, or4, or5, or6, or7, or8, or9, or10, or11, or12⟩ := id ord
  obtain ⟨L129, hL129⟩ := own_nm #[.val (.ref a1), .val (.int x), .val (.double y), .second]
  have L129_0 := own_ld hL129 0 rfl
  obtain ⟨T130, X130, e130, st130⟩ := wget X0 hx hby hZ hown (hw _ tm52) e0 (O_a.at 11) L129 [] k1_1
  obtain ⟨T131, X131, e131, st131⟩ := wget X130 hx hby hZ hown (hw _ tm14) e130 (O_a.at 9) L129 [(.int 1)] k1_5
  obtain ⟨cl132, Ar132, -, S132, M132, -, -⟩ := id V_oc
  obtain ⟨T133, X133, e133, st133⟩ := wget X131 hx hby hZ hown (hw _ tm14) e131 (O_a.at 9) L129 [] k1_47
  obtain ⟨T134, X134, e134, st134⟩ := wget X133 hx hby hZ hown (hw _ tm52) e133 (O_a.at 11) L129 [(.ref oc)] k1_51
  have L129_1 := own_ld hL129 1 rfl
  obtain ⟨T136, h136, X136, e136, W136, f135, N136, st136⟩ := wiastore X134 hx hby hZ e134 N0 V_oc (by omega : n0 ≤ (oc : Nat)) (1 : Int32) x 1 rfl (by decide) (by decide) (Nat.le_of_ble_eq_true rfl) L129 [] k1_55
  have f137 := (O_a.other W136 (by omega : (a1 : Nat) ≠ oc))
  obtain ⟨T138, X138, e138, st138⟩ := wget X136 hx hby hZ hown (hw _ tm17) e136 (f137.at 10) L129 [] k1_57
  obtain ⟨T139, X139, e139, st139⟩ := wget X138 hx hby hZ hown (hw _ tm52) e138 (f137.at 11) L129 [(.ref od)] k1_61
  have L129_2 := own_ld hL129 2 rfl
  have f140 := (V_od.other W136 (by omega : (od : Nat) ≠ oc))
  obtain ⟨T142, h142, X142, e142, W142, f141, N142, st142⟩ := wdastore X139 hx hby hZ e139 N136 f140 (by omega : n0 ≤ (od : Nat)) (1 : Int32) y 1 rfl (by decide) (by decide) (Nat.le_of_ble_eq_true rfl) L129 [] k1_65
  have f143 := (f137.other W142 (by omega : (a1 : Nat) ≠ od))
  obtain ⟨T144, X144, e144, st144⟩ := wget X142 hx hby hZ hown (hw _ tm52) e142 (f143.at 11) L129 [(.ref a1)] k1_68
  obtain ⟨T145, h145, X145, e145, W145, st145⟩ := putF X144 hx hZ hown (host := "") (Or.inl (hw _ tm52)) Via.refl e144 (f143.2.2 11 (by decide)) f143.1 (Or.inl (hw _ tm53)) (hw _ tm6) (ty := .int) (by decide) rfl rfl (g := (mkF m 73 L129 [(.int 2), (.ref a1)])) rfl rfl (hb hby k1_73)
  have N145 := Fr.snoc X145 N142 (by omega : n0 ≤ (a1 : Nat))
  have f146 : own_E Z h145 a1 oc od mc md sr sp sw ss co cf le re rc r en wk (2 : Int32) st := own_put f143 hl (i := 11) (by decide) W145
  have f147 := ((((Keep.refl h0 [a1, oc, od]).wr W136 (Or.inl (List.mem_of_getElem? (i := 1) rfl))).wr W142 (Or.inl (List.mem_of_getElem? (i := 2) rfl))).wr W145 (Or.inl (List.mem_of_getElem? (i := 0) rfl)))
  have f148 := ((f135.other W142 (by omega : (oc : Nat) ≠ od)).other W145 (by omega : (oc : Nat) ≠ a1))
  have f149 := (f141.other W145 (by omega : (od : Nat) ≠ a1))
  obtain ⟨fs, hr, hrun, hended, hW, hsame⟩ := X145.leave (v := none) (fun _ => rfl)
  refine ⟨_, _, pre0 _ ?_, hrun, hended, _, _, rfl, ?_, ⟨_, rfl⟩, hW, hsame.mono (by decide) (by decide)⟩
  · rw [← hL129]
    show own_S p e below m s₁ 0 L129 [] _
    refine waloadN X0 hx hby k1_0 L129_0 rfl ?_
    refine st130 _ ?_
    refine waloadN X130 hx hby k1_4 L129_0 rfl ?_
    refine st131 _ ?_
    show own_S p e below m T131 8 L129 [(.ref oc), (.int 1)] _
    refine X131.arraylength hx (by rw [e131]; exact Ar132.1) (State.isArrayOf_alike hZ.alike Ar132.2.1) (g := (mkF m 8 L129 [(.ref oc), (.int 1)])) rfl rfl (hb hby k1_8) _ ?_
    rw [len_of S132 M132]
    show own_S p e below m T131 9 L129 [(.int 16), (.int 1)] _
    refine wicmpYes X131 hx hby k1_9 9 46 rfl (by decide) (by decide) (by decide) ?_
    refine waloadN X131 hx hby k1_46 L129_0 rfl ?_
    refine st133 _ ?_
    refine waloadN X133 hx hby k1_50 L129_0 rfl ?_
    show own_S p e below m T133 51 L129 [(.ref a1), (.ref oc)] _
    refine st134 _ ?_
    refine wiloadN X134 hx hby k1_54 L129_1 ?_
    refine st136 _ ?_
    refine waloadN X136 hx hby k1_56 L129_0 rfl ?_
    show own_S p e below m T136 57 L129 [(.ref a1)] _
    refine st138 _ ?_
    refine waloadN X138 hx hby k1_60 L129_0 rfl ?_
    refine st139 _ ?_
    refine XS.dloadN X139.here hx rfl (hb hby k1_64) L129_2 ?_
    show own_S p e below m T139 65 L129 [(.double y), (.int 1), (.ref od)] _
    refine st142 _ ?_
    refine waloadN X142 hx hby k1_66 L129_0 rfl ?_
    refine XS.dup X142.here hx rfl (hb hby k1_67) rfl rfl ?_
    refine st144 _ ?_
    show own_S p e below m T144 71 L129 [(.int 1), (.ref a1)] _
    refine wiconst X144 hx hby k1_71 ?_
    refine XS.iadd X144.here hx rfl (hb hby k1_72) rfl ?_
    refine st145 _ ?_
    exact X145.returnOut hx Bd.returns (hb hby k1_76) hr
  · show Q2b Z a1 oc od mc md sr sp sw ss co cf le re rc k_oc k_od r en wk st x y c0 c1 d0 d1 h0 n0 _ T145.heap _
    rw [e145]
    exact ⟨rfl, N145, f147, f146, f148, f149⟩
theorem ef_s3 (m : MethodId) (x0 : Addr) (x1 : Int32) (x2 : Int32) : entryFrame m #[(.ref x0), (.int x1), (.int x2)] 7 = mkF m 0 #[.val (.ref x0), .val (.int x1), .val (.int x2), .unset, .unset, .unset, .unset] [] := by first | (simp [entryFrame, mkF, argsToLocals, Value.category]; done) | rfl
theorem pn_s3 : plainName "java/util/DualPivotQuicksort" = true := by first | (simp [plainName, overriddenIn]; done) | decide +kernel
def Qs3 (Z : State) (sb : Nat) (ks : ClassId) (n : Int32) (q0 q1 : Int64) (h0 : Heap) (n0 : Nat) (v : Option Value) (h : Heap) (L : List Loc) : Prop := v = none ∧ Fr n0 L ∧ h = h0
set_option maxRecDepth 65536 in
set_option maxHeartbeats 40000000 in
theorem rms3 (l : Launch) (Z : State) (a0 : Array Value) (hw : ∀ d ∈ tables_1, d.before a0 Z = true) (ws : List Jvm.Cond) (sb : Nat) (ks : ClassId) (n : Int32) (q0 q1 : Int64) (h0 : Heap) (n0 : Nat) (Z0 : n0 ≤ h0.size) (V_s : Arv Z h0 sb ks .long n [(.long q0), (.long q1)] (.long 0)) (hn : own_3 n) (hle : n = 2 → ¬ (lcmpW q1 q0 < (0 : Int32))) :
    MetFree l (⟨"java/util/DualPivotQuicksort", "insertionSort", "([JII)V"⟩ : MethodName) (head1 (Jvm.Cond.code (⟨"java/util/DualPivotQuicksort", "insertionSort", "([JII)V"⟩ : MethodName) jdk_2529_method_15_code 7 none :: ws) ({ frames := 0, cells := 0, slots := 0, locals := 0 } : Room)) (fun a U => a = #[(.ref sb), (.int 0), (.int n)] ∧ Z.Warmed39 U.vm ∧ U.heap = h0) (fun _ _ _ _ _ => True) (fun _ U o U' => ∃ v L, o = .returned v ∧ Qs3 Z sb ks n q0 q1 h0 n0 v U'.heap L ∧ FrameEnd U o U' L ({ frames := 0, cells := 0, slots := 0, locals := 0 } : Room).cells ({ frames := 0, cells := 0, slots := 0, locals := 0 } : Room).slots) := by
  refine MetFree.of_bodySF (plainFor_of_name pn_s3) hisR ?_
  intro p e s m args below meth c s₁ Bd hml0 hP hK
  obtain ⟨rfl, hZ, hh⟩ := hP
  have hx := Bd.exec
  have hby := Bd.bytes
  have hml : c.maxLocals = 7 := hml0
  have hown : s.vm.findClass "java/util/DualPivotQuicksort" = some m.cls := findClass_of_methodNamed Bd.named
  have hnm := (name_of_methodNamed Bd.named Bd.method).1
  have X0 : Stand p l e ({ frames := 0, cells := 0, slots := 0, locals := 0 } : Room) s m #[(.ref sb), (.int 0), (.int n)] below meth c s₁ [] 0 0 := Stand.of_body Bd
  have e0 : s₁.heap = h0 := by rw [← hh, Bd.state]; rfl
  have N0 := Fr.nil n0
  have pre0 : ∀ t, Steps p.tables e below (s₁.setTop (mkF m 0 #[.val (.ref sb), .val (.int 0), .val (.int n), .unset, .unset, .unset, .unset] [])) t → Steps p.tables e below (s₁.setTop (entryFrame m #[(.ref sb), (.int 0), (.int n)] 7)) t := fun t k => castTop (ef_s3 m sb (0 : Int32) n) k
  rcases hn with rfl | rfl | rfl
  · obtain ⟨L150, hL150⟩ := own_nm #[.val (.ref sb), .val (.int 0), .val (.int 0), .unset, .unset, .unset, .unset]
    have L150_1 := own_ld hL150 1 rfl
    obtain ⟨L151, hL151⟩ := own_nm #[.val (.ref sb), .val (.int 0), .val (.int 0), .unset, .val (.int 0), .unset, .unset]
    have L151_4 := own_ld hL151 4 rfl
    obtain ⟨L152, hL152⟩ := own_nm #[.val (.ref sb), .val (.int 0), .val (.int 0), .unset, .val (.int 1), .unset, .unset]
    have L152_4 := own_ld hL152 4 rfl
    have L152_2 := own_ld hL152 2 rfl
    obtain ⟨fs, hr, hrun, hended, hW, hsame⟩ := X0.leave (v := none) (fun _ => rfl)
    refine ⟨_, _, pre0 _ ?_, hrun, hended, _, _, rfl, ?_, ⟨_, rfl⟩, hW, hsame.mono (by decide) (by decide)⟩
    · rw [← hL150]
      show own_S p e below m s₁ 0 L150 [] _
      refine wiloadN X0 hx hby k2_0 L150_1 ?_
      refine wistore X0 hx hby k2_1 hL150 hL151 rfl ?_
      refine wiinc X0 hx hby k2_3 L151_4 hL151 hL152 rfl ?_
      refine wiload X0 hx hby k2_6 L152_4 ?_
      show own_S p e below m s₁ 8 L152 [(.int 1)] _
      refine wiloadN X0 hx hby k2_8 L152_2 ?_
      refine wicmpYes X0 hx hby k2_9 9 69 rfl (by decide) (by decide) (by decide) ?_
      exact X0.returnOut hx Bd.returns (hb hby k2_69) hr
    · show Qs3 Z sb ks (0 : Int32) q0 q1 h0 n0 _ s₁.heap _
      rw [e0]
      exact ⟨rfl, N0, rfl⟩
  · obtain ⟨L153, hL153⟩ := own_nm #[.val (.ref sb), .val (.int 0), .val (.int 1), .unset, .unset, .unset, .unset]
    have L153_1 := own_ld hL153 1 rfl
    obtain ⟨L154, hL154⟩ := own_nm #[.val (.ref sb), .val (.int 0), .val (.int 1), .unset, .val (.int 0), .unset, .unset]
    have L154_4 := own_ld hL154 4 rfl
    obtain ⟨L155, hL155⟩ := own_nm #[.val (.ref sb), .val (.int 0), .val (.int 1), .unset, .val (.int 1), .unset, .unset]
    have L155_4 := own_ld hL155 4 rfl
    have L155_2 := own_ld hL155 2 rfl
    obtain ⟨fs, hr, hrun, hended, hW, hsame⟩ := X0.leave (v := none) (fun _ => rfl)
    refine ⟨_, _, pre0 _ ?_, hrun, hended, _, _, rfl, ?_, ⟨_, rfl⟩, hW, hsame.mono (by decide) (by decide)⟩
    · rw [← hL153]
      show own_S p e below m s₁ 0 L153 [] _
      refine wiloadN X0 hx hby k2_0 L153_1 ?_
      refine wistore X0 hx hby k2_1 hL153 hL154 rfl ?_
      refine wiinc X0 hx hby k2_3 L154_4 hL154 hL155 rfl ?_
      refine wiload X0 hx hby k2_6 L155_4 ?_
      show own_S p e below m s₁ 8 L155 [(.int 1)] _
      refine wiloadN X0 hx hby k2_8 L155_2 ?_
      refine wicmpYes X0 hx hby k2_9 9 69 rfl (by decide) (by decide) (by decide) ?_
      exact X0.returnOut hx Bd.returns (hb hby k2_69) hr
    · show Qs3 Z sb ks (1 : Int32) q0 q1 h0 n0 _ s₁.heap _
      rw [e0]
      exact ⟨rfl, N0, rfl⟩
  · obtain ⟨L156, hL156⟩ := own_nm #[.val (.ref sb), .val (.int 0), .val (.int 2), .unset, .unset, .unset, .unset]
    have L156_1 := own_ld hL156 1 rfl
    obtain ⟨L157, hL157⟩ := own_nm #[.val (.ref sb), .val (.int 0), .val (.int 2), .unset, .val (.int 0), .unset, .unset]
    have L157_4 := own_ld hL157 4 rfl
    obtain ⟨L158, hL158⟩ := own_nm #[.val (.ref sb), .val (.int 0), .val (.int 2), .unset, .val (.int 1), .unset, .unset]
    have L158_4 := own_ld hL158 4 rfl
    have L158_2 := own_ld hL158 2 rfl
    have L158_0 := own_ld hL158 0 rfl
    obtain ⟨L159, hL159⟩ := own_nm #[.val (.ref sb), .val (.int 0), .val (.int 2), .val (.int 1), .val (.int 1), .unset, .unset]
    obtain ⟨L160, hL160⟩ := own_nm #[.val (.ref sb), .val (.int 0), .val (.int 2), .val (.int 1), .val (.int 1), .val (.long q1), .second]
    have L160_5 := own_ld hL160 5 rfl
    have L160_0 := own_ld hL160 0 rfl
    have L160_3 := own_ld hL160 3 rfl
    have L160_4 := own_ld hL160 4 rfl
    obtain ⟨L161, hL161⟩ := own_nm #[.val (.ref sb), .val (.int 0), .val (.int 2), .val (.int 1), .val (.int 2), .val (.long q1), .second]
    have L161_4 := own_ld hL161 4 rfl
    have L161_2 := own_ld hL161 2 rfl
    obtain ⟨fs, hr, hrun, hended, hW, hsame⟩ := X0.leave (v := none) (fun _ => rfl)
    refine ⟨_, _, pre0 _ ?_, hrun, hended, _, _, rfl, ?_, ⟨_, rfl⟩, hW, hsame.mono (by decide) (by decide)⟩
    · rw [← hL156]
      show own_S p e below m s₁ 0 L156 [] _
      refine wiloadN X0 hx hby k2_0 L156_1 ?_
      refine wistore X0 hx hby k2_1 hL156 hL157 rfl ?_
      refine wiinc X0 hx hby k2_3 L157_4 hL157 hL158 rfl ?_
      refine wiload X0 hx hby k2_6 L158_4 ?_
      show own_S p e below m s₁ 8 L158 [(.int 1)] _
      refine wiloadN X0 hx hby k2_8 L158_2 ?_
      refine wicmpNo X0 hx hby k2_9 (by decide) ?_
      refine waloadN X0 hx hby k2_12 L158_0 rfl ?_
      refine wiload X0 hx hby k2_13 L158_4 ?_
      show own_S p e below m s₁ 15 L158 [(.int 1), (.ref sb)] _
      refine XS.dup X0.here hx rfl (hb hby k2_15) rfl rfl ?_
      refine XS.istoreN X0.here hx rfl (hb hby k2_16) rfl (l' := L159) (by rw [hL158, hL159]; rfl) ?_
      refine wlaload X0 hx hby hZ e0 V_s 1 rfl (by decide) (by decide) (v := (.long q1)) rfl k2_17 ?_
      refine XS.lstore X0.here hx rfl (hb hby k2_18) rfl (l' := L160) (by rw [hL159, hL160]; rfl) ?_
      show own_S p e below m s₁ 20 L160 [] _
      refine XS.lload X0.here hx rfl (hb hby k2_20) L160_5 ?_
      refine waloadN X0 hx hby k2_22 L160_0 rfl ?_
      refine wiloadN X0 hx hby k2_23 L160_3 ?_
      refine wiconst X0 hx hby k2_24 ?_
      show own_S p e below m s₁ 25 L160 [(.int 1), (.int 1), (.ref sb), (.long q1)] _
      refine XS.isub X0.here hx rfl (hb hby k2_25) rfl ?_
      refine wlaload X0 hx hby hZ e0 V_s 0 rfl (by decide) (by decide) (v := (.long q0)) rfl k2_26 ?_
      refine XS.lcmp X0.here hx rfl (hb hby k2_27) rfl ?_
      refine wifYes X0 hx hby k2_28 28 66 rfl ((if0 _ _).trans (flt (hle rfl)).2.1) (by decide) (by decide) ?_
      show own_S p e below m s₁ 66 L160 [] _
      refine wgoto X0 hx hby k2_66 66 3 rfl (by decide) (by decide) ?_
      refine wiinc X0 hx hby k2_3 L160_4 hL160 hL161 rfl ?_
      refine wiload X0 hx hby k2_6 L161_4 ?_
      refine wiloadN X0 hx hby k2_8 L161_2 ?_
      show own_S p e below m s₁ 9 L161 [(.int 2), (.int 2)] _
      refine wicmpYes X0 hx hby k2_9 9 69 rfl (by decide) (by decide) (by decide) ?_
      exact X0.returnOut hx Bd.returns (hb hby k2_69) hr
    · show Qs3 Z sb ks (2 : Int32) q0 q1 h0 n0 _ s₁.heap _
      rw [e0]
      exact ⟨rfl, N0, rfl⟩
theorem ef_s2 (m : MethodId) (x1 : Addr) (x2 : Int32) (x3 : Int32) (x4 : Int32) : entryFrame m #[.null, (.ref x1), (.int x2), (.int x3), (.int x4)] 25 = mkF m 0 #[.val .null, .val (.ref x1), .val (.int x2), .val (.int x3), .val (.int x4), .unset, .unset, .unset, .unset, .unset, .unset, .unset, .unset, .unset, .unset, .unset, .unset, .unset, .unset, .unset, .unset, .unset, .unset, .unset, .unset] [] := by first | (simp [entryFrame, mkF, argsToLocals, Value.category]; done) | rfl
theorem pn_s2 : plainName "java/util/DualPivotQuicksort" = true := by first | (simp [plainName, overriddenIn]; done) | decide +kernel
def Qs2 (Z : State) (sb : Nat) (ks : ClassId) (n : Int32) (q0 q1 : Int64) (h0 : Heap) (n0 : Nat) (v : Option Value) (h : Heap) (L : List Loc) : Prop := v = none ∧ Fr n0 L ∧ h = h0
set_option maxRecDepth 65536 in
set_option maxHeartbeats 40000000 in
theorem rms2 (l : Launch) (Z : State) (a0 : Array Value) (hw : ∀ d ∈ tables_1, d.before a0 Z = true) (ws : List Jvm.Cond) (sb : Nat) (ks : ClassId) (n : Int32) (q0 q1 : Int64) (h0 : Heap) (n0 : Nat) (Z0 : n0 ≤ h0.size) (V_s : Arv Z h0 sb ks .long n [(.long q0), (.long q1)] (.long 0)) (hn : own_3 n) (hle : n = 2 → ¬ (lcmpW q1 q0 < (0 : Int32))) :
    MetFree l (⟨"java/util/DualPivotQuicksort", "sort", "(Ljava/util/DualPivotQuicksort$Sorter;[JIII)V"⟩ : MethodName) (head1 (Jvm.Cond.code (⟨"java/util/DualPivotQuicksort", "sort", "(Ljava/util/DualPivotQuicksort$Sorter;[JIII)V"⟩ : MethodName) jdk_2529_method_13_code 25 none :: ws) ({ frames := 1, cells := 0, slots := 0, locals := 18 } : Room)) (fun a U => a = #[.null, (.ref sb), (.int 0), (.int 0), (.int n)] ∧ Z.Warmed39 U.vm ∧ U.heap = h0) (fun _ _ _ _ _ => True) (fun _ U o U' => ∃ v L, o = .returned v ∧ Qs2 Z sb ks n q0 q1 h0 n0 v U'.heap L ∧ FrameEnd U o U' L ({ frames := 1, cells := 0, slots := 0, locals := 18 } : Room).cells ({ frames := 1, cells := 0, slots := 0, locals := 18 } : Room).slots) := by
  refine MetFree.of_bodySF (plainFor_of_name pn_s2) hisR ?_
  intro p e s m args below meth c s₁ Bd hml0 hP hK
  obtain ⟨rfl, hZ, hh⟩ := hP
  have hx := Bd.exec
  have hby := Bd.bytes
  have hml : c.maxLocals = 25 := hml0
  have hown : s.vm.findClass "java/util/DualPivotQuicksort" = some m.cls := findClass_of_methodNamed Bd.named
  have hnm := (name_of_methodNamed Bd.named Bd.method).1
  have X0 : Stand p l e ({ frames := 1, cells := 0, slots := 0, locals := 18 } : Room) s m #[.null, (.ref sb), (.int 0), (.int 0), (.int n)] below meth c s₁ [] 0 0 := Stand.of_body Bd
  have e0 : s₁.heap = h0 := by rw [← hh, Bd.state]; rfl
  have N0 := Fr.nil n0
  have pre0 : ∀ t, Steps p.tables e below (s₁.setTop (mkF m 0 #[.val .null, .val (.ref sb), .val (.int 0), .val (.int 0), .val (.int n), .unset, .unset, .unset, .unset, .unset, .unset, .unset, .unset, .unset, .unset, .unset, .unset, .unset, .unset, .unset, .unset, .unset, .unset, .unset, .unset] [])) t → Steps p.tables e below (s₁.setTop (entryFrame m #[.null, (.ref sb), (.int 0), (.int 0), (.int n)] 25)) t := fun t k => castTop (ef_s2 m sb (0 : Int32) (0 : Int32) n) k
  obtain ⟨L162, hL162⟩ := own_nm #[.val .null, .val (.ref sb), .val (.int 0), .val (.int 0), .val (.int n), .unset, .unset, .unset, .unset, .unset, .unset, .unset, .unset, .unset, .unset, .unset, .unset, .unset, .unset, .unset, .unset, .unset, .unset, .unset, .unset]
  have L162_4 := own_ld hL162 4 rfl
  obtain ⟨L163, hL163⟩ := own_nm #[.val .null, .val (.ref sb), .val (.int 0), .val (.int 0), .val (.int n), .val (.int (n - (1 : Int32))), .unset, .unset, .unset, .unset, .unset, .unset, .unset, .unset, .unset, .unset, .unset, .unset, .unset, .unset, .unset, .unset, .unset, .unset, .unset]
  have L163_4 := own_ld hL163 4 rfl
  have L163_3 := own_ld hL163 3 rfl
  obtain ⟨L164, hL164⟩ := own_nm #[.val .null, .val (.ref sb), .val (.int 0), .val (.int 0), .val (.int n), .val (.int (n - (1 : Int32))), .val (.int (n - (0 : Int32))), .unset, .unset, .unset, .unset, .unset, .unset, .unset, .unset, .unset, .unset, .unset, .unset, .unset, .unset, .unset, .unset, .unset, .unset]
  have L164_6 := own_ld hL164 6 rfl
  have L164_2 := own_ld hL164 2 rfl
  have L164_1 := own_ld hL164 1 rfl
  have L164_3 := own_ld hL164 3 rfl
  have L164_4 := own_ld hL164 4 rfl
  obtain ⟨_, _, ⟨T165, L165, k165, n165⟩, -, X165, ⟨Lc165, hQ165, l165, y165, z165⟩, st165⟩ := Jvm.LawKit.callS X0 hx (y := (⟨"java/util/DualPivotQuicksort", "insertionSort", "([JII)V"⟩ : MethodName)) hown (mvT hZ (hw _ tm66)) (mvT hZ (hw _ tm67)) (mvT hZ (hw _ tm61)) (mvT hZ (hw _ tm68)) (by decide) (backOf (W := 0) (rms3 l Z a0 hw [] sb ks n q0 q1 h0 n0 Z0 V_s hn hle) hZ (hw _ tm68) (hw _ tm61) (by decide) (by decide)) (g := (mkF m 57 L164 [(.int n), (.int 0), (.ref sb)])) rfl (by rw [hml, hL164]; rfl) (argsL := [(.ref sb), (.int 0), (.int n)]) (rest := []) (lenOf pd_0 rfl) rfl (by show 2 * 0 + _ ≤ _; exact Nat.le_of_eq rfl) (hb hby k3_57) (fun _ _ => ⟨rfl, e0, (by decide : 0 + 0 ≤ _), (by decide : 0 + 0 ≤ _)⟩)
  dsimp only [Pt.U, Pt.locs, Pt.cells, Pt.slots] at X165 l165 y165 z165 st165 hQ165
  subst l165 y165 z165
  obtain ⟨rfl, N165q, eh165⟩ := hQ165
  have N165 := Fr.app N0 N165q
  obtain ⟨fs, hr, hrun, hended, hW, hsame⟩ := X165.leave (v := none) (fun _ => rfl)
  refine ⟨_, _, pre0 _ ?_, hrun, hended, _, _, rfl, ?_, ⟨_, rfl⟩, hW, hsame.mono (by decide) (by decide)⟩
  · rw [← hL162]
    show own_S p e below m s₁ 0 L162 [] _
    refine wiload X0 hx hby k3_0 L162_4 ?_
    refine wiconst X0 hx hby k3_2 ?_
    refine XS.isub X0.here hx rfl (hb hby k3_3) rfl ?_
    refine wistore X0 hx hby k3_4 hL162 hL163 rfl ?_
    show own_S p e below m s₁ 6 L163 [] _
    refine wiload X0 hx hby k3_6 L163_4 ?_
    refine wiloadN X0 hx hby k3_8 L163_3 ?_
    refine XS.isub X0.here hx rfl (hb hby k3_9) rfl ?_
    refine wistore X0 hx hby k3_10 hL163 hL164 rfl ?_
    show own_S p e below m s₁ 12 L164 [] _
    refine wiload X0 hx hby k3_12 L164_6 ?_
    refine XS.bipush X0.here hx rfl (hb hby k3_14) ?_
    refine wiloadN X0 hx hby k3_16 L164_2 ?_
    refine XS.iadd X0.here hx rfl (hb hby k3_17) rfl ?_
    show own_S p e below m s₁ 18 L164 [(.int 65), (.int (n - (0 : Int32)))] _
    refine wicmpNo X0 hx hby k3_18 (tlt (by rcases hn with rfl | rfl | rfl <;> decide)).2.1 ?_
    refine wiloadN X0 hx hby k3_21 L164_2 ?_
    refine wiconst X0 hx hby k3_22 ?_
    refine XS.iand X0.here hx rfl (hb hby k3_23) rfl ?_
    show own_S p e below m s₁ 24 L164 [(.int 0)] _
    refine wifYes X0 hx hby k3_24 24 46 rfl (by decide) (by decide) (by decide) ?_
    refine wiload X0 hx hby k3_46 L164_6 ?_
    refine XS.bipush X0.here hx rfl (hb hby k3_48) ?_
    refine wicmpNo X0 hx hby k3_50 (tlt (by rcases hn with rfl | rfl | rfl <;> decide)).2.1 ?_
    show own_S p e below m s₁ 53 L164 [] _
    refine waloadN X0 hx hby k3_53 L164_1 rfl ?_
    refine wiloadN X0 hx hby k3_54 L164_3 ?_
    refine wiload X0 hx hby k3_55 L164_4 ?_
    refine st165 _ ?_
    show own_S p e below m T165 60 L164 [] _
    exact X165.returnOut hx Bd.returns (hb hby k3_60) hr
  · show Qs2 Z sb ks n q0 q1 h0 n0 _ T165.heap _
    rw [eh165]
    exact ⟨rfl, N165, rfl⟩
theorem ef_s1 (m : MethodId) (x0 : Addr) (x1 : Int32) (x2 : Int32) (x3 : Int32) : entryFrame m #[(.ref x0), (.int x1), (.int x2), (.int x3)] 7 = mkF m 0 #[.val (.ref x0), .val (.int x1), .val (.int x2), .val (.int x3), .unset, .unset, .unset] [] := by first | (simp [entryFrame, mkF, argsToLocals, Value.category]; done) | rfl
theorem pn_s1 : plainName "java/util/DualPivotQuicksort" = true := by first | (simp [plainName, overriddenIn]; done) | decide +kernel
def Qs1 (Z : State) (sb : Nat) (ks : ClassId) (n : Int32) (q0 q1 : Int64) (h0 : Heap) (n0 : Nat) (v : Option Value) (h : Heap) (L : List Loc) : Prop := v = none ∧ Fr n0 L ∧ h = h0
set_option maxRecDepth 65536 in
set_option maxHeartbeats 40000000 in
theorem rms1 (l : Launch) (Z : State) (a0 : Array Value) (hw : ∀ d ∈ tables_1, d.before a0 Z = true) (ws : List Jvm.Cond) (sb : Nat) (ks : ClassId) (n : Int32) (q0 q1 : Int64) (h0 : Heap) (n0 : Nat) (Z0 : n0 ≤ h0.size) (V_s : Arv Z h0 sb ks .long n [(.long q0), (.long q1)] (.long 0)) (hn : own_3 n) (hle : n = 2 → ¬ (lcmpW q1 q0 < (0 : Int32))) :
    MetFree l (⟨"java/util/DualPivotQuicksort", "sort", "([JIII)V"⟩ : MethodName) (head1 (Jvm.Cond.code (⟨"java/util/DualPivotQuicksort", "sort", "([JIII)V"⟩ : MethodName) jdk_2529_method_12_code 7 none :: ws) ({ frames := 2, cells := 0, slots := 0, locals := 54 } : Room)) (fun a U => a = #[(.ref sb), (.int 0), (.int 0), (.int n)] ∧ Z.Warmed39 U.vm ∧ U.heap = h0) (fun _ _ _ _ _ => True) (fun _ U o U' => ∃ v L, o = .returned v ∧ Qs1 Z sb ks n q0 q1 h0 n0 v U'.heap L ∧ FrameEnd U o U' L ({ frames := 2, cells := 0, slots := 0, locals := 54 } : Room).cells ({ frames := 2, cells := 0, slots := 0, locals := 54 } : Room).slots) := by
  refine MetFree.of_bodySF (plainFor_of_name pn_s1) hisR ?_
  intro p e s m args below meth c s₁ Bd hml0 hP hK
  obtain ⟨rfl, hZ, hh⟩ := hP
  have hx := Bd.exec
  have hby := Bd.bytes
  have hml : c.maxLocals = 7 := hml0
  have hown : s.vm.findClass "java/util/DualPivotQuicksort" = some m.cls := findClass_of_methodNamed Bd.named
  have hnm := (name_of_methodNamed Bd.named Bd.method).1
  have X0 : Stand p l e ({ frames := 2, cells := 0, slots := 0, locals := 54 } : Room) s m #[(.ref sb), (.int 0), (.int 0), (.int n)] below meth c s₁ [] 0 0 := Stand.of_body Bd
  have e0 : s₁.heap = h0 := by rw [← hh, Bd.state]; rfl
  have N0 := Fr.nil n0
  have pre0 : ∀ t, Steps p.tables e below (s₁.setTop (mkF m 0 #[.val (.ref sb), .val (.int 0), .val (.int 0), .val (.int n), .unset, .unset, .unset] [])) t → Steps p.tables e below (s₁.setTop (entryFrame m #[(.ref sb), (.int 0), (.int 0), (.int n)] 7)) t := fun t k => castTop (ef_s1 m sb (0 : Int32) (0 : Int32) n) k
  obtain ⟨L166, hL166⟩ := own_nm #[.val (.ref sb), .val (.int 0), .val (.int 0), .val (.int n), .unset, .unset, .unset]
  have L166_3 := own_ld hL166 3 rfl
  have L166_2 := own_ld hL166 2 rfl
  obtain ⟨L167, hL167⟩ := own_nm #[.val (.ref sb), .val (.int 0), .val (.int 0), .val (.int n), .val (.int (n - (0 : Int32))), .unset, .unset]
  have L167_1 := own_ld hL167 1 rfl
  have L167_0 := own_ld hL167 0 rfl
  have L167_2 := own_ld hL167 2 rfl
  have L167_3 := own_ld hL167 3 rfl
  obtain ⟨_, _, ⟨T168, L168, k168, n168⟩, -, X168, ⟨Lc168, hQ168, l168, y168, z168⟩, st168⟩ := Jvm.LawKit.callS X0 hx (y := (⟨"java/util/DualPivotQuicksort", "sort", "(Ljava/util/DualPivotQuicksort$Sorter;[JIII)V"⟩ : MethodName)) hown (mvT hZ (hw _ tm63)) (mvT hZ (hw _ tm64)) (mvT hZ (hw _ tm61)) (mvT hZ (hw _ tm65)) (by decide) (backOf (W := 0) (rms2 l Z a0 hw [] sb ks n q0 q1 h0 n0 Z0 V_s hn hle) hZ (hw _ tm65) (hw _ tm61) (by decide) (by decide)) (g := (mkF m 73 L167 [(.int n), (.int 0), (.int 0), (.ref sb), .null])) rfl (by rw [hml, hL167]; rfl) (argsL := [.null, (.ref sb), (.int 0), (.int 0), (.int n)]) (rest := []) (lenOf pd_1 rfl) rfl (by show 2 * 0 + _ ≤ _; exact Nat.le_of_eq rfl) (hb hby k4_73) (fun _ _ => ⟨rfl, e0, (by decide : 0 + 0 ≤ _), (by decide : 0 + 0 ≤ _)⟩)
  dsimp only [Pt.U, Pt.locs, Pt.cells, Pt.slots] at X168 l168 y168 z168 st168 hQ168
  subst l168 y168 z168
  obtain ⟨rfl, N168q, eh168⟩ := hQ168
  have N168 := Fr.app N0 N168q
  obtain ⟨fs, hr, hrun, hended, hW, hsame⟩ := X168.leave (v := none) (fun _ => rfl)
  refine ⟨_, _, pre0 _ ?_, hrun, hended, _, _, rfl, ?_, ⟨_, rfl⟩, hW, hsame.mono (by decide) (by decide)⟩
  · rw [← hL166]
    show own_S p e below m s₁ 0 L166 [] _
    refine wiloadN X0 hx hby k4_0 L166_3 ?_
    refine wiloadN X0 hx hby k4_1 L166_2 ?_
    refine XS.isub X0.here hx rfl (hb hby k4_2) rfl ?_
    refine wistore X0 hx hby k4_3 hL166 hL167 rfl ?_
    show own_S p e below m s₁ 5 L167 [] _
    refine wiloadN X0 hx hby k4_5 L167_1 ?_
    refine wiconst X0 hx hby k4_6 ?_
    refine wicmpYes X0 hx hby k4_7 7 68 rfl (by decide) (by decide) (by decide) ?_
    refine XS.aconstNull X0.here hx rfl (hb hby k4_68) ?_
    show own_S p e below m s₁ 69 L167 [.null] _
    refine waloadN X0 hx hby k4_69 L167_0 rfl ?_
    refine wiconst X0 hx hby k4_70 ?_
    refine wiloadN X0 hx hby k4_71 L167_2 ?_
    refine wiloadN X0 hx hby k4_72 L167_3 ?_
    show own_S p e below m s₁ 73 L167 [(.int n), (.int 0), (.int 0), (.ref sb), .null] _
    refine st168 _ ?_
    exact X168.returnOut hx Bd.returns (hb hby k4_76) hr
  · show Qs1 Z sb ks n q0 q1 h0 n0 _ T168.heap _
    rw [eh168]
    exact ⟨rfl, N168, rfl⟩
theorem ef_s0 (m : MethodId) (x0 : Addr) : entryFrame m #[(.ref x0)] 1 = mkF m 0 #[.val (.ref x0)] [] := by first | (simp [entryFrame, mkF, argsToLocals, Value.category]; done) | rfl
theorem pn_s0 : plainName "java/util/Arrays" = true := by first | (simp [plainName, overriddenIn]; done) | decide +kernel
def Qs0 (Z : State) (sb : Nat) (ks : ClassId) (n : Int32) (q0 q1 : Int64) (h0 : Heap) (n0 : Nat) (v : Option Value) (h : Heap) (L : List Loc) : Prop := v = none ∧ Fr n0 L ∧ h = h0
set_option maxRecDepth 65536 in
set_option maxHeartbeats 40000000 in
theorem rms0 (l : Launch) (Z : State) (a0 : Array Value) (hw : ∀ d ∈ tables_1, d.before a0 Z = true) (ws : List Jvm.Cond) (sb : Nat) (ks : ClassId) (n : Int32) (q0 q1 : Int64) (h0 : Heap) (n0 : Nat) (Z0 : n0 ≤ h0.size) (V_s : Arv Z h0 sb ks .long n [(.long q0), (.long q1)] (.long 0)) (hn : own_3 n) (hle : n = 2 → ¬ (lcmpW q1 q0 < (0 : Int32))) :
    MetFree l (⟨"java/util/Arrays", "sort", "([J)V"⟩ : MethodName) (head1 (Jvm.Cond.code (⟨"java/util/Arrays", "sort", "([J)V"⟩ : MethodName) jdk_65_method_4_code 1 none :: ws) ({ frames := 3, cells := 0, slots := 0, locals := 72 } : Room)) (fun a U => a = #[(.ref sb)] ∧ Z.Warmed39 U.vm ∧ U.heap = h0) (fun _ _ _ _ _ => True) (fun _ U o U' => ∃ v L, o = .returned v ∧ Qs0 Z sb ks n q0 q1 h0 n0 v U'.heap L ∧ FrameEnd U o U' L ({ frames := 3, cells := 0, slots := 0, locals := 72 } : Room).cells ({ frames := 3, cells := 0, slots := 0, locals := 72 } : Room).slots) := by
  refine MetFree.of_bodySF (plainFor_of_name pn_s0) hisR ?_
  intro p e s m args below meth c s₁ Bd hml0 hP hK
  obtain ⟨rfl, hZ, hh⟩ := hP
  have hx := Bd.exec
  have hby := Bd.bytes
  have hml : c.maxLocals = 1 := hml0
  have hown : s.vm.findClass "java/util/Arrays" = some m.cls := findClass_of_methodNamed Bd.named
  have hnm := (name_of_methodNamed Bd.named Bd.method).1
  have X0 : Stand p l e ({ frames := 3, cells := 0, slots := 0, locals := 72 } : Room) s m #[(.ref sb)] below meth c s₁ [] 0 0 := Stand.of_body Bd
  have e0 : s₁.heap = h0 := by rw [← hh, Bd.state]; rfl
  have N0 := Fr.nil n0
  have pre0 : ∀ t, Steps p.tables e below (s₁.setTop (mkF m 0 #[.val (.ref sb)] [])) t → Steps p.tables e below (s₁.setTop (entryFrame m #[(.ref sb)] 1)) t := fun t k => castTop (ef_s0 m sb) k
  obtain ⟨L169, hL169⟩ := own_nm #[.val (.ref sb)]
  have L169_0 := own_ld hL169 0 rfl
  obtain ⟨cl170, Ar170, -, S170, M170, -, -⟩ := id V_s
  obtain ⟨_, _, ⟨T171, L171, k171, n171⟩, -, X171, ⟨Lc171, hQ171, l171, y171, z171⟩, st171⟩ := Jvm.LawKit.callS X0 hx (y := (⟨"java/util/DualPivotQuicksort", "sort", "([JIII)V"⟩ : MethodName)) hown (mvT hZ (hw _ tm59)) (mvT hZ (hw _ tm60)) (mvT hZ (hw _ tm61)) (mvT hZ (hw _ tm62)) (by decide) (backOf (W := 0) (rms1 l Z a0 hw [] sb ks n q0 q1 h0 n0 Z0 V_s hn hle) hZ (hw _ tm62) (hw _ tm61) (by decide) (by decide)) (g := (mkF m 5 L169 [(.int n), (.int 0), (.int 0), (.ref sb)])) rfl (by rw [hml, hL169]; rfl) (argsL := [(.ref sb), (.int 0), (.int 0), (.int n)]) (rest := []) (lenOf pd_2 rfl) rfl (by show 2 * 0 + _ ≤ _; exact Nat.le_of_eq rfl) (hb hby k5_5) (fun _ _ => ⟨rfl, e0, (by decide : 0 + 0 ≤ _), (by decide : 0 + 0 ≤ _)⟩)
  dsimp only [Pt.U, Pt.locs, Pt.cells, Pt.slots] at X171 l171 y171 z171 st171 hQ171
  subst l171 y171 z171
  obtain ⟨rfl, N171q, eh171⟩ := hQ171
  have N171 := Fr.app N0 N171q
  obtain ⟨fs, hr, hrun, hended, hW, hsame⟩ := X171.leave (v := none) (fun _ => rfl)
  refine ⟨_, _, pre0 _ ?_, hrun, hended, _, _, rfl, ?_, ⟨_, rfl⟩, hW, hsame.mono (by decide) (by decide)⟩
  · rw [← hL169]
    show own_S p e below m s₁ 0 L169 [] _
    refine waloadN X0 hx hby k5_0 L169_0 rfl ?_
    refine wiconst X0 hx hby k5_1 ?_
    refine wiconst X0 hx hby k5_2 ?_
    refine waloadN X0 hx hby k5_3 L169_0 rfl ?_
    show own_S p e below m s₁ 4 L169 [(.ref sb), (.int 0), (.int 0), (.ref sb)] _
    refine X0.arraylength hx (by rw [e0]; exact Ar170.1) (State.isArrayOf_alike hZ.alike Ar170.2.1) (g := (mkF m 4 L169 [(.ref sb), (.int 0), (.int 0), (.ref sb)])) rfl rfl (hb hby k5_4) _ ?_
    rw [len_of S170 M170]
    show own_S p e below m s₁ 5 L169 [(.int n), (.int 0), (.int 0), (.ref sb)] _
    refine st171 _ ?_
    exact X171.returnOut hx Bd.returns (hb hby k5_8) hr
  · show Qs0 Z sb ks n q0 q1 h0 n0 _ T171.heap _
    rw [eh171]
    exact ⟨rfl, N171, rfl⟩
theorem ef_A (m : MethodId) (x0 : Addr) (x1 : Int32) (x2 : Int32) : entryFrame m #[(.ref x0), (.int x1), (.int x2)] 4 = mkF m 0 #[.val (.ref x0), .val (.int x1), .val (.int x2), .unset] [] := by first | (simp [entryFrame, mkF, argsToLocals, Value.category]; done) | rfl
theorem pn_A : plainName "com/example/odds2/odds2/engine/Elimination" = true := by first | (simp [plainName, overriddenIn]; done) | decide +kernel
def QA (Z : State) (a1 oc od mc md sr sp sw ss co cf le re rc : Nat) (k_re k_rc : ClassId) (r : Int32) (en wk : Int64) (st ol x rw : Int32) (gs ms : List Value) (h0 : Heap) (n0 : Nat) (v : Option Value) (h : Heap) (L : List Loc) : Prop := ∃ (nb : Nat) (kn : ClassId), v = none ∧ Fr n0 L ∧ Keep h0 h [re, rc] ∧ Arv Z h re k_re (.array .int) (3 : Int32) (gs.set x.toNatClampNeg (.ref nb)) .null ∧ Arv Z h rc k_rc .int 3 (ms.set x.toNatClampNeg (.int 1)) (.int 0) ∧ Arv Z h nb kn .int 4 [(.int rw), (.int 0), (.int 0), (.int 0)] (.int 0) ∧ h0.size ≤ nb
set_option maxRecDepth 65536 in
set_option maxHeartbeats 40000000 in
theorem rmA (l : Launch) (Z : State) (a0 : Array Value) (hw : ∀ d ∈ tables_1, d.before a0 Z = true) (ws : List Jvm.Cond) (a1 oc od mc md sr sp sw ss co cf le re rc : Nat) (k_re k_rc : ClassId) (r : Int32) (en wk : Int64) (st ol x rw : Int32) (gs ms : List Value) (h0 : Heap) (n0 : Nat) (Z0 : n0 ≤ h0.size) (O_a : own_E Z h0 a1 oc od mc md sr sp sw ss co cf le re rc r en wk ol st) (V_re : Arv Z h0 re k_re (.array .int) (3 : Int32) gs .null) (V_rc : Arv Z h0 rc k_rc .int 3 ms (.int 0)) (OV : OvrA Z k_re .int "[I") (hx3 : own_3 x) (lgs : gs.length = 3) (lms : ms.length = 3) (hg : gs.getD x.toNatClampNeg .null = .null) (hm : ms.getD x.toNatClampNeg (.int 0) = .int 0) (ord : own_ord a1 oc od mc md sr sp sw ss co cf le re rc) (g_a : n0 ≤ a1) :
    MetFree l (⟨"com/example/odds2/odds2/engine/Elimination", "addReader", "(II)V"⟩ : MethodName) (head1 (Jvm.Cond.code (⟨"com/example/odds2/odds2/engine/Elimination", "addReader", "(II)V"⟩ : MethodName) prog_14_method_9_code 4 none :: ws) ({ frames := 0, cells := 1, slots := 4, locals := 0 } : Room)) (fun a U => a = #[(.ref a1), (.int x), (.int rw)] ∧ Z.Warmed39 U.vm ∧ U.heap = h0) (fun _ _ _ _ _ => True) (fun _ U o U' => ∃ v L, o = .returned v ∧ QA Z a1 oc od mc md sr sp sw ss co cf le re rc k_re k_rc r en wk st ol x rw gs ms h0 n0 v U'.heap L ∧ FrameEnd U o U' L ({ frames := 0, cells := 1, slots := 4, locals := 0 } : Room).cells ({ frames := 0, cells := 1, slots := 4, locals := 0 } : Room).slots) := by
  refine MetFree.of_bodySF (plainFor_of_name pn_A) hisR ?_
  intro p e s m args below meth c s₁ Bd hml0 hP hK
  obtain ⟨rfl, hZ, hh⟩ := hP
  have hx := Bd.exec
  have hby := Bd.bytes
  have hml : c.maxLocals = 4 := hml0
  have hown : s.vm.findClass "com/example/odds2/odds2/engine/Elimination" = some m.cls := findClass_of_methodNamed Bd.named
  have hnm := (name_of_methodNamed Bd.named Bd.method).1
  have X0 : Stand p l e ({ frames := 0, cells := 1, slots := 4, locals := 0 } : Room) s m #[(.ref a1), (.int x), (.int rw)] below meth c s₁ [] 0 0 := Stand.of_body Bd
  have e0 : s₁.heap = h0 := by rw [← hh, Bd.state]; rfl
  have N0 := Fr.nil n0
  have pre0 : ∀ t, Steps p.tables e below (s₁.setTop (mkF m 0 #[.val (.ref a1), .val (.int x), .val (.int rw), .unset] [])) t → Steps p.tables e below (s₁.setTop (entryFrame m #[(.ref a1), (.int x), (.int rw)] 4)) t := fun t k => castTop (ef_A m a1 x rw) k
  have hl := own_laid_of hw
  obtain ⟨or0, or1, or2, or3, or4, or5, or6, or7, or8, or9, or10, or11, or12⟩ := id ord
  obtain ⟨L172, hL172⟩ := own_nm #[.val (.ref a1), .val (.int x), .val (.int rw), .unset]
  have L172_0 := own_ld hL172 0 rfl
  obtain ⟨T173, X173, e173, st173⟩ := wget X0 hx hby hZ hown (hw _ tm43) e0 (O_a.at 4) L172 [] k6_1
  have L172_1 := own_ld hL172 1 rfl
  obtain ⟨L174, hL174⟩ := own_nm #[.val (.ref a1), .val (.int x), .val (.int rw), .val .null]
  have L174_3 := own_ld hL174 3 rfl
  obtain ⟨T175, h175, k175, X175, e175, E175, A175, Q175, st175⟩ := newPE X173 hx hZ (aty := .int) (hw _ tm0) e173 (g := (mkF m 12 L174 [(.int 4)])) rfl (hb hby k6_12) rfl (by decide) (cap := 4) (by decide) (by decide) (by decide) (by decide) (ad := "[I") (by decide)
  obtain ⟨nb, g175⟩ : ∃ z, z = h0.size := ⟨_, rfl⟩
  rw [← g175] at A175 Q175 st175
  have lt_a1_nb : (a1 : Nat) < nb := by rw [g175]; exact O_a.lt
  have lt_rc_nb : (rc : Nat) < nb := by rw [g175]; exact V_rc.lt
  have lt_re_nb : (re : Nat) < nb := by rw [g175]; exact V_re.lt
  have sz_h0_nb : h0.size ≤ (nb : Nat) := by rw [g175]; exact (Keep.refl h0 [re, rc]).1
  have f176 : Arv Z h175 nb k175 .int 4 [(.int 0), (.int 0), (.int 0), (.int 0)] (.int 0) := (Arv.new A175 (by decide)).pad (pad_rep [] (.int 0) 4)
  obtain ⟨L177, hL177⟩ := own_nm #[.val (.ref a1), .val (.int x), .val (.int rw), .val (.ref nb)]
  have L177_0 := own_ld hL177 0 rfl
  have f178 := (O_a.ext E175)
  obtain ⟨T179, X179, e179, st179⟩ := wget X175 hx hby hZ hown (hw _ tm43) e175 (f178.at 4) L177 [] k6_16
  have L177_1 := own_ld hL177 1 rfl
  have L177_3 := own_ld hL177 3 rfl
  have f180 := (V_re.ext E175)
  obtain ⟨cl181, Ar181, q181, S181, M181, Hh181, G181⟩ := id f180
  obtain ⟨T182, h182, X182, e182, W182, st182⟩ := stR X179 hx hZ e179 Ar181 (j := x) (inb_of S181 ⟨(own_3a hx3), (own_3b hx3)⟩) rfl (Sto.ofVA Ar181 q181 OV (Ins.self Q175)) (g := (mkF m 21 L177 [(.ref nb), (.int x), (.ref re)])) rfl rfl (hb hby k6_21)
  have f183 := Arv.set Ar181 q181 S181 M181 Hh181 G181 rfl W182 x.toNatClampNeg rfl (by simp only [List.length_set, lgs]; exact own_3c hx3)
  have N182 := Fr.snoc X182 N0 (by omega : n0 ≤ (re : Nat))
  have f184 := (f178.other W182 (by omega : (a1 : Nat) ≠ re))
  obtain ⟨T185, X185, e185, st185⟩ := wget X182 hx hby hZ hown (hw _ tm45) e182 (f184.at 5) L177 [(.ref nb)] k6_54
  have f186 := ((V_rc.ext E175).other W182 (by omega : (rc : Nat) ≠ re))
  obtain ⟨T188, h188, X188, e188, W188, f187, N188, st188⟩ := wiastore X185 hx hby hZ e185 N182 f186 (by omega : n0 ≤ (rc : Nat)) x (1 : Int32) x.toNatClampNeg rfl (own_3a hx3) (own_3b hx3) (by simp only [List.length_set, lms]; exact own_3c hx3) L177 [(.int 0), (.ref nb)] k6_63
  have L177_2 := own_ld hL177 2 rfl
  have f189 := ((f176.other W182 (by omega : (nb : Nat) ≠ re)).other W188 (by omega : (nb : Nat) ≠ rc))
  obtain ⟨T191, h191, X191, e191, W191, f190, N191, st191⟩ := wiastore X188 hx hby hZ e188 N188 f189 (by omega : n0 ≤ (nb : Nat)) (0 : Int32) rw 0 rfl (by decide) (by decide) (Nat.le_of_ble_eq_true rfl) L177 [] k6_65
  have f192 := (((((Keep.refl h0 [re, rc]).ext E175).wr W182 (Or.inl (List.mem_of_getElem? (i := 0) rfl))).wr W188 (Or.inl (List.mem_of_getElem? (i := 1) rfl))).wr W191 (Or.inr (by omega : h0.size ≤ (nb : Nat))))
  have f193 := ((f183.other W188 (by omega : (re : Nat) ≠ rc)).other W191 (by omega : (re : Nat) ≠ nb))
  have f194 := (f187.other W191 (by omega : (rc : Nat) ≠ nb))
  obtain ⟨fs, hr, hrun, hended, hW, hsame⟩ := X191.leave (v := none) (fun _ => rfl)
  refine ⟨_, _, pre0 _ ?_, hrun, hended, _, _, rfl, ?_, ⟨_, rfl⟩, hW, hsame.mono (by decide) (by decide)⟩
  · rw [← hL172]
    show own_S p e below m s₁ 0 L172 [] _
    refine waloadN X0 hx hby k6_0 L172_0 rfl ?_
    refine st173 _ ?_
    refine wiloadN X173 hx hby k6_4 L172_1 ?_
    refine waaload X173 hx hby hZ e173 V_re x.toNatClampNeg rfl (own_3a hx3) (own_3b hx3) (v := .null) hg k6_5 ?_
    show own_S p e below m T173 6 L172 [.null] _
    refine XS.astoreN X173.here hx rfl (hb hby k6_6) rfl rfl (l' := L174) (by rw [hL172, hL174]; rfl) ?_
    refine waloadN X173 hx hby k6_7 L174_3 rfl ?_
    refine XS.ifnonnullNo X173.here hx rfl (hb hby k6_8) rfl ?_
    refine wiconst X173 hx hby k6_11 ?_
    show own_S p e below m T173 12 L174 [(.int 4)] _
    refine st175 _ ?_
    refine XS.astoreN X175.here hx rfl (hb hby k6_14) rfl rfl (l' := L177) (by rw [hL174, hL177]; rfl) ?_
    refine waloadN X175 hx hby k6_15 L177_0 rfl ?_
    refine st179 _ ?_
    show own_S p e below m T179 19 L177 [(.ref re)] _
    refine wiloadN X179 hx hby k6_19 L177_1 ?_
    refine waloadN X179 hx hby k6_20 L177_3 rfl ?_
    refine st182 _ ?_
    refine wgoto X182 hx hby k6_22 22 52 rfl (by decide) (by decide) ?_
    show own_S p e below m T182 52 L177 [] _
    refine waloadN X182 hx hby k6_52 L177_3 rfl ?_
    refine waloadN X182 hx hby k6_53 L177_0 rfl ?_
    refine st185 _ ?_
    refine wiloadN X185 hx hby k6_57 L177_1 ?_
    show own_S p e below m T185 58 L177 [(.int x), (.ref rc), (.ref nb)] _
    jvm_step X185.here [X185.here.top, hx, (hb hby k6_58), Value.category]
    show own_S p e below m T185 59 L177 [(.int x), (.ref rc), (.int x), (.ref rc), (.ref nb)] _
    refine wiaload X185 hx hby hZ e185 f186 x.toNatClampNeg rfl (own_3a hx3) (own_3b hx3) (v := (.int 0)) hm k6_59 ?_
    jvm_step X185.here [X185.here.top, hx, (hb hby k6_60), Value.category]
    show own_S p e below m T185 61 L177 [(.int 0), (.int x), (.ref rc), (.int 0), (.ref nb)] _
    refine wiconst X185 hx hby k6_61 ?_
    refine XS.iadd X185.here hx rfl (hb hby k6_62) rfl ?_
    refine st188 _ ?_
    refine wiloadN X188 hx hby k6_64 L177_2 ?_
    show own_S p e below m T188 65 L177 [(.int rw), (.int 0), (.ref nb)] _
    refine st191 _ ?_
    exact X191.returnOut hx Bd.returns (hb hby k6_66) hr
  · show QA Z a1 oc od mc md sr sp sw ss co cf le re rc k_re k_rc r en wk st ol x rw gs ms h0 n0 _ T191.heap _
    rw [e191]
    exact ⟨nb, k175, rfl, N191, f192, f193, f194, f190, sz_h0_nb⟩
theorem ef_B (m : MethodId) (x0 : Addr) (x1 : Int32) (x2 : Int32) : entryFrame m #[(.ref x0), (.int x1), (.int x2)] 4 = mkF m 0 #[.val (.ref x0), .val (.int x1), .val (.int x2), .unset] [] := by first | (simp [entryFrame, mkF, argsToLocals, Value.category]; done) | rfl
theorem pn_B : plainName "com/example/odds2/odds2/engine/Elimination" = true := by first | (simp [plainName, overriddenIn]; done) | decide +kernel
def QB (Z : State) (a1 oc od mc md sr sp sw ss co cf le re rc : Nat) (k_re k_rc : ClassId) (r : Int32) (en wk : Int64) (st ol x rw : Int32) (gs ms : List Value) (qb : Nat) (kq : ClassId) (q0 : Int32) (h0 : Heap) (n0 : Nat) (v : Option Value) (h : Heap) (L : List Loc) : Prop := v = none ∧ Fr n0 L ∧ Keep h0 h [rc, qb] ∧ Arv Z h rc k_rc .int 3 (ms.set x.toNatClampNeg (.int 2)) (.int 0) ∧ Arv Z h qb kq .int 4 [(.int q0), (.int rw), (.int 0), (.int 0)] (.int 0)
set_option maxRecDepth 65536 in
set_option maxHeartbeats 40000000 in
theorem rmB (l : Launch) (Z : State) (a0 : Array Value) (hw : ∀ d ∈ tables_1, d.before a0 Z = true) (ws : List Jvm.Cond) (a1 oc od mc md sr sp sw ss co cf le re rc : Nat) (k_re k_rc : ClassId) (r : Int32) (en wk : Int64) (st ol x rw : Int32) (gs ms : List Value) (qb : Nat) (kq : ClassId) (q0 : Int32) (h0 : Heap) (n0 : Nat) (Z0 : n0 ≤ h0.size) (O_a : own_E Z h0 a1 oc od mc md sr sp sw ss co cf le re rc r en wk ol st) (V_re : Arv Z h0 re k_re (.array .int) (3 : Int32) gs .null) (V_rc : Arv Z h0 rc k_rc .int 3 ms (.int 0)) (OV : OvrA Z k_re .int "[I") (hx3 : own_3 x) (lgs : gs.length = 3) (lms : ms.length = 3) (hg : gs.getD x.toNatClampNeg .null = .ref qb) (hm : ms.getD x.toNatClampNeg (.int 0) = .int 1) (V_q : Arv Z h0 qb kq .int 4 [(.int q0), (.int 0), (.int 0), (.int 0)] (.int 0)) (oq : rc < qb) (ord : own_ord a1 oc od mc md sr sp sw ss co cf le re rc) (g_a : n0 ≤ a1) :
    MetFree l (⟨"com/example/odds2/odds2/engine/Elimination", "addReader", "(II)V"⟩ : MethodName) (head1 (Jvm.Cond.code (⟨"com/example/odds2/odds2/engine/Elimination", "addReader", "(II)V"⟩ : MethodName) prog_14_method_9_code 4 none :: ws) ({ frames := 0, cells := 0, slots := 0, locals := 0 } : Room)) (fun a U => a = #[(.ref a1), (.int x), (.int rw)] ∧ Z.Warmed39 U.vm ∧ U.heap = h0) (fun _ _ _ _ _ => True) (fun _ U o U' => ∃ v L, o = .returned v ∧ QB Z a1 oc od mc md sr sp sw ss co cf le re rc k_re k_rc r en wk st ol x rw gs ms qb kq q0 h0 n0 v U'.heap L ∧ FrameEnd U o U' L ({ frames := 0, cells := 0, slots := 0, locals := 0 } : Room).cells ({ frames := 0, cells := 0, slots := 0, locals := 0 } : Room).slots) := by
  refine MetFree.of_bodySF (plainFor_of_name pn_B) hisR ?_
  intro p e s m args below meth c s₁ Bd hml0 hP hK
  obtain ⟨rfl, hZ, hh⟩ := hP
  have hx := Bd.exec
  have hby := Bd.bytes
  have hml : c.maxLocals = 4 := hml0
  have hown : s.vm.findClass "com/example/odds2/odds2/engine/Elimination" = some m.cls := findClass_of_methodNamed Bd.named
  have hnm := (name_of_methodNamed Bd.named Bd.method).1
  have X0 : Stand p l e ({ frames := 0, cells := 0, slots := 0, locals := 0 } : Room) s m #[(.ref a1), (.int x), (.int rw)] below meth c s₁ [] 0 0 := Stand.of_body Bd
  have e0 : s₁.heap = h0 := by rw [← hh, Bd.state]; rfl
  have N0 := Fr.nil n0
  have pre0 : ∀ t, Steps p.tables e below (s₁.setTop (mkF m 0 #[.val (.ref a1), .val (.int x), .val (.int rw), .unset] [])) t → Steps p.tables e below (s₁.setTop (entryFrame m #[(.ref a1), (.int x), (.int rw)] 4)) t := fun t k => castTop (ef_B m a1 x rw) k
  have hl := own_laid_of hw
  obtain ⟨or0, or1, or2, or3, or4, or5, or6, or7, or8, or9, or10, or11, or12⟩ := id ord
  obtain ⟨L195, hL195⟩ := own_nm #[.val (.ref a1), .val (.int x), .val (.int rw), .unset]
  have L195_0 := own_ld hL195 0 rfl
  obtain ⟨T196, X196, e196, st196⟩ := wget X0 hx hby hZ hown (hw _ tm43) e0 (O_a.at 4) L195 [] k6_1
  have L195_1 := own_ld hL195 1 rfl
  obtain ⟨L197, hL197⟩ := own_nm #[.val (.ref a1), .val (.int x), .val (.int rw), .val (.ref qb)]
  have L197_3 := own_ld hL197 3 rfl
  have L197_0 := own_ld hL197 0 rfl
  obtain ⟨T198, X198, e198, st198⟩ := wget X196 hx hby hZ hown (hw _ tm45) e196 (O_a.at 5) L197 [] k6_26
  have L197_1 := own_ld hL197 1 rfl
  obtain ⟨cl199, Ar199, -, S199, M199, -, -⟩ := id V_q
  obtain ⟨T200, X200, e200, st200⟩ := wget X198 hx hby hZ hown (hw _ tm45) e198 (O_a.at 5) L197 [(.ref qb)] k6_54
  obtain ⟨T202, h202, X202, e202, W202, f201, N202, st202⟩ := wiastore X200 hx hby hZ e200 N0 V_rc (by omega : n0 ≤ (rc : Nat)) x (2 : Int32) x.toNatClampNeg rfl (own_3a hx3) (own_3b hx3) (by simp only [List.length_set, lms]; exact own_3c hx3) L197 [(.int 1), (.ref qb)] k6_63
  have L197_2 := own_ld hL197 2 rfl
  have f203 := (V_q.other W202 (by omega : (qb : Nat) ≠ rc))
  obtain ⟨T205, h205, X205, e205, W205, f204, N205, st205⟩ := wiastore X202 hx hby hZ e202 N202 f203 (by omega : n0 ≤ (qb : Nat)) (1 : Int32) rw 1 rfl (by decide) (by decide) (Nat.le_of_ble_eq_true rfl) L197 [] k6_65
  have f206 := (((Keep.refl h0 [rc, qb]).wr W202 (Or.inl (List.mem_of_getElem? (i := 0) rfl))).wr W205 (Or.inl (List.mem_of_getElem? (i := 1) rfl)))
  have f207 := (f201.other W205 (by omega : (rc : Nat) ≠ qb))
  obtain ⟨fs, hr, hrun, hended, hW, hsame⟩ := X205.leave (v := none) (fun _ => rfl)
  refine ⟨_, _, pre0 _ ?_, hrun, hended, _, _, rfl, ?_, ⟨_, rfl⟩, hW, hsame.mono (by decide) (by decide)⟩
  · rw [← hL195]
    show own_S p e below m s₁ 0 L195 [] _
    refine waloadN X0 hx hby k6_0 L195_0 rfl ?_
    refine st196 _ ?_
    refine wiloadN X196 hx hby k6_4 L195_1 ?_
    refine waaload X196 hx hby hZ e196 V_re x.toNatClampNeg rfl (own_3a hx3) (own_3b hx3) (v := (.ref qb)) hg k6_5 ?_
    show own_S p e below m T196 6 L195 [(.ref qb)] _
    refine XS.astoreN X196.here hx rfl (hb hby k6_6) rfl rfl (l' := L197) (by rw [hL195, hL197]; rfl) ?_
    refine waloadN X196 hx hby k6_7 L197_3 rfl ?_
    refine XS.ifnonnullYes X196.here hx rfl (pc0 := 8) (pc' := 25) rfl (hb hby k6_8) rfl (by decide) (by decide) ?_
    refine waloadN X196 hx hby k6_25 L197_0 rfl ?_
    show own_S p e below m T196 26 L197 [(.ref a1)] _
    refine st198 _ ?_
    refine wiloadN X198 hx hby k6_29 L197_1 ?_
    refine wiaload X198 hx hby hZ e198 V_rc x.toNatClampNeg rfl (own_3a hx3) (own_3b hx3) (v := (.int 1)) hm k6_30 ?_
    refine waloadN X198 hx hby k6_31 L197_3 rfl ?_
    show own_S p e below m T198 32 L197 [(.ref qb), (.int 1)] _
    refine X198.arraylength hx (by rw [e198]; exact Ar199.1) (State.isArrayOf_alike hZ.alike Ar199.2.1) (g := (mkF m 32 L197 [(.ref qb), (.int 1)])) rfl rfl (hb hby k6_32) _ ?_
    rw [len_of S199 M199]
    show own_S p e below m T198 33 L197 [(.int 4), (.int 1)] _
    refine wicmpYes X198 hx hby k6_33 33 52 rfl (by decide) (by decide) (by decide) ?_
    refine waloadN X198 hx hby k6_52 L197_3 rfl ?_
    refine waloadN X198 hx hby k6_53 L197_0 rfl ?_
    refine st200 _ ?_
    show own_S p e below m T200 57 L197 [(.ref rc), (.ref qb)] _
    refine wiloadN X200 hx hby k6_57 L197_1 ?_
    jvm_step X200.here [X200.here.top, hx, (hb hby k6_58), Value.category]
    show own_S p e below m T200 59 L197 [(.int x), (.ref rc), (.int x), (.ref rc), (.ref qb)] _
    refine wiaload X200 hx hby hZ e200 V_rc x.toNatClampNeg rfl (own_3a hx3) (own_3b hx3) (v := (.int 1)) hm k6_59 ?_
    jvm_step X200.here [X200.here.top, hx, (hb hby k6_60), Value.category]
    show own_S p e below m T200 61 L197 [(.int 1), (.int x), (.ref rc), (.int 1), (.ref qb)] _
    refine wiconst X200 hx hby k6_61 ?_
    refine XS.iadd X200.here hx rfl (hb hby k6_62) rfl ?_
    refine st202 _ ?_
    refine wiloadN X202 hx hby k6_64 L197_2 ?_
    show own_S p e below m T202 65 L197 [(.int rw), (.int 1), (.ref qb)] _
    refine st205 _ ?_
    exact X205.returnOut hx Bd.returns (hb hby k6_66) hr
  · show QB Z a1 oc od mc md sr sp sw ss co cf le re rc k_re k_rc r en wk st ol x rw gs ms qb kq q0 h0 n0 _ T205.heap _
    rw [e205]
    exact ⟨rfl, N205, f206, f207, f204⟩
set_option maxRecDepth 65536 in
set_option maxHeartbeats 40000000 in
theorem tlE {p : Program} {l : Launch} {e : Env} {R : Room} {s : State} {m : MethodId} {args : Array Value} {below : List Frame} {meth : Method} {c : Code} {T0 : State} {locs : List Loc} {cells slots : Nat} (Z : State) (a0 : Array Value) (hw : ∀ d ∈ tables_1, d.before a0 Z = true) (a1 oc od mc md sr sp sw ss co cf le re rc : Nat) (k_co k_cf k_le : ClassId) (r : Int32) (en wk : Int64) (st ol n : Int32) (nc nd : Nat) (cs fl ls : List Value) (LL : Array Slot) (h0 : Heap) (n0 : Nat) (X0 : Stand p l e R s m args below meth c T0 locs cells slots) (hx : p.tables.exec = Jvm.exec) (hZ : Z.Warmed39 s.vm) (hby : c.code = prog_14_method_3_code) (hml : c.maxLocals = 13) (hown : s.vm.findClass "com/example/odds2/odds2/engine/Elimination" = some m.cls) (e0 : T0.heap = h0) (N0 : Fr n0 locs) (LL_0 : LL[0]? = some (.val (.ref a1))) (LL_2 : LL[2]? = some (.val (.ref nc))) (LL_3 : LL[3]? = some (.val (.ref nd))) (LL_4 : LL[4]? = some (.val (.int n))) (O_a : own_E Z h0 a1 oc od mc md sr sp sw ss co cf le re rc r en wk ol st) (V_co : Arv Z h0 co k_co (.array .int) (3 : Int32) cs .null) (V_cf : Arv Z h0 cf k_cf (.array .double) (3 : Int32) fl .null) (V_le : Arv Z h0 le k_le .int 3 ls (.int 0)) (OVc : OvrA Z k_co .int "[I") (OVf : OvrA Z k_cf .double "[D") (E_c : Exa Z h0 nc "[I") (E_d : Exa Z h0 nd "[D") (hr3 : own_3 r) (lcs : cs.length = 3) (lfs : fl.length = 3) (lls : ls.length = 3) (oc1 : le < nc) (oc2 : nc < nd) (ord : own_ord a1 oc od mc md sr sp sw ss co cf le re rc) (g_a : n0 ≤ a1) :
    ∃ (T' : State) (h' : Heap) (L' : List Loc), Stand p l e R s m args below meth c T' L' cells slots ∧ T'.heap = h' ∧ Fr n0 L' ∧ Keep h0 h' [a1, co, cf, le] ∧ own_E Z h' a1 oc od mc md sr sp sw ss co cf le re rc (r + (1 : Int32)) (en + n.toInt64) (wk + n.toInt64) (0 : Int32) st ∧ Arv Z h' co k_co (.array .int) (3 : Int32) (cs.set r.toNatClampNeg (.ref nc)) .null ∧ Arv Z h' cf k_cf (.array .double) (3 : Int32) (fl.set r.toNatClampNeg (.ref nd)) .null ∧ Arv Z h' le k_le .int 3 (ls.set r.toNatClampNeg (.int n)) (.int 0) ∧ ∀ target, own_S p e below m T' 234 LL [] target → own_S p e below m T0 164 LL [] target := by
  have hl := own_laid_of hw
  obtain ⟨or0, or1, or2, or3, or4, or5, or6, or7, or8, or9, or10, or11, or12⟩ := id ord
  obtain ⟨T208, X208, e208, st208⟩ := wget X0 hx hby hZ hown (hw _ tm35) e0 (O_a.at 1) LL [] k7_165
  obtain ⟨T209, X209, e209, st209⟩ := wget X208 hx hby hZ hown (hw _ tm69) e208 (O_a.at 6) LL [(.ref co)] k7_169
  obtain ⟨cl210, Ar210, q210, S210, M210, Hh210, G210⟩ := id V_co
  obtain ⟨T211, h211, X211, e211, W211, st211⟩ := stR X209 hx hZ e209 Ar210 (j := r) (inb_of S210 ⟨(own_3a hr3), (own_3b hr3)⟩) rfl (Sto.ofVA Ar210 q210 OVc (Ins.self E_c)) (g := (mkF m 173 LL [(.ref nc), (.int r), (.ref co)])) rfl rfl (hb hby k7_173)
  have f212 := Arv.set Ar210 q210 S210 M210 Hh210 G210 rfl W211 r.toNatClampNeg rfl (by rw [lcs]; exact own_3c hr3)
  have N211 := Fr.snoc X211 N0 (by omega : n0 ≤ (co : Nat))
  have f213 := (O_a.other W211 (by omega : (a1 : Nat) ≠ co))
  obtain ⟨T214, X214, e214, st214⟩ := wget X211 hx hby hZ hown (hw _ tm39) e211 (f213.at 2) LL [] k7_175
  obtain ⟨T215, X215, e215, st215⟩ := wget X214 hx hby hZ hown (hw _ tm69) e214 (f213.at 6) LL [(.ref cf)] k7_179
  have f216 := (V_cf.other W211 (by omega : (cf : Nat) ≠ co))
  obtain ⟨cl217, Ar217, q217, S217, M217, Hh217, G217⟩ := id f216
  have f218 := (E_d.wr W211)
  obtain ⟨T219, h219, X219, e219, W219, st219⟩ := stR X215 hx hZ e215 Ar217 (j := r) (inb_of S217 ⟨(own_3a hr3), (own_3b hr3)⟩) rfl (Sto.ofVA Ar217 q217 OVf (Ins.self f218)) (g := (mkF m 183 LL [(.ref nd), (.int r), (.ref cf)])) rfl rfl (hb hby k7_183)
  have f220 := Arv.set Ar217 q217 S217 M217 Hh217 G217 rfl W219 r.toNatClampNeg rfl (by rw [lfs]; exact own_3c hr3)
  have N219 := Fr.snoc X219 N211 (by omega : n0 ≤ (cf : Nat))
  have f221 := (f213.other W219 (by omega : (a1 : Nat) ≠ cf))
  obtain ⟨T222, X222, e222, st222⟩ := wget X219 hx hby hZ hown (hw _ tm41) e219 (f221.at 3) LL [] k7_185
  obtain ⟨T223, X223, e223, st223⟩ := wget X222 hx hby hZ hown (hw _ tm69) e222 (f221.at 6) LL [(.ref le)] k7_189
  have f224 := ((V_le.other W211 (by omega : (le : Nat) ≠ co)).other W219 (by omega : (le : Nat) ≠ cf))
  obtain ⟨T226, h226, X226, e226, W226, f225, N226, st226⟩ := wiastore X223 hx hby hZ e223 N219 f224 (by omega : n0 ≤ (le : Nat)) r n r.toNatClampNeg rfl (own_3a hr3) (own_3b hr3) (by rw [lls]; exact own_3c hr3) LL [] k7_194
  have f227 := (f221.other W226 (by omega : (a1 : Nat) ≠ le))
  obtain ⟨T228, X228, e228, st228⟩ := wget X226 hx hby hZ hown (hw _ tm73) e226 (f227.at 7) LL [(.ref a1)] k7_197
  obtain ⟨T229, h229, X229, e229, W229, st229⟩ := putF X228 hx hZ hown (host := "") (Or.inl (hw _ tm73)) Via.refl e228 (f227.2.2 7 (by decide)) f227.1 (Or.inl (hw _ tm74)) (hw _ tm6) (ty := .long) (by decide) rfl rfl (g := (mkF m 204 LL [(.long (en + n.toInt64)), (.ref a1)])) rfl rfl (hb hby k7_204)
  have N229 := Fr.snoc X229 N226 (by omega : n0 ≤ (a1 : Nat))
  have f230 : own_E Z h229 a1 oc od mc md sr sp sw ss co cf le re rc r (en + n.toInt64) wk ol st := own_put f227 hl (i := 7) (by decide) W229
  obtain ⟨T231, X231, e231, st231⟩ := wget X229 hx hby hZ hown (hw _ tm75) e229 (f230.at 8) LL [(.ref a1)] k7_209
  obtain ⟨T232, h232, X232, e232, W232, st232⟩ := putF X231 hx hZ hown (host := "") (Or.inl (hw _ tm75)) Via.refl e231 (f230.2.2 8 (by decide)) f230.1 (Or.inl (hw _ tm76)) (hw _ tm6) (ty := .long) (by decide) rfl rfl (g := (mkF m 216 LL [(.long (wk + n.toInt64)), (.ref a1)])) rfl rfl (hb hby k7_216)
  have N232 := Fr.snoc X232 N229 (by omega : n0 ≤ (a1 : Nat))
  have f233 : own_E Z h232 a1 oc od mc md sr sp sw ss co cf le re rc r (en + n.toInt64) (wk + n.toInt64) ol st := own_put f230 hl (i := 8) (by decide) W232
  obtain ⟨T234, X234, e234, st234⟩ := wget X232 hx hby hZ hown (hw _ tm69) e232 (f233.at 6) LL [(.ref a1)] k7_221
  obtain ⟨T235, h235, X235, e235, W235, st235⟩ := putF X234 hx hZ hown (host := "") (Or.inl (hw _ tm69)) Via.refl e234 (f233.2.2 6 (by decide)) f233.1 (Or.inl (hw _ tm70)) (hw _ tm6) (ty := .int) (by decide) rfl rfl (g := (mkF m 226 LL [(.int (r + (1 : Int32))), (.ref a1)])) rfl rfl (hb hby k7_226)
  have N235 := Fr.snoc X235 N232 (by omega : n0 ≤ (a1 : Nat))
  have f236 : own_E Z h235 a1 oc od mc md sr sp sw ss co cf le re rc (r + (1 : Int32)) (en + n.toInt64) (wk + n.toInt64) ol st := own_put f233 hl (i := 6) (by decide) W235
  obtain ⟨T237, h237, X237, e237, W237, st237⟩ := putF X235 hx hZ hown (host := "") (Or.inl (hw _ tm52)) Via.refl e235 (f236.2.2 11 (by decide)) f236.1 (Or.inl (hw _ tm53)) (hw _ tm6) (ty := .int) (by decide) rfl rfl (g := (mkF m 231 LL [(.int 0), (.ref a1)])) rfl rfl (hb hby k7_231)
  have N237 := Fr.snoc X237 N235 (by omega : n0 ≤ (a1 : Nat))
  have f238 : own_E Z h237 a1 oc od mc md sr sp sw ss co cf le re rc (r + (1 : Int32)) (en + n.toInt64) (wk + n.toInt64) (0 : Int32) st := own_put f236 hl (i := 11) (by decide) W237
  have f239 := ((((((((Keep.refl h0 [a1, co, cf, le]).wr W211 (Or.inl (List.mem_of_getElem? (i := 1) rfl))).wr W219 (Or.inl (List.mem_of_getElem? (i := 2) rfl))).wr W226 (Or.inl (List.mem_of_getElem? (i := 3) rfl))).wr W229 (Or.inl (List.mem_of_getElem? (i := 0) rfl))).wr W232 (Or.inl (List.mem_of_getElem? (i := 0) rfl))).wr W235 (Or.inl (List.mem_of_getElem? (i := 0) rfl))).wr W237 (Or.inl (List.mem_of_getElem? (i := 0) rfl)))
  have f240 := ((((((f212.other W219 (by omega : (co : Nat) ≠ cf)).other W226 (by omega : (co : Nat) ≠ le)).other W229 (by omega : (co : Nat) ≠ a1)).other W232 (by omega : (co : Nat) ≠ a1)).other W235 (by omega : (co : Nat) ≠ a1)).other W237 (by omega : (co : Nat) ≠ a1))
  have f241 := (((((f220.other W226 (by omega : (cf : Nat) ≠ le)).other W229 (by omega : (cf : Nat) ≠ a1)).other W232 (by omega : (cf : Nat) ≠ a1)).other W235 (by omega : (cf : Nat) ≠ a1)).other W237 (by omega : (cf : Nat) ≠ a1))
  have f242 := ((((f225.other W229 (by omega : (le : Nat) ≠ a1)).other W232 (by omega : (le : Nat) ≠ a1)).other W235 (by omega : (le : Nat) ≠ a1)).other W237 (by omega : (le : Nat) ≠ a1))
  refine ⟨T237, _, _, X237, e237, N237, f239, f238, f240, f241, f242, fun target kt => ?_⟩
  show own_S p e below m T0 164 LL [] _
  refine waloadN X0 hx hby k7_164 LL_0 rfl ?_
  refine st208 _ ?_
  refine waloadN X208 hx hby k7_168 LL_0 rfl ?_
  refine st209 _ ?_
  show own_S p e below m T209 172 LL [(.int r), (.ref co)] _
  refine waloadN X209 hx hby k7_172 LL_2 rfl ?_
  refine st211 _ ?_
  refine waloadN X211 hx hby k7_174 LL_0 rfl ?_
  refine st214 _ ?_
  show own_S p e below m T214 178 LL [(.ref cf)] _
  refine waloadN X214 hx hby k7_178 LL_0 rfl ?_
  refine st215 _ ?_
  refine waloadN X215 hx hby k7_182 LL_3 rfl ?_
  refine st219 _ ?_
  show own_S p e below m T219 184 LL [] _
  refine waloadN X219 hx hby k7_184 LL_0 rfl ?_
  refine st222 _ ?_
  refine waloadN X222 hx hby k7_188 LL_0 rfl ?_
  refine st223 _ ?_
  show own_S p e below m T223 192 LL [(.int r), (.ref le)] _
  refine wiload X223 hx hby k7_192 LL_4 ?_
  refine st226 _ ?_
  refine waloadN X226 hx hby k7_195 LL_0 rfl ?_
  refine XS.dup X226.here hx rfl (hb hby k7_196) rfl rfl ?_
  show own_S p e below m T226 197 LL [(.ref a1), (.ref a1)] _
  refine st228 _ ?_
  refine wiload X228 hx hby k7_200 LL_4 ?_
  refine XS.i2l X228.here hx rfl (hb hby k7_202) rfl ?_
  refine XS.ladd X228.here hx rfl (hb hby k7_203) rfl ?_
  show own_S p e below m T228 204 LL [(.long (en + n.toInt64)), (.ref a1)] _
  refine st229 _ ?_
  refine waloadN X229 hx hby k7_207 LL_0 rfl ?_
  refine XS.dup X229.here hx rfl (hb hby k7_208) rfl rfl ?_
  refine st231 _ ?_
  show own_S p e below m T231 212 LL [(.long wk), (.ref a1)] _
  refine wiload X231 hx hby k7_212 LL_4 ?_
  refine XS.i2l X231.here hx rfl (hb hby k7_214) rfl ?_
  refine XS.ladd X231.here hx rfl (hb hby k7_215) rfl ?_
  refine st232 _ ?_
  show own_S p e below m T232 219 LL [] _
  refine waloadN X232 hx hby k7_219 LL_0 rfl ?_
  refine XS.dup X232.here hx rfl (hb hby k7_220) rfl rfl ?_
  refine st234 _ ?_
  refine wiconst X234 hx hby k7_224 ?_
  show own_S p e below m T234 225 LL [(.int 1), (.int r), (.ref a1)] _
  refine XS.iadd X234.here hx rfl (hb hby k7_225) rfl ?_
  refine st235 _ ?_
  refine waloadN X235 hx hby k7_229 LL_0 rfl ?_
  refine wiconst X235 hx hby k7_230 ?_
  show own_S p e below m T235 231 LL [(.int 0), (.ref a1)] _
  refine st237 _ ?_
  exact kt
theorem ef_E0 (m : MethodId) (x0 : Addr) : entryFrame m #[(.ref x0)] 13 = mkF m 0 #[.val (.ref x0), .unset, .unset, .unset, .unset, .unset, .unset, .unset, .unset, .unset, .unset, .unset, .unset] [] := by first | (simp [entryFrame, mkF, argsToLocals, Value.category]; done) | rfl
theorem pn_E0 : plainName "com/example/odds2/odds2/engine/Elimination" = true := by first | (simp [plainName, overriddenIn]; done) | decide +kernel
def QE0 (Z : State) (a1 oc od mc md sr sp sw ss co cf le re rc : Nat) (k_co k_cf k_le : ClassId) (r : Int32) (en wk : Int64) (st : Int32) (cs fl ls : List Value) (h0 : Heap) (n0 : Nat) (v : Option Value) (h : Heap) (L : List Loc) : Prop := ∃ (nc nd : Nat) (kc kd : ClassId), v = none ∧ Fr n0 L ∧ Keep h0 h [a1, co, cf, le] ∧ own_E Z h a1 oc od mc md sr sp sw ss co cf le re rc (r + (1 : Int32)) (en + (0 : Int32).toInt64) (wk + (0 : Int32).toInt64) (0 : Int32) st ∧ Arv Z h co k_co (.array .int) (3 : Int32) (cs.set (r).toNatClampNeg (.ref nc)) .null ∧ Arv Z h cf k_cf (.array .double) (3 : Int32) (fl.set (r).toNatClampNeg (.ref nd)) .null ∧ Arv Z h le k_le .int 3 (ls.set (r).toNatClampNeg (.int 0)) (.int 0) ∧ Arv Z h nc kc .int 0 [] (.int 0) ∧ Arv Z h nd kd .double 0 [] (.double 0) ∧ h0.size ≤ nc ∧ nc < nd
set_option maxRecDepth 65536 in
set_option maxHeartbeats 40000000 in
theorem rmE0 (l : Launch) (Z : State) (a0 : Array Value) (hw : ∀ d ∈ tables_1, d.before a0 Z = true) (ws : List Jvm.Cond) (a1 oc od mc md sr sp sw ss co cf le re rc : Nat) (k_co k_cf k_le : ClassId) (r : Int32) (en wk : Int64) (st : Int32) (cs fl ls : List Value) (h0 : Heap) (n0 : Nat) (Z0 : n0 ≤ h0.size) (O_a : own_E Z h0 a1 oc od mc md sr sp sw ss co cf le re rc r en wk (0 : Int32) st) (V_co : Arv Z h0 co k_co (.array .int) (3 : Int32) cs .null) (V_cf : Arv Z h0 cf k_cf (.array .double) (3 : Int32) fl .null) (V_le : Arv Z h0 le k_le .int 3 ls (.int 0)) (OVc : OvrA Z k_co .int "[I") (OVf : OvrA Z k_cf .double "[D") (lcs : cs.length = 3) (lfs : fl.length = 3) (lls : ls.length = 3) (hr3 : own_3 r) (ord : own_ord a1 oc od mc md sr sp sw ss co cf le re rc) (g_a : n0 ≤ a1) :
    MetFree l (⟨"com/example/odds2/odds2/engine/Elimination", "endRow", "()V"⟩ : MethodName) (head1 (Jvm.Cond.code (⟨"com/example/odds2/odds2/engine/Elimination", "endRow", "()V"⟩ : MethodName) prog_14_method_3_code 13 none :: ws) ({ frames := 4, cells := 3, slots := 0, locals := 84 } : Room)) (fun a U => a = #[(.ref a1)] ∧ Z.Warmed39 U.vm ∧ U.heap = h0) (fun _ _ _ _ _ => True) (fun _ U o U' => ∃ v L, o = .returned v ∧ QE0 Z a1 oc od mc md sr sp sw ss co cf le re rc k_co k_cf k_le r en wk st cs fl ls h0 n0 v U'.heap L ∧ FrameEnd U o U' L ({ frames := 4, cells := 3, slots := 0, locals := 84 } : Room).cells ({ frames := 4, cells := 3, slots := 0, locals := 84 } : Room).slots) := by
  refine MetFree.of_bodySF (plainFor_of_name pn_E0) hisR ?_
  intro p e s m args below meth c s₁ Bd hml0 hP hK
  obtain ⟨rfl, hZ, hh⟩ := hP
  have hx := Bd.exec
  have hby := Bd.bytes
  have hml : c.maxLocals = 13 := hml0
  have hown : s.vm.findClass "com/example/odds2/odds2/engine/Elimination" = some m.cls := findClass_of_methodNamed Bd.named
  have hnm := (name_of_methodNamed Bd.named Bd.method).1
  have X0 : Stand p l e ({ frames := 4, cells := 3, slots := 0, locals := 84 } : Room) s m #[(.ref a1)] below meth c s₁ [] 0 0 := Stand.of_body Bd
  have e0 : s₁.heap = h0 := by rw [← hh, Bd.state]; rfl
  have N0 := Fr.nil n0
  have pre0 : ∀ t, Steps p.tables e below (s₁.setTop (mkF m 0 #[.val (.ref a1), .unset, .unset, .unset, .unset, .unset, .unset, .unset, .unset, .unset, .unset, .unset, .unset] [])) t → Steps p.tables e below (s₁.setTop (entryFrame m #[(.ref a1)] 13)) t := fun t k => castTop (ef_E0 m a1) k
  have hl := own_laid_of hw
  obtain ⟨or0, or1, or2, or3, or4, or5, or6, or7, or8, or9, or10, or11, or12⟩ := id ord
  obtain ⟨L243, hL243⟩ := own_nm #[.val (.ref a1), .unset, .unset, .unset, .unset, .unset, .unset, .unset, .unset, .unset, .unset, .unset, .unset]
  have L243_0 := own_ld hL243 0 rfl
  obtain ⟨T244, X244, e244, st244⟩ := wget X0 hx hby hZ hown (hw _ tm52) e0 (O_a.at 11) L243 [] k7_1
  obtain ⟨T245, h245, k245, X245, e245, E245, A245, Q245, st245⟩ := newPE X244 hx hZ (aty := .long) (hw _ tm54) e244 (g := (mkF m 4 L243 [(.int 0)])) rfl (hb hby k7_4) rfl (by decide) (cap := 0) (by decide) (by decide) (by decide) (by decide) (ad := "[J") (by decide)
  obtain ⟨nk, g245⟩ : ∃ z, z = h0.size := ⟨_, rfl⟩
  rw [← g245] at A245 Q245 st245
  have lt_a1_nk : (a1 : Nat) < nk := by rw [g245]; exact O_a.lt
  have lt_cf_nk : (cf : Nat) < nk := by rw [g245]; exact V_cf.lt
  have lt_co_nk : (co : Nat) < nk := by rw [g245]; exact V_co.lt
  have lt_le_nk : (le : Nat) < nk := by rw [g245]; exact V_le.lt
  have sz_h0_nk : h0.size ≤ (nk : Nat) := by rw [g245]; exact (Keep.refl h0 [a1, co, cf, le]).1
  have f246 : Arv Z h245 nk k245 .long 0 [] (.long 0) := (Arv.new A245 (by decide)).pad (pad_rep [] (.long 0) 0)
  obtain ⟨L247, hL247⟩ := own_nm #[.val (.ref a1), .val (.ref nk), .unset, .unset, .unset, .unset, .unset, .unset, .unset, .unset, .unset, .unset, .unset]
  obtain ⟨L248, hL248⟩ := own_nm #[.val (.ref a1), .val (.ref nk), .val (.int 0), .unset, .unset, .unset, .unset, .unset, .unset, .unset, .unset, .unset, .unset]
  have L248_2 := own_ld hL248 2 rfl
  have L248_0 := own_ld hL248 0 rfl
  have f249 := (O_a.ext E245)
  obtain ⟨T250, X250, e250, st250⟩ := wget X245 hx hby hZ hown (hw _ tm52) e245 (f249.at 11) L248 [(.int 0)] k7_11
  have L248_1 := own_ld hL248 1 rfl
  have f252 := ((Keep.refl h0 [a1, co, cf, le]).ext E245)
  have Z251 : n0 ≤ h245.size := Nat.le_trans Z0 f252.1
  have f251 : Arv Z h245 nk k245 .long 0 [(.long 0), (.long 0)] (.long 0) := (f246).pad (fun i => own_pad0 i)
  obtain ⟨_, _, ⟨T253, L253, k253, n253⟩, -, X253, ⟨Lc253, hQ253, l253, y253, z253⟩, st253⟩ := Jvm.LawKit.callS X250 hx (y := (⟨"java/util/Arrays", "sort", "([J)V"⟩ : MethodName)) hown (mvT hZ (hw _ tm55)) (mvT hZ (hw _ tm56)) (mvT hZ (hw _ tm57)) (mvT hZ (hw _ tm58)) (by decide) (backOf (W := 0) (rms0 l Z a0 hw [] nk k245 (0 : Int32) (0 : Int64) (0 : Int64) h245 n0 Z251 f251 (by unfold own_3; decide) (fun q => absurd q (by decide))) hZ (hw _ tm58) (hw _ tm57) (by decide) (by decide)) (g := (mkF m 40 L248 [(.ref nk)])) rfl (by rw [hml, hL248]; rfl) (argsL := [(.ref nk)]) (rest := []) (lenOf pd_3 rfl) rfl (by show 2 * 0 + _ ≤ _; exact Nat.le_of_eq rfl) (hb hby k7_40) (fun _ _ => ⟨rfl, e250, (by decide : 1 + 0 ≤ _), (by decide : 0 + 0 ≤ _)⟩)
  dsimp only [Pt.U, Pt.locs, Pt.cells, Pt.slots] at X253 l253 y253 z253 st253 hQ253
  subst l253 y253 z253
  obtain ⟨rfl, N253q, eh253⟩ := hQ253
  have N253 := Fr.app N0 N253q
  obtain ⟨T254, X254, e254, st254⟩ := wget X253 hx hby hZ hown (hw _ tm52) eh253 (f249.at 11) L248 [] k7_44
  obtain ⟨T255, h255, k255, X255, e255, E255, A255, Q255, st255⟩ := newPE X254 hx hZ (aty := .int) (hw _ tm0) e254 (g := (mkF m 47 L248 [(.int 0)])) rfl (hb hby k7_47) rfl (by decide) (cap := 0) (by decide) (by decide) (by decide) (by decide) (ad := "[I") (by decide)
  obtain ⟨nc, g255⟩ : ∃ z, z = h245.size := ⟨_, rfl⟩
  rw [← g255] at A255 Q255 st255
  have lt_nk_nc : (nk : Nat) < nc := by rw [g255]; exact f246.lt
  have sz_h0_nc : h0.size ≤ (nc : Nat) := by rw [g255]; exact f252.1
  have f256 : Arv Z h255 nc k255 .int 0 [] (.int 0) := (Arv.new A255 (by decide)).pad (pad_rep [] (.int 0) 0)
  obtain ⟨L257, hL257⟩ := own_nm #[.val (.ref a1), .val (.ref nk), .val (.ref nc), .unset, .unset, .unset, .unset, .unset, .unset, .unset, .unset, .unset, .unset]
  have L257_0 := own_ld hL257 0 rfl
  have f258 := (f249.ext E255)
  obtain ⟨T259, X259, e259, st259⟩ := wget X255 hx hby hZ hown (hw _ tm52) e255 (f258.at 11) L257 [] k7_51
  have f260 := (f252.ext E255)
  obtain ⟨T261, h261, k261, X261, e261, E261, A261, Q261, st261⟩ := newPE X259 hx hZ (aty := .double) (hw _ tm16) e259 (g := (mkF m 54 L257 [(.int 0)])) rfl (hb hby k7_54) rfl (by decide) (cap := 0) (by decide) (by decide) (by decide) (by decide) (ad := "[D") (by decide)
  obtain ⟨nd, g261⟩ : ∃ z, z = h255.size := ⟨_, rfl⟩
  rw [← g261] at A261 Q261 st261
  have lt_nc_nd : (nc : Nat) < nd := by rw [g261]; exact f256.lt
  have sz_h0_nd : h0.size ≤ (nd : Nat) := by rw [g261]; exact f260.1
  have f262 : Arv Z h261 nd k261 .double 0 [] (.double 0) := (Arv.new A261 (by decide)).pad (pad_rep [] (.double 0) 0)
  obtain ⟨L263, hL263⟩ := own_nm #[.val (.ref a1), .val (.ref nk), .val (.ref nc), .val (.ref nd), .unset, .unset, .unset, .unset, .unset, .unset, .unset, .unset, .unset]
  obtain ⟨L264, hL264⟩ := own_nm #[.val (.ref a1), .val (.ref nk), .val (.ref nc), .val (.ref nd), .val (.int 0), .unset, .unset, .unset, .unset, .unset, .unset, .unset, .unset]
  have L264_1 := own_ld hL264 1 rfl
  obtain ⟨L265, hL265⟩ := own_nm #[.val (.ref a1), .val (.ref nk), .val (.ref nc), .val (.ref nd), .val (.int 0), .val (.ref nk), .unset, .unset, .unset, .unset, .unset, .unset, .unset]
  have L265_5 := own_ld hL265 5 rfl
  have f266 := ((f246.ext E255).ext E261)
  obtain ⟨cl267, Ar267, -, S267, M267, -, -⟩ := id f266
  obtain ⟨L268, hL268⟩ := own_nm #[.val (.ref a1), .val (.ref nk), .val (.ref nc), .val (.ref nd), .val (.int 0), .val (.ref nk), .val (.int 0), .unset, .unset, .unset, .unset, .unset, .unset]
  obtain ⟨L269, hL269⟩ := own_nm #[.val (.ref a1), .val (.ref nk), .val (.ref nc), .val (.ref nd), .val (.int 0), .val (.ref nk), .val (.int 0), .val (.int 0), .unset, .unset, .unset, .unset, .unset]
  have L269_7 := own_ld hL269 7 rfl
  have L269_6 := own_ld hL269 6 rfl
  have L269_0 := own_ld hL269 0 rfl
  have L269_2 := own_ld hL269 2 rfl
  have L269_3 := own_ld hL269 3 rfl
  have L269_4 := own_ld hL269 4 rfl
  have f270 := (f258.ext E261)
  have f271 := (((V_co.ext E245).ext E255).ext E261)
  have f272 := (((V_cf.ext E245).ext E255).ext E261)
  have f273 := (((V_le.ext E245).ext E255).ext E261)
  have f274 := (Q255.ext E261)
  have f275 := (f260.ext E261)
  have f276 := ((Q245.ext E255).ext E261)
  have f277 := (f256.ext E261)
  obtain ⟨T278, h278, LT278, X278, e278, N278, K278, O278, Vo278, Vf278, Vl278, st278⟩ := tlE Z a0 hw a1 oc od mc md sr sp sw ss co cf le re rc k_co k_cf k_le r en wk st (0 : Int32) (0 : Int32) nc nd cs fl ls L269 h261 n0 X261 hx hZ hby hml hown e261 N253 L269_0 L269_2 L269_3 L269_4 f270 f271 f272 f273 OVc OVf f274 Q261 hr3 lcs lfs lls (by omega) (by omega) ord g_a
  have f279 := (f275.trans K278 (allS (Or.inl (List.mem_of_getElem? (i := 0) rfl)) (allS (Or.inl (List.mem_of_getElem? (i := 1) rfl)) (allS (Or.inl (List.mem_of_getElem? (i := 2) rfl)) (allS (Or.inl (List.mem_of_getElem? (i := 3) rfl)) all0)))))
  have f280 := (f277.keep K278 (by repeat' first | exact nin0 | refine ninS ?_ ?_ | (show (_ : Nat) ≠ _; omega)))
  have f281 := (f262.keep K278 (by repeat' first | exact nin0 | refine ninS ?_ ?_ | (show (_ : Nat) ≠ _; omega)))
  have szc : h0.size ≤ nc := by omega
  obtain ⟨fs, hr, hrun, hended, hW, hsame⟩ := X278.leave (v := none) (fun _ => rfl)
  refine ⟨_, _, pre0 _ ?_, hrun, hended, _, _, rfl, ?_, ⟨_, rfl⟩, hW, hsame.mono (by decide) (by decide)⟩
  · rw [← hL243]
    show own_S p e below m s₁ 0 L243 [] _
    refine waloadN X0 hx hby k7_0 L243_0 rfl ?_
    refine st244 _ ?_
    refine st245 _ ?_
    refine XS.astoreN X245.here hx rfl (hb hby k7_6) rfl rfl (l' := L247) (by rw [hL243, hL247]; rfl) ?_
    show own_S p e below m T245 7 L247 [] _
    refine wiconst X245 hx hby k7_7 ?_
    refine XS.istoreN X245.here hx rfl (hb hby k7_8) rfl (l' := L248) (by rw [hL247, hL248]; rfl) ?_
    refine wiloadN X245 hx hby k7_9 L248_2 ?_
    refine waloadN X245 hx hby k7_10 L248_0 rfl ?_
    show own_S p e below m T245 11 L248 [(.ref a1), (.int 0)] _
    refine st250 _ ?_
    refine wicmpYes X250 hx hby k7_14 14 39 rfl (by decide) (by decide) (by decide) ?_
    refine waloadN X250 hx hby k7_39 L248_1 rfl ?_
    refine st253 _ ?_
    show own_S p e below m T253 43 L248 [] _
    refine waloadN X253 hx hby k7_43 L248_0 rfl ?_
    refine st254 _ ?_
    refine st255 _ ?_
    refine XS.astoreN X255.here hx rfl (hb hby k7_49) rfl rfl (l' := L257) (by rw [hL248, hL257]; rfl) ?_
    show own_S p e below m T255 50 L257 [] _
    refine waloadN X255 hx hby k7_50 L257_0 rfl ?_
    refine st259 _ ?_
    refine st261 _ ?_
    refine XS.astoreN X261.here hx rfl (hb hby k7_56) rfl rfl (l' := L263) (by rw [hL257, hL263]; rfl) ?_
    show own_S p e below m T261 57 L263 [] _
    refine wiconst X261 hx hby k7_57 ?_
    refine wistore X261 hx hby k7_58 hL263 hL264 rfl ?_
    refine waloadN X261 hx hby k7_60 L264_1 rfl ?_
    refine XS.astore X261.here hx rfl (hb hby k7_61) rfl rfl (l' := L265) (by rw [hL264, hL265]; rfl) ?_
    show own_S p e below m T261 63 L265 [] _
    refine waload X261 hx hby k7_63 L265_5 rfl ?_
    refine X261.arraylength hx (by rw [e261]; exact Ar267.1) (State.isArrayOf_alike hZ.alike Ar267.2.1) (g := (mkF m 65 L265 [(.ref nk)])) rfl rfl (hb hby k7_65) _ ?_
    rw [len_of S267 M267]
    show own_S p e below m T261 66 L265 [(.int 0)] _
    refine wistore X261 hx hby k7_66 hL265 hL268 rfl ?_
    refine wiconst X261 hx hby k7_68 ?_
    refine wistore X261 hx hby k7_69 hL268 hL269 rfl ?_
    refine wiload X261 hx hby k7_71 L269_7 ?_
    show own_S p e below m T261 73 L269 [(.int 0)] _
    refine wiload X261 hx hby k7_73 L269_6 ?_
    refine wicmpYes X261 hx hby k7_75 75 164 rfl (by decide) (by decide) (by decide) ?_
    refine st278 _ ?_
    exact X278.returnOut hx Bd.returns (hb hby k7_234) hr
  · show QE0 Z a1 oc od mc md sr sp sw ss co cf le re rc k_co k_cf k_le r en wk st cs fl ls h0 n0 _ T278.heap _
    rw [e278]
    exact ⟨nc, nd, k255, k261, rfl, N278, f279, O278, Vo278, Vf278, Vl278, f280, f281, szc, (by omega)⟩
theorem ef_E1 (m : MethodId) (x0 : Addr) : entryFrame m #[(.ref x0)] 13 = mkF m 0 #[.val (.ref x0), .unset, .unset, .unset, .unset, .unset, .unset, .unset, .unset, .unset, .unset, .unset, .unset] [] := by first | (simp [entryFrame, mkF, argsToLocals, Value.category]; done) | rfl
theorem pn_E1 : plainName "com/example/odds2/odds2/engine/Elimination" = true := by first | (simp [plainName, overriddenIn]; done) | decide +kernel
def QE1 (Z : State) (a1 oc od mc md sr sp sw ss co cf le re rc : Nat) (k_co k_cf k_le k_oc k_od k_re k_rc : ClassId) (r : Int32) (en wk : Int64) (st : Int32) (cs fl ls : List Value) (x c1 : Int32) (d1 y0 : UInt64) (gs ms : List Value) (h0 : Heap) (n0 : Nat) (v : Option Value) (h : Heap) (L : List Loc) : Prop := ∃ (nc nd nb0 : Nat) (kc kd kb0 : ClassId), v = none ∧ Fr n0 L ∧ Keep h0 h [a1, co, cf, le, re, rc] ∧ own_E Z h a1 oc od mc md sr sp sw ss co cf le re rc (r + (1 : Int32)) (en + (1 : Int32).toInt64) (wk + (1 : Int32).toInt64) (0 : Int32) st ∧ Arv Z h co k_co (.array .int) (3 : Int32) (cs.set (r).toNatClampNeg (.ref nc)) .null ∧ Arv Z h cf k_cf (.array .double) (3 : Int32) (fl.set (r).toNatClampNeg (.ref nd)) .null ∧ Arv Z h le k_le .int 3 (ls.set (r).toNatClampNeg (.int 1)) (.int 0) ∧ Arv Z h re k_re (.array .int) (3 : Int32) (gs.set (x).toNatClampNeg (.ref nb0)) .null ∧ Arv Z h rc k_rc .int 3 (ms.set (x).toNatClampNeg (.int 1)) (.int 0) ∧ Arv Z h nc kc .int 1 [(.int x)] (.int 0) ∧ Arv Z h nd kd .double 1 [(.double y0)] (.double 0) ∧ Arv Z h nb0 kb0 .int 4 [(.int r), (.int 0), (.int 0), (.int 0)] (.int 0) ∧ h0.size ≤ nc ∧ nc < nd ∧ nd < nb0
set_option maxRecDepth 65536 in
set_option maxHeartbeats 40000000 in
theorem rmE1 (l : Launch) (Z : State) (a0 : Array Value) (hw : ∀ d ∈ tables_1, d.before a0 Z = true) (ws : List Jvm.Cond) (a1 oc od mc md sr sp sw ss co cf le re rc : Nat) (k_co k_cf k_le k_oc k_od k_re k_rc : ClassId) (r : Int32) (en wk : Int64) (st : Int32) (cs fl ls : List Value) (x c1 : Int32) (d1 y0 : UInt64) (gs ms : List Value) (h0 : Heap) (n0 : Nat) (Z0 : n0 ≤ h0.size) (O_a : own_E Z h0 a1 oc od mc md sr sp sw ss co cf le re rc r en wk (1 : Int32) st) (V_co : Arv Z h0 co k_co (.array .int) (3 : Int32) cs .null) (V_cf : Arv Z h0 cf k_cf (.array .double) (3 : Int32) fl .null) (V_le : Arv Z h0 le k_le .int 3 ls (.int 0)) (V_oc : Arv Z h0 oc k_oc .int 16 [(.int x), (.int c1)] (.int 0)) (V_od : Arv Z h0 od k_od .double 16 [(.double y0), (.double d1)] (.double 0)) (V_re : Arv Z h0 re k_re (.array .int) (3 : Int32) gs .null) (V_rc : Arv Z h0 rc k_rc .int 3 ms (.int 0)) (OVc : OvrA Z k_co .int "[I") (OVf : OvrA Z k_cf .double "[D") (lcs : cs.length = 3) (lfs : fl.length = 3) (lls : ls.length = 3) (hr3 : own_3 r) (OV : OvrA Z k_re .int "[I") (lgs : gs.length = 3) (lms : ms.length = 3) (hx3 : own_3 x) (hg0 : gs.getD (x).toNatClampNeg .null = .null) (hm0 : ms.getD (x).toNatClampNeg (.int 0) = .int 0) (ord : own_ord a1 oc od mc md sr sp sw ss co cf le re rc) (g_a : n0 ≤ a1) :
    MetFree l (⟨"com/example/odds2/odds2/engine/Elimination", "endRow", "()V"⟩ : MethodName) (head1 (Jvm.Cond.code (⟨"com/example/odds2/odds2/engine/Elimination", "endRow", "()V"⟩ : MethodName) prog_14_method_3_code 13 none :: ws) ({ frames := 4, cells := 4, slots := 7, locals := 84 } : Room)) (fun a U => a = #[(.ref a1)] ∧ Z.Warmed39 U.vm ∧ U.heap = h0) (fun _ _ _ _ _ => True) (fun _ U o U' => ∃ v L, o = .returned v ∧ QE1 Z a1 oc od mc md sr sp sw ss co cf le re rc k_co k_cf k_le k_oc k_od k_re k_rc r en wk st cs fl ls x c1 d1 y0 gs ms h0 n0 v U'.heap L ∧ FrameEnd U o U' L ({ frames := 4, cells := 4, slots := 7, locals := 84 } : Room).cells ({ frames := 4, cells := 4, slots := 7, locals := 84 } : Room).slots) := by
  refine MetFree.of_bodySF (plainFor_of_name pn_E1) hisR ?_
  intro p e s m args below meth c s₁ Bd hml0 hP hK
  obtain ⟨rfl, hZ, hh⟩ := hP
  have hx := Bd.exec
  have hby := Bd.bytes
  have hml : c.maxLocals = 13 := hml0
  have hown : s.vm.findClass "com/example/odds2/odds2/engine/Elimination" = some m.cls := findClass_of_methodNamed Bd.named
  have hnm := (name_of_methodNamed Bd.named Bd.method).1
  have X0 : Stand p l e ({ frames := 4, cells := 4, slots := 7, locals := 84 } : Room) s m #[(.ref a1)] below meth c s₁ [] 0 0 := Stand.of_body Bd
  have e0 : s₁.heap = h0 := by rw [← hh, Bd.state]; rfl
  have N0 := Fr.nil n0
  have pre0 : ∀ t, Steps p.tables e below (s₁.setTop (mkF m 0 #[.val (.ref a1), .unset, .unset, .unset, .unset, .unset, .unset, .unset, .unset, .unset, .unset, .unset, .unset] [])) t → Steps p.tables e below (s₁.setTop (entryFrame m #[(.ref a1)] 13)) t := fun t k => castTop (ef_E1 m a1) k
  have hl := own_laid_of hw
  obtain ⟨or0, or1, or2, or3, or4, or5, or6, or7, or8, or9, or10, or11, or12⟩ := id ord
  obtain ⟨L282, hL282⟩ := own_nm #[.val (.ref a1), .unset, .unset, .unset, .unset, .unset, .unset, .unset, .unset, .unset, .unset, .unset, .unset]
  have L282_0 := own_ld hL282 0 rfl
  obtain ⟨T283, X283, e283, st283⟩ := wget X0 hx hby hZ hown (hw _ tm52) e0 (O_a.at 11) L282 [] k7_1
  obtain ⟨T284, h284, k284, X284, e284, E284, A284, Q284, st284⟩ := newPE X283 hx hZ (aty := .long) (hw _ tm54) e283 (g := (mkF m 4 L282 [(.int 1)])) rfl (hb hby k7_4) rfl (by decide) (cap := 1) (by decide) (by decide) (by decide) (by decide) (ad := "[J") (by decide)
  obtain ⟨nk, g284⟩ : ∃ z, z = h0.size := ⟨_, rfl⟩
  rw [← g284] at A284 Q284 st284
  have lt_a1_nk : (a1 : Nat) < nk := by rw [g284]; exact O_a.lt
  have lt_cf_nk : (cf : Nat) < nk := by rw [g284]; exact V_cf.lt
  have lt_co_nk : (co : Nat) < nk := by rw [g284]; exact V_co.lt
  have lt_le_nk : (le : Nat) < nk := by rw [g284]; exact V_le.lt
  have lt_oc_nk : (oc : Nat) < nk := by rw [g284]; exact V_oc.lt
  have lt_od_nk : (od : Nat) < nk := by rw [g284]; exact V_od.lt
  have lt_rc_nk : (rc : Nat) < nk := by rw [g284]; exact V_rc.lt
  have lt_re_nk : (re : Nat) < nk := by rw [g284]; exact V_re.lt
  have sz_h0_nk : h0.size ≤ (nk : Nat) := by rw [g284]; exact (Keep.refl h0 [a1, co, cf, le, re, rc]).1
  have f285 : Arv Z h284 nk k284 .long 1 [(.long 0)] (.long 0) := (Arv.new A284 (by decide)).pad (pad_rep [] (.long 0) 1)
  obtain ⟨L286, hL286⟩ := own_nm #[.val (.ref a1), .val (.ref nk), .unset, .unset, .unset, .unset, .unset, .unset, .unset, .unset, .unset, .unset, .unset]
  obtain ⟨L287, hL287⟩ := own_nm #[.val (.ref a1), .val (.ref nk), .val (.int 0), .unset, .unset, .unset, .unset, .unset, .unset, .unset, .unset, .unset, .unset]
  have L287_2 := own_ld hL287 2 rfl
  have L287_0 := own_ld hL287 0 rfl
  have f288 := (O_a.ext E284)
  obtain ⟨T289, X289, e289, st289⟩ := wget X284 hx hby hZ hown (hw _ tm52) e284 (f288.at 11) L287 [(.int 0)] k7_11
  have L287_1 := own_ld hL287 1 rfl
  obtain ⟨T290, X290, e290, st290⟩ := wget X289 hx hby hZ hown (hw _ tm14) e289 (f288.at 9) L287 [(.int 0), (.ref nk)] k7_20
  have f291 := (V_oc.ext E284)
  obtain ⟨T293, h293, X293, e293, W293, f292, N293, st293⟩ := wlastore X290 hx hby hZ e290 N0 f285 (by omega : n0 ≤ (nk : Nat)) (0 : Int32) (own_key x) 0 rfl (by decide) (by decide) (Nat.le_of_ble_eq_true rfl) L287 [] k7_32
  obtain ⟨L294, hL294⟩ := own_nm #[.val (.ref a1), .val (.ref nk), .val (.int 1), .unset, .unset, .unset, .unset, .unset, .unset, .unset, .unset, .unset, .unset]
  have L294_2 := own_ld hL294 2 rfl
  have L294_0 := own_ld hL294 0 rfl
  have f295 := (f288.other W293 (by omega : (a1 : Nat) ≠ nk))
  obtain ⟨T296, X296, e296, st296⟩ := wget X293 hx hby hZ hown (hw _ tm52) e293 (f295.at 11) L294 [(.int 1)] k7_11
  have L294_1 := own_ld hL294 1 rfl
  have f298 := (((Keep.refl h0 [a1, co, cf, le, re, rc]).ext E284).wr W293 (Or.inr (by omega : h0.size ≤ (nk : Nat))))
  have Z297 : n0 ≤ h293.size := Nat.le_trans Z0 f298.1
  have f297 : Arv Z h293 nk k284 .long 1 [(.long (own_key x)), (.long 0)] (.long 0) := (f292).pad (fun i => own_pad1 i)
  obtain ⟨_, _, ⟨T299, L299, k299, n299⟩, -, X299, ⟨Lc299, hQ299, l299, y299, z299⟩, st299⟩ := Jvm.LawKit.callS X296 hx (y := (⟨"java/util/Arrays", "sort", "([J)V"⟩ : MethodName)) hown (mvT hZ (hw _ tm55)) (mvT hZ (hw _ tm56)) (mvT hZ (hw _ tm57)) (mvT hZ (hw _ tm58)) (by decide) (backOf (W := 0) (rms0 l Z a0 hw [] nk k284 (1 : Int32) (own_key x) (0 : Int64) h293 n0 Z297 f297 (by unfold own_3; decide) (fun q => absurd q (by decide))) hZ (hw _ tm58) (hw _ tm57) (by decide) (by decide)) (g := (mkF m 40 L294 [(.ref nk)])) rfl (by rw [hml, hL294]; rfl) (argsL := [(.ref nk)]) (rest := []) (lenOf pd_3 rfl) rfl (by show 2 * 0 + _ ≤ _; exact Nat.le_of_eq rfl) (hb hby k7_40) (fun _ _ => ⟨rfl, e296, (by decide : 1 + 0 ≤ _), (by decide : 1 + 0 ≤ _)⟩)
  dsimp only [Pt.U, Pt.locs, Pt.cells, Pt.slots] at X299 l299 y299 z299 st299 hQ299
  subst l299 y299 z299
  obtain ⟨rfl, N299q, eh299⟩ := hQ299
  have N299 := Fr.app N293 N299q
  obtain ⟨T300, X300, e300, st300⟩ := wget X299 hx hby hZ hown (hw _ tm52) eh299 (f295.at 11) L294 [] k7_44
  obtain ⟨T301, h301, k301, X301, e301, E301, A301, Q301, st301⟩ := newPE X300 hx hZ (aty := .int) (hw _ tm0) e300 (g := (mkF m 47 L294 [(.int 1)])) rfl (hb hby k7_47) rfl (by decide) (cap := 1) (by decide) (by decide) (by decide) (by decide) (ad := "[I") (by decide)
  obtain ⟨nc, g301⟩ : ∃ z, z = h293.size := ⟨_, rfl⟩
  rw [← g301] at A301 Q301 st301
  have lt_nk_nc : (nk : Nat) < nc := by rw [g301]; exact f292.lt
  have sz_h0_nc : h0.size ≤ (nc : Nat) := by rw [g301]; exact f298.1
  have f302 : Arv Z h301 nc k301 .int 1 [(.int 0)] (.int 0) := (Arv.new A301 (by decide)).pad (pad_rep [] (.int 0) 1)
  obtain ⟨L303, hL303⟩ := own_nm #[.val (.ref a1), .val (.ref nk), .val (.ref nc), .unset, .unset, .unset, .unset, .unset, .unset, .unset, .unset, .unset, .unset]
  have L303_0 := own_ld hL303 0 rfl
  have f304 := (f295.ext E301)
  obtain ⟨T305, X305, e305, st305⟩ := wget X301 hx hby hZ hown (hw _ tm52) e301 (f304.at 11) L303 [] k7_51
  have f306 := (f298.ext E301)
  obtain ⟨T307, h307, k307, X307, e307, E307, A307, Q307, st307⟩ := newPE X305 hx hZ (aty := .double) (hw _ tm16) e305 (g := (mkF m 54 L303 [(.int 1)])) rfl (hb hby k7_54) rfl (by decide) (cap := 1) (by decide) (by decide) (by decide) (by decide) (ad := "[D") (by decide)
  obtain ⟨nd, g307⟩ : ∃ z, z = h301.size := ⟨_, rfl⟩
  rw [← g307] at A307 Q307 st307
  have lt_nc_nd : (nc : Nat) < nd := by rw [g307]; exact f302.lt
  have sz_h0_nd : h0.size ≤ (nd : Nat) := by rw [g307]; exact f306.1
  have f308 : Arv Z h307 nd k307 .double 1 [(.double 0)] (.double 0) := (Arv.new A307 (by decide)).pad (pad_rep [] (.double 0) 1)
  obtain ⟨L309, hL309⟩ := own_nm #[.val (.ref a1), .val (.ref nk), .val (.ref nc), .val (.ref nd), .unset, .unset, .unset, .unset, .unset, .unset, .unset, .unset, .unset]
  obtain ⟨L310, hL310⟩ := own_nm #[.val (.ref a1), .val (.ref nk), .val (.ref nc), .val (.ref nd), .val (.int 0), .unset, .unset, .unset, .unset, .unset, .unset, .unset, .unset]
  have L310_1 := own_ld hL310 1 rfl
  obtain ⟨L311, hL311⟩ := own_nm #[.val (.ref a1), .val (.ref nk), .val (.ref nc), .val (.ref nd), .val (.int 0), .val (.ref nk), .unset, .unset, .unset, .unset, .unset, .unset, .unset]
  have L311_5 := own_ld hL311 5 rfl
  have f312 := ((f292.ext E301).ext E307)
  obtain ⟨cl313, Ar313, -, S313, M313, -, -⟩ := id f312
  obtain ⟨L314, hL314⟩ := own_nm #[.val (.ref a1), .val (.ref nk), .val (.ref nc), .val (.ref nd), .val (.int 0), .val (.ref nk), .val (.int 1), .unset, .unset, .unset, .unset, .unset, .unset]
  obtain ⟨L315, hL315⟩ := own_nm #[.val (.ref a1), .val (.ref nk), .val (.ref nc), .val (.ref nd), .val (.int 0), .val (.ref nk), .val (.int 1), .val (.int 0), .unset, .unset, .unset, .unset, .unset]
  have L315_7 := own_ld hL315 7 rfl
  have L315_6 := own_ld hL315 6 rfl
  have L315_5 := own_ld hL315 5 rfl
  obtain ⟨L316, hL316⟩ := own_nm #[.val (.ref a1), .val (.ref nk), .val (.ref nc), .val (.ref nd), .val (.int 0), .val (.ref nk), .val (.int 1), .val (.int 0), .val (.long (own_key x)), .second, .unset, .unset, .unset]
  have L316_8 := own_ld hL316 8 rfl
  obtain ⟨L317, hL317⟩ := own_nm #[.val (.ref a1), .val (.ref nk), .val (.ref nc), .val (.ref nd), .val (.int 0), .val (.ref nk), .val (.int 1), .val (.int 0), .val (.long (own_key x)), .second, .val (.int x), .unset, .unset]
  have L317_0 := own_ld hL317 0 rfl
  have f318 := (f304.ext E307)
  obtain ⟨T319, X319, e319, st319⟩ := wget X307 hx hby hZ hown (hw _ tm17) e307 (f318.at 10) L317 [] k7_94
  have L317_8 := own_ld hL317 8 rfl
  have f320 := ((((V_od.ext E284).other W293 (by omega : (od : Nat) ≠ nk)).ext E301).ext E307)
  obtain ⟨L321, hL321⟩ := own_nm #[.val (.ref a1), .val (.ref nk), .val (.ref nc), .val (.ref nd), .val (.int 0), .val (.ref nk), .val (.int 1), .val (.int 0), .val (.long (own_key x)), .second, .val (.int x), .val (.double y0), .second]
  have L321_4 := own_ld hL321 4 rfl
  have L321_2 := own_ld hL321 2 rfl
  have L321_10 := own_ld hL321 10 rfl
  have f322 := (f302.ext E307)
  obtain ⟨T324, h324, X324, e324, W324, f323, N324, st324⟩ := wiastore X319 hx hby hZ e319 N299 f322 (by omega : n0 ≤ (nc : Nat)) (0 : Int32) x 0 rfl (by decide) (by decide) (Nat.le_of_ble_eq_true rfl) L321 [] k7_138
  have L321_3 := own_ld hL321 3 rfl
  have L321_11 := own_ld hL321 11 rfl
  have f325 := (f308.other W324 (by omega : (nd : Nat) ≠ nc))
  obtain ⟨T327, h327, X327, e327, W327, f326, N327, st327⟩ := wdastore X324 hx hby hZ e324 N324 f325 (by omega : n0 ≤ (nd : Nat)) (0 : Int32) y0 0 rfl (by decide) (by decide) (Nat.le_of_ble_eq_true rfl) L321 [] k7_144
  obtain ⟨L328, hL328⟩ := own_nm #[.val (.ref a1), .val (.ref nk), .val (.ref nc), .val (.ref nd), .val (.int 1), .val (.ref nk), .val (.int 1), .val (.int 0), .val (.long (own_key x)), .second, .val (.int x), .val (.double y0), .second]
  have L328_0 := own_ld hL328 0 rfl
  have L328_10 := own_ld hL328 10 rfl
  have f329 := ((f318.other W324 (by omega : (a1 : Nat) ≠ nc)).other W327 (by omega : (a1 : Nat) ≠ nd))
  obtain ⟨T330, X330, e330, st330⟩ := wget X327 hx hby hZ hown (hw _ tm69) e327 (f329.at 6) L328 [(.int x), (.ref a1)] k7_152
  have f332 := (((f306.ext E307).wr W324 (Or.inr (by omega : h0.size ≤ (nc : Nat)))).wr W327 (Or.inr (by omega : h0.size ≤ (nd : Nat))))
  have Z331 : n0 ≤ h327.size := Nat.le_trans Z0 f332.1
  have f333 := ((((((V_re.ext E284).other W293 (by omega : (re : Nat) ≠ nk)).ext E301).ext E307).other W324 (by omega : (re : Nat) ≠ nc)).other W327 (by omega : (re : Nat) ≠ nd))
  have f334 := ((((((V_rc.ext E284).other W293 (by omega : (rc : Nat) ≠ nk)).ext E301).ext E307).other W324 (by omega : (rc : Nat) ≠ nc)).other W327 (by omega : (rc : Nat) ≠ nd))
  obtain ⟨cq335, qa335, qb335⟩ := f329.1.cell
  obtain ⟨_, _, ⟨T335, LL335, kk335, nn335⟩, -, X335, ⟨Lc335, hQ335, l335, y335, z335⟩, st335⟩ := X330.privateBack hx (y := (⟨"com/example/odds2/odds2/engine/Elimination", "addReader", "(II)V"⟩ : MethodName)) hown (mvT hZ (hw _ tm82)) (mvT hZ (hw _ tm83)) (own_sel hZ hw (hw _ tm84) (hw _ tm83)) (Cond.privateMethod_at (mvP hZ (hw _ tm84) (args := #[]))) (mvT hZ (hw _ tm85)) (by decide) (backOf (W := 0) (rmA l Z a0 hw [] a1 oc od mc md sr sp sw ss co cf le re rc k_re k_rc r en wk st (1 : Int32) x r gs ms h327 n0 Z331 f329 f333 f334 OV hx3 lgs lms hg0 hm0 ord g_a) hZ (hw _ tm85) (hw _ tm7) (by decide) (by decide)) (g := (mkF m 155 L328 [(.int r), (.int x), (.ref a1)])) rfl (by rw [hml, hL328]; rfl) (Steps.refl _) (a := a1) (by rw [e330]; exact qa335) qb335 (argsL := [(.int x), (.int r)]) (rest := []) (lenOf pd_4 rfl) rfl (by show 2 * 0 + _ ≤ _; exact Nat.le_of_eq rfl) (hb hby k7_155) (fun _ _ => ⟨rfl, e330, (by decide : 3 + 1 ≤ _), (by decide : 3 + 4 ≤ _)⟩)
  dsimp only [Pt.U, Pt.locs, Pt.cells, Pt.slots] at X335 l335 y335 z335 st335 hQ335
  subst l335 y335 z335
  obtain ⟨nb0, kb0, rfl, N335q, K335, Vr335, Vc335, Vb335, zb0⟩ := hQ335
  have N335 := Fr.app N327 N335q
  have lt_nd_nb0 : (nd : Nat) < nb0 := Nat.lt_of_lt_of_le f326.lt zb0
  have L328_7 := own_ld hL328 7 rfl
  obtain ⟨L336, hL336⟩ := own_nm #[.val (.ref a1), .val (.ref nk), .val (.ref nc), .val (.ref nd), .val (.int 1), .val (.ref nk), .val (.int 1), .val (.int 1), .val (.long (own_key x)), .second, .val (.int x), .val (.double y0), .second]
  have L336_7 := own_ld hL336 7 rfl
  have L336_6 := own_ld hL336 6 rfl
  have L336_0 := own_ld hL336 0 rfl
  have L336_2 := own_ld hL336 2 rfl
  have L336_3 := own_ld hL336 3 rfl
  have L336_4 := own_ld hL336 4 rfl
  have f337 := (f329.keep K335 (ninS (by omega : (a1 : Nat) ≠ re) (ninS (by omega : (a1 : Nat) ≠ rc) nin0)))
  have f338 := (((((((V_co.ext E284).other W293 (by omega : (co : Nat) ≠ nk)).ext E301).ext E307).other W324 (by omega : (co : Nat) ≠ nc)).other W327 (by omega : (co : Nat) ≠ nd)).keep K335 (ninS (by omega : (co : Nat) ≠ re) (ninS (by omega : (co : Nat) ≠ rc) nin0)))
  have f339 := (((((((V_cf.ext E284).other W293 (by omega : (cf : Nat) ≠ nk)).ext E301).ext E307).other W324 (by omega : (cf : Nat) ≠ nc)).other W327 (by omega : (cf : Nat) ≠ nd)).keep K335 (ninS (by omega : (cf : Nat) ≠ re) (ninS (by omega : (cf : Nat) ≠ rc) nin0)))
  have f340 := (((((((V_le.ext E284).other W293 (by omega : (le : Nat) ≠ nk)).ext E301).ext E307).other W324 (by omega : (le : Nat) ≠ nc)).other W327 (by omega : (le : Nat) ≠ nd)).keep K335 (ninS (by omega : (le : Nat) ≠ re) (ninS (by omega : (le : Nat) ≠ rc) nin0)))
  have f341 := ((((Q301.ext E307).wr W324).wr W327).keep K335)
  have f342 := (((Q307.wr W324).wr W327).keep K335)
  have f343 := ((((((f291.other W293 (by omega : (oc : Nat) ≠ nk)).ext E301).ext E307).other W324 (by omega : (oc : Nat) ≠ nc)).other W327 (by omega : (oc : Nat) ≠ nd)).keep K335 (ninS (by omega : (oc : Nat) ≠ re) (ninS (by omega : (oc : Nat) ≠ rc) nin0)))
  have f344 := (((f320.other W324 (by omega : (od : Nat) ≠ nc)).other W327 (by omega : (od : Nat) ≠ nd)).keep K335 (ninS (by omega : (od : Nat) ≠ re) (ninS (by omega : (od : Nat) ≠ rc) nin0)))
  have f345 := (f332.trans K335 (allS (Or.inl (List.mem_of_getElem? (i := 4) rfl)) (allS (Or.inl (List.mem_of_getElem? (i := 5) rfl)) all0)))
  have f346 := (((f312.other W324 (by omega : (nk : Nat) ≠ nc)).other W327 (by omega : (nk : Nat) ≠ nd)).keep K335 (ninS (by omega : (nk : Nat) ≠ re) (ninS (by omega : (nk : Nat) ≠ rc) nin0)))
  have f347 := ((((((Q284.wr W293).ext E301).ext E307).wr W324).wr W327).keep K335)
  have f348 := ((f323.other W327 (by omega : (nc : Nat) ≠ nd)).keep K335 (ninS (by omega : (nc : Nat) ≠ re) (ninS (by omega : (nc : Nat) ≠ rc) nin0)))
  have f349 := (f326.keep K335 (ninS (by omega : (nd : Nat) ≠ re) (ninS (by omega : (nd : Nat) ≠ rc) nin0)))
  obtain ⟨T350, h350, LT350, X350, e350, N350, K350, O350, Vo350, Vf350, Vl350, st350⟩ := tlE Z a0 hw a1 oc od mc md sr sp sw ss co cf le re rc k_co k_cf k_le r en wk st (1 : Int32) (1 : Int32) nc nd cs fl ls L336 T335.heap n0 X335 hx hZ hby hml hown rfl N335 L336_0 L336_2 L336_3 L336_4 f337 f338 f339 f340 OVc OVf f341 f342 hr3 lcs lfs lls (by omega) (by omega) ord g_a
  have f351 := (f345.trans K350 (allS (Or.inl (List.mem_of_getElem? (i := 0) rfl)) (allS (Or.inl (List.mem_of_getElem? (i := 1) rfl)) (allS (Or.inl (List.mem_of_getElem? (i := 2) rfl)) (allS (Or.inl (List.mem_of_getElem? (i := 3) rfl)) all0)))))
  have f352 := (Vr335.keep K350 (by repeat' first | exact nin0 | refine ninS ?_ ?_ | (show (_ : Nat) ≠ _; omega)))
  have f353 := (Vc335.keep K350 (by repeat' first | exact nin0 | refine ninS ?_ ?_ | (show (_ : Nat) ≠ _; omega)))
  have f354 := (f348.keep K350 (by repeat' first | exact nin0 | refine ninS ?_ ?_ | (show (_ : Nat) ≠ _; omega)))
  have f355 := (f349.keep K350 (by repeat' first | exact nin0 | refine ninS ?_ ?_ | (show (_ : Nat) ≠ _; omega)))
  have f356 := (Vb335.keep K350 (by repeat' first | exact nin0 | refine ninS ?_ ?_ | (show (_ : Nat) ≠ _; omega)))
  have szc : h0.size ≤ nc := by omega
  obtain ⟨fs, hr, hrun, hended, hW, hsame⟩ := X350.leave (v := none) (fun _ => rfl)
  refine ⟨_, _, pre0 _ ?_, hrun, hended, _, _, rfl, ?_, ⟨_, rfl⟩, hW, hsame.mono (by decide) (by decide)⟩
  · rw [← hL282]
    show own_S p e below m s₁ 0 L282 [] _
    refine waloadN X0 hx hby k7_0 L282_0 rfl ?_
    refine st283 _ ?_
    refine st284 _ ?_
    refine XS.astoreN X284.here hx rfl (hb hby k7_6) rfl rfl (l' := L286) (by rw [hL282, hL286]; rfl) ?_
    show own_S p e below m T284 7 L286 [] _
    refine wiconst X284 hx hby k7_7 ?_
    refine XS.istoreN X284.here hx rfl (hb hby k7_8) rfl (l' := L287) (by rw [hL286, hL287]; rfl) ?_
    refine wiloadN X284 hx hby k7_9 L287_2 ?_
    refine waloadN X284 hx hby k7_10 L287_0 rfl ?_
    show own_S p e below m T284 11 L287 [(.ref a1), (.int 0)] _
    refine st289 _ ?_
    refine wicmpNo X289 hx hby k7_14 (by decide) ?_
    refine waloadN X289 hx hby k7_17 L287_1 rfl ?_
    refine wiloadN X289 hx hby k7_18 L287_2 ?_
    show own_S p e below m T289 19 L287 [(.int 0), (.ref nk)] _
    refine waloadN X289 hx hby k7_19 L287_0 rfl ?_
    refine st290 _ ?_
    refine wiloadN X290 hx hby k7_23 L287_2 ?_
    refine wiaload X290 hx hby hZ e290 f291 0 rfl (by decide) (by decide) (v := (.int x)) rfl k7_24 ?_
    show own_S p e below m T290 25 L287 [(.int x), (.int 0), (.ref nk)] _
    refine XS.i2l X290.here hx rfl (hb hby k7_25) rfl ?_
    refine XS.bipush X290.here hx rfl (hb hby k7_26) ?_
    refine XS.lshl X290.here hx rfl (hb hby k7_28) rfl ?_
    refine wiloadN X290 hx hby k7_29 L287_2 ?_
    show own_S p e below m T290 30 L287 [(.int 0), (.long (x.toInt64 <<< ((32 : Int32) &&& 0x3f).toInt64)), (.int 0), (.ref nk)] _
    refine XS.i2l X290.here hx rfl (hb hby k7_30) rfl ?_
    refine XS.lor X290.here hx rfl (hb hby k7_31) rfl ?_
    refine st293 _ ?_
    refine wiinc X293 hx hby k7_33 L287_2 hL287 hL294 rfl ?_
    show own_S p e below m T293 36 L294 [] _
    refine wgoto X293 hx hby k7_36 36 9 rfl (by decide) (by decide) ?_
    refine wiloadN X293 hx hby k7_9 L294_2 ?_
    refine waloadN X293 hx hby k7_10 L294_0 rfl ?_
    refine st296 _ ?_
    show own_S p e below m T296 14 L294 [(.int 1), (.int 1)] _
    refine wicmpYes X296 hx hby k7_14 14 39 rfl (by decide) (by decide) (by decide) ?_
    refine waloadN X296 hx hby k7_39 L294_1 rfl ?_
    refine st299 _ ?_
    refine waloadN X299 hx hby k7_43 L294_0 rfl ?_
    show own_S p e below m T299 44 L294 [(.ref a1)] _
    refine st300 _ ?_
    refine st301 _ ?_
    refine XS.astoreN X301.here hx rfl (hb hby k7_49) rfl rfl (l' := L303) (by rw [hL294, hL303]; rfl) ?_
    refine waloadN X301 hx hby k7_50 L303_0 rfl ?_
    show own_S p e below m T301 51 L303 [(.ref a1)] _
    refine st305 _ ?_
    refine st307 _ ?_
    refine XS.astoreN X307.here hx rfl (hb hby k7_56) rfl rfl (l' := L309) (by rw [hL303, hL309]; rfl) ?_
    refine wiconst X307 hx hby k7_57 ?_
    show own_S p e below m T307 58 L309 [(.int 0)] _
    refine wistore X307 hx hby k7_58 hL309 hL310 rfl ?_
    refine waloadN X307 hx hby k7_60 L310_1 rfl ?_
    refine XS.astore X307.here hx rfl (hb hby k7_61) rfl rfl (l' := L311) (by rw [hL310, hL311]; rfl) ?_
    refine waload X307 hx hby k7_63 L311_5 rfl ?_
    show own_S p e below m T307 65 L311 [(.ref nk)] _
    refine X307.arraylength hx (by rw [e307]; exact Ar313.1) (State.isArrayOf_alike hZ.alike Ar313.2.1) (g := (mkF m 65 L311 [(.ref nk)])) rfl rfl (hb hby k7_65) _ ?_
    rw [len_of S313 M313]
    show own_S p e below m T307 66 L311 [(.int 1)] _
    refine wistore X307 hx hby k7_66 hL311 hL314 rfl ?_
    refine wiconst X307 hx hby k7_68 ?_
    refine wistore X307 hx hby k7_69 hL314 hL315 rfl ?_
    refine wiload X307 hx hby k7_71 L315_7 ?_
    show own_S p e below m T307 73 L315 [(.int 0)] _
    refine wiload X307 hx hby k7_73 L315_6 ?_
    refine wicmpNo X307 hx hby k7_75 (by decide) ?_
    refine waload X307 hx hby k7_78 L315_5 rfl ?_
    refine wiload X307 hx hby k7_80 L315_7 ?_
    show own_S p e below m T307 82 L315 [(.int 0), (.ref nk)] _
    refine wlaload X307 hx hby hZ e307 f312 0 rfl (by decide) (by decide) (v := (.long (own_key x))) rfl k7_82 ?_
    refine XS.lstore X307.here hx rfl (hb hby k7_83) rfl (l' := L316) (by rw [hL315, hL316]; rfl) ?_
    refine XS.lload X307.here hx rfl (hb hby k7_85) L316_8 ?_
    refine XS.bipush X307.here hx rfl (hb hby k7_87) ?_
    show own_S p e below m T307 89 L316 [(.int 32), (.long (own_key x))] _
    refine XS.lushr X307.here hx rfl (hb hby k7_89) rfl ?_
    refine XS.l2i X307.here hx rfl (hb hby k7_90) rfl ?_
    show own_S p e below m T307 91 L316 [(.int (((own_key x).toUInt64 >>> ((32 : Int32) &&& 0x3f).toInt64.toUInt64).toInt64).toInt32)] _
    rw [(own_key1 hx3 : (((own_key x).toUInt64 >>> ((32 : Int32) &&& 0x3f).toInt64.toUInt64).toInt64).toInt32 = x)]
    show own_S p e below m T307 91 L316 [(.int x)] _
    refine wistore X307 hx hby k7_91 hL316 hL317 rfl ?_
    refine waloadN X307 hx hby k7_93 L317_0 rfl ?_
    refine st319 _ ?_
    refine XS.lload X319.here hx rfl (hb hby k7_97) L317_8 ?_
    show own_S p e below m T319 99 L317 [(.long (own_key x)), (.ref od)] _
    refine XS.l2i X319.here hx rfl (hb hby k7_99) rfl ?_
    show own_S p e below m T319 100 L317 [(.int (own_key x).toInt32), (.ref od)] _
    rw [(own_key2 hx3 : (own_key x).toInt32 = (0 : Int32))]
    show own_S p e below m T319 100 L317 [(.int 0), (.ref od)] _
    refine wdaload X319 hx hby hZ e319 f320 0 rfl (by decide) (by decide) (v := (.double y0)) rfl k7_100 ?_
    refine XS.dstore X319.here hx rfl (hb hby k7_101) rfl (l' := L321) (by rw [hL317, hL321]; rfl) ?_
    refine wiload X319 hx hby k7_103 L321_4 ?_
    refine wifYes X319 hx hby k7_105 105 133 rfl (by decide) (by decide) (by decide) ?_
    show own_S p e below m T319 133 L321 [] _
    refine waloadN X319 hx hby k7_133 L321_2 rfl ?_
    refine wiload X319 hx hby k7_134 L321_4 ?_
    refine wiload X319 hx hby k7_136 L321_10 ?_
    refine st324 _ ?_
    show own_S p e below m T324 139 L321 [] _
    refine waloadN X324 hx hby k7_139 L321_3 rfl ?_
    refine wiload X324 hx hby k7_140 L321_4 ?_
    refine wdload X324 hx hby k7_142 L321_11 ?_
    refine st327 _ ?_
    show own_S p e below m T327 145 L321 [] _
    refine wiinc X327 hx hby k7_145 L321_4 hL321 hL328 rfl ?_
    refine waloadN X327 hx hby k7_148 L328_0 rfl ?_
    refine wiload X327 hx hby k7_149 L328_10 ?_
    refine waloadN X327 hx hby k7_151 L328_0 rfl ?_
    show own_S p e below m T327 152 L328 [(.ref a1), (.int x), (.ref a1)] _
    refine st330 _ ?_
    refine st335.trans ?_
    refine wiinc X335 hx hby k7_158 L328_7 hL328 hL336 rfl ?_
    refine wgoto X335 hx hby k7_161 161 71 rfl (by decide) (by decide) ?_
    show own_S p e below m T335 71 L336 [] _
    refine wiload X335 hx hby k7_71 L336_7 ?_
    refine wiload X335 hx hby k7_73 L336_6 ?_
    refine wicmpYes X335 hx hby k7_75 75 164 rfl (by decide) (by decide) (by decide) ?_
    refine st350 _ ?_
    show own_S p e below m T350 234 L336 [] _
    exact X350.returnOut hx Bd.returns (hb hby k7_234) hr
  · show QE1 Z a1 oc od mc md sr sp sw ss co cf le re rc k_co k_cf k_le k_oc k_od k_re k_rc r en wk st cs fl ls x c1 d1 y0 gs ms h0 n0 _ T350.heap _
    rw [e350]
    exact ⟨nc, nd, nb0, k301, k307, kb0, rfl, N350, f351, O350, Vo350, Vf350, Vl350, f352, f353, f354, f355, f356, szc, (by omega), (by omega)⟩
theorem ef_E1x (m : MethodId) (x0 : Addr) : entryFrame m #[(.ref x0)] 13 = mkF m 0 #[.val (.ref x0), .unset, .unset, .unset, .unset, .unset, .unset, .unset, .unset, .unset, .unset, .unset, .unset] [] := by first | (simp [entryFrame, mkF, argsToLocals, Value.category]; done) | rfl
theorem pn_E1x : plainName "com/example/odds2/odds2/engine/Elimination" = true := by first | (simp [plainName, overriddenIn]; done) | decide +kernel
def QE1x (Z : State) (a1 oc od mc md sr sp sw ss co cf le re rc : Nat) (k_co k_cf k_le k_oc k_od k_re k_rc : ClassId) (r : Int32) (en wk : Int64) (st : Int32) (cs fl ls : List Value) (x c1 : Int32) (d1 y0 : UInt64) (gs ms : List Value) (qb : Nat) (kq : ClassId) (q0 : Int32) (h0 : Heap) (n0 : Nat) (v : Option Value) (h : Heap) (L : List Loc) : Prop := ∃ (nc nd : Nat) (kc kd : ClassId), v = none ∧ Fr n0 L ∧ Keep h0 h [a1, co, cf, le, rc, qb] ∧ own_E Z h a1 oc od mc md sr sp sw ss co cf le re rc (r + (1 : Int32)) (en + (1 : Int32).toInt64) (wk + (1 : Int32).toInt64) (0 : Int32) st ∧ Arv Z h co k_co (.array .int) (3 : Int32) (cs.set (r).toNatClampNeg (.ref nc)) .null ∧ Arv Z h cf k_cf (.array .double) (3 : Int32) (fl.set (r).toNatClampNeg (.ref nd)) .null ∧ Arv Z h le k_le .int 3 (ls.set (r).toNatClampNeg (.int 1)) (.int 0) ∧ Arv Z h rc k_rc .int 3 (ms.set (x).toNatClampNeg (.int 2)) (.int 0) ∧ Arv Z h qb kq .int 4 [(.int q0), (.int r), (.int 0), (.int 0)] (.int 0) ∧ Arv Z h nc kc .int 1 [(.int x)] (.int 0) ∧ Arv Z h nd kd .double 1 [(.double y0)] (.double 0) ∧ h0.size ≤ nc ∧ nc < nd
set_option maxRecDepth 65536 in
set_option maxHeartbeats 40000000 in
theorem rmE1x (l : Launch) (Z : State) (a0 : Array Value) (hw : ∀ d ∈ tables_1, d.before a0 Z = true) (ws : List Jvm.Cond) (a1 oc od mc md sr sp sw ss co cf le re rc : Nat) (k_co k_cf k_le k_oc k_od k_re k_rc : ClassId) (r : Int32) (en wk : Int64) (st : Int32) (cs fl ls : List Value) (x c1 : Int32) (d1 y0 : UInt64) (gs ms : List Value) (qb : Nat) (kq : ClassId) (q0 : Int32) (h0 : Heap) (n0 : Nat) (Z0 : n0 ≤ h0.size) (O_a : own_E Z h0 a1 oc od mc md sr sp sw ss co cf le re rc r en wk (1 : Int32) st) (V_co : Arv Z h0 co k_co (.array .int) (3 : Int32) cs .null) (V_cf : Arv Z h0 cf k_cf (.array .double) (3 : Int32) fl .null) (V_le : Arv Z h0 le k_le .int 3 ls (.int 0)) (V_oc : Arv Z h0 oc k_oc .int 16 [(.int x), (.int c1)] (.int 0)) (V_od : Arv Z h0 od k_od .double 16 [(.double y0), (.double d1)] (.double 0)) (V_re : Arv Z h0 re k_re (.array .int) (3 : Int32) gs .null) (V_rc : Arv Z h0 rc k_rc .int 3 ms (.int 0)) (OVc : OvrA Z k_co .int "[I") (OVf : OvrA Z k_cf .double "[D") (lcs : cs.length = 3) (lfs : fl.length = 3) (lls : ls.length = 3) (hr3 : own_3 r) (OV : OvrA Z k_re .int "[I") (lgs : gs.length = 3) (lms : ms.length = 3) (hx3 : own_3 x) (hg0 : gs.getD (x).toNatClampNeg .null = .ref qb) (hm0 : ms.getD (x).toNatClampNeg (.int 0) = .int 1) (V_q : Arv Z h0 qb kq .int 4 [(.int q0), (.int 0), (.int 0), (.int 0)] (.int 0)) (oq : rc < qb) (ord : own_ord a1 oc od mc md sr sp sw ss co cf le re rc) (g_a : n0 ≤ a1) :
    MetFree l (⟨"com/example/odds2/odds2/engine/Elimination", "endRow", "()V"⟩ : MethodName) (head1 (Jvm.Cond.code (⟨"com/example/odds2/odds2/engine/Elimination", "endRow", "()V"⟩ : MethodName) prog_14_method_3_code 13 none :: ws) ({ frames := 4, cells := 3, slots := 3, locals := 84 } : Room)) (fun a U => a = #[(.ref a1)] ∧ Z.Warmed39 U.vm ∧ U.heap = h0) (fun _ _ _ _ _ => True) (fun _ U o U' => ∃ v L, o = .returned v ∧ QE1x Z a1 oc od mc md sr sp sw ss co cf le re rc k_co k_cf k_le k_oc k_od k_re k_rc r en wk st cs fl ls x c1 d1 y0 gs ms qb kq q0 h0 n0 v U'.heap L ∧ FrameEnd U o U' L ({ frames := 4, cells := 3, slots := 3, locals := 84 } : Room).cells ({ frames := 4, cells := 3, slots := 3, locals := 84 } : Room).slots) := by
  refine MetFree.of_bodySF (plainFor_of_name pn_E1x) hisR ?_
  intro p e s m args below meth c s₁ Bd hml0 hP hK
  obtain ⟨rfl, hZ, hh⟩ := hP
  have hx := Bd.exec
  have hby := Bd.bytes
  have hml : c.maxLocals = 13 := hml0
  have hown : s.vm.findClass "com/example/odds2/odds2/engine/Elimination" = some m.cls := findClass_of_methodNamed Bd.named
  have hnm := (name_of_methodNamed Bd.named Bd.method).1
  have X0 : Stand p l e ({ frames := 4, cells := 3, slots := 3, locals := 84 } : Room) s m #[(.ref a1)] below meth c s₁ [] 0 0 := Stand.of_body Bd
  have e0 : s₁.heap = h0 := by rw [← hh, Bd.state]; rfl
  have N0 := Fr.nil n0
  have pre0 : ∀ t, Steps p.tables e below (s₁.setTop (mkF m 0 #[.val (.ref a1), .unset, .unset, .unset, .unset, .unset, .unset, .unset, .unset, .unset, .unset, .unset, .unset] [])) t → Steps p.tables e below (s₁.setTop (entryFrame m #[(.ref a1)] 13)) t := fun t k => castTop (ef_E1x m a1) k
  have hl := own_laid_of hw
  obtain ⟨or0, or1, or2, or3, or4, or5, or6, or7, or8, or9, or10, or11, or12⟩ := id ord
  obtain ⟨L357, hL357⟩ := own_nm #[.val (.ref a1), .unset, .unset, .unset, .unset, .unset, .unset, .unset, .unset, .unset, .unset, .unset, .unset]
  have L357_0 := own_ld hL357 0 rfl
  obtain ⟨T358, X358, e358, st358⟩ := wget X0 hx hby hZ hown (hw _ tm52) e0 (O_a.at 11) L357 [] k7_1
  obtain ⟨T359, h359, k359, X359, e359, E359, A359, Q359, st359⟩ := newPE X358 hx hZ (aty := .long) (hw _ tm54) e358 (g := (mkF m 4 L357 [(.int 1)])) rfl (hb hby k7_4) rfl (by decide) (cap := 1) (by decide) (by decide) (by decide) (by decide) (ad := "[J") (by decide)
  obtain ⟨nk, g359⟩ : ∃ z, z = h0.size := ⟨_, rfl⟩
  rw [← g359] at A359 Q359 st359
  have lt_a1_nk : (a1 : Nat) < nk := by rw [g359]; exact O_a.lt
  have lt_cf_nk : (cf : Nat) < nk := by rw [g359]; exact V_cf.lt
  have lt_co_nk : (co : Nat) < nk := by rw [g359]; exact V_co.lt
  have lt_le_nk : (le : Nat) < nk := by rw [g359]; exact V_le.lt
  have lt_oc_nk : (oc : Nat) < nk := by rw [g359]; exact V_oc.lt
  have lt_od_nk : (od : Nat) < nk := by rw [g359]; exact V_od.lt
  have lt_qb_nk : (qb : Nat) < nk := by rw [g359]; exact V_q.lt
  have lt_rc_nk : (rc : Nat) < nk := by rw [g359]; exact V_rc.lt
  have lt_re_nk : (re : Nat) < nk := by rw [g359]; exact V_re.lt
  have sz_h0_nk : h0.size ≤ (nk : Nat) := by rw [g359]; exact (Keep.refl h0 [a1, co, cf, le, rc, qb]).1
  have f360 : Arv Z h359 nk k359 .long 1 [(.long 0)] (.long 0) := (Arv.new A359 (by decide)).pad (pad_rep [] (.long 0) 1)
  obtain ⟨L361, hL361⟩ := own_nm #[.val (.ref a1), .val (.ref nk), .unset, .unset, .unset, .unset, .unset, .unset, .unset, .unset, .unset, .unset, .unset]
  obtain ⟨L362, hL362⟩ := own_nm #[.val (.ref a1), .val (.ref nk), .val (.int 0), .unset, .unset, .unset, .unset, .unset, .unset, .unset, .unset, .unset, .unset]
  have L362_2 := own_ld hL362 2 rfl
  have L362_0 := own_ld hL362 0 rfl
  have f363 := (O_a.ext E359)
  obtain ⟨T364, X364, e364, st364⟩ := wget X359 hx hby hZ hown (hw _ tm52) e359 (f363.at 11) L362 [(.int 0)] k7_11
  have L362_1 := own_ld hL362 1 rfl
  obtain ⟨T365, X365, e365, st365⟩ := wget X364 hx hby hZ hown (hw _ tm14) e364 (f363.at 9) L362 [(.int 0), (.ref nk)] k7_20
  have f366 := (V_oc.ext E359)
  obtain ⟨T368, h368, X368, e368, W368, f367, N368, st368⟩ := wlastore X365 hx hby hZ e365 N0 f360 (by omega : n0 ≤ (nk : Nat)) (0 : Int32) (own_key x) 0 rfl (by decide) (by decide) (Nat.le_of_ble_eq_true rfl) L362 [] k7_32
  obtain ⟨L369, hL369⟩ := own_nm #[.val (.ref a1), .val (.ref nk), .val (.int 1), .unset, .unset, .unset, .unset, .unset, .unset, .unset, .unset, .unset, .unset]
  have L369_2 := own_ld hL369 2 rfl
  have L369_0 := own_ld hL369 0 rfl
  have f370 := (f363.other W368 (by omega : (a1 : Nat) ≠ nk))
  obtain ⟨T371, X371, e371, st371⟩ := wget X368 hx hby hZ hown (hw _ tm52) e368 (f370.at 11) L369 [(.int 1)] k7_11
  have L369_1 := own_ld hL369 1 rfl
  have f373 := (((Keep.refl h0 [a1, co, cf, le, rc, qb]).ext E359).wr W368 (Or.inr (by omega : h0.size ≤ (nk : Nat))))
  have Z372 : n0 ≤ h368.size := Nat.le_trans Z0 f373.1
  have f372 : Arv Z h368 nk k359 .long 1 [(.long (own_key x)), (.long 0)] (.long 0) := (f367).pad (fun i => own_pad1 i)
  obtain ⟨_, _, ⟨T374, L374, k374, n374⟩, -, X374, ⟨Lc374, hQ374, l374, y374, z374⟩, st374⟩ := Jvm.LawKit.callS X371 hx (y := (⟨"java/util/Arrays", "sort", "([J)V"⟩ : MethodName)) hown (mvT hZ (hw _ tm55)) (mvT hZ (hw _ tm56)) (mvT hZ (hw _ tm57)) (mvT hZ (hw _ tm58)) (by decide) (backOf (W := 0) (rms0 l Z a0 hw [] nk k359 (1 : Int32) (own_key x) (0 : Int64) h368 n0 Z372 f372 (by unfold own_3; decide) (fun q => absurd q (by decide))) hZ (hw _ tm58) (hw _ tm57) (by decide) (by decide)) (g := (mkF m 40 L369 [(.ref nk)])) rfl (by rw [hml, hL369]; rfl) (argsL := [(.ref nk)]) (rest := []) (lenOf pd_3 rfl) rfl (by show 2 * 0 + _ ≤ _; exact Nat.le_of_eq rfl) (hb hby k7_40) (fun _ _ => ⟨rfl, e371, (by decide : 1 + 0 ≤ _), (by decide : 1 + 0 ≤ _)⟩)
  dsimp only [Pt.U, Pt.locs, Pt.cells, Pt.slots] at X374 l374 y374 z374 st374 hQ374
  subst l374 y374 z374
  obtain ⟨rfl, N374q, eh374⟩ := hQ374
  have N374 := Fr.app N368 N374q
  obtain ⟨T375, X375, e375, st375⟩ := wget X374 hx hby hZ hown (hw _ tm52) eh374 (f370.at 11) L369 [] k7_44
  obtain ⟨T376, h376, k376, X376, e376, E376, A376, Q376, st376⟩ := newPE X375 hx hZ (aty := .int) (hw _ tm0) e375 (g := (mkF m 47 L369 [(.int 1)])) rfl (hb hby k7_47) rfl (by decide) (cap := 1) (by decide) (by decide) (by decide) (by decide) (ad := "[I") (by decide)
  obtain ⟨nc, g376⟩ : ∃ z, z = h368.size := ⟨_, rfl⟩
  rw [← g376] at A376 Q376 st376
  have lt_nk_nc : (nk : Nat) < nc := by rw [g376]; exact f367.lt
  have sz_h0_nc : h0.size ≤ (nc : Nat) := by rw [g376]; exact f373.1
  have f377 : Arv Z h376 nc k376 .int 1 [(.int 0)] (.int 0) := (Arv.new A376 (by decide)).pad (pad_rep [] (.int 0) 1)
  obtain ⟨L378, hL378⟩ := own_nm #[.val (.ref a1), .val (.ref nk), .val (.ref nc), .unset, .unset, .unset, .unset, .unset, .unset, .unset, .unset, .unset, .unset]
  have L378_0 := own_ld hL378 0 rfl
  have f379 := (f370.ext E376)
  obtain ⟨T380, X380, e380, st380⟩ := wget X376 hx hby hZ hown (hw _ tm52) e376 (f379.at 11) L378 [] k7_51
  have f381 := (f373.ext E376)
  obtain ⟨T382, h382, k382, X382, e382, E382, A382, Q382, st382⟩ := newPE X380 hx hZ (aty := .double) (hw _ tm16) e380 (g := (mkF m 54 L378 [(.int 1)])) rfl (hb hby k7_54) rfl (by decide) (cap := 1) (by decide) (by decide) (by decide) (by decide) (ad := "[D") (by decide)
  obtain ⟨nd, g382⟩ : ∃ z, z = h376.size := ⟨_, rfl⟩
  rw [← g382] at A382 Q382 st382
  have lt_nc_nd : (nc : Nat) < nd := by rw [g382]; exact f377.lt
  have sz_h0_nd : h0.size ≤ (nd : Nat) := by rw [g382]; exact f381.1
  have f383 : Arv Z h382 nd k382 .double 1 [(.double 0)] (.double 0) := (Arv.new A382 (by decide)).pad (pad_rep [] (.double 0) 1)
  obtain ⟨L384, hL384⟩ := own_nm #[.val (.ref a1), .val (.ref nk), .val (.ref nc), .val (.ref nd), .unset, .unset, .unset, .unset, .unset, .unset, .unset, .unset, .unset]
  obtain ⟨L385, hL385⟩ := own_nm #[.val (.ref a1), .val (.ref nk), .val (.ref nc), .val (.ref nd), .val (.int 0), .unset, .unset, .unset, .unset, .unset, .unset, .unset, .unset]
  have L385_1 := own_ld hL385 1 rfl
  obtain ⟨L386, hL386⟩ := own_nm #[.val (.ref a1), .val (.ref nk), .val (.ref nc), .val (.ref nd), .val (.int 0), .val (.ref nk), .unset, .unset, .unset, .unset, .unset, .unset, .unset]
  have L386_5 := own_ld hL386 5 rfl
  have f387 := ((f367.ext E376).ext E382)
  obtain ⟨cl388, Ar388, -, S388, M388, -, -⟩ := id f387
  obtain ⟨L389, hL389⟩ := own_nm #[.val (.ref a1), .val (.ref nk), .val (.ref nc), .val (.ref nd), .val (.int 0), .val (.ref nk), .val (.int 1), .unset, .unset, .unset, .unset, .unset, .unset]
  obtain ⟨L390, hL390⟩ := own_nm #[.val (.ref a1), .val (.ref nk), .val (.ref nc), .val (.ref nd), .val (.int 0), .val (.ref nk), .val (.int 1), .val (.int 0), .unset, .unset, .unset, .unset, .unset]
  have L390_7 := own_ld hL390 7 rfl
  have L390_6 := own_ld hL390 6 rfl
  have L390_5 := own_ld hL390 5 rfl
  obtain ⟨L391, hL391⟩ := own_nm #[.val (.ref a1), .val (.ref nk), .val (.ref nc), .val (.ref nd), .val (.int 0), .val (.ref nk), .val (.int 1), .val (.int 0), .val (.long (own_key x)), .second, .unset, .unset, .unset]
  have L391_8 := own_ld hL391 8 rfl
  obtain ⟨L392, hL392⟩ := own_nm #[.val (.ref a1), .val (.ref nk), .val (.ref nc), .val (.ref nd), .val (.int 0), .val (.ref nk), .val (.int 1), .val (.int 0), .val (.long (own_key x)), .second, .val (.int x), .unset, .unset]
  have L392_0 := own_ld hL392 0 rfl
  have f393 := (f379.ext E382)
  obtain ⟨T394, X394, e394, st394⟩ := wget X382 hx hby hZ hown (hw _ tm17) e382 (f393.at 10) L392 [] k7_94
  have L392_8 := own_ld hL392 8 rfl
  have f395 := ((((V_od.ext E359).other W368 (by omega : (od : Nat) ≠ nk)).ext E376).ext E382)
  obtain ⟨L396, hL396⟩ := own_nm #[.val (.ref a1), .val (.ref nk), .val (.ref nc), .val (.ref nd), .val (.int 0), .val (.ref nk), .val (.int 1), .val (.int 0), .val (.long (own_key x)), .second, .val (.int x), .val (.double y0), .second]
  have L396_4 := own_ld hL396 4 rfl
  have L396_2 := own_ld hL396 2 rfl
  have L396_10 := own_ld hL396 10 rfl
  have f397 := (f377.ext E382)
  obtain ⟨T399, h399, X399, e399, W399, f398, N399, st399⟩ := wiastore X394 hx hby hZ e394 N374 f397 (by omega : n0 ≤ (nc : Nat)) (0 : Int32) x 0 rfl (by decide) (by decide) (Nat.le_of_ble_eq_true rfl) L396 [] k7_138
  have L396_3 := own_ld hL396 3 rfl
  have L396_11 := own_ld hL396 11 rfl
  have f400 := (f383.other W399 (by omega : (nd : Nat) ≠ nc))
  obtain ⟨T402, h402, X402, e402, W402, f401, N402, st402⟩ := wdastore X399 hx hby hZ e399 N399 f400 (by omega : n0 ≤ (nd : Nat)) (0 : Int32) y0 0 rfl (by decide) (by decide) (Nat.le_of_ble_eq_true rfl) L396 [] k7_144
  obtain ⟨L403, hL403⟩ := own_nm #[.val (.ref a1), .val (.ref nk), .val (.ref nc), .val (.ref nd), .val (.int 1), .val (.ref nk), .val (.int 1), .val (.int 0), .val (.long (own_key x)), .second, .val (.int x), .val (.double y0), .second]
  have L403_0 := own_ld hL403 0 rfl
  have L403_10 := own_ld hL403 10 rfl
  have f404 := ((f393.other W399 (by omega : (a1 : Nat) ≠ nc)).other W402 (by omega : (a1 : Nat) ≠ nd))
  obtain ⟨T405, X405, e405, st405⟩ := wget X402 hx hby hZ hown (hw _ tm69) e402 (f404.at 6) L403 [(.int x), (.ref a1)] k7_152
  have f407 := (((f381.ext E382).wr W399 (Or.inr (by omega : h0.size ≤ (nc : Nat)))).wr W402 (Or.inr (by omega : h0.size ≤ (nd : Nat))))
  have Z406 : n0 ≤ h402.size := Nat.le_trans Z0 f407.1
  have f408 := ((((((V_re.ext E359).other W368 (by omega : (re : Nat) ≠ nk)).ext E376).ext E382).other W399 (by omega : (re : Nat) ≠ nc)).other W402 (by omega : (re : Nat) ≠ nd))
  have f409 := ((((((V_rc.ext E359).other W368 (by omega : (rc : Nat) ≠ nk)).ext E376).ext E382).other W399 (by omega : (rc : Nat) ≠ nc)).other W402 (by omega : (rc : Nat) ≠ nd))
  have f410 := ((((((V_q.ext E359).other W368 (by omega : (qb : Nat) ≠ nk)).ext E376).ext E382).other W399 (by omega : (qb : Nat) ≠ nc)).other W402 (by omega : (qb : Nat) ≠ nd))
  obtain ⟨cq411, qa411, qb411⟩ := f404.1.cell
  obtain ⟨_, _, ⟨T411, LL411, kk411, nn411⟩, -, X411, ⟨Lc411, hQ411, l411, y411, z411⟩, st411⟩ := X405.privateBack hx (y := (⟨"com/example/odds2/odds2/engine/Elimination", "addReader", "(II)V"⟩ : MethodName)) hown (mvT hZ (hw _ tm82)) (mvT hZ (hw _ tm83)) (own_sel hZ hw (hw _ tm84) (hw _ tm83)) (Cond.privateMethod_at (mvP hZ (hw _ tm84) (args := #[]))) (mvT hZ (hw _ tm85)) (by decide) (backOf (W := 0) (rmB l Z a0 hw [] a1 oc od mc md sr sp sw ss co cf le re rc k_re k_rc r en wk st (1 : Int32) x r gs ms qb kq q0 h402 n0 Z406 f404 f408 f409 OV hx3 lgs lms hg0 hm0 f410 oq ord g_a) hZ (hw _ tm85) (hw _ tm7) (by decide) (by decide)) (g := (mkF m 155 L403 [(.int r), (.int x), (.ref a1)])) rfl (by rw [hml, hL403]; rfl) (Steps.refl _) (a := a1) (by rw [e405]; exact qa411) qb411 (argsL := [(.int x), (.int r)]) (rest := []) (lenOf pd_4 rfl) rfl (by show 2 * 0 + _ ≤ _; exact Nat.le_of_eq rfl) (hb hby k7_155) (fun _ _ => ⟨rfl, e405, (by decide : 3 + 0 ≤ _), (by decide : 3 + 0 ≤ _)⟩)
  dsimp only [Pt.U, Pt.locs, Pt.cells, Pt.slots] at X411 l411 y411 z411 st411 hQ411
  subst l411 y411 z411
  obtain ⟨rfl, N411q, K411, Vc411, Vq411⟩ := hQ411
  have N411 := Fr.app N402 N411q
  have L403_7 := own_ld hL403 7 rfl
  obtain ⟨L412, hL412⟩ := own_nm #[.val (.ref a1), .val (.ref nk), .val (.ref nc), .val (.ref nd), .val (.int 1), .val (.ref nk), .val (.int 1), .val (.int 1), .val (.long (own_key x)), .second, .val (.int x), .val (.double y0), .second]
  have L412_7 := own_ld hL412 7 rfl
  have L412_6 := own_ld hL412 6 rfl
  have L412_0 := own_ld hL412 0 rfl
  have L412_2 := own_ld hL412 2 rfl
  have L412_3 := own_ld hL412 3 rfl
  have L412_4 := own_ld hL412 4 rfl
  have f413 := (f404.keep K411 (ninS (by omega : (a1 : Nat) ≠ rc) (ninS (by omega : (a1 : Nat) ≠ qb) nin0)))
  have f414 := (((((((V_co.ext E359).other W368 (by omega : (co : Nat) ≠ nk)).ext E376).ext E382).other W399 (by omega : (co : Nat) ≠ nc)).other W402 (by omega : (co : Nat) ≠ nd)).keep K411 (ninS (by omega : (co : Nat) ≠ rc) (ninS (by omega : (co : Nat) ≠ qb) nin0)))
  have f415 := (((((((V_cf.ext E359).other W368 (by omega : (cf : Nat) ≠ nk)).ext E376).ext E382).other W399 (by omega : (cf : Nat) ≠ nc)).other W402 (by omega : (cf : Nat) ≠ nd)).keep K411 (ninS (by omega : (cf : Nat) ≠ rc) (ninS (by omega : (cf : Nat) ≠ qb) nin0)))
  have f416 := (((((((V_le.ext E359).other W368 (by omega : (le : Nat) ≠ nk)).ext E376).ext E382).other W399 (by omega : (le : Nat) ≠ nc)).other W402 (by omega : (le : Nat) ≠ nd)).keep K411 (ninS (by omega : (le : Nat) ≠ rc) (ninS (by omega : (le : Nat) ≠ qb) nin0)))
  have f417 := ((((Q376.ext E382).wr W399).wr W402).keep K411)
  have f418 := (((Q382.wr W399).wr W402).keep K411)
  have f419 := ((((((f366.other W368 (by omega : (oc : Nat) ≠ nk)).ext E376).ext E382).other W399 (by omega : (oc : Nat) ≠ nc)).other W402 (by omega : (oc : Nat) ≠ nd)).keep K411 (ninS (by omega : (oc : Nat) ≠ rc) (ninS (by omega : (oc : Nat) ≠ qb) nin0)))
  have f420 := (((f395.other W399 (by omega : (od : Nat) ≠ nc)).other W402 (by omega : (od : Nat) ≠ nd)).keep K411 (ninS (by omega : (od : Nat) ≠ rc) (ninS (by omega : (od : Nat) ≠ qb) nin0)))
  have f421 := (f408.keep K411 (ninS (by omega : (re : Nat) ≠ rc) (ninS (by omega : (re : Nat) ≠ qb) nin0)))
  have f422 := (f407.trans K411 (allS (Or.inl (List.mem_of_getElem? (i := 4) rfl)) (allS (Or.inl (List.mem_of_getElem? (i := 5) rfl)) all0)))
  have f423 := (((f387.other W399 (by omega : (nk : Nat) ≠ nc)).other W402 (by omega : (nk : Nat) ≠ nd)).keep K411 (ninS (by omega : (nk : Nat) ≠ rc) (ninS (by omega : (nk : Nat) ≠ qb) nin0)))
  have f424 := ((((((Q359.wr W368).ext E376).ext E382).wr W399).wr W402).keep K411)
  have f425 := ((f398.other W402 (by omega : (nc : Nat) ≠ nd)).keep K411 (ninS (by omega : (nc : Nat) ≠ rc) (ninS (by omega : (nc : Nat) ≠ qb) nin0)))
  have f426 := (f401.keep K411 (ninS (by omega : (nd : Nat) ≠ rc) (ninS (by omega : (nd : Nat) ≠ qb) nin0)))
  obtain ⟨T427, h427, LT427, X427, e427, N427, K427, O427, Vo427, Vf427, Vl427, st427⟩ := tlE Z a0 hw a1 oc od mc md sr sp sw ss co cf le re rc k_co k_cf k_le r en wk st (1 : Int32) (1 : Int32) nc nd cs fl ls L412 T411.heap n0 X411 hx hZ hby hml hown rfl N411 L412_0 L412_2 L412_3 L412_4 f413 f414 f415 f416 OVc OVf f417 f418 hr3 lcs lfs lls (by omega) (by omega) ord g_a
  have f428 := (f422.trans K427 (allS (Or.inl (List.mem_of_getElem? (i := 0) rfl)) (allS (Or.inl (List.mem_of_getElem? (i := 1) rfl)) (allS (Or.inl (List.mem_of_getElem? (i := 2) rfl)) (allS (Or.inl (List.mem_of_getElem? (i := 3) rfl)) all0)))))
  have f429 := (Vc411.keep K427 (by repeat' first | exact nin0 | refine ninS ?_ ?_ | (show (_ : Nat) ≠ _; omega)))
  have f430 := (Vq411.keep K427 (by repeat' first | exact nin0 | refine ninS ?_ ?_ | (show (_ : Nat) ≠ _; omega)))
  have f431 := (f425.keep K427 (by repeat' first | exact nin0 | refine ninS ?_ ?_ | (show (_ : Nat) ≠ _; omega)))
  have f432 := (f426.keep K427 (by repeat' first | exact nin0 | refine ninS ?_ ?_ | (show (_ : Nat) ≠ _; omega)))
  have szc : h0.size ≤ nc := by omega
  obtain ⟨fs, hr, hrun, hended, hW, hsame⟩ := X427.leave (v := none) (fun _ => rfl)
  refine ⟨_, _, pre0 _ ?_, hrun, hended, _, _, rfl, ?_, ⟨_, rfl⟩, hW, hsame.mono (by decide) (by decide)⟩
  · rw [← hL357]
    show own_S p e below m s₁ 0 L357 [] _
    refine waloadN X0 hx hby k7_0 L357_0 rfl ?_
    refine st358 _ ?_
    refine st359 _ ?_
    refine XS.astoreN X359.here hx rfl (hb hby k7_6) rfl rfl (l' := L361) (by rw [hL357, hL361]; rfl) ?_
    show own_S p e below m T359 7 L361 [] _
    refine wiconst X359 hx hby k7_7 ?_
    refine XS.istoreN X359.here hx rfl (hb hby k7_8) rfl (l' := L362) (by rw [hL361, hL362]; rfl) ?_
    refine wiloadN X359 hx hby k7_9 L362_2 ?_
    refine waloadN X359 hx hby k7_10 L362_0 rfl ?_
    show own_S p e below m T359 11 L362 [(.ref a1), (.int 0)] _
    refine st364 _ ?_
    refine wicmpNo X364 hx hby k7_14 (by decide) ?_
    refine waloadN X364 hx hby k7_17 L362_1 rfl ?_
    refine wiloadN X364 hx hby k7_18 L362_2 ?_
    show own_S p e below m T364 19 L362 [(.int 0), (.ref nk)] _
    refine waloadN X364 hx hby k7_19 L362_0 rfl ?_
    refine st365 _ ?_
    refine wiloadN X365 hx hby k7_23 L362_2 ?_
    refine wiaload X365 hx hby hZ e365 f366 0 rfl (by decide) (by decide) (v := (.int x)) rfl k7_24 ?_
    show own_S p e below m T365 25 L362 [(.int x), (.int 0), (.ref nk)] _
    refine XS.i2l X365.here hx rfl (hb hby k7_25) rfl ?_
    refine XS.bipush X365.here hx rfl (hb hby k7_26) ?_
    refine XS.lshl X365.here hx rfl (hb hby k7_28) rfl ?_
    refine wiloadN X365 hx hby k7_29 L362_2 ?_
    show own_S p e below m T365 30 L362 [(.int 0), (.long (x.toInt64 <<< ((32 : Int32) &&& 0x3f).toInt64)), (.int 0), (.ref nk)] _
    refine XS.i2l X365.here hx rfl (hb hby k7_30) rfl ?_
    refine XS.lor X365.here hx rfl (hb hby k7_31) rfl ?_
    refine st368 _ ?_
    refine wiinc X368 hx hby k7_33 L362_2 hL362 hL369 rfl ?_
    show own_S p e below m T368 36 L369 [] _
    refine wgoto X368 hx hby k7_36 36 9 rfl (by decide) (by decide) ?_
    refine wiloadN X368 hx hby k7_9 L369_2 ?_
    refine waloadN X368 hx hby k7_10 L369_0 rfl ?_
    refine st371 _ ?_
    show own_S p e below m T371 14 L369 [(.int 1), (.int 1)] _
    refine wicmpYes X371 hx hby k7_14 14 39 rfl (by decide) (by decide) (by decide) ?_
    refine waloadN X371 hx hby k7_39 L369_1 rfl ?_
    refine st374 _ ?_
    refine waloadN X374 hx hby k7_43 L369_0 rfl ?_
    show own_S p e below m T374 44 L369 [(.ref a1)] _
    refine st375 _ ?_
    refine st376 _ ?_
    refine XS.astoreN X376.here hx rfl (hb hby k7_49) rfl rfl (l' := L378) (by rw [hL369, hL378]; rfl) ?_
    refine waloadN X376 hx hby k7_50 L378_0 rfl ?_
    show own_S p e below m T376 51 L378 [(.ref a1)] _
    refine st380 _ ?_
    refine st382 _ ?_
    refine XS.astoreN X382.here hx rfl (hb hby k7_56) rfl rfl (l' := L384) (by rw [hL378, hL384]; rfl) ?_
    refine wiconst X382 hx hby k7_57 ?_
    show own_S p e below m T382 58 L384 [(.int 0)] _
    refine wistore X382 hx hby k7_58 hL384 hL385 rfl ?_
    refine waloadN X382 hx hby k7_60 L385_1 rfl ?_
    refine XS.astore X382.here hx rfl (hb hby k7_61) rfl rfl (l' := L386) (by rw [hL385, hL386]; rfl) ?_
    refine waload X382 hx hby k7_63 L386_5 rfl ?_
    show own_S p e below m T382 65 L386 [(.ref nk)] _
    refine X382.arraylength hx (by rw [e382]; exact Ar388.1) (State.isArrayOf_alike hZ.alike Ar388.2.1) (g := (mkF m 65 L386 [(.ref nk)])) rfl rfl (hb hby k7_65) _ ?_
    rw [len_of S388 M388]
    show own_S p e below m T382 66 L386 [(.int 1)] _
    refine wistore X382 hx hby k7_66 hL386 hL389 rfl ?_
    refine wiconst X382 hx hby k7_68 ?_
    refine wistore X382 hx hby k7_69 hL389 hL390 rfl ?_
    refine wiload X382 hx hby k7_71 L390_7 ?_
    show own_S p e below m T382 73 L390 [(.int 0)] _
    refine wiload X382 hx hby k7_73 L390_6 ?_
    refine wicmpNo X382 hx hby k7_75 (by decide) ?_
    refine waload X382 hx hby k7_78 L390_5 rfl ?_
    refine wiload X382 hx hby k7_80 L390_7 ?_
    show own_S p e below m T382 82 L390 [(.int 0), (.ref nk)] _
    refine wlaload X382 hx hby hZ e382 f387 0 rfl (by decide) (by decide) (v := (.long (own_key x))) rfl k7_82 ?_
    refine XS.lstore X382.here hx rfl (hb hby k7_83) rfl (l' := L391) (by rw [hL390, hL391]; rfl) ?_
    refine XS.lload X382.here hx rfl (hb hby k7_85) L391_8 ?_
    refine XS.bipush X382.here hx rfl (hb hby k7_87) ?_
    show own_S p e below m T382 89 L391 [(.int 32), (.long (own_key x))] _
    refine XS.lushr X382.here hx rfl (hb hby k7_89) rfl ?_
    refine XS.l2i X382.here hx rfl (hb hby k7_90) rfl ?_
    show own_S p e below m T382 91 L391 [(.int (((own_key x).toUInt64 >>> ((32 : Int32) &&& 0x3f).toInt64.toUInt64).toInt64).toInt32)] _
    rw [(own_key1 hx3 : (((own_key x).toUInt64 >>> ((32 : Int32) &&& 0x3f).toInt64.toUInt64).toInt64).toInt32 = x)]
    show own_S p e below m T382 91 L391 [(.int x)] _
    refine wistore X382 hx hby k7_91 hL391 hL392 rfl ?_
    refine waloadN X382 hx hby k7_93 L392_0 rfl ?_
    refine st394 _ ?_
    refine XS.lload X394.here hx rfl (hb hby k7_97) L392_8 ?_
    show own_S p e below m T394 99 L392 [(.long (own_key x)), (.ref od)] _
    refine XS.l2i X394.here hx rfl (hb hby k7_99) rfl ?_
    show own_S p e below m T394 100 L392 [(.int (own_key x).toInt32), (.ref od)] _
    rw [(own_key2 hx3 : (own_key x).toInt32 = (0 : Int32))]
    show own_S p e below m T394 100 L392 [(.int 0), (.ref od)] _
    refine wdaload X394 hx hby hZ e394 f395 0 rfl (by decide) (by decide) (v := (.double y0)) rfl k7_100 ?_
    refine XS.dstore X394.here hx rfl (hb hby k7_101) rfl (l' := L396) (by rw [hL392, hL396]; rfl) ?_
    refine wiload X394 hx hby k7_103 L396_4 ?_
    refine wifYes X394 hx hby k7_105 105 133 rfl (by decide) (by decide) (by decide) ?_
    show own_S p e below m T394 133 L396 [] _
    refine waloadN X394 hx hby k7_133 L396_2 rfl ?_
    refine wiload X394 hx hby k7_134 L396_4 ?_
    refine wiload X394 hx hby k7_136 L396_10 ?_
    refine st399 _ ?_
    show own_S p e below m T399 139 L396 [] _
    refine waloadN X399 hx hby k7_139 L396_3 rfl ?_
    refine wiload X399 hx hby k7_140 L396_4 ?_
    refine wdload X399 hx hby k7_142 L396_11 ?_
    refine st402 _ ?_
    show own_S p e below m T402 145 L396 [] _
    refine wiinc X402 hx hby k7_145 L396_4 hL396 hL403 rfl ?_
    refine waloadN X402 hx hby k7_148 L403_0 rfl ?_
    refine wiload X402 hx hby k7_149 L403_10 ?_
    refine waloadN X402 hx hby k7_151 L403_0 rfl ?_
    show own_S p e below m T402 152 L403 [(.ref a1), (.int x), (.ref a1)] _
    refine st405 _ ?_
    refine st411.trans ?_
    refine wiinc X411 hx hby k7_158 L403_7 hL403 hL412 rfl ?_
    refine wgoto X411 hx hby k7_161 161 71 rfl (by decide) (by decide) ?_
    show own_S p e below m T411 71 L412 [] _
    refine wiload X411 hx hby k7_71 L412_7 ?_
    refine wiload X411 hx hby k7_73 L412_6 ?_
    refine wicmpYes X411 hx hby k7_75 75 164 rfl (by decide) (by decide) (by decide) ?_
    refine st427 _ ?_
    show own_S p e below m T427 234 L412 [] _
    exact X427.returnOut hx Bd.returns (hb hby k7_234) hr
  · show QE1x Z a1 oc od mc md sr sp sw ss co cf le re rc k_co k_cf k_le k_oc k_od k_re k_rc r en wk st cs fl ls x c1 d1 y0 gs ms qb kq q0 h0 n0 _ T427.heap _
    rw [e427]
    exact ⟨nc, nd, k376, k382, rfl, N427, f428, O427, Vo427, Vf427, Vl427, f429, f430, f431, f432, szc, (by omega)⟩
theorem ef_E2 (m : MethodId) (x0 : Addr) : entryFrame m #[(.ref x0)] 13 = mkF m 0 #[.val (.ref x0), .unset, .unset, .unset, .unset, .unset, .unset, .unset, .unset, .unset, .unset, .unset, .unset] [] := by first | (simp [entryFrame, mkF, argsToLocals, Value.category]; done) | rfl
theorem pn_E2 : plainName "com/example/odds2/odds2/engine/Elimination" = true := by first | (simp [plainName, overriddenIn]; done) | decide +kernel
def QE2 (Z : State) (a1 oc od mc md sr sp sw ss co cf le re rc : Nat) (k_co k_cf k_le k_oc k_od k_re k_rc : ClassId) (en wk : Int64) (st : Int32) (cs fl ls : List Value) (y0 y1 : UInt64) (gs ms : List Value) (h0 : Heap) (n0 : Nat) (v : Option Value) (h : Heap) (L : List Loc) : Prop := ∃ (nc nd nb0 nb1 : Nat) (kc kd kb0 kb1 : ClassId), v = none ∧ Fr n0 L ∧ Keep h0 h [a1, co, cf, le, re, rc] ∧ own_E Z h a1 oc od mc md sr sp sw ss co cf le re rc ((1 : Int32) + (1 : Int32)) (en + (2 : Int32).toInt64) (wk + (2 : Int32).toInt64) (0 : Int32) st ∧ Arv Z h co k_co (.array .int) (3 : Int32) (cs.set ((1 : Int32)).toNatClampNeg (.ref nc)) .null ∧ Arv Z h cf k_cf (.array .double) (3 : Int32) (fl.set ((1 : Int32)).toNatClampNeg (.ref nd)) .null ∧ Arv Z h le k_le .int 3 (ls.set ((1 : Int32)).toNatClampNeg (.int 2)) (.int 0) ∧ Arv Z h re k_re (.array .int) (3 : Int32) ((gs.set ((0 : Int32)).toNatClampNeg (.ref nb0)).set ((2 : Int32)).toNatClampNeg (.ref nb1)) .null ∧ Arv Z h rc k_rc .int 3 ((ms.set ((0 : Int32)).toNatClampNeg (.int 1)).set ((2 : Int32)).toNatClampNeg (.int 1)) (.int 0) ∧ Arv Z h nc kc .int 2 [(.int 0), (.int 2)] (.int 0) ∧ Arv Z h nd kd .double 2 [(.double y0), (.double y1)] (.double 0) ∧ Arv Z h nb0 kb0 .int 4 [(.int 1), (.int 0), (.int 0), (.int 0)] (.int 0) ∧ Arv Z h nb1 kb1 .int 4 [(.int 1), (.int 0), (.int 0), (.int 0)] (.int 0) ∧ h0.size ≤ nc ∧ nc < nd ∧ nd < nb0 ∧ nb0 < nb1
set_option maxRecDepth 65536 in
set_option maxHeartbeats 40000000 in
theorem rmE2 (l : Launch) (Z : State) (a0 : Array Value) (hw : ∀ d ∈ tables_1, d.before a0 Z = true) (ws : List Jvm.Cond) (a1 oc od mc md sr sp sw ss co cf le re rc : Nat) (k_co k_cf k_le k_oc k_od k_re k_rc : ClassId) (en wk : Int64) (st : Int32) (cs fl ls : List Value) (y0 y1 : UInt64) (gs ms : List Value) (h0 : Heap) (n0 : Nat) (Z0 : n0 ≤ h0.size) (O_a : own_E Z h0 a1 oc od mc md sr sp sw ss co cf le re rc (1 : Int32) en wk (2 : Int32) st) (V_co : Arv Z h0 co k_co (.array .int) (3 : Int32) cs .null) (V_cf : Arv Z h0 cf k_cf (.array .double) (3 : Int32) fl .null) (V_le : Arv Z h0 le k_le .int 3 ls (.int 0)) (V_oc : Arv Z h0 oc k_oc .int 16 [(.int 0), (.int 2)] (.int 0)) (V_od : Arv Z h0 od k_od .double 16 [(.double y0), (.double y1)] (.double 0)) (V_re : Arv Z h0 re k_re (.array .int) (3 : Int32) gs .null) (V_rc : Arv Z h0 rc k_rc .int 3 ms (.int 0)) (OVc : OvrA Z k_co .int "[I") (OVf : OvrA Z k_cf .double "[D") (lcs : cs.length = 3) (lfs : fl.length = 3) (lls : ls.length = 3) (OV : OvrA Z k_re .int "[I") (lgs : gs.length = 3) (lms : ms.length = 3) (hg0 : gs.getD ((0 : Int32)).toNatClampNeg .null = .null) (hg1 : gs.getD ((2 : Int32)).toNatClampNeg .null = .null) (hm0 : ms.getD ((0 : Int32)).toNatClampNeg (.int 0) = .int 0) (hm1 : ms.getD ((2 : Int32)).toNatClampNeg (.int 0) = .int 0) (ord : own_ord a1 oc od mc md sr sp sw ss co cf le re rc) (g_a : n0 ≤ a1) :
    MetFree l (⟨"com/example/odds2/odds2/engine/Elimination", "endRow", "()V"⟩ : MethodName) (head1 (Jvm.Cond.code (⟨"com/example/odds2/odds2/engine/Elimination", "endRow", "()V"⟩ : MethodName) prog_14_method_3_code 13 none :: ws) ({ frames := 4, cells := 5, slots := 14, locals := 84 } : Room)) (fun a U => a = #[(.ref a1)] ∧ Z.Warmed39 U.vm ∧ U.heap = h0) (fun _ _ _ _ _ => True) (fun _ U o U' => ∃ v L, o = .returned v ∧ QE2 Z a1 oc od mc md sr sp sw ss co cf le re rc k_co k_cf k_le k_oc k_od k_re k_rc en wk st cs fl ls y0 y1 gs ms h0 n0 v U'.heap L ∧ FrameEnd U o U' L ({ frames := 4, cells := 5, slots := 14, locals := 84 } : Room).cells ({ frames := 4, cells := 5, slots := 14, locals := 84 } : Room).slots) := by
  refine MetFree.of_bodySF (plainFor_of_name pn_E2) hisR ?_
  intro p e s m args below meth c s₁ Bd hml0 hP hK
  obtain ⟨rfl, hZ, hh⟩ := hP
  have hx := Bd.exec
  have hby := Bd.bytes
  have hml : c.maxLocals = 13 := hml0
  have hown : s.vm.findClass "com/example/odds2/odds2/engine/Elimination" = some m.cls := findClass_of_methodNamed Bd.named
  have hnm := (name_of_methodNamed Bd.named Bd.method).1
  have X0 : Stand p l e ({ frames := 4, cells := 5, slots := 14, locals := 84 } : Room) s m #[(.ref a1)] below meth c s₁ [] 0 0 := Stand.of_body Bd
  have e0 : s₁.heap = h0 := by rw [← hh, Bd.state]; rfl
  have N0 := Fr.nil n0
  have pre0 : ∀ t, Steps p.tables e below (s₁.setTop (mkF m 0 #[.val (.ref a1), .unset, .unset, .unset, .unset, .unset, .unset, .unset, .unset, .unset, .unset, .unset, .unset] [])) t → Steps p.tables e below (s₁.setTop (entryFrame m #[(.ref a1)] 13)) t := fun t k => castTop (ef_E2 m a1) k
  have hl := own_laid_of hw
  obtain ⟨or0, or1, or2, or3, or4, or5, or6, or7, or8, or9, or10, or11, or12⟩ := id ord
  obtain ⟨L433, hL433⟩ := own_nm #[.val (.ref a1), .unset, .unset, .unset, .unset, .unset, .unset, .unset, .unset, .unset, .unset, .unset, .unset]
  have L433_0 := own_ld hL433 0 rfl
  obtain ⟨T434, X434, e434, st434⟩ := wget X0 hx hby hZ hown (hw _ tm52) e0 (O_a.at 11) L433 [] k7_1
  obtain ⟨T435, h435, k435, X435, e435, E435, A435, Q435, st435⟩ := newPE X434 hx hZ (aty := .long) (hw _ tm54) e434 (g := (mkF m 4 L433 [(.int 2)])) rfl (hb hby k7_4) rfl (by decide) (cap := 2) (by decide) (by decide) (by decide) (by decide) (ad := "[J") (by decide)
  obtain ⟨nk, g435⟩ : ∃ z, z = h0.size := ⟨_, rfl⟩
  rw [← g435] at A435 Q435 st435
  have lt_a1_nk : (a1 : Nat) < nk := by rw [g435]; exact O_a.lt
  have lt_cf_nk : (cf : Nat) < nk := by rw [g435]; exact V_cf.lt
  have lt_co_nk : (co : Nat) < nk := by rw [g435]; exact V_co.lt
  have lt_le_nk : (le : Nat) < nk := by rw [g435]; exact V_le.lt
  have lt_oc_nk : (oc : Nat) < nk := by rw [g435]; exact V_oc.lt
  have lt_od_nk : (od : Nat) < nk := by rw [g435]; exact V_od.lt
  have lt_rc_nk : (rc : Nat) < nk := by rw [g435]; exact V_rc.lt
  have lt_re_nk : (re : Nat) < nk := by rw [g435]; exact V_re.lt
  have sz_h0_nk : h0.size ≤ (nk : Nat) := by rw [g435]; exact (Keep.refl h0 [a1, co, cf, le, re, rc]).1
  have f436 : Arv Z h435 nk k435 .long 2 [(.long 0), (.long 0)] (.long 0) := (Arv.new A435 (by decide)).pad (pad_rep [] (.long 0) 2)
  obtain ⟨L437, hL437⟩ := own_nm #[.val (.ref a1), .val (.ref nk), .unset, .unset, .unset, .unset, .unset, .unset, .unset, .unset, .unset, .unset, .unset]
  obtain ⟨L438, hL438⟩ := own_nm #[.val (.ref a1), .val (.ref nk), .val (.int 0), .unset, .unset, .unset, .unset, .unset, .unset, .unset, .unset, .unset, .unset]
  have L438_2 := own_ld hL438 2 rfl
  have L438_0 := own_ld hL438 0 rfl
  have f439 := (O_a.ext E435)
  obtain ⟨T440, X440, e440, st440⟩ := wget X435 hx hby hZ hown (hw _ tm52) e435 (f439.at 11) L438 [(.int 0)] k7_11
  have L438_1 := own_ld hL438 1 rfl
  obtain ⟨T441, X441, e441, st441⟩ := wget X440 hx hby hZ hown (hw _ tm14) e440 (f439.at 9) L438 [(.int 0), (.ref nk)] k7_20
  have f442 := (V_oc.ext E435)
  obtain ⟨T444, h444, X444, e444, W444, f443, N444, st444⟩ := wlastore X441 hx hby hZ e441 N0 f436 (by omega : n0 ≤ (nk : Nat)) (0 : Int32) (0 : Int64) 0 rfl (by decide) (by decide) (Nat.le_of_ble_eq_true rfl) L438 [] k7_32
  obtain ⟨L445, hL445⟩ := own_nm #[.val (.ref a1), .val (.ref nk), .val (.int 1), .unset, .unset, .unset, .unset, .unset, .unset, .unset, .unset, .unset, .unset]
  have L445_2 := own_ld hL445 2 rfl
  have L445_0 := own_ld hL445 0 rfl
  have f446 := (f439.other W444 (by omega : (a1 : Nat) ≠ nk))
  obtain ⟨T447, X447, e447, st447⟩ := wget X444 hx hby hZ hown (hw _ tm52) e444 (f446.at 11) L445 [(.int 1)] k7_11
  have L445_1 := own_ld hL445 1 rfl
  obtain ⟨T448, X448, e448, st448⟩ := wget X447 hx hby hZ hown (hw _ tm14) e447 (f446.at 9) L445 [(.int 1), (.ref nk)] k7_20
  have f449 := (f442.other W444 (by omega : (oc : Nat) ≠ nk))
  obtain ⟨T451, h451, X451, e451, W451, f450, N451, st451⟩ := wlastore X448 hx hby hZ e448 N444 f443 (by omega : n0 ≤ (nk : Nat)) (1 : Int32) (8589934593 : Int64) 1 rfl (by decide) (by decide) (Nat.le_of_ble_eq_true rfl) L445 [] k7_32
  obtain ⟨L452, hL452⟩ := own_nm #[.val (.ref a1), .val (.ref nk), .val (.int 2), .unset, .unset, .unset, .unset, .unset, .unset, .unset, .unset, .unset, .unset]
  have L452_2 := own_ld hL452 2 rfl
  have L452_0 := own_ld hL452 0 rfl
  have f453 := (f446.other W451 (by omega : (a1 : Nat) ≠ nk))
  obtain ⟨T454, X454, e454, st454⟩ := wget X451 hx hby hZ hown (hw _ tm52) e451 (f453.at 11) L452 [(.int 2)] k7_11
  have L452_1 := own_ld hL452 1 rfl
  have f456 := ((((Keep.refl h0 [a1, co, cf, le, re, rc]).ext E435).wr W444 (Or.inr (by omega : h0.size ≤ (nk : Nat)))).wr W451 (Or.inr (by omega : h0.size ≤ (nk : Nat))))
  have Z455 : n0 ≤ h451.size := Nat.le_trans Z0 f456.1
  have f455 : Arv Z h451 nk k435 .long 2 [(.long 0), (.long 8589934593)] (.long 0) := (f450).pad (fun i => own_pad2 i)
  obtain ⟨_, _, ⟨T457, L457, k457, n457⟩, -, X457, ⟨Lc457, hQ457, l457, y457, z457⟩, st457⟩ := Jvm.LawKit.callS X454 hx (y := (⟨"java/util/Arrays", "sort", "([J)V"⟩ : MethodName)) hown (mvT hZ (hw _ tm55)) (mvT hZ (hw _ tm56)) (mvT hZ (hw _ tm57)) (mvT hZ (hw _ tm58)) (by decide) (backOf (W := 0) (rms0 l Z a0 hw [] nk k435 (2 : Int32) (0 : Int64) (8589934593 : Int64) h451 n0 Z455 f455 (by unfold own_3; decide) (fun _ => by decide)) hZ (hw _ tm58) (hw _ tm57) (by decide) (by decide)) (g := (mkF m 40 L452 [(.ref nk)])) rfl (by rw [hml, hL452]; rfl) (argsL := [(.ref nk)]) (rest := []) (lenOf pd_3 rfl) rfl (by show 2 * 0 + _ ≤ _; exact Nat.le_of_eq rfl) (hb hby k7_40) (fun _ _ => ⟨rfl, e454, (by decide : 1 + 0 ≤ _), (by decide : 2 + 0 ≤ _)⟩)
  dsimp only [Pt.U, Pt.locs, Pt.cells, Pt.slots] at X457 l457 y457 z457 st457 hQ457
  subst l457 y457 z457
  obtain ⟨rfl, N457q, eh457⟩ := hQ457
  have N457 := Fr.app N451 N457q
  obtain ⟨T458, X458, e458, st458⟩ := wget X457 hx hby hZ hown (hw _ tm52) eh457 (f453.at 11) L452 [] k7_44
  obtain ⟨T459, h459, k459, X459, e459, E459, A459, Q459, st459⟩ := newPE X458 hx hZ (aty := .int) (hw _ tm0) e458 (g := (mkF m 47 L452 [(.int 2)])) rfl (hb hby k7_47) rfl (by decide) (cap := 2) (by decide) (by decide) (by decide) (by decide) (ad := "[I") (by decide)
  obtain ⟨nc, g459⟩ : ∃ z, z = h451.size := ⟨_, rfl⟩
  rw [← g459] at A459 Q459 st459
  have lt_nk_nc : (nk : Nat) < nc := by rw [g459]; exact f450.lt
  have sz_h0_nc : h0.size ≤ (nc : Nat) := by rw [g459]; exact f456.1
  have f460 : Arv Z h459 nc k459 .int 2 [(.int 0), (.int 0)] (.int 0) := (Arv.new A459 (by decide)).pad (pad_rep [] (.int 0) 2)
  obtain ⟨L461, hL461⟩ := own_nm #[.val (.ref a1), .val (.ref nk), .val (.ref nc), .unset, .unset, .unset, .unset, .unset, .unset, .unset, .unset, .unset, .unset]
  have L461_0 := own_ld hL461 0 rfl
  have f462 := (f453.ext E459)
  obtain ⟨T463, X463, e463, st463⟩ := wget X459 hx hby hZ hown (hw _ tm52) e459 (f462.at 11) L461 [] k7_51
  have f464 := (f456.ext E459)
  obtain ⟨T465, h465, k465, X465, e465, E465, A465, Q465, st465⟩ := newPE X463 hx hZ (aty := .double) (hw _ tm16) e463 (g := (mkF m 54 L461 [(.int 2)])) rfl (hb hby k7_54) rfl (by decide) (cap := 2) (by decide) (by decide) (by decide) (by decide) (ad := "[D") (by decide)
  obtain ⟨nd, g465⟩ : ∃ z, z = h459.size := ⟨_, rfl⟩
  rw [← g465] at A465 Q465 st465
  have lt_nc_nd : (nc : Nat) < nd := by rw [g465]; exact f460.lt
  have sz_h0_nd : h0.size ≤ (nd : Nat) := by rw [g465]; exact f464.1
  have f466 : Arv Z h465 nd k465 .double 2 [(.double 0), (.double 0)] (.double 0) := (Arv.new A465 (by decide)).pad (pad_rep [] (.double 0) 2)
  obtain ⟨L467, hL467⟩ := own_nm #[.val (.ref a1), .val (.ref nk), .val (.ref nc), .val (.ref nd), .unset, .unset, .unset, .unset, .unset, .unset, .unset, .unset, .unset]
  obtain ⟨L468, hL468⟩ := own_nm #[.val (.ref a1), .val (.ref nk), .val (.ref nc), .val (.ref nd), .val (.int 0), .unset, .unset, .unset, .unset, .unset, .unset, .unset, .unset]
  have L468_1 := own_ld hL468 1 rfl
  obtain ⟨L469, hL469⟩ := own_nm #[.val (.ref a1), .val (.ref nk), .val (.ref nc), .val (.ref nd), .val (.int 0), .val (.ref nk), .unset, .unset, .unset, .unset, .unset, .unset, .unset]
  have L469_5 := own_ld hL469 5 rfl
  have f470 := ((f450.ext E459).ext E465)
  obtain ⟨cl471, Ar471, -, S471, M471, -, -⟩ := id f470
  obtain ⟨L472, hL472⟩ := own_nm #[.val (.ref a1), .val (.ref nk), .val (.ref nc), .val (.ref nd), .val (.int 0), .val (.ref nk), .val (.int 2), .unset, .unset, .unset, .unset, .unset, .unset]
  obtain ⟨L473, hL473⟩ := own_nm #[.val (.ref a1), .val (.ref nk), .val (.ref nc), .val (.ref nd), .val (.int 0), .val (.ref nk), .val (.int 2), .val (.int 0), .unset, .unset, .unset, .unset, .unset]
  have L473_7 := own_ld hL473 7 rfl
  have L473_6 := own_ld hL473 6 rfl
  have L473_5 := own_ld hL473 5 rfl
  obtain ⟨L474, hL474⟩ := own_nm #[.val (.ref a1), .val (.ref nk), .val (.ref nc), .val (.ref nd), .val (.int 0), .val (.ref nk), .val (.int 2), .val (.int 0), .val (.long 0), .second, .unset, .unset, .unset]
  have L474_8 := own_ld hL474 8 rfl
  obtain ⟨L475, hL475⟩ := own_nm #[.val (.ref a1), .val (.ref nk), .val (.ref nc), .val (.ref nd), .val (.int 0), .val (.ref nk), .val (.int 2), .val (.int 0), .val (.long 0), .second, .val (.int 0), .unset, .unset]
  have L475_0 := own_ld hL475 0 rfl
  have f476 := (f462.ext E465)
  obtain ⟨T477, X477, e477, st477⟩ := wget X465 hx hby hZ hown (hw _ tm17) e465 (f476.at 10) L475 [] k7_94
  have L475_8 := own_ld hL475 8 rfl
  have f478 := (((((V_od.ext E435).other W444 (by omega : (od : Nat) ≠ nk)).other W451 (by omega : (od : Nat) ≠ nk)).ext E459).ext E465)
  obtain ⟨L479, hL479⟩ := own_nm #[.val (.ref a1), .val (.ref nk), .val (.ref nc), .val (.ref nd), .val (.int 0), .val (.ref nk), .val (.int 2), .val (.int 0), .val (.long 0), .second, .val (.int 0), .val (.double y0), .second]
  have L479_4 := own_ld hL479 4 rfl
  have L479_2 := own_ld hL479 2 rfl
  have L479_10 := own_ld hL479 10 rfl
  have f480 := (f460.ext E465)
  obtain ⟨T482, h482, X482, e482, W482, f481, N482, st482⟩ := wiastore X477 hx hby hZ e477 N457 f480 (by omega : n0 ≤ (nc : Nat)) (0 : Int32) (0 : Int32) 0 rfl (by decide) (by decide) (Nat.le_of_ble_eq_true rfl) L479 [] k7_138
  have L479_3 := own_ld hL479 3 rfl
  have L479_11 := own_ld hL479 11 rfl
  have f483 := (f466.other W482 (by omega : (nd : Nat) ≠ nc))
  obtain ⟨T485, h485, X485, e485, W485, f484, N485, st485⟩ := wdastore X482 hx hby hZ e482 N482 f483 (by omega : n0 ≤ (nd : Nat)) (0 : Int32) y0 0 rfl (by decide) (by decide) (Nat.le_of_ble_eq_true rfl) L479 [] k7_144
  obtain ⟨L486, hL486⟩ := own_nm #[.val (.ref a1), .val (.ref nk), .val (.ref nc), .val (.ref nd), .val (.int 1), .val (.ref nk), .val (.int 2), .val (.int 0), .val (.long 0), .second, .val (.int 0), .val (.double y0), .second]
  have L486_0 := own_ld hL486 0 rfl
  have L486_10 := own_ld hL486 10 rfl
  have f487 := ((f476.other W482 (by omega : (a1 : Nat) ≠ nc)).other W485 (by omega : (a1 : Nat) ≠ nd))
  obtain ⟨T488, X488, e488, st488⟩ := wget X485 hx hby hZ hown (hw _ tm69) e485 (f487.at 6) L486 [(.int 0), (.ref a1)] k7_152
  have f490 := (((f464.ext E465).wr W482 (Or.inr (by omega : h0.size ≤ (nc : Nat)))).wr W485 (Or.inr (by omega : h0.size ≤ (nd : Nat))))
  have Z489 : n0 ≤ h485.size := Nat.le_trans Z0 f490.1
  have f491 := (((((((V_re.ext E435).other W444 (by omega : (re : Nat) ≠ nk)).other W451 (by omega : (re : Nat) ≠ nk)).ext E459).ext E465).other W482 (by omega : (re : Nat) ≠ nc)).other W485 (by omega : (re : Nat) ≠ nd))
  have f492 := (((((((V_rc.ext E435).other W444 (by omega : (rc : Nat) ≠ nk)).other W451 (by omega : (rc : Nat) ≠ nk)).ext E459).ext E465).other W482 (by omega : (rc : Nat) ≠ nc)).other W485 (by omega : (rc : Nat) ≠ nd))
  obtain ⟨cq493, qa493, qb493⟩ := f487.1.cell
  obtain ⟨_, _, ⟨T493, LL493, kk493, nn493⟩, -, X493, ⟨Lc493, hQ493, l493, y493, z493⟩, st493⟩ := X488.privateBack hx (y := (⟨"com/example/odds2/odds2/engine/Elimination", "addReader", "(II)V"⟩ : MethodName)) hown (mvT hZ (hw _ tm82)) (mvT hZ (hw _ tm83)) (own_sel hZ hw (hw _ tm84) (hw _ tm83)) (Cond.privateMethod_at (mvP hZ (hw _ tm84) (args := #[]))) (mvT hZ (hw _ tm85)) (by decide) (backOf (W := 0) (rmA l Z a0 hw [] a1 oc od mc md sr sp sw ss co cf le re rc k_re k_rc (1 : Int32) en wk st (2 : Int32) (0 : Int32) (1 : Int32) gs ms h485 n0 Z489 f487 f491 f492 OV (by unfold own_3; decide) lgs lms hg0 hm0 ord g_a) hZ (hw _ tm85) (hw _ tm7) (by decide) (by decide)) (g := (mkF m 155 L486 [(.int 1), (.int 0), (.ref a1)])) rfl (by rw [hml, hL486]; rfl) (Steps.refl _) (a := a1) (by rw [e488]; exact qa493) qb493 (argsL := [(.int 0), (.int 1)]) (rest := []) (lenOf pd_4 rfl) rfl (by show 2 * 0 + _ ≤ _; exact Nat.le_of_eq rfl) (hb hby k7_155) (fun _ _ => ⟨rfl, e488, (by decide : 3 + 1 ≤ _), (by decide : 6 + 4 ≤ _)⟩)
  dsimp only [Pt.U, Pt.locs, Pt.cells, Pt.slots] at X493 l493 y493 z493 st493 hQ493
  subst l493 y493 z493
  obtain ⟨nb0, kb0, rfl, N493q, K493, Vr493, Vc493, Vb493, zb0⟩ := hQ493
  have N493 := Fr.app N485 N493q
  have lt_nd_nb0 : (nd : Nat) < nb0 := Nat.lt_of_lt_of_le f484.lt zb0
  have L486_7 := own_ld hL486 7 rfl
  obtain ⟨L494, hL494⟩ := own_nm #[.val (.ref a1), .val (.ref nk), .val (.ref nc), .val (.ref nd), .val (.int 1), .val (.ref nk), .val (.int 2), .val (.int 1), .val (.long 0), .second, .val (.int 0), .val (.double y0), .second]
  have L494_7 := own_ld hL494 7 rfl
  have L494_6 := own_ld hL494 6 rfl
  have L494_5 := own_ld hL494 5 rfl
  have f495 := (((f470.other W482 (by omega : (nk : Nat) ≠ nc)).other W485 (by omega : (nk : Nat) ≠ nd)).keep K493 (ninS (by omega : (nk : Nat) ≠ re) (ninS (by omega : (nk : Nat) ≠ rc) nin0)))
  obtain ⟨L496, hL496⟩ := own_nm #[.val (.ref a1), .val (.ref nk), .val (.ref nc), .val (.ref nd), .val (.int 1), .val (.ref nk), .val (.int 2), .val (.int 1), .val (.long 8589934593), .second, .val (.int 0), .val (.double y0), .second]
  have L496_8 := own_ld hL496 8 rfl
  obtain ⟨L497, hL497⟩ := own_nm #[.val (.ref a1), .val (.ref nk), .val (.ref nc), .val (.ref nd), .val (.int 1), .val (.ref nk), .val (.int 2), .val (.int 1), .val (.long 8589934593), .second, .val (.int 2), .val (.double y0), .second]
  have L497_0 := own_ld hL497 0 rfl
  have f498 := (f487.keep K493 (ninS (by omega : (a1 : Nat) ≠ re) (ninS (by omega : (a1 : Nat) ≠ rc) nin0)))
  obtain ⟨T499, X499, e499, st499⟩ := wget X493 hx hby hZ hown (hw _ tm17) rfl (f498.at 10) L497 [] k7_94
  have L497_8 := own_ld hL497 8 rfl
  have f500 := (((f478.other W482 (by omega : (od : Nat) ≠ nc)).other W485 (by omega : (od : Nat) ≠ nd)).keep K493 (ninS (by omega : (od : Nat) ≠ re) (ninS (by omega : (od : Nat) ≠ rc) nin0)))
  obtain ⟨L501, hL501⟩ := own_nm #[.val (.ref a1), .val (.ref nk), .val (.ref nc), .val (.ref nd), .val (.int 1), .val (.ref nk), .val (.int 2), .val (.int 1), .val (.long 8589934593), .second, .val (.int 2), .val (.double y1), .second]
  have L501_4 := own_ld hL501 4 rfl
  have L501_2 := own_ld hL501 2 rfl
  have f502 := ((f481.other W485 (by omega : (nc : Nat) ≠ nd)).keep K493 (ninS (by omega : (nc : Nat) ≠ re) (ninS (by omega : (nc : Nat) ≠ rc) nin0)))
  have L501_10 := own_ld hL501 10 rfl
  obtain ⟨T504, h504, X504, e504, W504, f503, N504, st504⟩ := wiastore X499 hx hby hZ e499 N493 f502 (by omega : n0 ≤ (nc : Nat)) (1 : Int32) (2 : Int32) 1 rfl (by decide) (by decide) (Nat.le_of_ble_eq_true rfl) L501 [] k7_138
  have L501_3 := own_ld hL501 3 rfl
  have L501_11 := own_ld hL501 11 rfl
  have f505 := ((f484.keep K493 (ninS (by omega : (nd : Nat) ≠ re) (ninS (by omega : (nd : Nat) ≠ rc) nin0))).other W504 (by omega : (nd : Nat) ≠ nc))
  obtain ⟨T507, h507, X507, e507, W507, f506, N507, st507⟩ := wdastore X504 hx hby hZ e504 N504 f505 (by omega : n0 ≤ (nd : Nat)) (1 : Int32) y1 1 rfl (by decide) (by decide) (Nat.le_of_ble_eq_true rfl) L501 [] k7_144
  obtain ⟨L508, hL508⟩ := own_nm #[.val (.ref a1), .val (.ref nk), .val (.ref nc), .val (.ref nd), .val (.int 2), .val (.ref nk), .val (.int 2), .val (.int 1), .val (.long 8589934593), .second, .val (.int 2), .val (.double y1), .second]
  have L508_0 := own_ld hL508 0 rfl
  have L508_10 := own_ld hL508 10 rfl
  have f509 := ((f498.other W504 (by omega : (a1 : Nat) ≠ nc)).other W507 (by omega : (a1 : Nat) ≠ nd))
  obtain ⟨T510, X510, e510, st510⟩ := wget X507 hx hby hZ hown (hw _ tm69) e507 (f509.at 6) L508 [(.int 2), (.ref a1)] k7_152
  have f512 := (((f490.trans K493 (allS (Or.inl (List.mem_of_getElem? (i := 4) rfl)) (allS (Or.inl (List.mem_of_getElem? (i := 5) rfl)) all0))).wr W504 (Or.inr (by omega : h0.size ≤ (nc : Nat)))).wr W507 (Or.inr (by omega : h0.size ≤ (nd : Nat))))
  have Z511 : n0 ≤ h507.size := Nat.le_trans Z0 f512.1
  have f513 := ((Vr493.other W504 (by omega : (re : Nat) ≠ nc)).other W507 (by omega : (re : Nat) ≠ nd))
  have f514 := ((Vc493.other W504 (by omega : (rc : Nat) ≠ nc)).other W507 (by omega : (rc : Nat) ≠ nd))
  have f515 := ((Vb493.other W504 (by omega : (nb0 : Nat) ≠ nc)).other W507 (by omega : (nb0 : Nat) ≠ nd))
  obtain ⟨cq516, qa516, qb516⟩ := f509.1.cell
  obtain ⟨_, _, ⟨T516, LL516, kk516, nn516⟩, -, X516, ⟨Lc516, hQ516, l516, y516, z516⟩, st516⟩ := X510.privateBack hx (y := (⟨"com/example/odds2/odds2/engine/Elimination", "addReader", "(II)V"⟩ : MethodName)) hown (mvT hZ (hw _ tm82)) (mvT hZ (hw _ tm83)) (own_sel hZ hw (hw _ tm84) (hw _ tm83)) (Cond.privateMethod_at (mvP hZ (hw _ tm84) (args := #[]))) (mvT hZ (hw _ tm85)) (by decide) (backOf (W := 0) (rmA l Z a0 hw [] a1 oc od mc md sr sp sw ss co cf le re rc k_re k_rc (1 : Int32) en wk st (2 : Int32) (2 : Int32) (1 : Int32) (gs.set ((0 : Int32)).toNatClampNeg (.ref nb0)) (ms.set ((0 : Int32)).toNatClampNeg (.int 1)) h507 n0 Z511 f509 f513 f514 OV (by unfold own_3; decide) (by simp only [List.length_set]; exact lgs) (by simp only [List.length_set]; exact lms) (own_skip hg1 (by decide)) (own_skip hm1 (by decide)) ord g_a) hZ (hw _ tm85) (hw _ tm7) (by decide) (by decide)) (g := (mkF m 155 L508 [(.int 1), (.int 2), (.ref a1)])) rfl (by rw [hml, hL508]; rfl) (Steps.refl _) (a := a1) (by rw [e510]; exact qa516) qb516 (argsL := [(.int 2), (.int 1)]) (rest := []) (lenOf pd_4 rfl) rfl (by show 2 * 0 + _ ≤ _; exact Nat.le_of_eq rfl) (hb hby k7_155) (fun _ _ => ⟨rfl, e510, (by decide : 4 + 1 ≤ _), (by decide : 10 + 4 ≤ _)⟩)
  dsimp only [Pt.U, Pt.locs, Pt.cells, Pt.slots] at X516 l516 y516 z516 st516 hQ516
  subst l516 y516 z516
  obtain ⟨nb1, kb1, rfl, N516q, K516, Vr516, Vc516, Vb516, zb1⟩ := hQ516
  have N516 := Fr.app N507 N516q
  have lt_nb0_nb1 : (nb0 : Nat) < nb1 := Nat.lt_of_lt_of_le f515.lt zb1
  have L508_7 := own_ld hL508 7 rfl
  obtain ⟨L517, hL517⟩ := own_nm #[.val (.ref a1), .val (.ref nk), .val (.ref nc), .val (.ref nd), .val (.int 2), .val (.ref nk), .val (.int 2), .val (.int 2), .val (.long 8589934593), .second, .val (.int 2), .val (.double y1), .second]
  have L517_7 := own_ld hL517 7 rfl
  have L517_6 := own_ld hL517 6 rfl
  have L517_0 := own_ld hL517 0 rfl
  have L517_2 := own_ld hL517 2 rfl
  have L517_3 := own_ld hL517 3 rfl
  have L517_4 := own_ld hL517 4 rfl
  have f518 := (f509.keep K516 (ninS (by omega : (a1 : Nat) ≠ re) (ninS (by omega : (a1 : Nat) ≠ rc) nin0)))
  have f519 := (((((((((((V_co.ext E435).other W444 (by omega : (co : Nat) ≠ nk)).other W451 (by omega : (co : Nat) ≠ nk)).ext E459).ext E465).other W482 (by omega : (co : Nat) ≠ nc)).other W485 (by omega : (co : Nat) ≠ nd)).keep K493 (ninS (by omega : (co : Nat) ≠ re) (ninS (by omega : (co : Nat) ≠ rc) nin0))).other W504 (by omega : (co : Nat) ≠ nc)).other W507 (by omega : (co : Nat) ≠ nd)).keep K516 (ninS (by omega : (co : Nat) ≠ re) (ninS (by omega : (co : Nat) ≠ rc) nin0)))
  have f520 := (((((((((((V_cf.ext E435).other W444 (by omega : (cf : Nat) ≠ nk)).other W451 (by omega : (cf : Nat) ≠ nk)).ext E459).ext E465).other W482 (by omega : (cf : Nat) ≠ nc)).other W485 (by omega : (cf : Nat) ≠ nd)).keep K493 (ninS (by omega : (cf : Nat) ≠ re) (ninS (by omega : (cf : Nat) ≠ rc) nin0))).other W504 (by omega : (cf : Nat) ≠ nc)).other W507 (by omega : (cf : Nat) ≠ nd)).keep K516 (ninS (by omega : (cf : Nat) ≠ re) (ninS (by omega : (cf : Nat) ≠ rc) nin0)))
  have f521 := (((((((((((V_le.ext E435).other W444 (by omega : (le : Nat) ≠ nk)).other W451 (by omega : (le : Nat) ≠ nk)).ext E459).ext E465).other W482 (by omega : (le : Nat) ≠ nc)).other W485 (by omega : (le : Nat) ≠ nd)).keep K493 (ninS (by omega : (le : Nat) ≠ re) (ninS (by omega : (le : Nat) ≠ rc) nin0))).other W504 (by omega : (le : Nat) ≠ nc)).other W507 (by omega : (le : Nat) ≠ nd)).keep K516 (ninS (by omega : (le : Nat) ≠ re) (ninS (by omega : (le : Nat) ≠ rc) nin0)))
  have f522 := (((((((Q459.ext E465).wr W482).wr W485).keep K493).wr W504).wr W507).keep K516)
  have f523 := ((((((Q465.wr W482).wr W485).keep K493).wr W504).wr W507).keep K516)
  have f524 := (((((((((f449.other W451 (by omega : (oc : Nat) ≠ nk)).ext E459).ext E465).other W482 (by omega : (oc : Nat) ≠ nc)).other W485 (by omega : (oc : Nat) ≠ nd)).keep K493 (ninS (by omega : (oc : Nat) ≠ re) (ninS (by omega : (oc : Nat) ≠ rc) nin0))).other W504 (by omega : (oc : Nat) ≠ nc)).other W507 (by omega : (oc : Nat) ≠ nd)).keep K516 (ninS (by omega : (oc : Nat) ≠ re) (ninS (by omega : (oc : Nat) ≠ rc) nin0)))
  have f525 := (((f500.other W504 (by omega : (od : Nat) ≠ nc)).other W507 (by omega : (od : Nat) ≠ nd)).keep K516 (ninS (by omega : (od : Nat) ≠ re) (ninS (by omega : (od : Nat) ≠ rc) nin0)))
  have f526 := (f512.trans K516 (allS (Or.inl (List.mem_of_getElem? (i := 4) rfl)) (allS (Or.inl (List.mem_of_getElem? (i := 5) rfl)) all0)))
  have f527 := (((f495.other W504 (by omega : (nk : Nat) ≠ nc)).other W507 (by omega : (nk : Nat) ≠ nd)).keep K516 (ninS (by omega : (nk : Nat) ≠ re) (ninS (by omega : (nk : Nat) ≠ rc) nin0)))
  have f528 := ((((((((((Q435.wr W444).wr W451).ext E459).ext E465).wr W482).wr W485).keep K493).wr W504).wr W507).keep K516)
  have f529 := ((f503.other W507 (by omega : (nc : Nat) ≠ nd)).keep K516 (ninS (by omega : (nc : Nat) ≠ re) (ninS (by omega : (nc : Nat) ≠ rc) nin0)))
  have f530 := (f506.keep K516 (ninS (by omega : (nd : Nat) ≠ re) (ninS (by omega : (nd : Nat) ≠ rc) nin0)))
  have f531 := (f515.keep K516 (ninS (by omega : (nb0 : Nat) ≠ re) (ninS (by omega : (nb0 : Nat) ≠ rc) nin0)))
  obtain ⟨T532, h532, LT532, X532, e532, N532, K532, O532, Vo532, Vf532, Vl532, st532⟩ := tlE Z a0 hw a1 oc od mc md sr sp sw ss co cf le re rc k_co k_cf k_le (1 : Int32) en wk st (2 : Int32) (2 : Int32) nc nd cs fl ls L517 T516.heap n0 X516 hx hZ hby hml hown rfl N516 L517_0 L517_2 L517_3 L517_4 f518 f519 f520 f521 OVc OVf f522 f523 (by unfold own_3; decide) lcs lfs lls (by omega) (by omega) ord g_a
  have f533 := (f526.trans K532 (allS (Or.inl (List.mem_of_getElem? (i := 0) rfl)) (allS (Or.inl (List.mem_of_getElem? (i := 1) rfl)) (allS (Or.inl (List.mem_of_getElem? (i := 2) rfl)) (allS (Or.inl (List.mem_of_getElem? (i := 3) rfl)) all0)))))
  have f534 := (Vr516.keep K532 (by repeat' first | exact nin0 | refine ninS ?_ ?_ | (show (_ : Nat) ≠ _; omega)))
  have f535 := (Vc516.keep K532 (by repeat' first | exact nin0 | refine ninS ?_ ?_ | (show (_ : Nat) ≠ _; omega)))
  have f536 := (f529.keep K532 (by repeat' first | exact nin0 | refine ninS ?_ ?_ | (show (_ : Nat) ≠ _; omega)))
  have f537 := (f530.keep K532 (by repeat' first | exact nin0 | refine ninS ?_ ?_ | (show (_ : Nat) ≠ _; omega)))
  have f538 := (f531.keep K532 (by repeat' first | exact nin0 | refine ninS ?_ ?_ | (show (_ : Nat) ≠ _; omega)))
  have f539 := (Vb516.keep K532 (by repeat' first | exact nin0 | refine ninS ?_ ?_ | (show (_ : Nat) ≠ _; omega)))
  have szc : h0.size ≤ nc := by omega
  obtain ⟨fs, hr, hrun, hended, hW, hsame⟩ := X532.leave (v := none) (fun _ => rfl)
  refine ⟨_, _, pre0 _ ?_, hrun, hended, _, _, rfl, ?_, ⟨_, rfl⟩, hW, hsame.mono (by decide) (by decide)⟩
  · rw [← hL433]
    show own_S p e below m s₁ 0 L433 [] _
    refine waloadN X0 hx hby k7_0 L433_0 rfl ?_
    refine st434 _ ?_
    refine st435 _ ?_
    refine XS.astoreN X435.here hx rfl (hb hby k7_6) rfl rfl (l' := L437) (by rw [hL433, hL437]; rfl) ?_
    show own_S p e below m T435 7 L437 [] _
    refine wiconst X435 hx hby k7_7 ?_
    refine XS.istoreN X435.here hx rfl (hb hby k7_8) rfl (l' := L438) (by rw [hL437, hL438]; rfl) ?_
    refine wiloadN X435 hx hby k7_9 L438_2 ?_
    refine waloadN X435 hx hby k7_10 L438_0 rfl ?_
    show own_S p e below m T435 11 L438 [(.ref a1), (.int 0)] _
    refine st440 _ ?_
    refine wicmpNo X440 hx hby k7_14 (by decide) ?_
    refine waloadN X440 hx hby k7_17 L438_1 rfl ?_
    refine wiloadN X440 hx hby k7_18 L438_2 ?_
    show own_S p e below m T440 19 L438 [(.int 0), (.ref nk)] _
    refine waloadN X440 hx hby k7_19 L438_0 rfl ?_
    refine st441 _ ?_
    refine wiloadN X441 hx hby k7_23 L438_2 ?_
    refine wiaload X441 hx hby hZ e441 f442 0 rfl (by decide) (by decide) (v := (.int 0)) rfl k7_24 ?_
    show own_S p e below m T441 25 L438 [(.int 0), (.int 0), (.ref nk)] _
    refine XS.i2l X441.here hx rfl (hb hby k7_25) rfl ?_
    refine XS.bipush X441.here hx rfl (hb hby k7_26) ?_
    refine XS.lshl X441.here hx rfl (hb hby k7_28) rfl ?_
    refine wiloadN X441 hx hby k7_29 L438_2 ?_
    show own_S p e below m T441 30 L438 [(.int 0), (.long ((0 : Int32).toInt64 <<< ((32 : Int32) &&& 0x3f).toInt64)), (.int 0), (.ref nk)] _
    refine XS.i2l X441.here hx rfl (hb hby k7_30) rfl ?_
    refine XS.lor X441.here hx rfl (hb hby k7_31) rfl ?_
    show own_S p e below m T441 32 L438 [(.long (((0 : Int32).toInt64 <<< ((32 : Int32) &&& 0x3f).toInt64) ||| (0 : Int32).toInt64)), (.int 0), (.ref nk)] _
    rw [(by decide +kernel : (((0 : Int32).toInt64 <<< ((32 : Int32) &&& 0x3f).toInt64) ||| (0 : Int32).toInt64) = (0 : Int64))]
    show own_S p e below m T441 32 L438 [(.long 0), (.int 0), (.ref nk)] _
    refine st444 _ ?_
    refine wiinc X444 hx hby k7_33 L438_2 hL438 hL445 rfl ?_
    refine wgoto X444 hx hby k7_36 36 9 rfl (by decide) (by decide) ?_
    refine wiloadN X444 hx hby k7_9 L445_2 ?_
    show own_S p e below m T444 10 L445 [(.int 1)] _
    refine waloadN X444 hx hby k7_10 L445_0 rfl ?_
    refine st447 _ ?_
    refine wicmpNo X447 hx hby k7_14 (by decide) ?_
    refine waloadN X447 hx hby k7_17 L445_1 rfl ?_
    show own_S p e below m T447 18 L445 [(.ref nk)] _
    refine wiloadN X447 hx hby k7_18 L445_2 ?_
    refine waloadN X447 hx hby k7_19 L445_0 rfl ?_
    refine st448 _ ?_
    refine wiloadN X448 hx hby k7_23 L445_2 ?_
    show own_S p e below m T448 24 L445 [(.int 1), (.ref oc), (.int 1), (.ref nk)] _
    refine wiaload X448 hx hby hZ e448 f449 1 rfl (by decide) (by decide) (v := (.int 2)) rfl k7_24 ?_
    refine XS.i2l X448.here hx rfl (hb hby k7_25) rfl ?_
    refine XS.bipush X448.here hx rfl (hb hby k7_26) ?_
    refine XS.lshl X448.here hx rfl (hb hby k7_28) rfl ?_
    show own_S p e below m T448 29 L445 [(.long ((2 : Int32).toInt64 <<< ((32 : Int32) &&& 0x3f).toInt64)), (.int 1), (.ref nk)] _
    refine wiloadN X448 hx hby k7_29 L445_2 ?_
    refine XS.i2l X448.here hx rfl (hb hby k7_30) rfl ?_
    refine XS.lor X448.here hx rfl (hb hby k7_31) rfl ?_
    show own_S p e below m T448 32 L445 [(.long (((2 : Int32).toInt64 <<< ((32 : Int32) &&& 0x3f).toInt64) ||| (1 : Int32).toInt64)), (.int 1), (.ref nk)] _
    rw [(by decide +kernel : (((2 : Int32).toInt64 <<< ((32 : Int32) &&& 0x3f).toInt64) ||| (1 : Int32).toInt64) = (8589934593 : Int64))]
    show own_S p e below m T448 32 L445 [(.long 8589934593), (.int 1), (.ref nk)] _
    refine st451 _ ?_
    refine wiinc X451 hx hby k7_33 L445_2 hL445 hL452 rfl ?_
    refine wgoto X451 hx hby k7_36 36 9 rfl (by decide) (by decide) ?_
    refine wiloadN X451 hx hby k7_9 L452_2 ?_
    show own_S p e below m T451 10 L452 [(.int 2)] _
    refine waloadN X451 hx hby k7_10 L452_0 rfl ?_
    refine st454 _ ?_
    refine wicmpYes X454 hx hby k7_14 14 39 rfl (by decide) (by decide) (by decide) ?_
    refine waloadN X454 hx hby k7_39 L452_1 rfl ?_
    show own_S p e below m T454 40 L452 [(.ref nk)] _
    refine st457 _ ?_
    refine waloadN X457 hx hby k7_43 L452_0 rfl ?_
    refine st458 _ ?_
    refine st459 _ ?_
    show own_S p e below m T459 49 L452 [(.ref nc)] _
    refine XS.astoreN X459.here hx rfl (hb hby k7_49) rfl rfl (l' := L461) (by rw [hL452, hL461]; rfl) ?_
    refine waloadN X459 hx hby k7_50 L461_0 rfl ?_
    refine st463 _ ?_
    refine st465 _ ?_
    show own_S p e below m T465 56 L461 [(.ref nd)] _
    refine XS.astoreN X465.here hx rfl (hb hby k7_56) rfl rfl (l' := L467) (by rw [hL461, hL467]; rfl) ?_
    refine wiconst X465 hx hby k7_57 ?_
    refine wistore X465 hx hby k7_58 hL467 hL468 rfl ?_
    refine waloadN X465 hx hby k7_60 L468_1 rfl ?_
    show own_S p e below m T465 61 L468 [(.ref nk)] _
    refine XS.astore X465.here hx rfl (hb hby k7_61) rfl rfl (l' := L469) (by rw [hL468, hL469]; rfl) ?_
    refine waload X465 hx hby k7_63 L469_5 rfl ?_
    refine X465.arraylength hx (by rw [e465]; exact Ar471.1) (State.isArrayOf_alike hZ.alike Ar471.2.1) (g := (mkF m 65 L469 [(.ref nk)])) rfl rfl (hb hby k7_65) _ ?_
    rw [len_of S471 M471]
    show own_S p e below m T465 66 L469 [(.int 2)] _
    refine wistore X465 hx hby k7_66 hL469 hL472 rfl ?_
    refine wiconst X465 hx hby k7_68 ?_
    refine wistore X465 hx hby k7_69 hL472 hL473 rfl ?_
    refine wiload X465 hx hby k7_71 L473_7 ?_
    show own_S p e below m T465 73 L473 [(.int 0)] _
    refine wiload X465 hx hby k7_73 L473_6 ?_
    refine wicmpNo X465 hx hby k7_75 (by decide) ?_
    refine waload X465 hx hby k7_78 L473_5 rfl ?_
    refine wiload X465 hx hby k7_80 L473_7 ?_
    show own_S p e below m T465 82 L473 [(.int 0), (.ref nk)] _
    refine wlaload X465 hx hby hZ e465 f470 0 rfl (by decide) (by decide) (v := (.long 0)) rfl k7_82 ?_
    refine XS.lstore X465.here hx rfl (hb hby k7_83) rfl (l' := L474) (by rw [hL473, hL474]; rfl) ?_
    refine XS.lload X465.here hx rfl (hb hby k7_85) L474_8 ?_
    refine XS.bipush X465.here hx rfl (hb hby k7_87) ?_
    show own_S p e below m T465 89 L474 [(.int 32), (.long 0)] _
    refine XS.lushr X465.here hx rfl (hb hby k7_89) rfl ?_
    refine XS.l2i X465.here hx rfl (hb hby k7_90) rfl ?_
    show own_S p e below m T465 91 L474 [(.int (((0 : Int64).toUInt64 >>> ((32 : Int32) &&& 0x3f).toInt64.toUInt64).toInt64).toInt32)] _
    rw [(by decide +kernel : (((0 : Int64).toUInt64 >>> ((32 : Int32) &&& 0x3f).toInt64.toUInt64).toInt64).toInt32 = (0 : Int32))]
    show own_S p e below m T465 91 L474 [(.int 0)] _
    refine wistore X465 hx hby k7_91 hL474 hL475 rfl ?_
    refine waloadN X465 hx hby k7_93 L475_0 rfl ?_
    refine st477 _ ?_
    refine XS.lload X477.here hx rfl (hb hby k7_97) L475_8 ?_
    show own_S p e below m T477 99 L475 [(.long 0), (.ref od)] _
    refine XS.l2i X477.here hx rfl (hb hby k7_99) rfl ?_
    show own_S p e below m T477 100 L475 [(.int (0 : Int64).toInt32), (.ref od)] _
    rw [(by decide +kernel : (0 : Int64).toInt32 = (0 : Int32))]
    show own_S p e below m T477 100 L475 [(.int 0), (.ref od)] _
    refine wdaload X477 hx hby hZ e477 f478 0 rfl (by decide) (by decide) (v := (.double y0)) rfl k7_100 ?_
    refine XS.dstore X477.here hx rfl (hb hby k7_101) rfl (l' := L479) (by rw [hL475, hL479]; rfl) ?_
    refine wiload X477 hx hby k7_103 L479_4 ?_
    refine wifYes X477 hx hby k7_105 105 133 rfl (by decide) (by decide) (by decide) ?_
    show own_S p e below m T477 133 L479 [] _
    refine waloadN X477 hx hby k7_133 L479_2 rfl ?_
    refine wiload X477 hx hby k7_134 L479_4 ?_
    refine wiload X477 hx hby k7_136 L479_10 ?_
    refine st482 _ ?_
    show own_S p e below m T482 139 L479 [] _
    refine waloadN X482 hx hby k7_139 L479_3 rfl ?_
    refine wiload X482 hx hby k7_140 L479_4 ?_
    refine wdload X482 hx hby k7_142 L479_11 ?_
    refine st485 _ ?_
    show own_S p e below m T485 145 L479 [] _
    refine wiinc X485 hx hby k7_145 L479_4 hL479 hL486 rfl ?_
    refine waloadN X485 hx hby k7_148 L486_0 rfl ?_
    refine wiload X485 hx hby k7_149 L486_10 ?_
    refine waloadN X485 hx hby k7_151 L486_0 rfl ?_
    show own_S p e below m T485 152 L486 [(.ref a1), (.int 0), (.ref a1)] _
    refine st488 _ ?_
    refine st493.trans ?_
    refine wiinc X493 hx hby k7_158 L486_7 hL486 hL494 rfl ?_
    refine wgoto X493 hx hby k7_161 161 71 rfl (by decide) (by decide) ?_
    show own_S p e below m T493 71 L494 [] _
    refine wiload X493 hx hby k7_71 L494_7 ?_
    refine wiload X493 hx hby k7_73 L494_6 ?_
    refine wicmpNo X493 hx hby k7_75 (by decide) ?_
    refine waload X493 hx hby k7_78 L494_5 rfl ?_
    show own_S p e below m T493 80 L494 [(.ref nk)] _
    refine wiload X493 hx hby k7_80 L494_7 ?_
    refine wlaload X493 hx hby hZ rfl f495 1 rfl (by decide) (by decide) (v := (.long 8589934593)) rfl k7_82 ?_
    refine XS.lstore X493.here hx rfl (hb hby k7_83) rfl (l' := L496) (by rw [hL494, hL496]; rfl) ?_
    refine XS.lload X493.here hx rfl (hb hby k7_85) L496_8 ?_
    show own_S p e below m T493 87 L496 [(.long 8589934593)] _
    refine XS.bipush X493.here hx rfl (hb hby k7_87) ?_
    refine XS.lushr X493.here hx rfl (hb hby k7_89) rfl ?_
    refine XS.l2i X493.here hx rfl (hb hby k7_90) rfl ?_
    show own_S p e below m T493 91 L496 [(.int (((8589934593 : Int64).toUInt64 >>> ((32 : Int32) &&& 0x3f).toInt64.toUInt64).toInt64).toInt32)] _
    rw [(by decide +kernel : (((8589934593 : Int64).toUInt64 >>> ((32 : Int32) &&& 0x3f).toInt64.toUInt64).toInt64).toInt32 = (2 : Int32))]
    show own_S p e below m T493 91 L496 [(.int 2)] _
    refine wistore X493 hx hby k7_91 hL496 hL497 rfl ?_
    refine waloadN X493 hx hby k7_93 L497_0 rfl ?_
    refine st499 _ ?_
    refine XS.lload X499.here hx rfl (hb hby k7_97) L497_8 ?_
    show own_S p e below m T499 99 L497 [(.long 8589934593), (.ref od)] _
    refine XS.l2i X499.here hx rfl (hb hby k7_99) rfl ?_
    show own_S p e below m T499 100 L497 [(.int (8589934593 : Int64).toInt32), (.ref od)] _
    rw [(by decide +kernel : (8589934593 : Int64).toInt32 = (1 : Int32))]
    show own_S p e below m T499 100 L497 [(.int 1), (.ref od)] _
    refine wdaload X499 hx hby hZ e499 f500 1 rfl (by decide) (by decide) (v := (.double y1)) rfl k7_100 ?_
    refine XS.dstore X499.here hx rfl (hb hby k7_101) rfl (l' := L501) (by rw [hL497, hL501]; rfl) ?_
    refine wiload X499 hx hby k7_103 L501_4 ?_
    refine wifNo X499 hx hby k7_105 (by decide) ?_
    show own_S p e below m T499 108 L501 [] _
    refine waloadN X499 hx hby k7_108 L501_2 rfl ?_
    refine wiload X499 hx hby k7_109 L501_4 ?_
    refine wiconst X499 hx hby k7_111 ?_
    refine XS.isub X499.here hx rfl (hb hby k7_112) rfl ?_
    show own_S p e below m T499 113 L501 [(.int 0), (.ref nc)] _
    refine wiaload X499 hx hby hZ e499 f502 0 rfl (by decide) (by decide) (v := (.int 0)) rfl k7_113 ?_
    refine wiload X499 hx hby k7_114 L501_10 ?_
    refine wicmpYes X499 hx hby k7_116 116 133 rfl (by decide) (by decide) (by decide) ?_
    refine waloadN X499 hx hby k7_133 L501_2 rfl ?_
    show own_S p e below m T499 134 L501 [(.ref nc)] _
    refine wiload X499 hx hby k7_134 L501_4 ?_
    refine wiload X499 hx hby k7_136 L501_10 ?_
    refine st504 _ ?_
    refine waloadN X504 hx hby k7_139 L501_3 rfl ?_
    show own_S p e below m T504 140 L501 [(.ref nd)] _
    refine wiload X504 hx hby k7_140 L501_4 ?_
    refine wdload X504 hx hby k7_142 L501_11 ?_
    refine st507 _ ?_
    refine wiinc X507 hx hby k7_145 L501_4 hL501 hL508 rfl ?_
    show own_S p e below m T507 148 L508 [] _
    refine waloadN X507 hx hby k7_148 L508_0 rfl ?_
    refine wiload X507 hx hby k7_149 L508_10 ?_
    refine waloadN X507 hx hby k7_151 L508_0 rfl ?_
    refine st510 _ ?_
    show own_S p e below m T510 155 L508 [(.int 1), (.int 2), (.ref a1)] _
    refine st516.trans ?_
    refine wiinc X516 hx hby k7_158 L508_7 hL508 hL517 rfl ?_
    refine wgoto X516 hx hby k7_161 161 71 rfl (by decide) (by decide) ?_
    refine wiload X516 hx hby k7_71 L517_7 ?_
    show own_S p e below m T516 73 L517 [(.int 2)] _
    refine wiload X516 hx hby k7_73 L517_6 ?_
    refine wicmpYes X516 hx hby k7_75 75 164 rfl (by decide) (by decide) (by decide) ?_
    refine st532 _ ?_
    exact X532.returnOut hx Bd.returns (hb hby k7_234) hr
  · show QE2 Z a1 oc od mc md sr sp sw ss co cf le re rc k_co k_cf k_le k_oc k_od k_re k_rc en wk st cs fl ls y0 y1 gs ms h0 n0 _ T532.heap _
    rw [e532]
    exact ⟨nc, nd, nb0, nb1, k459, k465, kb0, kb1, rfl, N532, f533, O532, Vo532, Vf532, Vl532, f534, f535, f536, f537, f538, f539, szc, (by omega), (by omega), (by omega)⟩
theorem ef_r1 (m : MethodId) (x0 : Int32) (x1 : Int32) (x2 : Int32) : entryFrame m #[(.int x0), (.int x1), (.int x2)] 3 = mkF m 0 #[.val (.int x0), .val (.int x1), .val (.int x2)] [] := by first | (simp [entryFrame, mkF, argsToLocals, Value.category]; done) | rfl
theorem pn_r1 : plainName "java/util/Arrays" = true := by first | (simp [plainName, overriddenIn]; done) | decide +kernel
def Qr1 (Z : State) (ln n : Int32) (h0 : Heap) (n0 : Nat) (v : Option Value) (h : Heap) (L : List Loc) : Prop := v = none ∧ Fr n0 L ∧ h = h0
set_option maxRecDepth 65536 in
set_option maxHeartbeats 40000000 in
theorem rmr1 (l : Launch) (Z : State) (a0 : Array Value) (hw : ∀ d ∈ tables_1, d.before a0 Z = true) (ws : List Jvm.Cond) (ln n : Int32) (h0 : Heap) (n0 : Nat) (Z0 : n0 ≤ h0.size) (h1 : ¬ (n < (0 : Int32))) (h2 : ¬ (ln < n)) :
    MetFree l (⟨"java/util/Arrays", "rangeCheck", "(III)V"⟩ : MethodName) (head1 (Jvm.Cond.code (⟨"java/util/Arrays", "rangeCheck", "(III)V"⟩ : MethodName) jdk_65_method_30_code 3 none :: ws) ({ frames := 0, cells := 0, slots := 0, locals := 0 } : Room)) (fun a U => a = #[(.int ln), (.int 0), (.int n)] ∧ Z.Warmed39 U.vm ∧ U.heap = h0) (fun _ _ _ _ _ => True) (fun _ U o U' => ∃ v L, o = .returned v ∧ Qr1 Z ln n h0 n0 v U'.heap L ∧ FrameEnd U o U' L ({ frames := 0, cells := 0, slots := 0, locals := 0 } : Room).cells ({ frames := 0, cells := 0, slots := 0, locals := 0 } : Room).slots) := by
  refine MetFree.of_bodySF (plainFor_of_name pn_r1) hisR ?_
  intro p e s m args below meth c s₁ Bd hml0 hP hK
  obtain ⟨rfl, hZ, hh⟩ := hP
  have hx := Bd.exec
  have hby := Bd.bytes
  have hml : c.maxLocals = 3 := hml0
  have hown : s.vm.findClass "java/util/Arrays" = some m.cls := findClass_of_methodNamed Bd.named
  have hnm := (name_of_methodNamed Bd.named Bd.method).1
  have X0 : Stand p l e ({ frames := 0, cells := 0, slots := 0, locals := 0 } : Room) s m #[(.int ln), (.int 0), (.int n)] below meth c s₁ [] 0 0 := Stand.of_body Bd
  have e0 : s₁.heap = h0 := by rw [← hh, Bd.state]; rfl
  have N0 := Fr.nil n0
  have pre0 : ∀ t, Steps p.tables e below (s₁.setTop (mkF m 0 #[.val (.int ln), .val (.int 0), .val (.int n)] [])) t → Steps p.tables e below (s₁.setTop (entryFrame m #[(.int ln), (.int 0), (.int n)] 3)) t := fun t k => castTop (ef_r1 m ln (0 : Int32) n) k
  obtain ⟨L540, hL540⟩ := own_nm #[.val (.int ln), .val (.int 0), .val (.int n)]
  have L540_1 := own_ld hL540 1 rfl
  have L540_2 := own_ld hL540 2 rfl
  have L540_0 := own_ld hL540 0 rfl
  obtain ⟨fs, hr, hrun, hended, hW, hsame⟩ := X0.leave (v := none) (fun _ => rfl)
  refine ⟨_, _, pre0 _ ?_, hrun, hended, _, _, rfl, ?_, ⟨_, rfl⟩, hW, hsame.mono (by decide) (by decide)⟩
  · rw [← hL540]
    show own_S p e below m s₁ 0 L540 [] _
    refine wiloadN X0 hx hby k8_0 L540_1 ?_
    refine wiloadN X0 hx hby k8_1 L540_2 ?_
    refine wicmpYes X0 hx hby k8_2 2 46 rfl (flt h1).2.2.2 (by decide) (by decide) ?_
    refine wiloadN X0 hx hby k8_46 L540_1 ?_
    show own_S p e below m s₁ 47 L540 [(.int 0)] _
    refine wifYes X0 hx hby k8_47 47 59 rfl (by decide) (by decide) (by decide) ?_
    refine wiloadN X0 hx hby k8_59 L540_2 ?_
    refine wiloadN X0 hx hby k8_60 L540_0 ?_
    refine wicmpYes X0 hx hby k8_61 61 73 rfl (flt h2).2.2.2 (by decide) (by decide) ?_
    show own_S p e below m s₁ 73 L540 [] _
    exact X0.returnOut hx Bd.returns (hb hby k8_73) hr
  · show Qr1 Z ln n h0 n0 _ s₁.heap _
    rw [e0]
    exact ⟨rfl, N0, rfl⟩
theorem ef_b0 (m : MethodId) (x0 : Addr) (x1 : Int32) (x2 : Int32) (x3 : Int32) : entryFrame m #[(.ref x0), (.int x1), (.int x2), (.int x3)] 8 = mkF m 0 #[.val (.ref x0), .val (.int x1), .val (.int x2), .val (.int x3), .unset, .unset, .unset, .unset] [] := by first | (simp [entryFrame, mkF, argsToLocals, Value.category]; done) | rfl
theorem pn_b0 : plainName "java/util/Arrays" = true := by first | (simp [plainName, overriddenIn]; done) | decide +kernel
def Qb0 (Z : State) (sb : Nat) (ks : ClassId) (n key q1 : Int32) (h0 : Heap) (n0 : Nat) (v : Option Value) (h : Heap) (L : List Loc) : Prop := v = some (.int 0) ∧ Fr n0 L ∧ h = h0
set_option maxRecDepth 65536 in
set_option maxHeartbeats 40000000 in
theorem rmb0 (l : Launch) (Z : State) (a0 : Array Value) (hw : ∀ d ∈ tables_1, d.before a0 Z = true) (ws : List Jvm.Cond) (sb : Nat) (ks : ClassId) (n key q1 : Int32) (h0 : Heap) (n0 : Nat) (Z0 : n0 ≤ h0.size) (V_s : Arv Z h0 sb ks .int n [(.int key), (.int q1)] (.int 0)) (hn : own_12 n) :
    MetFree l (⟨"java/util/Arrays", "binarySearch0", "([IIII)I"⟩ : MethodName) (head1 (Jvm.Cond.code (⟨"java/util/Arrays", "binarySearch0", "([IIII)I"⟩ : MethodName) jdk_65_method_59_code 8 (some .int) :: ws) ({ frames := 0, cells := 0, slots := 0, locals := 0 } : Room)) (fun a U => a = #[(.ref sb), (.int 0), (.int n), (.int key)] ∧ Z.Warmed39 U.vm ∧ U.heap = h0) (fun _ _ _ _ _ => True) (fun _ U o U' => ∃ v L, o = .returned v ∧ Qb0 Z sb ks n key q1 h0 n0 v U'.heap L ∧ FrameEnd U o U' L ({ frames := 0, cells := 0, slots := 0, locals := 0 } : Room).cells ({ frames := 0, cells := 0, slots := 0, locals := 0 } : Room).slots) := by
  refine MetFree.of_bodySF (plainFor_of_name pn_b0) hisR ?_
  intro p e s m args below meth c s₁ Bd hml0 hP hK
  obtain ⟨rfl, hZ, hh⟩ := hP
  have hx := Bd.exec
  have hby := Bd.bytes
  have hml : c.maxLocals = 8 := hml0
  have hown : s.vm.findClass "java/util/Arrays" = some m.cls := findClass_of_methodNamed Bd.named
  have hnm := (name_of_methodNamed Bd.named Bd.method).1
  have X0 : Stand p l e ({ frames := 0, cells := 0, slots := 0, locals := 0 } : Room) s m #[(.ref sb), (.int 0), (.int n), (.int key)] below meth c s₁ [] 0 0 := Stand.of_body Bd
  have e0 : s₁.heap = h0 := by rw [← hh, Bd.state]; rfl
  have N0 := Fr.nil n0
  have pre0 : ∀ t, Steps p.tables e below (s₁.setTop (mkF m 0 #[.val (.ref sb), .val (.int 0), .val (.int n), .val (.int key), .unset, .unset, .unset, .unset] [])) t → Steps p.tables e below (s₁.setTop (entryFrame m #[(.ref sb), (.int 0), (.int n), (.int key)] 8)) t := fun t k => castTop (ef_b0 m sb (0 : Int32) n key) k
  obtain ⟨L541, hL541⟩ := own_nm #[.val (.ref sb), .val (.int 0), .val (.int n), .val (.int key), .unset, .unset, .unset, .unset]
  have L541_1 := own_ld hL541 1 rfl
  obtain ⟨L542, hL542⟩ := own_nm #[.val (.ref sb), .val (.int 0), .val (.int n), .val (.int key), .val (.int 0), .unset, .unset, .unset]
  have L542_2 := own_ld hL542 2 rfl
  obtain ⟨L543, hL543⟩ := own_nm #[.val (.ref sb), .val (.int 0), .val (.int n), .val (.int key), .val (.int 0), .val (.int (n - (1 : Int32))), .unset, .unset]
  have L543_4 := own_ld hL543 4 rfl
  have L543_5 := own_ld hL543 5 rfl
  obtain ⟨L544, hL544⟩ := own_nm #[.val (.ref sb), .val (.int 0), .val (.int n), .val (.int key), .val (.int 0), .val (.int (n - (1 : Int32))), .val (.int 0), .unset]
  have L544_0 := own_ld hL544 0 rfl
  have L544_6 := own_ld hL544 6 rfl
  obtain ⟨L545, hL545⟩ := own_nm #[.val (.ref sb), .val (.int 0), .val (.int n), .val (.int key), .val (.int 0), .val (.int (n - (1 : Int32))), .val (.int 0), .val (.int key)]
  have L545_7 := own_ld hL545 7 rfl
  have L545_3 := own_ld hL545 3 rfl
  have L545_6 := own_ld hL545 6 rfl
  obtain ⟨fs, hr, hrun, hended, hW, hsame⟩ := X0.leave (v := some (.int 0)) (fun h => by rw [Bd.returns] at h; cases h)
  refine ⟨_, _, pre0 _ ?_, hrun, hended, _, _, rfl, ?_, ⟨_, rfl⟩, hW, hsame.mono (by decide) (by decide)⟩
  · rw [← hL541]
    show own_S p e below m s₁ 0 L541 [] _
    refine wiloadN X0 hx hby k9_0 L541_1 ?_
    refine wistore X0 hx hby k9_1 hL541 hL542 rfl ?_
    refine wiloadN X0 hx hby k9_3 L542_2 ?_
    refine wiconst X0 hx hby k9_4 ?_
    show own_S p e below m s₁ 5 L542 [(.int 1), (.int n)] _
    refine XS.isub X0.here hx rfl (hb hby k9_5) rfl ?_
    refine wistore X0 hx hby k9_6 hL542 hL543 rfl ?_
    refine wiload X0 hx hby k9_8 L543_4 ?_
    refine wiload X0 hx hby k9_10 L543_5 ?_
    show own_S p e below m s₁ 12 L543 [(.int (n - (1 : Int32))), (.int 0)] _
    refine wicmpNo X0 hx hby k9_12 (flt (by rcases hn with rfl | rfl <;> decide)).2.2.1 ?_
    refine wiload X0 hx hby k9_15 L543_4 ?_
    refine wiload X0 hx hby k9_17 L543_5 ?_
    refine XS.iadd X0.here hx rfl (hb hby k9_19) rfl ?_
    show own_S p e below m s₁ 20 L543 [(.int ((0 : Int32) + (n - (1 : Int32))))] _
    refine wiconst X0 hx hby k9_20 ?_
    refine XS.iushr X0.here hx rfl (hb hby k9_21) rfl ?_
    show own_S p e below m s₁ 22 L543 [(.int ((((0 : Int32) + (n - (1 : Int32))).toUInt32 >>> ((1 : Int32) &&& 31).toUInt32).toInt32))] _
    rw [(by rcases hn with rfl | rfl <;> decide +kernel : ((((0 : Int32) + (n - (1 : Int32))).toUInt32 >>> ((1 : Int32) &&& 31).toUInt32).toInt32) = (0 : Int32))]
    show own_S p e below m s₁ 22 L543 [(.int 0)] _
    refine wistore X0 hx hby k9_22 hL543 hL544 rfl ?_
    refine waloadN X0 hx hby k9_24 L544_0 rfl ?_
    refine wiload X0 hx hby k9_25 L544_6 ?_
    refine wiaload X0 hx hby hZ e0 V_s 0 rfl (by decide) (by rcases hn with rfl | rfl <;> decide) (v := (.int key)) rfl k9_27 ?_
    show own_S p e below m s₁ 28 L544 [(.int key)] _
    refine wistore X0 hx hby k9_28 hL544 hL545 rfl ?_
    refine wiload X0 hx hby k9_30 L545_7 ?_
    refine wiloadN X0 hx hby k9_32 L545_3 ?_
    refine wicmpYes X0 hx hby k9_33 33 45 rfl (flt (own_irr key)).2.1 (by decide) (by decide) ?_
    show own_S p e below m s₁ 45 L545 [] _
    refine wiload X0 hx hby k9_45 L545_7 ?_
    refine wiloadN X0 hx hby k9_47 L545_3 ?_
    refine wicmpYes X0 hx hby k9_48 48 60 rfl (flt (own_irr key)).2.2.2 (by decide) (by decide) ?_
    refine wiload X0 hx hby k9_60 L545_6 ?_
    show own_S p e below m s₁ 62 L545 [(.int 0)] _
    exact retI X0 hx Bd.returns (hb hby k9_62) hr
  · show Qb0 Z sb ks n key q1 h0 n0 _ s₁.heap _
    rw [e0]
    exact ⟨rfl, N0, rfl⟩
theorem ef_b (m : MethodId) (x0 : Addr) (x1 : Int32) (x2 : Int32) (x3 : Int32) : entryFrame m #[(.ref x0), (.int x1), (.int x2), (.int x3)] 4 = mkF m 0 #[.val (.ref x0), .val (.int x1), .val (.int x2), .val (.int x3)] [] := by first | (simp [entryFrame, mkF, argsToLocals, Value.category]; done) | rfl
theorem pn_b : plainName "java/util/Arrays" = true := by first | (simp [plainName, overriddenIn]; done) | decide +kernel
def Qb (Z : State) (sb : Nat) (ks : ClassId) (n key q1 : Int32) (h0 : Heap) (n0 : Nat) (v : Option Value) (h : Heap) (L : List Loc) : Prop := v = some (.int 0) ∧ Fr n0 L ∧ h = h0
set_option maxRecDepth 65536 in
set_option maxHeartbeats 40000000 in
theorem rmb (l : Launch) (Z : State) (a0 : Array Value) (hw : ∀ d ∈ tables_1, d.before a0 Z = true) (ws : List Jvm.Cond) (sb : Nat) (ks : ClassId) (n key q1 : Int32) (h0 : Heap) (n0 : Nat) (Z0 : n0 ≤ h0.size) (V_s : Arv Z h0 sb ks .int n [(.int key), (.int q1)] (.int 0)) (hn : own_12 n) :
    MetFree l (⟨"java/util/Arrays", "binarySearch", "([IIII)I"⟩ : MethodName) (head1 (Jvm.Cond.code (⟨"java/util/Arrays", "binarySearch", "([IIII)I"⟩ : MethodName) jdk_65_method_58_code 4 (some .int) :: ws) ({ frames := 1, cells := 0, slots := 0, locals := 19 } : Room)) (fun a U => a = #[(.ref sb), (.int 0), (.int n), (.int key)] ∧ Z.Warmed39 U.vm ∧ U.heap = h0) (fun _ _ _ _ _ => True) (fun _ U o U' => ∃ v L, o = .returned v ∧ Qb Z sb ks n key q1 h0 n0 v U'.heap L ∧ FrameEnd U o U' L ({ frames := 1, cells := 0, slots := 0, locals := 19 } : Room).cells ({ frames := 1, cells := 0, slots := 0, locals := 19 } : Room).slots) := by
  refine MetFree.of_bodySF (plainFor_of_name pn_b) hisR ?_
  intro p e s m args below meth c s₁ Bd hml0 hP hK
  obtain ⟨rfl, hZ, hh⟩ := hP
  have hx := Bd.exec
  have hby := Bd.bytes
  have hml : c.maxLocals = 4 := hml0
  have hown : s.vm.findClass "java/util/Arrays" = some m.cls := findClass_of_methodNamed Bd.named
  have hnm := (name_of_methodNamed Bd.named Bd.method).1
  have X0 : Stand p l e ({ frames := 1, cells := 0, slots := 0, locals := 19 } : Room) s m #[(.ref sb), (.int 0), (.int n), (.int key)] below meth c s₁ [] 0 0 := Stand.of_body Bd
  have e0 : s₁.heap = h0 := by rw [← hh, Bd.state]; rfl
  have N0 := Fr.nil n0
  have pre0 : ∀ t, Steps p.tables e below (s₁.setTop (mkF m 0 #[.val (.ref sb), .val (.int 0), .val (.int n), .val (.int key)] [])) t → Steps p.tables e below (s₁.setTop (entryFrame m #[(.ref sb), (.int 0), (.int n), (.int key)] 4)) t := fun t k => castTop (ef_b m sb (0 : Int32) n key) k
  obtain ⟨L546, hL546⟩ := own_nm #[.val (.ref sb), .val (.int 0), .val (.int n), .val (.int key)]
  have L546_0 := own_ld hL546 0 rfl
  obtain ⟨cl547, Ar547, -, S547, M547, -, -⟩ := id V_s
  have L546_1 := own_ld hL546 1 rfl
  have L546_2 := own_ld hL546 2 rfl
  obtain ⟨_, _, ⟨T548, L548, k548, n548⟩, -, X548, ⟨Lc548, hQ548, l548, y548, z548⟩, st548⟩ := Jvm.LawKit.callS X0 hx (y := (⟨"java/util/Arrays", "rangeCheck", "(III)V"⟩ : MethodName)) hown (mvT hZ (hw _ tm100)) (mvT hZ (hw _ tm101)) (mvT hZ (hw _ tm57)) (mvT hZ (hw _ tm102)) (by decide) (backOf (W := 0) (rmr1 l Z a0 hw [] n n h0 n0 Z0 (by rcases hn with rfl | rfl <;> decide) (own_irr n)) hZ (hw _ tm102) (hw _ tm57) (by decide) (by decide)) (g := (mkF m 4 L546 [(.int n), (.int 0), (.int n)])) rfl (by rw [hml, hL546]; rfl) (argsL := [(.int n), (.int 0), (.int n)]) (rest := []) (lenOf pd_5 rfl) rfl (by show 2 * 0 + _ ≤ _; exact Nat.le_of_eq rfl) (hb hby k10_4) (fun _ _ => ⟨rfl, e0, (by decide : 0 + 0 ≤ _), (by decide : 0 + 0 ≤ _)⟩)
  dsimp only [Pt.U, Pt.locs, Pt.cells, Pt.slots] at X548 l548 y548 z548 st548 hQ548
  subst l548 y548 z548
  obtain ⟨rfl, N548q, eh548⟩ := hQ548
  have N548 := Fr.app N0 N548q
  have L546_3 := own_ld hL546 3 rfl
  obtain ⟨_, _, ⟨T549, L549, k549, n549⟩, -, X549, ⟨Lc549, hQ549, l549, y549, z549⟩, st549⟩ := Jvm.LawKit.callS X548 hx (y := (⟨"java/util/Arrays", "binarySearch0", "([IIII)I"⟩ : MethodName)) hown (mvT hZ (hw _ tm103)) (mvT hZ (hw _ tm104)) (mvT hZ (hw _ tm57)) (mvT hZ (hw _ tm105)) (by decide) (backOf (W := 0) (rmb0 l Z a0 hw [] sb ks n key q1 h0 n0 Z0 V_s hn) hZ (hw _ tm105) (hw _ tm57) (by decide) (by decide)) (g := (mkF m 11 L546 [(.int key), (.int n), (.int 0), (.ref sb)])) rfl (by rw [hml, hL546]; rfl) (argsL := [(.ref sb), (.int 0), (.int n), (.int key)]) (rest := []) (lenOf pd_6 rfl) rfl (by show 2 * 0 + _ ≤ _; exact Nat.le_of_eq rfl) (hb hby k10_11) (fun _ _ => ⟨rfl, eh548, (by decide : 0 + 0 ≤ _), (by decide : 0 + 0 ≤ _)⟩)
  dsimp only [Pt.U, Pt.locs, Pt.cells, Pt.slots] at X549 l549 y549 z549 st549 hQ549
  subst l549 y549 z549
  obtain ⟨rfl, N549q, eh549⟩ := hQ549
  have N549 := Fr.app N548 N549q
  obtain ⟨fs, hr, hrun, hended, hW, hsame⟩ := X549.leave (v := some (.int 0)) (fun h => by rw [Bd.returns] at h; cases h)
  refine ⟨_, _, pre0 _ ?_, hrun, hended, _, _, rfl, ?_, ⟨_, rfl⟩, hW, hsame.mono (by decide) (by decide)⟩
  · rw [← hL546]
    show own_S p e below m s₁ 0 L546 [] _
    refine waloadN X0 hx hby k10_0 L546_0 rfl ?_
    refine X0.arraylength hx (by rw [e0]; exact Ar547.1) (State.isArrayOf_alike hZ.alike Ar547.2.1) (g := (mkF m 1 L546 [(.ref sb)])) rfl rfl (hb hby k10_1) _ ?_
    rw [len_of S547 M547]
    show own_S p e below m s₁ 2 L546 [(.int n)] _
    refine wiloadN X0 hx hby k10_2 L546_1 ?_
    refine wiloadN X0 hx hby k10_3 L546_2 ?_
    refine st548 _ ?_
    refine waloadN X548 hx hby k10_7 L546_0 rfl ?_
    show own_S p e below m T548 8 L546 [(.ref sb)] _
    refine wiloadN X548 hx hby k10_8 L546_1 ?_
    refine wiloadN X548 hx hby k10_9 L546_2 ?_
    refine wiloadN X548 hx hby k10_10 L546_3 ?_
    refine st549 _ ?_
    show own_S p e below m T549 14 L546 [(.int 0)] _
    exact retI X549 hx Bd.returns (hb hby k10_14) hr
  · show Qb Z sb ks n key q1 h0 n0 _ T549.heap _
    rw [eh549]
    exact ⟨rfl, N549, rfl⟩
theorem ef_R (m : MethodId) (x0 : Addr) (x1 : Int32) (x2 : Int32) (x3 : UInt64) (x4 : UInt64) : entryFrame m #[(.ref x0), (.int x1), (.int x2), (.double x3), (.double x4)] 7 = mkF m 0 #[.val (.ref x0), .val (.int x1), .val (.int x2), .val (.double x3), .second, .val (.double x4), .second] [] := by first | (simp [entryFrame, mkF, argsToLocals, Value.category]; done) | rfl
theorem pn_R : plainName "com/example/odds2/odds2/engine/Elimination" = true := by first | (simp [plainName, overriddenIn]; done) | decide +kernel
def QR (Z : State) (a1 oc od mc md sr sp sw ss co cf le re rc : Nat) (k_sr k_sp k_sw k_ss : ClassId) (r : Int32) (en wk : Int64) (st ol i q : Int32) (y z : UInt64) (zr zp zw zs : List Value) (h0 : Heap) (n0 : Nat) (v : Option Value) (h : Heap) (L : List Loc) : Prop := v = none ∧ Fr n0 L ∧ Keep h0 h [a1, sr, sp, sw, ss] ∧ own_E Z h a1 oc od mc md sr sp sw ss co cf le re rc r en wk ol (st + (1 : Int32)) ∧ Arv Z h sr k_sr .int 16 (zr.set st.toNatClampNeg (.int i)) (.int 0) ∧ Arv Z h sp k_sp .int 16 (zp.set st.toNatClampNeg (.int q)) (.int 0) ∧ Arv Z h sw k_sw .double 16 (zw.set st.toNatClampNeg (.double y)) (.double 0) ∧ Arv Z h ss k_ss .double 16 (zs.set st.toNatClampNeg (.double z)) (.double 0)
set_option maxRecDepth 65536 in
set_option maxHeartbeats 40000000 in
theorem rmR (l : Launch) (Z : State) (a0 : Array Value) (hw : ∀ d ∈ tables_1, d.before a0 Z = true) (ws : List Jvm.Cond) (a1 oc od mc md sr sp sw ss co cf le re rc : Nat) (k_sr k_sp k_sw k_ss : ClassId) (r : Int32) (en wk : Int64) (st ol i q : Int32) (y z : UInt64) (zr zp zw zs : List Value) (h0 : Heap) (n0 : Nat) (Z0 : n0 ≤ h0.size) (O_a : own_E Z h0 a1 oc od mc md sr sp sw ss co cf le re rc r en wk ol st) (V_sr : Arv Z h0 sr k_sr .int 16 zr (.int 0)) (V_sp : Arv Z h0 sp k_sp .int 16 zp (.int 0)) (V_sw : Arv Z h0 sw k_sw .double 16 zw (.double 0)) (V_ss : Arv Z h0 ss k_ss .double 16 zs (.double 0)) (lzr : zr.length = 2) (lzp : zp.length = 2) (lzw : zw.length = 2) (lzs : zs.length = 2) (hst : own_01 st) (ord : own_ord a1 oc od mc md sr sp sw ss co cf le re rc) (g_a : n0 ≤ a1) :
    MetFree l (⟨"com/example/odds2/odds2/engine/Elimination", "record", "(IIDD)V"⟩ : MethodName) (head1 (Jvm.Cond.code (⟨"com/example/odds2/odds2/engine/Elimination", "record", "(IIDD)V"⟩ : MethodName) prog_14_method_8_code 7 none :: ws) ({ frames := 0, cells := 0, slots := 0, locals := 0 } : Room)) (fun a U => a = #[(.ref a1), (.int i), (.int q), (.double y), (.double z)] ∧ Z.Warmed39 U.vm ∧ U.heap = h0) (fun _ _ _ _ _ => True) (fun _ U o U' => ∃ v L, o = .returned v ∧ QR Z a1 oc od mc md sr sp sw ss co cf le re rc k_sr k_sp k_sw k_ss r en wk st ol i q y z zr zp zw zs h0 n0 v U'.heap L ∧ FrameEnd U o U' L ({ frames := 0, cells := 0, slots := 0, locals := 0 } : Room).cells ({ frames := 0, cells := 0, slots := 0, locals := 0 } : Room).slots) := by
  refine MetFree.of_bodySF (plainFor_of_name pn_R) hisR ?_
  intro p e s m args below meth c s₁ Bd hml0 hP hK
  obtain ⟨rfl, hZ, hh⟩ := hP
  have hx := Bd.exec
  have hby := Bd.bytes
  have hml : c.maxLocals = 7 := hml0
  have hown : s.vm.findClass "com/example/odds2/odds2/engine/Elimination" = some m.cls := findClass_of_methodNamed Bd.named
  have hnm := (name_of_methodNamed Bd.named Bd.method).1
  have X0 : Stand p l e ({ frames := 0, cells := 0, slots := 0, locals := 0 } : Room) s m #[(.ref a1), (.int i), (.int q), (.double y), (.double z)] below meth c s₁ [] 0 0 := Stand.of_body Bd
  have e0 : s₁.heap = h0 := by rw [← hh, Bd.state]; rfl
  have N0 := Fr.nil n0
  have pre0 : ∀ t, Steps p.tables e below (s₁.setTop (mkF m 0 #[.val (.ref a1), .val (.int i), .val (.int q), .val (.double y), .second, .val (.double z), .second] [])) t → Steps p.tables e below (s₁.setTop (entryFrame m #[(.ref a1), (.int i), (.int q), (.double y), (.double z)] 7)) t := fun t k => castTop (ef_R m a1 i q y z) k
  have hl := own_laid_of hw
  obtain ⟨or0, or1, or2, or3, or4, or5, or6, or7, or8, or9, or10, or11, or12⟩ := id ord
  obtain ⟨L550, hL550⟩ := own_nm #[.val (.ref a1), .val (.int i), .val (.int q), .val (.double y), .second, .val (.double z), .second]
  have L550_0 := own_ld hL550 0 rfl
  obtain ⟨T551, X551, e551, st551⟩ := wget X0 hx hby hZ hown (hw _ tm115) e0 (O_a.at 14) L550 [] k11_1
  obtain ⟨T552, X552, e552, st552⟩ := wget X551 hx hby hZ hown (hw _ tm23) e551 (O_a.at 15) L550 [(.int st)] k11_5
  obtain ⟨cl553, Ar553, -, S553, M553, -, -⟩ := id V_sr
  obtain ⟨T554, X554, e554, st554⟩ := wget X552 hx hby hZ hown (hw _ tm23) e552 (O_a.at 15) L550 [] k11_81
  obtain ⟨T555, X555, e555, st555⟩ := wget X554 hx hby hZ hown (hw _ tm115) e554 (O_a.at 14) L550 [(.ref sr)] k11_85
  have L550_1 := own_ld hL550 1 rfl
  obtain ⟨T557, h557, X557, e557, W557, f556, N557, st557⟩ := wiastore X555 hx hby hZ e555 N0 V_sr (by omega : n0 ≤ (sr : Nat)) st i st.toNatClampNeg rfl (own_01a hst) (own_01b hst) (by rw [lzr]; exact own_01c hst) L550 [] k11_89
  have f558 := (O_a.other W557 (by omega : (a1 : Nat) ≠ sr))
  obtain ⟨T559, X559, e559, st559⟩ := wget X557 hx hby hZ hown (hw _ tm25) e557 (f558.at 16) L550 [] k11_91
  obtain ⟨T560, X560, e560, st560⟩ := wget X559 hx hby hZ hown (hw _ tm115) e559 (f558.at 14) L550 [(.ref sp)] k11_95
  have L550_2 := own_ld hL550 2 rfl
  have f561 := (V_sp.other W557 (by omega : (sp : Nat) ≠ sr))
  obtain ⟨T563, h563, X563, e563, W563, f562, N563, st563⟩ := wiastore X560 hx hby hZ e560 N557 f561 (by omega : n0 ≤ (sp : Nat)) st q st.toNatClampNeg rfl (own_01a hst) (own_01b hst) (by rw [lzp]; exact own_01c hst) L550 [] k11_99
  have f564 := (f558.other W563 (by omega : (a1 : Nat) ≠ sp))
  obtain ⟨T565, X565, e565, st565⟩ := wget X563 hx hby hZ hown (hw _ tm27) e563 (f564.at 17) L550 [] k11_101
  obtain ⟨T566, X566, e566, st566⟩ := wget X565 hx hby hZ hown (hw _ tm115) e565 (f564.at 14) L550 [(.ref sw)] k11_105
  have L550_3 := own_ld hL550 3 rfl
  have f567 := ((V_sw.other W557 (by omega : (sw : Nat) ≠ sr)).other W563 (by omega : (sw : Nat) ≠ sp))
  obtain ⟨T569, h569, X569, e569, W569, f568, N569, st569⟩ := wdastore X566 hx hby hZ e566 N563 f567 (by omega : n0 ≤ (sw : Nat)) st y st.toNatClampNeg rfl (own_01a hst) (own_01b hst) (by rw [lzw]; exact own_01c hst) L550 [] k11_109
  have f570 := (f564.other W569 (by omega : (a1 : Nat) ≠ sw))
  obtain ⟨T571, X571, e571, st571⟩ := wget X569 hx hby hZ hown (hw _ tm29) e569 (f570.at 18) L550 [] k11_111
  obtain ⟨T572, X572, e572, st572⟩ := wget X571 hx hby hZ hown (hw _ tm115) e571 (f570.at 14) L550 [(.ref ss)] k11_115
  have L550_5 := own_ld hL550 5 rfl
  have f573 := (((V_ss.other W557 (by omega : (ss : Nat) ≠ sr)).other W563 (by omega : (ss : Nat) ≠ sp)).other W569 (by omega : (ss : Nat) ≠ sw))
  obtain ⟨T575, h575, X575, e575, W575, f574, N575, st575⟩ := wdastore X572 hx hby hZ e572 N569 f573 (by omega : n0 ≤ (ss : Nat)) st z st.toNatClampNeg rfl (own_01a hst) (own_01b hst) (by rw [lzs]; exact own_01c hst) L550 [] k11_120
  have f576 := (f570.other W575 (by omega : (a1 : Nat) ≠ ss))
  obtain ⟨T577, X577, e577, st577⟩ := wget X575 hx hby hZ hown (hw _ tm115) e575 (f576.at 14) L550 [(.ref a1)] k11_123
  obtain ⟨T578, h578, X578, e578, W578, st578⟩ := putF X577 hx hZ hown (host := "") (Or.inl (hw _ tm115)) Via.refl e577 (f576.2.2 14 (by decide)) f576.1 (Or.inl (hw _ tm116)) (hw _ tm6) (ty := .int) (by decide) rfl rfl (g := (mkF m 128 L550 [(.int (st + (1 : Int32))), (.ref a1)])) rfl rfl (hb hby k11_128)
  have N578 := Fr.snoc X578 N575 (by omega : n0 ≤ (a1 : Nat))
  have f579 : own_E Z h578 a1 oc od mc md sr sp sw ss co cf le re rc r en wk ol (st + (1 : Int32)) := own_put f576 hl (i := 14) (by decide) W578
  have f580 := ((((((Keep.refl h0 [a1, sr, sp, sw, ss]).wr W557 (Or.inl (List.mem_of_getElem? (i := 1) rfl))).wr W563 (Or.inl (List.mem_of_getElem? (i := 2) rfl))).wr W569 (Or.inl (List.mem_of_getElem? (i := 3) rfl))).wr W575 (Or.inl (List.mem_of_getElem? (i := 4) rfl))).wr W578 (Or.inl (List.mem_of_getElem? (i := 0) rfl)))
  have f581 := ((((f556.other W563 (by omega : (sr : Nat) ≠ sp)).other W569 (by omega : (sr : Nat) ≠ sw)).other W575 (by omega : (sr : Nat) ≠ ss)).other W578 (by omega : (sr : Nat) ≠ a1))
  have f582 := (((f562.other W569 (by omega : (sp : Nat) ≠ sw)).other W575 (by omega : (sp : Nat) ≠ ss)).other W578 (by omega : (sp : Nat) ≠ a1))
  have f583 := ((f568.other W575 (by omega : (sw : Nat) ≠ ss)).other W578 (by omega : (sw : Nat) ≠ a1))
  have f584 := (f574.other W578 (by omega : (ss : Nat) ≠ a1))
  obtain ⟨fs, hr, hrun, hended, hW, hsame⟩ := X578.leave (v := none) (fun _ => rfl)
  refine ⟨_, _, pre0 _ ?_, hrun, hended, _, _, rfl, ?_, ⟨_, rfl⟩, hW, hsame.mono (by decide) (by decide)⟩
  · rw [← hL550]
    show own_S p e below m s₁ 0 L550 [] _
    refine waloadN X0 hx hby k11_0 L550_0 rfl ?_
    refine st551 _ ?_
    refine waloadN X551 hx hby k11_4 L550_0 rfl ?_
    refine st552 _ ?_
    show own_S p e below m T552 8 L550 [(.ref sr), (.int st)] _
    refine X552.arraylength hx (by rw [e552]; exact Ar553.1) (State.isArrayOf_alike hZ.alike Ar553.2.1) (g := (mkF m 8 L550 [(.ref sr), (.int st)])) rfl rfl (hb hby k11_8) _ ?_
    rw [len_of S553 M553]
    show own_S p e below m T552 9 L550 [(.int 16), (.int st)] _
    refine wicmpYes X552 hx hby k11_9 9 80 rfl (feq (own_01d hst)).2 (by decide) (by decide) ?_
    refine waloadN X552 hx hby k11_80 L550_0 rfl ?_
    refine st554 _ ?_
    refine waloadN X554 hx hby k11_84 L550_0 rfl ?_
    show own_S p e below m T554 85 L550 [(.ref a1), (.ref sr)] _
    refine st555 _ ?_
    refine wiloadN X555 hx hby k11_88 L550_1 ?_
    refine st557 _ ?_
    refine waloadN X557 hx hby k11_90 L550_0 rfl ?_
    show own_S p e below m T557 91 L550 [(.ref a1)] _
    refine st559 _ ?_
    refine waloadN X559 hx hby k11_94 L550_0 rfl ?_
    refine st560 _ ?_
    refine wiloadN X560 hx hby k11_98 L550_2 ?_
    show own_S p e below m T560 99 L550 [(.int q), (.int st), (.ref sp)] _
    refine st563 _ ?_
    refine waloadN X563 hx hby k11_100 L550_0 rfl ?_
    refine st565 _ ?_
    refine waloadN X565 hx hby k11_104 L550_0 rfl ?_
    show own_S p e below m T565 105 L550 [(.ref a1), (.ref sw)] _
    refine st566 _ ?_
    refine XS.dloadN X566.here hx rfl (hb hby k11_108) L550_3 ?_
    refine st569 _ ?_
    refine waloadN X569 hx hby k11_110 L550_0 rfl ?_
    show own_S p e below m T569 111 L550 [(.ref a1)] _
    refine st571 _ ?_
    refine waloadN X571 hx hby k11_114 L550_0 rfl ?_
    refine st572 _ ?_
    refine wdload X572 hx hby k11_118 L550_5 ?_
    show own_S p e below m T572 120 L550 [(.double z), (.int st), (.ref ss)] _
    refine st575 _ ?_
    refine waloadN X575 hx hby k11_121 L550_0 rfl ?_
    refine XS.dup X575.here hx rfl (hb hby k11_122) rfl rfl ?_
    refine st577 _ ?_
    show own_S p e below m T577 126 L550 [(.int st), (.ref a1)] _
    refine wiconst X577 hx hby k11_126 ?_
    refine XS.iadd X577.here hx rfl (hb hby k11_127) rfl ?_
    refine st578 _ ?_
    exact X578.returnOut hx Bd.returns (hb hby k11_131) hr
  · show QR Z a1 oc od mc md sr sp sw ss co cf le re rc k_sr k_sp k_sw k_ss r en wk st ol i q y z zr zp zw zs h0 n0 _ T578.heap _
    rw [e578]
    exact ⟨rfl, N578, f580, f579, f581, f582, f583, f584⟩
set_option maxRecDepth 65536 in
set_option maxHeartbeats 40000000 in
theorem sbP {p : Program} {l : Launch} {e : Env} {s : State} {m : MethodId} {args : Array Value} {below : List Frame} {meth : Method} {c : Code} {T0 : State} {locs : List Loc} (Z : State) (a0 : Array Value) (hw : ∀ d ∈ tables_1, d.before a0 Z = true) (a1 oc od mc md sr sp sw ss co cf le re rc : Nat) (k_co k_cf k_le k_mc : ClassId) (r : Int32) (en wk : Int64) (st ol i q n k u1 x0 x1 : Int32) (w0 w1 : UInt64) (cb db pb eb : Nat) (kcb kdb : ClassId) (cs fl ls : List Value) (h0 : Heap) (n0 : Nat) (X0 : Stand p l e ({ frames := 2, cells := 0, slots := 0, locals := 40 } : Room) s m args below meth c T0 locs 0 0) (hx : p.tables.exec = Jvm.exec) (hZ : Z.Warmed39 s.vm) (hby : c.code = prog_14_method_7_code) (hml : c.maxLocals = 19) (hown : s.vm.findClass "com/example/odds2/odds2/engine/Elimination" = some m.cls) (e0 : T0.heap = h0) (N0 : Fr n0 locs) (Z0 : n0 ≤ h0.size) (O_a : own_E Z h0 a1 oc od mc md sr sp sw ss co cf le re rc r en wk ol st) (V_co : Arv Z h0 co k_co (.array .int) (3 : Int32) cs .null) (V_cf : Arv Z h0 cf k_cf (.array .double) (3 : Int32) fl .null) (V_le : Arv Z h0 le k_le .int 3 ls (.int 0)) (V_mc : Arv Z h0 mc k_mc .int 16 [(.int x0), (.int x1)] (.int 0)) (V_cb : Arv Z h0 cb kcb .int n [(.int q), (.int u1)] (.int 0)) (V_db : Arv Z h0 db kdb .double n [(.double w0), (.double w1)] (.double 0)) (hi3 : own_3 i) (hq3 : own_3 q) (hci : cs.getD i.toNatClampNeg .null = .ref cb) (hcq : cs.getD q.toNatClampNeg .null = .ref pb) (hfi : fl.getD i.toNatClampNeg .null = .ref db) (hfq : fl.getD q.toNatClampNeg .null = .ref eb) (hli : ls.getD i.toNatClampNeg (.int 0) = .int n) (hlq : ls.getD q.toNatClampNeg (.int 0) = .int k) (hn : own_12 n) (hnk : ¬ ((16 : Int32) < (n + k))) :
    ∃ (T' : State) (h' : Heap) (L' : List Loc), Stand p l e ({ frames := 2, cells := 0, slots := 0, locals := 40 } : Room) s m args below meth c T' L' 0 0 ∧ T'.heap = h' ∧ Fr n0 L' ∧ h' = h0 ∧ ∀ target, own_S p e below m T' 111 #[.val (.ref a1), .val (.int i), .val (.int q), .val (.ref cb), .val (.ref db), .val (.int n), .val (.ref pb), .val (.ref eb), .val (.int k), .val (.double w0), .second, .val (.double FP.dconst0), .second, .val (.int 0), .val (.int 0), .val (.int 0), .unset, .unset, .unset] [] target → own_S p e below m T0 0 #[.val (.ref a1), .val (.int i), .val (.int q), .unset, .unset, .unset, .unset, .unset, .unset, .unset, .unset, .unset, .unset, .unset, .unset, .unset, .unset, .unset, .unset] [] target := by
  obtain ⟨L585, hL585⟩ := own_nm #[.val (.ref a1), .val (.int i), .val (.int q), .unset, .unset, .unset, .unset, .unset, .unset, .unset, .unset, .unset, .unset, .unset, .unset, .unset, .unset, .unset, .unset]
  have L585_0 := own_ld hL585 0 rfl
  obtain ⟨T586, X586, e586, st586⟩ := wget X0 hx hby hZ hown (hw _ tm35) e0 (O_a.at 1) L585 [] k12_1
  have L585_1 := own_ld hL585 1 rfl
  obtain ⟨L587, hL587⟩ := own_nm #[.val (.ref a1), .val (.int i), .val (.int q), .val (.ref cb), .unset, .unset, .unset, .unset, .unset, .unset, .unset, .unset, .unset, .unset, .unset, .unset, .unset, .unset, .unset]
  have L587_0 := own_ld hL587 0 rfl
  obtain ⟨T588, X588, e588, st588⟩ := wget X586 hx hby hZ hown (hw _ tm39) e586 (O_a.at 2) L587 [] k12_8
  have L587_1 := own_ld hL587 1 rfl
  obtain ⟨L589, hL589⟩ := own_nm #[.val (.ref a1), .val (.int i), .val (.int q), .val (.ref cb), .val (.ref db), .unset, .unset, .unset, .unset, .unset, .unset, .unset, .unset, .unset, .unset, .unset, .unset, .unset, .unset]
  have L589_0 := own_ld hL589 0 rfl
  obtain ⟨T590, X590, e590, st590⟩ := wget X588 hx hby hZ hown (hw _ tm41) e588 (O_a.at 3) L589 [] k12_16
  have L589_1 := own_ld hL589 1 rfl
  obtain ⟨L591, hL591⟩ := own_nm #[.val (.ref a1), .val (.int i), .val (.int q), .val (.ref cb), .val (.ref db), .val (.int n), .unset, .unset, .unset, .unset, .unset, .unset, .unset, .unset, .unset, .unset, .unset, .unset, .unset]
  have L591_0 := own_ld hL591 0 rfl
  obtain ⟨T592, X592, e592, st592⟩ := wget X590 hx hby hZ hown (hw _ tm35) e590 (O_a.at 1) L591 [] k12_24
  have L591_2 := own_ld hL591 2 rfl
  obtain ⟨L593, hL593⟩ := own_nm #[.val (.ref a1), .val (.int i), .val (.int q), .val (.ref cb), .val (.ref db), .val (.int n), .val (.ref pb), .unset, .unset, .unset, .unset, .unset, .unset, .unset, .unset, .unset, .unset, .unset, .unset]
  have L593_0 := own_ld hL593 0 rfl
  obtain ⟨T594, X594, e594, st594⟩ := wget X592 hx hby hZ hown (hw _ tm39) e592 (O_a.at 2) L593 [] k12_32
  have L593_2 := own_ld hL593 2 rfl
  obtain ⟨L595, hL595⟩ := own_nm #[.val (.ref a1), .val (.int i), .val (.int q), .val (.ref cb), .val (.ref db), .val (.int n), .val (.ref pb), .val (.ref eb), .unset, .unset, .unset, .unset, .unset, .unset, .unset, .unset, .unset, .unset, .unset]
  have L595_0 := own_ld hL595 0 rfl
  obtain ⟨T596, X596, e596, st596⟩ := wget X594 hx hby hZ hown (hw _ tm41) e594 (O_a.at 3) L595 [] k12_40
  have L595_2 := own_ld hL595 2 rfl
  obtain ⟨L597, hL597⟩ := own_nm #[.val (.ref a1), .val (.int i), .val (.int q), .val (.ref cb), .val (.ref db), .val (.int n), .val (.ref pb), .val (.ref eb), .val (.int k), .unset, .unset, .unset, .unset, .unset, .unset, .unset, .unset, .unset, .unset]
  have L597_4 := own_ld hL597 4 rfl
  have L597_3 := own_ld hL597 3 rfl
  have L597_5 := own_ld hL597 5 rfl
  have L597_2 := own_ld hL597 2 rfl
  obtain ⟨_, _, ⟨T598, L598, k598, n598⟩, -, X598, ⟨Lc598, hQ598, l598, y598, z598⟩, st598⟩ := Jvm.LawKit.callS X596 hx (y := (⟨"java/util/Arrays", "binarySearch", "([IIII)I"⟩ : MethodName)) hown (mvT hZ (hw _ tm97)) (mvT hZ (hw _ tm98)) (mvT hZ (hw _ tm57)) (mvT hZ (hw _ tm99)) (by decide) (backOf (W := 1) (rmb l Z a0 hw [] cb kcb n q u1 h0 n0 Z0 V_cb hn) hZ (hw _ tm99) (hw _ tm57) (by decide) (by decide)) (g := (mkF m 54 L597 [(.int q), (.int n), (.int 0), (.ref cb), (.ref db)])) rfl (by rw [hml, hL597]; rfl) (argsL := [(.ref cb), (.int 0), (.int n), (.int q)]) (rest := [(.ref db)]) (lenOf pd_6 rfl) rfl (by show 2 * 0 + _ ≤ _; exact Nat.le_of_eq rfl) (hb hby k12_54) (fun _ _ => ⟨rfl, e596, (by decide : 0 + 0 ≤ _), (by decide : 0 + 0 ≤ _)⟩)
  dsimp only [Pt.U, Pt.locs, Pt.cells, Pt.slots] at X598 l598 y598 z598 st598 hQ598
  subst l598 y598 z598
  obtain ⟨rfl, N598q, eh598⟩ := hQ598
  have N598 := Fr.app N0 N598q
  obtain ⟨L599, hL599⟩ := own_nm #[.val (.ref a1), .val (.int i), .val (.int q), .val (.ref cb), .val (.ref db), .val (.int n), .val (.ref pb), .val (.ref eb), .val (.int k), .val (.double w0), .second, .unset, .unset, .unset, .unset, .unset, .unset, .unset, .unset]
  have L599_0 := own_ld hL599 0 rfl
  obtain ⟨T600, X600, e600, st600⟩ := wget X598 hx hby hZ hown (hw _ tm19) eh598 (O_a.at 12) L599 [] k12_61
  obtain ⟨cl601, Ar601, -, S601, M601, -, -⟩ := id V_mc
  have L599_5 := own_ld hL599 5 rfl
  have L599_8 := own_ld hL599 8 rfl
  obtain ⟨L602, hL602⟩ := own_nm #[.val (.ref a1), .val (.int i), .val (.int q), .val (.ref cb), .val (.ref db), .val (.int n), .val (.ref pb), .val (.ref eb), .val (.int k), .val (.double w0), .second, .val (.double FP.dconst0), .second, .unset, .unset, .unset, .unset, .unset, .unset]
  obtain ⟨L603, hL603⟩ := own_nm #[.val (.ref a1), .val (.int i), .val (.int q), .val (.ref cb), .val (.ref db), .val (.int n), .val (.ref pb), .val (.ref eb), .val (.int k), .val (.double w0), .second, .val (.double FP.dconst0), .second, .val (.int 0), .unset, .unset, .unset, .unset, .unset]
  obtain ⟨L604, hL604⟩ := own_nm #[.val (.ref a1), .val (.int i), .val (.int q), .val (.ref cb), .val (.ref db), .val (.int n), .val (.ref pb), .val (.ref eb), .val (.int k), .val (.double w0), .second, .val (.double FP.dconst0), .second, .val (.int 0), .val (.int 0), .unset, .unset, .unset, .unset]
  obtain ⟨L605, hL605⟩ := own_nm #[.val (.ref a1), .val (.int i), .val (.int q), .val (.ref cb), .val (.ref db), .val (.int n), .val (.ref pb), .val (.ref eb), .val (.int k), .val (.double w0), .second, .val (.double FP.dconst0), .second, .val (.int 0), .val (.int 0), .val (.int 0), .unset, .unset, .unset]
  have qq606 := trivial
  refine ⟨T600, _, _, X600, e600, N598, rfl, fun target kt => ?_⟩
  rw [← hL585]
  show own_S p e below m T0 0 L585 [] _
  refine waloadN X0 hx hby k12_0 L585_0 rfl ?_
  refine st586 _ ?_
  refine wiloadN X586 hx hby k12_4 L585_1 ?_
  refine waaload X586 hx hby hZ e586 V_co i.toNatClampNeg rfl (own_3a hi3) (own_3b hi3) (v := (.ref cb)) hci k12_5 ?_
  show own_S p e below m T586 6 L585 [(.ref cb)] _
  refine XS.astoreN X586.here hx rfl (hb hby k12_6) rfl rfl (l' := L587) (by rw [hL585, hL587]; rfl) ?_
  refine waloadN X586 hx hby k12_7 L587_0 rfl ?_
  refine st588 _ ?_
  refine wiloadN X588 hx hby k12_11 L587_1 ?_
  show own_S p e below m T588 12 L587 [(.int i), (.ref cf)] _
  refine waaload X588 hx hby hZ e588 V_cf i.toNatClampNeg rfl (own_3a hi3) (own_3b hi3) (v := (.ref db)) hfi k12_12 ?_
  refine XS.astore X588.here hx rfl (hb hby k12_13) rfl rfl (l' := L589) (by rw [hL587, hL589]; rfl) ?_
  refine waloadN X588 hx hby k12_15 L589_0 rfl ?_
  refine st590 _ ?_
  show own_S p e below m T590 19 L589 [(.ref le)] _
  refine wiloadN X590 hx hby k12_19 L589_1 ?_
  refine wiaload X590 hx hby hZ e590 V_le i.toNatClampNeg rfl (own_3a hi3) (own_3b hi3) (v := (.int n)) hli k12_20 ?_
  refine wistore X590 hx hby k12_21 hL589 hL591 rfl ?_
  refine waloadN X590 hx hby k12_23 L591_0 rfl ?_
  show own_S p e below m T590 24 L591 [(.ref a1)] _
  refine st592 _ ?_
  refine wiloadN X592 hx hby k12_27 L591_2 ?_
  refine waaload X592 hx hby hZ e592 V_co q.toNatClampNeg rfl (own_3a hq3) (own_3b hq3) (v := (.ref pb)) hcq k12_28 ?_
  refine XS.astore X592.here hx rfl (hb hby k12_29) rfl rfl (l' := L593) (by rw [hL591, hL593]; rfl) ?_
  show own_S p e below m T592 31 L593 [] _
  refine waloadN X592 hx hby k12_31 L593_0 rfl ?_
  refine st594 _ ?_
  refine wiloadN X594 hx hby k12_35 L593_2 ?_
  refine waaload X594 hx hby hZ e594 V_cf q.toNatClampNeg rfl (own_3a hq3) (own_3b hq3) (v := (.ref eb)) hfq k12_36 ?_
  show own_S p e below m T594 37 L593 [(.ref eb)] _
  refine XS.astore X594.here hx rfl (hb hby k12_37) rfl rfl (l' := L595) (by rw [hL593, hL595]; rfl) ?_
  refine waloadN X594 hx hby k12_39 L595_0 rfl ?_
  refine st596 _ ?_
  refine wiloadN X596 hx hby k12_43 L595_2 ?_
  show own_S p e below m T596 44 L595 [(.int q), (.ref le)] _
  refine wiaload X596 hx hby hZ e596 V_le q.toNatClampNeg rfl (own_3a hq3) (own_3b hq3) (v := (.int k)) hlq k12_44 ?_
  refine wistore X596 hx hby k12_45 hL595 hL597 rfl ?_
  refine waload X596 hx hby k12_47 L597_4 rfl ?_
  refine waloadN X596 hx hby k12_49 L597_3 rfl ?_
  show own_S p e below m T596 50 L597 [(.ref cb), (.ref db)] _
  refine wiconst X596 hx hby k12_50 ?_
  refine wiload X596 hx hby k12_51 L597_5 ?_
  refine wiloadN X596 hx hby k12_53 L597_2 ?_
  refine st598 _ ?_
  show own_S p e below m T598 57 L597 [(.int 0), (.ref db)] _
  refine wdaload X598 hx hby hZ eh598 V_db 0 rfl (by decide) (by rcases hn with rfl | rfl <;> decide) (v := (.double w0)) rfl k12_57 ?_
  refine XS.dstore X598.here hx rfl (hb hby k12_58) rfl (l' := L599) (by rw [hL597, hL599]; rfl) ?_
  refine waloadN X598 hx hby k12_60 L599_0 rfl ?_
  refine st600 _ ?_
  show own_S p e below m T600 64 L599 [(.ref mc)] _
  refine X600.arraylength hx (by rw [e600]; exact Ar601.1) (State.isArrayOf_alike hZ.alike Ar601.2.1) (g := (mkF m 64 L599 [(.ref mc)])) rfl rfl (hb hby k12_64) _ ?_
  rw [len_of S601 M601]
  show own_S p e below m T600 65 L599 [(.int 16)] _
  refine wiload X600 hx hby k12_65 L599_5 ?_
  refine wiload X600 hx hby k12_67 L599_8 ?_
  refine XS.iadd X600.here hx rfl (hb hby k12_69) rfl ?_
  refine wicmpYes X600 hx hby k12_70 70 99 rfl (flt hnk).2.1 (by decide) (by decide) ?_
  show own_S p e below m T600 99 L599 [] _
  refine XS.dconst0 X600.here hx rfl (v := FP.dconst0) (hb hby k12_99) rfl ?_
  refine XS.dstore X600.here hx rfl (hb hby k12_100) rfl (l' := L602) (by rw [hL599, hL602]; rfl) ?_
  refine wiconst X600 hx hby k12_102 ?_
  refine wistore X600 hx hby k12_103 hL602 hL603 rfl ?_
  show own_S p e below m T600 105 L603 [] _
  refine wiconst X600 hx hby k12_105 ?_
  refine wistore X600 hx hby k12_106 hL603 hL604 rfl ?_
  refine wiconst X600 hx hby k12_108 ?_
  refine wistore X600 hx hby k12_109 hL604 hL605 rfl ?_
  rw [hL605]
  exact kt
set_option maxRecDepth 65536 in
set_option maxHeartbeats 40000000 in
theorem sbT0 {p : Program} {l : Launch} {e : Env} {s : State} {m : MethodId} {args : Array Value} {below : List Frame} {meth : Method} {c : Code} {T0 : State} {locs : List Loc} (Z : State) (a0 : Array Value) (hw : ∀ d ∈ tables_1, d.before a0 Z = true) (a1 oc od mc md sr sp sw ss co cf le re rc : Nat) (k_co k_cf k_le k_mc k_md k_sr k_sp k_sw k_ss : ClassId) (r : Int32) (en wk : Int64) (st ol i q n u0 u1 x0 x1 : Int32) (y0 y1 v0 v1 w0 sc : UInt64) (cb db : Nat) (kcb kdb : ClassId) (cs fl ls zr zp zw zs : List Value) (LL : Array Slot) (h0 : Heap) (n0 : Nat) (X0 : Stand p l e ({ frames := 2, cells := 0, slots := 0, locals := 40 } : Room) s m args below meth c T0 locs 0 0) (hx : p.tables.exec = Jvm.exec) (hZ : Z.Warmed39 s.vm) (hby : c.code = prog_14_method_7_code) (hml : c.maxLocals = 19) (hown : s.vm.findClass "com/example/odds2/odds2/engine/Elimination" = some m.cls) (e0 : T0.heap = h0) (N0 : Fr n0 locs) (Z0 : n0 ≤ h0.size) (LL_0 : LL[0]? = some (.val (.ref a1))) (LL_1 : LL[1]? = some (.val (.int i))) (LL_2 : LL[2]? = some (.val (.int q))) (LL_3 : LL[3]? = some (.val (.ref cb))) (LL_5 : LL[5]? = some (.val (.int n))) (LL_9 : LL[9]? = some (.val (.double w0))) (LL_13 : LL[13]? = some (.val (.int 0))) (LL_16 : LL[16]? = some (.val (.double sc))) (hsz : LL.size = c.maxLocals) (O_a : own_E Z h0 a1 oc od mc md sr sp sw ss co cf le re rc r en wk ol st) (V_co : Arv Z h0 co k_co (.array .int) (3 : Int32) cs .null) (V_cf : Arv Z h0 cf k_cf (.array .double) (3 : Int32) fl .null) (V_le : Arv Z h0 le k_le .int 3 ls (.int 0)) (V_mc : Arv Z h0 mc k_mc .int 16 [(.int x0), (.int x1)] (.int 0)) (V_md : Arv Z h0 md k_md .double 16 [(.double y0), (.double y1)] (.double 0)) (V_sr : Arv Z h0 sr k_sr .int 16 zr (.int 0)) (V_sp : Arv Z h0 sp k_sp .int 16 zp (.int 0)) (V_sw : Arv Z h0 sw k_sw .double 16 zw (.double 0)) (V_ss : Arv Z h0 ss k_ss .double 16 zs (.double 0)) (V_cb : Arv Z h0 cb kcb .int n [(.int u0), (.int u1)] (.int 0)) (V_db : Arv Z h0 db kdb .double n [(.double v0), (.double v1)] (.double 0)) (hi3 : own_3 i) (hci : cs.getD i.toNatClampNeg .null = .ref cb) (hfi : fl.getD i.toNatClampNeg .null = .ref db) (hn : own_12 n) (lls : ls.length = 3) (lzr : zr.length = 2) (lzp : zp.length = 2) (lzw : zw.length = 2) (lzs : zs.length = 2) (hst : own_01 st) (o1 : rc < cb) (o2 : cb < db) (ord : own_ord a1 oc od mc md sr sp sw ss co cf le re rc) (g_a : n0 ≤ a1) :
    ∃ (T' : State) (h' : Heap) (L' : List Loc), Stand p l e ({ frames := 2, cells := 0, slots := 0, locals := 40 } : Room) s m args below meth c T' L' 0 0 ∧ T'.heap = h' ∧ Fr n0 L' ∧ Keep h0 h' [a1, le, sr, sp, sw, ss, cb, db] ∧ own_E Z h' a1 oc od mc md sr sp sw ss co cf le re rc r (en + ((0 : Int32) - n).toInt64) wk ol (st + (1 : Int32)) ∧ Arv Z h' le k_le .int 3 (ls.set i.toNatClampNeg (.int 0)) (.int 0) ∧ Arv Z h' sr k_sr .int 16 (zr.set st.toNatClampNeg (.int i)) (.int 0) ∧ Arv Z h' sp k_sp .int 16 (zp.set st.toNatClampNeg (.int q)) (.int 0) ∧ Arv Z h' sw k_sw .double 16 (zw.set st.toNatClampNeg (.double w0)) (.double 0) ∧ Arv Z h' ss k_ss .double 16 (zs.set st.toNatClampNeg (.double sc)) (.double 0) ∧ Arv Z h' cb kcb .int n [(.int u0), (.int u1)] (.int 0) ∧ Arv Z h' db kdb .double n [(.double v0), (.double v1)] (.double 0) ∧ ∀ target, own_S p e below m T' 486 LL [] target → own_S p e below m T0 380 LL [] target := by
  have hl := own_laid_of hw
  obtain ⟨or0, or1, or2, or3, or4, or5, or6, or7, or8, or9, or10, or11, or12⟩ := id ord
  obtain ⟨cl607, Ar607, -, S607, M607, -, -⟩ := id V_cb
  obtain ⟨T608, X608, e608, st608⟩ := wget X0 hx hby hZ hown (hw _ tm19) e0 (O_a.at 12) LL [] k12_420
  obtain ⟨T609, X609, e609, st609⟩ := wget X608 hx hby hZ hown (hw _ tm35) e608 (O_a.at 1) LL [(.int 0), (.ref mc)] k12_425
  obtain ⟨T610, h610, LC610, X610, e610, N610, K610, V610, st610⟩ := cpA X609 hx hZ hown (hw _ tm107) (hw _ tm110) (hw _ tm108) (hw _ tm109) e609 V_mc V_cb (Or.inl ⟨rfl, rfl⟩) (sp := (0 : Int32)) (dp := (0 : Int32)) (nn := (0 : Int32)) (by decide) (by decide) (by decide) (by decide) (by rcases hn with rfl | rfl <;> decide) (us := []) rfl (Nat.le_of_ble_eq_true rfl) N0 (by omega : n0 ≤ (cb : Nat)) (g := (mkF m 433 LL [(.int 0), (.int 0), (.ref cb), (.int 0), (.ref mc)])) rfl hsz (rest := []) rfl (hb hby k12_433) (by decide) (W := 0) (Nat.le_of_eq rfl) (by decide)
  have f611 : Arv Z h610 cb kcb .int n [(.int u0), (.int u1)] (.int 0) := V610
  have f612 := (O_a.keep K610 (ninS (by omega : (a1 : Nat) ≠ cb) nin0))
  obtain ⟨T613, X613, e613, st613⟩ := wget X610 hx hby hZ hown (hw _ tm21) e610 (f612.at 13) LL [] k12_437
  obtain ⟨T614, X614, e614, st614⟩ := wget X613 hx hby hZ hown (hw _ tm39) e613 (f612.at 2) LL [(.int 0), (.ref md)] k12_442
  have f615 := (V_cf.keep K610 (ninS (by omega : (cf : Nat) ≠ cb) nin0))
  have f616 := (V_md.keep K610 (ninS (by omega : (md : Nat) ≠ cb) nin0))
  have f617 := (V_db.keep K610 (ninS (by omega : (db : Nat) ≠ cb) nin0))
  obtain ⟨T618, h618, LC618, X618, e618, N618, K618, V618, st618⟩ := cpA X614 hx hZ hown (hw _ tm107) (hw _ tm110) (hw _ tm108) (hw _ tm109) e614 f616 f617 (Or.inl ⟨rfl, rfl⟩) (sp := (0 : Int32)) (dp := (0 : Int32)) (nn := (0 : Int32)) (by decide) (by decide) (by decide) (by decide) (by rcases hn with rfl | rfl <;> decide) (us := []) rfl (Nat.le_of_ble_eq_true rfl) N610 (by omega : n0 ≤ (db : Nat)) (g := (mkF m 450 LL [(.int 0), (.int 0), (.ref db), (.int 0), (.ref md)])) rfl hsz (rest := []) rfl (hb hby k12_450) (by decide) (W := 0) (Nat.le_of_eq rfl) (by decide)
  have f619 : Arv Z h618 db kdb .double n [(.double v0), (.double v1)] (.double 0) := V618
  have f620 := (f612.keep K618 (ninS (by omega : (a1 : Nat) ≠ db) nin0))
  obtain ⟨T621, X621, e621, st621⟩ := wget X618 hx hby hZ hown (hw _ tm73) e618 (f620.at 7) LL [(.ref a1)] k12_455
  obtain ⟨T622, h622, X622, e622, W622, st622⟩ := putF X621 hx hZ hown (host := "") (Or.inl (hw _ tm73)) Via.refl e621 (f620.2.2 7 (by decide)) f620.1 (Or.inl (hw _ tm74)) (hw _ tm6) (ty := .long) (by decide) rfl rfl (g := (mkF m 465 LL [(.long (en + ((0 : Int32) - n).toInt64)), (.ref a1)])) rfl rfl (hb hby k12_465)
  have N622 := Fr.snoc X622 N618 (by omega : n0 ≤ (a1 : Nat))
  have f623 : own_E Z h622 a1 oc od mc md sr sp sw ss co cf le re rc r (en + ((0 : Int32) - n).toInt64) wk ol st := own_put f620 hl (i := 7) (by decide) W622
  obtain ⟨T624, X624, e624, st624⟩ := wget X622 hx hby hZ hown (hw _ tm41) e622 (f623.at 3) LL [] k12_469
  have f625 := (((V_le.keep K610 (ninS (by omega : (le : Nat) ≠ cb) nin0)).keep K618 (ninS (by omega : (le : Nat) ≠ db) nin0)).other W622 (by omega : (le : Nat) ≠ a1))
  obtain ⟨T627, h627, X627, e627, W627, f626, N627, st627⟩ := wiastore X624 hx hby hZ e624 N622 f625 (by omega : n0 ≤ (le : Nat)) i (0 : Int32) i.toNatClampNeg rfl (own_3a hi3) (own_3b hi3) (by rw [lls]; exact own_3c hi3) LL [] k12_475
  have f629 := (((((Keep.refl h0 [a1, le, sr, sp, sw, ss, cb, db]).trans K610 (allS (Or.inl (List.mem_of_getElem? (i := 6) rfl)) all0)).trans K618 (allS (Or.inl (List.mem_of_getElem? (i := 7) rfl)) all0)).wr W622 (Or.inl (List.mem_of_getElem? (i := 0) rfl))).wr W627 (Or.inl (List.mem_of_getElem? (i := 1) rfl)))
  have Z628 : n0 ≤ h627.size := Nat.le_trans Z0 f629.1
  have f630 := (f623.other W627 (by omega : (a1 : Nat) ≠ le))
  have f631 := ((((V_sr.keep K610 (ninS (by omega : (sr : Nat) ≠ cb) nin0)).keep K618 (ninS (by omega : (sr : Nat) ≠ db) nin0)).other W622 (by omega : (sr : Nat) ≠ a1)).other W627 (by omega : (sr : Nat) ≠ le))
  have f632 := ((((V_sp.keep K610 (ninS (by omega : (sp : Nat) ≠ cb) nin0)).keep K618 (ninS (by omega : (sp : Nat) ≠ db) nin0)).other W622 (by omega : (sp : Nat) ≠ a1)).other W627 (by omega : (sp : Nat) ≠ le))
  have f633 := ((((V_sw.keep K610 (ninS (by omega : (sw : Nat) ≠ cb) nin0)).keep K618 (ninS (by omega : (sw : Nat) ≠ db) nin0)).other W622 (by omega : (sw : Nat) ≠ a1)).other W627 (by omega : (sw : Nat) ≠ le))
  have f634 := ((((V_ss.keep K610 (ninS (by omega : (ss : Nat) ≠ cb) nin0)).keep K618 (ninS (by omega : (ss : Nat) ≠ db) nin0)).other W622 (by omega : (ss : Nat) ≠ a1)).other W627 (by omega : (ss : Nat) ≠ le))
  have f635 := ((((V_co.keep K610 (ninS (by omega : (co : Nat) ≠ cb) nin0)).keep K618 (ninS (by omega : (co : Nat) ≠ db) nin0)).other W622 (by omega : (co : Nat) ≠ a1)).other W627 (by omega : (co : Nat) ≠ le))
  have f636 := (((f615.keep K618 (ninS (by omega : (cf : Nat) ≠ db) nin0)).other W622 (by omega : (cf : Nat) ≠ a1)).other W627 (by omega : (cf : Nat) ≠ le))
  have f637 := ((((V_mc.keep K610 (ninS (by omega : (mc : Nat) ≠ cb) nin0)).keep K618 (ninS (by omega : (mc : Nat) ≠ db) nin0)).other W622 (by omega : (mc : Nat) ≠ a1)).other W627 (by omega : (mc : Nat) ≠ le))
  have f638 := (((f616.keep K618 (ninS (by omega : (md : Nat) ≠ db) nin0)).other W622 (by omega : (md : Nat) ≠ a1)).other W627 (by omega : (md : Nat) ≠ le))
  have f639 := (((f611.keep K618 (ninS (by omega : (cb : Nat) ≠ db) nin0)).other W622 (by omega : (cb : Nat) ≠ a1)).other W627 (by omega : (cb : Nat) ≠ le))
  have f640 := ((f619.other W622 (by omega : (db : Nat) ≠ a1)).other W627 (by omega : (db : Nat) ≠ le))
  obtain ⟨cq641, qa641, qb641⟩ := f630.1.cell
  obtain ⟨_, _, ⟨T641, LL641, kk641, nn641⟩, -, X641, ⟨Lc641, hQ641, l641, y641, z641⟩, st641⟩ := X627.privateBack hx (y := (⟨"com/example/odds2/odds2/engine/Elimination", "record", "(IIDD)V"⟩ : MethodName)) hown (mvT hZ (hw _ tm111)) (mvT hZ (hw _ tm112)) (own_sel hZ hw (hw _ tm113) (hw _ tm112)) (Cond.privateMethod_at (mvP hZ (hw _ tm113) (args := #[]))) (mvT hZ (hw _ tm114)) (by decide) (backOf (W := 0) (rmR l Z a0 hw [] a1 oc od mc md sr sp sw ss co cf le re rc k_sr k_sp k_sw k_ss r (en + ((0 : Int32) - n).toInt64) wk st ol i q w0 sc zr zp zw zs h627 n0 Z628 f630 f631 f632 f633 f634 lzr lzp lzw lzs hst ord g_a) hZ (hw _ tm114) (hw _ tm7) (by decide) (by decide)) (g := (mkF m 483 LL [(.double sc), (.double w0), (.int q), (.int i), (.ref a1)])) rfl hsz (Steps.refl _) (a := a1) (by rw [e627]; exact qa641) qb641 (argsL := [(.int i), (.int q), (.double w0), (.double sc)]) (rest := []) (lenOf pd_7 rfl) rfl (by show 2 * 0 + _ ≤ _; exact Nat.le_of_eq rfl) (hb hby k12_483) (fun _ _ => ⟨rfl, e627, (by decide : 0 + 0 ≤ _), (by decide : 0 + 0 ≤ _)⟩)
  dsimp only [Pt.U, Pt.locs, Pt.cells, Pt.slots] at X641 l641 y641 z641 st641 hQ641
  subst l641 y641 z641
  obtain ⟨rfl, N641q, K641, Oa641, Vr641, Vp641, Vw641, Vs641⟩ := hQ641
  have N641 := Fr.app N627 N641q
  have f642 := (f629.trans K641 (allS (Or.inl (List.mem_of_getElem? (i := 0) rfl)) (allS (Or.inl (List.mem_of_getElem? (i := 2) rfl)) (allS (Or.inl (List.mem_of_getElem? (i := 3) rfl)) (allS (Or.inl (List.mem_of_getElem? (i := 4) rfl)) (allS (Or.inl (List.mem_of_getElem? (i := 5) rfl)) all0))))))
  have f643 := (f626.keep K641 (by repeat' first | exact nin0 | refine ninS ?_ ?_ | (show (_ : Nat) ≠ _; omega)))
  have f644 := (f639.keep K641 (by repeat' first | exact nin0 | refine ninS ?_ ?_ | (show (_ : Nat) ≠ _; omega)))
  have f645 := (f640.keep K641 (by repeat' first | exact nin0 | refine ninS ?_ ?_ | (show (_ : Nat) ≠ _; omega)))
  refine ⟨T641, _, _, X641, rfl, N641, f642, Oa641, f643, Vr641, Vp641, Vw641, Vs641, f644, f645, fun target kt => ?_⟩
  show own_S p e below m T0 380 LL [] _
  refine waloadN X0 hx hby k12_380 LL_3 rfl ?_
  refine X0.arraylength hx (by rw [e0]; exact Ar607.1) (State.isArrayOf_alike hZ.alike Ar607.2.1) (g := (mkF m 381 LL [(.ref cb)])) rfl rfl (hb hby k12_381) _ ?_
  rw [len_of S607 M607]
  show own_S p e below m T0 382 LL [(.int n)] _
  refine wiload X0 hx hby k12_382 LL_13 ?_
  refine wicmpYes X0 hx hby k12_384 384 419 rfl (flt (by rcases hn with rfl | rfl <;> decide)).2.1 (by decide) (by decide) ?_
  refine waloadN X0 hx hby k12_419 LL_0 rfl ?_
  refine st608 _ ?_
  show own_S p e below m T608 423 LL [(.ref mc)] _
  refine wiconst X608 hx hby k12_423 ?_
  refine waloadN X608 hx hby k12_424 LL_0 rfl ?_
  refine st609 _ ?_
  refine wiloadN X609 hx hby k12_428 LL_1 ?_
  show own_S p e below m T609 429 LL [(.int i), (.ref co), (.int 0), (.ref mc)] _
  refine waaload X609 hx hby hZ e609 V_co i.toNatClampNeg rfl (own_3a hi3) (own_3b hi3) (v := (.ref cb)) hci k12_429 ?_
  refine wiconst X609 hx hby k12_430 ?_
  refine wiload X609 hx hby k12_431 LL_13 ?_
  refine st610 _ ?_
  show own_S p e below m T610 436 LL [] _
  refine waloadN X610 hx hby k12_436 LL_0 rfl ?_
  refine st613 _ ?_
  refine wiconst X613 hx hby k12_440 ?_
  refine waloadN X613 hx hby k12_441 LL_0 rfl ?_
  show own_S p e below m T613 442 LL [(.ref a1), (.int 0), (.ref md)] _
  refine st614 _ ?_
  refine wiloadN X614 hx hby k12_445 LL_1 ?_
  refine waaload X614 hx hby hZ e614 f615 i.toNatClampNeg rfl (own_3a hi3) (own_3b hi3) (v := (.ref db)) hfi k12_446 ?_
  refine wiconst X614 hx hby k12_447 ?_
  show own_S p e below m T614 448 LL [(.int 0), (.ref db), (.int 0), (.ref md)] _
  refine wiload X614 hx hby k12_448 LL_13 ?_
  refine st618 _ ?_
  refine waloadN X618 hx hby k12_453 LL_0 rfl ?_
  refine XS.dup X618.here hx rfl (hb hby k12_454) rfl rfl ?_
  show own_S p e below m T618 455 LL [(.ref a1), (.ref a1)] _
  refine st621 _ ?_
  refine wiload X621 hx hby k12_458 LL_13 ?_
  refine wiload X621 hx hby k12_460 LL_5 ?_
  refine XS.isub X621.here hx rfl (hb hby k12_462) rfl ?_
  show own_S p e below m T621 463 LL [(.int ((0 : Int32) - n)), (.long en), (.ref a1)] _
  refine XS.i2l X621.here hx rfl (hb hby k12_463) rfl ?_
  refine XS.ladd X621.here hx rfl (hb hby k12_464) rfl ?_
  refine st622 _ ?_
  refine waloadN X622 hx hby k12_468 LL_0 rfl ?_
  show own_S p e below m T622 469 LL [(.ref a1)] _
  refine st624 _ ?_
  refine wiloadN X624 hx hby k12_472 LL_1 ?_
  refine wiload X624 hx hby k12_473 LL_13 ?_
  refine st627 _ ?_
  show own_S p e below m T627 476 LL [] _
  refine waloadN X627 hx hby k12_476 LL_0 rfl ?_
  refine wiloadN X627 hx hby k12_477 LL_1 ?_
  refine wiloadN X627 hx hby k12_478 LL_2 ?_
  refine wdload X627 hx hby k12_479 LL_9 ?_
  show own_S p e below m T627 481 LL [(.double w0), (.int q), (.int i), (.ref a1)] _
  refine wdload X627 hx hby k12_481 LL_16 ?_
  refine st641.trans ?_
  exact kt
set_option maxRecDepth 65536 in
set_option maxHeartbeats 40000000 in
theorem sbT1 {p : Program} {l : Launch} {e : Env} {s : State} {m : MethodId} {args : Array Value} {below : List Frame} {meth : Method} {c : Code} {T0 : State} {locs : List Loc} (Z : State) (a0 : Array Value) (hw : ∀ d ∈ tables_1, d.before a0 Z = true) (a1 oc od mc md sr sp sw ss co cf le re rc : Nat) (k_co k_cf k_le k_mc k_md k_sr k_sp k_sw k_ss : ClassId) (r : Int32) (en wk : Int64) (st ol i q n u0 u1 x0 x1 : Int32) (y0 y1 v0 v1 w0 sc : UInt64) (cb db : Nat) (kcb kdb : ClassId) (cs fl ls zr zp zw zs : List Value) (LL : Array Slot) (h0 : Heap) (n0 : Nat) (X0 : Stand p l e ({ frames := 2, cells := 0, slots := 0, locals := 40 } : Room) s m args below meth c T0 locs 0 0) (hx : p.tables.exec = Jvm.exec) (hZ : Z.Warmed39 s.vm) (hby : c.code = prog_14_method_7_code) (hml : c.maxLocals = 19) (hown : s.vm.findClass "com/example/odds2/odds2/engine/Elimination" = some m.cls) (e0 : T0.heap = h0) (N0 : Fr n0 locs) (Z0 : n0 ≤ h0.size) (LL_0 : LL[0]? = some (.val (.ref a1))) (LL_1 : LL[1]? = some (.val (.int i))) (LL_2 : LL[2]? = some (.val (.int q))) (LL_3 : LL[3]? = some (.val (.ref cb))) (LL_5 : LL[5]? = some (.val (.int n))) (LL_9 : LL[9]? = some (.val (.double w0))) (LL_13 : LL[13]? = some (.val (.int 1))) (LL_16 : LL[16]? = some (.val (.double sc))) (hsz : LL.size = c.maxLocals) (O_a : own_E Z h0 a1 oc od mc md sr sp sw ss co cf le re rc r en wk ol st) (V_co : Arv Z h0 co k_co (.array .int) (3 : Int32) cs .null) (V_cf : Arv Z h0 cf k_cf (.array .double) (3 : Int32) fl .null) (V_le : Arv Z h0 le k_le .int 3 ls (.int 0)) (V_mc : Arv Z h0 mc k_mc .int 16 [(.int x0), (.int x1)] (.int 0)) (V_md : Arv Z h0 md k_md .double 16 [(.double y0), (.double y1)] (.double 0)) (V_sr : Arv Z h0 sr k_sr .int 16 zr (.int 0)) (V_sp : Arv Z h0 sp k_sp .int 16 zp (.int 0)) (V_sw : Arv Z h0 sw k_sw .double 16 zw (.double 0)) (V_ss : Arv Z h0 ss k_ss .double 16 zs (.double 0)) (V_cb : Arv Z h0 cb kcb .int n [(.int u0), (.int u1)] (.int 0)) (V_db : Arv Z h0 db kdb .double n [(.double v0), (.double v1)] (.double 0)) (hi3 : own_3 i) (hci : cs.getD i.toNatClampNeg .null = .ref cb) (hfi : fl.getD i.toNatClampNeg .null = .ref db) (hn : own_12 n) (lls : ls.length = 3) (lzr : zr.length = 2) (lzp : zp.length = 2) (lzw : zw.length = 2) (lzs : zs.length = 2) (hst : own_01 st) (o1 : rc < cb) (o2 : cb < db) (ord : own_ord a1 oc od mc md sr sp sw ss co cf le re rc) (g_a : n0 ≤ a1) :
    ∃ (T' : State) (h' : Heap) (L' : List Loc), Stand p l e ({ frames := 2, cells := 0, slots := 0, locals := 40 } : Room) s m args below meth c T' L' 0 0 ∧ T'.heap = h' ∧ Fr n0 L' ∧ Keep h0 h' [a1, le, sr, sp, sw, ss, cb, db] ∧ own_E Z h' a1 oc od mc md sr sp sw ss co cf le re rc r (en + ((1 : Int32) - n).toInt64) wk ol (st + (1 : Int32)) ∧ Arv Z h' le k_le .int 3 (ls.set i.toNatClampNeg (.int 1)) (.int 0) ∧ Arv Z h' sr k_sr .int 16 (zr.set st.toNatClampNeg (.int i)) (.int 0) ∧ Arv Z h' sp k_sp .int 16 (zp.set st.toNatClampNeg (.int q)) (.int 0) ∧ Arv Z h' sw k_sw .double 16 (zw.set st.toNatClampNeg (.double w0)) (.double 0) ∧ Arv Z h' ss k_ss .double 16 (zs.set st.toNatClampNeg (.double sc)) (.double 0) ∧ Arv Z h' cb kcb .int n [(.int x0), (.int u1)] (.int 0) ∧ Arv Z h' db kdb .double n [(.double y0), (.double v1)] (.double 0) ∧ ∀ target, own_S p e below m T' 486 LL [] target → own_S p e below m T0 380 LL [] target := by
  have hl := own_laid_of hw
  obtain ⟨or0, or1, or2, or3, or4, or5, or6, or7, or8, or9, or10, or11, or12⟩ := id ord
  obtain ⟨cl646, Ar646, -, S646, M646, -, -⟩ := id V_cb
  obtain ⟨T647, X647, e647, st647⟩ := wget X0 hx hby hZ hown (hw _ tm19) e0 (O_a.at 12) LL [] k12_420
  obtain ⟨T648, X648, e648, st648⟩ := wget X647 hx hby hZ hown (hw _ tm35) e647 (O_a.at 1) LL [(.int 0), (.ref mc)] k12_425
  obtain ⟨T649, h649, LC649, X649, e649, N649, K649, V649, st649⟩ := cpA X648 hx hZ hown (hw _ tm107) (hw _ tm110) (hw _ tm108) (hw _ tm109) e648 V_mc V_cb (Or.inl ⟨rfl, rfl⟩) (sp := (0 : Int32)) (dp := (0 : Int32)) (nn := (1 : Int32)) (by decide) (by decide) (by decide) (by decide) (by rcases hn with rfl | rfl <;> decide) (us := [(.int x0)]) rfl (Nat.le_of_ble_eq_true rfl) N0 (by omega : n0 ≤ (cb : Nat)) (g := (mkF m 433 LL [(.int 1), (.int 0), (.ref cb), (.int 0), (.ref mc)])) rfl hsz (rest := []) rfl (hb hby k12_433) (by decide) (W := 0) (Nat.le_of_eq rfl) (by decide)
  have f650 : Arv Z h649 cb kcb .int n [(.int x0), (.int u1)] (.int 0) := V649
  have f651 := (O_a.keep K649 (ninS (by omega : (a1 : Nat) ≠ cb) nin0))
  obtain ⟨T652, X652, e652, st652⟩ := wget X649 hx hby hZ hown (hw _ tm21) e649 (f651.at 13) LL [] k12_437
  obtain ⟨T653, X653, e653, st653⟩ := wget X652 hx hby hZ hown (hw _ tm39) e652 (f651.at 2) LL [(.int 0), (.ref md)] k12_442
  have f654 := (V_cf.keep K649 (ninS (by omega : (cf : Nat) ≠ cb) nin0))
  have f655 := (V_md.keep K649 (ninS (by omega : (md : Nat) ≠ cb) nin0))
  have f656 := (V_db.keep K649 (ninS (by omega : (db : Nat) ≠ cb) nin0))
  obtain ⟨T657, h657, LC657, X657, e657, N657, K657, V657, st657⟩ := cpA X653 hx hZ hown (hw _ tm107) (hw _ tm110) (hw _ tm108) (hw _ tm109) e653 f655 f656 (Or.inl ⟨rfl, rfl⟩) (sp := (0 : Int32)) (dp := (0 : Int32)) (nn := (1 : Int32)) (by decide) (by decide) (by decide) (by decide) (by rcases hn with rfl | rfl <;> decide) (us := [(.double y0)]) rfl (Nat.le_of_ble_eq_true rfl) N649 (by omega : n0 ≤ (db : Nat)) (g := (mkF m 450 LL [(.int 1), (.int 0), (.ref db), (.int 0), (.ref md)])) rfl hsz (rest := []) rfl (hb hby k12_450) (by decide) (W := 0) (Nat.le_of_eq rfl) (by decide)
  have f658 : Arv Z h657 db kdb .double n [(.double y0), (.double v1)] (.double 0) := V657
  have f659 := (f651.keep K657 (ninS (by omega : (a1 : Nat) ≠ db) nin0))
  obtain ⟨T660, X660, e660, st660⟩ := wget X657 hx hby hZ hown (hw _ tm73) e657 (f659.at 7) LL [(.ref a1)] k12_455
  obtain ⟨T661, h661, X661, e661, W661, st661⟩ := putF X660 hx hZ hown (host := "") (Or.inl (hw _ tm73)) Via.refl e660 (f659.2.2 7 (by decide)) f659.1 (Or.inl (hw _ tm74)) (hw _ tm6) (ty := .long) (by decide) rfl rfl (g := (mkF m 465 LL [(.long (en + ((1 : Int32) - n).toInt64)), (.ref a1)])) rfl rfl (hb hby k12_465)
  have N661 := Fr.snoc X661 N657 (by omega : n0 ≤ (a1 : Nat))
  have f662 : own_E Z h661 a1 oc od mc md sr sp sw ss co cf le re rc r (en + ((1 : Int32) - n).toInt64) wk ol st := own_put f659 hl (i := 7) (by decide) W661
  obtain ⟨T663, X663, e663, st663⟩ := wget X661 hx hby hZ hown (hw _ tm41) e661 (f662.at 3) LL [] k12_469
  have f664 := (((V_le.keep K649 (ninS (by omega : (le : Nat) ≠ cb) nin0)).keep K657 (ninS (by omega : (le : Nat) ≠ db) nin0)).other W661 (by omega : (le : Nat) ≠ a1))
  obtain ⟨T666, h666, X666, e666, W666, f665, N666, st666⟩ := wiastore X663 hx hby hZ e663 N661 f664 (by omega : n0 ≤ (le : Nat)) i (1 : Int32) i.toNatClampNeg rfl (own_3a hi3) (own_3b hi3) (by rw [lls]; exact own_3c hi3) LL [] k12_475
  have f668 := (((((Keep.refl h0 [a1, le, sr, sp, sw, ss, cb, db]).trans K649 (allS (Or.inl (List.mem_of_getElem? (i := 6) rfl)) all0)).trans K657 (allS (Or.inl (List.mem_of_getElem? (i := 7) rfl)) all0)).wr W661 (Or.inl (List.mem_of_getElem? (i := 0) rfl))).wr W666 (Or.inl (List.mem_of_getElem? (i := 1) rfl)))
  have Z667 : n0 ≤ h666.size := Nat.le_trans Z0 f668.1
  have f669 := (f662.other W666 (by omega : (a1 : Nat) ≠ le))
  have f670 := ((((V_sr.keep K649 (ninS (by omega : (sr : Nat) ≠ cb) nin0)).keep K657 (ninS (by omega : (sr : Nat) ≠ db) nin0)).other W661 (by omega : (sr : Nat) ≠ a1)).other W666 (by omega : (sr : Nat) ≠ le))
  have f671 := ((((V_sp.keep K649 (ninS (by omega : (sp : Nat) ≠ cb) nin0)).keep K657 (ninS (by omega : (sp : Nat) ≠ db) nin0)).other W661 (by omega : (sp : Nat) ≠ a1)).other W666 (by omega : (sp : Nat) ≠ le))
  have f672 := ((((V_sw.keep K649 (ninS (by omega : (sw : Nat) ≠ cb) nin0)).keep K657 (ninS (by omega : (sw : Nat) ≠ db) nin0)).other W661 (by omega : (sw : Nat) ≠ a1)).other W666 (by omega : (sw : Nat) ≠ le))
  have f673 := ((((V_ss.keep K649 (ninS (by omega : (ss : Nat) ≠ cb) nin0)).keep K657 (ninS (by omega : (ss : Nat) ≠ db) nin0)).other W661 (by omega : (ss : Nat) ≠ a1)).other W666 (by omega : (ss : Nat) ≠ le))
  have f674 := ((((V_co.keep K649 (ninS (by omega : (co : Nat) ≠ cb) nin0)).keep K657 (ninS (by omega : (co : Nat) ≠ db) nin0)).other W661 (by omega : (co : Nat) ≠ a1)).other W666 (by omega : (co : Nat) ≠ le))
  have f675 := (((f654.keep K657 (ninS (by omega : (cf : Nat) ≠ db) nin0)).other W661 (by omega : (cf : Nat) ≠ a1)).other W666 (by omega : (cf : Nat) ≠ le))
  have f676 := ((((V_mc.keep K649 (ninS (by omega : (mc : Nat) ≠ cb) nin0)).keep K657 (ninS (by omega : (mc : Nat) ≠ db) nin0)).other W661 (by omega : (mc : Nat) ≠ a1)).other W666 (by omega : (mc : Nat) ≠ le))
  have f677 := (((f655.keep K657 (ninS (by omega : (md : Nat) ≠ db) nin0)).other W661 (by omega : (md : Nat) ≠ a1)).other W666 (by omega : (md : Nat) ≠ le))
  have f678 := (((f650.keep K657 (ninS (by omega : (cb : Nat) ≠ db) nin0)).other W661 (by omega : (cb : Nat) ≠ a1)).other W666 (by omega : (cb : Nat) ≠ le))
  have f679 := ((f658.other W661 (by omega : (db : Nat) ≠ a1)).other W666 (by omega : (db : Nat) ≠ le))
  obtain ⟨cq680, qa680, qb680⟩ := f669.1.cell
  obtain ⟨_, _, ⟨T680, LL680, kk680, nn680⟩, -, X680, ⟨Lc680, hQ680, l680, y680, z680⟩, st680⟩ := X666.privateBack hx (y := (⟨"com/example/odds2/odds2/engine/Elimination", "record", "(IIDD)V"⟩ : MethodName)) hown (mvT hZ (hw _ tm111)) (mvT hZ (hw _ tm112)) (own_sel hZ hw (hw _ tm113) (hw _ tm112)) (Cond.privateMethod_at (mvP hZ (hw _ tm113) (args := #[]))) (mvT hZ (hw _ tm114)) (by decide) (backOf (W := 0) (rmR l Z a0 hw [] a1 oc od mc md sr sp sw ss co cf le re rc k_sr k_sp k_sw k_ss r (en + ((1 : Int32) - n).toInt64) wk st ol i q w0 sc zr zp zw zs h666 n0 Z667 f669 f670 f671 f672 f673 lzr lzp lzw lzs hst ord g_a) hZ (hw _ tm114) (hw _ tm7) (by decide) (by decide)) (g := (mkF m 483 LL [(.double sc), (.double w0), (.int q), (.int i), (.ref a1)])) rfl hsz (Steps.refl _) (a := a1) (by rw [e666]; exact qa680) qb680 (argsL := [(.int i), (.int q), (.double w0), (.double sc)]) (rest := []) (lenOf pd_7 rfl) rfl (by show 2 * 0 + _ ≤ _; exact Nat.le_of_eq rfl) (hb hby k12_483) (fun _ _ => ⟨rfl, e666, (by decide : 0 + 0 ≤ _), (by decide : 0 + 0 ≤ _)⟩)
  dsimp only [Pt.U, Pt.locs, Pt.cells, Pt.slots] at X680 l680 y680 z680 st680 hQ680
  subst l680 y680 z680
  obtain ⟨rfl, N680q, K680, Oa680, Vr680, Vp680, Vw680, Vs680⟩ := hQ680
  have N680 := Fr.app N666 N680q
  have f681 := (f668.trans K680 (allS (Or.inl (List.mem_of_getElem? (i := 0) rfl)) (allS (Or.inl (List.mem_of_getElem? (i := 2) rfl)) (allS (Or.inl (List.mem_of_getElem? (i := 3) rfl)) (allS (Or.inl (List.mem_of_getElem? (i := 4) rfl)) (allS (Or.inl (List.mem_of_getElem? (i := 5) rfl)) all0))))))
  have f682 := (f665.keep K680 (by repeat' first | exact nin0 | refine ninS ?_ ?_ | (show (_ : Nat) ≠ _; omega)))
  have f683 := (f678.keep K680 (by repeat' first | exact nin0 | refine ninS ?_ ?_ | (show (_ : Nat) ≠ _; omega)))
  have f684 := (f679.keep K680 (by repeat' first | exact nin0 | refine ninS ?_ ?_ | (show (_ : Nat) ≠ _; omega)))
  refine ⟨T680, _, _, X680, rfl, N680, f681, Oa680, f682, Vr680, Vp680, Vw680, Vs680, f683, f684, fun target kt => ?_⟩
  show own_S p e below m T0 380 LL [] _
  refine waloadN X0 hx hby k12_380 LL_3 rfl ?_
  refine X0.arraylength hx (by rw [e0]; exact Ar646.1) (State.isArrayOf_alike hZ.alike Ar646.2.1) (g := (mkF m 381 LL [(.ref cb)])) rfl rfl (hb hby k12_381) _ ?_
  rw [len_of S646 M646]
  show own_S p e below m T0 382 LL [(.int n)] _
  refine wiload X0 hx hby k12_382 LL_13 ?_
  refine wicmpYes X0 hx hby k12_384 384 419 rfl (flt (by rcases hn with rfl | rfl <;> decide)).2.1 (by decide) (by decide) ?_
  refine waloadN X0 hx hby k12_419 LL_0 rfl ?_
  refine st647 _ ?_
  show own_S p e below m T647 423 LL [(.ref mc)] _
  refine wiconst X647 hx hby k12_423 ?_
  refine waloadN X647 hx hby k12_424 LL_0 rfl ?_
  refine st648 _ ?_
  refine wiloadN X648 hx hby k12_428 LL_1 ?_
  show own_S p e below m T648 429 LL [(.int i), (.ref co), (.int 0), (.ref mc)] _
  refine waaload X648 hx hby hZ e648 V_co i.toNatClampNeg rfl (own_3a hi3) (own_3b hi3) (v := (.ref cb)) hci k12_429 ?_
  refine wiconst X648 hx hby k12_430 ?_
  refine wiload X648 hx hby k12_431 LL_13 ?_
  refine st649 _ ?_
  show own_S p e below m T649 436 LL [] _
  refine waloadN X649 hx hby k12_436 LL_0 rfl ?_
  refine st652 _ ?_
  refine wiconst X652 hx hby k12_440 ?_
  refine waloadN X652 hx hby k12_441 LL_0 rfl ?_
  show own_S p e below m T652 442 LL [(.ref a1), (.int 0), (.ref md)] _
  refine st653 _ ?_
  refine wiloadN X653 hx hby k12_445 LL_1 ?_
  refine waaload X653 hx hby hZ e653 f654 i.toNatClampNeg rfl (own_3a hi3) (own_3b hi3) (v := (.ref db)) hfi k12_446 ?_
  refine wiconst X653 hx hby k12_447 ?_
  show own_S p e below m T653 448 LL [(.int 0), (.ref db), (.int 0), (.ref md)] _
  refine wiload X653 hx hby k12_448 LL_13 ?_
  refine st657 _ ?_
  refine waloadN X657 hx hby k12_453 LL_0 rfl ?_
  refine XS.dup X657.here hx rfl (hb hby k12_454) rfl rfl ?_
  show own_S p e below m T657 455 LL [(.ref a1), (.ref a1)] _
  refine st660 _ ?_
  refine wiload X660 hx hby k12_458 LL_13 ?_
  refine wiload X660 hx hby k12_460 LL_5 ?_
  refine XS.isub X660.here hx rfl (hb hby k12_462) rfl ?_
  show own_S p e below m T660 463 LL [(.int ((1 : Int32) - n)), (.long en), (.ref a1)] _
  refine XS.i2l X660.here hx rfl (hb hby k12_463) rfl ?_
  refine XS.ladd X660.here hx rfl (hb hby k12_464) rfl ?_
  refine st661 _ ?_
  refine waloadN X661 hx hby k12_468 LL_0 rfl ?_
  show own_S p e below m T661 469 LL [(.ref a1)] _
  refine st663 _ ?_
  refine wiloadN X663 hx hby k12_472 LL_1 ?_
  refine wiload X663 hx hby k12_473 LL_13 ?_
  refine st666 _ ?_
  show own_S p e below m T666 476 LL [] _
  refine waloadN X666 hx hby k12_476 LL_0 rfl ?_
  refine wiloadN X666 hx hby k12_477 LL_1 ?_
  refine wiloadN X666 hx hby k12_478 LL_2 ?_
  refine wdload X666 hx hby k12_479 LL_9 ?_
  show own_S p e below m T666 481 LL [(.double w0), (.int q), (.int i), (.ref a1)] _
  refine wdload X666 hx hby k12_481 LL_16 ?_
  refine st680.trans ?_
  exact kt
theorem ef_S00 (m : MethodId) (x0 : Addr) (x1 : Int32) (x2 : Int32) : entryFrame m #[(.ref x0), (.int x1), (.int x2)] 19 = mkF m 0 #[.val (.ref x0), .val (.int x1), .val (.int x2), .unset, .unset, .unset, .unset, .unset, .unset, .unset, .unset, .unset, .unset, .unset, .unset, .unset, .unset, .unset, .unset] [] := by first | (simp [entryFrame, mkF, argsToLocals, Value.category]; done) | rfl
theorem pn_S00 : plainName "com/example/odds2/odds2/engine/Elimination" = true := by first | (simp [plainName, overriddenIn]; done) | decide +kernel
def QS00 (Z : State) (a1 oc od mc md sr sp sw ss co cf le re rc : Nat) (k_co k_cf k_le k_mc k_md k_sr k_sp k_sw k_ss : ClassId) (r : Int32) (en wk : Int64) (st ol i q u1 x0 x1 : Int32) (y0 y1 w0 w1 : UInt64) (cb db pb eb : Nat) (kcb kdb : ClassId) (cs fl ls zr zp zw zs : List Value) (h0 : Heap) (n0 : Nat) (v : Option Value) (h : Heap) (L : List Loc) : Prop := v = some (.int 1) ∧ Fr n0 L ∧ Keep h0 h [a1, mc, md, le, sr, sp, sw, ss, cb, db] ∧ own_E Z h a1 oc od mc md sr sp sw ss co cf le re rc r (en + ((0 : Int32) - (1 : Int32)).toInt64) wk ol (st + (1 : Int32)) ∧ Arv Z h mc k_mc .int 16 [(.int x0), (.int x1)] (.int 0) ∧ Arv Z h md k_md .double 16 [(.double y0), (.double y1)] (.double 0) ∧ Arv Z h le k_le .int 3 (ls.set i.toNatClampNeg (.int 0)) (.int 0) ∧ Arv Z h sr k_sr .int 16 (zr.set st.toNatClampNeg (.int i)) (.int 0) ∧ Arv Z h sp k_sp .int 16 (zp.set st.toNatClampNeg (.int q)) (.int 0) ∧ Arv Z h sw k_sw .double 16 (zw.set st.toNatClampNeg (.double w0)) (.double 0) ∧ Arv Z h ss k_ss .double 16 (zs.set st.toNatClampNeg (.double FP.dconst1)) (.double 0) ∧ Arv Z h cb kcb .int 1 [(.int q), (.int u1)] (.int 0) ∧ Arv Z h db kdb .double 1 [(.double w0), (.double w1)] (.double 0)
set_option maxRecDepth 65536 in
set_option maxHeartbeats 40000000 in
theorem rmS00 (l : Launch) (Z : State) (a0 : Array Value) (hw : ∀ d ∈ tables_1, d.before a0 Z = true) (ws : List Jvm.Cond) (a1 oc od mc md sr sp sw ss co cf le re rc : Nat) (k_co k_cf k_le k_mc k_md k_sr k_sp k_sw k_ss : ClassId) (r : Int32) (en wk : Int64) (st ol i q u1 x0 x1 : Int32) (y0 y1 w0 w1 : UInt64) (cb db pb eb : Nat) (kcb kdb : ClassId) (cs fl ls zr zp zw zs : List Value) (h0 : Heap) (n0 : Nat) (Z0 : n0 ≤ h0.size) (O_a : own_E Z h0 a1 oc od mc md sr sp sw ss co cf le re rc r en wk ol st) (V_co : Arv Z h0 co k_co (.array .int) (3 : Int32) cs .null) (V_cf : Arv Z h0 cf k_cf (.array .double) (3 : Int32) fl .null) (V_le : Arv Z h0 le k_le .int 3 ls (.int 0)) (V_mc : Arv Z h0 mc k_mc .int 16 [(.int x0), (.int x1)] (.int 0)) (V_md : Arv Z h0 md k_md .double 16 [(.double y0), (.double y1)] (.double 0)) (V_sr : Arv Z h0 sr k_sr .int 16 zr (.int 0)) (V_sp : Arv Z h0 sp k_sp .int 16 zp (.int 0)) (V_sw : Arv Z h0 sw k_sw .double 16 zw (.double 0)) (V_ss : Arv Z h0 ss k_ss .double 16 zs (.double 0)) (V_cb : Arv Z h0 cb kcb .int 1 [(.int q), (.int u1)] (.int 0)) (V_db : Arv Z h0 db kdb .double 1 [(.double w0), (.double w1)] (.double 0)) (hi3 : own_3 i) (hq3 : own_3 q) (hci : cs.getD i.toNatClampNeg .null = .ref cb) (hcq : cs.getD q.toNatClampNeg .null = .ref pb) (hfi : fl.getD i.toNatClampNeg .null = .ref db) (hfq : fl.getD q.toNatClampNeg .null = .ref eb) (hli : ls.getD i.toNatClampNeg (.int 0) = .int 1) (hlq : ls.getD q.toNatClampNeg (.int 0) = .int 0) (lls : ls.length = 3) (lzr : zr.length = 2) (lzp : zp.length = 2) (lzw : zw.length = 2) (lzs : zs.length = 2) (hst : own_01 st) (o1 : rc < cb) (o2 : cb < db) (ord : own_ord a1 oc od mc md sr sp sw ss co cf le re rc) (g_a : n0 ≤ a1) :
    MetFree l (⟨"com/example/odds2/odds2/engine/Elimination", "substitute", "(II)Z"⟩ : MethodName) (head1 (Jvm.Cond.code (⟨"com/example/odds2/odds2/engine/Elimination", "substitute", "(II)Z"⟩ : MethodName) prog_14_method_7_code 19 (some .boolean) :: ws) ({ frames := 2, cells := 0, slots := 0, locals := 40 } : Room)) (fun a U => a = #[(.ref a1), (.int i), (.int q)] ∧ Z.Warmed39 U.vm ∧ U.heap = h0) (fun _ _ _ _ _ => True) (fun _ U o U' => ∃ v L, o = .returned v ∧ QS00 Z a1 oc od mc md sr sp sw ss co cf le re rc k_co k_cf k_le k_mc k_md k_sr k_sp k_sw k_ss r en wk st ol i q u1 x0 x1 y0 y1 w0 w1 cb db pb eb kcb kdb cs fl ls zr zp zw zs h0 n0 v U'.heap L ∧ FrameEnd U o U' L ({ frames := 2, cells := 0, slots := 0, locals := 40 } : Room).cells ({ frames := 2, cells := 0, slots := 0, locals := 40 } : Room).slots) := by
  refine MetFree.of_bodySF (plainFor_of_name pn_S00) hisR ?_
  intro p e s m args below meth c s₁ Bd hml0 hP hK
  obtain ⟨rfl, hZ, hh⟩ := hP
  have hx := Bd.exec
  have hby := Bd.bytes
  have hml : c.maxLocals = 19 := hml0
  have hown : s.vm.findClass "com/example/odds2/odds2/engine/Elimination" = some m.cls := findClass_of_methodNamed Bd.named
  have hnm := (name_of_methodNamed Bd.named Bd.method).1
  have X0 : Stand p l e ({ frames := 2, cells := 0, slots := 0, locals := 40 } : Room) s m #[(.ref a1), (.int i), (.int q)] below meth c s₁ [] 0 0 := Stand.of_body Bd
  have e0 : s₁.heap = h0 := by rw [← hh, Bd.state]; rfl
  have N0 := Fr.nil n0
  have pre0 : ∀ t, Steps p.tables e below (s₁.setTop (mkF m 0 #[.val (.ref a1), .val (.int i), .val (.int q), .unset, .unset, .unset, .unset, .unset, .unset, .unset, .unset, .unset, .unset, .unset, .unset, .unset, .unset, .unset, .unset] [])) t → Steps p.tables e below (s₁.setTop (entryFrame m #[(.ref a1), (.int i), (.int q)] 19)) t := fun t k => castTop (ef_S00 m a1 i q) k
  have hl := own_laid_of hw
  obtain ⟨or0, or1, or2, or3, or4, or5, or6, or7, or8, or9, or10, or11, or12⟩ := id ord
  obtain ⟨L685, hL685⟩ := own_nm #[.val (.ref a1), .val (.int i), .val (.int q), .unset, .unset, .unset, .unset, .unset, .unset, .unset, .unset, .unset, .unset, .unset, .unset, .unset, .unset, .unset, .unset]
  obtain ⟨T686, h686, LT686, X686, e686, N686, eh686, st686⟩ := sbP Z a0 hw a1 oc od mc md sr sp sw ss co cf le re rc k_co k_cf k_le k_mc r en wk st ol i q (1 : Int32) (0 : Int32) u1 x0 x1 w0 w1 cb db pb eb kcb kdb cs fl ls h0 n0 X0 hx hZ hby hml hown e0 N0 Z0 O_a V_co V_cf V_le V_mc V_cb V_db hi3 hq3 hci hcq hfi hfq hli hlq (by unfold own_12; decide) (by decide)
  obtain ⟨L687, hL687⟩ := own_nm #[.val (.ref a1), .val (.int i), .val (.int q), .val (.ref cb), .val (.ref db), .val (.int 1), .val (.ref pb), .val (.ref eb), .val (.int 0), .val (.double w0), .second, .val (.double FP.dconst0), .second, .val (.int 0), .val (.int 0), .val (.int 0), .unset, .unset, .unset]
  rw [eh686] at e686
  have L687_14 := own_ld hL687 14 rfl
  have L687_5 := own_ld hL687 5 rfl
  have L687_3 := own_ld hL687 3 rfl
  obtain ⟨L688, hL688⟩ := own_nm #[.val (.ref a1), .val (.int i), .val (.int q), .val (.ref cb), .val (.ref db), .val (.int 1), .val (.ref pb), .val (.ref eb), .val (.int 0), .val (.double w0), .second, .val (.double FP.dconst0), .second, .val (.int 0), .val (.int 0), .val (.int 0), .val (.int q), .unset, .unset]
  have L688_15 := own_ld hL688 15 rfl
  have L688_8 := own_ld hL688 8 rfl
  obtain ⟨L689, hL689⟩ := own_nm #[.val (.ref a1), .val (.int i), .val (.int q), .val (.ref cb), .val (.ref db), .val (.int 1), .val (.ref pb), .val (.ref eb), .val (.int 0), .val (.double w0), .second, .val (.double FP.dconst0), .second, .val (.int 0), .val (.int 0), .val (.int 0), .val (.int q), .val (.int 2147483647), .unset]
  have L689_16 := own_ld hL689 16 rfl
  have L689_2 := own_ld hL689 2 rfl
  have L689_14 := own_ld hL689 14 rfl
  obtain ⟨L690, hL690⟩ := own_nm #[.val (.ref a1), .val (.int i), .val (.int q), .val (.ref cb), .val (.ref db), .val (.int 1), .val (.ref pb), .val (.ref eb), .val (.int 0), .val (.double w0), .second, .val (.double FP.dconst0), .second, .val (.int 0), .val (.int 1), .val (.int 0), .val (.int q), .val (.int 2147483647), .unset]
  have L690_14 := own_ld hL690 14 rfl
  have L690_5 := own_ld hL690 5 rfl
  have L690_15 := own_ld hL690 15 rfl
  have L690_8 := own_ld hL690 8 rfl
  have L690_11 := own_ld hL690 11 rfl
  obtain ⟨L691, hL691⟩ := own_nm #[.val (.ref a1), .val (.int i), .val (.int q), .val (.ref cb), .val (.ref db), .val (.int 1), .val (.ref pb), .val (.ref eb), .val (.int 0), .val (.double w0), .second, .val (.double FP.dconst0), .second, .val (.int 0), .val (.int 1), .val (.int 0), .val (.double FP.dconst1), .second, .unset]
  have L691_11 := own_ld hL691 11 rfl
  have L691_0 := own_ld hL691 0 rfl
  have L691_1 := own_ld hL691 1 rfl
  have L691_2 := own_ld hL691 2 rfl
  have L691_3 := own_ld hL691 3 rfl
  have L691_5 := own_ld hL691 5 rfl
  have L691_9 := own_ld hL691 9 rfl
  have L691_13 := own_ld hL691 13 rfl
  have L691_16 := own_ld hL691 16 rfl
  have Z692 : n0 ≤ h0.size := Nat.le_trans Z0 (Keep.refl h0 [a1, mc, md, le, sr, sp, sw, ss, cb, db]).1
  obtain ⟨T693, h693, LT693, X693, e693, N693, K693, Oa693, Fle693, Fsr693, Fsp693, Fsw693, Fss693, Fcb693, Fdb693, st693⟩ := sbT0 Z a0 hw a1 oc od mc md sr sp sw ss co cf le re rc k_co k_cf k_le k_mc k_md k_sr k_sp k_sw k_ss r en wk st ol i q (1 : Int32) q u1 x0 x1 y0 y1 w0 w1 w0 FP.dconst1 cb db kcb kdb cs fl ls zr zp zw zs L691 h0 n0 X686 hx hZ hby hml hown e686 N686 Z692 L691_0 L691_1 L691_2 L691_3 L691_5 L691_9 L691_13 L691_16 (by rw [hml, hL691]; rfl) O_a V_co V_cf V_le V_mc V_md V_sr V_sp V_sw V_ss V_cb V_db hi3 hci hfi (by unfold own_12; decide) lls lzr lzp lzw lzs hst o1 o2 ord g_a
  have f694 := ((Keep.refl h0 [a1, mc, md, le, sr, sp, sw, ss, cb, db]).trans K693 (allS (Or.inl (List.mem_of_getElem? (i := 0) rfl)) (allS (Or.inl (List.mem_of_getElem? (i := 3) rfl)) (allS (Or.inl (List.mem_of_getElem? (i := 4) rfl)) (allS (Or.inl (List.mem_of_getElem? (i := 5) rfl)) (allS (Or.inl (List.mem_of_getElem? (i := 6) rfl)) (allS (Or.inl (List.mem_of_getElem? (i := 7) rfl)) (allS (Or.inl (List.mem_of_getElem? (i := 8) rfl)) (allS (Or.inl (List.mem_of_getElem? (i := 9) rfl)) all0)))))))))
  have f695 := (V_mc.keep K693 (by repeat' first | exact nin0 | refine ninS ?_ ?_ | (show (_ : Nat) ≠ _; omega)))
  have f696 := (V_md.keep K693 (by repeat' first | exact nin0 | refine ninS ?_ ?_ | (show (_ : Nat) ≠ _; omega)))
  obtain ⟨fs, hr, hrun, hended, hW, hsame⟩ := X693.leave (v := some (.int 1)) (fun h => by rw [Bd.returns] at h; cases h)
  refine ⟨_, _, pre0 _ ?_, hrun, hended, _, _, rfl, ?_, ⟨_, rfl⟩, hW, hsame.mono (by decide) (by decide)⟩
  · rw [← hL685]
    rw [hL685]
    refine st686 _ ?_
    rw [← hL687]
    show own_S p e below m T686 111 L687 [] _
    refine wiload X686 hx hby k12_111 L687_14 ?_
    refine wiload X686 hx hby k12_113 L687_5 ?_
    refine wicmpYes X686 hx hby k12_115 115 125 rfl (by decide) (by decide) (by decide) ?_
    refine wiload X686 hx hby k12_125 L687_14 ?_
    show own_S p e below m T686 127 L687 [(.int 0)] _
    refine wiload X686 hx hby k12_127 L687_5 ?_
    refine wicmpNo X686 hx hby k12_129 (by decide) ?_
    refine waloadN X686 hx hby k12_132 L687_3 rfl ?_
    refine wiload X686 hx hby k12_133 L687_14 ?_
    show own_S p e below m T686 135 L687 [(.int 0), (.ref cb)] _
    refine wiaload X686 hx hby hZ e686 V_cb 0 rfl (by decide) (by decide) (v := (.int q)) rfl k12_135 ?_
    refine wgoto X686 hx hby k12_136 136 141 rfl (by decide) (by decide) ?_
    refine wistore X686 hx hby k12_141 hL687 hL688 rfl ?_
    refine wiload X686 hx hby k12_143 L688_15 ?_
    show own_S p e below m T686 145 L688 [(.int 0)] _
    refine wiload X686 hx hby k12_145 L688_8 ?_
    refine wicmpYes X686 hx hby k12_147 147 158 rfl (by decide) (by decide) (by decide) ?_
    refine X686.ldcI hx hown (mvT hZ (hw _ tm106)) (g := (mkF m 158 L688 [])) rfl (hb hby k12_158) ?_
    show own_S p e below m T686 160 L688 [(.int 2147483647)] _
    refine wistore X686 hx hby k12_160 hL688 hL689 rfl ?_
    refine wiload X686 hx hby k12_162 L689_16 ?_
    refine wiloadN X686 hx hby k12_164 L689_2 ?_
    refine wicmpNo X686 hx hby k12_165 (teq rfl).2 ?_
    show own_S p e below m T686 168 L689 [] _
    refine wiinc X686 hx hby k12_168 L689_14 hL689 hL690 rfl ?_
    refine wgoto X686 hx hby k12_171 171 322 rfl (by decide) (by decide) ?_
    refine wgoto X686 hx hby k12_322 322 111 rfl (by decide) (by decide) ?_
    refine wiload X686 hx hby k12_111 L690_14 ?_
    show own_S p e below m T686 113 L690 [(.int 1)] _
    refine wiload X686 hx hby k12_113 L690_5 ?_
    refine wicmpNo X686 hx hby k12_115 (by decide) ?_
    refine wiload X686 hx hby k12_118 L690_15 ?_
    refine wiload X686 hx hby k12_120 L690_8 ?_
    show own_S p e below m T686 122 L690 [(.int 0), (.int 0)] _
    refine wicmpYes X686 hx hby k12_122 122 325 rfl (by decide) (by decide) (by decide) ?_
    refine wdload X686 hx hby k12_325 L690_11 ?_
    refine XS.dconst1 X686.here hx rfl (v := FP.dconst1) (hb hby k12_327) rfl ?_
    refine XS.dcmpS X686.here hx rfl (v := (-1 : Int32)) (hb hby k12_328) rfl (own_v_lt own_z1 .g) ?_
    show own_S p e below m T686 329 L690 [(.int (-1))] _
    refine wifYes X686 hx hby k12_329 329 334 rfl (by decide) (by decide) (by decide) ?_
    refine XS.dconst1 X686.here hx rfl (v := FP.dconst1) (hb hby k12_334) rfl ?_
    refine XS.dstore X686.here hx rfl (hb hby k12_335) rfl (l' := L691) (by rw [hL690, hL691]; rfl) ?_
    refine wdload X686 hx hby k12_337 L691_11 ?_
    show own_S p e below m T686 339 L691 [(.double FP.dconst0)] _
    refine XS.dconst0 X686.here hx rfl (v := FP.dconst0) (hb hby k12_339) rfl ?_
    refine XS.dcmpS X686.here hx rfl (v := (0 : Int32)) (hb hby k12_340) rfl (own_v_eq own_z0 .l) ?_
    refine wifYes X686 hx hby k12_341 341 380 rfl (by decide) (by decide) (by decide) ?_
    refine st693 _ ?_
    show own_S p e below m T693 486 L691 [] _
    refine wiconst X693 hx hby k12_486 ?_
    exact retN X693 hx (t := .boolean) Bd.returns (by simp) (hb hby k12_487) hr
  · show QS00 Z a1 oc od mc md sr sp sw ss co cf le re rc k_co k_cf k_le k_mc k_md k_sr k_sp k_sw k_ss r en wk st ol i q u1 x0 x1 y0 y1 w0 w1 cb db pb eb kcb kdb cs fl ls zr zp zw zs h0 n0 _ T693.heap _
    rw [e693]
    exact ⟨rfl, N693, f694, Oa693, f695, f696, Fle693, Fsr693, Fsp693, Fsw693, Fss693, Fcb693, Fdb693⟩
theorem ef_S10 (m : MethodId) (x0 : Addr) (x1 : Int32) (x2 : Int32) : entryFrame m #[(.ref x0), (.int x1), (.int x2)] 19 = mkF m 0 #[.val (.ref x0), .val (.int x1), .val (.int x2), .unset, .unset, .unset, .unset, .unset, .unset, .unset, .unset, .unset, .unset, .unset, .unset, .unset, .unset, .unset, .unset] [] := by first | (simp [entryFrame, mkF, argsToLocals, Value.category]; done) | rfl
theorem pn_S10 : plainName "com/example/odds2/odds2/engine/Elimination" = true := by first | (simp [plainName, overriddenIn]; done) | decide +kernel
def QS10 (Z : State) (a1 oc od mc md sr sp sw ss co cf le re rc : Nat) (k_co k_cf k_le k_mc k_md k_sr k_sp k_sw k_ss : ClassId) (r : Int32) (en wk : Int64) (st ol i q u1 x0 x1 : Int32) (y0 y1 w0 w1 : UInt64) (cb db pb eb : Nat) (kcb kdb : ClassId) (cs fl ls zr zp zw zs : List Value) (np g1 : Int32) (c0 c1 ow sc : UInt64) (kpb keb : ClassId) (h0 : Heap) (n0 : Nat) (v : Option Value) (h : Heap) (L : List Loc) : Prop := v = some (.int 1) ∧ Fr n0 L ∧ Keep h0 h [a1, mc, md, le, sr, sp, sw, ss, cb, db] ∧ own_E Z h a1 oc od mc md sr sp sw ss co cf le re rc r (en + ((0 : Int32) - (1 : Int32)).toInt64) wk ol (st + (1 : Int32)) ∧ Arv Z h mc k_mc .int 16 [(.int x0), (.int x1)] (.int 0) ∧ Arv Z h md k_md .double 16 [(.double y0), (.double y1)] (.double 0) ∧ Arv Z h le k_le .int 3 (ls.set i.toNatClampNeg (.int 0)) (.int 0) ∧ Arv Z h sr k_sr .int 16 (zr.set st.toNatClampNeg (.int i)) (.int 0) ∧ Arv Z h sp k_sp .int 16 (zp.set st.toNatClampNeg (.int q)) (.int 0) ∧ Arv Z h sw k_sw .double 16 (zw.set st.toNatClampNeg (.double w0)) (.double 0) ∧ Arv Z h ss k_ss .double 16 (zs.set st.toNatClampNeg (.double sc)) (.double 0) ∧ Arv Z h cb kcb .int 1 [(.int q), (.int u1)] (.int 0) ∧ Arv Z h db kdb .double 1 [(.double w0), (.double w1)] (.double 0)
set_option maxRecDepth 65536 in
set_option maxHeartbeats 40000000 in
theorem rmS10 (l : Launch) (Z : State) (a0 : Array Value) (hw : ∀ d ∈ tables_1, d.before a0 Z = true) (ws : List Jvm.Cond) (a1 oc od mc md sr sp sw ss co cf le re rc : Nat) (k_co k_cf k_le k_mc k_md k_sr k_sp k_sw k_ss : ClassId) (r : Int32) (en wk : Int64) (st ol i q u1 x0 x1 : Int32) (y0 y1 w0 w1 : UInt64) (cb db pb eb : Nat) (kcb kdb : ClassId) (cs fl ls zr zp zw zs : List Value) (np g1 : Int32) (c0 c1 ow sc : UInt64) (kpb keb : ClassId) (h0 : Heap) (n0 : Nat) (Z0 : n0 ≤ h0.size) (O_a : own_E Z h0 a1 oc od mc md sr sp sw ss co cf le re rc r en wk ol st) (V_co : Arv Z h0 co k_co (.array .int) (3 : Int32) cs .null) (V_cf : Arv Z h0 cf k_cf (.array .double) (3 : Int32) fl .null) (V_le : Arv Z h0 le k_le .int 3 ls (.int 0)) (V_mc : Arv Z h0 mc k_mc .int 16 [(.int x0), (.int x1)] (.int 0)) (V_md : Arv Z h0 md k_md .double 16 [(.double y0), (.double y1)] (.double 0)) (V_sr : Arv Z h0 sr k_sr .int 16 zr (.int 0)) (V_sp : Arv Z h0 sp k_sp .int 16 zp (.int 0)) (V_sw : Arv Z h0 sw k_sw .double 16 zw (.double 0)) (V_ss : Arv Z h0 ss k_ss .double 16 zs (.double 0)) (V_cb : Arv Z h0 cb kcb .int 1 [(.int q), (.int u1)] (.int 0)) (V_db : Arv Z h0 db kdb .double 1 [(.double w0), (.double w1)] (.double 0)) (hi3 : own_3 i) (hq3 : own_3 q) (hci : cs.getD i.toNatClampNeg .null = .ref cb) (hcq : cs.getD q.toNatClampNeg .null = .ref pb) (hfi : fl.getD i.toNatClampNeg .null = .ref db) (hfq : fl.getD q.toNatClampNeg .null = .ref eb) (hli : ls.getD i.toNatClampNeg (.int 0) = .int 1) (hlq : ls.getD q.toNatClampNeg (.int 0) = .int 1) (lls : ls.length = 3) (lzr : zr.length = 2) (lzp : zp.length = 2) (lzw : zw.length = 2) (lzs : zs.length = 2) (hst : own_01 st) (o1 : rc < cb) (o2 : cb < db) (V_pb : Arv Z h0 pb kpb .int np [(.int i), (.int g1)] (.int 0)) (V_eb : Arv Z h0 eb keb .double np [(.double c0), (.double c1)] (.double 0)) (hnp : own_12 np) (o3 : rc < pb) (o4 : rc < eb) (fac : own_fac w0 c0 ow sc) (ord : own_ord a1 oc od mc md sr sp sw ss co cf le re rc) (g_a : n0 ≤ a1) :
    MetFree l (⟨"com/example/odds2/odds2/engine/Elimination", "substitute", "(II)Z"⟩ : MethodName) (head1 (Jvm.Cond.code (⟨"com/example/odds2/odds2/engine/Elimination", "substitute", "(II)Z"⟩ : MethodName) prog_14_method_7_code 19 (some .boolean) :: ws) ({ frames := 2, cells := 0, slots := 0, locals := 40 } : Room)) (fun a U => a = #[(.ref a1), (.int i), (.int q)] ∧ Z.Warmed39 U.vm ∧ U.heap = h0) (fun _ _ _ _ _ => True) (fun _ U o U' => ∃ v L, o = .returned v ∧ QS10 Z a1 oc od mc md sr sp sw ss co cf le re rc k_co k_cf k_le k_mc k_md k_sr k_sp k_sw k_ss r en wk st ol i q u1 x0 x1 y0 y1 w0 w1 cb db pb eb kcb kdb cs fl ls zr zp zw zs np g1 c0 c1 ow sc kpb keb h0 n0 v U'.heap L ∧ FrameEnd U o U' L ({ frames := 2, cells := 0, slots := 0, locals := 40 } : Room).cells ({ frames := 2, cells := 0, slots := 0, locals := 40 } : Room).slots) := by
  refine MetFree.of_bodySF (plainFor_of_name pn_S10) hisR ?_
  intro p e s m args below meth c s₁ Bd hml0 hP hK
  obtain ⟨rfl, hZ, hh⟩ := hP
  have hx := Bd.exec
  have hby := Bd.bytes
  have hml : c.maxLocals = 19 := hml0
  have hown : s.vm.findClass "com/example/odds2/odds2/engine/Elimination" = some m.cls := findClass_of_methodNamed Bd.named
  have hnm := (name_of_methodNamed Bd.named Bd.method).1
  have X0 : Stand p l e ({ frames := 2, cells := 0, slots := 0, locals := 40 } : Room) s m #[(.ref a1), (.int i), (.int q)] below meth c s₁ [] 0 0 := Stand.of_body Bd
  have e0 : s₁.heap = h0 := by rw [← hh, Bd.state]; rfl
  have N0 := Fr.nil n0
  have pre0 : ∀ t, Steps p.tables e below (s₁.setTop (mkF m 0 #[.val (.ref a1), .val (.int i), .val (.int q), .unset, .unset, .unset, .unset, .unset, .unset, .unset, .unset, .unset, .unset, .unset, .unset, .unset, .unset, .unset, .unset] [])) t → Steps p.tables e below (s₁.setTop (entryFrame m #[(.ref a1), (.int i), (.int q)] 19)) t := fun t k => castTop (ef_S10 m a1 i q) k
  have hl := own_laid_of hw
  obtain ⟨or0, or1, or2, or3, or4, or5, or6, or7, or8, or9, or10, or11, or12⟩ := id ord
  obtain ⟨L697, hL697⟩ := own_nm #[.val (.ref a1), .val (.int i), .val (.int q), .unset, .unset, .unset, .unset, .unset, .unset, .unset, .unset, .unset, .unset, .unset, .unset, .unset, .unset, .unset, .unset]
  obtain ⟨T698, h698, LT698, X698, e698, N698, eh698, st698⟩ := sbP Z a0 hw a1 oc od mc md sr sp sw ss co cf le re rc k_co k_cf k_le k_mc r en wk st ol i q (1 : Int32) (1 : Int32) u1 x0 x1 w0 w1 cb db pb eb kcb kdb cs fl ls h0 n0 X0 hx hZ hby hml hown e0 N0 Z0 O_a V_co V_cf V_le V_mc V_cb V_db hi3 hq3 hci hcq hfi hfq hli hlq (by unfold own_12; decide) (by decide)
  obtain ⟨L699, hL699⟩ := own_nm #[.val (.ref a1), .val (.int i), .val (.int q), .val (.ref cb), .val (.ref db), .val (.int 1), .val (.ref pb), .val (.ref eb), .val (.int 1), .val (.double w0), .second, .val (.double FP.dconst0), .second, .val (.int 0), .val (.int 0), .val (.int 0), .unset, .unset, .unset]
  rw [eh698] at e698
  have L699_14 := own_ld hL699 14 rfl
  have L699_5 := own_ld hL699 5 rfl
  have L699_3 := own_ld hL699 3 rfl
  obtain ⟨L700, hL700⟩ := own_nm #[.val (.ref a1), .val (.int i), .val (.int q), .val (.ref cb), .val (.ref db), .val (.int 1), .val (.ref pb), .val (.ref eb), .val (.int 1), .val (.double w0), .second, .val (.double FP.dconst0), .second, .val (.int 0), .val (.int 0), .val (.int 0), .val (.int q), .unset, .unset]
  have L700_15 := own_ld hL700 15 rfl
  have L700_8 := own_ld hL700 8 rfl
  have L700_6 := own_ld hL700 6 rfl
  obtain ⟨L701, hL701⟩ := own_nm #[.val (.ref a1), .val (.int i), .val (.int q), .val (.ref cb), .val (.ref db), .val (.int 1), .val (.ref pb), .val (.ref eb), .val (.int 1), .val (.double w0), .second, .val (.double FP.dconst0), .second, .val (.int 0), .val (.int 0), .val (.int 0), .val (.int q), .val (.int i), .unset]
  have L701_16 := own_ld hL701 16 rfl
  have L701_2 := own_ld hL701 2 rfl
  have L701_14 := own_ld hL701 14 rfl
  obtain ⟨L702, hL702⟩ := own_nm #[.val (.ref a1), .val (.int i), .val (.int q), .val (.ref cb), .val (.ref db), .val (.int 1), .val (.ref pb), .val (.ref eb), .val (.int 1), .val (.double w0), .second, .val (.double FP.dconst0), .second, .val (.int 0), .val (.int 1), .val (.int 0), .val (.int q), .val (.int i), .unset]
  have L702_14 := own_ld hL702 14 rfl
  have L702_5 := own_ld hL702 5 rfl
  have L702_15 := own_ld hL702 15 rfl
  have L702_8 := own_ld hL702 8 rfl
  obtain ⟨L703, hL703⟩ := own_nm #[.val (.ref a1), .val (.int i), .val (.int q), .val (.ref cb), .val (.ref db), .val (.int 1), .val (.ref pb), .val (.ref eb), .val (.int 1), .val (.double w0), .second, .val (.double FP.dconst0), .second, .val (.int 0), .val (.int 1), .val (.int 0), .val (.int 2147483647), .val (.int i), .unset]
  have L703_15 := own_ld hL703 15 rfl
  have L703_8 := own_ld hL703 8 rfl
  have L703_6 := own_ld hL703 6 rfl
  obtain ⟨L704, hL704⟩ := own_nm #[.val (.ref a1), .val (.int i), .val (.int q), .val (.ref cb), .val (.ref db), .val (.int 1), .val (.ref pb), .val (.ref eb), .val (.int 1), .val (.double w0), .second, .val (.double FP.dconst0), .second, .val (.int 0), .val (.int 1), .val (.int 0), .val (.int 2147483647), .val (.int i), .unset]
  have L704_16 := own_ld hL704 16 rfl
  have L704_2 := own_ld hL704 2 rfl
  have L704_17 := own_ld hL704 17 rfl
  have L704_1 := own_ld hL704 1 rfl
  have L704_11 := own_ld hL704 11 rfl
  have L704_9 := own_ld hL704 9 rfl
  have L704_7 := own_ld hL704 7 rfl
  have L704_15 := own_ld hL704 15 rfl
  obtain ⟨L705, hL705⟩ := own_nm #[.val (.ref a1), .val (.int i), .val (.int q), .val (.ref cb), .val (.ref db), .val (.int 1), .val (.ref pb), .val (.ref eb), .val (.int 1), .val (.double w0), .second, .val (.double FP.dconst0), .second, .val (.int 0), .val (.int 1), .val (.int 1), .val (.int 2147483647), .val (.int i), .unset]
  obtain ⟨L706, hL706⟩ := own_nm #[.val (.ref a1), .val (.int i), .val (.int q), .val (.ref cb), .val (.ref db), .val (.int 1), .val (.ref pb), .val (.ref eb), .val (.int 1), .val (.double w0), .second, .val (.double ow), .second, .val (.int 0), .val (.int 1), .val (.int 1), .val (.int 2147483647), .val (.int i), .unset]
  have L706_14 := own_ld hL706 14 rfl
  have L706_5 := own_ld hL706 5 rfl
  have L706_15 := own_ld hL706 15 rfl
  have L706_8 := own_ld hL706 8 rfl
  have L706_11 := own_ld hL706 11 rfl
  obtain ⟨L707, hL707⟩ := own_nm #[.val (.ref a1), .val (.int i), .val (.int q), .val (.ref cb), .val (.ref db), .val (.int 1), .val (.ref pb), .val (.ref eb), .val (.int 1), .val (.double w0), .second, .val (.double ow), .second, .val (.int 0), .val (.int 1), .val (.int 1), .val (.double FP.dconst1), .second, .unset]
  have L707_11 := own_ld hL707 11 rfl
  obtain ⟨L708, hL708⟩ := own_nm #[.val (.ref a1), .val (.int i), .val (.int q), .val (.ref cb), .val (.ref db), .val (.int 1), .val (.ref pb), .val (.ref eb), .val (.int 1), .val (.double w0), .second, .val (.double ow), .second, .val (.int 0), .val (.int 1), .val (.int 1), .val (.double sc), .second, .unset]
  obtain ⟨L709, hL709⟩ := own_nm #[.val (.ref a1), .val (.int i), .val (.int q), .val (.ref cb), .val (.ref db), .val (.int 1), .val (.ref pb), .val (.ref eb), .val (.int 1), .val (.double w0), .second, .val (.double ow), .second, .val (.int 0), .val (.int 1), .val (.int 1), .val (.double sc), .second, .val (.int 0)]
  have L709_18 := own_ld hL709 18 rfl
  have L709_13 := own_ld hL709 13 rfl
  have L709_0 := own_ld hL709 0 rfl
  have L709_1 := own_ld hL709 1 rfl
  have L709_2 := own_ld hL709 2 rfl
  have L709_3 := own_ld hL709 3 rfl
  have L709_5 := own_ld hL709 5 rfl
  have L709_9 := own_ld hL709 9 rfl
  have L709_16 := own_ld hL709 16 rfl
  have Z710 : n0 ≤ h0.size := Nat.le_trans Z0 (Keep.refl h0 [a1, mc, md, le, sr, sp, sw, ss, cb, db]).1
  obtain ⟨T711, h711, LT711, X711, e711, N711, K711, Oa711, Fle711, Fsr711, Fsp711, Fsw711, Fss711, Fcb711, Fdb711, st711⟩ := sbT0 Z a0 hw a1 oc od mc md sr sp sw ss co cf le re rc k_co k_cf k_le k_mc k_md k_sr k_sp k_sw k_ss r en wk st ol i q (1 : Int32) q u1 x0 x1 y0 y1 w0 w1 w0 sc cb db kcb kdb cs fl ls zr zp zw zs L709 h0 n0 X698 hx hZ hby hml hown e698 N698 Z710 L709_0 L709_1 L709_2 L709_3 L709_5 L709_9 L709_13 L709_16 (by rw [hml, hL709]; rfl) O_a V_co V_cf V_le V_mc V_md V_sr V_sp V_sw V_ss V_cb V_db hi3 hci hfi (by unfold own_12; decide) lls lzr lzp lzw lzs hst o1 o2 ord g_a
  have f712 := ((Keep.refl h0 [a1, mc, md, le, sr, sp, sw, ss, cb, db]).trans K711 (allS (Or.inl (List.mem_of_getElem? (i := 0) rfl)) (allS (Or.inl (List.mem_of_getElem? (i := 3) rfl)) (allS (Or.inl (List.mem_of_getElem? (i := 4) rfl)) (allS (Or.inl (List.mem_of_getElem? (i := 5) rfl)) (allS (Or.inl (List.mem_of_getElem? (i := 6) rfl)) (allS (Or.inl (List.mem_of_getElem? (i := 7) rfl)) (allS (Or.inl (List.mem_of_getElem? (i := 8) rfl)) (allS (Or.inl (List.mem_of_getElem? (i := 9) rfl)) all0)))))))))
  have f713 := (V_mc.keep K711 (by repeat' first | exact nin0 | refine ninS ?_ ?_ | (show (_ : Nat) ≠ _; omega)))
  have f714 := (V_md.keep K711 (by repeat' first | exact nin0 | refine ninS ?_ ?_ | (show (_ : Nat) ≠ _; omega)))
  obtain ⟨fs, hr, hrun, hended, hW, hsame⟩ := X711.leave (v := some (.int 1)) (fun h => by rw [Bd.returns] at h; cases h)
  refine ⟨_, _, pre0 _ ?_, hrun, hended, _, _, rfl, ?_, ⟨_, rfl⟩, hW, hsame.mono (by decide) (by decide)⟩
  · rw [← hL697]
    rw [hL697]
    refine st698 _ ?_
    rw [← hL699]
    show own_S p e below m T698 111 L699 [] _
    refine wiload X698 hx hby k12_111 L699_14 ?_
    refine wiload X698 hx hby k12_113 L699_5 ?_
    refine wicmpYes X698 hx hby k12_115 115 125 rfl (by decide) (by decide) (by decide) ?_
    refine wiload X698 hx hby k12_125 L699_14 ?_
    show own_S p e below m T698 127 L699 [(.int 0)] _
    refine wiload X698 hx hby k12_127 L699_5 ?_
    refine wicmpNo X698 hx hby k12_129 (by decide) ?_
    refine waloadN X698 hx hby k12_132 L699_3 rfl ?_
    refine wiload X698 hx hby k12_133 L699_14 ?_
    show own_S p e below m T698 135 L699 [(.int 0), (.ref cb)] _
    refine wiaload X698 hx hby hZ e698 V_cb 0 rfl (by decide) (by decide) (v := (.int q)) rfl k12_135 ?_
    refine wgoto X698 hx hby k12_136 136 141 rfl (by decide) (by decide) ?_
    refine wistore X698 hx hby k12_141 hL699 hL700 rfl ?_
    refine wiload X698 hx hby k12_143 L700_15 ?_
    show own_S p e below m T698 145 L700 [(.int 0)] _
    refine wiload X698 hx hby k12_145 L700_8 ?_
    refine wicmpNo X698 hx hby k12_147 (by decide) ?_
    refine waload X698 hx hby k12_150 L700_6 rfl ?_
    refine wiload X698 hx hby k12_152 L700_15 ?_
    show own_S p e below m T698 154 L700 [(.int 0), (.ref pb)] _
    refine wiaload X698 hx hby hZ e698 V_pb 0 rfl (by decide) (by rcases hnp with rfl | rfl <;> decide) (v := (.int i)) rfl k12_154 ?_
    refine wgoto X698 hx hby k12_155 155 160 rfl (by decide) (by decide) ?_
    refine wistore X698 hx hby k12_160 hL700 hL701 rfl ?_
    refine wiload X698 hx hby k12_162 L701_16 ?_
    show own_S p e below m T698 164 L701 [(.int q)] _
    refine wiloadN X698 hx hby k12_164 L701_2 ?_
    refine wicmpNo X698 hx hby k12_165 (teq rfl).2 ?_
    refine wiinc X698 hx hby k12_168 L701_14 hL701 hL702 rfl ?_
    refine wgoto X698 hx hby k12_171 171 322 rfl (by decide) (by decide) ?_
    show own_S p e below m T698 322 L702 [] _
    refine wgoto X698 hx hby k12_322 322 111 rfl (by decide) (by decide) ?_
    refine wiload X698 hx hby k12_111 L702_14 ?_
    refine wiload X698 hx hby k12_113 L702_5 ?_
    refine wicmpNo X698 hx hby k12_115 (by decide) ?_
    show own_S p e below m T698 118 L702 [] _
    refine wiload X698 hx hby k12_118 L702_15 ?_
    refine wiload X698 hx hby k12_120 L702_8 ?_
    refine wicmpNo X698 hx hby k12_122 (by decide) ?_
    refine wiload X698 hx hby k12_125 L702_14 ?_
    show own_S p e below m T698 127 L702 [(.int 1)] _
    refine wiload X698 hx hby k12_127 L702_5 ?_
    refine wicmpYes X698 hx hby k12_129 129 139 rfl (by decide) (by decide) (by decide) ?_
    refine X698.ldcI hx hown (mvT hZ (hw _ tm106)) (g := (mkF m 139 L702 [])) rfl (hb hby k12_139) ?_
    show own_S p e below m T698 141 L702 [(.int 2147483647)] _
    refine wistore X698 hx hby k12_141 hL702 hL703 rfl ?_
    refine wiload X698 hx hby k12_143 L703_15 ?_
    refine wiload X698 hx hby k12_145 L703_8 ?_
    refine wicmpNo X698 hx hby k12_147 (by decide) ?_
    show own_S p e below m T698 150 L703 [] _
    refine waload X698 hx hby k12_150 L703_6 rfl ?_
    refine wiload X698 hx hby k12_152 L703_15 ?_
    refine wiaload X698 hx hby hZ e698 V_pb 0 rfl (by decide) (by rcases hnp with rfl | rfl <;> decide) (v := (.int i)) rfl k12_154 ?_
    refine wgoto X698 hx hby k12_155 155 160 rfl (by decide) (by decide) ?_
    show own_S p e below m T698 160 L703 [(.int i)] _
    refine wistore X698 hx hby k12_160 hL703 hL704 rfl ?_
    refine wiload X698 hx hby k12_162 L704_16 ?_
    refine wiloadN X698 hx hby k12_164 L704_2 ?_
    refine wicmpYes X698 hx hby k12_165 165 174 rfl (feq (own_3m hq3)).2 (by decide) (by decide) ?_
    show own_S p e below m T698 174 L704 [] _
    refine wiload X698 hx hby k12_174 L704_17 ?_
    refine wiloadN X698 hx hby k12_176 L704_1 ?_
    refine wicmpNo X698 hx hby k12_177 (teq rfl).2 ?_
    refine wdload X698 hx hby k12_180 L704_11 ?_
    show own_S p e below m T698 182 L704 [(.double FP.dconst0)] _
    refine wdload X698 hx hby k12_182 L704_9 ?_
    refine waload X698 hx hby k12_184 L704_7 rfl ?_
    refine wiload X698 hx hby k12_186 L704_15 ?_
    refine wiinc X698 hx hby k12_188 L704_15 hL704 hL705 rfl ?_
    show own_S p e below m T698 191 L705 [(.int 0), (.ref eb), (.double w0), (.double FP.dconst0)] _
    refine wdaload X698 hx hby hZ e698 V_eb 0 rfl (by decide) (by rcases hnp with rfl | rfl <;> decide) (v := (.double c0)) rfl k12_191 ?_
    refine XS.dmulS X698.here hx rfl (v := (FP.dmul w0 c0)) (hb hby k12_192) rfl fac.1 rfl ?_
    refine XS.daddS X698.here hx rfl (v := ow) (hb hby k12_193) rfl fac.2.1 fac.2.2.1 ?_
    refine XS.dstore X698.here hx rfl (hb hby k12_194) rfl (l' := L706) (by rw [hL705, hL706]; rfl) ?_
    show own_S p e below m T698 196 L706 [] _
    refine wgoto X698 hx hby k12_196 196 322 rfl (by decide) (by decide) ?_
    refine wgoto X698 hx hby k12_322 322 111 rfl (by decide) (by decide) ?_
    refine wiload X698 hx hby k12_111 L706_14 ?_
    refine wiload X698 hx hby k12_113 L706_5 ?_
    show own_S p e below m T698 115 L706 [(.int 1), (.int 1)] _
    refine wicmpNo X698 hx hby k12_115 (by decide) ?_
    refine wiload X698 hx hby k12_118 L706_15 ?_
    refine wiload X698 hx hby k12_120 L706_8 ?_
    refine wicmpYes X698 hx hby k12_122 122 325 rfl (by decide) (by decide) (by decide) ?_
    show own_S p e below m T698 325 L706 [] _
    refine wdload X698 hx hby k12_325 L706_11 ?_
    refine XS.dconst1 X698.here hx rfl (v := FP.dconst1) (hb hby k12_327) rfl ?_
    refine XS.dcmpS X698.here hx rfl (v := (-1 : Int32)) (hb hby k12_328) rfl (own_v_lt fac.2.2.2.2.2.2.1 .g) ?_
    refine wifYes X698 hx hby k12_329 329 334 rfl (by decide) (by decide) (by decide) ?_
    show own_S p e below m T698 334 L706 [] _
    refine XS.dconst1 X698.here hx rfl (v := FP.dconst1) (hb hby k12_334) rfl ?_
    refine XS.dstore X698.here hx rfl (hb hby k12_335) rfl (l' := L707) (by rw [hL706, hL707]; rfl) ?_
    refine wdload X698 hx hby k12_337 L707_11 ?_
    refine XS.dconst0 X698.here hx rfl (v := FP.dconst0) (hb hby k12_339) rfl ?_
    show own_S p e below m T698 340 L707 [(.double FP.dconst0), (.double ow)] _
    refine XS.dcmpS X698.here hx rfl (v := (1 : Int32)) (hb hby k12_340) rfl (own_v_gt fac.2.2.2.2.2.2.2 .l) ?_
    refine wifNo X698 hx hby k12_341 (by decide) ?_
    refine XS.dconst1 X698.here hx rfl (v := FP.dconst1) (hb hby k12_344) rfl ?_
    refine XS.dconst1 X698.here hx rfl (v := FP.dconst1) (hb hby k12_345) rfl ?_
    show own_S p e below m T698 346 L707 [(.double FP.dconst1), (.double FP.dconst1)] _
    refine wdload X698 hx hby k12_346 L707_11 ?_
    refine XS.dsubS X698.here hx rfl (v := (FP.dsub FP.dconst1 ow)) (hb hby k12_348) rfl fac.2.2.2.1 rfl ?_
    refine XS.ddivS X698.here hx rfl (v := sc) (hb hby k12_349) rfl fac.2.2.2.2.1 fac.2.2.2.2.2.1 ?_
    refine XS.dstore X698.here hx rfl (hb hby k12_350) rfl (l' := L708) (by rw [hL707, hL708]; rfl) ?_
    show own_S p e below m T698 352 L708 [] _
    refine wiconst X698 hx hby k12_352 ?_
    refine wistore X698 hx hby k12_353 hL708 hL709 rfl ?_
    refine wiload X698 hx hby k12_355 L709_18 ?_
    refine wiload X698 hx hby k12_357 L709_13 ?_
    show own_S p e below m T698 359 L709 [(.int 0), (.int 0)] _
    refine wicmpYes X698 hx hby k12_359 359 380 rfl (by decide) (by decide) (by decide) ?_
    refine st711 _ ?_
    refine wiconst X711 hx hby k12_486 ?_
    exact retN X711 hx (t := .boolean) Bd.returns (by simp) (hb hby k12_487) hr
  · show QS10 Z a1 oc od mc md sr sp sw ss co cf le re rc k_co k_cf k_le k_mc k_md k_sr k_sp k_sw k_ss r en wk st ol i q u1 x0 x1 y0 y1 w0 w1 cb db pb eb kcb kdb cs fl ls zr zp zw zs np g1 c0 c1 ow sc kpb keb h0 n0 _ T711.heap _
    rw [e711]
    exact ⟨rfl, N711, f712, Oa711, f713, f714, Fle711, Fsr711, Fsp711, Fsw711, Fss711, Fcb711, Fdb711⟩
theorem ef_S01 (m : MethodId) (x0 : Addr) (x1 : Int32) (x2 : Int32) : entryFrame m #[(.ref x0), (.int x1), (.int x2)] 19 = mkF m 0 #[.val (.ref x0), .val (.int x1), .val (.int x2), .unset, .unset, .unset, .unset, .unset, .unset, .unset, .unset, .unset, .unset, .unset, .unset, .unset, .unset, .unset, .unset] [] := by first | (simp [entryFrame, mkF, argsToLocals, Value.category]; done) | rfl
theorem pn_S01 : plainName "com/example/odds2/odds2/engine/Elimination" = true := by first | (simp [plainName, overriddenIn]; done) | decide +kernel
def QS01 (Z : State) (a1 oc od mc md sr sp sw ss co cf le re rc : Nat) (k_co k_cf k_le k_mc k_md k_sr k_sp k_sw k_ss : ClassId) (r : Int32) (en wk : Int64) (st ol i q u1 x0 x1 : Int32) (y0 y1 w0 w1 : UInt64) (cb db pb eb : Nat) (kcb kdb : ClassId) (cs fl ls zr zp zw zs : List Value) (h0 : Heap) (n0 : Nat) (v : Option Value) (h : Heap) (L : List Loc) : Prop := v = some (.int 1) ∧ Fr n0 L ∧ Keep h0 h [a1, mc, md, le, sr, sp, sw, ss, cb, db] ∧ own_E Z h a1 oc od mc md sr sp sw ss co cf le re rc r (en + ((1 : Int32) - (2 : Int32)).toInt64) wk ol (st + (1 : Int32)) ∧ Arv Z h mc k_mc .int 16 [(.int u1), (.int x1)] (.int 0) ∧ Arv Z h md k_md .double 16 [(.double w1), (.double y1)] (.double 0) ∧ Arv Z h le k_le .int 3 (ls.set i.toNatClampNeg (.int 1)) (.int 0) ∧ Arv Z h sr k_sr .int 16 (zr.set st.toNatClampNeg (.int i)) (.int 0) ∧ Arv Z h sp k_sp .int 16 (zp.set st.toNatClampNeg (.int q)) (.int 0) ∧ Arv Z h sw k_sw .double 16 (zw.set st.toNatClampNeg (.double w0)) (.double 0) ∧ Arv Z h ss k_ss .double 16 (zs.set st.toNatClampNeg (.double FP.dconst1)) (.double 0) ∧ Arv Z h cb kcb .int 2 [(.int u1), (.int u1)] (.int 0) ∧ Arv Z h db kdb .double 2 [(.double w1), (.double w1)] (.double 0)
set_option maxRecDepth 65536 in
set_option maxHeartbeats 40000000 in
theorem rmS01 (l : Launch) (Z : State) (a0 : Array Value) (hw : ∀ d ∈ tables_1, d.before a0 Z = true) (ws : List Jvm.Cond) (a1 oc od mc md sr sp sw ss co cf le re rc : Nat) (k_co k_cf k_le k_mc k_md k_sr k_sp k_sw k_ss : ClassId) (r : Int32) (en wk : Int64) (st ol i q u1 x0 x1 : Int32) (y0 y1 w0 w1 : UInt64) (cb db pb eb : Nat) (kcb kdb : ClassId) (cs fl ls zr zp zw zs : List Value) (h0 : Heap) (n0 : Nat) (Z0 : n0 ≤ h0.size) (O_a : own_E Z h0 a1 oc od mc md sr sp sw ss co cf le re rc r en wk ol st) (V_co : Arv Z h0 co k_co (.array .int) (3 : Int32) cs .null) (V_cf : Arv Z h0 cf k_cf (.array .double) (3 : Int32) fl .null) (V_le : Arv Z h0 le k_le .int 3 ls (.int 0)) (V_mc : Arv Z h0 mc k_mc .int 16 [(.int x0), (.int x1)] (.int 0)) (V_md : Arv Z h0 md k_md .double 16 [(.double y0), (.double y1)] (.double 0)) (V_sr : Arv Z h0 sr k_sr .int 16 zr (.int 0)) (V_sp : Arv Z h0 sp k_sp .int 16 zp (.int 0)) (V_sw : Arv Z h0 sw k_sw .double 16 zw (.double 0)) (V_ss : Arv Z h0 ss k_ss .double 16 zs (.double 0)) (V_cb : Arv Z h0 cb kcb .int 2 [(.int q), (.int u1)] (.int 0)) (V_db : Arv Z h0 db kdb .double 2 [(.double w0), (.double w1)] (.double 0)) (hi3 : own_3 i) (hq3 : own_3 q) (hci : cs.getD i.toNatClampNeg .null = .ref cb) (hcq : cs.getD q.toNatClampNeg .null = .ref pb) (hfi : fl.getD i.toNatClampNeg .null = .ref db) (hfq : fl.getD q.toNatClampNeg .null = .ref eb) (hli : ls.getD i.toNatClampNeg (.int 0) = .int 2) (hlq : ls.getD q.toNatClampNeg (.int 0) = .int 0) (lls : ls.length = 3) (lzr : zr.length = 2) (lzp : zp.length = 2) (lzw : zw.length = 2) (lzs : zs.length = 2) (hst : own_01 st) (o1 : rc < cb) (o2 : cb < db) (hu3 : own_3 u1) (hu : ¬ (u1 = q)) (ord : own_ord a1 oc od mc md sr sp sw ss co cf le re rc) (g_a : n0 ≤ a1) :
    MetFree l (⟨"com/example/odds2/odds2/engine/Elimination", "substitute", "(II)Z"⟩ : MethodName) (head1 (Jvm.Cond.code (⟨"com/example/odds2/odds2/engine/Elimination", "substitute", "(II)Z"⟩ : MethodName) prog_14_method_7_code 19 (some .boolean) :: ws) ({ frames := 2, cells := 0, slots := 0, locals := 40 } : Room)) (fun a U => a = #[(.ref a1), (.int i), (.int q)] ∧ Z.Warmed39 U.vm ∧ U.heap = h0) (fun _ _ _ _ _ => True) (fun _ U o U' => ∃ v L, o = .returned v ∧ QS01 Z a1 oc od mc md sr sp sw ss co cf le re rc k_co k_cf k_le k_mc k_md k_sr k_sp k_sw k_ss r en wk st ol i q u1 x0 x1 y0 y1 w0 w1 cb db pb eb kcb kdb cs fl ls zr zp zw zs h0 n0 v U'.heap L ∧ FrameEnd U o U' L ({ frames := 2, cells := 0, slots := 0, locals := 40 } : Room).cells ({ frames := 2, cells := 0, slots := 0, locals := 40 } : Room).slots) := by
  refine MetFree.of_bodySF (plainFor_of_name pn_S01) hisR ?_
  intro p e s m args below meth c s₁ Bd hml0 hP hK
  obtain ⟨rfl, hZ, hh⟩ := hP
  have hx := Bd.exec
  have hby := Bd.bytes
  have hml : c.maxLocals = 19 := hml0
  have hown : s.vm.findClass "com/example/odds2/odds2/engine/Elimination" = some m.cls := findClass_of_methodNamed Bd.named
  have hnm := (name_of_methodNamed Bd.named Bd.method).1
  have X0 : Stand p l e ({ frames := 2, cells := 0, slots := 0, locals := 40 } : Room) s m #[(.ref a1), (.int i), (.int q)] below meth c s₁ [] 0 0 := Stand.of_body Bd
  have e0 : s₁.heap = h0 := by rw [← hh, Bd.state]; rfl
  have N0 := Fr.nil n0
  have pre0 : ∀ t, Steps p.tables e below (s₁.setTop (mkF m 0 #[.val (.ref a1), .val (.int i), .val (.int q), .unset, .unset, .unset, .unset, .unset, .unset, .unset, .unset, .unset, .unset, .unset, .unset, .unset, .unset, .unset, .unset] [])) t → Steps p.tables e below (s₁.setTop (entryFrame m #[(.ref a1), (.int i), (.int q)] 19)) t := fun t k => castTop (ef_S01 m a1 i q) k
  have hl := own_laid_of hw
  obtain ⟨or0, or1, or2, or3, or4, or5, or6, or7, or8, or9, or10, or11, or12⟩ := id ord
  obtain ⟨L715, hL715⟩ := own_nm #[.val (.ref a1), .val (.int i), .val (.int q), .unset, .unset, .unset, .unset, .unset, .unset, .unset, .unset, .unset, .unset, .unset, .unset, .unset, .unset, .unset, .unset]
  obtain ⟨T716, h716, LT716, X716, e716, N716, eh716, st716⟩ := sbP Z a0 hw a1 oc od mc md sr sp sw ss co cf le re rc k_co k_cf k_le k_mc r en wk st ol i q (2 : Int32) (0 : Int32) u1 x0 x1 w0 w1 cb db pb eb kcb kdb cs fl ls h0 n0 X0 hx hZ hby hml hown e0 N0 Z0 O_a V_co V_cf V_le V_mc V_cb V_db hi3 hq3 hci hcq hfi hfq hli hlq (by unfold own_12; decide) (by decide)
  obtain ⟨L717, hL717⟩ := own_nm #[.val (.ref a1), .val (.int i), .val (.int q), .val (.ref cb), .val (.ref db), .val (.int 2), .val (.ref pb), .val (.ref eb), .val (.int 0), .val (.double w0), .second, .val (.double FP.dconst0), .second, .val (.int 0), .val (.int 0), .val (.int 0), .unset, .unset, .unset]
  rw [eh716] at e716
  have L717_14 := own_ld hL717 14 rfl
  have L717_5 := own_ld hL717 5 rfl
  have L717_3 := own_ld hL717 3 rfl
  obtain ⟨L718, hL718⟩ := own_nm #[.val (.ref a1), .val (.int i), .val (.int q), .val (.ref cb), .val (.ref db), .val (.int 2), .val (.ref pb), .val (.ref eb), .val (.int 0), .val (.double w0), .second, .val (.double FP.dconst0), .second, .val (.int 0), .val (.int 0), .val (.int 0), .val (.int q), .unset, .unset]
  have L718_15 := own_ld hL718 15 rfl
  have L718_8 := own_ld hL718 8 rfl
  obtain ⟨L719, hL719⟩ := own_nm #[.val (.ref a1), .val (.int i), .val (.int q), .val (.ref cb), .val (.ref db), .val (.int 2), .val (.ref pb), .val (.ref eb), .val (.int 0), .val (.double w0), .second, .val (.double FP.dconst0), .second, .val (.int 0), .val (.int 0), .val (.int 0), .val (.int q), .val (.int 2147483647), .unset]
  have L719_16 := own_ld hL719 16 rfl
  have L719_2 := own_ld hL719 2 rfl
  have L719_14 := own_ld hL719 14 rfl
  obtain ⟨L720, hL720⟩ := own_nm #[.val (.ref a1), .val (.int i), .val (.int q), .val (.ref cb), .val (.ref db), .val (.int 2), .val (.ref pb), .val (.ref eb), .val (.int 0), .val (.double w0), .second, .val (.double FP.dconst0), .second, .val (.int 0), .val (.int 1), .val (.int 0), .val (.int q), .val (.int 2147483647), .unset]
  have L720_14 := own_ld hL720 14 rfl
  have L720_5 := own_ld hL720 5 rfl
  have L720_3 := own_ld hL720 3 rfl
  obtain ⟨L721, hL721⟩ := own_nm #[.val (.ref a1), .val (.int i), .val (.int q), .val (.ref cb), .val (.ref db), .val (.int 2), .val (.ref pb), .val (.ref eb), .val (.int 0), .val (.double w0), .second, .val (.double FP.dconst0), .second, .val (.int 0), .val (.int 1), .val (.int 0), .val (.int u1), .val (.int 2147483647), .unset]
  have L721_15 := own_ld hL721 15 rfl
  have L721_8 := own_ld hL721 8 rfl
  obtain ⟨L722, hL722⟩ := own_nm #[.val (.ref a1), .val (.int i), .val (.int q), .val (.ref cb), .val (.ref db), .val (.int 2), .val (.ref pb), .val (.ref eb), .val (.int 0), .val (.double w0), .second, .val (.double FP.dconst0), .second, .val (.int 0), .val (.int 1), .val (.int 0), .val (.int u1), .val (.int 2147483647), .unset]
  have L722_16 := own_ld hL722 16 rfl
  have L722_2 := own_ld hL722 2 rfl
  have L722_17 := own_ld hL722 17 rfl
  have L722_1 := own_ld hL722 1 rfl
  have L722_0 := own_ld hL722 0 rfl
  obtain ⟨T723, X723, e723, st723⟩ := wget X716 hx hby hZ hown (hw _ tm19) e716 (O_a.at 12) L722 [] k12_207
  have L722_13 := own_ld hL722 13 rfl
  obtain ⟨T725, h725, X725, e725, W725, f724, N725, st725⟩ := wiastore X723 hx hby hZ e723 N716 V_mc (by omega : n0 ≤ (mc : Nat)) (0 : Int32) u1 0 rfl (by decide) (by decide) (Nat.le_of_ble_eq_true rfl) L722 [] k12_214
  have f726 := (O_a.other W725 (by omega : (a1 : Nat) ≠ mc))
  obtain ⟨T727, X727, e727, st727⟩ := wget X725 hx hby hZ hown (hw _ tm21) e725 (f726.at 13) L722 [] k12_216
  obtain ⟨L728, hL728⟩ := own_nm #[.val (.ref a1), .val (.int i), .val (.int q), .val (.ref cb), .val (.ref db), .val (.int 2), .val (.ref pb), .val (.ref eb), .val (.int 0), .val (.double w0), .second, .val (.double FP.dconst0), .second, .val (.int 1), .val (.int 1), .val (.int 0), .val (.int u1), .val (.int 2147483647), .unset]
  have L728_4 := own_ld hL728 4 rfl
  have L728_14 := own_ld hL728 14 rfl
  obtain ⟨L729, hL729⟩ := own_nm #[.val (.ref a1), .val (.int i), .val (.int q), .val (.ref cb), .val (.ref db), .val (.int 2), .val (.ref pb), .val (.ref eb), .val (.int 0), .val (.double w0), .second, .val (.double FP.dconst0), .second, .val (.int 1), .val (.int 2), .val (.int 0), .val (.int u1), .val (.int 2147483647), .unset]
  have f730 := (V_db.other W725 (by omega : (db : Nat) ≠ mc))
  have f731 := (V_md.other W725 (by omega : (md : Nat) ≠ mc))
  obtain ⟨T733, h733, X733, e733, W733, f732, N733, st733⟩ := wdastore X727 hx hby hZ e727 N725 f731 (by omega : n0 ≤ (md : Nat)) (0 : Int32) w1 0 rfl (by decide) (by decide) (Nat.le_of_ble_eq_true rfl) L729 [] k12_232
  have L729_14 := own_ld hL729 14 rfl
  have L729_5 := own_ld hL729 5 rfl
  have L729_15 := own_ld hL729 15 rfl
  have L729_8 := own_ld hL729 8 rfl
  have L729_11 := own_ld hL729 11 rfl
  obtain ⟨L734, hL734⟩ := own_nm #[.val (.ref a1), .val (.int i), .val (.int q), .val (.ref cb), .val (.ref db), .val (.int 2), .val (.ref pb), .val (.ref eb), .val (.int 0), .val (.double w0), .second, .val (.double FP.dconst0), .second, .val (.int 1), .val (.int 2), .val (.int 0), .val (.double FP.dconst1), .second, .unset]
  have L734_11 := own_ld hL734 11 rfl
  have L734_0 := own_ld hL734 0 rfl
  have L734_1 := own_ld hL734 1 rfl
  have L734_2 := own_ld hL734 2 rfl
  have L734_3 := own_ld hL734 3 rfl
  have L734_5 := own_ld hL734 5 rfl
  have L734_9 := own_ld hL734 9 rfl
  have L734_13 := own_ld hL734 13 rfl
  have L734_16 := own_ld hL734 16 rfl
  have f735 := (f726.other W733 (by omega : (a1 : Nat) ≠ md))
  have f736 := ((V_co.other W725 (by omega : (co : Nat) ≠ mc)).other W733 (by omega : (co : Nat) ≠ md))
  have f737 := ((V_cf.other W725 (by omega : (cf : Nat) ≠ mc)).other W733 (by omega : (cf : Nat) ≠ md))
  have f738 := ((V_le.other W725 (by omega : (le : Nat) ≠ mc)).other W733 (by omega : (le : Nat) ≠ md))
  have f739 := (f724.other W733 (by omega : (mc : Nat) ≠ md))
  have f740 := ((V_sr.other W725 (by omega : (sr : Nat) ≠ mc)).other W733 (by omega : (sr : Nat) ≠ md))
  have f741 := ((V_sp.other W725 (by omega : (sp : Nat) ≠ mc)).other W733 (by omega : (sp : Nat) ≠ md))
  have f742 := ((V_sw.other W725 (by omega : (sw : Nat) ≠ mc)).other W733 (by omega : (sw : Nat) ≠ md))
  have f743 := ((V_ss.other W725 (by omega : (ss : Nat) ≠ mc)).other W733 (by omega : (ss : Nat) ≠ md))
  have f744 := ((V_cb.other W725 (by omega : (cb : Nat) ≠ mc)).other W733 (by omega : (cb : Nat) ≠ md))
  have f745 := (f730.other W733 (by omega : (db : Nat) ≠ md))
  have f746 := (((Keep.refl h0 [a1, mc, md, le, sr, sp, sw, ss, cb, db]).wr W725 (Or.inl (List.mem_of_getElem? (i := 1) rfl))).wr W733 (Or.inl (List.mem_of_getElem? (i := 2) rfl)))
  have Z747 : n0 ≤ h733.size := Nat.le_trans Z0 f746.1
  obtain ⟨T748, h748, LT748, X748, e748, N748, K748, Oa748, Fle748, Fsr748, Fsp748, Fsw748, Fss748, Fcb748, Fdb748, st748⟩ := sbT1 Z a0 hw a1 oc od mc md sr sp sw ss co cf le re rc k_co k_cf k_le k_mc k_md k_sr k_sp k_sw k_ss r en wk st ol i q (2 : Int32) q u1 u1 x1 w1 y1 w0 w1 w0 FP.dconst1 cb db kcb kdb cs fl ls zr zp zw zs L734 h733 n0 X733 hx hZ hby hml hown e733 N733 Z747 L734_0 L734_1 L734_2 L734_3 L734_5 L734_9 L734_13 L734_16 (by rw [hml, hL734]; rfl) f735 f736 f737 f738 f739 f732 f740 f741 f742 f743 f744 f745 hi3 hci hfi (by unfold own_12; decide) lls lzr lzp lzw lzs hst o1 o2 ord g_a
  have f749 := (f746.trans K748 (allS (Or.inl (List.mem_of_getElem? (i := 0) rfl)) (allS (Or.inl (List.mem_of_getElem? (i := 3) rfl)) (allS (Or.inl (List.mem_of_getElem? (i := 4) rfl)) (allS (Or.inl (List.mem_of_getElem? (i := 5) rfl)) (allS (Or.inl (List.mem_of_getElem? (i := 6) rfl)) (allS (Or.inl (List.mem_of_getElem? (i := 7) rfl)) (allS (Or.inl (List.mem_of_getElem? (i := 8) rfl)) (allS (Or.inl (List.mem_of_getElem? (i := 9) rfl)) all0)))))))))
  have f750 := (f739.keep K748 (by repeat' first | exact nin0 | refine ninS ?_ ?_ | (show (_ : Nat) ≠ _; omega)))
  have f751 := (f732.keep K748 (by repeat' first | exact nin0 | refine ninS ?_ ?_ | (show (_ : Nat) ≠ _; omega)))
  obtain ⟨fs, hr, hrun, hended, hW, hsame⟩ := X748.leave (v := some (.int 1)) (fun h => by rw [Bd.returns] at h; cases h)
  refine ⟨_, _, pre0 _ ?_, hrun, hended, _, _, rfl, ?_, ⟨_, rfl⟩, hW, hsame.mono (by decide) (by decide)⟩
  · rw [← hL715]
    rw [hL715]
    refine st716 _ ?_
    rw [← hL717]
    show own_S p e below m T716 111 L717 [] _
    refine wiload X716 hx hby k12_111 L717_14 ?_
    refine wiload X716 hx hby k12_113 L717_5 ?_
    refine wicmpYes X716 hx hby k12_115 115 125 rfl (by decide) (by decide) (by decide) ?_
    refine wiload X716 hx hby k12_125 L717_14 ?_
    show own_S p e below m T716 127 L717 [(.int 0)] _
    refine wiload X716 hx hby k12_127 L717_5 ?_
    refine wicmpNo X716 hx hby k12_129 (by decide) ?_
    refine waloadN X716 hx hby k12_132 L717_3 rfl ?_
    refine wiload X716 hx hby k12_133 L717_14 ?_
    show own_S p e below m T716 135 L717 [(.int 0), (.ref cb)] _
    refine wiaload X716 hx hby hZ e716 V_cb 0 rfl (by decide) (by decide) (v := (.int q)) rfl k12_135 ?_
    refine wgoto X716 hx hby k12_136 136 141 rfl (by decide) (by decide) ?_
    refine wistore X716 hx hby k12_141 hL717 hL718 rfl ?_
    refine wiload X716 hx hby k12_143 L718_15 ?_
    show own_S p e below m T716 145 L718 [(.int 0)] _
    refine wiload X716 hx hby k12_145 L718_8 ?_
    refine wicmpYes X716 hx hby k12_147 147 158 rfl (by decide) (by decide) (by decide) ?_
    refine X716.ldcI hx hown (mvT hZ (hw _ tm106)) (g := (mkF m 158 L718 [])) rfl (hb hby k12_158) ?_
    show own_S p e below m T716 160 L718 [(.int 2147483647)] _
    refine wistore X716 hx hby k12_160 hL718 hL719 rfl ?_
    refine wiload X716 hx hby k12_162 L719_16 ?_
    refine wiloadN X716 hx hby k12_164 L719_2 ?_
    refine wicmpNo X716 hx hby k12_165 (teq rfl).2 ?_
    show own_S p e below m T716 168 L719 [] _
    refine wiinc X716 hx hby k12_168 L719_14 hL719 hL720 rfl ?_
    refine wgoto X716 hx hby k12_171 171 322 rfl (by decide) (by decide) ?_
    refine wgoto X716 hx hby k12_322 322 111 rfl (by decide) (by decide) ?_
    refine wiload X716 hx hby k12_111 L720_14 ?_
    show own_S p e below m T716 113 L720 [(.int 1)] _
    refine wiload X716 hx hby k12_113 L720_5 ?_
    refine wicmpYes X716 hx hby k12_115 115 125 rfl (by decide) (by decide) (by decide) ?_
    refine wiload X716 hx hby k12_125 L720_14 ?_
    refine wiload X716 hx hby k12_127 L720_5 ?_
    show own_S p e below m T716 129 L720 [(.int 2), (.int 1)] _
    refine wicmpNo X716 hx hby k12_129 (by decide) ?_
    refine waloadN X716 hx hby k12_132 L720_3 rfl ?_
    refine wiload X716 hx hby k12_133 L720_14 ?_
    refine wiaload X716 hx hby hZ e716 V_cb 1 rfl (by decide) (by decide) (v := (.int u1)) rfl k12_135 ?_
    show own_S p e below m T716 136 L720 [(.int u1)] _
    refine wgoto X716 hx hby k12_136 136 141 rfl (by decide) (by decide) ?_
    refine wistore X716 hx hby k12_141 hL720 hL721 rfl ?_
    refine wiload X716 hx hby k12_143 L721_15 ?_
    refine wiload X716 hx hby k12_145 L721_8 ?_
    show own_S p e below m T716 147 L721 [(.int 0), (.int 0)] _
    refine wicmpYes X716 hx hby k12_147 147 158 rfl (by decide) (by decide) (by decide) ?_
    refine X716.ldcI hx hown (mvT hZ (hw _ tm106)) (g := (mkF m 158 L721 [])) rfl (hb hby k12_158) ?_
    show own_S p e below m T716 160 L721 [(.int 2147483647)] _
    refine wistore X716 hx hby k12_160 hL721 hL722 rfl ?_
    refine wiload X716 hx hby k12_162 L722_16 ?_
    refine wiloadN X716 hx hby k12_164 L722_2 ?_
    refine wicmpYes X716 hx hby k12_165 165 174 rfl (feq hu).2 (by decide) (by decide) ?_
    show own_S p e below m T716 174 L722 [] _
    refine wiload X716 hx hby k12_174 L722_17 ?_
    refine wiloadN X716 hx hby k12_176 L722_1 ?_
    refine wicmpYes X716 hx hby k12_177 177 199 rfl (feq (own_3m hi3)).2 (by decide) (by decide) ?_
    refine wiload X716 hx hby k12_199 L722_16 ?_
    show own_S p e below m T716 201 L722 [(.int u1)] _
    refine wiload X716 hx hby k12_201 L722_17 ?_
    refine wicmpNo X716 hx hby k12_203 (tlt (own_3n hu3)).2.1 ?_
    refine waloadN X716 hx hby k12_206 L722_0 rfl ?_
    refine st723 _ ?_
    show own_S p e below m T723 210 L722 [(.ref mc)] _
    refine wiload X723 hx hby k12_210 L722_13 ?_
    refine wiload X723 hx hby k12_212 L722_16 ?_
    refine st725 _ ?_
    refine waloadN X725 hx hby k12_215 L722_0 rfl ?_
    show own_S p e below m T725 216 L722 [(.ref a1)] _
    refine st727 _ ?_
    refine wiload X727 hx hby k12_219 L722_13 ?_
    refine wiinc X727 hx hby k12_221 L722_13 hL722 hL728 rfl ?_
    refine waload X727 hx hby k12_224 L728_4 rfl ?_
    show own_S p e below m T727 226 L728 [(.ref db), (.int 0), (.ref md)] _
    refine wiload X727 hx hby k12_226 L728_14 ?_
    refine wiinc X727 hx hby k12_228 L728_14 hL728 hL729 rfl ?_
    refine wdaload X727 hx hby hZ e727 f730 1 rfl (by decide) (by decide) (v := (.double w1)) rfl k12_231 ?_
    refine st733 _ ?_
    show own_S p e below m T733 233 L729 [] _
    refine wgoto X733 hx hby k12_233 233 322 rfl (by decide) (by decide) ?_
    refine wgoto X733 hx hby k12_322 322 111 rfl (by decide) (by decide) ?_
    refine wiload X733 hx hby k12_111 L729_14 ?_
    refine wiload X733 hx hby k12_113 L729_5 ?_
    show own_S p e below m T733 115 L729 [(.int 2), (.int 2)] _
    refine wicmpNo X733 hx hby k12_115 (by decide) ?_
    refine wiload X733 hx hby k12_118 L729_15 ?_
    refine wiload X733 hx hby k12_120 L729_8 ?_
    refine wicmpYes X733 hx hby k12_122 122 325 rfl (by decide) (by decide) (by decide) ?_
    show own_S p e below m T733 325 L729 [] _
    refine wdload X733 hx hby k12_325 L729_11 ?_
    refine XS.dconst1 X733.here hx rfl (v := FP.dconst1) (hb hby k12_327) rfl ?_
    refine XS.dcmpS X733.here hx rfl (v := (-1 : Int32)) (hb hby k12_328) rfl (own_v_lt own_z1 .g) ?_
    refine wifYes X733 hx hby k12_329 329 334 rfl (by decide) (by decide) (by decide) ?_
    show own_S p e below m T733 334 L729 [] _
    refine XS.dconst1 X733.here hx rfl (v := FP.dconst1) (hb hby k12_334) rfl ?_
    refine XS.dstore X733.here hx rfl (hb hby k12_335) rfl (l' := L734) (by rw [hL729, hL734]; rfl) ?_
    refine wdload X733 hx hby k12_337 L734_11 ?_
    refine XS.dconst0 X733.here hx rfl (v := FP.dconst0) (hb hby k12_339) rfl ?_
    show own_S p e below m T733 340 L734 [(.double FP.dconst0), (.double FP.dconst0)] _
    refine XS.dcmpS X733.here hx rfl (v := (0 : Int32)) (hb hby k12_340) rfl (own_v_eq own_z0 .l) ?_
    refine wifYes X733 hx hby k12_341 341 380 rfl (by decide) (by decide) (by decide) ?_
    refine st748 _ ?_
    refine wiconst X748 hx hby k12_486 ?_
    show own_S p e below m T748 487 L734 [(.int 1)] _
    exact retN X748 hx (t := .boolean) Bd.returns (by simp) (hb hby k12_487) hr
  · show QS01 Z a1 oc od mc md sr sp sw ss co cf le re rc k_co k_cf k_le k_mc k_md k_sr k_sp k_sw k_ss r en wk st ol i q u1 x0 x1 y0 y1 w0 w1 cb db pb eb kcb kdb cs fl ls zr zp zw zs h0 n0 _ T748.heap _
    rw [e748]
    exact ⟨rfl, N748, f749, Oa748, f750, f751, Fle748, Fsr748, Fsp748, Fsw748, Fss748, Fcb748, Fdb748⟩
theorem ef_S11 (m : MethodId) (x0 : Addr) (x1 : Int32) (x2 : Int32) : entryFrame m #[(.ref x0), (.int x1), (.int x2)] 19 = mkF m 0 #[.val (.ref x0), .val (.int x1), .val (.int x2), .unset, .unset, .unset, .unset, .unset, .unset, .unset, .unset, .unset, .unset, .unset, .unset, .unset, .unset, .unset, .unset] [] := by first | (simp [entryFrame, mkF, argsToLocals, Value.category]; done) | rfl
theorem pn_S11 : plainName "com/example/odds2/odds2/engine/Elimination" = true := by first | (simp [plainName, overriddenIn]; done) | decide +kernel
def QS11 (Z : State) (a1 oc od mc md sr sp sw ss co cf le re rc : Nat) (k_co k_cf k_le k_mc k_md k_sr k_sp k_sw k_ss : ClassId) (r : Int32) (en wk : Int64) (st ol i q u1 x0 x1 : Int32) (y0 y1 w0 w1 : UInt64) (cb db pb eb : Nat) (kcb kdb : ClassId) (cs fl ls zr zp zw zs : List Value) (np g1 : Int32) (c0 c1 ow sc : UInt64) (kpb keb : ClassId) (h0 : Heap) (n0 : Nat) (v : Option Value) (h : Heap) (L : List Loc) : Prop := v = some (.int 1) ∧ Fr n0 L ∧ Keep h0 h [a1, mc, md, le, sr, sp, sw, ss, cb, db] ∧ own_E Z h a1 oc od mc md sr sp sw ss co cf le re rc r (en + ((1 : Int32) - (2 : Int32)).toInt64) wk ol (st + (1 : Int32)) ∧ Arv Z h mc k_mc .int 16 [(.int u1), (.int x1)] (.int 0) ∧ Arv Z h md k_md .double 16 [(.double (FP.dmul w1 sc)), (.double y1)] (.double 0) ∧ Arv Z h le k_le .int 3 (ls.set i.toNatClampNeg (.int 1)) (.int 0) ∧ Arv Z h sr k_sr .int 16 (zr.set st.toNatClampNeg (.int i)) (.int 0) ∧ Arv Z h sp k_sp .int 16 (zp.set st.toNatClampNeg (.int q)) (.int 0) ∧ Arv Z h sw k_sw .double 16 (zw.set st.toNatClampNeg (.double w0)) (.double 0) ∧ Arv Z h ss k_ss .double 16 (zs.set st.toNatClampNeg (.double sc)) (.double 0) ∧ Arv Z h cb kcb .int 2 [(.int u1), (.int u1)] (.int 0) ∧ Arv Z h db kdb .double 2 [(.double (FP.dmul w1 sc)), (.double w1)] (.double 0)
set_option maxRecDepth 65536 in
set_option maxHeartbeats 40000000 in
theorem rmS11 (l : Launch) (Z : State) (a0 : Array Value) (hw : ∀ d ∈ tables_1, d.before a0 Z = true) (ws : List Jvm.Cond) (a1 oc od mc md sr sp sw ss co cf le re rc : Nat) (k_co k_cf k_le k_mc k_md k_sr k_sp k_sw k_ss : ClassId) (r : Int32) (en wk : Int64) (st ol i q u1 x0 x1 : Int32) (y0 y1 w0 w1 : UInt64) (cb db pb eb : Nat) (kcb kdb : ClassId) (cs fl ls zr zp zw zs : List Value) (np g1 : Int32) (c0 c1 ow sc : UInt64) (kpb keb : ClassId) (h0 : Heap) (n0 : Nat) (Z0 : n0 ≤ h0.size) (O_a : own_E Z h0 a1 oc od mc md sr sp sw ss co cf le re rc r en wk ol st) (V_co : Arv Z h0 co k_co (.array .int) (3 : Int32) cs .null) (V_cf : Arv Z h0 cf k_cf (.array .double) (3 : Int32) fl .null) (V_le : Arv Z h0 le k_le .int 3 ls (.int 0)) (V_mc : Arv Z h0 mc k_mc .int 16 [(.int x0), (.int x1)] (.int 0)) (V_md : Arv Z h0 md k_md .double 16 [(.double y0), (.double y1)] (.double 0)) (V_sr : Arv Z h0 sr k_sr .int 16 zr (.int 0)) (V_sp : Arv Z h0 sp k_sp .int 16 zp (.int 0)) (V_sw : Arv Z h0 sw k_sw .double 16 zw (.double 0)) (V_ss : Arv Z h0 ss k_ss .double 16 zs (.double 0)) (V_cb : Arv Z h0 cb kcb .int 2 [(.int q), (.int u1)] (.int 0)) (V_db : Arv Z h0 db kdb .double 2 [(.double w0), (.double w1)] (.double 0)) (hi3 : own_3 i) (hq3 : own_3 q) (hci : cs.getD i.toNatClampNeg .null = .ref cb) (hcq : cs.getD q.toNatClampNeg .null = .ref pb) (hfi : fl.getD i.toNatClampNeg .null = .ref db) (hfq : fl.getD q.toNatClampNeg .null = .ref eb) (hli : ls.getD i.toNatClampNeg (.int 0) = .int 2) (hlq : ls.getD q.toNatClampNeg (.int 0) = .int 1) (lls : ls.length = 3) (lzr : zr.length = 2) (lzp : zp.length = 2) (lzw : zw.length = 2) (lzs : zs.length = 2) (hst : own_01 st) (o1 : rc < cb) (o2 : cb < db) (V_pb : Arv Z h0 pb kpb .int np [(.int i), (.int g1)] (.int 0)) (V_eb : Arv Z h0 eb keb .double np [(.double c0), (.double c1)] (.double 0)) (hnp : own_12 np) (o3 : rc < pb) (o4 : rc < eb) (fac : own_fac w0 c0 ow sc) (hu3 : own_3 u1) (hu : ¬ (u1 = q)) (nw : NoNaN64 (FP.dmul w1 sc)) (ord : own_ord a1 oc od mc md sr sp sw ss co cf le re rc) (g_a : n0 ≤ a1) :
    MetFree l (⟨"com/example/odds2/odds2/engine/Elimination", "substitute", "(II)Z"⟩ : MethodName) (head1 (Jvm.Cond.code (⟨"com/example/odds2/odds2/engine/Elimination", "substitute", "(II)Z"⟩ : MethodName) prog_14_method_7_code 19 (some .boolean) :: ws) ({ frames := 2, cells := 0, slots := 0, locals := 40 } : Room)) (fun a U => a = #[(.ref a1), (.int i), (.int q)] ∧ Z.Warmed39 U.vm ∧ U.heap = h0) (fun _ _ _ _ _ => True) (fun _ U o U' => ∃ v L, o = .returned v ∧ QS11 Z a1 oc od mc md sr sp sw ss co cf le re rc k_co k_cf k_le k_mc k_md k_sr k_sp k_sw k_ss r en wk st ol i q u1 x0 x1 y0 y1 w0 w1 cb db pb eb kcb kdb cs fl ls zr zp zw zs np g1 c0 c1 ow sc kpb keb h0 n0 v U'.heap L ∧ FrameEnd U o U' L ({ frames := 2, cells := 0, slots := 0, locals := 40 } : Room).cells ({ frames := 2, cells := 0, slots := 0, locals := 40 } : Room).slots) := by
  refine MetFree.of_bodySF (plainFor_of_name pn_S11) hisR ?_
  intro p e s m args below meth c s₁ Bd hml0 hP hK
  obtain ⟨rfl, hZ, hh⟩ := hP
  have hx := Bd.exec
  have hby := Bd.bytes
  have hml : c.maxLocals = 19 := hml0
  have hown : s.vm.findClass "com/example/odds2/odds2/engine/Elimination" = some m.cls := findClass_of_methodNamed Bd.named
  have hnm := (name_of_methodNamed Bd.named Bd.method).1
  have X0 : Stand p l e ({ frames := 2, cells := 0, slots := 0, locals := 40 } : Room) s m #[(.ref a1), (.int i), (.int q)] below meth c s₁ [] 0 0 := Stand.of_body Bd
  have e0 : s₁.heap = h0 := by rw [← hh, Bd.state]; rfl
  have N0 := Fr.nil n0
  have pre0 : ∀ t, Steps p.tables e below (s₁.setTop (mkF m 0 #[.val (.ref a1), .val (.int i), .val (.int q), .unset, .unset, .unset, .unset, .unset, .unset, .unset, .unset, .unset, .unset, .unset, .unset, .unset, .unset, .unset, .unset] [])) t → Steps p.tables e below (s₁.setTop (entryFrame m #[(.ref a1), (.int i), (.int q)] 19)) t := fun t k => castTop (ef_S11 m a1 i q) k
  have hl := own_laid_of hw
  obtain ⟨or0, or1, or2, or3, or4, or5, or6, or7, or8, or9, or10, or11, or12⟩ := id ord
  obtain ⟨L752, hL752⟩ := own_nm #[.val (.ref a1), .val (.int i), .val (.int q), .unset, .unset, .unset, .unset, .unset, .unset, .unset, .unset, .unset, .unset, .unset, .unset, .unset, .unset, .unset, .unset]
  obtain ⟨T753, h753, LT753, X753, e753, N753, eh753, st753⟩ := sbP Z a0 hw a1 oc od mc md sr sp sw ss co cf le re rc k_co k_cf k_le k_mc r en wk st ol i q (2 : Int32) (1 : Int32) u1 x0 x1 w0 w1 cb db pb eb kcb kdb cs fl ls h0 n0 X0 hx hZ hby hml hown e0 N0 Z0 O_a V_co V_cf V_le V_mc V_cb V_db hi3 hq3 hci hcq hfi hfq hli hlq (by unfold own_12; decide) (by decide)
  obtain ⟨L754, hL754⟩ := own_nm #[.val (.ref a1), .val (.int i), .val (.int q), .val (.ref cb), .val (.ref db), .val (.int 2), .val (.ref pb), .val (.ref eb), .val (.int 1), .val (.double w0), .second, .val (.double FP.dconst0), .second, .val (.int 0), .val (.int 0), .val (.int 0), .unset, .unset, .unset]
  rw [eh753] at e753
  have L754_14 := own_ld hL754 14 rfl
  have L754_5 := own_ld hL754 5 rfl
  have L754_3 := own_ld hL754 3 rfl
  obtain ⟨L755, hL755⟩ := own_nm #[.val (.ref a1), .val (.int i), .val (.int q), .val (.ref cb), .val (.ref db), .val (.int 2), .val (.ref pb), .val (.ref eb), .val (.int 1), .val (.double w0), .second, .val (.double FP.dconst0), .second, .val (.int 0), .val (.int 0), .val (.int 0), .val (.int q), .unset, .unset]
  have L755_15 := own_ld hL755 15 rfl
  have L755_8 := own_ld hL755 8 rfl
  have L755_6 := own_ld hL755 6 rfl
  obtain ⟨L756, hL756⟩ := own_nm #[.val (.ref a1), .val (.int i), .val (.int q), .val (.ref cb), .val (.ref db), .val (.int 2), .val (.ref pb), .val (.ref eb), .val (.int 1), .val (.double w0), .second, .val (.double FP.dconst0), .second, .val (.int 0), .val (.int 0), .val (.int 0), .val (.int q), .val (.int i), .unset]
  have L756_16 := own_ld hL756 16 rfl
  have L756_2 := own_ld hL756 2 rfl
  have L756_14 := own_ld hL756 14 rfl
  obtain ⟨L757, hL757⟩ := own_nm #[.val (.ref a1), .val (.int i), .val (.int q), .val (.ref cb), .val (.ref db), .val (.int 2), .val (.ref pb), .val (.ref eb), .val (.int 1), .val (.double w0), .second, .val (.double FP.dconst0), .second, .val (.int 0), .val (.int 1), .val (.int 0), .val (.int q), .val (.int i), .unset]
  have L757_14 := own_ld hL757 14 rfl
  have L757_5 := own_ld hL757 5 rfl
  have L757_3 := own_ld hL757 3 rfl
  obtain ⟨L758, hL758⟩ := own_nm #[.val (.ref a1), .val (.int i), .val (.int q), .val (.ref cb), .val (.ref db), .val (.int 2), .val (.ref pb), .val (.ref eb), .val (.int 1), .val (.double w0), .second, .val (.double FP.dconst0), .second, .val (.int 0), .val (.int 1), .val (.int 0), .val (.int u1), .val (.int i), .unset]
  have L758_15 := own_ld hL758 15 rfl
  have L758_8 := own_ld hL758 8 rfl
  have L758_6 := own_ld hL758 6 rfl
  obtain ⟨L759, hL759⟩ := own_nm #[.val (.ref a1), .val (.int i), .val (.int q), .val (.ref cb), .val (.ref db), .val (.int 2), .val (.ref pb), .val (.ref eb), .val (.int 1), .val (.double w0), .second, .val (.double FP.dconst0), .second, .val (.int 0), .val (.int 1), .val (.int 0), .val (.int u1), .val (.int i), .unset]
  have L759_16 := own_ld hL759 16 rfl
  have L759_2 := own_ld hL759 2 rfl
  have L759_17 := own_ld hL759 17 rfl
  have L759_1 := own_ld hL759 1 rfl
  have L759_11 := own_ld hL759 11 rfl
  have L759_9 := own_ld hL759 9 rfl
  have L759_7 := own_ld hL759 7 rfl
  have L759_15 := own_ld hL759 15 rfl
  obtain ⟨L760, hL760⟩ := own_nm #[.val (.ref a1), .val (.int i), .val (.int q), .val (.ref cb), .val (.ref db), .val (.int 2), .val (.ref pb), .val (.ref eb), .val (.int 1), .val (.double w0), .second, .val (.double FP.dconst0), .second, .val (.int 0), .val (.int 1), .val (.int 1), .val (.int u1), .val (.int i), .unset]
  obtain ⟨L761, hL761⟩ := own_nm #[.val (.ref a1), .val (.int i), .val (.int q), .val (.ref cb), .val (.ref db), .val (.int 2), .val (.ref pb), .val (.ref eb), .val (.int 1), .val (.double w0), .second, .val (.double ow), .second, .val (.int 0), .val (.int 1), .val (.int 1), .val (.int u1), .val (.int i), .unset]
  have L761_14 := own_ld hL761 14 rfl
  have L761_5 := own_ld hL761 5 rfl
  have L761_3 := own_ld hL761 3 rfl
  obtain ⟨L762, hL762⟩ := own_nm #[.val (.ref a1), .val (.int i), .val (.int q), .val (.ref cb), .val (.ref db), .val (.int 2), .val (.ref pb), .val (.ref eb), .val (.int 1), .val (.double w0), .second, .val (.double ow), .second, .val (.int 0), .val (.int 1), .val (.int 1), .val (.int u1), .val (.int i), .unset]
  have L762_15 := own_ld hL762 15 rfl
  have L762_8 := own_ld hL762 8 rfl
  obtain ⟨L763, hL763⟩ := own_nm #[.val (.ref a1), .val (.int i), .val (.int q), .val (.ref cb), .val (.ref db), .val (.int 2), .val (.ref pb), .val (.ref eb), .val (.int 1), .val (.double w0), .second, .val (.double ow), .second, .val (.int 0), .val (.int 1), .val (.int 1), .val (.int u1), .val (.int 2147483647), .unset]
  have L763_16 := own_ld hL763 16 rfl
  have L763_2 := own_ld hL763 2 rfl
  have L763_17 := own_ld hL763 17 rfl
  have L763_1 := own_ld hL763 1 rfl
  have L763_0 := own_ld hL763 0 rfl
  obtain ⟨T764, X764, e764, st764⟩ := wget X753 hx hby hZ hown (hw _ tm19) e753 (O_a.at 12) L763 [] k12_207
  have L763_13 := own_ld hL763 13 rfl
  obtain ⟨T766, h766, X766, e766, W766, f765, N766, st766⟩ := wiastore X764 hx hby hZ e764 N753 V_mc (by omega : n0 ≤ (mc : Nat)) (0 : Int32) u1 0 rfl (by decide) (by decide) (Nat.le_of_ble_eq_true rfl) L763 [] k12_214
  have f767 := (O_a.other W766 (by omega : (a1 : Nat) ≠ mc))
  obtain ⟨T768, X768, e768, st768⟩ := wget X766 hx hby hZ hown (hw _ tm21) e766 (f767.at 13) L763 [] k12_216
  obtain ⟨L769, hL769⟩ := own_nm #[.val (.ref a1), .val (.int i), .val (.int q), .val (.ref cb), .val (.ref db), .val (.int 2), .val (.ref pb), .val (.ref eb), .val (.int 1), .val (.double w0), .second, .val (.double ow), .second, .val (.int 1), .val (.int 1), .val (.int 1), .val (.int u1), .val (.int 2147483647), .unset]
  have L769_4 := own_ld hL769 4 rfl
  have L769_14 := own_ld hL769 14 rfl
  obtain ⟨L770, hL770⟩ := own_nm #[.val (.ref a1), .val (.int i), .val (.int q), .val (.ref cb), .val (.ref db), .val (.int 2), .val (.ref pb), .val (.ref eb), .val (.int 1), .val (.double w0), .second, .val (.double ow), .second, .val (.int 1), .val (.int 2), .val (.int 1), .val (.int u1), .val (.int 2147483647), .unset]
  have f771 := (V_db.other W766 (by omega : (db : Nat) ≠ mc))
  have f772 := (V_md.other W766 (by omega : (md : Nat) ≠ mc))
  obtain ⟨T774, h774, X774, e774, W774, f773, N774, st774⟩ := wdastore X768 hx hby hZ e768 N766 f772 (by omega : n0 ≤ (md : Nat)) (0 : Int32) w1 0 rfl (by decide) (by decide) (Nat.le_of_ble_eq_true rfl) L770 [] k12_232
  have L770_14 := own_ld hL770 14 rfl
  have L770_5 := own_ld hL770 5 rfl
  have L770_15 := own_ld hL770 15 rfl
  have L770_8 := own_ld hL770 8 rfl
  have L770_11 := own_ld hL770 11 rfl
  obtain ⟨L775, hL775⟩ := own_nm #[.val (.ref a1), .val (.int i), .val (.int q), .val (.ref cb), .val (.ref db), .val (.int 2), .val (.ref pb), .val (.ref eb), .val (.int 1), .val (.double w0), .second, .val (.double ow), .second, .val (.int 1), .val (.int 2), .val (.int 1), .val (.double FP.dconst1), .second, .unset]
  have L775_11 := own_ld hL775 11 rfl
  obtain ⟨L776, hL776⟩ := own_nm #[.val (.ref a1), .val (.int i), .val (.int q), .val (.ref cb), .val (.ref db), .val (.int 2), .val (.ref pb), .val (.ref eb), .val (.int 1), .val (.double w0), .second, .val (.double ow), .second, .val (.int 1), .val (.int 2), .val (.int 1), .val (.double sc), .second, .unset]
  obtain ⟨L777, hL777⟩ := own_nm #[.val (.ref a1), .val (.int i), .val (.int q), .val (.ref cb), .val (.ref db), .val (.int 2), .val (.ref pb), .val (.ref eb), .val (.int 1), .val (.double w0), .second, .val (.double ow), .second, .val (.int 1), .val (.int 2), .val (.int 1), .val (.double sc), .second, .val (.int 0)]
  have L777_18 := own_ld hL777 18 rfl
  have L777_13 := own_ld hL777 13 rfl
  have L777_0 := own_ld hL777 0 rfl
  have f778 := (f767.other W774 (by omega : (a1 : Nat) ≠ md))
  obtain ⟨T779, X779, e779, st779⟩ := wget X774 hx hby hZ hown (hw _ tm21) e774 (f778.at 13) L777 [] k12_363
  have L777_16 := own_ld hL777 16 rfl
  obtain ⟨T781, h781, X781, e781, W781, f780, N781, st781⟩ := wdastore X779 hx hby hZ e779 N774 f773 (by omega : n0 ≤ (md : Nat)) (0 : Int32) (FP.dmul w1 sc) 0 rfl (by decide) (by decide) (Nat.le_of_ble_eq_true rfl) L777 [] k12_373
  obtain ⟨L782, hL782⟩ := own_nm #[.val (.ref a1), .val (.int i), .val (.int q), .val (.ref cb), .val (.ref db), .val (.int 2), .val (.ref pb), .val (.ref eb), .val (.int 1), .val (.double w0), .second, .val (.double ow), .second, .val (.int 1), .val (.int 2), .val (.int 1), .val (.double sc), .second, .val (.int 1)]
  have L782_18 := own_ld hL782 18 rfl
  have L782_13 := own_ld hL782 13 rfl
  have L782_0 := own_ld hL782 0 rfl
  have L782_1 := own_ld hL782 1 rfl
  have L782_2 := own_ld hL782 2 rfl
  have L782_3 := own_ld hL782 3 rfl
  have L782_5 := own_ld hL782 5 rfl
  have L782_9 := own_ld hL782 9 rfl
  have L782_16 := own_ld hL782 16 rfl
  have f783 := (f778.other W781 (by omega : (a1 : Nat) ≠ md))
  have f784 := (((V_co.other W766 (by omega : (co : Nat) ≠ mc)).other W774 (by omega : (co : Nat) ≠ md)).other W781 (by omega : (co : Nat) ≠ md))
  have f785 := (((V_cf.other W766 (by omega : (cf : Nat) ≠ mc)).other W774 (by omega : (cf : Nat) ≠ md)).other W781 (by omega : (cf : Nat) ≠ md))
  have f786 := (((V_le.other W766 (by omega : (le : Nat) ≠ mc)).other W774 (by omega : (le : Nat) ≠ md)).other W781 (by omega : (le : Nat) ≠ md))
  have f787 := ((f765.other W774 (by omega : (mc : Nat) ≠ md)).other W781 (by omega : (mc : Nat) ≠ md))
  have f788 := (((V_sr.other W766 (by omega : (sr : Nat) ≠ mc)).other W774 (by omega : (sr : Nat) ≠ md)).other W781 (by omega : (sr : Nat) ≠ md))
  have f789 := (((V_sp.other W766 (by omega : (sp : Nat) ≠ mc)).other W774 (by omega : (sp : Nat) ≠ md)).other W781 (by omega : (sp : Nat) ≠ md))
  have f790 := (((V_sw.other W766 (by omega : (sw : Nat) ≠ mc)).other W774 (by omega : (sw : Nat) ≠ md)).other W781 (by omega : (sw : Nat) ≠ md))
  have f791 := (((V_ss.other W766 (by omega : (ss : Nat) ≠ mc)).other W774 (by omega : (ss : Nat) ≠ md)).other W781 (by omega : (ss : Nat) ≠ md))
  have f792 := (((V_cb.other W766 (by omega : (cb : Nat) ≠ mc)).other W774 (by omega : (cb : Nat) ≠ md)).other W781 (by omega : (cb : Nat) ≠ md))
  have f793 := ((f771.other W774 (by omega : (db : Nat) ≠ md)).other W781 (by omega : (db : Nat) ≠ md))
  have f794 := ((((Keep.refl h0 [a1, mc, md, le, sr, sp, sw, ss, cb, db]).wr W766 (Or.inl (List.mem_of_getElem? (i := 1) rfl))).wr W774 (Or.inl (List.mem_of_getElem? (i := 2) rfl))).wr W781 (Or.inl (List.mem_of_getElem? (i := 2) rfl)))
  have Z795 : n0 ≤ h781.size := Nat.le_trans Z0 f794.1
  obtain ⟨T796, h796, LT796, X796, e796, N796, K796, Oa796, Fle796, Fsr796, Fsp796, Fsw796, Fss796, Fcb796, Fdb796, st796⟩ := sbT1 Z a0 hw a1 oc od mc md sr sp sw ss co cf le re rc k_co k_cf k_le k_mc k_md k_sr k_sp k_sw k_ss r en wk st ol i q (2 : Int32) q u1 u1 x1 (FP.dmul w1 sc) y1 w0 w1 w0 sc cb db kcb kdb cs fl ls zr zp zw zs L782 h781 n0 X781 hx hZ hby hml hown e781 N781 Z795 L782_0 L782_1 L782_2 L782_3 L782_5 L782_9 L782_13 L782_16 (by rw [hml, hL782]; rfl) f783 f784 f785 f786 f787 f780 f788 f789 f790 f791 f792 f793 hi3 hci hfi (by unfold own_12; decide) lls lzr lzp lzw lzs hst o1 o2 ord g_a
  have f797 := (f794.trans K796 (allS (Or.inl (List.mem_of_getElem? (i := 0) rfl)) (allS (Or.inl (List.mem_of_getElem? (i := 3) rfl)) (allS (Or.inl (List.mem_of_getElem? (i := 4) rfl)) (allS (Or.inl (List.mem_of_getElem? (i := 5) rfl)) (allS (Or.inl (List.mem_of_getElem? (i := 6) rfl)) (allS (Or.inl (List.mem_of_getElem? (i := 7) rfl)) (allS (Or.inl (List.mem_of_getElem? (i := 8) rfl)) (allS (Or.inl (List.mem_of_getElem? (i := 9) rfl)) all0)))))))))
  have f798 := (f787.keep K796 (by repeat' first | exact nin0 | refine ninS ?_ ?_ | (show (_ : Nat) ≠ _; omega)))
  have f799 := (f780.keep K796 (by repeat' first | exact nin0 | refine ninS ?_ ?_ | (show (_ : Nat) ≠ _; omega)))
  obtain ⟨fs, hr, hrun, hended, hW, hsame⟩ := X796.leave (v := some (.int 1)) (fun h => by rw [Bd.returns] at h; cases h)
  refine ⟨_, _, pre0 _ ?_, hrun, hended, _, _, rfl, ?_, ⟨_, rfl⟩, hW, hsame.mono (by decide) (by decide)⟩
  · rw [← hL752]
    rw [hL752]
    refine st753 _ ?_
    rw [← hL754]
    show own_S p e below m T753 111 L754 [] _
    refine wiload X753 hx hby k12_111 L754_14 ?_
    refine wiload X753 hx hby k12_113 L754_5 ?_
    refine wicmpYes X753 hx hby k12_115 115 125 rfl (by decide) (by decide) (by decide) ?_
    refine wiload X753 hx hby k12_125 L754_14 ?_
    show own_S p e below m T753 127 L754 [(.int 0)] _
    refine wiload X753 hx hby k12_127 L754_5 ?_
    refine wicmpNo X753 hx hby k12_129 (by decide) ?_
    refine waloadN X753 hx hby k12_132 L754_3 rfl ?_
    refine wiload X753 hx hby k12_133 L754_14 ?_
    show own_S p e below m T753 135 L754 [(.int 0), (.ref cb)] _
    refine wiaload X753 hx hby hZ e753 V_cb 0 rfl (by decide) (by decide) (v := (.int q)) rfl k12_135 ?_
    refine wgoto X753 hx hby k12_136 136 141 rfl (by decide) (by decide) ?_
    refine wistore X753 hx hby k12_141 hL754 hL755 rfl ?_
    refine wiload X753 hx hby k12_143 L755_15 ?_
    show own_S p e below m T753 145 L755 [(.int 0)] _
    refine wiload X753 hx hby k12_145 L755_8 ?_
    refine wicmpNo X753 hx hby k12_147 (by decide) ?_
    refine waload X753 hx hby k12_150 L755_6 rfl ?_
    refine wiload X753 hx hby k12_152 L755_15 ?_
    show own_S p e below m T753 154 L755 [(.int 0), (.ref pb)] _
    refine wiaload X753 hx hby hZ e753 V_pb 0 rfl (by decide) (by rcases hnp with rfl | rfl <;> decide) (v := (.int i)) rfl k12_154 ?_
    refine wgoto X753 hx hby k12_155 155 160 rfl (by decide) (by decide) ?_
    refine wistore X753 hx hby k12_160 hL755 hL756 rfl ?_
    refine wiload X753 hx hby k12_162 L756_16 ?_
    show own_S p e below m T753 164 L756 [(.int q)] _
    refine wiloadN X753 hx hby k12_164 L756_2 ?_
    refine wicmpNo X753 hx hby k12_165 (teq rfl).2 ?_
    refine wiinc X753 hx hby k12_168 L756_14 hL756 hL757 rfl ?_
    refine wgoto X753 hx hby k12_171 171 322 rfl (by decide) (by decide) ?_
    show own_S p e below m T753 322 L757 [] _
    refine wgoto X753 hx hby k12_322 322 111 rfl (by decide) (by decide) ?_
    refine wiload X753 hx hby k12_111 L757_14 ?_
    refine wiload X753 hx hby k12_113 L757_5 ?_
    refine wicmpYes X753 hx hby k12_115 115 125 rfl (by decide) (by decide) (by decide) ?_
    show own_S p e below m T753 125 L757 [] _
    refine wiload X753 hx hby k12_125 L757_14 ?_
    refine wiload X753 hx hby k12_127 L757_5 ?_
    refine wicmpNo X753 hx hby k12_129 (by decide) ?_
    refine waloadN X753 hx hby k12_132 L757_3 rfl ?_
    show own_S p e below m T753 133 L757 [(.ref cb)] _
    refine wiload X753 hx hby k12_133 L757_14 ?_
    refine wiaload X753 hx hby hZ e753 V_cb 1 rfl (by decide) (by decide) (v := (.int u1)) rfl k12_135 ?_
    refine wgoto X753 hx hby k12_136 136 141 rfl (by decide) (by decide) ?_
    refine wistore X753 hx hby k12_141 hL757 hL758 rfl ?_
    show own_S p e below m T753 143 L758 [] _
    refine wiload X753 hx hby k12_143 L758_15 ?_
    refine wiload X753 hx hby k12_145 L758_8 ?_
    refine wicmpNo X753 hx hby k12_147 (by decide) ?_
    refine waload X753 hx hby k12_150 L758_6 rfl ?_
    show own_S p e below m T753 152 L758 [(.ref pb)] _
    refine wiload X753 hx hby k12_152 L758_15 ?_
    refine wiaload X753 hx hby hZ e753 V_pb 0 rfl (by decide) (by rcases hnp with rfl | rfl <;> decide) (v := (.int i)) rfl k12_154 ?_
    refine wgoto X753 hx hby k12_155 155 160 rfl (by decide) (by decide) ?_
    refine wistore X753 hx hby k12_160 hL758 hL759 rfl ?_
    show own_S p e below m T753 162 L759 [] _
    refine wiload X753 hx hby k12_162 L759_16 ?_
    refine wiloadN X753 hx hby k12_164 L759_2 ?_
    refine wicmpYes X753 hx hby k12_165 165 174 rfl (feq hu).2 (by decide) (by decide) ?_
    refine wiload X753 hx hby k12_174 L759_17 ?_
    show own_S p e below m T753 176 L759 [(.int i)] _
    refine wiloadN X753 hx hby k12_176 L759_1 ?_
    refine wicmpNo X753 hx hby k12_177 (teq rfl).2 ?_
    refine wdload X753 hx hby k12_180 L759_11 ?_
    refine wdload X753 hx hby k12_182 L759_9 ?_
    show own_S p e below m T753 184 L759 [(.double w0), (.double FP.dconst0)] _
    refine waload X753 hx hby k12_184 L759_7 rfl ?_
    refine wiload X753 hx hby k12_186 L759_15 ?_
    refine wiinc X753 hx hby k12_188 L759_15 hL759 hL760 rfl ?_
    refine wdaload X753 hx hby hZ e753 V_eb 0 rfl (by decide) (by rcases hnp with rfl | rfl <;> decide) (v := (.double c0)) rfl k12_191 ?_
    show own_S p e below m T753 192 L760 [(.double c0), (.double w0), (.double FP.dconst0)] _
    refine XS.dmulS X753.here hx rfl (v := (FP.dmul w0 c0)) (hb hby k12_192) rfl fac.1 rfl ?_
    refine XS.daddS X753.here hx rfl (v := ow) (hb hby k12_193) rfl fac.2.1 fac.2.2.1 ?_
    refine XS.dstore X753.here hx rfl (hb hby k12_194) rfl (l' := L761) (by rw [hL760, hL761]; rfl) ?_
    refine wgoto X753 hx hby k12_196 196 322 rfl (by decide) (by decide) ?_
    show own_S p e below m T753 322 L761 [] _
    refine wgoto X753 hx hby k12_322 322 111 rfl (by decide) (by decide) ?_
    refine wiload X753 hx hby k12_111 L761_14 ?_
    refine wiload X753 hx hby k12_113 L761_5 ?_
    refine wicmpYes X753 hx hby k12_115 115 125 rfl (by decide) (by decide) (by decide) ?_
    show own_S p e below m T753 125 L761 [] _
    refine wiload X753 hx hby k12_125 L761_14 ?_
    refine wiload X753 hx hby k12_127 L761_5 ?_
    refine wicmpNo X753 hx hby k12_129 (by decide) ?_
    refine waloadN X753 hx hby k12_132 L761_3 rfl ?_
    show own_S p e below m T753 133 L761 [(.ref cb)] _
    refine wiload X753 hx hby k12_133 L761_14 ?_
    refine wiaload X753 hx hby hZ e753 V_cb 1 rfl (by decide) (by decide) (v := (.int u1)) rfl k12_135 ?_
    refine wgoto X753 hx hby k12_136 136 141 rfl (by decide) (by decide) ?_
    refine wistore X753 hx hby k12_141 hL761 hL762 rfl ?_
    show own_S p e below m T753 143 L762 [] _
    refine wiload X753 hx hby k12_143 L762_15 ?_
    refine wiload X753 hx hby k12_145 L762_8 ?_
    refine wicmpYes X753 hx hby k12_147 147 158 rfl (by decide) (by decide) (by decide) ?_
    refine X753.ldcI hx hown (mvT hZ (hw _ tm106)) (g := (mkF m 158 L762 [])) rfl (hb hby k12_158) ?_
    show own_S p e below m T753 160 L762 [(.int 2147483647)] _
    refine wistore X753 hx hby k12_160 hL762 hL763 rfl ?_
    refine wiload X753 hx hby k12_162 L763_16 ?_
    refine wiloadN X753 hx hby k12_164 L763_2 ?_
    refine wicmpYes X753 hx hby k12_165 165 174 rfl (feq hu).2 (by decide) (by decide) ?_
    show own_S p e below m T753 174 L763 [] _
    refine wiload X753 hx hby k12_174 L763_17 ?_
    refine wiloadN X753 hx hby k12_176 L763_1 ?_
    refine wicmpYes X753 hx hby k12_177 177 199 rfl (feq (own_3m hi3)).2 (by decide) (by decide) ?_
    refine wiload X753 hx hby k12_199 L763_16 ?_
    show own_S p e below m T753 201 L763 [(.int u1)] _
    refine wiload X753 hx hby k12_201 L763_17 ?_
    refine wicmpNo X753 hx hby k12_203 (tlt (own_3n hu3)).2.1 ?_
    refine waloadN X753 hx hby k12_206 L763_0 rfl ?_
    refine st764 _ ?_
    show own_S p e below m T764 210 L763 [(.ref mc)] _
    refine wiload X764 hx hby k12_210 L763_13 ?_
    refine wiload X764 hx hby k12_212 L763_16 ?_
    refine st766 _ ?_
    refine waloadN X766 hx hby k12_215 L763_0 rfl ?_
    show own_S p e below m T766 216 L763 [(.ref a1)] _
    refine st768 _ ?_
    refine wiload X768 hx hby k12_219 L763_13 ?_
    refine wiinc X768 hx hby k12_221 L763_13 hL763 hL769 rfl ?_
    refine waload X768 hx hby k12_224 L769_4 rfl ?_
    show own_S p e below m T768 226 L769 [(.ref db), (.int 0), (.ref md)] _
    refine wiload X768 hx hby k12_226 L769_14 ?_
    refine wiinc X768 hx hby k12_228 L769_14 hL769 hL770 rfl ?_
    refine wdaload X768 hx hby hZ e768 f771 1 rfl (by decide) (by decide) (v := (.double w1)) rfl k12_231 ?_
    refine st774 _ ?_
    show own_S p e below m T774 233 L770 [] _
    refine wgoto X774 hx hby k12_233 233 322 rfl (by decide) (by decide) ?_
    refine wgoto X774 hx hby k12_322 322 111 rfl (by decide) (by decide) ?_
    refine wiload X774 hx hby k12_111 L770_14 ?_
    refine wiload X774 hx hby k12_113 L770_5 ?_
    show own_S p e below m T774 115 L770 [(.int 2), (.int 2)] _
    refine wicmpNo X774 hx hby k12_115 (by decide) ?_
    refine wiload X774 hx hby k12_118 L770_15 ?_
    refine wiload X774 hx hby k12_120 L770_8 ?_
    refine wicmpYes X774 hx hby k12_122 122 325 rfl (by decide) (by decide) (by decide) ?_
    show own_S p e below m T774 325 L770 [] _
    refine wdload X774 hx hby k12_325 L770_11 ?_
    refine XS.dconst1 X774.here hx rfl (v := FP.dconst1) (hb hby k12_327) rfl ?_
    refine XS.dcmpS X774.here hx rfl (v := (-1 : Int32)) (hb hby k12_328) rfl (own_v_lt fac.2.2.2.2.2.2.1 .g) ?_
    refine wifYes X774 hx hby k12_329 329 334 rfl (by decide) (by decide) (by decide) ?_
    show own_S p e below m T774 334 L770 [] _
    refine XS.dconst1 X774.here hx rfl (v := FP.dconst1) (hb hby k12_334) rfl ?_
    refine XS.dstore X774.here hx rfl (hb hby k12_335) rfl (l' := L775) (by rw [hL770, hL775]; rfl) ?_
    refine wdload X774 hx hby k12_337 L775_11 ?_
    refine XS.dconst0 X774.here hx rfl (v := FP.dconst0) (hb hby k12_339) rfl ?_
    show own_S p e below m T774 340 L775 [(.double FP.dconst0), (.double ow)] _
    refine XS.dcmpS X774.here hx rfl (v := (1 : Int32)) (hb hby k12_340) rfl (own_v_gt fac.2.2.2.2.2.2.2 .l) ?_
    refine wifNo X774 hx hby k12_341 (by decide) ?_
    refine XS.dconst1 X774.here hx rfl (v := FP.dconst1) (hb hby k12_344) rfl ?_
    refine XS.dconst1 X774.here hx rfl (v := FP.dconst1) (hb hby k12_345) rfl ?_
    show own_S p e below m T774 346 L775 [(.double FP.dconst1), (.double FP.dconst1)] _
    refine wdload X774 hx hby k12_346 L775_11 ?_
    refine XS.dsubS X774.here hx rfl (v := (FP.dsub FP.dconst1 ow)) (hb hby k12_348) rfl fac.2.2.2.1 rfl ?_
    refine XS.ddivS X774.here hx rfl (v := sc) (hb hby k12_349) rfl fac.2.2.2.2.1 fac.2.2.2.2.2.1 ?_
    refine XS.dstore X774.here hx rfl (hb hby k12_350) rfl (l' := L776) (by rw [hL775, hL776]; rfl) ?_
    show own_S p e below m T774 352 L776 [] _
    refine wiconst X774 hx hby k12_352 ?_
    refine wistore X774 hx hby k12_353 hL776 hL777 rfl ?_
    refine wiload X774 hx hby k12_355 L777_18 ?_
    refine wiload X774 hx hby k12_357 L777_13 ?_
    show own_S p e below m T774 359 L777 [(.int 1), (.int 0)] _
    refine wicmpNo X774 hx hby k12_359 (by decide) ?_
    refine waloadN X774 hx hby k12_362 L777_0 rfl ?_
    refine st779 _ ?_
    refine wiload X779 hx hby k12_366 L777_18 ?_
    show own_S p e below m T779 368 L777 [(.int 0), (.ref md)] _
    jvm_step X779.here [X779.here.top, hx, (hb hby k12_368), Value.category]
    show own_S p e below m T779 369 L777 [(.int 0), (.ref md), (.int 0), (.ref md)] _
    refine wdaload X779 hx hby hZ e779 f773 0 rfl (by decide) (by decide) (v := (.double w1)) rfl k12_369 ?_
    refine wdload X779 hx hby k12_370 L777_16 ?_
    refine XS.dmulS X779.here hx rfl (v := (FP.dmul w1 sc)) (hb hby k12_372) rfl nw rfl ?_
    refine st781 _ ?_
    show own_S p e below m T781 374 L777 [] _
    refine wiinc X781 hx hby k12_374 L777_18 hL777 hL782 rfl ?_
    refine wgoto X781 hx hby k12_377 377 355 rfl (by decide) (by decide) ?_
    refine wiload X781 hx hby k12_355 L782_18 ?_
    refine wiload X781 hx hby k12_357 L782_13 ?_
    show own_S p e below m T781 359 L782 [(.int 1), (.int 1)] _
    refine wicmpYes X781 hx hby k12_359 359 380 rfl (by decide) (by decide) (by decide) ?_
    refine st796 _ ?_
    refine wiconst X796 hx hby k12_486 ?_
    exact retN X796 hx (t := .boolean) Bd.returns (by simp) (hb hby k12_487) hr
  · show QS11 Z a1 oc od mc md sr sp sw ss co cf le re rc k_co k_cf k_le k_mc k_md k_sr k_sp k_sw k_ss r en wk st ol i q u1 x0 x1 y0 y1 w0 w1 cb db pb eb kcb kdb cs fl ls zr zp zw zs np g1 c0 c1 ow sc kpb keb h0 n0 _ T796.heap _
    rw [e796]
    exact ⟨rfl, N796, f797, Oa796, f798, f799, Fle796, Fsr796, Fsp796, Fsw796, Fss796, Fcb796, Fdb796⟩
set_option maxRecDepth 65536 in
set_option maxHeartbeats 40000000 in
theorem elS0 {p : Program} {l : Launch} {e : Env} {s : State} {m : MethodId} {args : Array Value} {below : List Frame} {meth : Method} {c : Code} {T0 : State} {locs : List Loc} (Z : State) (a0 : Array Value) (hw : ∀ d ∈ tables_1, d.before a0 Z = true) (a1 oc od mc md sr sp sw ss co cf le re rc : Nat) (k_co k_cf k_le k_mc k_md k_sr k_sp k_sw k_ss : ClassId) (r : Int32) (wk : Int64) (fa fd fe : Bool) (ca da cb db cc dc : Nat) (kca kda kcb kdb kcc kdc : ClassId) (x0 x1 : Int32) (y0 y1 va vc vd ow sc : UInt64) (LL : Array Slot) (h0 : Heap) (n0 : Nat) (X0 : Stand p l e ({ frames := 3, cells := 0, slots := 0, locals := 70 } : Room) s m args below meth c T0 locs 0 0) (hx : p.tables.exec = Jvm.exec) (hZ : Z.Warmed39 s.vm) (hby : c.code = prog_14_method_4_code) (hml : c.maxLocals = 8) (hown : s.vm.findClass "com/example/odds2/odds2/engine/Elimination" = some m.cls) (e0 : T0.heap = h0) (N0 : Fr n0 locs) (Z0 : n0 ≤ h0.size) (LL_0 : LL[0]? = some (.val (.ref a1))) (LL_5 : LL[5]? = some (.val (.int 0))) (LL_7 : LL[7]? = some (.val (.int 1))) (hsz : LL.size = c.maxLocals) (O_a : own_E Z h0 a1 oc od mc md sr sp sw ss co cf le re rc r (own_en fa true fd fe) wk (0 : Int32) (0 : Int32)) (V_co : Arv Z h0 co k_co (.array .int) (3 : Int32) [(.ref ca), (.ref cb), (.ref cc)] .null) (V_cf : Arv Z h0 cf k_cf (.array .double) (3 : Int32) [(.ref da), (.ref db), (.ref dc)] .null) (V_le : Arv Z h0 le k_le .int 3 [(.int (own_i fa)), (.int (own_lb true fd)), (.int (own_i fe))] (.int 0)) (V_mc : Arv Z h0 mc k_mc .int 16 [(.int x0), (.int x1)] (.int 0)) (V_md : Arv Z h0 md k_md .double 16 [(.double y0), (.double y1)] (.double 0)) (V_sr : Arv Z h0 sr k_sr .int 16 [(.int 0), (.int 0)] (.int 0)) (V_sp : Arv Z h0 sp k_sp .int 16 [(.int 0), (.int 0)] (.int 0)) (V_sw : Arv Z h0 sw k_sw .double 16 [(.double 0), (.double 0)] (.double 0)) (V_ss : Arv Z h0 ss k_ss .double 16 [(.double 0), (.double 0)] (.double 0)) (V_ca : Arv Z h0 ca kca .int (own_i fa) [(.int 1), (.int 0)] (.int 0)) (V_da : Arv Z h0 da kda .double (own_i fa) [(.double va), (.double 0)] (.double 0)) (V_cb : Arv Z h0 cb kcb .int (own_lb true fd) [(.int 0), (.int 2)] (.int 0)) (V_db : Arv Z h0 db kdb .double (own_lb true fd) [(.double vc), (.double vd)] (.double 0)) (fac : fa = true → own_fac vc va ow sc) (nw : fa = true → fd = true → NoNaN64 (FP.dmul vd sc)) (p1 : rc < ca) (p2 : ca < da) (p3 : da < cb) (p4 : cb < db) (p5 : db < cc) (p6 : cc < dc) (ord : own_ord a1 oc od mc md sr sp sw ss co cf le re rc) (g_a : n0 ≤ a1) :
    ∃ (T' : State) (h' : Heap) (L' : List Loc) (x0' : Int32) (x1' : Int32) (y0' : UInt64) (y1' : UInt64) (t0 : Int32) (t1 : Int32) (s0 : UInt64) (s1 : UInt64), Stand p l e ({ frames := 3, cells := 0, slots := 0, locals := 70 } : Room) s m args below meth c T' L' 0 0 ∧ T'.heap = h' ∧ Fr n0 L' ∧ Keep h0 h' [a1, mc, md, le, sr, sp, sw, ss, cb, db] ∧ own_E Z h' a1 oc od mc md sr sp sw ss co cf le re rc r (own_en fa true fd fe + own_de fd) wk (0 : Int32) ((0 : Int32) + (1 : Int32)) ∧ Arv Z h' mc k_mc .int 16 [(.int x0'), (.int x1')] (.int 0) ∧ Arv Z h' md k_md .double 16 [(.double y0'), (.double y1')] (.double 0) ∧ Arv Z h' le k_le .int 3 [(.int (own_i fa)), (.int (own_i fd)), (.int (own_i fe))] (.int 0) ∧ Arv Z h' sr k_sr .int 16 [(.int 1), (.int 0)] (.int 0) ∧ Arv Z h' sp k_sp .int 16 [(.int 0), (.int 0)] (.int 0) ∧ Arv Z h' sw k_sw .double 16 [(.double vc), (.double 0)] (.double 0) ∧ Arv Z h' ss k_ss .double 16 [(.double (cond fa sc FP.dconst1)), (.double 0)] (.double 0) ∧ Arv Z h' cb kcb .int (own_lb true fd) [(.int t0), (.int t1)] (.int 0) ∧ Arv Z h' db kdb .double (own_lb true fd) [(.double s0), (.double s1)] (.double 0) ∧ (fd = true → t0 = 2 ∧ s0 = cond fa (FP.dmul vd sc) vd) ∧ ∀ target, own_S p e below m T' 109 LL [] target → own_S p e below m T0 98 LL [] target := by
  have hl := own_laid_of hw
  obtain ⟨or0, or1, or2, or3, or4, or5, or6, or7, or8, or9, or10, or11, or12⟩ := id ord
  rcases fa with _ | _ <;> rcases fd with _ | _
  · obtain ⟨cq800, qa800, qb800⟩ := O_a.1.cell
    obtain ⟨_, _, ⟨T800, LL800, kk800, nn800⟩, -, X800, ⟨Lc800, hQ800, l800, y800, z800⟩, st800⟩ := X0.privateBack hx (y := (⟨"com/example/odds2/odds2/engine/Elimination", "substitute", "(II)Z"⟩ : MethodName)) hown (mvT hZ (hw _ tm93)) (mvT hZ (hw _ tm94)) (own_sel hZ hw (hw _ tm95) (hw _ tm94)) (Cond.privateMethod_at (mvP hZ (hw _ tm95) (args := #[]))) (mvT hZ (hw _ tm96)) (by decide) (backOf (W := 0) (rmS00 l Z a0 hw [] a1 oc od mc md sr sp sw ss co cf le re rc k_co k_cf k_le k_mc k_md k_sr k_sp k_sw k_ss r (own_en false true false fe) wk (0 : Int32) (0 : Int32) (1 : Int32) (0 : Int32) (2 : Int32) x0 x1 y0 y1 vc vd cb db ca da kcb kdb [(.ref ca), (.ref cb), (.ref cc)] [(.ref da), (.ref db), (.ref dc)] [(.int 0), (.int 1), (.int (own_i fe))] [(.int 0), (.int 0)] [(.int 0), (.int 0)] [(.double 0), (.double 0)] [(.double 0), (.double 0)] h0 n0 Z0 O_a V_co V_cf V_le V_mc V_md V_sr V_sp V_sw V_ss V_cb V_db (by unfold own_3; decide) (by unfold own_3; decide) rfl rfl rfl rfl rfl rfl rfl rfl rfl rfl rfl (by unfold own_01; decide) (by omega) p4 ord g_a) hZ (hw _ tm96) (hw _ tm7) (by decide) (by decide)) (g := (mkF m 103 LL [(.int 0), (.int 1), (.ref a1)])) rfl hsz (Steps.refl _) (a := a1) (by rw [e0]; exact qa800) qb800 (argsL := [(.int 1), (.int 0)]) (rest := []) (lenOf pd_8 rfl) rfl (by show 2 * 0 + _ ≤ _; exact Nat.le_of_eq rfl) (hb hby k13_103) (fun _ _ => ⟨rfl, e0, (by decide : 0 + 0 ≤ _), (by decide : 0 + 0 ≤ _)⟩)
    dsimp only [Pt.U, Pt.locs, Pt.cells, Pt.slots] at X800 l800 y800 z800 st800 hQ800
    subst l800 y800 z800
    obtain ⟨rfl, N800q, K800, Oa800, Fmc800, Fmd800, Fle800, Fsr800, Fsp800, Fsw800, Fss800, Fcb800, Fdb800⟩ := hQ800
    have N800 := Fr.app N0 N800q
    have f801 := ((Keep.refl h0 [a1, mc, md, le, sr, sp, sw, ss, cb, db]).trans K800 (allS (Or.inl (List.mem_of_getElem? (i := 0) rfl)) (allS (Or.inl (List.mem_of_getElem? (i := 1) rfl)) (allS (Or.inl (List.mem_of_getElem? (i := 2) rfl)) (allS (Or.inl (List.mem_of_getElem? (i := 3) rfl)) (allS (Or.inl (List.mem_of_getElem? (i := 4) rfl)) (allS (Or.inl (List.mem_of_getElem? (i := 5) rfl)) (allS (Or.inl (List.mem_of_getElem? (i := 6) rfl)) (allS (Or.inl (List.mem_of_getElem? (i := 7) rfl)) (allS (Or.inl (List.mem_of_getElem? (i := 8) rfl)) (allS (Or.inl (List.mem_of_getElem? (i := 9) rfl)) all0)))))))))))
    refine ⟨T800, _, _, x0, x1, y0, y1, (0 : Int32), (2 : Int32), vc, vd, X800, rfl, N800, (f801), Oa800, Fmc800, Fmd800, Fle800, Fsr800, Fsp800, Fsw800, Fss800, Fcb800, Fdb800, (fun q => nomatch q), fun target kt => ?_⟩
    show own_S p e below m T0 98 LL [] _
    refine waloadN X0 hx hby k13_98 LL_0 rfl ?_
    refine wiload X0 hx hby k13_99 LL_7 ?_
    refine wiload X0 hx hby k13_101 LL_5 ?_
    refine st800.trans ?_
    show own_S p e below m T800 106 LL [(.int 1)] _
    refine wifNo X800 hx hby k13_106 (by decide) ?_
    exact kt
  · obtain ⟨cq802, qa802, qb802⟩ := O_a.1.cell
    obtain ⟨_, _, ⟨T802, LL802, kk802, nn802⟩, -, X802, ⟨Lc802, hQ802, l802, y802, z802⟩, st802⟩ := X0.privateBack hx (y := (⟨"com/example/odds2/odds2/engine/Elimination", "substitute", "(II)Z"⟩ : MethodName)) hown (mvT hZ (hw _ tm93)) (mvT hZ (hw _ tm94)) (own_sel hZ hw (hw _ tm95) (hw _ tm94)) (Cond.privateMethod_at (mvP hZ (hw _ tm95) (args := #[]))) (mvT hZ (hw _ tm96)) (by decide) (backOf (W := 0) (rmS01 l Z a0 hw [] a1 oc od mc md sr sp sw ss co cf le re rc k_co k_cf k_le k_mc k_md k_sr k_sp k_sw k_ss r (own_en false true true fe) wk (0 : Int32) (0 : Int32) (1 : Int32) (0 : Int32) (2 : Int32) x0 x1 y0 y1 vc vd cb db ca da kcb kdb [(.ref ca), (.ref cb), (.ref cc)] [(.ref da), (.ref db), (.ref dc)] [(.int 0), (.int 2), (.int (own_i fe))] [(.int 0), (.int 0)] [(.int 0), (.int 0)] [(.double 0), (.double 0)] [(.double 0), (.double 0)] h0 n0 Z0 O_a V_co V_cf V_le V_mc V_md V_sr V_sp V_sw V_ss V_cb V_db (by unfold own_3; decide) (by unfold own_3; decide) rfl rfl rfl rfl rfl rfl rfl rfl rfl rfl rfl (by unfold own_01; decide) (by omega) p4 (by unfold own_3; decide) (by decide) ord g_a) hZ (hw _ tm96) (hw _ tm7) (by decide) (by decide)) (g := (mkF m 103 LL [(.int 0), (.int 1), (.ref a1)])) rfl hsz (Steps.refl _) (a := a1) (by rw [e0]; exact qa802) qb802 (argsL := [(.int 1), (.int 0)]) (rest := []) (lenOf pd_8 rfl) rfl (by show 2 * 0 + _ ≤ _; exact Nat.le_of_eq rfl) (hb hby k13_103) (fun _ _ => ⟨rfl, e0, (by decide : 0 + 0 ≤ _), (by decide : 0 + 0 ≤ _)⟩)
    dsimp only [Pt.U, Pt.locs, Pt.cells, Pt.slots] at X802 l802 y802 z802 st802 hQ802
    subst l802 y802 z802
    obtain ⟨rfl, N802q, K802, Oa802, Fmc802, Fmd802, Fle802, Fsr802, Fsp802, Fsw802, Fss802, Fcb802, Fdb802⟩ := hQ802
    have N802 := Fr.app N0 N802q
    have f803 := ((Keep.refl h0 [a1, mc, md, le, sr, sp, sw, ss, cb, db]).trans K802 (allS (Or.inl (List.mem_of_getElem? (i := 0) rfl)) (allS (Or.inl (List.mem_of_getElem? (i := 1) rfl)) (allS (Or.inl (List.mem_of_getElem? (i := 2) rfl)) (allS (Or.inl (List.mem_of_getElem? (i := 3) rfl)) (allS (Or.inl (List.mem_of_getElem? (i := 4) rfl)) (allS (Or.inl (List.mem_of_getElem? (i := 5) rfl)) (allS (Or.inl (List.mem_of_getElem? (i := 6) rfl)) (allS (Or.inl (List.mem_of_getElem? (i := 7) rfl)) (allS (Or.inl (List.mem_of_getElem? (i := 8) rfl)) (allS (Or.inl (List.mem_of_getElem? (i := 9) rfl)) all0)))))))))))
    refine ⟨T802, _, _, (2 : Int32), x1, vd, y1, (2 : Int32), (2 : Int32), vd, vd, X802, rfl, N802, (f803), Oa802, Fmc802, Fmd802, Fle802, Fsr802, Fsp802, Fsw802, Fss802, Fcb802, Fdb802, (fun _ => ⟨rfl, rfl⟩), fun target kt => ?_⟩
    show own_S p e below m T0 98 LL [] _
    refine waloadN X0 hx hby k13_98 LL_0 rfl ?_
    refine wiload X0 hx hby k13_99 LL_7 ?_
    refine wiload X0 hx hby k13_101 LL_5 ?_
    refine st802.trans ?_
    show own_S p e below m T802 106 LL [(.int 1)] _
    refine wifNo X802 hx hby k13_106 (by decide) ?_
    exact kt
  · obtain ⟨cq804, qa804, qb804⟩ := O_a.1.cell
    obtain ⟨_, _, ⟨T804, LL804, kk804, nn804⟩, -, X804, ⟨Lc804, hQ804, l804, y804, z804⟩, st804⟩ := X0.privateBack hx (y := (⟨"com/example/odds2/odds2/engine/Elimination", "substitute", "(II)Z"⟩ : MethodName)) hown (mvT hZ (hw _ tm93)) (mvT hZ (hw _ tm94)) (own_sel hZ hw (hw _ tm95) (hw _ tm94)) (Cond.privateMethod_at (mvP hZ (hw _ tm95) (args := #[]))) (mvT hZ (hw _ tm96)) (by decide) (backOf (W := 0) (rmS10 l Z a0 hw [] a1 oc od mc md sr sp sw ss co cf le re rc k_co k_cf k_le k_mc k_md k_sr k_sp k_sw k_ss r (own_en true true false fe) wk (0 : Int32) (0 : Int32) (1 : Int32) (0 : Int32) (2 : Int32) x0 x1 y0 y1 vc vd cb db ca da kcb kdb [(.ref ca), (.ref cb), (.ref cc)] [(.ref da), (.ref db), (.ref dc)] [(.int 1), (.int 1), (.int (own_i fe))] [(.int 0), (.int 0)] [(.int 0), (.int 0)] [(.double 0), (.double 0)] [(.double 0), (.double 0)] (1 : Int32) (0 : Int32) va (0 : UInt64) ow sc kca kda h0 n0 Z0 O_a V_co V_cf V_le V_mc V_md V_sr V_sp V_sw V_ss V_cb V_db (by unfold own_3; decide) (by unfold own_3; decide) rfl rfl rfl rfl rfl rfl rfl rfl rfl rfl rfl (by unfold own_01; decide) (by omega) p4 V_ca V_da (by unfold own_12; decide) (by omega) (by omega) (fac rfl) ord g_a) hZ (hw _ tm96) (hw _ tm7) (by decide) (by decide)) (g := (mkF m 103 LL [(.int 0), (.int 1), (.ref a1)])) rfl hsz (Steps.refl _) (a := a1) (by rw [e0]; exact qa804) qb804 (argsL := [(.int 1), (.int 0)]) (rest := []) (lenOf pd_8 rfl) rfl (by show 2 * 0 + _ ≤ _; exact Nat.le_of_eq rfl) (hb hby k13_103) (fun _ _ => ⟨rfl, e0, (by decide : 0 + 0 ≤ _), (by decide : 0 + 0 ≤ _)⟩)
    dsimp only [Pt.U, Pt.locs, Pt.cells, Pt.slots] at X804 l804 y804 z804 st804 hQ804
    subst l804 y804 z804
    obtain ⟨rfl, N804q, K804, Oa804, Fmc804, Fmd804, Fle804, Fsr804, Fsp804, Fsw804, Fss804, Fcb804, Fdb804⟩ := hQ804
    have N804 := Fr.app N0 N804q
    have f805 := ((Keep.refl h0 [a1, mc, md, le, sr, sp, sw, ss, cb, db]).trans K804 (allS (Or.inl (List.mem_of_getElem? (i := 0) rfl)) (allS (Or.inl (List.mem_of_getElem? (i := 1) rfl)) (allS (Or.inl (List.mem_of_getElem? (i := 2) rfl)) (allS (Or.inl (List.mem_of_getElem? (i := 3) rfl)) (allS (Or.inl (List.mem_of_getElem? (i := 4) rfl)) (allS (Or.inl (List.mem_of_getElem? (i := 5) rfl)) (allS (Or.inl (List.mem_of_getElem? (i := 6) rfl)) (allS (Or.inl (List.mem_of_getElem? (i := 7) rfl)) (allS (Or.inl (List.mem_of_getElem? (i := 8) rfl)) (allS (Or.inl (List.mem_of_getElem? (i := 9) rfl)) all0)))))))))))
    refine ⟨T804, _, _, x0, x1, y0, y1, (0 : Int32), (2 : Int32), vc, vd, X804, rfl, N804, (f805), Oa804, Fmc804, Fmd804, Fle804, Fsr804, Fsp804, Fsw804, Fss804, Fcb804, Fdb804, (fun q => nomatch q), fun target kt => ?_⟩
    show own_S p e below m T0 98 LL [] _
    refine waloadN X0 hx hby k13_98 LL_0 rfl ?_
    refine wiload X0 hx hby k13_99 LL_7 ?_
    refine wiload X0 hx hby k13_101 LL_5 ?_
    refine st804.trans ?_
    show own_S p e below m T804 106 LL [(.int 1)] _
    refine wifNo X804 hx hby k13_106 (by decide) ?_
    exact kt
  · obtain ⟨cq806, qa806, qb806⟩ := O_a.1.cell
    obtain ⟨_, _, ⟨T806, LL806, kk806, nn806⟩, -, X806, ⟨Lc806, hQ806, l806, y806, z806⟩, st806⟩ := X0.privateBack hx (y := (⟨"com/example/odds2/odds2/engine/Elimination", "substitute", "(II)Z"⟩ : MethodName)) hown (mvT hZ (hw _ tm93)) (mvT hZ (hw _ tm94)) (own_sel hZ hw (hw _ tm95) (hw _ tm94)) (Cond.privateMethod_at (mvP hZ (hw _ tm95) (args := #[]))) (mvT hZ (hw _ tm96)) (by decide) (backOf (W := 0) (rmS11 l Z a0 hw [] a1 oc od mc md sr sp sw ss co cf le re rc k_co k_cf k_le k_mc k_md k_sr k_sp k_sw k_ss r (own_en true true true fe) wk (0 : Int32) (0 : Int32) (1 : Int32) (0 : Int32) (2 : Int32) x0 x1 y0 y1 vc vd cb db ca da kcb kdb [(.ref ca), (.ref cb), (.ref cc)] [(.ref da), (.ref db), (.ref dc)] [(.int 1), (.int 2), (.int (own_i fe))] [(.int 0), (.int 0)] [(.int 0), (.int 0)] [(.double 0), (.double 0)] [(.double 0), (.double 0)] (1 : Int32) (0 : Int32) va (0 : UInt64) ow sc kca kda h0 n0 Z0 O_a V_co V_cf V_le V_mc V_md V_sr V_sp V_sw V_ss V_cb V_db (by unfold own_3; decide) (by unfold own_3; decide) rfl rfl rfl rfl rfl rfl rfl rfl rfl rfl rfl (by unfold own_01; decide) (by omega) p4 V_ca V_da (by unfold own_12; decide) (by omega) (by omega) (fac rfl) (by unfold own_3; decide) (by decide) (nw rfl rfl) ord g_a) hZ (hw _ tm96) (hw _ tm7) (by decide) (by decide)) (g := (mkF m 103 LL [(.int 0), (.int 1), (.ref a1)])) rfl hsz (Steps.refl _) (a := a1) (by rw [e0]; exact qa806) qb806 (argsL := [(.int 1), (.int 0)]) (rest := []) (lenOf pd_8 rfl) rfl (by show 2 * 0 + _ ≤ _; exact Nat.le_of_eq rfl) (hb hby k13_103) (fun _ _ => ⟨rfl, e0, (by decide : 0 + 0 ≤ _), (by decide : 0 + 0 ≤ _)⟩)
    dsimp only [Pt.U, Pt.locs, Pt.cells, Pt.slots] at X806 l806 y806 z806 st806 hQ806
    subst l806 y806 z806
    obtain ⟨rfl, N806q, K806, Oa806, Fmc806, Fmd806, Fle806, Fsr806, Fsp806, Fsw806, Fss806, Fcb806, Fdb806⟩ := hQ806
    have N806 := Fr.app N0 N806q
    have f807 := ((Keep.refl h0 [a1, mc, md, le, sr, sp, sw, ss, cb, db]).trans K806 (allS (Or.inl (List.mem_of_getElem? (i := 0) rfl)) (allS (Or.inl (List.mem_of_getElem? (i := 1) rfl)) (allS (Or.inl (List.mem_of_getElem? (i := 2) rfl)) (allS (Or.inl (List.mem_of_getElem? (i := 3) rfl)) (allS (Or.inl (List.mem_of_getElem? (i := 4) rfl)) (allS (Or.inl (List.mem_of_getElem? (i := 5) rfl)) (allS (Or.inl (List.mem_of_getElem? (i := 6) rfl)) (allS (Or.inl (List.mem_of_getElem? (i := 7) rfl)) (allS (Or.inl (List.mem_of_getElem? (i := 8) rfl)) (allS (Or.inl (List.mem_of_getElem? (i := 9) rfl)) all0)))))))))))
    refine ⟨T806, _, _, (2 : Int32), x1, (FP.dmul vd sc), y1, (2 : Int32), (2 : Int32), (FP.dmul vd sc), vd, X806, rfl, N806, (f807), Oa806, Fmc806, Fmd806, Fle806, Fsr806, Fsp806, Fsw806, Fss806, Fcb806, Fdb806, (fun _ => ⟨rfl, rfl⟩), fun target kt => ?_⟩
    show own_S p e below m T0 98 LL [] _
    refine waloadN X0 hx hby k13_98 LL_0 rfl ?_
    refine wiload X0 hx hby k13_99 LL_7 ?_
    refine wiload X0 hx hby k13_101 LL_5 ?_
    refine st806.trans ?_
    show own_S p e below m T806 106 LL [(.int 1)] _
    refine wifNo X806 hx hby k13_106 (by decide) ?_
    exact kt
set_option maxRecDepth 65536 in
set_option maxHeartbeats 40000000 in
theorem elS1 {p : Program} {l : Launch} {e : Env} {s : State} {m : MethodId} {args : Array Value} {below : List Frame} {meth : Method} {c : Code} {T0 : State} {locs : List Loc} (Z : State) (a0 : Array Value) (hw : ∀ d ∈ tables_1, d.before a0 Z = true) (a1 oc od mc md sr sp sw ss co cf le re rc : Nat) (k_co k_cf k_le k_mc k_md k_sr k_sp k_sw k_ss : ClassId) (r : Int32) (en wk : Int64) (fa fc fd : Bool) (ca da cb db cc dc : Nat) (kca kda kcb kdb kcc kdc : ClassId) (x0 x1 : Int32) (y0 y1 : UInt64) (nb t0 t1 : Int32) (s0 s1 ve ow sc : UInt64) (zr zp zw zs : List Value) (LL : Array Slot) (h0 : Heap) (n0 : Nat) (X0 : Stand p l e ({ frames := 3, cells := 0, slots := 0, locals := 70 } : Room) s m args below meth c T0 locs 0 0) (hx : p.tables.exec = Jvm.exec) (hZ : Z.Warmed39 s.vm) (hby : c.code = prog_14_method_4_code) (hml : c.maxLocals = 8) (hown : s.vm.findClass "com/example/odds2/odds2/engine/Elimination" = some m.cls) (e0 : T0.heap = h0) (N0 : Fr n0 locs) (Z0 : n0 ≤ h0.size) (LL_0 : LL[0]? = some (.val (.ref a1))) (LL_5 : LL[5]? = some (.val (.int 1))) (LL_7 : LL[7]? = some (.val (.int 2))) (hsz : LL.size = c.maxLocals) (O_a : own_E Z h0 a1 oc od mc md sr sp sw ss co cf le re rc r en wk (0 : Int32) (own_i fc)) (V_co : Arv Z h0 co k_co (.array .int) (3 : Int32) [(.ref ca), (.ref cb), (.ref cc)] .null) (V_cf : Arv Z h0 cf k_cf (.array .double) (3 : Int32) [(.ref da), (.ref db), (.ref dc)] .null) (V_le : Arv Z h0 le k_le .int 3 [(.int (own_i fa)), (.int (own_i fd)), (.int 1)] (.int 0)) (V_mc : Arv Z h0 mc k_mc .int 16 [(.int x0), (.int x1)] (.int 0)) (V_md : Arv Z h0 md k_md .double 16 [(.double y0), (.double y1)] (.double 0)) (V_sr : Arv Z h0 sr k_sr .int 16 zr (.int 0)) (V_sp : Arv Z h0 sp k_sp .int 16 zp (.int 0)) (V_sw : Arv Z h0 sw k_sw .double 16 zw (.double 0)) (V_ss : Arv Z h0 ss k_ss .double 16 zs (.double 0)) (lzr : zr.length = 2) (lzp : zp.length = 2) (lzw : zw.length = 2) (lzs : zs.length = 2) (V_cb : Arv Z h0 cb kcb .int nb [(.int t0), (.int t1)] (.int 0)) (V_db : Arv Z h0 db kdb .double nb [(.double s0), (.double s1)] (.double 0)) (V_cc : Arv Z h0 cc kcc .int 1 [(.int 1), (.int 0)] (.int 0)) (V_dc : Arv Z h0 dc kdc .double 1 [(.double ve), (.double 0)] (.double 0)) (ht : fd = true → own_12 nb ∧ t0 = 2) (fac : fd = true → own_fac ve s0 ow sc) (p1 : rc < ca) (p2 : ca < da) (p3 : da < cb) (p4 : cb < db) (p5 : db < cc) (p6 : cc < dc) (ord : own_ord a1 oc od mc md sr sp sw ss co cf le re rc) (g_a : n0 ≤ a1) :
    ∃ (T' : State) (h' : Heap) (L' : List Loc), Stand p l e ({ frames := 3, cells := 0, slots := 0, locals := 70 } : Room) s m args below meth c T' L' 0 0 ∧ T'.heap = h' ∧ Fr n0 L' ∧ Keep h0 h' [a1, mc, md, le, sr, sp, sw, ss, cc, dc] ∧ own_E Z h' a1 oc od mc md sr sp sw ss co cf le re rc r (en + ((0 : Int32) - (1 : Int32)).toInt64) wk (0 : Int32) ((own_i fc) + (1 : Int32)) ∧ Arv Z h' mc k_mc .int 16 [(.int x0), (.int x1)] (.int 0) ∧ Arv Z h' md k_md .double 16 [(.double y0), (.double y1)] (.double 0) ∧ Arv Z h' le k_le .int 3 [(.int (own_i fa)), (.int (own_i fd)), (.int 0)] (.int 0) ∧ Arv Z h' sr k_sr .int 16 (zr.set (own_i fc).toNatClampNeg (.int 2)) (.int 0) ∧ Arv Z h' sp k_sp .int 16 (zp.set (own_i fc).toNatClampNeg (.int 1)) (.int 0) ∧ Arv Z h' sw k_sw .double 16 (zw.set (own_i fc).toNatClampNeg (.double ve)) (.double 0) ∧ Arv Z h' ss k_ss .double 16 (zs.set (own_i fc).toNatClampNeg (.double (cond fd sc FP.dconst1))) (.double 0) ∧ ∀ target, own_S p e below m T' 109 LL [] target → own_S p e below m T0 98 LL [] target := by
  have hl := own_laid_of hw
  obtain ⟨or0, or1, or2, or3, or4, or5, or6, or7, or8, or9, or10, or11, or12⟩ := id ord
  rcases fd with _ | _
  · obtain ⟨cq808, qa808, qb808⟩ := O_a.1.cell
    obtain ⟨_, _, ⟨T808, LL808, kk808, nn808⟩, -, X808, ⟨Lc808, hQ808, l808, y808, z808⟩, st808⟩ := X0.privateBack hx (y := (⟨"com/example/odds2/odds2/engine/Elimination", "substitute", "(II)Z"⟩ : MethodName)) hown (mvT hZ (hw _ tm93)) (mvT hZ (hw _ tm94)) (own_sel hZ hw (hw _ tm95) (hw _ tm94)) (Cond.privateMethod_at (mvP hZ (hw _ tm95) (args := #[]))) (mvT hZ (hw _ tm96)) (by decide) (backOf (W := 0) (rmS00 l Z a0 hw [] a1 oc od mc md sr sp sw ss co cf le re rc k_co k_cf k_le k_mc k_md k_sr k_sp k_sw k_ss r en wk (own_i fc) (0 : Int32) (2 : Int32) (1 : Int32) (0 : Int32) x0 x1 y0 y1 ve (0 : UInt64) cc dc cb db kcc kdc [(.ref ca), (.ref cb), (.ref cc)] [(.ref da), (.ref db), (.ref dc)] [(.int (own_i fa)), (.int 0), (.int 1)] zr zp zw zs h0 n0 Z0 O_a V_co V_cf V_le V_mc V_md V_sr V_sp V_sw V_ss V_cc V_dc (by unfold own_3; decide) (by unfold own_3; decide) rfl rfl rfl rfl rfl rfl rfl lzr lzp lzw lzs (by cases fc <;> unfold own_01 <;> decide) (by omega) p6 ord g_a) hZ (hw _ tm96) (hw _ tm7) (by decide) (by decide)) (g := (mkF m 103 LL [(.int 1), (.int 2), (.ref a1)])) rfl hsz (Steps.refl _) (a := a1) (by rw [e0]; exact qa808) qb808 (argsL := [(.int 2), (.int 1)]) (rest := []) (lenOf pd_8 rfl) rfl (by show 2 * 0 + _ ≤ _; exact Nat.le_of_eq rfl) (hb hby k13_103) (fun _ _ => ⟨rfl, e0, (by decide : 0 + 0 ≤ _), (by decide : 0 + 0 ≤ _)⟩)
    dsimp only [Pt.U, Pt.locs, Pt.cells, Pt.slots] at X808 l808 y808 z808 st808 hQ808
    subst l808 y808 z808
    obtain ⟨rfl, N808q, K808, Oa808, Fmc808, Fmd808, Fle808, Fsr808, Fsp808, Fsw808, Fss808, Fcb808, Fdb808⟩ := hQ808
    have N808 := Fr.app N0 N808q
    have f809 := ((Keep.refl h0 [a1, mc, md, le, sr, sp, sw, ss, cc, dc]).trans K808 (allS (Or.inl (List.mem_of_getElem? (i := 0) rfl)) (allS (Or.inl (List.mem_of_getElem? (i := 1) rfl)) (allS (Or.inl (List.mem_of_getElem? (i := 2) rfl)) (allS (Or.inl (List.mem_of_getElem? (i := 3) rfl)) (allS (Or.inl (List.mem_of_getElem? (i := 4) rfl)) (allS (Or.inl (List.mem_of_getElem? (i := 5) rfl)) (allS (Or.inl (List.mem_of_getElem? (i := 6) rfl)) (allS (Or.inl (List.mem_of_getElem? (i := 7) rfl)) (allS (Or.inl (List.mem_of_getElem? (i := 8) rfl)) (allS (Or.inl (List.mem_of_getElem? (i := 9) rfl)) all0)))))))))))
    refine ⟨T808, _, _, X808, rfl, N808, (f809), Oa808, Fmc808, Fmd808, Fle808, Fsr808, Fsp808, Fsw808, Fss808, fun target kt => ?_⟩
    show own_S p e below m T0 98 LL [] _
    refine waloadN X0 hx hby k13_98 LL_0 rfl ?_
    refine wiload X0 hx hby k13_99 LL_7 ?_
    refine wiload X0 hx hby k13_101 LL_5 ?_
    refine st808.trans ?_
    show own_S p e below m T808 106 LL [(.int 1)] _
    refine wifNo X808 hx hby k13_106 (by decide) ?_
    exact kt
  · obtain ⟨hnb, rfl⟩ := ht rfl
    obtain ⟨cq810, qa810, qb810⟩ := O_a.1.cell
    obtain ⟨_, _, ⟨T810, LL810, kk810, nn810⟩, -, X810, ⟨Lc810, hQ810, l810, y810, z810⟩, st810⟩ := X0.privateBack hx (y := (⟨"com/example/odds2/odds2/engine/Elimination", "substitute", "(II)Z"⟩ : MethodName)) hown (mvT hZ (hw _ tm93)) (mvT hZ (hw _ tm94)) (own_sel hZ hw (hw _ tm95) (hw _ tm94)) (Cond.privateMethod_at (mvP hZ (hw _ tm95) (args := #[]))) (mvT hZ (hw _ tm96)) (by decide) (backOf (W := 0) (rmS10 l Z a0 hw [] a1 oc od mc md sr sp sw ss co cf le re rc k_co k_cf k_le k_mc k_md k_sr k_sp k_sw k_ss r en wk (own_i fc) (0 : Int32) (2 : Int32) (1 : Int32) (0 : Int32) x0 x1 y0 y1 ve (0 : UInt64) cc dc cb db kcc kdc [(.ref ca), (.ref cb), (.ref cc)] [(.ref da), (.ref db), (.ref dc)] [(.int (own_i fa)), (.int 1), (.int 1)] zr zp zw zs nb t1 s0 s1 ow sc kcb kdb h0 n0 Z0 O_a V_co V_cf V_le V_mc V_md V_sr V_sp V_sw V_ss V_cc V_dc (by unfold own_3; decide) (by unfold own_3; decide) rfl rfl rfl rfl rfl rfl rfl lzr lzp lzw lzs (by cases fc <;> unfold own_01 <;> decide) (by omega) p6 V_cb V_db hnb (by omega) (by omega) (fac rfl) ord g_a) hZ (hw _ tm96) (hw _ tm7) (by decide) (by decide)) (g := (mkF m 103 LL [(.int 1), (.int 2), (.ref a1)])) rfl hsz (Steps.refl _) (a := a1) (by rw [e0]; exact qa810) qb810 (argsL := [(.int 2), (.int 1)]) (rest := []) (lenOf pd_8 rfl) rfl (by show 2 * 0 + _ ≤ _; exact Nat.le_of_eq rfl) (hb hby k13_103) (fun _ _ => ⟨rfl, e0, (by decide : 0 + 0 ≤ _), (by decide : 0 + 0 ≤ _)⟩)
    dsimp only [Pt.U, Pt.locs, Pt.cells, Pt.slots] at X810 l810 y810 z810 st810 hQ810
    subst l810 y810 z810
    obtain ⟨rfl, N810q, K810, Oa810, Fmc810, Fmd810, Fle810, Fsr810, Fsp810, Fsw810, Fss810, Fcb810, Fdb810⟩ := hQ810
    have N810 := Fr.app N0 N810q
    have f811 := ((Keep.refl h0 [a1, mc, md, le, sr, sp, sw, ss, cc, dc]).trans K810 (allS (Or.inl (List.mem_of_getElem? (i := 0) rfl)) (allS (Or.inl (List.mem_of_getElem? (i := 1) rfl)) (allS (Or.inl (List.mem_of_getElem? (i := 2) rfl)) (allS (Or.inl (List.mem_of_getElem? (i := 3) rfl)) (allS (Or.inl (List.mem_of_getElem? (i := 4) rfl)) (allS (Or.inl (List.mem_of_getElem? (i := 5) rfl)) (allS (Or.inl (List.mem_of_getElem? (i := 6) rfl)) (allS (Or.inl (List.mem_of_getElem? (i := 7) rfl)) (allS (Or.inl (List.mem_of_getElem? (i := 8) rfl)) (allS (Or.inl (List.mem_of_getElem? (i := 9) rfl)) all0)))))))))))
    refine ⟨T810, _, _, X810, rfl, N810, (f811), Oa810, Fmc810, Fmd810, Fle810, Fsr810, Fsp810, Fsw810, Fss810, fun target kt => ?_⟩
    show own_S p e below m T0 98 LL [] _
    refine waloadN X0 hx hby k13_98 LL_0 rfl ?_
    refine wiload X0 hx hby k13_99 LL_7 ?_
    refine wiload X0 hx hby k13_101 LL_5 ?_
    refine st810.trans ?_
    show own_S p e below m T810 106 LL [(.int 1)] _
    refine wifNo X810 hx hby k13_106 (by decide) ?_
    exact kt
set_option maxRecDepth 65536 in
set_option maxHeartbeats 40000000 in
theorem el0 {p : Program} {l : Launch} {e : Env} {s : State} {m : MethodId} {args : Array Value} {below : List Frame} {meth : Method} {c : Code} {T0 : State} {locs : List Loc} (Z : State) (a0 : Array Value) (hw : ∀ d ∈ tables_1, d.before a0 Z = true) (a1 oc od mc md sr sp sw ss co cf le re rc : Nat) (k_co k_cf k_le k_mc k_md k_sr k_sp k_sw k_ss k_re k_rc : ClassId) (r : Int32) (wk : Int64) (fa fc fd fe : Bool) (ca da cb db cc dc : Nat) (kca kda kcb kdb kcc kdc : ClassId) (x0 x1 : Int32) (y0 y1 : UInt64) (b0 : Nat) (kb0 : ClassId) (g0 g1 g2 : Value) (va vc vd ow sc : UInt64) (h0 : Heap) (n0 : Nat) (X0 : Stand p l e ({ frames := 3, cells := 0, slots := 0, locals := 70 } : Room) s m args below meth c T0 locs 0 0) (hx : p.tables.exec = Jvm.exec) (hZ : Z.Warmed39 s.vm) (hby : c.code = prog_14_method_4_code) (hml : c.maxLocals = 8) (hown : s.vm.findClass "com/example/odds2/odds2/engine/Elimination" = some m.cls) (e0 : T0.heap = h0) (N0 : Fr n0 locs) (Z0 : n0 ≤ h0.size) (O_a : own_E Z h0 a1 oc od mc md sr sp sw ss co cf le re rc r (own_en fa fc fd fe) wk (0 : Int32) (0 : Int32)) (V_co : Arv Z h0 co k_co (.array .int) (3 : Int32) [(.ref ca), (.ref cb), (.ref cc)] .null) (V_cf : Arv Z h0 cf k_cf (.array .double) (3 : Int32) [(.ref da), (.ref db), (.ref dc)] .null) (V_le : Arv Z h0 le k_le .int 3 [(.int (own_i fa)), (.int (own_lb fc fd)), (.int (own_i fe))] (.int 0)) (V_re : Arv Z h0 re k_re (.array .int) (3 : Int32) [g0, g1, g2] .null) (V_rc : Arv Z h0 rc k_rc .int 3 [(.int (own_i fc)), (.int (own_lb fa fe)), (.int (own_i fd))] (.int 0)) (V_mc : Arv Z h0 mc k_mc .int 16 [(.int x0), (.int x1)] (.int 0)) (V_md : Arv Z h0 md k_md .double 16 [(.double y0), (.double y1)] (.double 0)) (V_sr : Arv Z h0 sr k_sr .int 16 [(.int 0), (.int 0)] (.int 0)) (V_sp : Arv Z h0 sp k_sp .int 16 [(.int 0), (.int 0)] (.int 0)) (V_sw : Arv Z h0 sw k_sw .double 16 [(.double 0), (.double 0)] (.double 0)) (V_ss : Arv Z h0 ss k_ss .double 16 [(.double 0), (.double 0)] (.double 0)) (V_ca : Arv Z h0 ca kca .int (own_i fa) [(.int 1), (.int 0)] (.int 0)) (V_da : Arv Z h0 da kda .double (own_i fa) [(.double va), (.double 0)] (.double 0)) (V_cb : Arv Z h0 cb kcb .int (own_lb fc fd) (cond fc [(.int 0), (.int 2)] [(.int 2), (.int 0)]) (.int 0)) (V_db : Arv Z h0 db kdb .double (own_lb fc fd) (cond fc [(.double vc), (.double vd)] [(.double vd), (.double 0)]) (.double 0)) (hg0 : fc = true → g0 = .ref b0) (G_b0 : fc = true → Arv Z h0 b0 kb0 .int 4 [(.int 1), (.int 0), (.int 0), (.int 0)] (.int 0)) (fac : fa = true → fc = true → own_fac vc va ow sc) (nw : fa = true → fc = true → fd = true → NoNaN64 (FP.dmul vd sc)) (p1 : rc < ca) (p2 : ca < da) (p3 : da < cb) (p4 : cb < db) (p5 : db < cc) (p6 : cc < dc) (ord : own_ord a1 oc od mc md sr sp sw ss co cf le re rc) (g_a : n0 ≤ a1) :
    ∃ (T' : State) (h' : Heap) (L' : List Loc) (wk' : Int64) (x0' : Int32) (x1' : Int32) (y0' : UInt64) (y1' : UInt64) (t0 : Int32) (t1 : Int32) (s0 : UInt64) (s1 : UInt64), Stand p l e ({ frames := 3, cells := 0, slots := 0, locals := 70 } : Room) s m args below meth c T' L' 0 0 ∧ T'.heap = h' ∧ Fr n0 L' ∧ Keep h0 h' [a1, mc, md, le, sr, sp, sw, ss, cb, db, re] ∧ own_E Z h' a1 oc od mc md sr sp sw ss co cf le re rc r (own_e1 fa fc fd fe) wk' (0 : Int32) (own_i fc) ∧ Arv Z h' mc k_mc .int 16 [(.int x0'), (.int x1')] (.int 0) ∧ Arv Z h' md k_md .double 16 [(.double y0'), (.double y1')] (.double 0) ∧ Arv Z h' le k_le .int 3 [(.int (own_i fa)), (.int (own_i fd)), (.int (own_i fe))] (.int 0) ∧ Arv Z h' sr k_sr .int 16 (cond fc [(.int 1), (.int 0)] [(.int 0), (.int 0)]) (.int 0) ∧ Arv Z h' sp k_sp .int 16 (cond fc [(.int 0), (.int 0)] [(.int 0), (.int 0)]) (.int 0) ∧ Arv Z h' sw k_sw .double 16 (cond fc [(.double vc), (.double 0)] [(.double 0), (.double 0)]) (.double 0) ∧ Arv Z h' ss k_ss .double 16 (cond fc [(.double (cond fa sc FP.dconst1)), (.double 0)] [(.double 0), (.double 0)]) (.double 0) ∧ Arv Z h' cb kcb .int (own_lb fc fd) [(.int t0), (.int t1)] (.int 0) ∧ Arv Z h' db kdb .double (own_lb fc fd) [(.double s0), (.double s1)] (.double 0) ∧ Arv Z h' re k_re (.array .int) (3 : Int32) [.null, g1, g2] .null ∧ (fd = true → t0 = 2 ∧ s0 = cond fc (cond fa (FP.dmul vd sc) vd) vd) ∧ ∀ target, own_S p e below m T' 18 #[.val (.ref a1), .val (.long 9223372036854775807), .second, .val (.long (((16 : Int64) * (own_en fa fc fd fe)) + (3 : Int32).toInt64)), .second, .val (.int 1), (.val (.int (own_i fc))), (cond fc (.val (.int 1)) .unset)] [] target → own_S p e below m T0 18 #[.val (.ref a1), .val (.long 9223372036854775807), .second, .val (.long (((16 : Int64) * (own_en fa fc fd fe)) + (3 : Int32).toInt64)), .second, .val (.int 0), .unset, .unset] [] target := by
  have hl := own_laid_of hw
  obtain ⟨or0, or1, or2, or3, or4, or5, or6, or7, or8, or9, or10, or11, or12⟩ := id ord
  rcases fc with _ | _
  · obtain ⟨L812, hL812⟩ := own_nm #[.val (.ref a1), .val (.long 9223372036854775807), .second, .val (.long (((16 : Int64) * (own_en fa false fd fe)) + (3 : Int32).toInt64)), .second, .val (.int 0), .unset, .unset]
    have f813 : Arv Z h0 rc k_rc .int 3 [(.int 0), (.int (own_lb fa fe)), (.int (own_i fd))] (.int 0) := V_rc
    have L812_5 := own_ld hL812 5 rfl
    have L812_0 := own_ld hL812 0 rfl
    obtain ⟨T814, X814, e814, st814⟩ := wget X0 hx hby hZ hown (hw _ tm31) e0 (O_a.at 0) L812 [(.int 0)] k13_21
    obtain ⟨L815, hL815⟩ := own_nm #[.val (.ref a1), .val (.long 9223372036854775807), .second, .val (.long (((16 : Int64) * (own_en fa false fd fe)) + (3 : Int32).toInt64)), .second, .val (.int 0), .val (.int 0), .unset]
    have L815_6 := own_ld hL815 6 rfl
    have L815_0 := own_ld hL815 0 rfl
    obtain ⟨T816, X816, e816, st816⟩ := wget X814 hx hby hZ hown (hw _ tm45) e814 (O_a.at 5) L815 [(.int 0)] k13_33
    have L815_5 := own_ld hL815 5 rfl
    obtain ⟨T817, X817, e817, st817⟩ := wget X816 hx hby hZ hown (hw _ tm43) e816 (O_a.at 4) L815 [] k13_127
    obtain ⟨cl818, Ar818, q818, S818, M818, Hh818, G818⟩ := id V_re
    obtain ⟨T819, h819, X819, e819, W819, st819⟩ := stR X817 hx hZ e817 Ar818 (j := 0) (inb_of S818 ⟨(by decide), (by decide)⟩) rfl (Or.inl rfl) (g := (mkF m 133 L815 [.null, (.int 0), (.ref re)])) rfl rfl (hb hby k13_133)
    have f820 : Arv Z h819 re k_re (.array .int) (3 : Int32) [.null, g1, g2] .null := Arv.set Ar818 q818 S818 M818 Hh818 G818 rfl W819 0 rfl (Nat.le_of_ble_eq_true rfl)
    have N819 := Fr.snoc X819 N0 (by omega : n0 ≤ (re : Nat))
    obtain ⟨L821, hL821⟩ := own_nm #[.val (.ref a1), .val (.long 9223372036854775807), .second, .val (.long (((16 : Int64) * (own_en fa false fd fe)) + (3 : Int32).toInt64)), .second, .val (.int 1), .val (.int 0), .unset]
    have f822 := ((Keep.refl h0 [a1, mc, md, le, sr, sp, sw, ss, cb, db, re]).wr W819 (Or.inl (List.mem_of_getElem? (i := 10) rfl)))
    have f823 := (O_a.other W819 (by omega : (a1 : Nat) ≠ re))
    have f824 := (V_mc.other W819 (by omega : (mc : Nat) ≠ re))
    have f825 := (V_md.other W819 (by omega : (md : Nat) ≠ re))
    have f826 := (V_le.other W819 (by omega : (le : Nat) ≠ re))
    have f827 := (V_sr.other W819 (by omega : (sr : Nat) ≠ re))
    have f828 := (V_sp.other W819 (by omega : (sp : Nat) ≠ re))
    have f829 := (V_sw.other W819 (by omega : (sw : Nat) ≠ re))
    have f830 := (V_ss.other W819 (by omega : (ss : Nat) ≠ re))
    have f831 := (V_cb.other W819 (by omega : (cb : Nat) ≠ re))
    have f832 := (V_db.other W819 (by omega : (db : Nat) ≠ re))
    refine ⟨T819, _, _, wk, x0, x1, y0, y1, (2 : Int32), (0 : Int32), vd, (0 : UInt64), X819, e819, N819, f822, f823, f824, f825, f826, f827, f828, f829, f830, f831, f832, f820, (fun _ => ⟨rfl, rfl⟩), fun target kt => ?_⟩
    rw [← hL812]
    show own_S p e below m T0 18 L812 [] _
    refine wiload X0 hx hby k13_18 L812_5 ?_
    refine waloadN X0 hx hby k13_20 L812_0 rfl ?_
    refine st814 _ ?_
    refine wicmpNo X814 hx hby k13_24 (by decide) ?_
    show own_S p e below m T814 27 L812 [] _
    refine wiconst X814 hx hby k13_27 ?_
    refine wistore X814 hx hby k13_28 hL812 hL815 rfl ?_
    refine wiload X814 hx hby k13_30 L815_6 ?_
    refine waloadN X814 hx hby k13_32 L815_0 rfl ?_
    show own_S p e below m T814 33 L815 [(.ref a1), (.int 0)] _
    refine st816 _ ?_
    refine wiload X816 hx hby k13_36 L815_5 ?_
    refine wiaload X816 hx hby hZ e816 f813 0 rfl (by decide) (by decide) (v := (.int 0)) rfl k13_38 ?_
    refine wicmpYes X816 hx hby k13_39 39 126 rfl (by decide) (by decide) (by decide) ?_
    show own_S p e below m T816 126 L815 [] _
    refine waloadN X816 hx hby k13_126 L815_0 rfl ?_
    refine st817 _ ?_
    refine wiload X817 hx hby k13_130 L815_5 ?_
    refine XS.aconstNull X817.here hx rfl (hb hby k13_132) ?_
    show own_S p e below m T817 133 L815 [.null, (.int 0), (.ref re)] _
    refine st819 _ ?_
    refine wiinc X819 hx hby k13_134 L815_5 hL815 hL821 rfl ?_
    refine wgoto X819 hx hby k13_137 137 18 rfl (by decide) (by decide) ?_
    rw [hL821]
    exact kt
  · obtain rfl := hg0 rfl
    obtain ⟨L833, hL833⟩ := own_nm #[.val (.ref a1), .val (.long 9223372036854775807), .second, .val (.long (((16 : Int64) * (own_en fa true fd fe)) + (3 : Int32).toInt64)), .second, .val (.int 0), .unset, .unset]
    have f834 : Arv Z h0 rc k_rc .int 3 [(.int 1), (.int (own_lb fa fe)), (.int (own_i fd))] (.int 0) := V_rc
    have L833_5 := own_ld hL833 5 rfl
    have L833_0 := own_ld hL833 0 rfl
    obtain ⟨T835, X835, e835, st835⟩ := wget X0 hx hby hZ hown (hw _ tm31) e0 (O_a.at 0) L833 [(.int 0)] k13_21
    obtain ⟨L836, hL836⟩ := own_nm #[.val (.ref a1), .val (.long 9223372036854775807), .second, .val (.long (((16 : Int64) * (own_en fa true fd fe)) + (3 : Int32).toInt64)), .second, .val (.int 0), .val (.int 0), .unset]
    have L836_6 := own_ld hL836 6 rfl
    have L836_0 := own_ld hL836 0 rfl
    obtain ⟨T837, X837, e837, st837⟩ := wget X835 hx hby hZ hown (hw _ tm45) e835 (O_a.at 5) L836 [(.int 0)] k13_33
    have L836_5 := own_ld hL836 5 rfl
    obtain ⟨T838, X838, e838, st838⟩ := wget X837 hx hby hZ hown (hw _ tm43) e837 (O_a.at 4) L836 [] k13_43
    obtain ⟨L839, hL839⟩ := own_nm #[.val (.ref a1), .val (.long 9223372036854775807), .second, .val (.long (((16 : Int64) * (own_en fa true fd fe)) + (3 : Int32).toInt64)), .second, .val (.int 0), .val (.int 0), .val (.int 1)]
    have L839_7 := own_ld hL839 7 rfl
    have L839_5 := own_ld hL839 5 rfl
    have L839_0 := own_ld hL839 0 rfl
    obtain ⟨T840, X840, e840, st840⟩ := wget X838 hx hby hZ hown (hw _ tm75) e838 (O_a.at 8) L839 [(.ref a1)] k13_66
    obtain ⟨T841, X841, e841, st841⟩ := wget X840 hx hby hZ hown (hw _ tm41) e840 (O_a.at 3) L839 [(.long wk), (.ref a1)] k13_70
    obtain ⟨T842, X842, e842, st842⟩ := wget X841 hx hby hZ hown (hw _ tm41) e841 (O_a.at 3) L839 [(.int (own_lb true fd)), (.long wk), (.ref a1)] k13_77
    obtain ⟨T843, h843, X843, e843, W843, st843⟩ := putF X842 hx hZ hown (host := "") (Or.inl (hw _ tm75)) Via.refl e842 (O_a.2.2 8 (by decide)) O_a.1 (Or.inl (hw _ tm76)) (hw _ tm6) (ty := .long) (by decide) rfl rfl (g := (mkF m 86 L839 [(.long (wk + ((own_lb true fd) + (own_i fa)).toInt64)), (.ref a1)])) rfl rfl (hb hby k13_86)
    have N843 := Fr.snoc X843 N0 (by omega : n0 ≤ (a1 : Nat))
    have f844 : own_E Z h843 a1 oc od mc md sr sp sw ss co cf le re rc r (own_en fa true fd fe) (wk + ((own_lb true fd) + (own_i fa)).toInt64) (0 : Int32) (0 : Int32) := own_put O_a hl (i := 8) (by decide) W843
    obtain ⟨T845, X845, e845, st845⟩ := wget X843 hx hby hZ hown (hw _ tm75) e843 (f844.at 8) L839 [] k13_90
    have L839_1 := own_ld hL839 1 rfl
    have f846 := (V_co.other W843 (by omega : (co : Nat) ≠ a1))
    have f847 := (V_cf.other W843 (by omega : (cf : Nat) ≠ a1))
    have f848 := (V_le.other W843 (by omega : (le : Nat) ≠ a1))
    have f849 := (V_mc.other W843 (by omega : (mc : Nat) ≠ a1))
    have f850 := (V_md.other W843 (by omega : (md : Nat) ≠ a1))
    have f851 := (V_sr.other W843 (by omega : (sr : Nat) ≠ a1))
    have f852 := (V_sp.other W843 (by omega : (sp : Nat) ≠ a1))
    have f853 := (V_sw.other W843 (by omega : (sw : Nat) ≠ a1))
    have f854 := (V_ss.other W843 (by omega : (ss : Nat) ≠ a1))
    have f855 := (V_cb.other W843 (by omega : (cb : Nat) ≠ a1))
    have f856 := (V_db.other W843 (by omega : (db : Nat) ≠ a1))
    have f857 := (V_ca.other W843 (by omega : (ca : Nat) ≠ a1))
    have f858 := (V_da.other W843 (by omega : (da : Nat) ≠ a1))
    have f860 := ((Keep.refl h0 [a1, mc, md, le, sr, sp, sw, ss, cb, db, re]).wr W843 (Or.inl (List.mem_of_getElem? (i := 0) rfl)))
    have Z859 : n0 ≤ h843.size := Nat.le_trans Z0 f860.1
    have f861 := (V_re.other W843 (by omega : (re : Nat) ≠ a1))
    obtain ⟨T862, h862, LT862, xa, xb, ya, yb, t0, t1, s0, s1, X862, e862, N862, K862, Oa862, Fmc862, Fmd862, Fle862, Fsr862, Fsp862, Fsw862, Fss862, Fcb862, Fdb862, ht862, st862⟩ := elS0 Z a0 hw a1 oc od mc md sr sp sw ss co cf le re rc k_co k_cf k_le k_mc k_md k_sr k_sp k_sw k_ss r (wk + ((own_lb true fd) + (own_i fa)).toInt64) fa fd fe ca da cb db cc dc kca kda kcb kdb kcc kdc x0 x1 y0 y1 va vc vd ow sc L839 h843 n0 X845 hx hZ hby hml hown e845 N843 Z859 L839_0 L839_5 L839_7 (by rw [hml, hL839]; rfl) f844 f846 f847 f848 f849 f850 f851 f852 f853 f854 f857 f858 f855 f856 (fun q => fac q rfl) (fun q => nw q rfl) p1 p2 p3 p4 p5 p6 ord g_a
    rw [(by decide : (0 : Int32) + (1 : Int32) = 1)] at Oa862
    obtain ⟨T863, X863, e863, st863⟩ := wget X862 hx hby hZ hown (hw _ tm73) e862 (Oa862.at 7) L839 [] k13_110
    have L839_3 := own_ld hL839 3 rfl
    have L839_6 := own_ld hL839 6 rfl
    obtain ⟨L864, hL864⟩ := own_nm #[.val (.ref a1), .val (.long 9223372036854775807), .second, .val (.long (((16 : Int64) * (own_en fa true fd fe)) + (3 : Int32).toInt64)), .second, .val (.int 0), .val (.int 1), .val (.int 1)]
    have L864_6 := own_ld hL864 6 rfl
    have L864_0 := own_ld hL864 0 rfl
    obtain ⟨T865, X865, e865, st865⟩ := wget X863 hx hby hZ hown (hw _ tm45) e863 (Oa862.at 5) L864 [(.int 1)] k13_33
    have L864_5 := own_ld hL864 5 rfl
    have f866 := ((f834.other W843 (by omega : (rc : Nat) ≠ a1)).keep K862 (by repeat' first | exact nin0 | refine ninS ?_ ?_ | (show (_ : Nat) ≠ _; omega)))
    obtain ⟨T867, X867, e867, st867⟩ := wget X865 hx hby hZ hown (hw _ tm43) e865 (Oa862.at 4) L864 [] k13_127
    have f868 := (f861.keep K862 (by repeat' first | exact nin0 | refine ninS ?_ ?_ | (show (_ : Nat) ≠ _; omega)))
    obtain ⟨cl869, Ar869, q869, S869, M869, Hh869, G869⟩ := id f868
    obtain ⟨T870, h870, X870, e870, W870, st870⟩ := stR X867 hx hZ e867 Ar869 (j := 0) (inb_of S869 ⟨(by decide), (by decide)⟩) rfl (Or.inl rfl) (g := (mkF m 133 L864 [.null, (.int 0), (.ref re)])) rfl rfl (hb hby k13_133)
    have f871 : Arv Z h870 re k_re (.array .int) (3 : Int32) [.null, g1, g2] .null := Arv.set Ar869 q869 S869 M869 Hh869 G869 rfl W870 0 rfl (Nat.le_of_ble_eq_true rfl)
    have N870 := Fr.snoc X870 N862 (by omega : n0 ≤ (re : Nat))
    obtain ⟨L872, hL872⟩ := own_nm #[.val (.ref a1), .val (.long 9223372036854775807), .second, .val (.long (((16 : Int64) * (own_en fa true fd fe)) + (3 : Int32).toInt64)), .second, .val (.int 1), .val (.int 1), .val (.int 1)]
    have f873 := ((f860.trans K862 (allS (Or.inl (List.mem_of_getElem? (i := 0) rfl)) (allS (Or.inl (List.mem_of_getElem? (i := 1) rfl)) (allS (Or.inl (List.mem_of_getElem? (i := 2) rfl)) (allS (Or.inl (List.mem_of_getElem? (i := 3) rfl)) (allS (Or.inl (List.mem_of_getElem? (i := 4) rfl)) (allS (Or.inl (List.mem_of_getElem? (i := 5) rfl)) (allS (Or.inl (List.mem_of_getElem? (i := 6) rfl)) (allS (Or.inl (List.mem_of_getElem? (i := 7) rfl)) (allS (Or.inl (List.mem_of_getElem? (i := 8) rfl)) (allS (Or.inl (List.mem_of_getElem? (i := 9) rfl)) all0))))))))))).wr W870 (Or.inl (List.mem_of_getElem? (i := 10) rfl)))
    have f874 := (Oa862.other W870 (by omega : (a1 : Nat) ≠ re))
    have f875 := (Fmc862.other W870 (by omega : (mc : Nat) ≠ re))
    have f876 := (Fmd862.other W870 (by omega : (md : Nat) ≠ re))
    have f877 := (Fle862.other W870 (by omega : (le : Nat) ≠ re))
    have f878 := (Fsr862.other W870 (by omega : (sr : Nat) ≠ re))
    have f879 := (Fsp862.other W870 (by omega : (sp : Nat) ≠ re))
    have f880 := (Fsw862.other W870 (by omega : (sw : Nat) ≠ re))
    have f881 := (Fss862.other W870 (by omega : (ss : Nat) ≠ re))
    have f882 := (Fcb862.other W870 (by omega : (cb : Nat) ≠ re))
    have f883 := (Fdb862.other W870 (by omega : (db : Nat) ≠ re))
    refine ⟨T870, _, _, (wk + ((own_lb true fd) + (own_i fa)).toInt64), xa, xb, ya, yb, t0, t1, s0, s1, X870, e870, N870, f873, f874, f875, f876, f877, f878, f879, f880, f881, f882, f883, f871, ht862, fun target kt => ?_⟩
    rw [← hL833]
    show own_S p e below m T0 18 L833 [] _
    refine wiload X0 hx hby k13_18 L833_5 ?_
    refine waloadN X0 hx hby k13_20 L833_0 rfl ?_
    refine st835 _ ?_
    refine wicmpNo X835 hx hby k13_24 (by decide) ?_
    show own_S p e below m T835 27 L833 [] _
    refine wiconst X835 hx hby k13_27 ?_
    refine wistore X835 hx hby k13_28 hL833 hL836 rfl ?_
    refine wiload X835 hx hby k13_30 L836_6 ?_
    refine waloadN X835 hx hby k13_32 L836_0 rfl ?_
    show own_S p e below m T835 33 L836 [(.ref a1), (.int 0)] _
    refine st837 _ ?_
    refine wiload X837 hx hby k13_36 L836_5 ?_
    refine wiaload X837 hx hby hZ e837 f834 0 rfl (by decide) (by decide) (v := (.int 1)) rfl k13_38 ?_
    refine wicmpNo X837 hx hby k13_39 (by decide) ?_
    show own_S p e below m T837 42 L836 [] _
    refine waloadN X837 hx hby k13_42 L836_0 rfl ?_
    refine st838 _ ?_
    refine wiload X838 hx hby k13_46 L836_5 ?_
    refine waaload X838 hx hby hZ e838 V_re 0 rfl (by decide) (by decide) (v := (.ref b0)) rfl k13_48 ?_
    show own_S p e below m T838 49 L836 [(.ref b0)] _
    refine wiload X838 hx hby k13_49 L836_6 ?_
    refine wiaload X838 hx hby hZ e838 (G_b0 rfl) 0 rfl (by decide) (by decide) (v := (.int 1)) rfl k13_51 ?_
    refine wistore X838 hx hby k13_52 hL836 hL839 rfl ?_
    refine wiload X838 hx hby k13_54 L839_7 ?_
    show own_S p e below m T838 56 L839 [(.int 1)] _
    refine wiload X838 hx hby k13_56 L839_5 ?_
    refine wicmpYes X838 hx hby k13_58 58 64 rfl (by decide) (by decide) (by decide) ?_
    refine waloadN X838 hx hby k13_64 L839_0 rfl ?_
    refine XS.dup X838.here hx rfl (hb hby k13_65) rfl rfl ?_
    show own_S p e below m T838 66 L839 [(.ref a1), (.ref a1)] _
    refine st840 _ ?_
    refine waloadN X840 hx hby k13_69 L839_0 rfl ?_
    refine st841 _ ?_
    refine wiload X841 hx hby k13_73 L839_7 ?_
    show own_S p e below m T841 75 L839 [(.int 1), (.ref le), (.long wk), (.ref a1)] _
    refine wiaload X841 hx hby hZ e841 V_le 1 rfl (by decide) (by decide) (v := (.int (own_lb true fd))) rfl k13_75 ?_
    refine waloadN X841 hx hby k13_76 L839_0 rfl ?_
    refine st842 _ ?_
    refine wiload X842 hx hby k13_80 L839_5 ?_
    show own_S p e below m T842 82 L839 [(.int 0), (.ref le), (.int (own_lb true fd)), (.long wk), (.ref a1)] _
    refine wiaload X842 hx hby hZ e842 V_le 0 rfl (by decide) (by decide) (v := (.int (own_i fa))) rfl k13_82 ?_
    refine XS.iadd X842.here hx rfl (hb hby k13_83) rfl ?_
    refine XS.i2l X842.here hx rfl (hb hby k13_84) rfl ?_
    refine XS.ladd X842.here hx rfl (hb hby k13_85) rfl ?_
    show own_S p e below m T842 86 L839 [(.long (wk + ((own_lb true fd) + (own_i fa)).toInt64)), (.ref a1)] _
    refine st843 _ ?_
    refine waloadN X843 hx hby k13_89 L839_0 rfl ?_
    refine st845 _ ?_
    refine XS.lloadN X845.here hx rfl (hb hby k13_93) L839_1 ?_
    show own_S p e below m T845 94 L839 [(.long 9223372036854775807), (.long (wk + ((own_lb true fd) + (own_i fa)).toInt64))] _
    refine XS.lcmp X845.here hx rfl (hb hby k13_94) rfl ?_
    refine wifNo X845 hx hby k13_95 ((if0 _ _).trans (flt (own_wk _)).2.2.1) ?_
    refine st862 _ ?_
    refine waloadN X862 hx hby k13_109 L839_0 rfl ?_
    show own_S p e below m T862 110 L839 [(.ref a1)] _
    refine st863 _ ?_
    refine XS.lloadN X863.here hx rfl (hb hby k13_113) L839_3 ?_
    refine XS.lcmp X863.here hx rfl (hb hby k13_114) rfl ?_
    refine wifYes X863 hx hby k13_115 115 120 rfl ((if0 _ _).trans (flt (own_l1 fa fd fe)).2.2.2) (by decide) (by decide) ?_
    show own_S p e below m T863 120 L839 [] _
    refine wiinc X863 hx hby k13_120 L839_6 hL839 hL864 rfl ?_
    refine wgoto X863 hx hby k13_123 123 30 rfl (by decide) (by decide) ?_
    refine wiload X863 hx hby k13_30 L864_6 ?_
    refine waloadN X863 hx hby k13_32 L864_0 rfl ?_
    show own_S p e below m T863 33 L864 [(.ref a1), (.int 1)] _
    refine st865 _ ?_
    refine wiload X865 hx hby k13_36 L864_5 ?_
    refine wiaload X865 hx hby hZ e865 f866 0 rfl (by decide) (by decide) (v := (.int 1)) rfl k13_38 ?_
    refine wicmpYes X865 hx hby k13_39 39 126 rfl (by decide) (by decide) (by decide) ?_
    show own_S p e below m T865 126 L864 [] _
    refine waloadN X865 hx hby k13_126 L864_0 rfl ?_
    refine st867 _ ?_
    refine wiload X867 hx hby k13_130 L864_5 ?_
    refine XS.aconstNull X867.here hx rfl (hb hby k13_132) ?_
    show own_S p e below m T867 133 L864 [.null, (.int 0), (.ref re)] _
    refine st870 _ ?_
    refine wiinc X870 hx hby k13_134 L864_5 hL864 hL872 rfl ?_
    refine wgoto X870 hx hby k13_137 137 18 rfl (by decide) (by decide) ?_
    rw [hL872]
    exact kt
set_option maxRecDepth 65536 in
set_option maxHeartbeats 40000000 in
theorem el1 {p : Program} {l : Launch} {e : Env} {s : State} {m : MethodId} {args : Array Value} {below : List Frame} {meth : Method} {c : Code} {T0 : State} {locs : List Loc} (Z : State) (a0 : Array Value) (hw : ∀ d ∈ tables_1, d.before a0 Z = true) (a1 oc od mc md sr sp sw ss co cf le re rc : Nat) (k_co k_cf k_le k_mc k_md k_sr k_sp k_sw k_ss k_re k_rc : ClassId) (r : Int32) (wk : Int64) (fa fc fd fe : Bool) (ca da cb db cc dc : Nat) (kca kda kcb kdb kcc kdc : ClassId) (x0 x1 : Int32) (y0 y1 : UInt64) (b1 : Nat) (kb1 : ClassId) (g1 g2 : Value) (nb t0 t1 : Int32) (s0 s1 ve ow sc : UInt64) (j6 : Int32) (b7 : Bool) (y7 : Int32) (zr zp zw zs : List Value) (h0 : Heap) (n0 : Nat) (X0 : Stand p l e ({ frames := 3, cells := 0, slots := 0, locals := 70 } : Room) s m args below meth c T0 locs 0 0) (hx : p.tables.exec = Jvm.exec) (hZ : Z.Warmed39 s.vm) (hby : c.code = prog_14_method_4_code) (hml : c.maxLocals = 8) (hown : s.vm.findClass "com/example/odds2/odds2/engine/Elimination" = some m.cls) (e0 : T0.heap = h0) (N0 : Fr n0 locs) (Z0 : n0 ≤ h0.size) (O_a : own_E Z h0 a1 oc od mc md sr sp sw ss co cf le re rc r (own_e1 fa fc fd fe) wk (0 : Int32) (own_i fc)) (V_co : Arv Z h0 co k_co (.array .int) (3 : Int32) [(.ref ca), (.ref cb), (.ref cc)] .null) (V_cf : Arv Z h0 cf k_cf (.array .double) (3 : Int32) [(.ref da), (.ref db), (.ref dc)] .null) (V_le : Arv Z h0 le k_le .int 3 [(.int (own_i fa)), (.int (own_i fd)), (.int (own_i fe))] (.int 0)) (V_re : Arv Z h0 re k_re (.array .int) (3 : Int32) [.null, g1, g2] .null) (V_rc : Arv Z h0 rc k_rc .int 3 [(.int (own_i fc)), (.int (own_lb fa fe)), (.int (own_i fd))] (.int 0)) (V_mc : Arv Z h0 mc k_mc .int 16 [(.int x0), (.int x1)] (.int 0)) (V_md : Arv Z h0 md k_md .double 16 [(.double y0), (.double y1)] (.double 0)) (V_sr : Arv Z h0 sr k_sr .int 16 zr (.int 0)) (V_sp : Arv Z h0 sp k_sp .int 16 zp (.int 0)) (V_sw : Arv Z h0 sw k_sw .double 16 zw (.double 0)) (V_ss : Arv Z h0 ss k_ss .double 16 zs (.double 0)) (lzr : zr.length = 2) (lzp : zp.length = 2) (lzw : zw.length = 2) (lzs : zs.length = 2) (V_cb : Arv Z h0 cb kcb .int nb [(.int t0), (.int t1)] (.int 0)) (V_db : Arv Z h0 db kdb .double nb [(.double s0), (.double s1)] (.double 0)) (V_cc : Arv Z h0 cc kcc .int (own_i fe) [(.int 1), (.int 0)] (.int 0)) (V_dc : Arv Z h0 dc kdc .double (own_i fe) [(.double ve), (.double 0)] (.double 0)) (ht : fd = true → own_12 nb ∧ t0 = 2) (hg1 : (fa || fe) = true → g1 = .ref b1) (G_b1 : (fa || fe) = true → Arv Z h0 b1 kb1 .int 4 (cond fa (cond fe [(.int 0), (.int 2), (.int 0), (.int 0)] [(.int 0), (.int 0), (.int 0), (.int 0)]) [(.int 2), (.int 0), (.int 0), (.int 0)]) (.int 0)) (fac : fe = true → fd = true → own_fac ve s0 ow sc) (p1 : rc < ca) (p2 : ca < da) (p3 : da < cb) (p4 : cb < db) (p5 : db < cc) (p6 : cc < dc) (ord : own_ord a1 oc od mc md sr sp sw ss co cf le re rc) (g_a : n0 ≤ a1) :
    ∃ (T' : State) (h' : Heap) (L' : List Loc) (wk' : Int64) (b7' : Bool) (y7' : Int32), Stand p l e ({ frames := 3, cells := 0, slots := 0, locals := 70 } : Room) s m args below meth c T' L' 0 0 ∧ T'.heap = h' ∧ Fr n0 L' ∧ Keep h0 h' [a1, mc, md, le, sr, sp, sw, ss, cc, dc, re] ∧ own_E Z h' a1 oc od mc md sr sp sw ss co cf le re rc r (own_e2 fa fc fd fe) wk' (0 : Int32) (own_lb fc fe) ∧ Arv Z h' mc k_mc .int 16 [(.int x0), (.int x1)] (.int 0) ∧ Arv Z h' md k_md .double 16 [(.double y0), (.double y1)] (.double 0) ∧ Arv Z h' le k_le .int 3 [(.int (own_i fa)), (.int (own_i fd)), (.int 0)] (.int 0) ∧ Arv Z h' sr k_sr .int 16 (cond fe (zr.set (own_i fc).toNatClampNeg (.int 2)) zr) (.int 0) ∧ Arv Z h' sp k_sp .int 16 (cond fe (zp.set (own_i fc).toNatClampNeg (.int 1)) zp) (.int 0) ∧ Arv Z h' sw k_sw .double 16 (cond fe (zw.set (own_i fc).toNatClampNeg (.double ve)) zw) (.double 0) ∧ Arv Z h' ss k_ss .double 16 (cond fe (zs.set (own_i fc).toNatClampNeg (.double (cond fd sc FP.dconst1))) zs) (.double 0) ∧ Arv Z h' re k_re (.array .int) (3 : Int32) [.null, .null, g2] .null ∧ ∀ target, own_S p e below m T' 18 #[.val (.ref a1), .val (.long 9223372036854775807), .second, .val (.long (((16 : Int64) * (own_en fa fc fd fe)) + (3 : Int32).toInt64)), .second, .val (.int 2), (.val (.int (own_lb fa fe))), (cond b7' (.val (.int y7')) .unset)] [] target → own_S p e below m T0 18 #[.val (.ref a1), .val (.long 9223372036854775807), .second, .val (.long (((16 : Int64) * (own_en fa fc fd fe)) + (3 : Int32).toInt64)), .second, .val (.int 1), (.val (.int j6)), (cond b7 (.val (.int y7)) .unset)] [] target := by
  have hl := own_laid_of hw
  obtain ⟨or0, or1, or2, or3, or4, or5, or6, or7, or8, or9, or10, or11, or12⟩ := id ord
  rcases fa with _ | _ <;> rcases fe with _ | _
  · obtain ⟨L884, hL884⟩ := own_nm #[.val (.ref a1), .val (.long 9223372036854775807), .second, .val (.long (((16 : Int64) * (own_en false fc fd false)) + (3 : Int32).toInt64)), .second, .val (.int 1), (.val (.int j6)), (cond b7 (.val (.int y7)) .unset)]
    have f885 : Arv Z h0 rc k_rc .int 3 [(.int (own_i fc)), (.int 0), (.int (own_i fd))] (.int 0) := V_rc
    have f886 : Arv Z h0 le k_le .int 3 [(.int 0), (.int (own_i fd)), (.int 0)] (.int 0) := V_le
    have L884_5 := own_ld hL884 5 rfl
    have L884_0 := own_ld hL884 0 rfl
    obtain ⟨T887, X887, e887, st887⟩ := wget X0 hx hby hZ hown (hw _ tm31) e0 (O_a.at 0) L884 [(.int 1)] k13_21
    obtain ⟨L888, hL888⟩ := own_nm #[.val (.ref a1), .val (.long 9223372036854775807), .second, .val (.long (((16 : Int64) * (own_en false fc fd false)) + (3 : Int32).toInt64)), .second, .val (.int 1), .val (.int 0), (cond b7 (.val (.int y7)) .unset)]
    have L888_6 := own_ld hL888 6 rfl
    have L888_0 := own_ld hL888 0 rfl
    obtain ⟨T889, X889, e889, st889⟩ := wget X887 hx hby hZ hown (hw _ tm45) e887 (O_a.at 5) L888 [(.int 0)] k13_33
    have L888_5 := own_ld hL888 5 rfl
    obtain ⟨T890, X890, e890, st890⟩ := wget X889 hx hby hZ hown (hw _ tm43) e889 (O_a.at 4) L888 [] k13_127
    obtain ⟨cl891, Ar891, q891, S891, M891, Hh891, G891⟩ := id V_re
    obtain ⟨T892, h892, X892, e892, W892, st892⟩ := stR X890 hx hZ e890 Ar891 (j := 1) (inb_of S891 ⟨(by decide), (by decide)⟩) rfl (Or.inl rfl) (g := (mkF m 133 L888 [.null, (.int 1), (.ref re)])) rfl rfl (hb hby k13_133)
    have f893 : Arv Z h892 re k_re (.array .int) (3 : Int32) [.null, .null, g2] .null := Arv.set Ar891 q891 S891 M891 Hh891 G891 rfl W892 1 rfl (Nat.le_of_ble_eq_true rfl)
    have N892 := Fr.snoc X892 N0 (by omega : n0 ≤ (re : Nat))
    obtain ⟨L894, hL894⟩ := own_nm #[.val (.ref a1), .val (.long 9223372036854775807), .second, .val (.long (((16 : Int64) * (own_en false fc fd false)) + (3 : Int32).toInt64)), .second, .val (.int 2), .val (.int 0), (cond b7 (.val (.int y7)) .unset)]
    have f895 := ((Keep.refl h0 [a1, mc, md, le, sr, sp, sw, ss, cc, dc, re]).wr W892 (Or.inl (List.mem_of_getElem? (i := 10) rfl)))
    have f896 := (O_a.other W892 (by omega : (a1 : Nat) ≠ re))
    have f897 := (V_mc.other W892 (by omega : (mc : Nat) ≠ re))
    have f898 := (V_md.other W892 (by omega : (md : Nat) ≠ re))
    have f899 := (f886.other W892 (by omega : (le : Nat) ≠ re))
    have f900 := (V_sr.other W892 (by omega : (sr : Nat) ≠ re))
    have f901 := (V_sp.other W892 (by omega : (sp : Nat) ≠ re))
    have f902 := (V_sw.other W892 (by omega : (sw : Nat) ≠ re))
    have f903 := (V_ss.other W892 (by omega : (ss : Nat) ≠ re))
    refine ⟨T892, _, _, wk, b7, y7, X892, e892, N892, f895, f896, f897, f898, f899, f900, f901, f902, f903, f893, fun target kt => ?_⟩
    rw [← hL884]
    show own_S p e below m T0 18 L884 [] _
    refine wiload X0 hx hby k13_18 L884_5 ?_
    refine waloadN X0 hx hby k13_20 L884_0 rfl ?_
    refine st887 _ ?_
    refine wicmpNo X887 hx hby k13_24 (by decide) ?_
    show own_S p e below m T887 27 L884 [] _
    refine wiconst X887 hx hby k13_27 ?_
    refine wistore X887 hx hby k13_28 hL884 hL888 rfl ?_
    refine wiload X887 hx hby k13_30 L888_6 ?_
    refine waloadN X887 hx hby k13_32 L888_0 rfl ?_
    show own_S p e below m T887 33 L888 [(.ref a1), (.int 0)] _
    refine st889 _ ?_
    refine wiload X889 hx hby k13_36 L888_5 ?_
    refine wiaload X889 hx hby hZ e889 f885 1 rfl (by decide) (by decide) (v := (.int 0)) rfl k13_38 ?_
    refine wicmpYes X889 hx hby k13_39 39 126 rfl (by decide) (by decide) (by decide) ?_
    show own_S p e below m T889 126 L888 [] _
    refine waloadN X889 hx hby k13_126 L888_0 rfl ?_
    refine st890 _ ?_
    refine wiload X890 hx hby k13_130 L888_5 ?_
    refine XS.aconstNull X890.here hx rfl (hb hby k13_132) ?_
    show own_S p e below m T890 133 L888 [.null, (.int 1), (.ref re)] _
    refine st892 _ ?_
    refine wiinc X892 hx hby k13_134 L888_5 hL888 hL894 rfl ?_
    refine wgoto X892 hx hby k13_137 137 18 rfl (by decide) (by decide) ?_
    rw [hL894]
    exact kt
  · obtain rfl := hg1 rfl
    obtain ⟨L904, hL904⟩ := own_nm #[.val (.ref a1), .val (.long 9223372036854775807), .second, .val (.long (((16 : Int64) * (own_en false fc fd true)) + (3 : Int32).toInt64)), .second, .val (.int 1), (.val (.int j6)), (cond b7 (.val (.int y7)) .unset)]
    have f905 : Arv Z h0 rc k_rc .int 3 [(.int (own_i fc)), (.int 1), (.int (own_i fd))] (.int 0) := V_rc
    have f906 : Arv Z h0 le k_le .int 3 [(.int 0), (.int (own_i fd)), (.int 1)] (.int 0) := V_le
    have f907 : Arv Z h0 b1 kb1 .int 4 [(.int 2), (.int 0), (.int 0), (.int 0)] (.int 0) := G_b1 rfl
    have L904_5 := own_ld hL904 5 rfl
    have L904_0 := own_ld hL904 0 rfl
    obtain ⟨T908, X908, e908, st908⟩ := wget X0 hx hby hZ hown (hw _ tm31) e0 (O_a.at 0) L904 [(.int 1)] k13_21
    obtain ⟨L909, hL909⟩ := own_nm #[.val (.ref a1), .val (.long 9223372036854775807), .second, .val (.long (((16 : Int64) * (own_en false fc fd true)) + (3 : Int32).toInt64)), .second, .val (.int 1), .val (.int 0), (cond b7 (.val (.int y7)) .unset)]
    have L909_6 := own_ld hL909 6 rfl
    have L909_0 := own_ld hL909 0 rfl
    obtain ⟨T910, X910, e910, st910⟩ := wget X908 hx hby hZ hown (hw _ tm45) e908 (O_a.at 5) L909 [(.int 0)] k13_33
    have L909_5 := own_ld hL909 5 rfl
    obtain ⟨T911, X911, e911, st911⟩ := wget X910 hx hby hZ hown (hw _ tm43) e910 (O_a.at 4) L909 [] k13_43
    obtain ⟨L912, hL912⟩ := own_nm #[.val (.ref a1), .val (.long 9223372036854775807), .second, .val (.long (((16 : Int64) * (own_en false fc fd true)) + (3 : Int32).toInt64)), .second, .val (.int 1), .val (.int 0), .val (.int 2)]
    have L912_7 := own_ld hL912 7 rfl
    have L912_5 := own_ld hL912 5 rfl
    have L912_0 := own_ld hL912 0 rfl
    obtain ⟨T913, X913, e913, st913⟩ := wget X911 hx hby hZ hown (hw _ tm75) e911 (O_a.at 8) L912 [(.ref a1)] k13_66
    obtain ⟨T914, X914, e914, st914⟩ := wget X913 hx hby hZ hown (hw _ tm41) e913 (O_a.at 3) L912 [(.long wk), (.ref a1)] k13_70
    obtain ⟨T915, X915, e915, st915⟩ := wget X914 hx hby hZ hown (hw _ tm41) e914 (O_a.at 3) L912 [(.int 1), (.long wk), (.ref a1)] k13_77
    obtain ⟨T916, h916, X916, e916, W916, st916⟩ := putF X915 hx hZ hown (host := "") (Or.inl (hw _ tm75)) Via.refl e915 (O_a.2.2 8 (by decide)) O_a.1 (Or.inl (hw _ tm76)) (hw _ tm6) (ty := .long) (by decide) rfl rfl (g := (mkF m 86 L912 [(.long (wk + ((1 : Int32) + (own_i fd)).toInt64)), (.ref a1)])) rfl rfl (hb hby k13_86)
    have N916 := Fr.snoc X916 N0 (by omega : n0 ≤ (a1 : Nat))
    have f917 : own_E Z h916 a1 oc od mc md sr sp sw ss co cf le re rc r (own_e1 false fc fd true) (wk + ((1 : Int32) + (own_i fd)).toInt64) (0 : Int32) (own_i fc) := own_put O_a hl (i := 8) (by decide) W916
    obtain ⟨T918, X918, e918, st918⟩ := wget X916 hx hby hZ hown (hw _ tm75) e916 (f917.at 8) L912 [] k13_90
    have L912_1 := own_ld hL912 1 rfl
    have f919 := (V_co.other W916 (by omega : (co : Nat) ≠ a1))
    have f920 := (V_cf.other W916 (by omega : (cf : Nat) ≠ a1))
    have f921 := (f906.other W916 (by omega : (le : Nat) ≠ a1))
    have f922 := (V_mc.other W916 (by omega : (mc : Nat) ≠ a1))
    have f923 := (V_md.other W916 (by omega : (md : Nat) ≠ a1))
    have f924 := (V_sr.other W916 (by omega : (sr : Nat) ≠ a1))
    have f925 := (V_sp.other W916 (by omega : (sp : Nat) ≠ a1))
    have f926 := (V_sw.other W916 (by omega : (sw : Nat) ≠ a1))
    have f927 := (V_ss.other W916 (by omega : (ss : Nat) ≠ a1))
    have f928 := (V_cb.other W916 (by omega : (cb : Nat) ≠ a1))
    have f929 := (V_db.other W916 (by omega : (db : Nat) ≠ a1))
    have f930 := (V_cc.other W916 (by omega : (cc : Nat) ≠ a1))
    have f931 := (V_dc.other W916 (by omega : (dc : Nat) ≠ a1))
    have f933 := ((Keep.refl h0 [a1, mc, md, le, sr, sp, sw, ss, cc, dc, re]).wr W916 (Or.inl (List.mem_of_getElem? (i := 0) rfl)))
    have Z932 : n0 ≤ h916.size := Nat.le_trans Z0 f933.1
    have f934 := (V_re.other W916 (by omega : (re : Nat) ≠ a1))
    obtain ⟨T935, h935, LT935, X935, e935, N935, K935, Oa935, Fmc935, Fmd935, Fle935, Fsr935, Fsp935, Fsw935, Fss935, st935⟩ := elS1 Z a0 hw a1 oc od mc md sr sp sw ss co cf le re rc k_co k_cf k_le k_mc k_md k_sr k_sp k_sw k_ss r (own_e1 false fc fd true) (wk + ((1 : Int32) + (own_i fd)).toInt64) false fc fd ca da cb db cc dc kca kda kcb kdb kcc kdc x0 x1 y0 y1 nb t0 t1 s0 s1 ve ow sc zr zp zw zs L912 h916 n0 X918 hx hZ hby hml hown e918 N916 Z932 L912_0 L912_5 L912_7 (by rw [hml, hL912]; rfl) f917 f919 f920 f921 f922 f923 f924 f925 f926 f927 lzr lzp lzw lzs f928 f929 f930 f931 ht (fac rfl) p1 p2 p3 p4 p5 p6 ord g_a
    rw [(by cases fc <;> decide : own_i fc + (1 : Int32) = own_lb fc true)] at Oa935
    obtain ⟨T936, X936, e936, st936⟩ := wget X935 hx hby hZ hown (hw _ tm73) e935 (Oa935.at 7) L912 [] k13_110
    have L912_3 := own_ld hL912 3 rfl
    have L912_6 := own_ld hL912 6 rfl
    obtain ⟨L937, hL937⟩ := own_nm #[.val (.ref a1), .val (.long 9223372036854775807), .second, .val (.long (((16 : Int64) * (own_en false fc fd true)) + (3 : Int32).toInt64)), .second, .val (.int 1), .val (.int 1), .val (.int 2)]
    have L937_6 := own_ld hL937 6 rfl
    have L937_0 := own_ld hL937 0 rfl
    obtain ⟨T938, X938, e938, st938⟩ := wget X936 hx hby hZ hown (hw _ tm45) e936 (Oa935.at 5) L937 [(.int 1)] k13_33
    have L937_5 := own_ld hL937 5 rfl
    have f939 := ((f905.other W916 (by omega : (rc : Nat) ≠ a1)).keep K935 (by repeat' first | exact nin0 | refine ninS ?_ ?_ | (show (_ : Nat) ≠ _; omega)))
    obtain ⟨T940, X940, e940, st940⟩ := wget X938 hx hby hZ hown (hw _ tm43) e938 (Oa935.at 4) L937 [] k13_127
    have f941 := (f934.keep K935 (by repeat' first | exact nin0 | refine ninS ?_ ?_ | (show (_ : Nat) ≠ _; omega)))
    obtain ⟨cl942, Ar942, q942, S942, M942, Hh942, G942⟩ := id f941
    obtain ⟨T943, h943, X943, e943, W943, st943⟩ := stR X940 hx hZ e940 Ar942 (j := 1) (inb_of S942 ⟨(by decide), (by decide)⟩) rfl (Or.inl rfl) (g := (mkF m 133 L937 [.null, (.int 1), (.ref re)])) rfl rfl (hb hby k13_133)
    have f944 : Arv Z h943 re k_re (.array .int) (3 : Int32) [.null, .null, g2] .null := Arv.set Ar942 q942 S942 M942 Hh942 G942 rfl W943 1 rfl (Nat.le_of_ble_eq_true rfl)
    have N943 := Fr.snoc X943 N935 (by omega : n0 ≤ (re : Nat))
    obtain ⟨L945, hL945⟩ := own_nm #[.val (.ref a1), .val (.long 9223372036854775807), .second, .val (.long (((16 : Int64) * (own_en false fc fd true)) + (3 : Int32).toInt64)), .second, .val (.int 2), .val (.int 1), .val (.int 2)]
    have f946 := ((f933.trans K935 (allS (Or.inl (List.mem_of_getElem? (i := 0) rfl)) (allS (Or.inl (List.mem_of_getElem? (i := 1) rfl)) (allS (Or.inl (List.mem_of_getElem? (i := 2) rfl)) (allS (Or.inl (List.mem_of_getElem? (i := 3) rfl)) (allS (Or.inl (List.mem_of_getElem? (i := 4) rfl)) (allS (Or.inl (List.mem_of_getElem? (i := 5) rfl)) (allS (Or.inl (List.mem_of_getElem? (i := 6) rfl)) (allS (Or.inl (List.mem_of_getElem? (i := 7) rfl)) (allS (Or.inl (List.mem_of_getElem? (i := 8) rfl)) (allS (Or.inl (List.mem_of_getElem? (i := 9) rfl)) all0))))))))))).wr W943 (Or.inl (List.mem_of_getElem? (i := 10) rfl)))
    have f947 := (Oa935.other W943 (by omega : (a1 : Nat) ≠ re))
    have f948 := (Fmc935.other W943 (by omega : (mc : Nat) ≠ re))
    have f949 := (Fmd935.other W943 (by omega : (md : Nat) ≠ re))
    have f950 := (Fle935.other W943 (by omega : (le : Nat) ≠ re))
    have f951 := (Fsr935.other W943 (by omega : (sr : Nat) ≠ re))
    have f952 := (Fsp935.other W943 (by omega : (sp : Nat) ≠ re))
    have f953 := (Fsw935.other W943 (by omega : (sw : Nat) ≠ re))
    have f954 := (Fss935.other W943 (by omega : (ss : Nat) ≠ re))
    refine ⟨T943, _, _, (wk + ((1 : Int32) + (own_i fd)).toInt64), true, (2 : Int32), X943, e943, N943, f946, f947, f948, f949, f950, f951, f952, f953, f954, f944, fun target kt => ?_⟩
    rw [← hL904]
    show own_S p e below m T0 18 L904 [] _
    refine wiload X0 hx hby k13_18 L904_5 ?_
    refine waloadN X0 hx hby k13_20 L904_0 rfl ?_
    refine st908 _ ?_
    refine wicmpNo X908 hx hby k13_24 (by decide) ?_
    show own_S p e below m T908 27 L904 [] _
    refine wiconst X908 hx hby k13_27 ?_
    refine wistore X908 hx hby k13_28 hL904 hL909 rfl ?_
    refine wiload X908 hx hby k13_30 L909_6 ?_
    refine waloadN X908 hx hby k13_32 L909_0 rfl ?_
    show own_S p e below m T908 33 L909 [(.ref a1), (.int 0)] _
    refine st910 _ ?_
    refine wiload X910 hx hby k13_36 L909_5 ?_
    refine wiaload X910 hx hby hZ e910 f905 1 rfl (by decide) (by decide) (v := (.int 1)) rfl k13_38 ?_
    refine wicmpNo X910 hx hby k13_39 (by decide) ?_
    show own_S p e below m T910 42 L909 [] _
    refine waloadN X910 hx hby k13_42 L909_0 rfl ?_
    refine st911 _ ?_
    refine wiload X911 hx hby k13_46 L909_5 ?_
    refine waaload X911 hx hby hZ e911 V_re 1 rfl (by decide) (by decide) (v := (.ref b1)) rfl k13_48 ?_
    show own_S p e below m T911 49 L909 [(.ref b1)] _
    refine wiload X911 hx hby k13_49 L909_6 ?_
    refine wiaload X911 hx hby hZ e911 f907 0 rfl (by decide) (by decide) (v := (.int 2)) rfl k13_51 ?_
    refine XS.istore X911.here hx rfl (hb hby k13_52) rfl (l' := L912) (by rw [hL909, hL912]; cases b7 <;> rfl) ?_
    refine wiload X911 hx hby k13_54 L912_7 ?_
    show own_S p e below m T911 56 L912 [(.int 2)] _
    refine wiload X911 hx hby k13_56 L912_5 ?_
    refine wicmpYes X911 hx hby k13_58 58 64 rfl (by decide) (by decide) (by decide) ?_
    refine waloadN X911 hx hby k13_64 L912_0 rfl ?_
    refine XS.dup X911.here hx rfl (hb hby k13_65) rfl rfl ?_
    show own_S p e below m T911 66 L912 [(.ref a1), (.ref a1)] _
    refine st913 _ ?_
    refine waloadN X913 hx hby k13_69 L912_0 rfl ?_
    refine st914 _ ?_
    refine wiload X914 hx hby k13_73 L912_7 ?_
    show own_S p e below m T914 75 L912 [(.int 2), (.ref le), (.long wk), (.ref a1)] _
    refine wiaload X914 hx hby hZ e914 f906 2 rfl (by decide) (by decide) (v := (.int 1)) rfl k13_75 ?_
    refine waloadN X914 hx hby k13_76 L912_0 rfl ?_
    refine st915 _ ?_
    refine wiload X915 hx hby k13_80 L912_5 ?_
    show own_S p e below m T915 82 L912 [(.int 1), (.ref le), (.int 1), (.long wk), (.ref a1)] _
    refine wiaload X915 hx hby hZ e915 f906 1 rfl (by decide) (by decide) (v := (.int (own_i fd))) rfl k13_82 ?_
    refine XS.iadd X915.here hx rfl (hb hby k13_83) rfl ?_
    refine XS.i2l X915.here hx rfl (hb hby k13_84) rfl ?_
    refine XS.ladd X915.here hx rfl (hb hby k13_85) rfl ?_
    show own_S p e below m T915 86 L912 [(.long (wk + ((1 : Int32) + (own_i fd)).toInt64)), (.ref a1)] _
    refine st916 _ ?_
    refine waloadN X916 hx hby k13_89 L912_0 rfl ?_
    refine st918 _ ?_
    refine XS.lloadN X918.here hx rfl (hb hby k13_93) L912_1 ?_
    show own_S p e below m T918 94 L912 [(.long 9223372036854775807), (.long (wk + ((1 : Int32) + (own_i fd)).toInt64))] _
    refine XS.lcmp X918.here hx rfl (hb hby k13_94) rfl ?_
    refine wifNo X918 hx hby k13_95 ((if0 _ _).trans (flt (own_wk _)).2.2.1) ?_
    refine st935 _ ?_
    refine waloadN X935 hx hby k13_109 L912_0 rfl ?_
    show own_S p e below m T935 110 L912 [(.ref a1)] _
    refine st936 _ ?_
    refine XS.lloadN X936.here hx rfl (hb hby k13_113) L912_3 ?_
    refine XS.lcmp X936.here hx rfl (hb hby k13_114) rfl ?_
    refine wifYes X936 hx hby k13_115 115 120 rfl ((if0 _ _).trans (flt (own_l2 false fc fd)).2.2.2) (by decide) (by decide) ?_
    show own_S p e below m T936 120 L912 [] _
    refine wiinc X936 hx hby k13_120 L912_6 hL912 hL937 rfl ?_
    refine wgoto X936 hx hby k13_123 123 30 rfl (by decide) (by decide) ?_
    refine wiload X936 hx hby k13_30 L937_6 ?_
    refine waloadN X936 hx hby k13_32 L937_0 rfl ?_
    show own_S p e below m T936 33 L937 [(.ref a1), (.int 1)] _
    refine st938 _ ?_
    refine wiload X938 hx hby k13_36 L937_5 ?_
    refine wiaload X938 hx hby hZ e938 f939 1 rfl (by decide) (by decide) (v := (.int 1)) rfl k13_38 ?_
    refine wicmpYes X938 hx hby k13_39 39 126 rfl (by decide) (by decide) (by decide) ?_
    show own_S p e below m T938 126 L937 [] _
    refine waloadN X938 hx hby k13_126 L937_0 rfl ?_
    refine st940 _ ?_
    refine wiload X940 hx hby k13_130 L937_5 ?_
    refine XS.aconstNull X940.here hx rfl (hb hby k13_132) ?_
    show own_S p e below m T940 133 L937 [.null, (.int 1), (.ref re)] _
    refine st943 _ ?_
    refine wiinc X943 hx hby k13_134 L937_5 hL937 hL945 rfl ?_
    refine wgoto X943 hx hby k13_137 137 18 rfl (by decide) (by decide) ?_
    rw [hL945]
    exact kt
  · obtain rfl := hg1 rfl
    obtain ⟨L955, hL955⟩ := own_nm #[.val (.ref a1), .val (.long 9223372036854775807), .second, .val (.long (((16 : Int64) * (own_en true fc fd false)) + (3 : Int32).toInt64)), .second, .val (.int 1), (.val (.int j6)), (cond b7 (.val (.int y7)) .unset)]
    have f956 : Arv Z h0 rc k_rc .int 3 [(.int (own_i fc)), (.int 1), (.int (own_i fd))] (.int 0) := V_rc
    have f957 : Arv Z h0 le k_le .int 3 [(.int 1), (.int (own_i fd)), (.int 0)] (.int 0) := V_le
    have f958 : Arv Z h0 b1 kb1 .int 4 [(.int 0), (.int 0), (.int 0), (.int 0)] (.int 0) := G_b1 rfl
    have L955_5 := own_ld hL955 5 rfl
    have L955_0 := own_ld hL955 0 rfl
    obtain ⟨T959, X959, e959, st959⟩ := wget X0 hx hby hZ hown (hw _ tm31) e0 (O_a.at 0) L955 [(.int 1)] k13_21
    obtain ⟨L960, hL960⟩ := own_nm #[.val (.ref a1), .val (.long 9223372036854775807), .second, .val (.long (((16 : Int64) * (own_en true fc fd false)) + (3 : Int32).toInt64)), .second, .val (.int 1), .val (.int 0), (cond b7 (.val (.int y7)) .unset)]
    have L960_6 := own_ld hL960 6 rfl
    have L960_0 := own_ld hL960 0 rfl
    obtain ⟨T961, X961, e961, st961⟩ := wget X959 hx hby hZ hown (hw _ tm45) e959 (O_a.at 5) L960 [(.int 0)] k13_33
    have L960_5 := own_ld hL960 5 rfl
    obtain ⟨T962, X962, e962, st962⟩ := wget X961 hx hby hZ hown (hw _ tm43) e961 (O_a.at 4) L960 [] k13_43
    obtain ⟨L963, hL963⟩ := own_nm #[.val (.ref a1), .val (.long 9223372036854775807), .second, .val (.long (((16 : Int64) * (own_en true fc fd false)) + (3 : Int32).toInt64)), .second, .val (.int 1), .val (.int 0), .val (.int 0)]
    have L963_7 := own_ld hL963 7 rfl
    have L963_5 := own_ld hL963 5 rfl
    have L963_6 := own_ld hL963 6 rfl
    obtain ⟨L964, hL964⟩ := own_nm #[.val (.ref a1), .val (.long 9223372036854775807), .second, .val (.long (((16 : Int64) * (own_en true fc fd false)) + (3 : Int32).toInt64)), .second, .val (.int 1), .val (.int 1), .val (.int 0)]
    have L964_6 := own_ld hL964 6 rfl
    have L964_0 := own_ld hL964 0 rfl
    obtain ⟨T965, X965, e965, st965⟩ := wget X962 hx hby hZ hown (hw _ tm45) e962 (O_a.at 5) L964 [(.int 1)] k13_33
    have L964_5 := own_ld hL964 5 rfl
    obtain ⟨T966, X966, e966, st966⟩ := wget X965 hx hby hZ hown (hw _ tm43) e965 (O_a.at 4) L964 [] k13_127
    obtain ⟨cl967, Ar967, q967, S967, M967, Hh967, G967⟩ := id V_re
    obtain ⟨T968, h968, X968, e968, W968, st968⟩ := stR X966 hx hZ e966 Ar967 (j := 1) (inb_of S967 ⟨(by decide), (by decide)⟩) rfl (Or.inl rfl) (g := (mkF m 133 L964 [.null, (.int 1), (.ref re)])) rfl rfl (hb hby k13_133)
    have f969 : Arv Z h968 re k_re (.array .int) (3 : Int32) [.null, .null, g2] .null := Arv.set Ar967 q967 S967 M967 Hh967 G967 rfl W968 1 rfl (Nat.le_of_ble_eq_true rfl)
    have N968 := Fr.snoc X968 N0 (by omega : n0 ≤ (re : Nat))
    obtain ⟨L970, hL970⟩ := own_nm #[.val (.ref a1), .val (.long 9223372036854775807), .second, .val (.long (((16 : Int64) * (own_en true fc fd false)) + (3 : Int32).toInt64)), .second, .val (.int 2), .val (.int 1), .val (.int 0)]
    have f971 := ((Keep.refl h0 [a1, mc, md, le, sr, sp, sw, ss, cc, dc, re]).wr W968 (Or.inl (List.mem_of_getElem? (i := 10) rfl)))
    have f972 := (O_a.other W968 (by omega : (a1 : Nat) ≠ re))
    have f973 := (V_mc.other W968 (by omega : (mc : Nat) ≠ re))
    have f974 := (V_md.other W968 (by omega : (md : Nat) ≠ re))
    have f975 := (f957.other W968 (by omega : (le : Nat) ≠ re))
    have f976 := (V_sr.other W968 (by omega : (sr : Nat) ≠ re))
    have f977 := (V_sp.other W968 (by omega : (sp : Nat) ≠ re))
    have f978 := (V_sw.other W968 (by omega : (sw : Nat) ≠ re))
    have f979 := (V_ss.other W968 (by omega : (ss : Nat) ≠ re))
    refine ⟨T968, _, _, wk, true, (0 : Int32), X968, e968, N968, f971, f972, f973, f974, f975, f976, f977, f978, f979, f969, fun target kt => ?_⟩
    rw [← hL955]
    show own_S p e below m T0 18 L955 [] _
    refine wiload X0 hx hby k13_18 L955_5 ?_
    refine waloadN X0 hx hby k13_20 L955_0 rfl ?_
    refine st959 _ ?_
    refine wicmpNo X959 hx hby k13_24 (by decide) ?_
    show own_S p e below m T959 27 L955 [] _
    refine wiconst X959 hx hby k13_27 ?_
    refine wistore X959 hx hby k13_28 hL955 hL960 rfl ?_
    refine wiload X959 hx hby k13_30 L960_6 ?_
    refine waloadN X959 hx hby k13_32 L960_0 rfl ?_
    show own_S p e below m T959 33 L960 [(.ref a1), (.int 0)] _
    refine st961 _ ?_
    refine wiload X961 hx hby k13_36 L960_5 ?_
    refine wiaload X961 hx hby hZ e961 f956 1 rfl (by decide) (by decide) (v := (.int 1)) rfl k13_38 ?_
    refine wicmpNo X961 hx hby k13_39 (by decide) ?_
    show own_S p e below m T961 42 L960 [] _
    refine waloadN X961 hx hby k13_42 L960_0 rfl ?_
    refine st962 _ ?_
    refine wiload X962 hx hby k13_46 L960_5 ?_
    refine waaload X962 hx hby hZ e962 V_re 1 rfl (by decide) (by decide) (v := (.ref b1)) rfl k13_48 ?_
    show own_S p e below m T962 49 L960 [(.ref b1)] _
    refine wiload X962 hx hby k13_49 L960_6 ?_
    refine wiaload X962 hx hby hZ e962 f958 0 rfl (by decide) (by decide) (v := (.int 0)) rfl k13_51 ?_
    refine XS.istore X962.here hx rfl (hb hby k13_52) rfl (l' := L963) (by rw [hL960, hL963]; cases b7 <;> rfl) ?_
    refine wiload X962 hx hby k13_54 L963_7 ?_
    show own_S p e below m T962 56 L963 [(.int 0)] _
    refine wiload X962 hx hby k13_56 L963_5 ?_
    refine wicmpNo X962 hx hby k13_58 (by decide) ?_
    refine wgoto X962 hx hby k13_61 61 120 rfl (by decide) (by decide) ?_
    refine wiinc X962 hx hby k13_120 L963_6 hL963 hL964 rfl ?_
    show own_S p e below m T962 123 L964 [] _
    refine wgoto X962 hx hby k13_123 123 30 rfl (by decide) (by decide) ?_
    refine wiload X962 hx hby k13_30 L964_6 ?_
    refine waloadN X962 hx hby k13_32 L964_0 rfl ?_
    refine st965 _ ?_
    show own_S p e below m T965 36 L964 [(.ref rc), (.int 1)] _
    refine wiload X965 hx hby k13_36 L964_5 ?_
    refine wiaload X965 hx hby hZ e965 f956 1 rfl (by decide) (by decide) (v := (.int 1)) rfl k13_38 ?_
    refine wicmpYes X965 hx hby k13_39 39 126 rfl (by decide) (by decide) (by decide) ?_
    refine waloadN X965 hx hby k13_126 L964_0 rfl ?_
    show own_S p e below m T965 127 L964 [(.ref a1)] _
    refine st966 _ ?_
    refine wiload X966 hx hby k13_130 L964_5 ?_
    refine XS.aconstNull X966.here hx rfl (hb hby k13_132) ?_
    refine st968 _ ?_
    show own_S p e below m T968 134 L964 [] _
    refine wiinc X968 hx hby k13_134 L964_5 hL964 hL970 rfl ?_
    refine wgoto X968 hx hby k13_137 137 18 rfl (by decide) (by decide) ?_
    rw [hL970]
    exact kt
  · obtain rfl := hg1 rfl
    obtain ⟨L980, hL980⟩ := own_nm #[.val (.ref a1), .val (.long 9223372036854775807), .second, .val (.long (((16 : Int64) * (own_en true fc fd true)) + (3 : Int32).toInt64)), .second, .val (.int 1), (.val (.int j6)), (cond b7 (.val (.int y7)) .unset)]
    have f981 : Arv Z h0 rc k_rc .int 3 [(.int (own_i fc)), (.int 2), (.int (own_i fd))] (.int 0) := V_rc
    have f982 : Arv Z h0 le k_le .int 3 [(.int 1), (.int (own_i fd)), (.int 1)] (.int 0) := V_le
    have f983 : Arv Z h0 b1 kb1 .int 4 [(.int 0), (.int 2), (.int 0), (.int 0)] (.int 0) := G_b1 rfl
    have L980_5 := own_ld hL980 5 rfl
    have L980_0 := own_ld hL980 0 rfl
    obtain ⟨T984, X984, e984, st984⟩ := wget X0 hx hby hZ hown (hw _ tm31) e0 (O_a.at 0) L980 [(.int 1)] k13_21
    obtain ⟨L985, hL985⟩ := own_nm #[.val (.ref a1), .val (.long 9223372036854775807), .second, .val (.long (((16 : Int64) * (own_en true fc fd true)) + (3 : Int32).toInt64)), .second, .val (.int 1), .val (.int 0), (cond b7 (.val (.int y7)) .unset)]
    have L985_6 := own_ld hL985 6 rfl
    have L985_0 := own_ld hL985 0 rfl
    obtain ⟨T986, X986, e986, st986⟩ := wget X984 hx hby hZ hown (hw _ tm45) e984 (O_a.at 5) L985 [(.int 0)] k13_33
    have L985_5 := own_ld hL985 5 rfl
    obtain ⟨T987, X987, e987, st987⟩ := wget X986 hx hby hZ hown (hw _ tm43) e986 (O_a.at 4) L985 [] k13_43
    obtain ⟨L988, hL988⟩ := own_nm #[.val (.ref a1), .val (.long 9223372036854775807), .second, .val (.long (((16 : Int64) * (own_en true fc fd true)) + (3 : Int32).toInt64)), .second, .val (.int 1), .val (.int 0), .val (.int 0)]
    have L988_7 := own_ld hL988 7 rfl
    have L988_5 := own_ld hL988 5 rfl
    have L988_6 := own_ld hL988 6 rfl
    obtain ⟨L989, hL989⟩ := own_nm #[.val (.ref a1), .val (.long 9223372036854775807), .second, .val (.long (((16 : Int64) * (own_en true fc fd true)) + (3 : Int32).toInt64)), .second, .val (.int 1), .val (.int 1), .val (.int 0)]
    have L989_6 := own_ld hL989 6 rfl
    have L989_0 := own_ld hL989 0 rfl
    obtain ⟨T990, X990, e990, st990⟩ := wget X987 hx hby hZ hown (hw _ tm45) e987 (O_a.at 5) L989 [(.int 1)] k13_33
    have L989_5 := own_ld hL989 5 rfl
    obtain ⟨T991, X991, e991, st991⟩ := wget X990 hx hby hZ hown (hw _ tm43) e990 (O_a.at 4) L989 [] k13_43
    obtain ⟨L992, hL992⟩ := own_nm #[.val (.ref a1), .val (.long 9223372036854775807), .second, .val (.long (((16 : Int64) * (own_en true fc fd true)) + (3 : Int32).toInt64)), .second, .val (.int 1), .val (.int 1), .val (.int 2)]
    have L992_7 := own_ld hL992 7 rfl
    have L992_5 := own_ld hL992 5 rfl
    have L992_0 := own_ld hL992 0 rfl
    obtain ⟨T993, X993, e993, st993⟩ := wget X991 hx hby hZ hown (hw _ tm75) e991 (O_a.at 8) L992 [(.ref a1)] k13_66
    obtain ⟨T994, X994, e994, st994⟩ := wget X993 hx hby hZ hown (hw _ tm41) e993 (O_a.at 3) L992 [(.long wk), (.ref a1)] k13_70
    obtain ⟨T995, X995, e995, st995⟩ := wget X994 hx hby hZ hown (hw _ tm41) e994 (O_a.at 3) L992 [(.int 1), (.long wk), (.ref a1)] k13_77
    obtain ⟨T996, h996, X996, e996, W996, st996⟩ := putF X995 hx hZ hown (host := "") (Or.inl (hw _ tm75)) Via.refl e995 (O_a.2.2 8 (by decide)) O_a.1 (Or.inl (hw _ tm76)) (hw _ tm6) (ty := .long) (by decide) rfl rfl (g := (mkF m 86 L992 [(.long (wk + ((1 : Int32) + (own_i fd)).toInt64)), (.ref a1)])) rfl rfl (hb hby k13_86)
    have N996 := Fr.snoc X996 N0 (by omega : n0 ≤ (a1 : Nat))
    have f997 : own_E Z h996 a1 oc od mc md sr sp sw ss co cf le re rc r (own_e1 true fc fd true) (wk + ((1 : Int32) + (own_i fd)).toInt64) (0 : Int32) (own_i fc) := own_put O_a hl (i := 8) (by decide) W996
    obtain ⟨T998, X998, e998, st998⟩ := wget X996 hx hby hZ hown (hw _ tm75) e996 (f997.at 8) L992 [] k13_90
    have L992_1 := own_ld hL992 1 rfl
    have f999 := (V_co.other W996 (by omega : (co : Nat) ≠ a1))
    have f1000 := (V_cf.other W996 (by omega : (cf : Nat) ≠ a1))
    have f1001 := (f982.other W996 (by omega : (le : Nat) ≠ a1))
    have f1002 := (V_mc.other W996 (by omega : (mc : Nat) ≠ a1))
    have f1003 := (V_md.other W996 (by omega : (md : Nat) ≠ a1))
    have f1004 := (V_sr.other W996 (by omega : (sr : Nat) ≠ a1))
    have f1005 := (V_sp.other W996 (by omega : (sp : Nat) ≠ a1))
    have f1006 := (V_sw.other W996 (by omega : (sw : Nat) ≠ a1))
    have f1007 := (V_ss.other W996 (by omega : (ss : Nat) ≠ a1))
    have f1008 := (V_cb.other W996 (by omega : (cb : Nat) ≠ a1))
    have f1009 := (V_db.other W996 (by omega : (db : Nat) ≠ a1))
    have f1010 := (V_cc.other W996 (by omega : (cc : Nat) ≠ a1))
    have f1011 := (V_dc.other W996 (by omega : (dc : Nat) ≠ a1))
    have f1013 := ((Keep.refl h0 [a1, mc, md, le, sr, sp, sw, ss, cc, dc, re]).wr W996 (Or.inl (List.mem_of_getElem? (i := 0) rfl)))
    have Z1012 : n0 ≤ h996.size := Nat.le_trans Z0 f1013.1
    have f1014 := (V_re.other W996 (by omega : (re : Nat) ≠ a1))
    obtain ⟨T1015, h1015, LT1015, X1015, e1015, N1015, K1015, Oa1015, Fmc1015, Fmd1015, Fle1015, Fsr1015, Fsp1015, Fsw1015, Fss1015, st1015⟩ := elS1 Z a0 hw a1 oc od mc md sr sp sw ss co cf le re rc k_co k_cf k_le k_mc k_md k_sr k_sp k_sw k_ss r (own_e1 true fc fd true) (wk + ((1 : Int32) + (own_i fd)).toInt64) true fc fd ca da cb db cc dc kca kda kcb kdb kcc kdc x0 x1 y0 y1 nb t0 t1 s0 s1 ve ow sc zr zp zw zs L992 h996 n0 X998 hx hZ hby hml hown e998 N996 Z1012 L992_0 L992_5 L992_7 (by rw [hml, hL992]; rfl) f997 f999 f1000 f1001 f1002 f1003 f1004 f1005 f1006 f1007 lzr lzp lzw lzs f1008 f1009 f1010 f1011 ht (fac rfl) p1 p2 p3 p4 p5 p6 ord g_a
    rw [(by cases fc <;> decide : own_i fc + (1 : Int32) = own_lb fc true)] at Oa1015
    obtain ⟨T1016, X1016, e1016, st1016⟩ := wget X1015 hx hby hZ hown (hw _ tm73) e1015 (Oa1015.at 7) L992 [] k13_110
    have L992_3 := own_ld hL992 3 rfl
    have L992_6 := own_ld hL992 6 rfl
    obtain ⟨L1017, hL1017⟩ := own_nm #[.val (.ref a1), .val (.long 9223372036854775807), .second, .val (.long (((16 : Int64) * (own_en true fc fd true)) + (3 : Int32).toInt64)), .second, .val (.int 1), .val (.int 2), .val (.int 2)]
    have L1017_6 := own_ld hL1017 6 rfl
    have L1017_0 := own_ld hL1017 0 rfl
    obtain ⟨T1018, X1018, e1018, st1018⟩ := wget X1016 hx hby hZ hown (hw _ tm45) e1016 (Oa1015.at 5) L1017 [(.int 2)] k13_33
    have L1017_5 := own_ld hL1017 5 rfl
    have f1019 := ((f981.other W996 (by omega : (rc : Nat) ≠ a1)).keep K1015 (by repeat' first | exact nin0 | refine ninS ?_ ?_ | (show (_ : Nat) ≠ _; omega)))
    obtain ⟨T1020, X1020, e1020, st1020⟩ := wget X1018 hx hby hZ hown (hw _ tm43) e1018 (Oa1015.at 4) L1017 [] k13_127
    have f1021 := (f1014.keep K1015 (by repeat' first | exact nin0 | refine ninS ?_ ?_ | (show (_ : Nat) ≠ _; omega)))
    obtain ⟨cl1022, Ar1022, q1022, S1022, M1022, Hh1022, G1022⟩ := id f1021
    obtain ⟨T1023, h1023, X1023, e1023, W1023, st1023⟩ := stR X1020 hx hZ e1020 Ar1022 (j := 1) (inb_of S1022 ⟨(by decide), (by decide)⟩) rfl (Or.inl rfl) (g := (mkF m 133 L1017 [.null, (.int 1), (.ref re)])) rfl rfl (hb hby k13_133)
    have f1024 : Arv Z h1023 re k_re (.array .int) (3 : Int32) [.null, .null, g2] .null := Arv.set Ar1022 q1022 S1022 M1022 Hh1022 G1022 rfl W1023 1 rfl (Nat.le_of_ble_eq_true rfl)
    have N1023 := Fr.snoc X1023 N1015 (by omega : n0 ≤ (re : Nat))
    obtain ⟨L1025, hL1025⟩ := own_nm #[.val (.ref a1), .val (.long 9223372036854775807), .second, .val (.long (((16 : Int64) * (own_en true fc fd true)) + (3 : Int32).toInt64)), .second, .val (.int 2), .val (.int 2), .val (.int 2)]
    have f1026 := ((f1013.trans K1015 (allS (Or.inl (List.mem_of_getElem? (i := 0) rfl)) (allS (Or.inl (List.mem_of_getElem? (i := 1) rfl)) (allS (Or.inl (List.mem_of_getElem? (i := 2) rfl)) (allS (Or.inl (List.mem_of_getElem? (i := 3) rfl)) (allS (Or.inl (List.mem_of_getElem? (i := 4) rfl)) (allS (Or.inl (List.mem_of_getElem? (i := 5) rfl)) (allS (Or.inl (List.mem_of_getElem? (i := 6) rfl)) (allS (Or.inl (List.mem_of_getElem? (i := 7) rfl)) (allS (Or.inl (List.mem_of_getElem? (i := 8) rfl)) (allS (Or.inl (List.mem_of_getElem? (i := 9) rfl)) all0))))))))))).wr W1023 (Or.inl (List.mem_of_getElem? (i := 10) rfl)))
    have f1027 := (Oa1015.other W1023 (by omega : (a1 : Nat) ≠ re))
    have f1028 := (Fmc1015.other W1023 (by omega : (mc : Nat) ≠ re))
    have f1029 := (Fmd1015.other W1023 (by omega : (md : Nat) ≠ re))
    have f1030 := (Fle1015.other W1023 (by omega : (le : Nat) ≠ re))
    have f1031 := (Fsr1015.other W1023 (by omega : (sr : Nat) ≠ re))
    have f1032 := (Fsp1015.other W1023 (by omega : (sp : Nat) ≠ re))
    have f1033 := (Fsw1015.other W1023 (by omega : (sw : Nat) ≠ re))
    have f1034 := (Fss1015.other W1023 (by omega : (ss : Nat) ≠ re))
    refine ⟨T1023, _, _, (wk + ((1 : Int32) + (own_i fd)).toInt64), true, (2 : Int32), X1023, e1023, N1023, f1026, f1027, f1028, f1029, f1030, f1031, f1032, f1033, f1034, f1024, fun target kt => ?_⟩
    rw [← hL980]
    show own_S p e below m T0 18 L980 [] _
    refine wiload X0 hx hby k13_18 L980_5 ?_
    refine waloadN X0 hx hby k13_20 L980_0 rfl ?_
    refine st984 _ ?_
    refine wicmpNo X984 hx hby k13_24 (by decide) ?_
    show own_S p e below m T984 27 L980 [] _
    refine wiconst X984 hx hby k13_27 ?_
    refine wistore X984 hx hby k13_28 hL980 hL985 rfl ?_
    refine wiload X984 hx hby k13_30 L985_6 ?_
    refine waloadN X984 hx hby k13_32 L985_0 rfl ?_
    show own_S p e below m T984 33 L985 [(.ref a1), (.int 0)] _
    refine st986 _ ?_
    refine wiload X986 hx hby k13_36 L985_5 ?_
    refine wiaload X986 hx hby hZ e986 f981 1 rfl (by decide) (by decide) (v := (.int 2)) rfl k13_38 ?_
    refine wicmpNo X986 hx hby k13_39 (by decide) ?_
    show own_S p e below m T986 42 L985 [] _
    refine waloadN X986 hx hby k13_42 L985_0 rfl ?_
    refine st987 _ ?_
    refine wiload X987 hx hby k13_46 L985_5 ?_
    refine waaload X987 hx hby hZ e987 V_re 1 rfl (by decide) (by decide) (v := (.ref b1)) rfl k13_48 ?_
    show own_S p e below m T987 49 L985 [(.ref b1)] _
    refine wiload X987 hx hby k13_49 L985_6 ?_
    refine wiaload X987 hx hby hZ e987 f983 0 rfl (by decide) (by decide) (v := (.int 0)) rfl k13_51 ?_
    refine XS.istore X987.here hx rfl (hb hby k13_52) rfl (l' := L988) (by rw [hL985, hL988]; cases b7 <;> rfl) ?_
    refine wiload X987 hx hby k13_54 L988_7 ?_
    show own_S p e below m T987 56 L988 [(.int 0)] _
    refine wiload X987 hx hby k13_56 L988_5 ?_
    refine wicmpNo X987 hx hby k13_58 (by decide) ?_
    refine wgoto X987 hx hby k13_61 61 120 rfl (by decide) (by decide) ?_
    refine wiinc X987 hx hby k13_120 L988_6 hL988 hL989 rfl ?_
    show own_S p e below m T987 123 L989 [] _
    refine wgoto X987 hx hby k13_123 123 30 rfl (by decide) (by decide) ?_
    refine wiload X987 hx hby k13_30 L989_6 ?_
    refine waloadN X987 hx hby k13_32 L989_0 rfl ?_
    refine st990 _ ?_
    show own_S p e below m T990 36 L989 [(.ref rc), (.int 1)] _
    refine wiload X990 hx hby k13_36 L989_5 ?_
    refine wiaload X990 hx hby hZ e990 f981 1 rfl (by decide) (by decide) (v := (.int 2)) rfl k13_38 ?_
    refine wicmpNo X990 hx hby k13_39 (by decide) ?_
    refine waloadN X990 hx hby k13_42 L989_0 rfl ?_
    show own_S p e below m T990 43 L989 [(.ref a1)] _
    refine st991 _ ?_
    refine wiload X991 hx hby k13_46 L989_5 ?_
    refine waaload X991 hx hby hZ e991 V_re 1 rfl (by decide) (by decide) (v := (.ref b1)) rfl k13_48 ?_
    refine wiload X991 hx hby k13_49 L989_6 ?_
    show own_S p e below m T991 51 L989 [(.int 1), (.ref b1)] _
    refine wiaload X991 hx hby hZ e991 f983 1 rfl (by decide) (by decide) (v := (.int 2)) rfl k13_51 ?_
    refine wistore X991 hx hby k13_52 hL989 hL992 rfl ?_
    refine wiload X991 hx hby k13_54 L992_7 ?_
    refine wiload X991 hx hby k13_56 L992_5 ?_
    show own_S p e below m T991 58 L992 [(.int 1), (.int 2)] _
    refine wicmpYes X991 hx hby k13_58 58 64 rfl (by decide) (by decide) (by decide) ?_
    refine waloadN X991 hx hby k13_64 L992_0 rfl ?_
    refine XS.dup X991.here hx rfl (hb hby k13_65) rfl rfl ?_
    refine st993 _ ?_
    show own_S p e below m T993 69 L992 [(.long wk), (.ref a1)] _
    refine waloadN X993 hx hby k13_69 L992_0 rfl ?_
    refine st994 _ ?_
    refine wiload X994 hx hby k13_73 L992_7 ?_
    refine wiaload X994 hx hby hZ e994 f982 2 rfl (by decide) (by decide) (v := (.int 1)) rfl k13_75 ?_
    show own_S p e below m T994 76 L992 [(.int 1), (.long wk), (.ref a1)] _
    refine waloadN X994 hx hby k13_76 L992_0 rfl ?_
    refine st995 _ ?_
    refine wiload X995 hx hby k13_80 L992_5 ?_
    refine wiaload X995 hx hby hZ e995 f982 1 rfl (by decide) (by decide) (v := (.int (own_i fd))) rfl k13_82 ?_
    show own_S p e below m T995 83 L992 [(.int (own_i fd)), (.int 1), (.long wk), (.ref a1)] _
    refine XS.iadd X995.here hx rfl (hb hby k13_83) rfl ?_
    refine XS.i2l X995.here hx rfl (hb hby k13_84) rfl ?_
    refine XS.ladd X995.here hx rfl (hb hby k13_85) rfl ?_
    refine st996 _ ?_
    show own_S p e below m T996 89 L992 [] _
    refine waloadN X996 hx hby k13_89 L992_0 rfl ?_
    refine st998 _ ?_
    refine XS.lloadN X998.here hx rfl (hb hby k13_93) L992_1 ?_
    refine XS.lcmp X998.here hx rfl (hb hby k13_94) rfl ?_
    show own_S p e below m T998 95 L992 [(.int (lcmpW (wk + ((1 : Int32) + (own_i fd)).toInt64) (9223372036854775807 : Int64)))] _
    refine wifNo X998 hx hby k13_95 ((if0 _ _).trans (flt (own_wk _)).2.2.1) ?_
    refine st1015 _ ?_
    refine waloadN X1015 hx hby k13_109 L992_0 rfl ?_
    refine st1016 _ ?_
    show own_S p e below m T1016 113 L992 [(.long (own_e1 true fc fd true + ((0 : Int32) - (1 : Int32)).toInt64))] _
    refine XS.lloadN X1016.here hx rfl (hb hby k13_113) L992_3 ?_
    refine XS.lcmp X1016.here hx rfl (hb hby k13_114) rfl ?_
    refine wifYes X1016 hx hby k13_115 115 120 rfl ((if0 _ _).trans (flt (own_l2 true fc fd)).2.2.2) (by decide) (by decide) ?_
    refine wiinc X1016 hx hby k13_120 L992_6 hL992 hL1017 rfl ?_
    show own_S p e below m T1016 123 L1017 [] _
    refine wgoto X1016 hx hby k13_123 123 30 rfl (by decide) (by decide) ?_
    refine wiload X1016 hx hby k13_30 L1017_6 ?_
    refine waloadN X1016 hx hby k13_32 L1017_0 rfl ?_
    refine st1018 _ ?_
    show own_S p e below m T1018 36 L1017 [(.ref rc), (.int 2)] _
    refine wiload X1018 hx hby k13_36 L1017_5 ?_
    refine wiaload X1018 hx hby hZ e1018 f1019 1 rfl (by decide) (by decide) (v := (.int 2)) rfl k13_38 ?_
    refine wicmpYes X1018 hx hby k13_39 39 126 rfl (by decide) (by decide) (by decide) ?_
    refine waloadN X1018 hx hby k13_126 L1017_0 rfl ?_
    show own_S p e below m T1018 127 L1017 [(.ref a1)] _
    refine st1020 _ ?_
    refine wiload X1020 hx hby k13_130 L1017_5 ?_
    refine XS.aconstNull X1020.here hx rfl (hb hby k13_132) ?_
    refine st1023 _ ?_
    show own_S p e below m T1023 134 L1017 [] _
    refine wiinc X1023 hx hby k13_134 L1017_5 hL1017 hL1025 rfl ?_
    refine wgoto X1023 hx hby k13_137 137 18 rfl (by decide) (by decide) ?_
    rw [hL1025]
    exact kt
set_option maxRecDepth 65536 in
set_option maxHeartbeats 40000000 in
theorem el2 {p : Program} {l : Launch} {e : Env} {s : State} {m : MethodId} {args : Array Value} {below : List Frame} {meth : Method} {c : Code} {T0 : State} {locs : List Loc} (Z : State) (a0 : Array Value) (hw : ∀ d ∈ tables_1, d.before a0 Z = true) (a1 oc od mc md sr sp sw ss co cf le re rc : Nat) (k_re k_rc : ClassId) (r : Int32) (en wk : Int64) (st : Int32) (lim : Int64) (fa fc fd fe : Bool) (b2 : Nat) (kb2 : ClassId) (g2 : Value) (j6 : Int32) (b7 : Bool) (y7 : Int32) (h0 : Heap) (n0 : Nat) (X0 : Stand p l e ({ frames := 3, cells := 0, slots := 0, locals := 70 } : Room) s m args below meth c T0 locs 0 0) (hx : p.tables.exec = Jvm.exec) (hZ : Z.Warmed39 s.vm) (hby : c.code = prog_14_method_4_code) (hml : c.maxLocals = 8) (hown : s.vm.findClass "com/example/odds2/odds2/engine/Elimination" = some m.cls) (e0 : T0.heap = h0) (N0 : Fr n0 locs) (Z0 : n0 ≤ h0.size) (O_a : own_E Z h0 a1 oc od mc md sr sp sw ss co cf le re rc r en wk (0 : Int32) st) (V_re : Arv Z h0 re k_re (.array .int) (3 : Int32) [.null, .null, g2] .null) (V_rc : Arv Z h0 rc k_rc .int 3 [(.int (own_i fc)), (.int (own_lb fa fe)), (.int (own_i fd))] (.int 0)) (hg2 : fd = true → g2 = .ref b2) (G_b2 : fd = true → Arv Z h0 b2 kb2 .int 4 [(.int 1), (.int 0), (.int 0), (.int 0)] (.int 0)) (ord : own_ord a1 oc od mc md sr sp sw ss co cf le re rc) (g_a : n0 ≤ a1) :
    ∃ (T' : State) (h' : Heap) (L' : List Loc) (S6' : Slot) (S7' : Slot), Stand p l e ({ frames := 3, cells := 0, slots := 0, locals := 70 } : Room) s m args below meth c T' L' 0 0 ∧ T'.heap = h' ∧ Fr n0 L' ∧ Keep h0 h' [re] ∧ own_E Z h' a1 oc od mc md sr sp sw ss co cf le re rc r en wk (0 : Int32) st ∧ ∀ target, own_S p e below m T' 140 #[.val (.ref a1), .val (.long 9223372036854775807), .second, .val (.long lim), .second, .val (.int 3), S6', S7'] [] target → own_S p e below m T0 18 #[.val (.ref a1), .val (.long 9223372036854775807), .second, .val (.long lim), .second, .val (.int 2), (.val (.int j6)), (cond b7 (.val (.int y7)) .unset)] [] target := by
  have hl := own_laid_of hw
  obtain ⟨or0, or1, or2, or3, or4, or5, or6, or7, or8, or9, or10, or11, or12⟩ := id ord
  rcases fd with _ | _
  · obtain ⟨L1035, hL1035⟩ := own_nm #[.val (.ref a1), .val (.long 9223372036854775807), .second, .val (.long lim), .second, .val (.int 2), (.val (.int j6)), (cond b7 (.val (.int y7)) .unset)]
    have f1036 : Arv Z h0 rc k_rc .int 3 [(.int (own_i fc)), (.int (own_lb fa fe)), (.int 0)] (.int 0) := V_rc
    have L1035_5 := own_ld hL1035 5 rfl
    have L1035_0 := own_ld hL1035 0 rfl
    obtain ⟨T1037, X1037, e1037, st1037⟩ := wget X0 hx hby hZ hown (hw _ tm31) e0 (O_a.at 0) L1035 [(.int 2)] k13_21
    obtain ⟨L1038, hL1038⟩ := own_nm #[.val (.ref a1), .val (.long 9223372036854775807), .second, .val (.long lim), .second, .val (.int 2), .val (.int 0), (cond b7 (.val (.int y7)) .unset)]
    have L1038_6 := own_ld hL1038 6 rfl
    have L1038_0 := own_ld hL1038 0 rfl
    obtain ⟨T1039, X1039, e1039, st1039⟩ := wget X1037 hx hby hZ hown (hw _ tm45) e1037 (O_a.at 5) L1038 [(.int 0)] k13_33
    have L1038_5 := own_ld hL1038 5 rfl
    obtain ⟨T1040, X1040, e1040, st1040⟩ := wget X1039 hx hby hZ hown (hw _ tm43) e1039 (O_a.at 4) L1038 [] k13_127
    obtain ⟨cl1041, Ar1041, q1041, S1041, M1041, Hh1041, G1041⟩ := id V_re
    obtain ⟨T1042, h1042, X1042, e1042, W1042, st1042⟩ := stR X1040 hx hZ e1040 Ar1041 (j := 2) (inb_of S1041 ⟨(by decide), (by decide)⟩) rfl (Or.inl rfl) (g := (mkF m 133 L1038 [.null, (.int 2), (.ref re)])) rfl rfl (hb hby k13_133)
    have f1043 : Arv Z h1042 re k_re (.array .int) (3 : Int32) [.null, .null, .null] .null := Arv.set Ar1041 q1041 S1041 M1041 Hh1041 G1041 rfl W1042 2 rfl (Nat.le_of_ble_eq_true rfl)
    have N1042 := Fr.snoc X1042 N0 (by omega : n0 ≤ (re : Nat))
    obtain ⟨L1044, hL1044⟩ := own_nm #[.val (.ref a1), .val (.long 9223372036854775807), .second, .val (.long lim), .second, .val (.int 3), .val (.int 0), (cond b7 (.val (.int y7)) .unset)]
    have L1044_5 := own_ld hL1044 5 rfl
    have L1044_0 := own_ld hL1044 0 rfl
    have f1045 := (O_a.other W1042 (by omega : (a1 : Nat) ≠ re))
    obtain ⟨T1046, X1046, e1046, st1046⟩ := wget X1042 hx hby hZ hown (hw _ tm31) e1042 (f1045.at 0) L1044 [(.int 3)] k13_21
    have f1047 := ((Keep.refl h0 [re]).wr W1042 (Or.inl (List.mem_of_getElem? (i := 0) rfl)))
    refine ⟨T1046, _, _, (.val (.int 0)), ((cond b7 (.val (.int y7)) .unset)), X1046, e1046, N1042, f1047, f1045, fun target kt => ?_⟩
    rw [← hL1035]
    show own_S p e below m T0 18 L1035 [] _
    refine wiload X0 hx hby k13_18 L1035_5 ?_
    refine waloadN X0 hx hby k13_20 L1035_0 rfl ?_
    refine st1037 _ ?_
    refine wicmpNo X1037 hx hby k13_24 (by decide) ?_
    show own_S p e below m T1037 27 L1035 [] _
    refine wiconst X1037 hx hby k13_27 ?_
    refine wistore X1037 hx hby k13_28 hL1035 hL1038 rfl ?_
    refine wiload X1037 hx hby k13_30 L1038_6 ?_
    refine waloadN X1037 hx hby k13_32 L1038_0 rfl ?_
    show own_S p e below m T1037 33 L1038 [(.ref a1), (.int 0)] _
    refine st1039 _ ?_
    refine wiload X1039 hx hby k13_36 L1038_5 ?_
    refine wiaload X1039 hx hby hZ e1039 f1036 2 rfl (by decide) (by decide) (v := (.int 0)) rfl k13_38 ?_
    refine wicmpYes X1039 hx hby k13_39 39 126 rfl (by decide) (by decide) (by decide) ?_
    show own_S p e below m T1039 126 L1038 [] _
    refine waloadN X1039 hx hby k13_126 L1038_0 rfl ?_
    refine st1040 _ ?_
    refine wiload X1040 hx hby k13_130 L1038_5 ?_
    refine XS.aconstNull X1040.here hx rfl (hb hby k13_132) ?_
    show own_S p e below m T1040 133 L1038 [.null, (.int 2), (.ref re)] _
    refine st1042 _ ?_
    refine wiinc X1042 hx hby k13_134 L1038_5 hL1038 hL1044 rfl ?_
    refine wgoto X1042 hx hby k13_137 137 18 rfl (by decide) (by decide) ?_
    refine wiload X1042 hx hby k13_18 L1044_5 ?_
    show own_S p e below m T1042 20 L1044 [(.int 3)] _
    refine waloadN X1042 hx hby k13_20 L1044_0 rfl ?_
    refine st1046 _ ?_
    refine wicmpYes X1046 hx hby k13_24 24 140 rfl (by decide) (by decide) (by decide) ?_
    rw [hL1044]
    exact kt
  · obtain rfl := hg2 rfl
    obtain ⟨L1048, hL1048⟩ := own_nm #[.val (.ref a1), .val (.long 9223372036854775807), .second, .val (.long lim), .second, .val (.int 2), (.val (.int j6)), (cond b7 (.val (.int y7)) .unset)]
    have f1049 : Arv Z h0 rc k_rc .int 3 [(.int (own_i fc)), (.int (own_lb fa fe)), (.int 1)] (.int 0) := V_rc
    have L1048_5 := own_ld hL1048 5 rfl
    have L1048_0 := own_ld hL1048 0 rfl
    obtain ⟨T1050, X1050, e1050, st1050⟩ := wget X0 hx hby hZ hown (hw _ tm31) e0 (O_a.at 0) L1048 [(.int 2)] k13_21
    obtain ⟨L1051, hL1051⟩ := own_nm #[.val (.ref a1), .val (.long 9223372036854775807), .second, .val (.long lim), .second, .val (.int 2), .val (.int 0), (cond b7 (.val (.int y7)) .unset)]
    have L1051_6 := own_ld hL1051 6 rfl
    have L1051_0 := own_ld hL1051 0 rfl
    obtain ⟨T1052, X1052, e1052, st1052⟩ := wget X1050 hx hby hZ hown (hw _ tm45) e1050 (O_a.at 5) L1051 [(.int 0)] k13_33
    have L1051_5 := own_ld hL1051 5 rfl
    obtain ⟨T1053, X1053, e1053, st1053⟩ := wget X1052 hx hby hZ hown (hw _ tm43) e1052 (O_a.at 4) L1051 [] k13_43
    obtain ⟨L1054, hL1054⟩ := own_nm #[.val (.ref a1), .val (.long 9223372036854775807), .second, .val (.long lim), .second, .val (.int 2), .val (.int 0), .val (.int 1)]
    have L1054_7 := own_ld hL1054 7 rfl
    have L1054_5 := own_ld hL1054 5 rfl
    have L1054_6 := own_ld hL1054 6 rfl
    obtain ⟨L1055, hL1055⟩ := own_nm #[.val (.ref a1), .val (.long 9223372036854775807), .second, .val (.long lim), .second, .val (.int 2), .val (.int 1), .val (.int 1)]
    have L1055_6 := own_ld hL1055 6 rfl
    have L1055_0 := own_ld hL1055 0 rfl
    obtain ⟨T1056, X1056, e1056, st1056⟩ := wget X1053 hx hby hZ hown (hw _ tm45) e1053 (O_a.at 5) L1055 [(.int 1)] k13_33
    have L1055_5 := own_ld hL1055 5 rfl
    obtain ⟨T1057, X1057, e1057, st1057⟩ := wget X1056 hx hby hZ hown (hw _ tm43) e1056 (O_a.at 4) L1055 [] k13_127
    obtain ⟨cl1058, Ar1058, q1058, S1058, M1058, Hh1058, G1058⟩ := id V_re
    obtain ⟨T1059, h1059, X1059, e1059, W1059, st1059⟩ := stR X1057 hx hZ e1057 Ar1058 (j := 2) (inb_of S1058 ⟨(by decide), (by decide)⟩) rfl (Or.inl rfl) (g := (mkF m 133 L1055 [.null, (.int 2), (.ref re)])) rfl rfl (hb hby k13_133)
    have f1060 : Arv Z h1059 re k_re (.array .int) (3 : Int32) [.null, .null, .null] .null := Arv.set Ar1058 q1058 S1058 M1058 Hh1058 G1058 rfl W1059 2 rfl (Nat.le_of_ble_eq_true rfl)
    have N1059 := Fr.snoc X1059 N0 (by omega : n0 ≤ (re : Nat))
    obtain ⟨L1061, hL1061⟩ := own_nm #[.val (.ref a1), .val (.long 9223372036854775807), .second, .val (.long lim), .second, .val (.int 3), .val (.int 1), .val (.int 1)]
    have L1061_5 := own_ld hL1061 5 rfl
    have L1061_0 := own_ld hL1061 0 rfl
    have f1062 := (O_a.other W1059 (by omega : (a1 : Nat) ≠ re))
    obtain ⟨T1063, X1063, e1063, st1063⟩ := wget X1059 hx hby hZ hown (hw _ tm31) e1059 (f1062.at 0) L1061 [(.int 3)] k13_21
    have f1064 := ((Keep.refl h0 [re]).wr W1059 (Or.inl (List.mem_of_getElem? (i := 0) rfl)))
    refine ⟨T1063, _, _, (.val (.int 1)), (.val (.int 1)), X1063, e1063, N1059, f1064, f1062, fun target kt => ?_⟩
    rw [← hL1048]
    show own_S p e below m T0 18 L1048 [] _
    refine wiload X0 hx hby k13_18 L1048_5 ?_
    refine waloadN X0 hx hby k13_20 L1048_0 rfl ?_
    refine st1050 _ ?_
    refine wicmpNo X1050 hx hby k13_24 (by decide) ?_
    show own_S p e below m T1050 27 L1048 [] _
    refine wiconst X1050 hx hby k13_27 ?_
    refine wistore X1050 hx hby k13_28 hL1048 hL1051 rfl ?_
    refine wiload X1050 hx hby k13_30 L1051_6 ?_
    refine waloadN X1050 hx hby k13_32 L1051_0 rfl ?_
    show own_S p e below m T1050 33 L1051 [(.ref a1), (.int 0)] _
    refine st1052 _ ?_
    refine wiload X1052 hx hby k13_36 L1051_5 ?_
    refine wiaload X1052 hx hby hZ e1052 f1049 2 rfl (by decide) (by decide) (v := (.int 1)) rfl k13_38 ?_
    refine wicmpNo X1052 hx hby k13_39 (by decide) ?_
    show own_S p e below m T1052 42 L1051 [] _
    refine waloadN X1052 hx hby k13_42 L1051_0 rfl ?_
    refine st1053 _ ?_
    refine wiload X1053 hx hby k13_46 L1051_5 ?_
    refine waaload X1053 hx hby hZ e1053 V_re 2 rfl (by decide) (by decide) (v := (.ref b2)) rfl k13_48 ?_
    show own_S p e below m T1053 49 L1051 [(.ref b2)] _
    refine wiload X1053 hx hby k13_49 L1051_6 ?_
    refine wiaload X1053 hx hby hZ e1053 (G_b2 rfl) 0 rfl (by decide) (by decide) (v := (.int 1)) rfl k13_51 ?_
    refine XS.istore X1053.here hx rfl (hb hby k13_52) rfl (l' := L1054) (by rw [hL1051, hL1054]; cases b7 <;> rfl) ?_
    refine wiload X1053 hx hby k13_54 L1054_7 ?_
    show own_S p e below m T1053 56 L1054 [(.int 1)] _
    refine wiload X1053 hx hby k13_56 L1054_5 ?_
    refine wicmpNo X1053 hx hby k13_58 (by decide) ?_
    refine wgoto X1053 hx hby k13_61 61 120 rfl (by decide) (by decide) ?_
    refine wiinc X1053 hx hby k13_120 L1054_6 hL1054 hL1055 rfl ?_
    show own_S p e below m T1053 123 L1055 [] _
    refine wgoto X1053 hx hby k13_123 123 30 rfl (by decide) (by decide) ?_
    refine wiload X1053 hx hby k13_30 L1055_6 ?_
    refine waloadN X1053 hx hby k13_32 L1055_0 rfl ?_
    refine st1056 _ ?_
    show own_S p e below m T1056 36 L1055 [(.ref rc), (.int 1)] _
    refine wiload X1056 hx hby k13_36 L1055_5 ?_
    refine wiaload X1056 hx hby hZ e1056 f1049 2 rfl (by decide) (by decide) (v := (.int 1)) rfl k13_38 ?_
    refine wicmpYes X1056 hx hby k13_39 39 126 rfl (by decide) (by decide) (by decide) ?_
    refine waloadN X1056 hx hby k13_126 L1055_0 rfl ?_
    show own_S p e below m T1056 127 L1055 [(.ref a1)] _
    refine st1057 _ ?_
    refine wiload X1057 hx hby k13_130 L1055_5 ?_
    refine XS.aconstNull X1057.here hx rfl (hb hby k13_132) ?_
    refine st1059 _ ?_
    show own_S p e below m T1059 134 L1055 [] _
    refine wiinc X1059 hx hby k13_134 L1055_5 hL1055 hL1061 rfl ?_
    refine wgoto X1059 hx hby k13_137 137 18 rfl (by decide) (by decide) ?_
    refine wiload X1059 hx hby k13_18 L1061_5 ?_
    refine waloadN X1059 hx hby k13_20 L1061_0 rfl ?_
    show own_S p e below m T1059 21 L1061 [(.ref a1), (.int 3)] _
    refine st1063 _ ?_
    refine wicmpYes X1063 hx hby k13_24 24 140 rfl (by decide) (by decide) (by decide) ?_
    rw [hL1061]
    exact kt
theorem ef_EL (m : MethodId) (x0 : Addr) (x1 : Int64) : entryFrame m #[(.ref x0), (.long x1)] 8 = mkF m 0 #[.val (.ref x0), .val (.long x1), .second, .unset, .unset, .unset, .unset, .unset] [] := by first | (simp [entryFrame, mkF, argsToLocals, Value.category]; done) | rfl
theorem pn_EL : plainName "com/example/odds2/odds2/engine/Elimination" = true := by first | (simp [plainName, overriddenIn]; done) | decide +kernel
def QEL (Z : State) (a1 oc od mc md sr sp sw ss co cf le re rc : Nat) (k_co k_cf k_le k_mc k_md k_sr k_sp k_sw k_ss k_re k_rc : ClassId) (r : Int32) (wk : Int64) (fa fc fd fe : Bool) (ca da cb db cc dc : Nat) (kca kda kcb kdb kcc kdc : ClassId) (x0 x1 : Int32) (y0 y1 : UInt64) (b0 b1 b2 : Nat) (kb0 kb1 kb2 : ClassId) (g0 g1 g2 : Value) (va vc vd ve ow1 sc1 ow2 sc2 : UInt64) (h0 : Heap) (n0 : Nat) (v : Option Value) (h : Heap) (L : List Loc) : Prop := ∃ (wkb : Int64) (t0 t1 : Int32) (s0 s1 : UInt64), v = some (.int 1) ∧ Fr n0 L ∧ Keep h0 h [a1, mc, md, le, sr, sp, sw, ss, cb, db, cc, dc, re] ∧ own_E Z h a1 oc od mc md sr sp sw ss co cf le re rc r (own_e2 fa fc fd fe) wkb (0 : Int32) (own_lb fc fe) ∧ Arv Z h le k_le .int 3 [(.int (own_i fa)), (.int (own_i fd)), (.int 0)] (.int 0) ∧ Arv Z h sr k_sr .int 16 (cond fe ((cond fc [(.int 1), (.int 0)] [(.int 0), (.int 0)]).set (own_i fc).toNatClampNeg (.int 2)) (cond fc [(.int 1), (.int 0)] [(.int 0), (.int 0)])) (.int 0) ∧ Arv Z h sp k_sp .int 16 (cond fe ((cond fc [(.int 0), (.int 0)] [(.int 0), (.int 0)]).set (own_i fc).toNatClampNeg (.int 1)) (cond fc [(.int 0), (.int 0)] [(.int 0), (.int 0)])) (.int 0) ∧ Arv Z h sw k_sw .double 16 (cond fe ((cond fc [(.double vc), (.double 0)] [(.double 0), (.double 0)]).set (own_i fc).toNatClampNeg (.double ve)) (cond fc [(.double vc), (.double 0)] [(.double 0), (.double 0)])) (.double 0) ∧ Arv Z h ss k_ss .double 16 (cond fe ((cond fc [(.double (cond fa sc1 FP.dconst1)), (.double 0)] [(.double 0), (.double 0)]).set (own_i fc).toNatClampNeg (.double (cond fd sc2 FP.dconst1))) (cond fc [(.double (cond fa sc1 FP.dconst1)), (.double 0)] [(.double 0), (.double 0)])) (.double 0) ∧ Arv Z h cb kcb .int (own_lb fc fd) [(.int t0), (.int t1)] (.int 0) ∧ Arv Z h db kdb .double (own_lb fc fd) [(.double s0), (.double s1)] (.double 0) ∧ (fd = true → t0 = 2 ∧ s0 = (cond fc (cond fa (FP.dmul vd sc1) vd) vd))
set_option maxRecDepth 65536 in
set_option maxHeartbeats 40000000 in
theorem rmEL (l : Launch) (Z : State) (a0 : Array Value) (hw : ∀ d ∈ tables_1, d.before a0 Z = true) (ws : List Jvm.Cond) (a1 oc od mc md sr sp sw ss co cf le re rc : Nat) (k_co k_cf k_le k_mc k_md k_sr k_sp k_sw k_ss k_re k_rc : ClassId) (r : Int32) (wk : Int64) (fa fc fd fe : Bool) (ca da cb db cc dc : Nat) (kca kda kcb kdb kcc kdc : ClassId) (x0 x1 : Int32) (y0 y1 : UInt64) (b0 b1 b2 : Nat) (kb0 kb1 kb2 : ClassId) (g0 g1 g2 : Value) (va vc vd ve ow1 sc1 ow2 sc2 : UInt64) (h0 : Heap) (n0 : Nat) (Z0 : n0 ≤ h0.size) (O_a : own_E Z h0 a1 oc od mc md sr sp sw ss co cf le re rc r (own_en fa fc fd fe) wk (0 : Int32) (0 : Int32)) (V_co : Arv Z h0 co k_co (.array .int) (3 : Int32) [(.ref ca), (.ref cb), (.ref cc)] .null) (V_cf : Arv Z h0 cf k_cf (.array .double) (3 : Int32) [(.ref da), (.ref db), (.ref dc)] .null) (V_le : Arv Z h0 le k_le .int 3 [(.int (own_i fa)), (.int (own_lb fc fd)), (.int (own_i fe))] (.int 0)) (V_re : Arv Z h0 re k_re (.array .int) (3 : Int32) [g0, g1, g2] .null) (V_rc : Arv Z h0 rc k_rc .int 3 [(.int (own_i fc)), (.int (own_lb fa fe)), (.int (own_i fd))] (.int 0)) (V_mc : Arv Z h0 mc k_mc .int 16 [(.int x0), (.int x1)] (.int 0)) (V_md : Arv Z h0 md k_md .double 16 [(.double y0), (.double y1)] (.double 0)) (V_sr : Arv Z h0 sr k_sr .int 16 [(.int 0), (.int 0)] (.int 0)) (V_sp : Arv Z h0 sp k_sp .int 16 [(.int 0), (.int 0)] (.int 0)) (V_sw : Arv Z h0 sw k_sw .double 16 [(.double 0), (.double 0)] (.double 0)) (V_ss : Arv Z h0 ss k_ss .double 16 [(.double 0), (.double 0)] (.double 0)) (V_ca : Arv Z h0 ca kca .int (own_i fa) [(.int 1), (.int 0)] (.int 0)) (V_da : Arv Z h0 da kda .double (own_i fa) [(.double va), (.double 0)] (.double 0)) (V_cb : Arv Z h0 cb kcb .int (own_lb fc fd) (cond fc [(.int 0), (.int 2)] [(.int 2), (.int 0)]) (.int 0)) (V_db : Arv Z h0 db kdb .double (own_lb fc fd) (cond fc [(.double vc), (.double vd)] [(.double vd), (.double 0)]) (.double 0)) (V_cc : Arv Z h0 cc kcc .int (own_i fe) [(.int 1), (.int 0)] (.int 0)) (V_dc : Arv Z h0 dc kdc .double (own_i fe) [(.double ve), (.double 0)] (.double 0)) (hg0 : fc = true → g0 = .ref b0) (hg1 : (fa || fe) = true → g1 = .ref b1) (hg2 : fd = true → g2 = .ref b2) (G_b0 : fc = true → Arv Z h0 b0 kb0 .int 4 [(.int 1), (.int 0), (.int 0), (.int 0)] (.int 0)) (G_b1 : (fa || fe) = true → Arv Z h0 b1 kb1 .int 4 (cond fa (cond fe [(.int 0), (.int 2), (.int 0), (.int 0)] [(.int 0), (.int 0), (.int 0), (.int 0)]) [(.int 2), (.int 0), (.int 0), (.int 0)]) (.int 0)) (G_b2 : fd = true → Arv Z h0 b2 kb2 .int 4 [(.int 1), (.int 0), (.int 0), (.int 0)] (.int 0)) (ob1 : (fa || fe) = true → rc < b1 ∧ b1 ≠ cb ∧ b1 ≠ db ∧ b1 ≠ cc ∧ b1 ≠ dc) (ob2 : fd = true → rc < b2 ∧ b2 ≠ cb ∧ b2 ≠ db ∧ b2 ≠ cc ∧ b2 ≠ dc) (fac1 : fa = true → fc = true → own_fac vc va ow1 sc1) (nw : fa = true → fc = true → fd = true → NoNaN64 (FP.dmul vd sc1)) (fac2 : fe = true → fd = true → own_fac ve (cond fc (cond fa (FP.dmul vd sc1) vd) vd) ow2 sc2) (p1 : rc < ca) (p2 : ca < da) (p3 : da < cb) (p4 : cb < db) (p5 : db < cc) (p6 : cc < dc) (ord : own_ord a1 oc od mc md sr sp sw ss co cf le re rc) (g_a : n0 ≤ a1) :
    MetFree l (⟨"com/example/odds2/odds2/engine/Elimination", "eliminate", "(J)Z"⟩ : MethodName) (head1 (Jvm.Cond.code (⟨"com/example/odds2/odds2/engine/Elimination", "eliminate", "(J)Z"⟩ : MethodName) prog_14_method_4_code 8 (some .boolean) :: ws) ({ frames := 3, cells := 0, slots := 0, locals := 70 } : Room)) (fun a U => a = #[(.ref a1), (.long 9223372036854775807)] ∧ Z.Warmed39 U.vm ∧ U.heap = h0) (fun _ _ _ _ _ => True) (fun _ U o U' => ∃ v L, o = .returned v ∧ QEL Z a1 oc od mc md sr sp sw ss co cf le re rc k_co k_cf k_le k_mc k_md k_sr k_sp k_sw k_ss k_re k_rc r wk fa fc fd fe ca da cb db cc dc kca kda kcb kdb kcc kdc x0 x1 y0 y1 b0 b1 b2 kb0 kb1 kb2 g0 g1 g2 va vc vd ve ow1 sc1 ow2 sc2 h0 n0 v U'.heap L ∧ FrameEnd U o U' L ({ frames := 3, cells := 0, slots := 0, locals := 70 } : Room).cells ({ frames := 3, cells := 0, slots := 0, locals := 70 } : Room).slots) := by
  refine MetFree.of_bodySF (plainFor_of_name pn_EL) hisR ?_
  intro p e s m args below meth c s₁ Bd hml0 hP hK
  obtain ⟨rfl, hZ, hh⟩ := hP
  have hx := Bd.exec
  have hby := Bd.bytes
  have hml : c.maxLocals = 8 := hml0
  have hown : s.vm.findClass "com/example/odds2/odds2/engine/Elimination" = some m.cls := findClass_of_methodNamed Bd.named
  have hnm := (name_of_methodNamed Bd.named Bd.method).1
  have X0 : Stand p l e ({ frames := 3, cells := 0, slots := 0, locals := 70 } : Room) s m #[(.ref a1), (.long 9223372036854775807)] below meth c s₁ [] 0 0 := Stand.of_body Bd
  have e0 : s₁.heap = h0 := by rw [← hh, Bd.state]; rfl
  have N0 := Fr.nil n0
  have pre0 : ∀ t, Steps p.tables e below (s₁.setTop (mkF m 0 #[.val (.ref a1), .val (.long 9223372036854775807), .second, .unset, .unset, .unset, .unset, .unset] [])) t → Steps p.tables e below (s₁.setTop (entryFrame m #[(.ref a1), (.long 9223372036854775807)] 8)) t := fun t k => castTop (ef_EL m a1 (9223372036854775807 : Int64)) k
  have hl := own_laid_of hw
  obtain ⟨or0, or1, or2, or3, or4, or5, or6, or7, or8, or9, or10, or11, or12⟩ := id ord
  obtain ⟨L1065, hL1065⟩ := own_nm #[.val (.ref a1), .val (.long 9223372036854775807), .second, .unset, .unset, .unset, .unset, .unset]
  have L1065_0 := own_ld hL1065 0 rfl
  obtain ⟨T1066, X1066, e1066, st1066⟩ := wget X0 hx hby hZ hown (hw _ tm73) e0 (O_a.at 7) L1065 [(.long 16)] k13_4
  obtain ⟨T1067, X1067, e1067, st1067⟩ := wget X1066 hx hby hZ hown (hw _ tm31) e1066 (O_a.at 0) L1065 [(.long ((16 : Int64) * (own_en fa fc fd fe)))] k13_9
  obtain ⟨L1068, hL1068⟩ := own_nm #[.val (.ref a1), .val (.long 9223372036854775807), .second, .val (.long (((16 : Int64) * (own_en fa fc fd fe)) + (3 : Int32).toInt64)), .second, .unset, .unset, .unset]
  obtain ⟨L1069, hL1069⟩ := own_nm #[.val (.ref a1), .val (.long 9223372036854775807), .second, .val (.long (((16 : Int64) * (own_en fa fc fd fe)) + (3 : Int32).toInt64)), .second, .val (.int 0), .unset, .unset]
  have Z1070 : n0 ≤ h0.size := Nat.le_trans Z0 (Keep.refl h0 [a1, mc, md, le, sr, sp, sw, ss, cb, db, cc, dc, re]).1
  obtain ⟨T1071, h1071, LT1071, wka, xa, xb, ya, yb, t0, t1, s0, s1, X1071, e1071, N1071, K1071, Oa1071, Fmc1071, Fmd1071, Fle1071, Fsr1071, Fsp1071, Fsw1071, Fss1071, Fcb1071, Fdb1071, Fre1071, ht1071, st1071⟩ := el0 Z a0 hw a1 oc od mc md sr sp sw ss co cf le re rc k_co k_cf k_le k_mc k_md k_sr k_sp k_sw k_ss k_re k_rc r wk fa fc fd fe ca da cb db cc dc kca kda kcb kdb kcc kdc x0 x1 y0 y1 b0 kb0 g0 g1 g2 va vc vd ow1 sc1 h0 n0 X1067 hx hZ hby hml hown e1067 N0 Z1070 O_a V_co V_cf V_le V_re V_rc V_mc V_md V_sr V_sp V_sw V_ss V_ca V_da V_cb V_db hg0 G_b0 fac1 nw p1 p2 p3 p4 p5 p6 ord g_a
  obtain ⟨L1072, hL1072⟩ := own_nm #[.val (.ref a1), .val (.long 9223372036854775807), .second, .val (.long (((16 : Int64) * (own_en fa fc fd fe)) + (3 : Int32).toInt64)), .second, .val (.int 1), (.val (.int (own_i fc))), (cond fc (.val (.int 1)) .unset)]
  have f1073 := fun qg => (G_b1 qg).keep K1071 (by have zo := ob1 qg; repeat' first | exact nin0 | refine ninS ?_ ?_ | (show (_ : Nat) ≠ _; omega))
  have f1074 := (V_co.keep K1071 (by repeat' first | exact nin0 | refine ninS ?_ ?_ | (show (_ : Nat) ≠ _; omega)))
  have f1075 := (V_cf.keep K1071 (by repeat' first | exact nin0 | refine ninS ?_ ?_ | (show (_ : Nat) ≠ _; omega)))
  have f1076 := (V_rc.keep K1071 (by repeat' first | exact nin0 | refine ninS ?_ ?_ | (show (_ : Nat) ≠ _; omega)))
  have f1077 := (V_cc.keep K1071 (by repeat' first | exact nin0 | refine ninS ?_ ?_ | (show (_ : Nat) ≠ _; omega)))
  have f1078 := (V_dc.keep K1071 (by repeat' first | exact nin0 | refine ninS ?_ ?_ | (show (_ : Nat) ≠ _; omega)))
  have f1079 := fun qg => (G_b2 qg).keep K1071 (by have zo := ob2 qg; repeat' first | exact nin0 | refine ninS ?_ ?_ | (show (_ : Nat) ≠ _; omega))
  have f1081 := ((Keep.refl h0 [a1, mc, md, le, sr, sp, sw, ss, cb, db, cc, dc, re]).trans K1071 (allS (Or.inl (List.mem_of_getElem? (i := 0) rfl)) (allS (Or.inl (List.mem_of_getElem? (i := 1) rfl)) (allS (Or.inl (List.mem_of_getElem? (i := 2) rfl)) (allS (Or.inl (List.mem_of_getElem? (i := 3) rfl)) (allS (Or.inl (List.mem_of_getElem? (i := 4) rfl)) (allS (Or.inl (List.mem_of_getElem? (i := 5) rfl)) (allS (Or.inl (List.mem_of_getElem? (i := 6) rfl)) (allS (Or.inl (List.mem_of_getElem? (i := 7) rfl)) (allS (Or.inl (List.mem_of_getElem? (i := 8) rfl)) (allS (Or.inl (List.mem_of_getElem? (i := 9) rfl)) (allS (Or.inl (List.mem_of_getElem? (i := 12) rfl)) all0))))))))))))
  have Z1080 : n0 ≤ h1071.size := Nat.le_trans Z0 f1081.1
  obtain ⟨T1082, h1082, LT1082, wkb, b7, y7, X1082, e1082, N1082, K1082, Oa1082, Fmc1082, Fmd1082, Fle1082, Fsr1082, Fsp1082, Fsw1082, Fss1082, Fre1082, st1082⟩ := el1 Z a0 hw a1 oc od mc md sr sp sw ss co cf le re rc k_co k_cf k_le k_mc k_md k_sr k_sp k_sw k_ss k_re k_rc r wka fa fc fd fe ca da cb db cc dc kca kda kcb kdb kcc kdc xa xb ya yb b1 kb1 g1 g2 (own_lb fc fd) t0 t1 s0 s1 ve ow2 sc2 (own_i fc) fc (1 : Int32) (cond fc [(.int 1), (.int 0)] [(.int 0), (.int 0)]) (cond fc [(.int 0), (.int 0)] [(.int 0), (.int 0)]) (cond fc [(.double vc), (.double 0)] [(.double 0), (.double 0)]) (cond fc [(.double (cond fa sc1 FP.dconst1)), (.double 0)] [(.double 0), (.double 0)]) h1071 n0 X1071 hx hZ hby hml hown e1071 N1071 Z1080 Oa1071 f1074 f1075 Fle1071 Fre1071 f1076 Fmc1071 Fmd1071 Fsr1071 Fsp1071 Fsw1071 Fss1071 (by cases fc <;> rfl) (by cases fc <;> rfl) (by cases fc <;> rfl) (by cases fc <;> rfl) Fcb1071 Fdb1071 f1077 f1078 (fun q => ⟨by subst q; cases fc <;> unfold own_12 <;> decide, (ht1071 q).1⟩) hg1 f1073 (fun q1 q2 => by rw [(ht1071 q2).2]; exact fac2 q1 q2) p1 p2 p3 p4 p5 p6 ord g_a
  obtain ⟨L1083, hL1083⟩ := own_nm #[.val (.ref a1), .val (.long 9223372036854775807), .second, .val (.long (((16 : Int64) * (own_en fa fc fd fe)) + (3 : Int32).toInt64)), .second, .val (.int 2), (.val (.int (own_lb fa fe))), (cond b7 (.val (.int y7)) .unset)]
  have f1084 := fun qg => (f1079 qg).keep K1082 (by have zo := ob2 qg; repeat' first | exact nin0 | refine ninS ?_ ?_ | (show (_ : Nat) ≠ _; omega))
  have f1085 := (f1076.keep K1082 (by repeat' first | exact nin0 | refine ninS ?_ ?_ | (show (_ : Nat) ≠ _; omega)))
  have f1086 := (f1074.keep K1082 (by repeat' first | exact nin0 | refine ninS ?_ ?_ | (show (_ : Nat) ≠ _; omega)))
  have f1087 := (f1075.keep K1082 (by repeat' first | exact nin0 | refine ninS ?_ ?_ | (show (_ : Nat) ≠ _; omega)))
  have f1088 := ((V_ca.keep K1071 (by repeat' first | exact nin0 | refine ninS ?_ ?_ | (show (_ : Nat) ≠ _; omega))).keep K1082 (by repeat' first | exact nin0 | refine ninS ?_ ?_ | (show (_ : Nat) ≠ _; omega)))
  have f1089 := ((V_da.keep K1071 (by repeat' first | exact nin0 | refine ninS ?_ ?_ | (show (_ : Nat) ≠ _; omega))).keep K1082 (by repeat' first | exact nin0 | refine ninS ?_ ?_ | (show (_ : Nat) ≠ _; omega)))
  have f1090 := (Fcb1071.keep K1082 (by repeat' first | exact nin0 | refine ninS ?_ ?_ | (show (_ : Nat) ≠ _; omega)))
  have f1091 := (Fdb1071.keep K1082 (by repeat' first | exact nin0 | refine ninS ?_ ?_ | (show (_ : Nat) ≠ _; omega)))
  have f1092 := (f1081.trans K1082 (allS (Or.inl (List.mem_of_getElem? (i := 0) rfl)) (allS (Or.inl (List.mem_of_getElem? (i := 1) rfl)) (allS (Or.inl (List.mem_of_getElem? (i := 2) rfl)) (allS (Or.inl (List.mem_of_getElem? (i := 3) rfl)) (allS (Or.inl (List.mem_of_getElem? (i := 4) rfl)) (allS (Or.inl (List.mem_of_getElem? (i := 5) rfl)) (allS (Or.inl (List.mem_of_getElem? (i := 6) rfl)) (allS (Or.inl (List.mem_of_getElem? (i := 7) rfl)) (allS (Or.inl (List.mem_of_getElem? (i := 10) rfl)) (allS (Or.inl (List.mem_of_getElem? (i := 11) rfl)) (allS (Or.inl (List.mem_of_getElem? (i := 12) rfl)) all0))))))))))))
  have Z1093 : n0 ≤ h1082.size := Nat.le_trans Z0 f1092.1
  obtain ⟨T1094, h1094, LT1094, s6, s7, X1094, e1094, N1094, K1094, Oa1094, st1094⟩ := el2 Z a0 hw a1 oc od mc md sr sp sw ss co cf le re rc k_re k_rc r (own_e2 fa fc fd fe) wkb (own_lb fc fe) (((16 : Int64) * (own_en fa fc fd fe)) + (3 : Int32).toInt64) fa fc fd fe b2 kb2 g2 (own_lb fa fe) b7 y7 h1082 n0 X1082 hx hZ hby hml hown e1082 N1082 Z1093 Oa1082 Fre1082 f1085 hg2 f1084 ord g_a
  obtain ⟨L1095, hL1095⟩ := own_nm #[.val (.ref a1), .val (.long 9223372036854775807), .second, .val (.long (((16 : Int64) * (own_en fa fc fd fe)) + (3 : Int32).toInt64)), .second, .val (.int 3), s6, s7]
  have f1096 := (f1092.trans K1094 (allS (Or.inl (List.mem_of_getElem? (i := 12) rfl)) all0))
  have f1097 := (Fle1082.keep K1094 (ninS (by omega : (le : Nat) ≠ re) nin0))
  have f1098 := (Fsr1082.keep K1094 (ninS (by omega : (sr : Nat) ≠ re) nin0))
  have f1099 := (Fsp1082.keep K1094 (ninS (by omega : (sp : Nat) ≠ re) nin0))
  have f1100 := (Fsw1082.keep K1094 (ninS (by omega : (sw : Nat) ≠ re) nin0))
  have f1101 := (Fss1082.keep K1094 (ninS (by omega : (ss : Nat) ≠ re) nin0))
  have f1102 := (f1090.keep K1094 (ninS (by omega : (cb : Nat) ≠ re) nin0))
  have f1103 := (f1091.keep K1094 (ninS (by omega : (db : Nat) ≠ re) nin0))
  obtain ⟨fs, hr, hrun, hended, hW, hsame⟩ := X1094.leave (v := some (.int 1)) (fun h => by rw [Bd.returns] at h; cases h)
  refine ⟨_, _, pre0 _ ?_, hrun, hended, _, _, rfl, ?_, ⟨_, rfl⟩, hW, hsame.mono (by decide) (by decide)⟩
  · rw [← hL1065]
    show own_S p e below m s₁ 0 L1065 [] _
    refine X0.ldc2J hx hown (mvT hZ (hw _ tm92)) (g := (mkF m 0 L1065 [])) rfl (hb hby k13_0) ?_
    show own_S p e below m s₁ 3 L1065 [(.long 16)] _
    refine waloadN X0 hx hby k13_3 L1065_0 rfl ?_
    refine st1066 _ ?_
    refine XS.lmul X1066.here hx rfl (hb hby k13_7) rfl ?_
    refine waloadN X1066 hx hby k13_8 L1065_0 rfl ?_
    show own_S p e below m T1066 9 L1065 [(.ref a1), (.long ((16 : Int64) * (own_en fa fc fd fe)))] _
    refine st1067 _ ?_
    refine XS.i2l X1067.here hx rfl (hb hby k13_12) rfl ?_
    refine XS.ladd X1067.here hx rfl (hb hby k13_13) rfl ?_
    refine XS.lstoreN X1067.here hx rfl (hb hby k13_14) rfl (l' := L1068) (by rw [hL1065, hL1068]; rfl) ?_
    show own_S p e below m T1067 15 L1068 [] _
    refine wiconst X1067 hx hby k13_15 ?_
    refine wistore X1067 hx hby k13_16 hL1068 hL1069 rfl ?_
    rw [hL1069]
    refine st1071 _ ?_
    rw [← hL1072]
    rw [hL1072]
    refine st1082 _ ?_
    rw [← hL1083]
    rw [hL1083]
    refine st1094 _ ?_
    rw [← hL1095]
    show own_S p e below m T1094 140 L1095 [] _
    refine wiconst X1094 hx hby k13_140 ?_
    exact retN X1094 hx (t := .boolean) Bd.returns (by simp) (hb hby k13_141) hr
  · show QEL Z a1 oc od mc md sr sp sw ss co cf le re rc k_co k_cf k_le k_mc k_md k_sr k_sp k_sw k_ss k_re k_rc r wk fa fc fd fe ca da cb db cc dc kca kda kcb kdb kcc kdc x0 x1 y0 y1 b0 b1 b2 kb0 kb1 kb2 g0 g1 g2 va vc vd ve ow1 sc1 ow2 sc2 h0 n0 _ T1094.heap _
    rw [e1094]
    exact ⟨wkb, t0, t1, s0, s1, rfl, N1094, f1096, Oa1094, f1097, f1098, f1099, f1100, f1101, f1102, f1103, ht1071⟩
theorem ef_W (m : MethodId) (x0 : Addr) : entryFrame m #[(.ref x0)] 1 = mkF m 0 #[.val (.ref x0)] [] := by first | (simp [entryFrame, mkF, argsToLocals, Value.category]; done) | rfl
theorem pn_W : plainName "com/example/odds2/odds2/engine/Elimination" = true := by first | (simp [plainName, overriddenIn]; done) | decide +kernel
def QW (Z : State) (a1 oc od mc md sr sp sw ss co cf le re rc : Nat) (r : Int32) (en wk : Int64) (st : Int32) (h0 : Heap) (n0 : Nat) (v : Option Value) (h : Heap) (L : List Loc) : Prop := v = some (.long wk) ∧ Fr n0 L ∧ h = h0
set_option maxRecDepth 65536 in
set_option maxHeartbeats 40000000 in
theorem rmW (l : Launch) (Z : State) (a0 : Array Value) (hw : ∀ d ∈ tables_1, d.before a0 Z = true) (ws : List Jvm.Cond) (a1 oc od mc md sr sp sw ss co cf le re rc : Nat) (r : Int32) (en wk : Int64) (st : Int32) (h0 : Heap) (n0 : Nat) (Z0 : n0 ≤ h0.size) (O_a : own_E Z h0 a1 oc od mc md sr sp sw ss co cf le re rc r en wk (0 : Int32) st) :
    MetFree l (⟨"com/example/odds2/odds2/engine/Elimination", "work", "()J"⟩ : MethodName) (head1 (Jvm.Cond.code (⟨"com/example/odds2/odds2/engine/Elimination", "work", "()J"⟩ : MethodName) prog_14_method_6_code 1 (some .long) :: ws) ({ frames := 0, cells := 0, slots := 0, locals := 0 } : Room)) (fun a U => a = #[(.ref a1)] ∧ Z.Warmed39 U.vm ∧ U.heap = h0) (fun _ _ _ _ _ => True) (fun _ U o U' => ∃ v L, o = .returned v ∧ QW Z a1 oc od mc md sr sp sw ss co cf le re rc r en wk st h0 n0 v U'.heap L ∧ FrameEnd U o U' L ({ frames := 0, cells := 0, slots := 0, locals := 0 } : Room).cells ({ frames := 0, cells := 0, slots := 0, locals := 0 } : Room).slots) := by
  refine MetFree.of_bodySF (plainFor_of_name pn_W) hisR ?_
  intro p e s m args below meth c s₁ Bd hml0 hP hK
  obtain ⟨rfl, hZ, hh⟩ := hP
  have hx := Bd.exec
  have hby := Bd.bytes
  have hml : c.maxLocals = 1 := hml0
  have hown : s.vm.findClass "com/example/odds2/odds2/engine/Elimination" = some m.cls := findClass_of_methodNamed Bd.named
  have hnm := (name_of_methodNamed Bd.named Bd.method).1
  have X0 : Stand p l e ({ frames := 0, cells := 0, slots := 0, locals := 0 } : Room) s m #[(.ref a1)] below meth c s₁ [] 0 0 := Stand.of_body Bd
  have e0 : s₁.heap = h0 := by rw [← hh, Bd.state]; rfl
  have N0 := Fr.nil n0
  have pre0 : ∀ t, Steps p.tables e below (s₁.setTop (mkF m 0 #[.val (.ref a1)] [])) t → Steps p.tables e below (s₁.setTop (entryFrame m #[(.ref a1)] 1)) t := fun t k => castTop (ef_W m a1) k
  obtain ⟨L1104, hL1104⟩ := own_nm #[.val (.ref a1)]
  have L1104_0 := own_ld hL1104 0 rfl
  obtain ⟨T1105, X1105, e1105, st1105⟩ := wget X0 hx hby hZ hown (hw _ tm75) e0 (O_a.at 8) L1104 [] k14_1
  obtain ⟨fs, hr, hrun, hended, hW, hsame⟩ := X1105.leave (v := some (.long wk)) (fun h => by rw [Bd.returns] at h; cases h)
  refine ⟨_, _, pre0 _ ?_, hrun, hended, _, _, rfl, ?_, ⟨_, rfl⟩, hW, hsame.mono (by decide) (by decide)⟩
  · rw [← hL1104]
    show own_S p e below m s₁ 0 L1104 [] _
    refine waloadN X0 hx hby k14_0 L1104_0 rfl ?_
    refine st1105 _ ?_
    jvm_step X1105.here [X1105.here.top, hx, (hb hby k14_4), X1105.method', Bd.returns, narrow]
    first | (intro acts; rw [hr _ acts rfl rfl rfl]) | rw [hr _ _ rfl rfl rfl]
    exact Steps.refl _
  · show QW Z a1 oc od mc md sr sp sw ss co cf le re rc r en wk st h0 n0 _ T1105.heap _
    rw [e1105]
    exact ⟨rfl, N0, rfl⟩
set_option maxRecDepth 65536 in
set_option maxHeartbeats 40000000 in
theorem svA {p : Program} {l : Launch} {e : Env} {s : State} {m : MethodId} {args : Array Value} {below : List Frame} {meth : Method} {c : Code} {T0 : State} {locs : List Loc} (Z : State) (a0 : Array Value) (hw : ∀ d ∈ tables_1, d.before a0 Z = true) (a1 oc od mc md sr sp sw ss co cf le re rc : Nat) (k_sr k_sp k_sw k_ss : ClassId) (r : Int32) (en wk : Int64) (fa fc fd fe : Bool) (bb xx : Nat) (kxx : ClassId) (d0 d1 d2 vc ve sc1 sc2 : UInt64) (h0 : Heap) (n0 : Nat) (X0 : Stand p l e ({ frames := 1, cells := 1, slots := 3, locals := 14 } : Room) s m args below meth c T0 locs 1 3) (hx : p.tables.exec = Jvm.exec) (hZ : Z.Warmed39 s.vm) (hby : c.code = prog_14_method_5_code) (hml : c.maxLocals = 7) (hown : s.vm.findClass "com/example/odds2/odds2/engine/Elimination" = some m.cls) (e0 : T0.heap = h0) (N0 : Fr n0 locs) (Z0 : n0 ≤ h0.size) (O_a : own_E Z h0 a1 oc od mc md sr sp sw ss co cf le re rc r en wk (0 : Int32) (own_lb fc fe)) (V_sr : Arv Z h0 sr k_sr .int 16 (cond fe ((cond fc [(.int 1), (.int 0)] [(.int 0), (.int 0)]).set (own_i fc).toNatClampNeg (.int 2)) (cond fc [(.int 1), (.int 0)] [(.int 0), (.int 0)])) (.int 0)) (V_sp : Arv Z h0 sp k_sp .int 16 (cond fe ((cond fc [(.int 0), (.int 0)] [(.int 0), (.int 0)]).set (own_i fc).toNatClampNeg (.int 1)) (cond fc [(.int 0), (.int 0)] [(.int 0), (.int 0)])) (.int 0)) (V_sw : Arv Z h0 sw k_sw .double 16 (cond fe ((cond fc [(.double vc), (.double 0)] [(.double 0), (.double 0)]).set (own_i fc).toNatClampNeg (.double ve)) (cond fc [(.double vc), (.double 0)] [(.double 0), (.double 0)])) (.double 0)) (V_ss : Arv Z h0 ss k_ss .double 16 (cond fe ((cond fc [(.double (cond fa sc1 FP.dconst1)), (.double 0)] [(.double 0), (.double 0)]).set (own_i fc).toNatClampNeg (.double (cond fd sc2 FP.dconst1))) (cond fc [(.double (cond fa sc1 FP.dconst1)), (.double 0)] [(.double 0), (.double 0)])) (.double 0)) (V_xx : Arv Z h0 xx kxx .double 3 [(.double d0), (.double d1), (.double d2)] (.double 0)) (o1 : rc < xx) (n1 : fc = true → NoNaN64 (FP.dmul vc d0) ∧ NoNaN64 (FP.dadd d1 (FP.dmul vc d0)) ∧ NoNaN64 (FP.dmul (FP.dadd d1 (FP.dmul vc d0)) (cond fa sc1 FP.dconst1))) (n2 : fe = true → NoNaN64 (FP.dmul ve (cond fc (FP.dmul (FP.dadd d1 (FP.dmul vc d0)) (cond fa sc1 FP.dconst1)) d1)) ∧ NoNaN64 (FP.dadd d2 (FP.dmul ve (cond fc (FP.dmul (FP.dadd d1 (FP.dmul vc d0)) (cond fa sc1 FP.dconst1)) d1))) ∧ NoNaN64 (FP.dmul (FP.dadd d2 (FP.dmul ve (cond fc (FP.dmul (FP.dadd d1 (FP.dmul vc d0)) (cond fa sc1 FP.dconst1)) d1))) (cond fd sc2 FP.dconst1))) (ord : own_ord a1 oc od mc md sr sp sw ss co cf le re rc) (g_a : n0 ≤ a1) :
    ∃ (T' : State) (h' : Heap) (L' : List Loc) (b4 : Bool) (y4 : Int32), Stand p l e ({ frames := 1, cells := 1, slots := 3, locals := 14 } : Room) s m args below meth c T' L' 1 3 ∧ T'.heap = h' ∧ Fr n0 L' ∧ Keep h0 h' [xx] ∧ own_E Z h' a1 oc od mc md sr sp sw ss co cf le re rc r en wk (0 : Int32) (own_lb fc fe) ∧ Arv Z h' xx kxx .double 3 [(.double d0), (.double (cond fc (FP.dmul (FP.dadd d1 (FP.dmul vc d0)) (cond fa sc1 FP.dconst1)) d1)), (.double (cond fe (FP.dmul (FP.dadd d2 (FP.dmul ve (cond fc (FP.dmul (FP.dadd d1 (FP.dmul vc d0)) (cond fa sc1 FP.dconst1)) d1))) (cond fd sc2 FP.dconst1)) d2))] (.double 0) ∧ ∀ target, own_S p e below m T' 63 #[.val (.ref a1), .val (.ref bb), .val (.ref xx), .val (.int (own_lb fc fe)), (cond b4 (.val (.int y4)) .unset), .unset, .unset] [] target → own_S p e below m T0 10 #[.val (.ref a1), .val (.ref bb), .val (.ref xx), .val (.int 0), .unset, .unset, .unset] [] target := by
  have hl := own_laid_of hw
  obtain ⟨or0, or1, or2, or3, or4, or5, or6, or7, or8, or9, or10, or11, or12⟩ := id ord
  rcases fc with _ | _ <;> rcases fe with _ | _
  · obtain ⟨L1106, hL1106⟩ := own_nm #[.val (.ref a1), .val (.ref bb), .val (.ref xx), .val (.int 0), .unset, .unset, .unset]
    have f1107 : own_E Z h0 a1 oc od mc md sr sp sw ss co cf le re rc r en wk (0 : Int32) (0 : Int32) := O_a
    have f1108 : Arv Z h0 sr k_sr .int 16 [(.int 0), (.int 0)] (.int 0) := V_sr
    have f1109 : Arv Z h0 sp k_sp .int 16 [(.int 0), (.int 0)] (.int 0) := V_sp
    have f1110 : Arv Z h0 sw k_sw .double 16 [(.double 0), (.double 0)] (.double 0) := V_sw
    have f1111 : Arv Z h0 ss k_ss .double 16 [(.double 0), (.double 0)] (.double 0) := V_ss
    have L1106_3 := own_ld hL1106 3 rfl
    have L1106_0 := own_ld hL1106 0 rfl
    obtain ⟨T1112, X1112, e1112, st1112⟩ := wget X0 hx hby hZ hown (hw _ tm115) e0 (f1107.at 14) L1106 [(.int 0)] k15_12
    refine ⟨T1112, _, _, false, (0 : Int32), X1112, e1112, N0, (Keep.refl h0 [xx]), f1107, V_xx, fun target kt => ?_⟩
    rw [← hL1106]
    show own_S p e below m T0 10 L1106 [] _
    refine wiloadN X0 hx hby k15_10 L1106_3 ?_
    refine waloadN X0 hx hby k15_11 L1106_0 rfl ?_
    refine st1112 _ ?_
    refine wicmpYes X1112 hx hby k15_15 15 63 rfl (by decide) (by decide) (by decide) ?_
    rw [hL1106]
    exact kt
  · obtain ⟨L1113, hL1113⟩ := own_nm #[.val (.ref a1), .val (.ref bb), .val (.ref xx), .val (.int 0), .unset, .unset, .unset]
    have f1114 : own_E Z h0 a1 oc od mc md sr sp sw ss co cf le re rc r en wk (0 : Int32) (1 : Int32) := O_a
    have f1115 : Arv Z h0 sr k_sr .int 16 [(.int 2), (.int 0)] (.int 0) := V_sr
    have f1116 : Arv Z h0 sp k_sp .int 16 [(.int 1), (.int 0)] (.int 0) := V_sp
    have f1117 : Arv Z h0 sw k_sw .double 16 [(.double ve), (.double 0)] (.double 0) := V_sw
    have f1118 : Arv Z h0 ss k_ss .double 16 [(.double (cond fd sc2 FP.dconst1)), (.double 0)] (.double 0) := V_ss
    have L1113_3 := own_ld hL1113 3 rfl
    have L1113_0 := own_ld hL1113 0 rfl
    obtain ⟨T1119, X1119, e1119, st1119⟩ := wget X0 hx hby hZ hown (hw _ tm115) e0 (f1114.at 14) L1113 [(.int 0)] k15_12
    obtain ⟨T1120, X1120, e1120, st1120⟩ := wget X1119 hx hby hZ hown (hw _ tm23) e1119 (f1114.at 15) L1113 [] k15_19
    obtain ⟨L1121, hL1121⟩ := own_nm #[.val (.ref a1), .val (.ref bb), .val (.ref xx), .val (.int 0), .val (.int 2), .unset, .unset]
    have L1121_2 := own_ld hL1121 2 rfl
    have L1121_4 := own_ld hL1121 4 rfl
    have L1121_0 := own_ld hL1121 0 rfl
    obtain ⟨T1122, X1122, e1122, st1122⟩ := wget X1120 hx hby hZ hown (hw _ tm27) e1120 (f1114.at 17) L1121 [(.double d2), (.int 2), (.ref xx)] k15_34
    have L1121_3 := own_ld hL1121 3 rfl
    obtain ⟨T1123, X1123, e1123, st1123⟩ := wget X1122 hx hby hZ hown (hw _ tm25) e1122 (f1114.at 16) L1121 [(.ref xx), (.double ve), (.double d2), (.int 2), (.ref xx)] k15_41
    obtain ⟨T1124, X1124, e1124, st1124⟩ := wget X1123 hx hby hZ hown (hw _ tm29) e1123 (f1114.at 18) L1121 [(.double (FP.dadd d2 (FP.dmul ve d1))), (.int 2), (.ref xx)] k15_50
    obtain ⟨T1126, h1126, X1126, e1126, W1126, f1125, N1126, st1126⟩ := wdastore X1124 hx hby hZ e1124 N0 V_xx (by omega : n0 ≤ (xx : Nat)) (2 : Int32) (FP.dmul (FP.dadd d2 (FP.dmul ve d1)) (cond fd sc2 FP.dconst1)) 2 rfl (by decide) (by decide) (Nat.le_of_ble_eq_true rfl) L1121 [] k15_56
    obtain ⟨L1127, hL1127⟩ := own_nm #[.val (.ref a1), .val (.ref bb), .val (.ref xx), .val (.int 1), .val (.int 2), .unset, .unset]
    have L1127_3 := own_ld hL1127 3 rfl
    have L1127_0 := own_ld hL1127 0 rfl
    have f1128 := (f1114.other W1126 (by omega : (a1 : Nat) ≠ xx))
    obtain ⟨T1129, X1129, e1129, st1129⟩ := wget X1126 hx hby hZ hown (hw _ tm115) e1126 (f1128.at 14) L1127 [(.int 1)] k15_12
    have f1130 := ((Keep.refl h0 [xx]).wr W1126 (Or.inl (List.mem_of_getElem? (i := 0) rfl)))
    refine ⟨T1129, _, _, true, (2 : Int32), X1129, e1129, N1126, f1130, f1128, f1125, fun target kt => ?_⟩
    rw [← hL1113]
    show own_S p e below m T0 10 L1113 [] _
    refine wiloadN X0 hx hby k15_10 L1113_3 ?_
    refine waloadN X0 hx hby k15_11 L1113_0 rfl ?_
    refine st1119 _ ?_
    refine wicmpNo X1119 hx hby k15_15 (by decide) ?_
    show own_S p e below m T1119 18 L1113 [] _
    refine waloadN X1119 hx hby k15_18 L1113_0 rfl ?_
    refine st1120 _ ?_
    refine wiloadN X1120 hx hby k15_22 L1113_3 ?_
    refine wiaload X1120 hx hby hZ e1120 f1115 0 rfl (by decide) (by decide) (v := (.int 2)) rfl k15_23 ?_
    show own_S p e below m T1120 24 L1113 [(.int 2)] _
    refine wistore X1120 hx hby k15_24 hL1113 hL1121 rfl ?_
    refine waloadN X1120 hx hby k15_26 L1121_2 rfl ?_
    refine wiload X1120 hx hby k15_27 L1121_4 ?_
    refine waloadN X1120 hx hby k15_29 L1121_2 rfl ?_
    show own_S p e below m T1120 30 L1121 [(.ref xx), (.int 2), (.ref xx)] _
    refine wiload X1120 hx hby k15_30 L1121_4 ?_
    refine wdaload X1120 hx hby hZ e1120 V_xx 2 rfl (by decide) (by decide) (v := (.double d2)) rfl k15_32 ?_
    refine waloadN X1120 hx hby k15_33 L1121_0 rfl ?_
    refine st1122 _ ?_
    show own_S p e below m T1122 37 L1121 [(.ref sw), (.double d2), (.int 2), (.ref xx)] _
    refine wiloadN X1122 hx hby k15_37 L1121_3 ?_
    refine wdaload X1122 hx hby hZ e1122 f1117 0 rfl (by decide) (by decide) (v := (.double ve)) rfl k15_38 ?_
    refine waloadN X1122 hx hby k15_39 L1121_2 rfl ?_
    refine waloadN X1122 hx hby k15_40 L1121_0 rfl ?_
    show own_S p e below m T1122 41 L1121 [(.ref a1), (.ref xx), (.double ve), (.double d2), (.int 2), (.ref xx)] _
    refine st1123 _ ?_
    refine wiloadN X1123 hx hby k15_44 L1121_3 ?_
    refine wiaload X1123 hx hby hZ e1123 f1116 0 rfl (by decide) (by decide) (v := (.int 1)) rfl k15_45 ?_
    refine wdaload X1123 hx hby hZ e1123 V_xx 1 rfl (by decide) (by decide) (v := (.double d1)) rfl k15_46 ?_
    show own_S p e below m T1123 47 L1121 [(.double d1), (.double ve), (.double d2), (.int 2), (.ref xx)] _
    refine XS.dmulS X1123.here hx rfl (v := (FP.dmul ve d1)) (hb hby k15_47) rfl (n2 rfl).1 rfl ?_
    refine XS.daddS X1123.here hx rfl (v := (FP.dadd d2 (FP.dmul ve d1))) (hb hby k15_48) rfl (n2 rfl).2.1 rfl ?_
    refine waloadN X1123 hx hby k15_49 L1121_0 rfl ?_
    refine st1124 _ ?_
    show own_S p e below m T1124 53 L1121 [(.ref ss), (.double (FP.dadd d2 (FP.dmul ve d1))), (.int 2), (.ref xx)] _
    refine wiloadN X1124 hx hby k15_53 L1121_3 ?_
    refine wdaload X1124 hx hby hZ e1124 f1118 0 rfl (by decide) (by decide) (v := (.double (cond fd sc2 FP.dconst1))) rfl k15_54 ?_
    refine XS.dmulS X1124.here hx rfl (v := (FP.dmul (FP.dadd d2 (FP.dmul ve d1)) (cond fd sc2 FP.dconst1))) (hb hby k15_55) rfl (n2 rfl).2.2 rfl ?_
    refine st1126 _ ?_
    show own_S p e below m T1126 57 L1121 [] _
    refine wiinc X1126 hx hby k15_57 L1121_3 hL1121 hL1127 rfl ?_
    refine wgoto X1126 hx hby k15_60 60 10 rfl (by decide) (by decide) ?_
    refine wiloadN X1126 hx hby k15_10 L1127_3 ?_
    refine waloadN X1126 hx hby k15_11 L1127_0 rfl ?_
    show own_S p e below m T1126 12 L1127 [(.ref a1), (.int 1)] _
    refine st1129 _ ?_
    refine wicmpYes X1129 hx hby k15_15 15 63 rfl (by decide) (by decide) (by decide) ?_
    rw [hL1127]
    exact kt
  · obtain ⟨L1131, hL1131⟩ := own_nm #[.val (.ref a1), .val (.ref bb), .val (.ref xx), .val (.int 0), .unset, .unset, .unset]
    have f1132 : own_E Z h0 a1 oc od mc md sr sp sw ss co cf le re rc r en wk (0 : Int32) (1 : Int32) := O_a
    have f1133 : Arv Z h0 sr k_sr .int 16 [(.int 1), (.int 0)] (.int 0) := V_sr
    have f1134 : Arv Z h0 sp k_sp .int 16 [(.int 0), (.int 0)] (.int 0) := V_sp
    have f1135 : Arv Z h0 sw k_sw .double 16 [(.double vc), (.double 0)] (.double 0) := V_sw
    have f1136 : Arv Z h0 ss k_ss .double 16 [(.double (cond fa sc1 FP.dconst1)), (.double 0)] (.double 0) := V_ss
    have L1131_3 := own_ld hL1131 3 rfl
    have L1131_0 := own_ld hL1131 0 rfl
    obtain ⟨T1137, X1137, e1137, st1137⟩ := wget X0 hx hby hZ hown (hw _ tm115) e0 (f1132.at 14) L1131 [(.int 0)] k15_12
    obtain ⟨T1138, X1138, e1138, st1138⟩ := wget X1137 hx hby hZ hown (hw _ tm23) e1137 (f1132.at 15) L1131 [] k15_19
    obtain ⟨L1139, hL1139⟩ := own_nm #[.val (.ref a1), .val (.ref bb), .val (.ref xx), .val (.int 0), .val (.int 1), .unset, .unset]
    have L1139_2 := own_ld hL1139 2 rfl
    have L1139_4 := own_ld hL1139 4 rfl
    have L1139_0 := own_ld hL1139 0 rfl
    obtain ⟨T1140, X1140, e1140, st1140⟩ := wget X1138 hx hby hZ hown (hw _ tm27) e1138 (f1132.at 17) L1139 [(.double d1), (.int 1), (.ref xx)] k15_34
    have L1139_3 := own_ld hL1139 3 rfl
    obtain ⟨T1141, X1141, e1141, st1141⟩ := wget X1140 hx hby hZ hown (hw _ tm25) e1140 (f1132.at 16) L1139 [(.ref xx), (.double vc), (.double d1), (.int 1), (.ref xx)] k15_41
    obtain ⟨T1142, X1142, e1142, st1142⟩ := wget X1141 hx hby hZ hown (hw _ tm29) e1141 (f1132.at 18) L1139 [(.double (FP.dadd d1 (FP.dmul vc d0))), (.int 1), (.ref xx)] k15_50
    obtain ⟨T1144, h1144, X1144, e1144, W1144, f1143, N1144, st1144⟩ := wdastore X1142 hx hby hZ e1142 N0 V_xx (by omega : n0 ≤ (xx : Nat)) (1 : Int32) (FP.dmul (FP.dadd d1 (FP.dmul vc d0)) (cond fa sc1 FP.dconst1)) 1 rfl (by decide) (by decide) (Nat.le_of_ble_eq_true rfl) L1139 [] k15_56
    obtain ⟨L1145, hL1145⟩ := own_nm #[.val (.ref a1), .val (.ref bb), .val (.ref xx), .val (.int 1), .val (.int 1), .unset, .unset]
    have L1145_3 := own_ld hL1145 3 rfl
    have L1145_0 := own_ld hL1145 0 rfl
    have f1146 := (f1132.other W1144 (by omega : (a1 : Nat) ≠ xx))
    obtain ⟨T1147, X1147, e1147, st1147⟩ := wget X1144 hx hby hZ hown (hw _ tm115) e1144 (f1146.at 14) L1145 [(.int 1)] k15_12
    have f1148 := ((Keep.refl h0 [xx]).wr W1144 (Or.inl (List.mem_of_getElem? (i := 0) rfl)))
    refine ⟨T1147, _, _, true, (1 : Int32), X1147, e1147, N1144, f1148, f1146, f1143, fun target kt => ?_⟩
    rw [← hL1131]
    show own_S p e below m T0 10 L1131 [] _
    refine wiloadN X0 hx hby k15_10 L1131_3 ?_
    refine waloadN X0 hx hby k15_11 L1131_0 rfl ?_
    refine st1137 _ ?_
    refine wicmpNo X1137 hx hby k15_15 (by decide) ?_
    show own_S p e below m T1137 18 L1131 [] _
    refine waloadN X1137 hx hby k15_18 L1131_0 rfl ?_
    refine st1138 _ ?_
    refine wiloadN X1138 hx hby k15_22 L1131_3 ?_
    refine wiaload X1138 hx hby hZ e1138 f1133 0 rfl (by decide) (by decide) (v := (.int 1)) rfl k15_23 ?_
    show own_S p e below m T1138 24 L1131 [(.int 1)] _
    refine wistore X1138 hx hby k15_24 hL1131 hL1139 rfl ?_
    refine waloadN X1138 hx hby k15_26 L1139_2 rfl ?_
    refine wiload X1138 hx hby k15_27 L1139_4 ?_
    refine waloadN X1138 hx hby k15_29 L1139_2 rfl ?_
    show own_S p e below m T1138 30 L1139 [(.ref xx), (.int 1), (.ref xx)] _
    refine wiload X1138 hx hby k15_30 L1139_4 ?_
    refine wdaload X1138 hx hby hZ e1138 V_xx 1 rfl (by decide) (by decide) (v := (.double d1)) rfl k15_32 ?_
    refine waloadN X1138 hx hby k15_33 L1139_0 rfl ?_
    refine st1140 _ ?_
    show own_S p e below m T1140 37 L1139 [(.ref sw), (.double d1), (.int 1), (.ref xx)] _
    refine wiloadN X1140 hx hby k15_37 L1139_3 ?_
    refine wdaload X1140 hx hby hZ e1140 f1135 0 rfl (by decide) (by decide) (v := (.double vc)) rfl k15_38 ?_
    refine waloadN X1140 hx hby k15_39 L1139_2 rfl ?_
    refine waloadN X1140 hx hby k15_40 L1139_0 rfl ?_
    show own_S p e below m T1140 41 L1139 [(.ref a1), (.ref xx), (.double vc), (.double d1), (.int 1), (.ref xx)] _
    refine st1141 _ ?_
    refine wiloadN X1141 hx hby k15_44 L1139_3 ?_
    refine wiaload X1141 hx hby hZ e1141 f1134 0 rfl (by decide) (by decide) (v := (.int 0)) rfl k15_45 ?_
    refine wdaload X1141 hx hby hZ e1141 V_xx 0 rfl (by decide) (by decide) (v := (.double d0)) rfl k15_46 ?_
    show own_S p e below m T1141 47 L1139 [(.double d0), (.double vc), (.double d1), (.int 1), (.ref xx)] _
    refine XS.dmulS X1141.here hx rfl (v := (FP.dmul vc d0)) (hb hby k15_47) rfl (n1 rfl).1 rfl ?_
    refine XS.daddS X1141.here hx rfl (v := (FP.dadd d1 (FP.dmul vc d0))) (hb hby k15_48) rfl (n1 rfl).2.1 rfl ?_
    refine waloadN X1141 hx hby k15_49 L1139_0 rfl ?_
    refine st1142 _ ?_
    show own_S p e below m T1142 53 L1139 [(.ref ss), (.double (FP.dadd d1 (FP.dmul vc d0))), (.int 1), (.ref xx)] _
    refine wiloadN X1142 hx hby k15_53 L1139_3 ?_
    refine wdaload X1142 hx hby hZ e1142 f1136 0 rfl (by decide) (by decide) (v := (.double (cond fa sc1 FP.dconst1))) rfl k15_54 ?_
    refine XS.dmulS X1142.here hx rfl (v := (FP.dmul (FP.dadd d1 (FP.dmul vc d0)) (cond fa sc1 FP.dconst1))) (hb hby k15_55) rfl (n1 rfl).2.2 rfl ?_
    refine st1144 _ ?_
    show own_S p e below m T1144 57 L1139 [] _
    refine wiinc X1144 hx hby k15_57 L1139_3 hL1139 hL1145 rfl ?_
    refine wgoto X1144 hx hby k15_60 60 10 rfl (by decide) (by decide) ?_
    refine wiloadN X1144 hx hby k15_10 L1145_3 ?_
    refine waloadN X1144 hx hby k15_11 L1145_0 rfl ?_
    show own_S p e below m T1144 12 L1145 [(.ref a1), (.int 1)] _
    refine st1147 _ ?_
    refine wicmpYes X1147 hx hby k15_15 15 63 rfl (by decide) (by decide) (by decide) ?_
    rw [hL1145]
    exact kt
  · obtain ⟨L1149, hL1149⟩ := own_nm #[.val (.ref a1), .val (.ref bb), .val (.ref xx), .val (.int 0), .unset, .unset, .unset]
    have f1150 : own_E Z h0 a1 oc od mc md sr sp sw ss co cf le re rc r en wk (0 : Int32) (2 : Int32) := O_a
    have f1151 : Arv Z h0 sr k_sr .int 16 [(.int 1), (.int 2)] (.int 0) := V_sr
    have f1152 : Arv Z h0 sp k_sp .int 16 [(.int 0), (.int 1)] (.int 0) := V_sp
    have f1153 : Arv Z h0 sw k_sw .double 16 [(.double vc), (.double ve)] (.double 0) := V_sw
    have f1154 : Arv Z h0 ss k_ss .double 16 [(.double (cond fa sc1 FP.dconst1)), (.double (cond fd sc2 FP.dconst1))] (.double 0) := V_ss
    have L1149_3 := own_ld hL1149 3 rfl
    have L1149_0 := own_ld hL1149 0 rfl
    obtain ⟨T1155, X1155, e1155, st1155⟩ := wget X0 hx hby hZ hown (hw _ tm115) e0 (f1150.at 14) L1149 [(.int 0)] k15_12
    obtain ⟨T1156, X1156, e1156, st1156⟩ := wget X1155 hx hby hZ hown (hw _ tm23) e1155 (f1150.at 15) L1149 [] k15_19
    obtain ⟨L1157, hL1157⟩ := own_nm #[.val (.ref a1), .val (.ref bb), .val (.ref xx), .val (.int 0), .val (.int 1), .unset, .unset]
    have L1157_2 := own_ld hL1157 2 rfl
    have L1157_4 := own_ld hL1157 4 rfl
    have L1157_0 := own_ld hL1157 0 rfl
    obtain ⟨T1158, X1158, e1158, st1158⟩ := wget X1156 hx hby hZ hown (hw _ tm27) e1156 (f1150.at 17) L1157 [(.double d1), (.int 1), (.ref xx)] k15_34
    have L1157_3 := own_ld hL1157 3 rfl
    obtain ⟨T1159, X1159, e1159, st1159⟩ := wget X1158 hx hby hZ hown (hw _ tm25) e1158 (f1150.at 16) L1157 [(.ref xx), (.double vc), (.double d1), (.int 1), (.ref xx)] k15_41
    obtain ⟨T1160, X1160, e1160, st1160⟩ := wget X1159 hx hby hZ hown (hw _ tm29) e1159 (f1150.at 18) L1157 [(.double (FP.dadd d1 (FP.dmul vc d0))), (.int 1), (.ref xx)] k15_50
    obtain ⟨T1162, h1162, X1162, e1162, W1162, f1161, N1162, st1162⟩ := wdastore X1160 hx hby hZ e1160 N0 V_xx (by omega : n0 ≤ (xx : Nat)) (1 : Int32) (FP.dmul (FP.dadd d1 (FP.dmul vc d0)) (cond fa sc1 FP.dconst1)) 1 rfl (by decide) (by decide) (Nat.le_of_ble_eq_true rfl) L1157 [] k15_56
    obtain ⟨L1163, hL1163⟩ := own_nm #[.val (.ref a1), .val (.ref bb), .val (.ref xx), .val (.int 1), .val (.int 1), .unset, .unset]
    have L1163_3 := own_ld hL1163 3 rfl
    have L1163_0 := own_ld hL1163 0 rfl
    have f1164 := (f1150.other W1162 (by omega : (a1 : Nat) ≠ xx))
    obtain ⟨T1165, X1165, e1165, st1165⟩ := wget X1162 hx hby hZ hown (hw _ tm115) e1162 (f1164.at 14) L1163 [(.int 1)] k15_12
    obtain ⟨T1166, X1166, e1166, st1166⟩ := wget X1165 hx hby hZ hown (hw _ tm23) e1165 (f1164.at 15) L1163 [] k15_19
    have f1167 := (f1151.other W1162 (by omega : (sr : Nat) ≠ xx))
    obtain ⟨L1168, hL1168⟩ := own_nm #[.val (.ref a1), .val (.ref bb), .val (.ref xx), .val (.int 1), .val (.int 2), .unset, .unset]
    have L1168_2 := own_ld hL1168 2 rfl
    have L1168_4 := own_ld hL1168 4 rfl
    have L1168_0 := own_ld hL1168 0 rfl
    obtain ⟨T1169, X1169, e1169, st1169⟩ := wget X1166 hx hby hZ hown (hw _ tm27) e1166 (f1164.at 17) L1168 [(.double d2), (.int 2), (.ref xx)] k15_34
    have L1168_3 := own_ld hL1168 3 rfl
    have f1170 := (f1153.other W1162 (by omega : (sw : Nat) ≠ xx))
    obtain ⟨T1171, X1171, e1171, st1171⟩ := wget X1169 hx hby hZ hown (hw _ tm25) e1169 (f1164.at 16) L1168 [(.ref xx), (.double ve), (.double d2), (.int 2), (.ref xx)] k15_41
    have f1172 := (f1152.other W1162 (by omega : (sp : Nat) ≠ xx))
    obtain ⟨T1173, X1173, e1173, st1173⟩ := wget X1171 hx hby hZ hown (hw _ tm29) e1171 (f1164.at 18) L1168 [(.double (FP.dadd d2 (FP.dmul ve (FP.dmul (FP.dadd d1 (FP.dmul vc d0)) (cond fa sc1 FP.dconst1))))), (.int 2), (.ref xx)] k15_50
    have f1174 := (f1154.other W1162 (by omega : (ss : Nat) ≠ xx))
    obtain ⟨T1176, h1176, X1176, e1176, W1176, f1175, N1176, st1176⟩ := wdastore X1173 hx hby hZ e1173 N1162 f1161 (by omega : n0 ≤ (xx : Nat)) (2 : Int32) (FP.dmul (FP.dadd d2 (FP.dmul ve (FP.dmul (FP.dadd d1 (FP.dmul vc d0)) (cond fa sc1 FP.dconst1)))) (cond fd sc2 FP.dconst1)) 2 rfl (by decide) (by decide) (Nat.le_of_ble_eq_true rfl) L1168 [] k15_56
    obtain ⟨L1177, hL1177⟩ := own_nm #[.val (.ref a1), .val (.ref bb), .val (.ref xx), .val (.int 2), .val (.int 2), .unset, .unset]
    have L1177_3 := own_ld hL1177 3 rfl
    have L1177_0 := own_ld hL1177 0 rfl
    have f1178 := (f1164.other W1176 (by omega : (a1 : Nat) ≠ xx))
    obtain ⟨T1179, X1179, e1179, st1179⟩ := wget X1176 hx hby hZ hown (hw _ tm115) e1176 (f1178.at 14) L1177 [(.int 2)] k15_12
    have f1180 := (((Keep.refl h0 [xx]).wr W1162 (Or.inl (List.mem_of_getElem? (i := 0) rfl))).wr W1176 (Or.inl (List.mem_of_getElem? (i := 0) rfl)))
    refine ⟨T1179, _, _, true, (2 : Int32), X1179, e1179, N1176, f1180, f1178, f1175, fun target kt => ?_⟩
    rw [← hL1149]
    show own_S p e below m T0 10 L1149 [] _
    refine wiloadN X0 hx hby k15_10 L1149_3 ?_
    refine waloadN X0 hx hby k15_11 L1149_0 rfl ?_
    refine st1155 _ ?_
    refine wicmpNo X1155 hx hby k15_15 (by decide) ?_
    show own_S p e below m T1155 18 L1149 [] _
    refine waloadN X1155 hx hby k15_18 L1149_0 rfl ?_
    refine st1156 _ ?_
    refine wiloadN X1156 hx hby k15_22 L1149_3 ?_
    refine wiaload X1156 hx hby hZ e1156 f1151 0 rfl (by decide) (by decide) (v := (.int 1)) rfl k15_23 ?_
    show own_S p e below m T1156 24 L1149 [(.int 1)] _
    refine wistore X1156 hx hby k15_24 hL1149 hL1157 rfl ?_
    refine waloadN X1156 hx hby k15_26 L1157_2 rfl ?_
    refine wiload X1156 hx hby k15_27 L1157_4 ?_
    refine waloadN X1156 hx hby k15_29 L1157_2 rfl ?_
    show own_S p e below m T1156 30 L1157 [(.ref xx), (.int 1), (.ref xx)] _
    refine wiload X1156 hx hby k15_30 L1157_4 ?_
    refine wdaload X1156 hx hby hZ e1156 V_xx 1 rfl (by decide) (by decide) (v := (.double d1)) rfl k15_32 ?_
    refine waloadN X1156 hx hby k15_33 L1157_0 rfl ?_
    refine st1158 _ ?_
    show own_S p e below m T1158 37 L1157 [(.ref sw), (.double d1), (.int 1), (.ref xx)] _
    refine wiloadN X1158 hx hby k15_37 L1157_3 ?_
    refine wdaload X1158 hx hby hZ e1158 f1153 0 rfl (by decide) (by decide) (v := (.double vc)) rfl k15_38 ?_
    refine waloadN X1158 hx hby k15_39 L1157_2 rfl ?_
    refine waloadN X1158 hx hby k15_40 L1157_0 rfl ?_
    show own_S p e below m T1158 41 L1157 [(.ref a1), (.ref xx), (.double vc), (.double d1), (.int 1), (.ref xx)] _
    refine st1159 _ ?_
    refine wiloadN X1159 hx hby k15_44 L1157_3 ?_
    refine wiaload X1159 hx hby hZ e1159 f1152 0 rfl (by decide) (by decide) (v := (.int 0)) rfl k15_45 ?_
    refine wdaload X1159 hx hby hZ e1159 V_xx 0 rfl (by decide) (by decide) (v := (.double d0)) rfl k15_46 ?_
    show own_S p e below m T1159 47 L1157 [(.double d0), (.double vc), (.double d1), (.int 1), (.ref xx)] _
    refine XS.dmulS X1159.here hx rfl (v := (FP.dmul vc d0)) (hb hby k15_47) rfl (n1 rfl).1 rfl ?_
    refine XS.daddS X1159.here hx rfl (v := (FP.dadd d1 (FP.dmul vc d0))) (hb hby k15_48) rfl (n1 rfl).2.1 rfl ?_
    refine waloadN X1159 hx hby k15_49 L1157_0 rfl ?_
    refine st1160 _ ?_
    show own_S p e below m T1160 53 L1157 [(.ref ss), (.double (FP.dadd d1 (FP.dmul vc d0))), (.int 1), (.ref xx)] _
    refine wiloadN X1160 hx hby k15_53 L1157_3 ?_
    refine wdaload X1160 hx hby hZ e1160 f1154 0 rfl (by decide) (by decide) (v := (.double (cond fa sc1 FP.dconst1))) rfl k15_54 ?_
    refine XS.dmulS X1160.here hx rfl (v := (FP.dmul (FP.dadd d1 (FP.dmul vc d0)) (cond fa sc1 FP.dconst1))) (hb hby k15_55) rfl (n1 rfl).2.2 rfl ?_
    refine st1162 _ ?_
    show own_S p e below m T1162 57 L1157 [] _
    refine wiinc X1162 hx hby k15_57 L1157_3 hL1157 hL1163 rfl ?_
    refine wgoto X1162 hx hby k15_60 60 10 rfl (by decide) (by decide) ?_
    refine wiloadN X1162 hx hby k15_10 L1163_3 ?_
    refine waloadN X1162 hx hby k15_11 L1163_0 rfl ?_
    show own_S p e below m T1162 12 L1163 [(.ref a1), (.int 1)] _
    refine st1165 _ ?_
    refine wicmpNo X1165 hx hby k15_15 (by decide) ?_
    refine waloadN X1165 hx hby k15_18 L1163_0 rfl ?_
    refine st1166 _ ?_
    show own_S p e below m T1166 22 L1163 [(.ref sr)] _
    refine wiloadN X1166 hx hby k15_22 L1163_3 ?_
    refine wiaload X1166 hx hby hZ e1166 f1167 1 rfl (by decide) (by decide) (v := (.int 2)) rfl k15_23 ?_
    refine wistore X1166 hx hby k15_24 hL1163 hL1168 rfl ?_
    refine waloadN X1166 hx hby k15_26 L1168_2 rfl ?_
    show own_S p e below m T1166 27 L1168 [(.ref xx)] _
    refine wiload X1166 hx hby k15_27 L1168_4 ?_
    refine waloadN X1166 hx hby k15_29 L1168_2 rfl ?_
    refine wiload X1166 hx hby k15_30 L1168_4 ?_
    refine wdaload X1166 hx hby hZ e1166 f1161 2 rfl (by decide) (by decide) (v := (.double d2)) rfl k15_32 ?_
    show own_S p e below m T1166 33 L1168 [(.double d2), (.int 2), (.ref xx)] _
    refine waloadN X1166 hx hby k15_33 L1168_0 rfl ?_
    refine st1169 _ ?_
    refine wiloadN X1169 hx hby k15_37 L1168_3 ?_
    refine wdaload X1169 hx hby hZ e1169 f1170 1 rfl (by decide) (by decide) (v := (.double ve)) rfl k15_38 ?_
    show own_S p e below m T1169 39 L1168 [(.double ve), (.double d2), (.int 2), (.ref xx)] _
    refine waloadN X1169 hx hby k15_39 L1168_2 rfl ?_
    refine waloadN X1169 hx hby k15_40 L1168_0 rfl ?_
    refine st1171 _ ?_
    refine wiloadN X1171 hx hby k15_44 L1168_3 ?_
    show own_S p e below m T1171 45 L1168 [(.int 1), (.ref sp), (.ref xx), (.double ve), (.double d2), (.int 2), (.ref xx)] _
    refine wiaload X1171 hx hby hZ e1171 f1172 1 rfl (by decide) (by decide) (v := (.int 1)) rfl k15_45 ?_
    refine wdaload X1171 hx hby hZ e1171 f1161 1 rfl (by decide) (by decide) (v := (.double (FP.dmul (FP.dadd d1 (FP.dmul vc d0)) (cond fa sc1 FP.dconst1)))) rfl k15_46 ?_
    refine XS.dmulS X1171.here hx rfl (v := (FP.dmul ve (FP.dmul (FP.dadd d1 (FP.dmul vc d0)) (cond fa sc1 FP.dconst1)))) (hb hby k15_47) rfl (n2 rfl).1 rfl ?_
    refine XS.daddS X1171.here hx rfl (v := (FP.dadd d2 (FP.dmul ve (FP.dmul (FP.dadd d1 (FP.dmul vc d0)) (cond fa sc1 FP.dconst1))))) (hb hby k15_48) rfl (n2 rfl).2.1 rfl ?_
    show own_S p e below m T1171 49 L1168 [(.double (FP.dadd d2 (FP.dmul ve (FP.dmul (FP.dadd d1 (FP.dmul vc d0)) (cond fa sc1 FP.dconst1))))), (.int 2), (.ref xx)] _
    refine waloadN X1171 hx hby k15_49 L1168_0 rfl ?_
    refine st1173 _ ?_
    refine wiloadN X1173 hx hby k15_53 L1168_3 ?_
    refine wdaload X1173 hx hby hZ e1173 f1174 1 rfl (by decide) (by decide) (v := (.double (cond fd sc2 FP.dconst1))) rfl k15_54 ?_
    show own_S p e below m T1173 55 L1168 [(.double (cond fd sc2 FP.dconst1)), (.double (FP.dadd d2 (FP.dmul ve (FP.dmul (FP.dadd d1 (FP.dmul vc d0)) (cond fa sc1 FP.dconst1))))), (.int 2), (.ref xx)] _
    refine XS.dmulS X1173.here hx rfl (v := (FP.dmul (FP.dadd d2 (FP.dmul ve (FP.dmul (FP.dadd d1 (FP.dmul vc d0)) (cond fa sc1 FP.dconst1)))) (cond fd sc2 FP.dconst1))) (hb hby k15_55) rfl (n2 rfl).2.2 rfl ?_
    refine st1176 _ ?_
    refine wiinc X1176 hx hby k15_57 L1168_3 hL1168 hL1177 rfl ?_
    refine wgoto X1176 hx hby k15_60 60 10 rfl (by decide) (by decide) ?_
    show own_S p e below m T1176 10 L1177 [] _
    refine wiloadN X1176 hx hby k15_10 L1177_3 ?_
    refine waloadN X1176 hx hby k15_11 L1177_0 rfl ?_
    refine st1179 _ ?_
    refine wicmpYes X1179 hx hby k15_15 15 63 rfl (by decide) (by decide) (by decide) ?_
    rw [hL1177]
    exact kt
set_option maxRecDepth 65536 in
set_option maxHeartbeats 40000000 in
theorem svR1 {p : Program} {l : Launch} {e : Env} {s : State} {m : MethodId} {args : Array Value} {below : List Frame} {meth : Method} {c : Code} {T0 : State} {locs : List Loc} (Z : State) (a0 : Array Value) (hw : ∀ d ∈ tables_1, d.before a0 Z = true) (a1 oc od mc md sr sp sw ss co cf le re rc : Nat) (k_co k_cf k_le : ClassId) (r : Int32) (en wk : Int64) (st : Int32) (f : Bool) (bb xx : Nat) (kxx : ClassId) (ca da cb db cc dc : Nat) (kcp kdp : ClassId) (nr k0 k1 : Int32) (v0 v1 d0 d1 d2 q4 : UInt64) (q6 l0 l1 l2 : Int32) (h0 : Heap) (n0 : Nat) (X0 : Stand p l e ({ frames := 1, cells := 1, slots := 3, locals := 14 } : Room) s m args below meth c T0 locs 1 3) (hx : p.tables.exec = Jvm.exec) (hZ : Z.Warmed39 s.vm) (hby : c.code = prog_14_method_5_code) (hml : c.maxLocals = 7) (hown : s.vm.findClass "com/example/odds2/odds2/engine/Elimination" = some m.cls) (e0 : T0.heap = h0) (N0 : Fr n0 locs) (Z0 : n0 ≤ h0.size) (O_a : own_E Z h0 a1 oc od mc md sr sp sw ss co cf le re rc r en wk (0 : Int32) st) (V_co : Arv Z h0 co k_co (.array .int) (3 : Int32) [(.ref ca), (.ref cb), (.ref cc)] .null) (V_cf : Arv Z h0 cf k_cf (.array .double) (3 : Int32) [(.ref da), (.ref db), (.ref dc)] .null) (V_le : Arv Z h0 le k_le .int 3 [(.int l0), (.int (own_i f)), (.int l2)] (.int 0)) (V_cp : Arv Z h0 cb kcp .int nr [(.int k0), (.int k1)] (.int 0)) (V_dp : Arv Z h0 db kdp .double nr [(.double v0), (.double v1)] (.double 0)) (V_xx : Arv Z h0 xx kxx .double 3 [(.double d0), (.double d1), (.double d2)] (.double 0)) (hk : f = true → own_12 nr ∧ k0 = (2 : Int32)) (nn : f = true → NoNaN64 (FP.dmul v0 d2) ∧ NoNaN64 (FP.dadd d1 (FP.dmul v0 d2))) (o1 : rc < xx) (ord : own_ord a1 oc od mc md sr sp sw ss co cf le re rc) (g_a : n0 ≤ a1) :
    ∃ (T' : State) (h' : Heap) (L' : List Loc), Stand p l e ({ frames := 1, cells := 1, slots := 3, locals := 14 } : Room) s m args below meth c T' L' 1 3 ∧ T'.heap = h' ∧ Fr n0 L' ∧ Keep h0 h' [xx] ∧ own_E Z h' a1 oc od mc md sr sp sw ss co cf le re rc r en wk (0 : Int32) st ∧ Arv Z h' xx kxx .double 3 [(.double d0), (.double (cond f (FP.dadd d1 (FP.dmul v0 d2)) d1)), (.double d2)] (.double 0) ∧ ∀ target, own_S p e below m T' 70 #[.val (.ref a1), .val (.ref bb), .val (.ref xx), .val (.int 0), .val (.double (cond f (FP.dadd d1 (FP.dmul v0 d2)) d1)), .second, .val (.int (own_i f))] [] target → own_S p e below m T0 70 #[.val (.ref a1), .val (.ref bb), .val (.ref xx), .val (.int 1), .val (.double q4), .second, .val (.int q6)] [] target := by
  have hl := own_laid_of hw
  obtain ⟨or0, or1, or2, or3, or4, or5, or6, or7, or8, or9, or10, or11, or12⟩ := id ord
  rcases f with _ | _
  · obtain ⟨L1181, hL1181⟩ := own_nm #[.val (.ref a1), .val (.ref bb), .val (.ref xx), .val (.int 1), .val (.double q4), .second, .val (.int q6)]
    have f1182 : Arv Z h0 le k_le .int 3 [(.int l0), (.int 0), (.int l2)] (.int 0) := V_le
    have L1181_3 := own_ld hL1181 3 rfl
    have L1181_2 := own_ld hL1181 2 rfl
    obtain ⟨L1183, hL1183⟩ := own_nm #[.val (.ref a1), .val (.ref bb), .val (.ref xx), .val (.int 1), .val (.double d1), .second, .val (.int q6)]
    obtain ⟨L1184, hL1184⟩ := own_nm #[.val (.ref a1), .val (.ref bb), .val (.ref xx), .val (.int 1), .val (.double d1), .second, .val (.int 0)]
    have L1184_6 := own_ld hL1184 6 rfl
    have L1184_0 := own_ld hL1184 0 rfl
    obtain ⟨T1185, X1185, e1185, st1185⟩ := wget X0 hx hby hZ hown (hw _ tm41) e0 (O_a.at 3) L1184 [(.int 0)] k15_85
    have L1184_3 := own_ld hL1184 3 rfl
    have L1184_2 := own_ld hL1184 2 rfl
    have L1184_4 := own_ld hL1184 4 rfl
    obtain ⟨T1187, h1187, X1187, e1187, W1187, f1186, N1187, st1187⟩ := wdastore X1185 hx hby hZ e1185 N0 V_xx (by omega : n0 ≤ (xx : Nat)) (1 : Int32) d1 1 rfl (by decide) (by decide) (Nat.le_of_ble_eq_true rfl) L1184 [] k15_129
    obtain ⟨L1188, hL1188⟩ := own_nm #[.val (.ref a1), .val (.ref bb), .val (.ref xx), .val (.int 0), .val (.double d1), .second, .val (.int 0)]
    have f1189 := ((Keep.refl h0 [xx]).wr W1187 (Or.inl (List.mem_of_getElem? (i := 0) rfl)))
    have f1190 := (O_a.other W1187 (by omega : (a1 : Nat) ≠ xx))
    refine ⟨T1187, _, _, X1187, e1187, N1187, f1189, f1190, f1186, fun target kt => ?_⟩
    rw [← hL1181]
    show own_S p e below m T0 70 L1181 [] _
    refine wiloadN X0 hx hby k15_70 L1181_3 ?_
    refine wifNo X0 hx hby k15_71 (by decide) ?_
    refine waloadN X0 hx hby k15_74 L1181_2 rfl ?_
    refine wiloadN X0 hx hby k15_75 L1181_3 ?_
    show own_S p e below m T0 76 L1181 [(.int 1), (.ref xx)] _
    refine wdaload X0 hx hby hZ e0 V_xx 1 rfl (by decide) (by decide) (v := (.double d1)) rfl k15_76 ?_
    refine XS.dstore X0.here hx rfl (hb hby k15_77) rfl (l' := L1183) (by rw [hL1181, hL1183]; rfl) ?_
    refine wiconst X0 hx hby k15_79 ?_
    refine wistore X0 hx hby k15_80 hL1183 hL1184 rfl ?_
    show own_S p e below m T0 82 L1184 [] _
    refine wiload X0 hx hby k15_82 L1184_6 ?_
    refine waloadN X0 hx hby k15_84 L1184_0 rfl ?_
    refine st1185 _ ?_
    refine wiloadN X1185 hx hby k15_88 L1184_3 ?_
    show own_S p e below m T1185 89 L1184 [(.int 1), (.ref le), (.int 0)] _
    refine wiaload X1185 hx hby hZ e1185 f1182 1 rfl (by decide) (by decide) (v := (.int 0)) rfl k15_89 ?_
    refine wicmpYes X1185 hx hby k15_90 90 125 rfl (by decide) (by decide) (by decide) ?_
    refine waloadN X1185 hx hby k15_125 L1184_2 rfl ?_
    refine wiloadN X1185 hx hby k15_126 L1184_3 ?_
    show own_S p e below m T1185 127 L1184 [(.int 1), (.ref xx)] _
    refine wdload X1185 hx hby k15_127 L1184_4 ?_
    refine st1187 _ ?_
    refine wiinc X1187 hx hby k15_130 L1184_3 hL1184 hL1188 rfl ?_
    refine wgoto X1187 hx hby k15_133 133 70 rfl (by decide) (by decide) ?_
    rw [hL1188]
    exact kt
  · obtain ⟨hnr, rfl⟩ := hk rfl
    obtain ⟨L1191, hL1191⟩ := own_nm #[.val (.ref a1), .val (.ref bb), .val (.ref xx), .val (.int 1), .val (.double q4), .second, .val (.int q6)]
    have f1192 : Arv Z h0 le k_le .int 3 [(.int l0), (.int 1), (.int l2)] (.int 0) := V_le
    have L1191_3 := own_ld hL1191 3 rfl
    have L1191_2 := own_ld hL1191 2 rfl
    obtain ⟨L1193, hL1193⟩ := own_nm #[.val (.ref a1), .val (.ref bb), .val (.ref xx), .val (.int 1), .val (.double d1), .second, .val (.int q6)]
    obtain ⟨L1194, hL1194⟩ := own_nm #[.val (.ref a1), .val (.ref bb), .val (.ref xx), .val (.int 1), .val (.double d1), .second, .val (.int 0)]
    have L1194_6 := own_ld hL1194 6 rfl
    have L1194_0 := own_ld hL1194 0 rfl
    obtain ⟨T1195, X1195, e1195, st1195⟩ := wget X0 hx hby hZ hown (hw _ tm41) e0 (O_a.at 3) L1194 [(.int 0)] k15_85
    have L1194_3 := own_ld hL1194 3 rfl
    have L1194_4 := own_ld hL1194 4 rfl
    obtain ⟨T1196, X1196, e1196, st1196⟩ := wget X1195 hx hby hZ hown (hw _ tm39) e1195 (O_a.at 2) L1194 [(.double d1)] k15_96
    have L1194_2 := own_ld hL1194 2 rfl
    obtain ⟨T1197, X1197, e1197, st1197⟩ := wget X1196 hx hby hZ hown (hw _ tm35) e1196 (O_a.at 1) L1194 [(.ref xx), (.double v0), (.double d1)] k15_106
    obtain ⟨L1198, hL1198⟩ := own_nm #[.val (.ref a1), .val (.ref bb), .val (.ref xx), .val (.int 1), .val (.double (FP.dadd d1 (FP.dmul v0 d2))), .second, .val (.int 0)]
    have L1198_6 := own_ld hL1198 6 rfl
    obtain ⟨L1199, hL1199⟩ := own_nm #[.val (.ref a1), .val (.ref bb), .val (.ref xx), .val (.int 1), .val (.double (FP.dadd d1 (FP.dmul v0 d2))), .second, .val (.int 1)]
    have L1199_6 := own_ld hL1199 6 rfl
    have L1199_0 := own_ld hL1199 0 rfl
    obtain ⟨T1200, X1200, e1200, st1200⟩ := wget X1197 hx hby hZ hown (hw _ tm41) e1197 (O_a.at 3) L1199 [(.int 1)] k15_85
    have L1199_3 := own_ld hL1199 3 rfl
    have L1199_2 := own_ld hL1199 2 rfl
    have L1199_4 := own_ld hL1199 4 rfl
    obtain ⟨T1202, h1202, X1202, e1202, W1202, f1201, N1202, st1202⟩ := wdastore X1200 hx hby hZ e1200 N0 V_xx (by omega : n0 ≤ (xx : Nat)) (1 : Int32) (FP.dadd d1 (FP.dmul v0 d2)) 1 rfl (by decide) (by decide) (Nat.le_of_ble_eq_true rfl) L1199 [] k15_129
    obtain ⟨L1203, hL1203⟩ := own_nm #[.val (.ref a1), .val (.ref bb), .val (.ref xx), .val (.int 0), .val (.double (FP.dadd d1 (FP.dmul v0 d2))), .second, .val (.int 1)]
    have f1204 := ((Keep.refl h0 [xx]).wr W1202 (Or.inl (List.mem_of_getElem? (i := 0) rfl)))
    have f1205 := (O_a.other W1202 (by omega : (a1 : Nat) ≠ xx))
    refine ⟨T1202, _, _, X1202, e1202, N1202, f1204, f1205, f1201, fun target kt => ?_⟩
    rw [← hL1191]
    show own_S p e below m T0 70 L1191 [] _
    refine wiloadN X0 hx hby k15_70 L1191_3 ?_
    refine wifNo X0 hx hby k15_71 (by decide) ?_
    refine waloadN X0 hx hby k15_74 L1191_2 rfl ?_
    refine wiloadN X0 hx hby k15_75 L1191_3 ?_
    show own_S p e below m T0 76 L1191 [(.int 1), (.ref xx)] _
    refine wdaload X0 hx hby hZ e0 V_xx 1 rfl (by decide) (by decide) (v := (.double d1)) rfl k15_76 ?_
    refine XS.dstore X0.here hx rfl (hb hby k15_77) rfl (l' := L1193) (by rw [hL1191, hL1193]; rfl) ?_
    refine wiconst X0 hx hby k15_79 ?_
    refine wistore X0 hx hby k15_80 hL1193 hL1194 rfl ?_
    show own_S p e below m T0 82 L1194 [] _
    refine wiload X0 hx hby k15_82 L1194_6 ?_
    refine waloadN X0 hx hby k15_84 L1194_0 rfl ?_
    refine st1195 _ ?_
    refine wiloadN X1195 hx hby k15_88 L1194_3 ?_
    show own_S p e below m T1195 89 L1194 [(.int 1), (.ref le), (.int 0)] _
    refine wiaload X1195 hx hby hZ e1195 f1192 1 rfl (by decide) (by decide) (v := (.int 1)) rfl k15_89 ?_
    refine wicmpNo X1195 hx hby k15_90 (by decide) ?_
    refine wdload X1195 hx hby k15_93 L1194_4 ?_
    refine waloadN X1195 hx hby k15_95 L1194_0 rfl ?_
    show own_S p e below m T1195 96 L1194 [(.ref a1), (.double d1)] _
    refine st1196 _ ?_
    refine wiloadN X1196 hx hby k15_99 L1194_3 ?_
    refine waaload X1196 hx hby hZ e1196 V_cf 1 rfl (by decide) (by decide) (v := (.ref db)) rfl k15_100 ?_
    refine wiload X1196 hx hby k15_101 L1194_6 ?_
    show own_S p e below m T1196 103 L1194 [(.int 0), (.ref db), (.double d1)] _
    refine wdaload X1196 hx hby hZ e1196 V_dp 0 rfl (by decide) (by rcases hnr with rfl | rfl <;> decide) (v := (.double v0)) rfl k15_103 ?_
    refine waloadN X1196 hx hby k15_104 L1194_2 rfl ?_
    refine waloadN X1196 hx hby k15_105 L1194_0 rfl ?_
    refine st1197 _ ?_
    show own_S p e below m T1197 109 L1194 [(.ref co), (.ref xx), (.double v0), (.double d1)] _
    refine wiloadN X1197 hx hby k15_109 L1194_3 ?_
    refine waaload X1197 hx hby hZ e1197 V_co 1 rfl (by decide) (by decide) (v := (.ref cb)) rfl k15_110 ?_
    refine wiload X1197 hx hby k15_111 L1194_6 ?_
    refine wiaload X1197 hx hby hZ e1197 V_cp 0 rfl (by decide) (by rcases hnr with rfl | rfl <;> decide) (v := (.int 2)) rfl k15_113 ?_
    show own_S p e below m T1197 114 L1194 [(.int 2), (.ref xx), (.double v0), (.double d1)] _
    refine wdaload X1197 hx hby hZ e1197 V_xx 2 rfl (by decide) (by decide) (v := (.double d2)) rfl k15_114 ?_
    refine XS.dmulS X1197.here hx rfl (v := (FP.dmul v0 d2)) (hb hby k15_115) rfl (nn rfl).1 rfl ?_
    refine XS.daddS X1197.here hx rfl (v := (FP.dadd d1 (FP.dmul v0 d2))) (hb hby k15_116) rfl (nn rfl).2 rfl ?_
    refine XS.dstore X1197.here hx rfl (hb hby k15_117) rfl (l' := L1198) (by rw [hL1194, hL1198]; rfl) ?_
    show own_S p e below m T1197 119 L1198 [] _
    refine wiinc X1197 hx hby k15_119 L1198_6 hL1198 hL1199 rfl ?_
    refine wgoto X1197 hx hby k15_122 122 82 rfl (by decide) (by decide) ?_
    refine wiload X1197 hx hby k15_82 L1199_6 ?_
    refine waloadN X1197 hx hby k15_84 L1199_0 rfl ?_
    show own_S p e below m T1197 85 L1199 [(.ref a1), (.int 1)] _
    refine st1200 _ ?_
    refine wiloadN X1200 hx hby k15_88 L1199_3 ?_
    refine wiaload X1200 hx hby hZ e1200 f1192 1 rfl (by decide) (by decide) (v := (.int 1)) rfl k15_89 ?_
    refine wicmpYes X1200 hx hby k15_90 90 125 rfl (by decide) (by decide) (by decide) ?_
    show own_S p e below m T1200 125 L1199 [] _
    refine waloadN X1200 hx hby k15_125 L1199_2 rfl ?_
    refine wiloadN X1200 hx hby k15_126 L1199_3 ?_
    refine wdload X1200 hx hby k15_127 L1199_4 ?_
    refine st1202 _ ?_
    show own_S p e below m T1202 130 L1199 [] _
    refine wiinc X1202 hx hby k15_130 L1199_3 hL1199 hL1203 rfl ?_
    refine wgoto X1202 hx hby k15_133 133 70 rfl (by decide) (by decide) ?_
    rw [hL1203]
    exact kt
set_option maxRecDepth 65536 in
set_option maxHeartbeats 40000000 in
theorem svR0 {p : Program} {l : Launch} {e : Env} {s : State} {m : MethodId} {args : Array Value} {below : List Frame} {meth : Method} {c : Code} {T0 : State} {locs : List Loc} (Z : State) (a0 : Array Value) (hw : ∀ d ∈ tables_1, d.before a0 Z = true) (a1 oc od mc md sr sp sw ss co cf le re rc : Nat) (k_co k_cf k_le : ClassId) (r : Int32) (en wk : Int64) (st : Int32) (f : Bool) (bb xx : Nat) (kxx : ClassId) (ca da cb db cc dc : Nat) (kcp kdp : ClassId) (nr k0 k1 : Int32) (v0 v1 d0 d1 d2 q4 : UInt64) (q6 l0 l1 l2 : Int32) (h0 : Heap) (n0 : Nat) (X0 : Stand p l e ({ frames := 1, cells := 1, slots := 3, locals := 14 } : Room) s m args below meth c T0 locs 1 3) (hx : p.tables.exec = Jvm.exec) (hZ : Z.Warmed39 s.vm) (hby : c.code = prog_14_method_5_code) (hml : c.maxLocals = 7) (hown : s.vm.findClass "com/example/odds2/odds2/engine/Elimination" = some m.cls) (e0 : T0.heap = h0) (N0 : Fr n0 locs) (Z0 : n0 ≤ h0.size) (O_a : own_E Z h0 a1 oc od mc md sr sp sw ss co cf le re rc r en wk (0 : Int32) st) (V_co : Arv Z h0 co k_co (.array .int) (3 : Int32) [(.ref ca), (.ref cb), (.ref cc)] .null) (V_cf : Arv Z h0 cf k_cf (.array .double) (3 : Int32) [(.ref da), (.ref db), (.ref dc)] .null) (V_le : Arv Z h0 le k_le .int 3 [(.int (own_i f)), (.int l1), (.int l2)] (.int 0)) (V_cp : Arv Z h0 ca kcp .int nr [(.int k0), (.int k1)] (.int 0)) (V_dp : Arv Z h0 da kdp .double nr [(.double v0), (.double v1)] (.double 0)) (V_xx : Arv Z h0 xx kxx .double 3 [(.double d0), (.double d1), (.double d2)] (.double 0)) (hk : f = true → own_12 nr ∧ k0 = (1 : Int32)) (nn : f = true → NoNaN64 (FP.dmul v0 d1) ∧ NoNaN64 (FP.dadd d0 (FP.dmul v0 d1))) (o1 : rc < xx) (ord : own_ord a1 oc od mc md sr sp sw ss co cf le re rc) (g_a : n0 ≤ a1) :
    ∃ (T' : State) (h' : Heap) (L' : List Loc), Stand p l e ({ frames := 1, cells := 1, slots := 3, locals := 14 } : Room) s m args below meth c T' L' 1 3 ∧ T'.heap = h' ∧ Fr n0 L' ∧ Keep h0 h' [xx] ∧ own_E Z h' a1 oc od mc md sr sp sw ss co cf le re rc r en wk (0 : Int32) st ∧ Arv Z h' xx kxx .double 3 [(.double (cond f (FP.dadd d0 (FP.dmul v0 d1)) d0)), (.double d1), (.double d2)] (.double 0) ∧ ∀ target, own_S p e below m T' 70 #[.val (.ref a1), .val (.ref bb), .val (.ref xx), .val (.int (-1)), .val (.double (cond f (FP.dadd d0 (FP.dmul v0 d1)) d0)), .second, .val (.int (own_i f))] [] target → own_S p e below m T0 70 #[.val (.ref a1), .val (.ref bb), .val (.ref xx), .val (.int 0), .val (.double q4), .second, .val (.int q6)] [] target := by
  have hl := own_laid_of hw
  obtain ⟨or0, or1, or2, or3, or4, or5, or6, or7, or8, or9, or10, or11, or12⟩ := id ord
  rcases f with _ | _
  · obtain ⟨L1206, hL1206⟩ := own_nm #[.val (.ref a1), .val (.ref bb), .val (.ref xx), .val (.int 0), .val (.double q4), .second, .val (.int q6)]
    have f1207 : Arv Z h0 le k_le .int 3 [(.int 0), (.int l1), (.int l2)] (.int 0) := V_le
    have L1206_3 := own_ld hL1206 3 rfl
    have L1206_2 := own_ld hL1206 2 rfl
    obtain ⟨L1208, hL1208⟩ := own_nm #[.val (.ref a1), .val (.ref bb), .val (.ref xx), .val (.int 0), .val (.double d0), .second, .val (.int q6)]
    obtain ⟨L1209, hL1209⟩ := own_nm #[.val (.ref a1), .val (.ref bb), .val (.ref xx), .val (.int 0), .val (.double d0), .second, .val (.int 0)]
    have L1209_6 := own_ld hL1209 6 rfl
    have L1209_0 := own_ld hL1209 0 rfl
    obtain ⟨T1210, X1210, e1210, st1210⟩ := wget X0 hx hby hZ hown (hw _ tm41) e0 (O_a.at 3) L1209 [(.int 0)] k15_85
    have L1209_3 := own_ld hL1209 3 rfl
    have L1209_2 := own_ld hL1209 2 rfl
    have L1209_4 := own_ld hL1209 4 rfl
    obtain ⟨T1212, h1212, X1212, e1212, W1212, f1211, N1212, st1212⟩ := wdastore X1210 hx hby hZ e1210 N0 V_xx (by omega : n0 ≤ (xx : Nat)) (0 : Int32) d0 0 rfl (by decide) (by decide) (Nat.le_of_ble_eq_true rfl) L1209 [] k15_129
    obtain ⟨L1213, hL1213⟩ := own_nm #[.val (.ref a1), .val (.ref bb), .val (.ref xx), .val (.int (-1)), .val (.double d0), .second, .val (.int 0)]
    have f1214 := ((Keep.refl h0 [xx]).wr W1212 (Or.inl (List.mem_of_getElem? (i := 0) rfl)))
    have f1215 := (O_a.other W1212 (by omega : (a1 : Nat) ≠ xx))
    refine ⟨T1212, _, _, X1212, e1212, N1212, f1214, f1215, f1211, fun target kt => ?_⟩
    rw [← hL1206]
    show own_S p e below m T0 70 L1206 [] _
    refine wiloadN X0 hx hby k15_70 L1206_3 ?_
    refine wifNo X0 hx hby k15_71 (by decide) ?_
    refine waloadN X0 hx hby k15_74 L1206_2 rfl ?_
    refine wiloadN X0 hx hby k15_75 L1206_3 ?_
    show own_S p e below m T0 76 L1206 [(.int 0), (.ref xx)] _
    refine wdaload X0 hx hby hZ e0 V_xx 0 rfl (by decide) (by decide) (v := (.double d0)) rfl k15_76 ?_
    refine XS.dstore X0.here hx rfl (hb hby k15_77) rfl (l' := L1208) (by rw [hL1206, hL1208]; rfl) ?_
    refine wiconst X0 hx hby k15_79 ?_
    refine wistore X0 hx hby k15_80 hL1208 hL1209 rfl ?_
    show own_S p e below m T0 82 L1209 [] _
    refine wiload X0 hx hby k15_82 L1209_6 ?_
    refine waloadN X0 hx hby k15_84 L1209_0 rfl ?_
    refine st1210 _ ?_
    refine wiloadN X1210 hx hby k15_88 L1209_3 ?_
    show own_S p e below m T1210 89 L1209 [(.int 0), (.ref le), (.int 0)] _
    refine wiaload X1210 hx hby hZ e1210 f1207 0 rfl (by decide) (by decide) (v := (.int 0)) rfl k15_89 ?_
    refine wicmpYes X1210 hx hby k15_90 90 125 rfl (by decide) (by decide) (by decide) ?_
    refine waloadN X1210 hx hby k15_125 L1209_2 rfl ?_
    refine wiloadN X1210 hx hby k15_126 L1209_3 ?_
    show own_S p e below m T1210 127 L1209 [(.int 0), (.ref xx)] _
    refine wdload X1210 hx hby k15_127 L1209_4 ?_
    refine st1212 _ ?_
    refine wiinc X1212 hx hby k15_130 L1209_3 hL1209 hL1213 rfl ?_
    refine wgoto X1212 hx hby k15_133 133 70 rfl (by decide) (by decide) ?_
    rw [hL1213]
    exact kt
  · obtain ⟨hnr, rfl⟩ := hk rfl
    obtain ⟨L1216, hL1216⟩ := own_nm #[.val (.ref a1), .val (.ref bb), .val (.ref xx), .val (.int 0), .val (.double q4), .second, .val (.int q6)]
    have f1217 : Arv Z h0 le k_le .int 3 [(.int 1), (.int l1), (.int l2)] (.int 0) := V_le
    have L1216_3 := own_ld hL1216 3 rfl
    have L1216_2 := own_ld hL1216 2 rfl
    obtain ⟨L1218, hL1218⟩ := own_nm #[.val (.ref a1), .val (.ref bb), .val (.ref xx), .val (.int 0), .val (.double d0), .second, .val (.int q6)]
    obtain ⟨L1219, hL1219⟩ := own_nm #[.val (.ref a1), .val (.ref bb), .val (.ref xx), .val (.int 0), .val (.double d0), .second, .val (.int 0)]
    have L1219_6 := own_ld hL1219 6 rfl
    have L1219_0 := own_ld hL1219 0 rfl
    obtain ⟨T1220, X1220, e1220, st1220⟩ := wget X0 hx hby hZ hown (hw _ tm41) e0 (O_a.at 3) L1219 [(.int 0)] k15_85
    have L1219_3 := own_ld hL1219 3 rfl
    have L1219_4 := own_ld hL1219 4 rfl
    obtain ⟨T1221, X1221, e1221, st1221⟩ := wget X1220 hx hby hZ hown (hw _ tm39) e1220 (O_a.at 2) L1219 [(.double d0)] k15_96
    have L1219_2 := own_ld hL1219 2 rfl
    obtain ⟨T1222, X1222, e1222, st1222⟩ := wget X1221 hx hby hZ hown (hw _ tm35) e1221 (O_a.at 1) L1219 [(.ref xx), (.double v0), (.double d0)] k15_106
    obtain ⟨L1223, hL1223⟩ := own_nm #[.val (.ref a1), .val (.ref bb), .val (.ref xx), .val (.int 0), .val (.double (FP.dadd d0 (FP.dmul v0 d1))), .second, .val (.int 0)]
    have L1223_6 := own_ld hL1223 6 rfl
    obtain ⟨L1224, hL1224⟩ := own_nm #[.val (.ref a1), .val (.ref bb), .val (.ref xx), .val (.int 0), .val (.double (FP.dadd d0 (FP.dmul v0 d1))), .second, .val (.int 1)]
    have L1224_6 := own_ld hL1224 6 rfl
    have L1224_0 := own_ld hL1224 0 rfl
    obtain ⟨T1225, X1225, e1225, st1225⟩ := wget X1222 hx hby hZ hown (hw _ tm41) e1222 (O_a.at 3) L1224 [(.int 1)] k15_85
    have L1224_3 := own_ld hL1224 3 rfl
    have L1224_2 := own_ld hL1224 2 rfl
    have L1224_4 := own_ld hL1224 4 rfl
    obtain ⟨T1227, h1227, X1227, e1227, W1227, f1226, N1227, st1227⟩ := wdastore X1225 hx hby hZ e1225 N0 V_xx (by omega : n0 ≤ (xx : Nat)) (0 : Int32) (FP.dadd d0 (FP.dmul v0 d1)) 0 rfl (by decide) (by decide) (Nat.le_of_ble_eq_true rfl) L1224 [] k15_129
    obtain ⟨L1228, hL1228⟩ := own_nm #[.val (.ref a1), .val (.ref bb), .val (.ref xx), .val (.int (-1)), .val (.double (FP.dadd d0 (FP.dmul v0 d1))), .second, .val (.int 1)]
    have f1229 := ((Keep.refl h0 [xx]).wr W1227 (Or.inl (List.mem_of_getElem? (i := 0) rfl)))
    have f1230 := (O_a.other W1227 (by omega : (a1 : Nat) ≠ xx))
    refine ⟨T1227, _, _, X1227, e1227, N1227, f1229, f1230, f1226, fun target kt => ?_⟩
    rw [← hL1216]
    show own_S p e below m T0 70 L1216 [] _
    refine wiloadN X0 hx hby k15_70 L1216_3 ?_
    refine wifNo X0 hx hby k15_71 (by decide) ?_
    refine waloadN X0 hx hby k15_74 L1216_2 rfl ?_
    refine wiloadN X0 hx hby k15_75 L1216_3 ?_
    show own_S p e below m T0 76 L1216 [(.int 0), (.ref xx)] _
    refine wdaload X0 hx hby hZ e0 V_xx 0 rfl (by decide) (by decide) (v := (.double d0)) rfl k15_76 ?_
    refine XS.dstore X0.here hx rfl (hb hby k15_77) rfl (l' := L1218) (by rw [hL1216, hL1218]; rfl) ?_
    refine wiconst X0 hx hby k15_79 ?_
    refine wistore X0 hx hby k15_80 hL1218 hL1219 rfl ?_
    show own_S p e below m T0 82 L1219 [] _
    refine wiload X0 hx hby k15_82 L1219_6 ?_
    refine waloadN X0 hx hby k15_84 L1219_0 rfl ?_
    refine st1220 _ ?_
    refine wiloadN X1220 hx hby k15_88 L1219_3 ?_
    show own_S p e below m T1220 89 L1219 [(.int 0), (.ref le), (.int 0)] _
    refine wiaload X1220 hx hby hZ e1220 f1217 0 rfl (by decide) (by decide) (v := (.int 1)) rfl k15_89 ?_
    refine wicmpNo X1220 hx hby k15_90 (by decide) ?_
    refine wdload X1220 hx hby k15_93 L1219_4 ?_
    refine waloadN X1220 hx hby k15_95 L1219_0 rfl ?_
    show own_S p e below m T1220 96 L1219 [(.ref a1), (.double d0)] _
    refine st1221 _ ?_
    refine wiloadN X1221 hx hby k15_99 L1219_3 ?_
    refine waaload X1221 hx hby hZ e1221 V_cf 0 rfl (by decide) (by decide) (v := (.ref da)) rfl k15_100 ?_
    refine wiload X1221 hx hby k15_101 L1219_6 ?_
    show own_S p e below m T1221 103 L1219 [(.int 0), (.ref da), (.double d0)] _
    refine wdaload X1221 hx hby hZ e1221 V_dp 0 rfl (by decide) (by rcases hnr with rfl | rfl <;> decide) (v := (.double v0)) rfl k15_103 ?_
    refine waloadN X1221 hx hby k15_104 L1219_2 rfl ?_
    refine waloadN X1221 hx hby k15_105 L1219_0 rfl ?_
    refine st1222 _ ?_
    show own_S p e below m T1222 109 L1219 [(.ref co), (.ref xx), (.double v0), (.double d0)] _
    refine wiloadN X1222 hx hby k15_109 L1219_3 ?_
    refine waaload X1222 hx hby hZ e1222 V_co 0 rfl (by decide) (by decide) (v := (.ref ca)) rfl k15_110 ?_
    refine wiload X1222 hx hby k15_111 L1219_6 ?_
    refine wiaload X1222 hx hby hZ e1222 V_cp 0 rfl (by decide) (by rcases hnr with rfl | rfl <;> decide) (v := (.int 1)) rfl k15_113 ?_
    show own_S p e below m T1222 114 L1219 [(.int 1), (.ref xx), (.double v0), (.double d0)] _
    refine wdaload X1222 hx hby hZ e1222 V_xx 1 rfl (by decide) (by decide) (v := (.double d1)) rfl k15_114 ?_
    refine XS.dmulS X1222.here hx rfl (v := (FP.dmul v0 d1)) (hb hby k15_115) rfl (nn rfl).1 rfl ?_
    refine XS.daddS X1222.here hx rfl (v := (FP.dadd d0 (FP.dmul v0 d1))) (hb hby k15_116) rfl (nn rfl).2 rfl ?_
    refine XS.dstore X1222.here hx rfl (hb hby k15_117) rfl (l' := L1223) (by rw [hL1219, hL1223]; rfl) ?_
    show own_S p e below m T1222 119 L1223 [] _
    refine wiinc X1222 hx hby k15_119 L1223_6 hL1223 hL1224 rfl ?_
    refine wgoto X1222 hx hby k15_122 122 82 rfl (by decide) (by decide) ?_
    refine wiload X1222 hx hby k15_82 L1224_6 ?_
    refine waloadN X1222 hx hby k15_84 L1224_0 rfl ?_
    show own_S p e below m T1222 85 L1224 [(.ref a1), (.int 1)] _
    refine st1225 _ ?_
    refine wiloadN X1225 hx hby k15_88 L1224_3 ?_
    refine wiaload X1225 hx hby hZ e1225 f1217 0 rfl (by decide) (by decide) (v := (.int 1)) rfl k15_89 ?_
    refine wicmpYes X1225 hx hby k15_90 90 125 rfl (by decide) (by decide) (by decide) ?_
    show own_S p e below m T1225 125 L1224 [] _
    refine waloadN X1225 hx hby k15_125 L1224_2 rfl ?_
    refine wiloadN X1225 hx hby k15_126 L1224_3 ?_
    refine wdload X1225 hx hby k15_127 L1224_4 ?_
    refine st1227 _ ?_
    show own_S p e below m T1227 130 L1224 [] _
    refine wiinc X1227 hx hby k15_130 L1224_3 hL1224 hL1228 rfl ?_
    refine wgoto X1227 hx hby k15_133 133 70 rfl (by decide) (by decide) ?_
    rw [hL1228]
    exact kt
theorem ef_SV (m : MethodId) (x0 : Addr) (x1 : Addr) : entryFrame m #[(.ref x0), (.ref x1)] 7 = mkF m 0 #[.val (.ref x0), .val (.ref x1), .unset, .unset, .unset, .unset, .unset] [] := by first | (simp [entryFrame, mkF, argsToLocals, Value.category]; done) | rfl
theorem pn_SV : plainName "com/example/odds2/odds2/engine/Elimination" = true := by first | (simp [plainName, overriddenIn]; done) | decide +kernel
def QSV (Z : State) (a1 oc od mc md sr sp sw ss co cf le re rc : Nat) (k_co k_cf k_le k_sr k_sp k_sw k_ss : ClassId) (r : Int32) (en wk : Int64) (fa fc fd fe : Bool) (ca da cb db cc dc : Nat) (kca kda kcb kdb : ClassId) (bb : Nat) (kbb : ClassId) (d0 d1 d2 va vc ve sc1 sc2 : UInt64) (t0 t1 : Int32) (s0 s1 : UInt64) (h0 : Heap) (n0 : Nat) (v : Option Value) (h : Heap) (L : List Loc) : Prop := ∃ xx : Nat, v = some (.ref xx) ∧ Fr n0 L ∧ Keep h0 h [a1] ∧ own_E Z h a1 oc od mc md sr sp sw ss co cf le re rc r en (wk + ((own_lb fc fe).toInt64 + en)) (0 : Int32) (own_lb fc fe) ∧ Arv Z h xx kbb .double 3 [(.double (cond fa (FP.dadd d0 (FP.dmul va (cond fd (FP.dadd (cond fc (FP.dmul (FP.dadd d1 (FP.dmul vc d0)) (cond fa sc1 FP.dconst1)) d1) (FP.dmul s0 (cond fe (FP.dmul (FP.dadd d2 (FP.dmul ve (cond fc (FP.dmul (FP.dadd d1 (FP.dmul vc d0)) (cond fa sc1 FP.dconst1)) d1))) (cond fd sc2 FP.dconst1)) d2))) (cond fc (FP.dmul (FP.dadd d1 (FP.dmul vc d0)) (cond fa sc1 FP.dconst1)) d1)))) d0)), (.double (cond fd (FP.dadd (cond fc (FP.dmul (FP.dadd d1 (FP.dmul vc d0)) (cond fa sc1 FP.dconst1)) d1) (FP.dmul s0 (cond fe (FP.dmul (FP.dadd d2 (FP.dmul ve (cond fc (FP.dmul (FP.dadd d1 (FP.dmul vc d0)) (cond fa sc1 FP.dconst1)) d1))) (cond fd sc2 FP.dconst1)) d2))) (cond fc (FP.dmul (FP.dadd d1 (FP.dmul vc d0)) (cond fa sc1 FP.dconst1)) d1))), (.double (cond fe (FP.dmul (FP.dadd d2 (FP.dmul ve (cond fc (FP.dmul (FP.dadd d1 (FP.dmul vc d0)) (cond fa sc1 FP.dconst1)) d1))) (cond fd sc2 FP.dconst1)) d2))] (.double 0) ∧ h0.size ≤ xx
set_option maxRecDepth 65536 in
set_option maxHeartbeats 40000000 in
theorem rmSV (l : Launch) (Z : State) (a0 : Array Value) (hw : ∀ d ∈ tables_1, d.before a0 Z = true) (ws : List Jvm.Cond) (a1 oc od mc md sr sp sw ss co cf le re rc : Nat) (k_co k_cf k_le k_sr k_sp k_sw k_ss : ClassId) (r : Int32) (en wk : Int64) (fa fc fd fe : Bool) (ca da cb db cc dc : Nat) (kca kda kcb kdb : ClassId) (bb : Nat) (kbb : ClassId) (d0 d1 d2 va vc ve sc1 sc2 : UInt64) (t0 t1 : Int32) (s0 s1 : UInt64) (h0 : Heap) (n0 : Nat) (Z0 : n0 ≤ h0.size) (O_a : own_E Z h0 a1 oc od mc md sr sp sw ss co cf le re rc r en wk (0 : Int32) (own_lb fc fe)) (V_co : Arv Z h0 co k_co (.array .int) (3 : Int32) [(.ref ca), (.ref cb), (.ref cc)] .null) (V_cf : Arv Z h0 cf k_cf (.array .double) (3 : Int32) [(.ref da), (.ref db), (.ref dc)] .null) (V_le : Arv Z h0 le k_le .int 3 [(.int (own_i fa)), (.int (own_i fd)), (.int 0)] (.int 0)) (V_sr : Arv Z h0 sr k_sr .int 16 (cond fe ((cond fc [(.int 1), (.int 0)] [(.int 0), (.int 0)]).set (own_i fc).toNatClampNeg (.int 2)) (cond fc [(.int 1), (.int 0)] [(.int 0), (.int 0)])) (.int 0)) (V_sp : Arv Z h0 sp k_sp .int 16 (cond fe ((cond fc [(.int 0), (.int 0)] [(.int 0), (.int 0)]).set (own_i fc).toNatClampNeg (.int 1)) (cond fc [(.int 0), (.int 0)] [(.int 0), (.int 0)])) (.int 0)) (V_sw : Arv Z h0 sw k_sw .double 16 (cond fe ((cond fc [(.double vc), (.double 0)] [(.double 0), (.double 0)]).set (own_i fc).toNatClampNeg (.double ve)) (cond fc [(.double vc), (.double 0)] [(.double 0), (.double 0)])) (.double 0)) (V_ss : Arv Z h0 ss k_ss .double 16 (cond fe ((cond fc [(.double (cond fa sc1 FP.dconst1)), (.double 0)] [(.double 0), (.double 0)]).set (own_i fc).toNatClampNeg (.double (cond fd sc2 FP.dconst1))) (cond fc [(.double (cond fa sc1 FP.dconst1)), (.double 0)] [(.double 0), (.double 0)])) (.double 0)) (V_ca : Arv Z h0 ca kca .int (own_i fa) [(.int 1), (.int 0)] (.int 0)) (V_da : Arv Z h0 da kda .double (own_i fa) [(.double va), (.double 0)] (.double 0)) (V_cb : Arv Z h0 cb kcb .int (own_lb fc fd) [(.int t0), (.int t1)] (.int 0)) (V_db : Arv Z h0 db kdb .double (own_lb fc fd) [(.double s0), (.double s1)] (.double 0)) (V_bb : Arv Z h0 bb kbb .double 3 [(.double d0), (.double d1), (.double d2)] (.double 0)) (E_bb : Exa Z h0 bb "[D") (ht : fd = true → t0 = 2) (n1 : fc = true → NoNaN64 (FP.dmul vc d0) ∧ NoNaN64 (FP.dadd d1 (FP.dmul vc d0)) ∧ NoNaN64 (FP.dmul (FP.dadd d1 (FP.dmul vc d0)) (cond fa sc1 FP.dconst1))) (n2 : fe = true → NoNaN64 (FP.dmul ve (cond fc (FP.dmul (FP.dadd d1 (FP.dmul vc d0)) (cond fa sc1 FP.dconst1)) d1)) ∧ NoNaN64 (FP.dadd d2 (FP.dmul ve (cond fc (FP.dmul (FP.dadd d1 (FP.dmul vc d0)) (cond fa sc1 FP.dconst1)) d1))) ∧ NoNaN64 (FP.dmul (FP.dadd d2 (FP.dmul ve (cond fc (FP.dmul (FP.dadd d1 (FP.dmul vc d0)) (cond fa sc1 FP.dconst1)) d1))) (cond fd sc2 FP.dconst1))) (n3 : fd = true → NoNaN64 (FP.dmul s0 (cond fe (FP.dmul (FP.dadd d2 (FP.dmul ve (cond fc (FP.dmul (FP.dadd d1 (FP.dmul vc d0)) (cond fa sc1 FP.dconst1)) d1))) (cond fd sc2 FP.dconst1)) d2)) ∧ NoNaN64 (FP.dadd (cond fc (FP.dmul (FP.dadd d1 (FP.dmul vc d0)) (cond fa sc1 FP.dconst1)) d1) (FP.dmul s0 (cond fe (FP.dmul (FP.dadd d2 (FP.dmul ve (cond fc (FP.dmul (FP.dadd d1 (FP.dmul vc d0)) (cond fa sc1 FP.dconst1)) d1))) (cond fd sc2 FP.dconst1)) d2)))) (n4 : fa = true → NoNaN64 (FP.dmul va (cond fd (FP.dadd (cond fc (FP.dmul (FP.dadd d1 (FP.dmul vc d0)) (cond fa sc1 FP.dconst1)) d1) (FP.dmul s0 (cond fe (FP.dmul (FP.dadd d2 (FP.dmul ve (cond fc (FP.dmul (FP.dadd d1 (FP.dmul vc d0)) (cond fa sc1 FP.dconst1)) d1))) (cond fd sc2 FP.dconst1)) d2))) (cond fc (FP.dmul (FP.dadd d1 (FP.dmul vc d0)) (cond fa sc1 FP.dconst1)) d1))) ∧ NoNaN64 (FP.dadd d0 (FP.dmul va (cond fd (FP.dadd (cond fc (FP.dmul (FP.dadd d1 (FP.dmul vc d0)) (cond fa sc1 FP.dconst1)) d1) (FP.dmul s0 (cond fe (FP.dmul (FP.dadd d2 (FP.dmul ve (cond fc (FP.dmul (FP.dadd d1 (FP.dmul vc d0)) (cond fa sc1 FP.dconst1)) d1))) (cond fd sc2 FP.dconst1)) d2))) (cond fc (FP.dmul (FP.dadd d1 (FP.dmul vc d0)) (cond fa sc1 FP.dconst1)) d1))))) (p1 : rc < ca) (p2 : ca < da) (p3 : da < cb) (p4 : cb < db) (p5 : db < bb) (ord : own_ord a1 oc od mc md sr sp sw ss co cf le re rc) (g_a : n0 ≤ a1) :
    MetFree l (⟨"com/example/odds2/odds2/engine/Elimination", "solve", "([D)[D"⟩ : MethodName) (head1 (Jvm.Cond.code (⟨"com/example/odds2/odds2/engine/Elimination", "solve", "([D)[D"⟩ : MethodName) prog_14_method_5_code 7 (some (.array .double)) :: ws) ({ frames := 1, cells := 1, slots := 3, locals := 14 } : Room)) (fun a U => a = #[(.ref a1), (.ref bb)] ∧ Z.Warmed39 U.vm ∧ U.heap = h0) (fun _ _ _ _ _ => True) (fun _ U o U' => ∃ v L, o = .returned v ∧ QSV Z a1 oc od mc md sr sp sw ss co cf le re rc k_co k_cf k_le k_sr k_sp k_sw k_ss r en wk fa fc fd fe ca da cb db cc dc kca kda kcb kdb bb kbb d0 d1 d2 va vc ve sc1 sc2 t0 t1 s0 s1 h0 n0 v U'.heap L ∧ FrameEnd U o U' L ({ frames := 1, cells := 1, slots := 3, locals := 14 } : Room).cells ({ frames := 1, cells := 1, slots := 3, locals := 14 } : Room).slots) := by
  refine MetFree.of_bodySF (plainFor_of_name pn_SV) hisR ?_
  intro p e s m args below meth c s₁ Bd hml0 hP hK
  obtain ⟨rfl, hZ, hh⟩ := hP
  have hx := Bd.exec
  have hby := Bd.bytes
  have hml : c.maxLocals = 7 := hml0
  have hown : s.vm.findClass "com/example/odds2/odds2/engine/Elimination" = some m.cls := findClass_of_methodNamed Bd.named
  have hnm := (name_of_methodNamed Bd.named Bd.method).1
  have X0 : Stand p l e ({ frames := 1, cells := 1, slots := 3, locals := 14 } : Room) s m #[(.ref a1), (.ref bb)] below meth c s₁ [] 0 0 := Stand.of_body Bd
  have e0 : s₁.heap = h0 := by rw [← hh, Bd.state]; rfl
  have N0 := Fr.nil n0
  have pre0 : ∀ t, Steps p.tables e below (s₁.setTop (mkF m 0 #[.val (.ref a1), .val (.ref bb), .unset, .unset, .unset, .unset, .unset] [])) t → Steps p.tables e below (s₁.setTop (entryFrame m #[(.ref a1), (.ref bb)] 7)) t := fun t k => castTop (ef_SV m a1 bb) k
  have hl := own_laid_of hw
  obtain ⟨or0, or1, or2, or3, or4, or5, or6, or7, or8, or9, or10, or11, or12⟩ := id ord
  obtain ⟨L1231, hL1231⟩ := own_nm #[.val (.ref a1), .val (.ref bb), .unset, .unset, .unset, .unset, .unset]
  have L1231_1 := own_ld hL1231 1 rfl
  obtain ⟨T1232, h1232, X1232, e1232, E1232, A1232, Q1232, st1232⟩ := cloneH X0 hx hZ hown (hw _ tm127) (hw _ tm128) (hw _ tm132) (hw _ tm130) (hw _ tm131) (hw _ tm133) e0 V_bb.arh E_bb (g := (mkF m 1 L1231 [(.ref bb)])) rfl (by rw [hml, hL1231]; rfl) (rest := []) rfl (hb hby k15_1) (by decide) (W := 0) (cap := 3) (Nat.le_of_eq rfl) (by decide) (by decide) (by decide) (by decide)
  obtain ⟨xx, g1232⟩ : ∃ z, z = h0.size := ⟨_, rfl⟩
  rw [← g1232] at A1232 Q1232 st1232
  have lt_bb_xx : (bb : Nat) < xx := by rw [g1232]; exact V_bb.lt
  have sz_h0_xx : h0.size ≤ (xx : Nat) := by rw [g1232]; exact (Keep.refl h0 [a1]).1
  have fx1232 : Arv Z h1232 xx kbb .double 3 [(.double d0), (.double d1), (.double d2)] (.double 0) := A1232
  obtain ⟨T1233, X1233, e1233, st1233⟩ := castY X1232 hx hZ hown (hw _ tm37) e1232 (Ins.self Q1232) (g := (mkF m 4 L1231 [(.ref xx)])) rfl rfl (hb hby k15_4)
  obtain ⟨L1234, hL1234⟩ := own_nm #[.val (.ref a1), .val (.ref bb), .val (.ref xx), .unset, .unset, .unset, .unset]
  obtain ⟨L1235, hL1235⟩ := own_nm #[.val (.ref a1), .val (.ref bb), .val (.ref xx), .val (.int 0), .unset, .unset, .unset]
  have f1236 := (O_a.ext E1232)
  have f1238 := ((Keep.refl h0 [a1]).ext E1232)
  have Z1237 : n0 ≤ h1232.size := Nat.le_trans Z0 f1238.1
  have f1239 := (V_sr.ext E1232)
  have f1240 := (V_sp.ext E1232)
  have f1241 := (V_sw.ext E1232)
  have f1242 := (V_ss.ext E1232)
  obtain ⟨T1243, h1243, LT1243, b4, y4, X1243, e1243, N1243, K1243, Oa1243, Vx1243, st1243⟩ := svA Z a0 hw a1 oc od mc md sr sp sw ss co cf le re rc k_sr k_sp k_sw k_ss r en wk fa fc fd fe bb xx kbb d0 d1 d2 vc ve sc1 sc2 h1232 n0 X1233 hx hZ hby hml hown e1233 N0 Z1237 f1236 f1239 f1240 f1241 f1242 fx1232 (by omega) n1 n2 ord g_a
  obtain ⟨L1244, hL1244⟩ := own_nm #[.val (.ref a1), .val (.ref bb), .val (.ref xx), .val (.int (own_lb fc fe)), (cond b4 (.val (.int y4)) .unset), .unset, .unset]
  have L1244_0 := own_ld hL1244 0 rfl
  obtain ⟨T1245, X1245, e1245, st1245⟩ := wget X1243 hx hby hZ hown (hw _ tm31) e1243 (Oa1243.at 0) L1244 [] k15_64
  obtain ⟨L1246, hL1246⟩ := own_nm #[.val (.ref a1), .val (.ref bb), .val (.ref xx), .val (.int 2), (cond b4 (.val (.int y4)) .unset), .unset, .unset]
  have L1246_3 := own_ld hL1246 3 rfl
  have L1246_2 := own_ld hL1246 2 rfl
  obtain ⟨L1247, hL1247⟩ := own_nm #[.val (.ref a1), .val (.ref bb), .val (.ref xx), .val (.int 2), .val (.double (cond fe (FP.dmul (FP.dadd d2 (FP.dmul ve (cond fc (FP.dmul (FP.dadd d1 (FP.dmul vc d0)) (cond fa sc1 FP.dconst1)) d1))) (cond fd sc2 FP.dconst1)) d2)), .second, .unset]
  obtain ⟨L1248, hL1248⟩ := own_nm #[.val (.ref a1), .val (.ref bb), .val (.ref xx), .val (.int 2), .val (.double (cond fe (FP.dmul (FP.dadd d2 (FP.dmul ve (cond fc (FP.dmul (FP.dadd d1 (FP.dmul vc d0)) (cond fa sc1 FP.dconst1)) d1))) (cond fd sc2 FP.dconst1)) d2)), .second, .val (.int 0)]
  have L1248_6 := own_ld hL1248 6 rfl
  have L1248_0 := own_ld hL1248 0 rfl
  obtain ⟨T1249, X1249, e1249, st1249⟩ := wget X1245 hx hby hZ hown (hw _ tm41) e1245 (Oa1243.at 3) L1248 [(.int 0)] k15_85
  have L1248_3 := own_ld hL1248 3 rfl
  have f1250 := ((V_le.ext E1232).keep K1243 (ninS (by omega : (le : Nat) ≠ xx) nin0))
  have L1248_2 := own_ld hL1248 2 rfl
  have L1248_4 := own_ld hL1248 4 rfl
  obtain ⟨T1252, h1252, X1252, e1252, W1252, f1251, N1252, st1252⟩ := wdastore X1249 hx hby hZ e1249 N1243 Vx1243 (by omega : n0 ≤ (xx : Nat)) (2 : Int32) (cond fe (FP.dmul (FP.dadd d2 (FP.dmul ve (cond fc (FP.dmul (FP.dadd d1 (FP.dmul vc d0)) (cond fa sc1 FP.dconst1)) d1))) (cond fd sc2 FP.dconst1)) d2) 2 rfl (by decide) (by decide) (Nat.le_of_ble_eq_true rfl) L1248 [] k15_129
  obtain ⟨L1253, hL1253⟩ := own_nm #[.val (.ref a1), .val (.ref bb), .val (.ref xx), .val (.int 1), .val (.double (cond fe (FP.dmul (FP.dadd d2 (FP.dmul ve (cond fc (FP.dmul (FP.dadd d1 (FP.dmul vc d0)) (cond fa sc1 FP.dconst1)) d1))) (cond fd sc2 FP.dconst1)) d2)), .second, .val (.int 0)]
  have f1254 := (Oa1243.other W1252 (by omega : (a1 : Nat) ≠ xx))
  have f1255 := (((V_cb.ext E1232).keep K1243 (ninS (by omega : (cb : Nat) ≠ xx) nin0)).other W1252 (by omega : (cb : Nat) ≠ xx))
  have f1256 := (((V_db.ext E1232).keep K1243 (ninS (by omega : (db : Nat) ≠ xx) nin0)).other W1252 (by omega : (db : Nat) ≠ xx))
  have f1258 := ((f1238.trans K1243 (allS (Or.inr (by omega : h0.size ≤ (xx : Nat))) all0)).wr W1252 (Or.inr (by omega : h0.size ≤ (xx : Nat))))
  have Z1257 : n0 ≤ h1252.size := Nat.le_trans Z0 f1258.1
  have f1259 := (((V_co.ext E1232).keep K1243 (ninS (by omega : (co : Nat) ≠ xx) nin0)).other W1252 (by omega : (co : Nat) ≠ xx))
  have f1260 := (((V_cf.ext E1232).keep K1243 (ninS (by omega : (cf : Nat) ≠ xx) nin0)).other W1252 (by omega : (cf : Nat) ≠ xx))
  have f1261 := (f1250.other W1252 (by omega : (le : Nat) ≠ xx))
  obtain ⟨T1262, h1262, LT1262, X1262, e1262, N1262, K1262, Oa1262, Vx1262, st1262⟩ := svR1 Z a0 hw a1 oc od mc md sr sp sw ss co cf le re rc k_co k_cf k_le r en wk (own_lb fc fe) fd bb xx kbb ca da cb db cc dc kcb kdb (own_lb fc fd) t0 t1 s0 s1 d0 (cond fc (FP.dmul (FP.dadd d1 (FP.dmul vc d0)) (cond fa sc1 FP.dconst1)) d1) (cond fe (FP.dmul (FP.dadd d2 (FP.dmul ve (cond fc (FP.dmul (FP.dadd d1 (FP.dmul vc d0)) (cond fa sc1 FP.dconst1)) d1))) (cond fd sc2 FP.dconst1)) d2) (cond fe (FP.dmul (FP.dadd d2 (FP.dmul ve (cond fc (FP.dmul (FP.dadd d1 (FP.dmul vc d0)) (cond fa sc1 FP.dconst1)) d1))) (cond fd sc2 FP.dconst1)) d2) (0 : Int32) (own_i fa) (own_i fd) (0 : Int32) h1252 n0 X1252 hx hZ hby hml hown e1252 N1252 Z1257 f1254 f1259 f1260 f1261 f1255 f1256 f1251 (fun q => ⟨by subst q; cases fc <;> unfold own_12 <;> decide, ht q⟩) n3 (by omega) ord g_a
  obtain ⟨L1263, hL1263⟩ := own_nm #[.val (.ref a1), .val (.ref bb), .val (.ref xx), .val (.int 0), .val (.double (cond fd (FP.dadd (cond fc (FP.dmul (FP.dadd d1 (FP.dmul vc d0)) (cond fa sc1 FP.dconst1)) d1) (FP.dmul s0 (cond fe (FP.dmul (FP.dadd d2 (FP.dmul ve (cond fc (FP.dmul (FP.dadd d1 (FP.dmul vc d0)) (cond fa sc1 FP.dconst1)) d1))) (cond fd sc2 FP.dconst1)) d2))) (cond fc (FP.dmul (FP.dadd d1 (FP.dmul vc d0)) (cond fa sc1 FP.dconst1)) d1))), .second, .val (.int (own_i fd))]
  have f1264 := ((((V_ca.ext E1232).keep K1243 (ninS (by omega : (ca : Nat) ≠ xx) nin0)).other W1252 (by omega : (ca : Nat) ≠ xx)).keep K1262 (ninS (by omega : (ca : Nat) ≠ xx) nin0))
  have f1265 := ((((V_da.ext E1232).keep K1243 (ninS (by omega : (da : Nat) ≠ xx) nin0)).other W1252 (by omega : (da : Nat) ≠ xx)).keep K1262 (ninS (by omega : (da : Nat) ≠ xx) nin0))
  have f1267 := (f1258.trans K1262 (allS (Or.inr (by omega : h0.size ≤ (xx : Nat))) all0))
  have Z1266 : n0 ≤ h1262.size := Nat.le_trans Z0 f1267.1
  have f1268 := (f1259.keep K1262 (ninS (by omega : (co : Nat) ≠ xx) nin0))
  have f1269 := (f1260.keep K1262 (ninS (by omega : (cf : Nat) ≠ xx) nin0))
  have f1270 := (f1261.keep K1262 (ninS (by omega : (le : Nat) ≠ xx) nin0))
  obtain ⟨T1271, h1271, LT1271, X1271, e1271, N1271, K1271, Oa1271, Vx1271, st1271⟩ := svR0 Z a0 hw a1 oc od mc md sr sp sw ss co cf le re rc k_co k_cf k_le r en wk (own_lb fc fe) fa bb xx kbb ca da cb db cc dc kca kda (own_i fa) (1 : Int32) (0 : Int32) va (0 : UInt64) d0 (cond fd (FP.dadd (cond fc (FP.dmul (FP.dadd d1 (FP.dmul vc d0)) (cond fa sc1 FP.dconst1)) d1) (FP.dmul s0 (cond fe (FP.dmul (FP.dadd d2 (FP.dmul ve (cond fc (FP.dmul (FP.dadd d1 (FP.dmul vc d0)) (cond fa sc1 FP.dconst1)) d1))) (cond fd sc2 FP.dconst1)) d2))) (cond fc (FP.dmul (FP.dadd d1 (FP.dmul vc d0)) (cond fa sc1 FP.dconst1)) d1)) (cond fe (FP.dmul (FP.dadd d2 (FP.dmul ve (cond fc (FP.dmul (FP.dadd d1 (FP.dmul vc d0)) (cond fa sc1 FP.dconst1)) d1))) (cond fd sc2 FP.dconst1)) d2) (cond fd (FP.dadd (cond fc (FP.dmul (FP.dadd d1 (FP.dmul vc d0)) (cond fa sc1 FP.dconst1)) d1) (FP.dmul s0 (cond fe (FP.dmul (FP.dadd d2 (FP.dmul ve (cond fc (FP.dmul (FP.dadd d1 (FP.dmul vc d0)) (cond fa sc1 FP.dconst1)) d1))) (cond fd sc2 FP.dconst1)) d2))) (cond fc (FP.dmul (FP.dadd d1 (FP.dmul vc d0)) (cond fa sc1 FP.dconst1)) d1)) (own_i fd) (own_i fa) (own_i fd) (0 : Int32) h1262 n0 X1262 hx hZ hby hml hown e1262 N1262 Z1266 Oa1262 f1268 f1269 f1270 f1264 f1265 Vx1262 (fun q => ⟨by subst q; unfold own_12; decide, rfl⟩) n4 (by omega) ord g_a
  obtain ⟨L1272, hL1272⟩ := own_nm #[.val (.ref a1), .val (.ref bb), .val (.ref xx), .val (.int (-1)), .val (.double (cond fa (FP.dadd d0 (FP.dmul va (cond fd (FP.dadd (cond fc (FP.dmul (FP.dadd d1 (FP.dmul vc d0)) (cond fa sc1 FP.dconst1)) d1) (FP.dmul s0 (cond fe (FP.dmul (FP.dadd d2 (FP.dmul ve (cond fc (FP.dmul (FP.dadd d1 (FP.dmul vc d0)) (cond fa sc1 FP.dconst1)) d1))) (cond fd sc2 FP.dconst1)) d2))) (cond fc (FP.dmul (FP.dadd d1 (FP.dmul vc d0)) (cond fa sc1 FP.dconst1)) d1)))) d0)), .second, .val (.int (own_i fa))]
  have L1272_3 := own_ld hL1272 3 rfl
  have L1272_0 := own_ld hL1272 0 rfl
  obtain ⟨T1273, X1273, e1273, st1273⟩ := wget X1271 hx hby hZ hown (hw _ tm75) e1271 (Oa1271.at 8) L1272 [(.ref a1)] k15_138
  obtain ⟨T1274, X1274, e1274, st1274⟩ := wget X1273 hx hby hZ hown (hw _ tm115) e1273 (Oa1271.at 14) L1272 [(.long wk), (.ref a1)] k15_142
  obtain ⟨T1275, X1275, e1275, st1275⟩ := wget X1274 hx hby hZ hown (hw _ tm73) e1274 (Oa1271.at 7) L1272 [(.long (own_lb fc fe).toInt64), (.long wk), (.ref a1)] k15_147
  obtain ⟨T1276, h1276, X1276, e1276, W1276, st1276⟩ := putF X1275 hx hZ hown (host := "") (Or.inl (hw _ tm75)) Via.refl e1275 (Oa1271.2.2 8 (by decide)) Oa1271.1 (Or.inl (hw _ tm76)) (hw _ tm6) (ty := .long) (by decide) rfl rfl (g := (mkF m 152 L1272 [(.long (wk + ((own_lb fc fe).toInt64 + en))), (.ref a1)])) rfl rfl (hb hby k15_152)
  have N1276 := Fr.snoc X1276 N1271 (by omega : n0 ≤ (a1 : Nat))
  have f1277 : own_E Z h1276 a1 oc od mc md sr sp sw ss co cf le re rc r en (wk + ((own_lb fc fe).toInt64 + en)) (0 : Int32) (own_lb fc fe) := own_put Oa1271 hl (i := 8) (by decide) W1276
  have L1272_2 := own_ld hL1272 2 rfl
  have f1278 := ((f1267.trans K1271 (allS (Or.inr (by omega : h0.size ≤ (xx : Nat))) all0)).wr W1276 (Or.inl (List.mem_of_getElem? (i := 0) rfl)))
  have f1279 := (Vx1271.other W1276 (by omega : (xx : Nat) ≠ a1))
  obtain ⟨fs, hr, hrun, hended, hW, hsame⟩ := X1276.leave (v := some (.ref xx)) (fun h => by rw [Bd.returns] at h; cases h)
  refine ⟨_, _, pre0 _ ?_, hrun, hended, _, _, rfl, ?_, ⟨_, rfl⟩, hW, hsame.mono (by decide) (by decide)⟩
  · rw [← hL1231]
    show own_S p e below m s₁ 0 L1231 [] _
    refine waloadN X0 hx hby k15_0 L1231_1 rfl ?_
    refine st1232 _ ?_
    refine st1233 _ ?_
    refine XS.astoreN X1233.here hx rfl (hb hby k15_7) rfl rfl (l' := L1234) (by rw [hL1231, hL1234]; rfl) ?_
    show own_S p e below m T1233 8 L1234 [] _
    refine wiconst X1233 hx hby k15_8 ?_
    refine XS.istoreN X1233.here hx rfl (hb hby k15_9) rfl (l' := L1235) (by rw [hL1234, hL1235]; rfl) ?_
    rw [hL1235]
    refine st1243 _ ?_
    rw [← hL1244]
    show own_S p e below m T1243 63 L1244 [] _
    refine waloadN X1243 hx hby k15_63 L1244_0 rfl ?_
    refine st1245 _ ?_
    refine wiconst X1245 hx hby k15_67 ?_
    refine XS.isub X1245.here hx rfl (hb hby k15_68) rfl ?_
    show own_S p e below m T1245 69 L1244 [(.int 2)] _
    refine XS.istoreN X1245.here hx rfl (hb hby k15_69) rfl (l' := L1246) (by rw [hL1244, hL1246]; rfl) ?_
    refine wiloadN X1245 hx hby k15_70 L1246_3 ?_
    refine wifNo X1245 hx hby k15_71 (by decide) ?_
    refine waloadN X1245 hx hby k15_74 L1246_2 rfl ?_
    show own_S p e below m T1245 75 L1246 [(.ref xx)] _
    refine wiloadN X1245 hx hby k15_75 L1246_3 ?_
    refine wdaload X1245 hx hby hZ e1245 Vx1243 2 rfl (by decide) (by decide) (v := (.double (cond fe (FP.dmul (FP.dadd d2 (FP.dmul ve (cond fc (FP.dmul (FP.dadd d1 (FP.dmul vc d0)) (cond fa sc1 FP.dconst1)) d1))) (cond fd sc2 FP.dconst1)) d2))) rfl k15_76 ?_
    refine XS.dstore X1245.here hx rfl (hb hby k15_77) rfl (l' := L1247) (by rw [hL1246, hL1247]; cases b4 <;> rfl) ?_
    refine wiconst X1245 hx hby k15_79 ?_
    show own_S p e below m T1245 80 L1247 [(.int 0)] _
    refine wistore X1245 hx hby k15_80 hL1247 hL1248 rfl ?_
    refine wiload X1245 hx hby k15_82 L1248_6 ?_
    refine waloadN X1245 hx hby k15_84 L1248_0 rfl ?_
    refine st1249 _ ?_
    show own_S p e below m T1249 88 L1248 [(.ref le), (.int 0)] _
    refine wiloadN X1249 hx hby k15_88 L1248_3 ?_
    refine wiaload X1249 hx hby hZ e1249 f1250 2 rfl (by decide) (by decide) (v := (.int 0)) rfl k15_89 ?_
    refine wicmpYes X1249 hx hby k15_90 90 125 rfl (by decide) (by decide) (by decide) ?_
    refine waloadN X1249 hx hby k15_125 L1248_2 rfl ?_
    show own_S p e below m T1249 126 L1248 [(.ref xx)] _
    refine wiloadN X1249 hx hby k15_126 L1248_3 ?_
    refine wdload X1249 hx hby k15_127 L1248_4 ?_
    refine st1252 _ ?_
    refine wiinc X1252 hx hby k15_130 L1248_3 hL1248 hL1253 rfl ?_
    show own_S p e below m T1252 133 L1253 [] _
    refine wgoto X1252 hx hby k15_133 133 70 rfl (by decide) (by decide) ?_
    rw [hL1253]
    refine st1262 _ ?_
    rw [← hL1263]
    rw [hL1263]
    refine st1271 _ ?_
    rw [← hL1272]
    show own_S p e below m T1271 70 L1272 [] _
    refine wiloadN X1271 hx hby k15_70 L1272_3 ?_
    refine wifYes X1271 hx hby k15_71 71 136 rfl (by decide) (by decide) (by decide) ?_
    refine waloadN X1271 hx hby k15_136 L1272_0 rfl ?_
    refine XS.dup X1271.here hx rfl (hb hby k15_137) rfl rfl ?_
    show own_S p e below m T1271 138 L1272 [(.ref a1), (.ref a1)] _
    refine st1273 _ ?_
    refine waloadN X1273 hx hby k15_141 L1272_0 rfl ?_
    refine st1274 _ ?_
    refine XS.i2l X1274.here hx rfl (hb hby k15_145) rfl ?_
    show own_S p e below m T1274 146 L1272 [(.long (own_lb fc fe).toInt64), (.long wk), (.ref a1)] _
    refine waloadN X1274 hx hby k15_146 L1272_0 rfl ?_
    refine st1275 _ ?_
    refine XS.ladd X1275.here hx rfl (hb hby k15_150) rfl ?_
    refine XS.ladd X1275.here hx rfl (hb hby k15_151) rfl ?_
    show own_S p e below m T1275 152 L1272 [(.long (wk + ((own_lb fc fe).toInt64 + en))), (.ref a1)] _
    refine st1276 _ ?_
    refine waloadN X1276 hx hby k15_155 L1272_2 rfl ?_
    jvm_step X1276.here [X1276.here.top, hx, (hb hby k15_156), X1276.method', Bd.returns, Value.isRef, FieldType.isReference]
    first | (intro acts; rw [hr _ acts rfl rfl rfl]) | rw [hr _ _ rfl rfl rfl]
    exact Steps.refl _
  · show QSV Z a1 oc od mc md sr sp sw ss co cf le re rc k_co k_cf k_le k_sr k_sp k_sw k_ss r en wk fa fc fd fe ca da cb db cc dc kca kda kcb kdb bb kbb d0 d1 d2 va vc ve sc1 sc2 t0 t1 s0 s1 h0 n0 _ T1276.heap _
    rw [e1276]
    exact ⟨xx, rfl, N1276, f1278, f1277, f1279, sz_h0_xx⟩
set_option maxRecDepth 65536 in
set_option maxHeartbeats 40000000 in
theorem lw1 {p : Program} {l : Launch} {e : Env} {s : State} {m : MethodId} {args : Array Value} {below : List Frame} {meth : Method} {c : Code} {T0 : State} {locs : List Loc} (Z : State) (a0 : Array Value) (hw : ∀ d ∈ tables_1, d.before a0 Z = true) (i0 i1 i2 i3 i4 : Int32) (tu tv : Nat) (xi yi : Int32) (va vc sk : UInt64) (h0 : Heap) (n0 : Nat) (X0 : Stand p l e room_1 s m args below meth c T0 locs 2 26) (hx : p.tables.exec = Jvm.exec) (hZ : Z.Warmed39 s.vm) (hby : c.code = code) (hml : c.maxLocals = 39) (hown : s.vm.findClass "com/example/odds2/odds2/engine/EliminationSolvePinLaw" = some m.cls) (e0 : T0.heap = h0) (N0 : Fr n0 locs) (Z0 : n0 ≤ h0.size) (hsk : own_s1 (FP.dmul va vc) sk) :
    ∃ (T' : State) (h' : Heap) (L' : List Loc), Stand p l e room_1 s m args below meth c T' L' 2 26 ∧ T'.heap = h' ∧ Fr n0 L' ∧ h' = h0 ∧ ∀ target, own_S p e below m T' 213 #[.val (.int i0), .val (.int i1), .val (.int i2), .val (.int i3), .val (.int i4), .val (.ref tu), .val (.ref tv), .val (.int xi), .val (.int yi), .val (.double va), .second, .val (.double vc), .second, .val (.double (FP.dmul va vc)), .second, .val (.double sk), .second, .unset, .unset, .unset, .unset, .unset, .unset, .unset, .unset, .unset, .unset, .unset, .unset, .unset, .unset, .unset, .unset, .unset, .unset, .unset, .unset, .unset, .unset] [] target → own_S p e below m T0 180 #[.val (.int i0), .val (.int i1), .val (.int i2), .val (.int i3), .val (.int i4), .val (.ref tu), .val (.ref tv), .val (.int xi), .val (.int yi), .val (.double va), .second, .val (.double vc), .second, .val (.double (FP.dmul va vc)), .second, .unset, .unset, .unset, .unset, .unset, .unset, .unset, .unset, .unset, .unset, .unset, .unset, .unset, .unset, .unset, .unset, .unset, .unset, .unset, .unset, .unset, .unset, .unset, .unset] [] target := by
  rcases hsk with ⟨q1, rfl⟩ | ⟨q1, q2, rfl⟩ | ⟨q1, q2, rfl⟩
  · obtain ⟨L1280, hL1280⟩ := own_nm #[.val (.int i0), .val (.int i1), .val (.int i2), .val (.int i3), .val (.int i4), .val (.ref tu), .val (.ref tv), .val (.int xi), .val (.int yi), .val (.double va), .second, .val (.double vc), .second, .val (.double (FP.dmul va vc)), .second, .unset, .unset, .unset, .unset, .unset, .unset, .unset, .unset, .unset, .unset, .unset, .unset, .unset, .unset, .unset, .unset, .unset, .unset, .unset, .unset, .unset, .unset, .unset, .unset]
    have L1280_13 := own_ld hL1280 13 rfl
    obtain ⟨L1281, hL1281⟩ := own_nm #[.val (.int i0), .val (.int i1), .val (.int i2), .val (.int i3), .val (.int i4), .val (.ref tu), .val (.ref tv), .val (.int xi), .val (.int yi), .val (.double va), .second, .val (.double vc), .second, .val (.double (FP.dmul va vc)), .second, .val (.double 4611686018427387904), .second, .unset, .unset, .unset, .unset, .unset, .unset, .unset, .unset, .unset, .unset, .unset, .unset, .unset, .unset, .unset, .unset, .unset, .unset, .unset, .unset, .unset, .unset]
    refine ⟨T0, _, _, X0, e0, N0, rfl, fun target kt => ?_⟩
    rw [← hL1280]
    show own_S p e below m T0 180 L1280 [] _
    refine wdload X0 hx hby at_180 L1280_13 ?_
    refine X0.ldc2DoubleC hx hown (mvT hZ (hw _ tm3)) (g := (mkF m 182 L1280 [(.double (FP.dmul va vc))])) rfl (hb hby at_182) _ ?_
    show own_S p e below m T0 185 L1280 [(.double 4602678819172646912), (.double (FP.dmul va vc))] _
    refine XS.dcmpS X0.here hx rfl (v := (0 : Int32)) (hb hby at_185) rfl (own_v_eq q1 .l) ?_
    refine wifNo X0 hx hby at_186 (by decide) ?_
    refine X0.ldc2DoubleC hx hown (mvT hZ (hw _ tm134)) (g := (mkF m 189 L1280 [])) rfl (hb hby at_189) _ ?_
    show own_S p e below m T0 192 L1280 [(.double 4611686018427387904)] _
    refine wgoto X0 hx hby at_192 192 211 rfl (by decide) (by decide) ?_
    refine XS.dstore X0.here hx rfl (hb hby at_211) rfl (l' := L1281) (by rw [hL1280, hL1281]; rfl) ?_
    rw [hL1281]
    exact kt
  · obtain ⟨L1282, hL1282⟩ := own_nm #[.val (.int i0), .val (.int i1), .val (.int i2), .val (.int i3), .val (.int i4), .val (.ref tu), .val (.ref tv), .val (.int xi), .val (.int yi), .val (.double va), .second, .val (.double vc), .second, .val (.double (FP.dmul va vc)), .second, .unset, .unset, .unset, .unset, .unset, .unset, .unset, .unset, .unset, .unset, .unset, .unset, .unset, .unset, .unset, .unset, .unset, .unset, .unset, .unset, .unset, .unset, .unset, .unset]
    have L1282_13 := own_ld hL1282 13 rfl
    obtain ⟨L1283, hL1283⟩ := own_nm #[.val (.int i0), .val (.int i1), .val (.int i2), .val (.int i3), .val (.int i4), .val (.ref tu), .val (.ref tv), .val (.int xi), .val (.int yi), .val (.double va), .second, .val (.double vc), .second, .val (.double (FP.dmul va vc)), .second, .val (.double 4616189618054758400), .second, .unset, .unset, .unset, .unset, .unset, .unset, .unset, .unset, .unset, .unset, .unset, .unset, .unset, .unset, .unset, .unset, .unset, .unset, .unset, .unset, .unset, .unset]
    refine ⟨T0, _, _, X0, e0, N0, rfl, fun target kt => ?_⟩
    rw [← hL1282]
    show own_S p e below m T0 180 L1282 [] _
    refine wdload X0 hx hby at_180 L1282_13 ?_
    refine X0.ldc2DoubleC hx hown (mvT hZ (hw _ tm3)) (g := (mkF m 182 L1282 [(.double (FP.dmul va vc))])) rfl (hb hby at_182) _ ?_
    show own_S p e below m T0 185 L1282 [(.double 4602678819172646912), (.double (FP.dmul va vc))] _
    refine XS.dcmpS X0.here hx rfl (v := (1 : Int32)) (hb hby at_185) rfl (own_v_gt q1 .l) ?_
    refine wifYes X0 hx hby at_186 186 195 rfl (by decide) (by decide) (by decide) ?_
    refine wdload X0 hx hby at_195 L1282_13 ?_
    refine X0.ldc2DoubleC hx hown (mvT hZ (hw _ tm4)) (g := (mkF m 197 L1282 [(.double (FP.dmul va vc))])) rfl (hb hby at_197) _ ?_
    show own_S p e below m T0 200 L1282 [(.double 4604930618986332160), (.double (FP.dmul va vc))] _
    refine XS.dcmpS X0.here hx rfl (v := (0 : Int32)) (hb hby at_200) rfl (own_v_eq q2 .l) ?_
    refine wifNo X0 hx hby at_201 (by decide) ?_
    refine X0.ldc2DoubleC hx hown (mvT hZ (hw _ tm2)) (g := (mkF m 204 L1282 [])) rfl (hb hby at_204) _ ?_
    show own_S p e below m T0 207 L1282 [(.double 4616189618054758400)] _
    refine wgoto X0 hx hby at_207 207 211 rfl (by decide) (by decide) ?_
    refine XS.dstore X0.here hx rfl (hb hby at_211) rfl (l' := L1283) (by rw [hL1282, hL1283]; rfl) ?_
    rw [hL1283]
    exact kt
  · obtain ⟨L1284, hL1284⟩ := own_nm #[.val (.int i0), .val (.int i1), .val (.int i2), .val (.int i3), .val (.int i4), .val (.ref tu), .val (.ref tv), .val (.int xi), .val (.int yi), .val (.double va), .second, .val (.double vc), .second, .val (.double (FP.dmul va vc)), .second, .unset, .unset, .unset, .unset, .unset, .unset, .unset, .unset, .unset, .unset, .unset, .unset, .unset, .unset, .unset, .unset, .unset, .unset, .unset, .unset, .unset, .unset, .unset, .unset]
    have L1284_13 := own_ld hL1284 13 rfl
    obtain ⟨L1285, hL1285⟩ := own_nm #[.val (.int i0), .val (.int i1), .val (.int i2), .val (.int i3), .val (.int i4), .val (.ref tu), .val (.ref tv), .val (.int xi), .val (.int yi), .val (.double va), .second, .val (.double vc), .second, .val (.double (FP.dmul va vc)), .second, .val (.double FP.dconst1), .second, .unset, .unset, .unset, .unset, .unset, .unset, .unset, .unset, .unset, .unset, .unset, .unset, .unset, .unset, .unset, .unset, .unset, .unset, .unset, .unset, .unset, .unset]
    refine ⟨T0, _, _, X0, e0, N0, rfl, fun target kt => ?_⟩
    rw [← hL1284]
    show own_S p e below m T0 180 L1284 [] _
    refine wdload X0 hx hby at_180 L1284_13 ?_
    refine X0.ldc2DoubleC hx hown (mvT hZ (hw _ tm3)) (g := (mkF m 182 L1284 [(.double (FP.dmul va vc))])) rfl (hb hby at_182) _ ?_
    show own_S p e below m T0 185 L1284 [(.double 4602678819172646912), (.double (FP.dmul va vc))] _
    refine XS.dcmpS X0.here hx rfl (v := (-1 : Int32)) (hb hby at_185) rfl (own_v_lt q1 .l) ?_
    refine wifYes X0 hx hby at_186 186 195 rfl (by decide) (by decide) (by decide) ?_
    refine wdload X0 hx hby at_195 L1284_13 ?_
    refine X0.ldc2DoubleC hx hown (mvT hZ (hw _ tm4)) (g := (mkF m 197 L1284 [(.double (FP.dmul va vc))])) rfl (hb hby at_197) _ ?_
    show own_S p e below m T0 200 L1284 [(.double 4604930618986332160), (.double (FP.dmul va vc))] _
    refine XS.dcmpS X0.here hx rfl (v := (-1 : Int32)) (hb hby at_200) rfl (own_v_lt q2 .l) ?_
    refine wifYes X0 hx hby at_201 201 210 rfl (by decide) (by decide) (by decide) ?_
    refine XS.dconst1 X0.here hx rfl (v := FP.dconst1) (hb hby at_210) rfl ?_
    refine XS.dstore X0.here hx rfl (hb hby at_211) rfl (l' := L1285) (by rw [hL1284, hL1285]; rfl) ?_
    rw [hL1285]
    exact kt
set_option maxRecDepth 65536 in
set_option maxHeartbeats 40000000 in
theorem lwc252 {p : Program} {l : Launch} {e : Env} {s : State} {m : MethodId} {args : Array Value} {below : List Frame} {meth : Method} {c : Code} {T0 : State} {locs : List Loc} (Z : State) (a0 : Array Value) (hw : ∀ d ∈ tables_1, d.before a0 Z = true) (v : UInt64) (f : Bool) (n : Int32) (LL : Array Slot) (h0 : Heap) (n0 : Nat) (X0 : Stand p l e room_1 s m args below meth c T0 locs 2 26) (hx : p.tables.exec = Jvm.exec) (hZ : Z.Warmed39 s.vm) (hby : c.code = code) (hml : c.maxLocals = 39) (hown : s.vm.findClass "com/example/odds2/odds2/engine/EliminationSolvePinLaw" = some m.cls) (e0 : T0.heap = h0) (N0 : Fr n0 locs) (Z0 : n0 ≤ h0.size) (LL_9 : LL[9]? = some (.val (.double v))) (hf : FP.dcmp v FP.dconst0 = some (cond f .gt .eq)) :
    ∃ (T' : State) (h' : Heap) (L' : List Loc), Stand p l e room_1 s m args below meth c T' L' 2 26 ∧ T'.heap = h' ∧ Fr n0 L' ∧ h' = h0 ∧ ∀ target, own_S p e below m T' 264 LL [(.int (own_i f))] target → own_S p e below m T0 252 LL [] target := by
  rcases f with _ | _
  · refine ⟨T0, _, _, X0, e0, N0, rfl, fun target kt => ?_⟩
    show own_S p e below m T0 252 LL [] _
    refine wdload X0 hx hby at_252 LL_9 ?_
    refine XS.dconst0 X0.here hx rfl (v := FP.dconst0) (hb hby at_254) rfl ?_
    refine XS.dcmpS X0.here hx rfl (v := (0 : Int32)) (hb hby at_255) rfl (own_v_eq hf .l) ?_
    refine wifYes X0 hx hby at_256 256 263 rfl (by decide) (by decide) (by decide) ?_
    show own_S p e below m T0 263 LL [] _
    refine wiconst X0 hx hby at_263 ?_
    exact kt
  · refine ⟨T0, _, _, X0, e0, N0, rfl, fun target kt => ?_⟩
    show own_S p e below m T0 252 LL [] _
    refine wdload X0 hx hby at_252 LL_9 ?_
    refine XS.dconst0 X0.here hx rfl (v := FP.dconst0) (hb hby at_254) rfl ?_
    refine XS.dcmpS X0.here hx rfl (v := (1 : Int32)) (hb hby at_255) rfl (own_v_gt hf .l) ?_
    refine wifNo X0 hx hby at_256 (by decide) ?_
    show own_S p e below m T0 259 LL [] _
    refine wiconst X0 hx hby at_259 ?_
    refine wgoto X0 hx hby at_260 260 264 rfl (by decide) (by decide) ?_
    exact kt
set_option maxRecDepth 65536 in
set_option maxHeartbeats 40000000 in
theorem lwc264 {p : Program} {l : Launch} {e : Env} {s : State} {m : MethodId} {args : Array Value} {below : List Frame} {meth : Method} {c : Code} {T0 : State} {locs : List Loc} (Z : State) (a0 : Array Value) (hw : ∀ d ∈ tables_1, d.before a0 Z = true) (v : UInt64) (f : Bool) (n : Int32) (LL : Array Slot) (h0 : Heap) (n0 : Nat) (X0 : Stand p l e room_1 s m args below meth c T0 locs 2 26) (hx : p.tables.exec = Jvm.exec) (hZ : Z.Warmed39 s.vm) (hby : c.code = code) (hml : c.maxLocals = 39) (hown : s.vm.findClass "com/example/odds2/odds2/engine/EliminationSolvePinLaw" = some m.cls) (e0 : T0.heap = h0) (N0 : Fr n0 locs) (Z0 : n0 ≤ h0.size) (LL_11 : LL[11]? = some (.val (.double v))) (hf : FP.dcmp v FP.dconst0 = some (cond f .gt .eq)) :
    ∃ (T' : State) (h' : Heap) (L' : List Loc), Stand p l e room_1 s m args below meth c T' L' 2 26 ∧ T'.heap = h' ∧ Fr n0 L' ∧ h' = h0 ∧ ∀ target, own_S p e below m T' 277 LL [(.int (n + own_i f))] target → own_S p e below m T0 264 LL [(.int n)] target := by
  rcases f with _ | _
  · refine ⟨T0, _, _, X0, e0, N0, rfl, fun target kt => ?_⟩
    show own_S p e below m T0 264 LL [(.int n)] _
    refine wdload X0 hx hby at_264 LL_11 ?_
    refine XS.dconst0 X0.here hx rfl (v := FP.dconst0) (hb hby at_266) rfl ?_
    refine XS.dcmpS X0.here hx rfl (v := (0 : Int32)) (hb hby at_267) rfl (own_v_eq hf .l) ?_
    refine wifYes X0 hx hby at_268 268 275 rfl (by decide) (by decide) (by decide) ?_
    show own_S p e below m T0 275 LL [(.int n)] _
    refine wiconst X0 hx hby at_275 ?_
    refine XS.iadd X0.here hx rfl (hb hby at_276) rfl ?_
    exact kt
  · refine ⟨T0, _, _, X0, e0, N0, rfl, fun target kt => ?_⟩
    show own_S p e below m T0 264 LL [(.int n)] _
    refine wdload X0 hx hby at_264 LL_11 ?_
    refine XS.dconst0 X0.here hx rfl (v := FP.dconst0) (hb hby at_266) rfl ?_
    refine XS.dcmpS X0.here hx rfl (v := (1 : Int32)) (hb hby at_267) rfl (own_v_gt hf .l) ?_
    refine wifNo X0 hx hby at_268 (by decide) ?_
    show own_S p e below m T0 271 LL [(.int n)] _
    refine wiconst X0 hx hby at_271 ?_
    refine wgoto X0 hx hby at_272 272 276 rfl (by decide) (by decide) ?_
    refine XS.iadd X0.here hx rfl (hb hby at_276) rfl ?_
    exact kt
set_option maxRecDepth 65536 in
set_option maxHeartbeats 40000000 in
theorem lwc277 {p : Program} {l : Launch} {e : Env} {s : State} {m : MethodId} {args : Array Value} {below : List Frame} {meth : Method} {c : Code} {T0 : State} {locs : List Loc} (Z : State) (a0 : Array Value) (hw : ∀ d ∈ tables_1, d.before a0 Z = true) (v : UInt64) (f : Bool) (n : Int32) (LL : Array Slot) (h0 : Heap) (n0 : Nat) (X0 : Stand p l e room_1 s m args below meth c T0 locs 2 26) (hx : p.tables.exec = Jvm.exec) (hZ : Z.Warmed39 s.vm) (hby : c.code = code) (hml : c.maxLocals = 39) (hown : s.vm.findClass "com/example/odds2/odds2/engine/EliminationSolvePinLaw" = some m.cls) (e0 : T0.heap = h0) (N0 : Fr n0 locs) (Z0 : n0 ≤ h0.size) (LL_17 : LL[17]? = some (.val (.double v))) (hf : FP.dcmp v FP.dconst0 = some (cond f .gt .eq)) :
    ∃ (T' : State) (h' : Heap) (L' : List Loc), Stand p l e room_1 s m args below meth c T' L' 2 26 ∧ T'.heap = h' ∧ Fr n0 L' ∧ h' = h0 ∧ ∀ target, own_S p e below m T' 290 LL [(.int (n + own_i f))] target → own_S p e below m T0 277 LL [(.int n)] target := by
  rcases f with _ | _
  · refine ⟨T0, _, _, X0, e0, N0, rfl, fun target kt => ?_⟩
    show own_S p e below m T0 277 LL [(.int n)] _
    refine wdload X0 hx hby at_277 LL_17 ?_
    refine XS.dconst0 X0.here hx rfl (v := FP.dconst0) (hb hby at_279) rfl ?_
    refine XS.dcmpS X0.here hx rfl (v := (0 : Int32)) (hb hby at_280) rfl (own_v_eq hf .l) ?_
    refine wifYes X0 hx hby at_281 281 288 rfl (by decide) (by decide) (by decide) ?_
    show own_S p e below m T0 288 LL [(.int n)] _
    refine wiconst X0 hx hby at_288 ?_
    refine XS.iadd X0.here hx rfl (hb hby at_289) rfl ?_
    exact kt
  · refine ⟨T0, _, _, X0, e0, N0, rfl, fun target kt => ?_⟩
    show own_S p e below m T0 277 LL [(.int n)] _
    refine wdload X0 hx hby at_277 LL_17 ?_
    refine XS.dconst0 X0.here hx rfl (v := FP.dconst0) (hb hby at_279) rfl ?_
    refine XS.dcmpS X0.here hx rfl (v := (1 : Int32)) (hb hby at_280) rfl (own_v_gt hf .l) ?_
    refine wifNo X0 hx hby at_281 (by decide) ?_
    show own_S p e below m T0 284 LL [(.int n)] _
    refine wiconst X0 hx hby at_284 ?_
    refine wgoto X0 hx hby at_285 285 289 rfl (by decide) (by decide) ?_
    refine XS.iadd X0.here hx rfl (hb hby at_289) rfl ?_
    exact kt
set_option maxRecDepth 65536 in
set_option maxHeartbeats 40000000 in
theorem lwc290 {p : Program} {l : Launch} {e : Env} {s : State} {m : MethodId} {args : Array Value} {below : List Frame} {meth : Method} {c : Code} {T0 : State} {locs : List Loc} (Z : State) (a0 : Array Value) (hw : ∀ d ∈ tables_1, d.before a0 Z = true) (v : UInt64) (f : Bool) (n : Int32) (LL : Array Slot) (h0 : Heap) (n0 : Nat) (X0 : Stand p l e room_1 s m args below meth c T0 locs 2 26) (hx : p.tables.exec = Jvm.exec) (hZ : Z.Warmed39 s.vm) (hby : c.code = code) (hml : c.maxLocals = 39) (hown : s.vm.findClass "com/example/odds2/odds2/engine/EliminationSolvePinLaw" = some m.cls) (e0 : T0.heap = h0) (N0 : Fr n0 locs) (Z0 : n0 ≤ h0.size) (LL_19 : LL[19]? = some (.val (.double v))) (hf : FP.dcmp v FP.dconst0 = some (cond f .gt .eq)) :
    ∃ (T' : State) (h' : Heap) (L' : List Loc), Stand p l e room_1 s m args below meth c T' L' 2 26 ∧ T'.heap = h' ∧ Fr n0 L' ∧ h' = h0 ∧ ∀ target, own_S p e below m T' 303 LL [(.int (n + own_i f))] target → own_S p e below m T0 290 LL [(.int n)] target := by
  rcases f with _ | _
  · refine ⟨T0, _, _, X0, e0, N0, rfl, fun target kt => ?_⟩
    show own_S p e below m T0 290 LL [(.int n)] _
    refine wdload X0 hx hby at_290 LL_19 ?_
    refine XS.dconst0 X0.here hx rfl (v := FP.dconst0) (hb hby at_292) rfl ?_
    refine XS.dcmpS X0.here hx rfl (v := (0 : Int32)) (hb hby at_293) rfl (own_v_eq hf .l) ?_
    refine wifYes X0 hx hby at_294 294 301 rfl (by decide) (by decide) (by decide) ?_
    show own_S p e below m T0 301 LL [(.int n)] _
    refine wiconst X0 hx hby at_301 ?_
    refine XS.iadd X0.here hx rfl (hb hby at_302) rfl ?_
    exact kt
  · refine ⟨T0, _, _, X0, e0, N0, rfl, fun target kt => ?_⟩
    show own_S p e below m T0 290 LL [(.int n)] _
    refine wdload X0 hx hby at_290 LL_19 ?_
    refine XS.dconst0 X0.here hx rfl (v := FP.dconst0) (hb hby at_292) rfl ?_
    refine XS.dcmpS X0.here hx rfl (v := (1 : Int32)) (hb hby at_293) rfl (own_v_gt hf .l) ?_
    refine wifNo X0 hx hby at_294 (by decide) ?_
    show own_S p e below m T0 297 LL [(.int n)] _
    refine wiconst X0 hx hby at_297 ?_
    refine wgoto X0 hx hby at_298 298 302 rfl (by decide) (by decide) ?_
    refine XS.iadd X0.here hx rfl (hb hby at_302) rfl ?_
    exact kt
set_option maxRecDepth 65536 in
set_option maxHeartbeats 40000000 in
theorem rw0 {p : Program} {l : Launch} {e : Env} {s : State} {m : MethodId} {args : Array Value} {below : List Frame} {meth : Method} {c : Code} {T0 : State} {locs : List Loc} (Z : State) (a0 : Array Value) (hw : ∀ d ∈ tables_1, d.before a0 Z = true) (a1 oc od mc md sr sp sw ss co cf le re rc : Nat) (k_oc k_od k_co k_cf k_le k_re k_rc : ClassId) (fa : Bool) (va : UInt64) (LL : Array Slot) (h0 : Heap) (n0 : Nat) (X0 : Stand p l e room_1 s m args below meth c T0 locs 16 188) (hx : p.tables.exec = Jvm.exec) (hZ : Z.Warmed39 s.vm) (hby : c.code = code) (hml : c.maxLocals = 39) (hown : s.vm.findClass "com/example/odds2/odds2/engine/EliminationSolvePinLaw" = some m.cls) (e0 : T0.heap = h0) (N0 : Fr n0 locs) (Z0 : n0 ≤ h0.size) (LL_28 : LL[28]? = some (.val (.ref a1))) (LL_9 : LL[9]? = some (.val (.double va))) (hsz : LL.size = c.maxLocals) (O_a : own_E Z h0 a1 oc od mc md sr sp sw ss co cf le re rc (0 : Int32) (0 : Int64) (0 : Int64) (0 : Int32) (0 : Int32)) (V_oc : Arv Z h0 oc k_oc .int 16 [(.int 0), (.int 0)] (.int 0)) (V_od : Arv Z h0 od k_od .double 16 [(.double 0), (.double 0)] (.double 0)) (V_co : Arv Z h0 co k_co (.array .int) (3 : Int32) [.null, .null, .null] .null) (V_cf : Arv Z h0 cf k_cf (.array .double) (3 : Int32) [.null, .null, .null] .null) (V_le : Arv Z h0 le k_le .int 3 [(.int 0), (.int 0), (.int 0)] (.int 0)) (V_re : Arv Z h0 re k_re (.array .int) (3 : Int32) [.null, .null, .null] .null) (V_rc : Arv Z h0 rc k_rc .int 3 [(.int 0), (.int 0), (.int 0)] (.int 0)) (OVc : OvrA Z k_co .int "[I") (OVf : OvrA Z k_cf .double "[D") (OV : OvrA Z k_re .int "[I") (hfa : FP.dcmp va FP.dconst0 = some (cond fa .gt .eq)) (ord : own_ord a1 oc od mc md sr sp sw ss co cf le re rc) (g_a : n0 ≤ a1) :
    ∃ (T' : State) (h' : Heap) (L' : List Loc) (ca : Nat) (da : Nat) (b1 : Nat) (kca : ClassId) (kda : ClassId) (kb1 : ClassId) (c0 : Int32) (c1 : Int32) (y0 : UInt64) (y1 : UInt64), Stand p l e room_1 s m args below meth c T' L' 20 195 ∧ T'.heap = h' ∧ Fr n0 L' ∧ Keep h0 h' [a1, oc, od, co, cf, le, re, rc] ∧ own_E Z h' a1 oc od mc md sr sp sw ss co cf le re rc (1 : Int32) ((0 : Int64) + (own_i fa).toInt64) ((0 : Int64) + (own_i fa).toInt64) (0 : Int32) (0 : Int32) ∧ Arv Z h' oc k_oc .int 16 [(.int c0), (.int c1)] (.int 0) ∧ Arv Z h' od k_od .double 16 [(.double y0), (.double y1)] (.double 0) ∧ Arv Z h' co k_co (.array .int) (3 : Int32) [(.ref ca), .null, .null] .null ∧ Arv Z h' cf k_cf (.array .double) (3 : Int32) [(.ref da), .null, .null] .null ∧ Arv Z h' le k_le .int 3 [(.int (own_i fa)), (.int 0), (.int 0)] (.int 0) ∧ Arv Z h' re k_re (.array .int) (3 : Int32) [.null, (cond fa (.ref b1) .null), .null] .null ∧ Arv Z h' rc k_rc .int 3 [(.int 0), (.int (own_i fa)), (.int 0)] (.int 0) ∧ Arv Z h' ca kca .int (own_i fa) [(.int 1), (.int 0)] (.int 0) ∧ Arv Z h' da kda .double (own_i fa) [(.double va), (.double 0)] (.double 0) ∧ (fa = true → Arv Z h' b1 kb1 .int 4 [(.int 0), (.int 0), (.int 0), (.int 0)] (.int 0)) ∧ rc < ca ∧ ca < da ∧ (b1 = rc ∨ (da < b1 ∧ b1 < h'.size)) ∧ (fa = true → da < b1) ∧ ∀ target, own_S p e below m T' 335 LL [] target → own_S p e below m T0 315 LL [] target := by
  have hl := own_laid_of hw
  obtain ⟨or0, or1, or2, or3, or4, or5, or6, or7, or8, or9, or10, or11, or12⟩ := id ord
  rcases fa with _ | _
  · have lrc0 : (rc : Nat) < h0.size := V_rc.lt
    have Z1286 : n0 ≤ h0.size := Nat.le_trans Z0 (Keep.refl h0 [a1, oc, od, co, cf, le, re, rc]).1
    obtain ⟨cq1287, kq1287, q1287a, q1287b, q1287c⟩ := isOf hZ e0 O_a.1
    obtain ⟨_, _, ⟨T1287, L1287, k1287, n1287⟩, -, X1287, ⟨Lc1287, hQ1287, l1287, y1287, z1287⟩, st1287⟩ := X0.virtualBack hx (y := (⟨"com/example/odds2/odds2/engine/Elimination", "endRow", "()V"⟩ : MethodName)) (z := (⟨"com/example/odds2/odds2/engine/Elimination", "endRow", "()V"⟩ : MethodName)) hown (mvT hZ (hw _ tm47)) (mvT hZ (hw _ tm48)) (notFace_of_selects (args := #[]) (mvT hZ (hw _ tm50))) (mvT hZ (hw _ tm50)) (mvT hZ (hw _ tm49)) (by decide) (backOf (W := 0) (rmE0 l Z a0 hw [] a1 oc od mc md sr sp sw ss co cf le re rc k_co k_cf k_le (0 : Int32) (0 : Int64) (0 : Int64) (0 : Int32) [.null, .null, .null] [.null, .null, .null] [(.int 0), (.int 0), (.int 0)] h0 n0 Z1286 O_a V_co V_cf V_le OVc OVf rfl rfl rfl (by unfold own_3; decide) ord g_a) hZ (hw _ tm51) (hw _ tm7) (by decide) (by decide)) q1287a q1287c (g := (mkF m 332 LL [(.ref a1)])) rfl hsz (Steps.refl _) (argsL := []) (rest := []) (lenOf pd_9 rfl) rfl (by show 2 * 0 + _ ≤ _; exact Nat.le_of_eq rfl) (hb hby at_332) (fun _ _ => ⟨rfl, e0, (by decide : 16 + 3 ≤ _), (by decide : 188 + 0 ≤ _)⟩)
    dsimp only [Pt.U, Pt.locs, Pt.cells, Pt.slots] at X1287 l1287 y1287 z1287 st1287 hQ1287
    subst l1287 y1287 z1287
    obtain ⟨nc, nd, kc, kd, rfl, N1287q, K1287, Oe1287, Fco1287, Fcf1287, Fle1287, Fnc1287, Fnd1287, szc, lt0⟩ := hQ1287
    have N1287 := Fr.app N0 N1287q
    have szn : h0.size ≤ nc := Nat.le_trans (Keep.refl h0 [a1, oc, od, co, cf, le, re, rc]).1 szc
    rw [(by decide : (0 : Int32) + (1 : Int32) = (1 : Int32))] at Oe1287
    have f1288 : Arv Z T1287.heap co k_co (.array .int) (3 : Int32) [(.ref nc), .null, .null] .null := Fco1287
    have f1289 : Arv Z T1287.heap cf k_cf (.array .double) (3 : Int32) [(.ref nd), .null, .null] .null := Fcf1287
    have f1290 : Arv Z T1287.heap le k_le .int 3 [(.int 0), (.int 0), (.int 0)] (.int 0) := Fle1287
    have f1291 := ((Keep.refl h0 [a1, oc, od, co, cf, le, re, rc]).trans K1287 (allS (Or.inl (List.mem_of_getElem? (i := 0) rfl)) (allS (Or.inl (List.mem_of_getElem? (i := 3) rfl)) (allS (Or.inl (List.mem_of_getElem? (i := 4) rfl)) (allS (Or.inl (List.mem_of_getElem? (i := 5) rfl)) all0)))))
    have f1292 := (V_oc.keep K1287 (by repeat' first | exact nin0 | refine ninS ?_ ?_ | (show (_ : Nat) ≠ _; omega)))
    have f1293 := (V_od.keep K1287 (by repeat' first | exact nin0 | refine ninS ?_ ?_ | (show (_ : Nat) ≠ _; omega)))
    have f1294 := (V_re.keep K1287 (by repeat' first | exact nin0 | refine ninS ?_ ?_ | (show (_ : Nat) ≠ _; omega)))
    have f1295 := (V_rc.keep K1287 (by repeat' first | exact nin0 | refine ninS ?_ ?_ | (show (_ : Nat) ≠ _; omega)))
    refine ⟨T1287, _, _, nc, nd, rc, kc, kd, kd, (0 : Int32), (0 : Int32), (0 : UInt64), (0 : UInt64), (X1287.more (by decide) (by decide)), rfl, N1287, f1291, Oe1287, f1292, f1293, f1288, f1289, f1290, f1294, f1295, (own_arv0 _ Fnc1287), (own_arv0 _ Fnd1287), (fun q => nomatch q), (by omega), lt0, (Or.inl rfl), (fun q => nomatch q), fun target kt => ?_⟩
    show own_S p e below m T0 315 LL [] _
    refine wdload X0 hx hby at_315 LL_9 ?_
    refine XS.dconst0 X0.here hx rfl (v := FP.dconst0) (hb hby at_317) rfl ?_
    refine XS.dcmpS X0.here hx rfl (v := (0 : Int32)) (hb hby at_318) rfl (own_v_eq hfa .l) ?_
    refine wifYes X0 hx hby at_319 319 330 rfl (by decide) (by decide) (by decide) ?_
    show own_S p e below m T0 330 LL [] _
    refine waload X0 hx hby at_330 LL_28 rfl ?_
    refine st1287.trans ?_
    exact kt
  · have Z1296 : n0 ≤ h0.size := Nat.le_trans Z0 (Keep.refl h0 [a1, oc, od, co, cf, le, re, rc]).1
    obtain ⟨cq1297, kq1297, q1297a, q1297b, q1297c⟩ := isOf hZ e0 O_a.1
    obtain ⟨_, _, ⟨T1297, L1297, k1297, n1297⟩, -, X1297, ⟨Lc1297, hQ1297, l1297, y1297, z1297⟩, st1297⟩ := X0.virtualBack hx (y := (⟨"com/example/odds2/odds2/engine/Elimination", "add", "(ID)V"⟩ : MethodName)) (z := (⟨"com/example/odds2/odds2/engine/Elimination", "add", "(ID)V"⟩ : MethodName)) hown (mvT hZ (hw _ tm77)) (mvT hZ (hw _ tm78)) (notFace_of_selects (args := #[]) (mvT hZ (hw _ tm80))) (mvT hZ (hw _ tm80)) (mvT hZ (hw _ tm79)) (by decide) (backOf (W := 0) (rm2a l Z a0 hw [] a1 oc od mc md sr sp sw ss co cf le re rc k_oc k_od (0 : Int32) (0 : Int64) (0 : Int64) (0 : Int32) (1 : Int32) va (0 : Int32) (0 : Int32) (0 : UInt64) (0 : UInt64) h0 n0 Z1296 O_a V_oc V_od ord g_a) hZ (hw _ tm81) (hw _ tm7) (by decide) (by decide)) q1297a q1297c (g := (mkF m 327 LL [(.double va), (.int 1), (.ref a1)])) rfl hsz (Steps.refl _) (argsL := [(.int 1), (.double va)]) (rest := []) (lenOf pd_10 rfl) rfl (by show 2 * 0 + _ ≤ _; exact Nat.le_of_eq rfl) (hb hby at_327) (fun _ _ => ⟨rfl, e0, (by decide : 16 + 0 ≤ _), (by decide : 188 + 0 ≤ _)⟩)
    dsimp only [Pt.U, Pt.locs, Pt.cells, Pt.slots] at X1297 l1297 y1297 z1297 st1297 hQ1297
    subst l1297 y1297 z1297
    obtain ⟨rfl, N1297q, K1297, Oa1297, Vc1297, Vd1297⟩ := hQ1297
    have N1297 := Fr.app N0 N1297q
    have lrc0 : (rc : Nat) < h0.size := V_rc.lt
    have f1298 := (V_co.keep K1297 (by repeat' first | exact nin0 | refine ninS ?_ ?_ | (show (_ : Nat) ≠ _; omega)))
    have f1299 := (V_cf.keep K1297 (by repeat' first | exact nin0 | refine ninS ?_ ?_ | (show (_ : Nat) ≠ _; omega)))
    have f1300 := (V_le.keep K1297 (by repeat' first | exact nin0 | refine ninS ?_ ?_ | (show (_ : Nat) ≠ _; omega)))
    have f1301 := (V_re.keep K1297 (by repeat' first | exact nin0 | refine ninS ?_ ?_ | (show (_ : Nat) ≠ _; omega)))
    have f1302 := (V_rc.keep K1297 (by repeat' first | exact nin0 | refine ninS ?_ ?_ | (show (_ : Nat) ≠ _; omega)))
    have f1304 := ((Keep.refl h0 [a1, oc, od, co, cf, le, re, rc]).trans K1297 (allS (Or.inl (List.mem_of_getElem? (i := 0) rfl)) (allS (Or.inl (List.mem_of_getElem? (i := 1) rfl)) (allS (Or.inl (List.mem_of_getElem? (i := 2) rfl)) all0))))
    have Z1303 : n0 ≤ T1297.heap.size := Nat.le_trans Z0 f1304.1
    obtain ⟨cq1305, kq1305, q1305a, q1305b, q1305c⟩ := isOf hZ rfl Oa1297.1
    obtain ⟨_, _, ⟨T1305, L1305, k1305, n1305⟩, -, X1305, ⟨Lc1305, hQ1305, l1305, y1305, z1305⟩, st1305⟩ := X1297.virtualBack hx (y := (⟨"com/example/odds2/odds2/engine/Elimination", "endRow", "()V"⟩ : MethodName)) (z := (⟨"com/example/odds2/odds2/engine/Elimination", "endRow", "()V"⟩ : MethodName)) hown (mvT hZ (hw _ tm47)) (mvT hZ (hw _ tm48)) (notFace_of_selects (args := #[]) (mvT hZ (hw _ tm50))) (mvT hZ (hw _ tm50)) (mvT hZ (hw _ tm49)) (by decide) (backOf (W := 0) (rmE1 l Z a0 hw [] a1 oc od mc md sr sp sw ss co cf le re rc k_co k_cf k_le k_oc k_od k_re k_rc (0 : Int32) (0 : Int64) (0 : Int64) (0 : Int32) [.null, .null, .null] [.null, .null, .null] [(.int 0), (.int 0), (.int 0)] (1 : Int32) (0 : Int32) (0 : UInt64) va [.null, .null, .null] [(.int 0), (.int 0), (.int 0)] T1297.heap n0 Z1303 Oa1297 f1298 f1299 f1300 Vc1297 Vd1297 f1301 f1302 OVc OVf rfl rfl rfl (by unfold own_3; decide) OV rfl rfl (by unfold own_3; decide) rfl rfl ord g_a) hZ (hw _ tm51) (hw _ tm7) (by decide) (by decide)) q1305a q1305c (g := (mkF m 332 LL [(.ref a1)])) rfl hsz (Steps.refl _) (argsL := []) (rest := []) (lenOf pd_9 rfl) rfl (by show 2 * 0 + _ ≤ _; exact Nat.le_of_eq rfl) (hb hby at_332) (fun _ _ => ⟨rfl, rfl, (by decide : 16 + 4 ≤ _), (by decide : 188 + 7 ≤ _)⟩)
    dsimp only [Pt.U, Pt.locs, Pt.cells, Pt.slots] at X1305 l1305 y1305 z1305 st1305 hQ1305
    subst l1305 y1305 z1305
    obtain ⟨nc, nd, nb0, kc, kd, kb0, rfl, N1305q, K1305, Oe1305, Fco1305, Fcf1305, Fle1305, Fre1305, Frc1305, Fnc1305, Fnd1305, Fnb01305, szc, lt0, lt1⟩ := hQ1305
    have N1305 := Fr.app N1297 N1305q
    have szn : h0.size ≤ nc := Nat.le_trans f1304.1 szc
    rw [(by decide : (0 : Int32) + (1 : Int32) = (1 : Int32))] at Oe1305
    have f1306 : Arv Z T1305.heap co k_co (.array .int) (3 : Int32) [(.ref nc), .null, .null] .null := Fco1305
    have f1307 : Arv Z T1305.heap cf k_cf (.array .double) (3 : Int32) [(.ref nd), .null, .null] .null := Fcf1305
    have f1308 : Arv Z T1305.heap le k_le .int 3 [(.int 1), (.int 0), (.int 0)] (.int 0) := Fle1305
    have f1309 : Arv Z T1305.heap rc k_rc .int 3 [(.int 0), (.int 1), (.int 0)] (.int 0) := Frc1305
    have f1310 : Arv Z T1305.heap re k_re (.array .int) (3 : Int32) [.null, (.ref nb0), .null] .null := Fre1305
    have f1311 := (f1304.trans K1305 (allS (Or.inl (List.mem_of_getElem? (i := 0) rfl)) (allS (Or.inl (List.mem_of_getElem? (i := 3) rfl)) (allS (Or.inl (List.mem_of_getElem? (i := 4) rfl)) (allS (Or.inl (List.mem_of_getElem? (i := 5) rfl)) (allS (Or.inl (List.mem_of_getElem? (i := 6) rfl)) (allS (Or.inl (List.mem_of_getElem? (i := 7) rfl)) all0)))))))
    have f1312 := (Vc1297.keep K1305 (by repeat' first | exact nin0 | refine ninS ?_ ?_ | (show (_ : Nat) ≠ _; omega)))
    have f1313 := (Vd1297.keep K1305 (by repeat' first | exact nin0 | refine ninS ?_ ?_ | (show (_ : Nat) ≠ _; omega)))
    refine ⟨T1305, _, _, nc, nd, nb0, kc, kd, kb0, (1 : Int32), (0 : Int32), va, (0 : UInt64), (X1305.more (by decide) (by decide)), rfl, N1305, f1311, Oe1305, f1312, f1313, f1306, f1307, f1308, f1310, f1309, (Fnc1305.pad (fun i => own_pad1 i)), (Fnd1305.pad (fun i => own_pad1 i)), (fun _ => Fnb01305), (by omega), lt0, (Or.inr ⟨lt1, Fnb01305.lt⟩), (fun _ => lt1), fun target kt => ?_⟩
    show own_S p e below m T0 315 LL [] _
    refine wdload X0 hx hby at_315 LL_9 ?_
    refine XS.dconst0 X0.here hx rfl (v := FP.dconst0) (hb hby at_317) rfl ?_
    refine XS.dcmpS X0.here hx rfl (v := (1 : Int32)) (hb hby at_318) rfl (own_v_gt hfa .l) ?_
    refine wifNo X0 hx hby at_319 (by decide) ?_
    show own_S p e below m T0 322 LL [] _
    refine waload X0 hx hby at_322 LL_28 rfl ?_
    refine wiconst X0 hx hby at_324 ?_
    refine wdload X0 hx hby at_325 LL_9 ?_
    refine st1297.trans ?_
    show own_S p e below m T1297 330 LL [] _
    refine waload X1297 hx hby at_330 LL_28 rfl ?_
    refine st1305.trans ?_
    exact kt
set_option maxRecDepth 65536 in
set_option maxHeartbeats 40000000 in
theorem rw1 {p : Program} {l : Launch} {e : Env} {s : State} {m : MethodId} {args : Array Value} {below : List Frame} {meth : Method} {c : Code} {T0 : State} {locs : List Loc} (Z : State) (a0 : Array Value) (hw : ∀ d ∈ tables_1, d.before a0 Z = true) (a1 oc od mc md sr sp sw ss co cf le re rc : Nat) (k_oc k_od k_co k_cf k_le k_re k_rc : ClassId) (en wk : Int64) (fc fd : Bool) (vc vd : UInt64) (ca da : Nat) (c0 c1 : Int32) (y0 y1 : UInt64) (l0 : Int32) (g1 : Value) (m1 : Int32) (LL : Array Slot) (h0 : Heap) (n0 : Nat) (X0 : Stand p l e room_1 s m args below meth c T0 locs 20 195) (hx : p.tables.exec = Jvm.exec) (hZ : Z.Warmed39 s.vm) (hby : c.code = code) (hml : c.maxLocals = 39) (hown : s.vm.findClass "com/example/odds2/odds2/engine/EliminationSolvePinLaw" = some m.cls) (e0 : T0.heap = h0) (N0 : Fr n0 locs) (Z0 : n0 ≤ h0.size) (LL_28 : LL[28]? = some (.val (.ref a1))) (LL_11 : LL[11]? = some (.val (.double vc))) (LL_17 : LL[17]? = some (.val (.double vd))) (hsz : LL.size = c.maxLocals) (O_a : own_E Z h0 a1 oc od mc md sr sp sw ss co cf le re rc (1 : Int32) en wk (0 : Int32) (0 : Int32)) (V_oc : Arv Z h0 oc k_oc .int 16 [(.int c0), (.int c1)] (.int 0)) (V_od : Arv Z h0 od k_od .double 16 [(.double y0), (.double y1)] (.double 0)) (V_co : Arv Z h0 co k_co (.array .int) (3 : Int32) [(.ref ca), .null, .null] .null) (V_cf : Arv Z h0 cf k_cf (.array .double) (3 : Int32) [(.ref da), .null, .null] .null) (V_le : Arv Z h0 le k_le .int 3 [(.int l0), (.int 0), (.int 0)] (.int 0)) (V_re : Arv Z h0 re k_re (.array .int) (3 : Int32) [.null, g1, .null] .null) (V_rc : Arv Z h0 rc k_rc .int 3 [(.int 0), (.int m1), (.int 0)] (.int 0)) (OVc : OvrA Z k_co .int "[I") (OVf : OvrA Z k_cf .double "[D") (OV : OvrA Z k_re .int "[I") (hfc : FP.dcmp vc FP.dconst0 = some (cond fc .gt .eq)) (hfd : FP.dcmp vd FP.dconst0 = some (cond fd .gt .eq)) (ord : own_ord a1 oc od mc md sr sp sw ss co cf le re rc) (g_a : n0 ≤ a1) :
    ∃ (T' : State) (h' : Heap) (L' : List Loc) (cb : Nat) (db : Nat) (b0 : Nat) (b2 : Nat) (kcb : ClassId) (kdb : ClassId) (kb0 : ClassId) (kb2 : ClassId) (c0' : Int32) (c1' : Int32) (y0' : UInt64) (y1' : UInt64) (g0 : Value) (g2 : Value), Stand p l e room_1 s m args below meth c T' L' 25 209 ∧ T'.heap = h' ∧ Fr n0 L' ∧ Keep h0 h' [a1, oc, od, co, cf, le, re, rc] ∧ own_E Z h' a1 oc od mc md sr sp sw ss co cf le re rc (2 : Int32) (en + (own_lb fc fd).toInt64) (wk + (own_lb fc fd).toInt64) (0 : Int32) (0 : Int32) ∧ Arv Z h' oc k_oc .int 16 [(.int c0'), (.int c1')] (.int 0) ∧ Arv Z h' od k_od .double 16 [(.double y0'), (.double y1')] (.double 0) ∧ Arv Z h' co k_co (.array .int) (3 : Int32) [(.ref ca), (.ref cb), .null] .null ∧ Arv Z h' cf k_cf (.array .double) (3 : Int32) [(.ref da), (.ref db), .null] .null ∧ Arv Z h' le k_le .int 3 [(.int l0), (.int (own_lb fc fd)), (.int 0)] (.int 0) ∧ Arv Z h' re k_re (.array .int) (3 : Int32) [g0, g1, g2] .null ∧ Arv Z h' rc k_rc .int 3 [(.int (own_i fc)), (.int m1), (.int (own_i fd))] (.int 0) ∧ Arv Z h' cb kcb .int (own_lb fc fd) (cond fc [(.int 0), (.int 2)] [(.int 2), (.int 0)]) (.int 0) ∧ Arv Z h' db kdb .double (own_lb fc fd) (cond fc [(.double vc), (.double vd)] [(.double vd), (.double 0)]) (.double 0) ∧ (fc = true → g0 = .ref b0) ∧ (fd = true → g2 = .ref b2) ∧ (fc = true → Arv Z h' b0 kb0 .int 4 [(.int 1), (.int 0), (.int 0), (.int 0)] (.int 0)) ∧ (fd = true → Arv Z h' b2 kb2 .int 4 [(.int 1), (.int 0), (.int 0), (.int 0)] (.int 0)) ∧ h0.size ≤ cb ∧ cb < db ∧ (fc = true → db < b0 ∧ b0 < h'.size) ∧ (fd = true → db < b2 ∧ b2 < h'.size) ∧ ∀ target, own_S p e below m T' 370 LL [] target → own_S p e below m T0 335 LL [] target := by
  have hl := own_laid_of hw
  obtain ⟨or0, or1, or2, or3, or4, or5, or6, or7, or8, or9, or10, or11, or12⟩ := id ord
  rcases fc with _ | _ <;> rcases fd with _ | _
  · have Z1314 : n0 ≤ h0.size := Nat.le_trans Z0 (Keep.refl h0 [a1, oc, od, co, cf, le, re, rc]).1
    obtain ⟨cq1315, kq1315, q1315a, q1315b, q1315c⟩ := isOf hZ e0 O_a.1
    obtain ⟨_, _, ⟨T1315, L1315, k1315, n1315⟩, -, X1315, ⟨Lc1315, hQ1315, l1315, y1315, z1315⟩, st1315⟩ := X0.virtualBack hx (y := (⟨"com/example/odds2/odds2/engine/Elimination", "endRow", "()V"⟩ : MethodName)) (z := (⟨"com/example/odds2/odds2/engine/Elimination", "endRow", "()V"⟩ : MethodName)) hown (mvT hZ (hw _ tm47)) (mvT hZ (hw _ tm48)) (notFace_of_selects (args := #[]) (mvT hZ (hw _ tm50))) (mvT hZ (hw _ tm50)) (mvT hZ (hw _ tm49)) (by decide) (backOf (W := 0) (rmE0 l Z a0 hw [] a1 oc od mc md sr sp sw ss co cf le re rc k_co k_cf k_le (1 : Int32) en wk (0 : Int32) [(.ref ca), .null, .null] [(.ref da), .null, .null] [(.int l0), (.int 0), (.int 0)] h0 n0 Z1314 O_a V_co V_cf V_le OVc OVf rfl rfl rfl (by unfold own_3; decide) ord g_a) hZ (hw _ tm51) (hw _ tm7) (by decide) (by decide)) q1315a q1315c (g := (mkF m 367 LL [(.ref a1)])) rfl hsz (Steps.refl _) (argsL := []) (rest := []) (lenOf pd_9 rfl) rfl (by show 2 * 0 + _ ≤ _; exact Nat.le_of_eq rfl) (hb hby at_367) (fun _ _ => ⟨rfl, e0, (by decide : 20 + 3 ≤ _), (by decide : 195 + 0 ≤ _)⟩)
    dsimp only [Pt.U, Pt.locs, Pt.cells, Pt.slots] at X1315 l1315 y1315 z1315 st1315 hQ1315
    subst l1315 y1315 z1315
    obtain ⟨nc, nd, kc, kd, rfl, N1315q, K1315, Oe1315, Fco1315, Fcf1315, Fle1315, Fnc1315, Fnd1315, szc, lt0⟩ := hQ1315
    have N1315 := Fr.app N0 N1315q
    have szn : h0.size ≤ nc := Nat.le_trans (Keep.refl h0 [a1, oc, od, co, cf, le, re, rc]).1 szc
    rw [(by decide : (1 : Int32) + (1 : Int32) = (2 : Int32))] at Oe1315
    have f1316 : Arv Z T1315.heap co k_co (.array .int) (3 : Int32) [(.ref ca), (.ref nc), .null] .null := Fco1315
    have f1317 : Arv Z T1315.heap cf k_cf (.array .double) (3 : Int32) [(.ref da), (.ref nd), .null] .null := Fcf1315
    have f1318 : Arv Z T1315.heap le k_le .int 3 [(.int l0), (.int 0), (.int 0)] (.int 0) := Fle1315
    have f1319 := ((Keep.refl h0 [a1, oc, od, co, cf, le, re, rc]).trans K1315 (allS (Or.inl (List.mem_of_getElem? (i := 0) rfl)) (allS (Or.inl (List.mem_of_getElem? (i := 3) rfl)) (allS (Or.inl (List.mem_of_getElem? (i := 4) rfl)) (allS (Or.inl (List.mem_of_getElem? (i := 5) rfl)) all0)))))
    have f1320 := (V_oc.keep K1315 (by repeat' first | exact nin0 | refine ninS ?_ ?_ | (show (_ : Nat) ≠ _; omega)))
    have f1321 := (V_od.keep K1315 (by repeat' first | exact nin0 | refine ninS ?_ ?_ | (show (_ : Nat) ≠ _; omega)))
    have f1322 := (V_re.keep K1315 (by repeat' first | exact nin0 | refine ninS ?_ ?_ | (show (_ : Nat) ≠ _; omega)))
    have f1323 := (V_rc.keep K1315 (by repeat' first | exact nin0 | refine ninS ?_ ?_ | (show (_ : Nat) ≠ _; omega)))
    refine ⟨T1315, _, _, nc, nd, rc, rc, kc, kd, kd, kd, c0, c1, y0, y1, .null, .null, (X1315.more (by decide) (by decide)), rfl, N1315, f1319, Oe1315, f1320, f1321, f1316, f1317, f1318, f1322, f1323, (own_arv0 _ Fnc1315), (own_arv0 _ Fnd1315), (fun q => nomatch q), (fun q => nomatch q), (fun q => nomatch q), (fun q => nomatch q), szn, lt0, (fun q => nomatch q), (fun q => nomatch q), fun target kt => ?_⟩
    show own_S p e below m T0 335 LL [] _
    refine wdload X0 hx hby at_335 LL_11 ?_
    refine XS.dconst0 X0.here hx rfl (v := FP.dconst0) (hb hby at_337) rfl ?_
    refine XS.dcmpS X0.here hx rfl (v := (0 : Int32)) (hb hby at_338) rfl (own_v_eq hfc .l) ?_
    refine wifYes X0 hx hby at_339 339 350 rfl (by decide) (by decide) (by decide) ?_
    show own_S p e below m T0 350 LL [] _
    refine wdload X0 hx hby at_350 LL_17 ?_
    refine XS.dconst0 X0.here hx rfl (v := FP.dconst0) (hb hby at_352) rfl ?_
    refine XS.dcmpS X0.here hx rfl (v := (0 : Int32)) (hb hby at_353) rfl (own_v_eq hfd .l) ?_
    refine wifYes X0 hx hby at_354 354 365 rfl (by decide) (by decide) (by decide) ?_
    show own_S p e below m T0 365 LL [] _
    refine waload X0 hx hby at_365 LL_28 rfl ?_
    refine st1315.trans ?_
    exact kt
  · have Z1324 : n0 ≤ h0.size := Nat.le_trans Z0 (Keep.refl h0 [a1, oc, od, co, cf, le, re, rc]).1
    obtain ⟨cq1325, kq1325, q1325a, q1325b, q1325c⟩ := isOf hZ e0 O_a.1
    obtain ⟨_, _, ⟨T1325, L1325, k1325, n1325⟩, -, X1325, ⟨Lc1325, hQ1325, l1325, y1325, z1325⟩, st1325⟩ := X0.virtualBack hx (y := (⟨"com/example/odds2/odds2/engine/Elimination", "add", "(ID)V"⟩ : MethodName)) (z := (⟨"com/example/odds2/odds2/engine/Elimination", "add", "(ID)V"⟩ : MethodName)) hown (mvT hZ (hw _ tm77)) (mvT hZ (hw _ tm78)) (notFace_of_selects (args := #[]) (mvT hZ (hw _ tm80))) (mvT hZ (hw _ tm80)) (mvT hZ (hw _ tm79)) (by decide) (backOf (W := 0) (rm2a l Z a0 hw [] a1 oc od mc md sr sp sw ss co cf le re rc k_oc k_od (1 : Int32) en wk (0 : Int32) (2 : Int32) vd c0 c1 y0 y1 h0 n0 Z1324 O_a V_oc V_od ord g_a) hZ (hw _ tm81) (hw _ tm7) (by decide) (by decide)) q1325a q1325c (g := (mkF m 362 LL [(.double vd), (.int 2), (.ref a1)])) rfl hsz (Steps.refl _) (argsL := [(.int 2), (.double vd)]) (rest := []) (lenOf pd_10 rfl) rfl (by show 2 * 0 + _ ≤ _; exact Nat.le_of_eq rfl) (hb hby at_362) (fun _ _ => ⟨rfl, e0, (by decide : 20 + 0 ≤ _), (by decide : 195 + 0 ≤ _)⟩)
    dsimp only [Pt.U, Pt.locs, Pt.cells, Pt.slots] at X1325 l1325 y1325 z1325 st1325 hQ1325
    subst l1325 y1325 z1325
    obtain ⟨rfl, N1325q, K1325, Oa1325, Vc1325, Vd1325⟩ := hQ1325
    have N1325 := Fr.app N0 N1325q
    have f1326 := (V_co.keep K1325 (by repeat' first | exact nin0 | refine ninS ?_ ?_ | (show (_ : Nat) ≠ _; omega)))
    have f1327 := (V_cf.keep K1325 (by repeat' first | exact nin0 | refine ninS ?_ ?_ | (show (_ : Nat) ≠ _; omega)))
    have f1328 := (V_le.keep K1325 (by repeat' first | exact nin0 | refine ninS ?_ ?_ | (show (_ : Nat) ≠ _; omega)))
    have f1329 := (V_re.keep K1325 (by repeat' first | exact nin0 | refine ninS ?_ ?_ | (show (_ : Nat) ≠ _; omega)))
    have f1330 := (V_rc.keep K1325 (by repeat' first | exact nin0 | refine ninS ?_ ?_ | (show (_ : Nat) ≠ _; omega)))
    have f1332 := ((Keep.refl h0 [a1, oc, od, co, cf, le, re, rc]).trans K1325 (allS (Or.inl (List.mem_of_getElem? (i := 0) rfl)) (allS (Or.inl (List.mem_of_getElem? (i := 1) rfl)) (allS (Or.inl (List.mem_of_getElem? (i := 2) rfl)) all0))))
    have Z1331 : n0 ≤ T1325.heap.size := Nat.le_trans Z0 f1332.1
    obtain ⟨cq1333, kq1333, q1333a, q1333b, q1333c⟩ := isOf hZ rfl Oa1325.1
    obtain ⟨_, _, ⟨T1333, L1333, k1333, n1333⟩, -, X1333, ⟨Lc1333, hQ1333, l1333, y1333, z1333⟩, st1333⟩ := X1325.virtualBack hx (y := (⟨"com/example/odds2/odds2/engine/Elimination", "endRow", "()V"⟩ : MethodName)) (z := (⟨"com/example/odds2/odds2/engine/Elimination", "endRow", "()V"⟩ : MethodName)) hown (mvT hZ (hw _ tm47)) (mvT hZ (hw _ tm48)) (notFace_of_selects (args := #[]) (mvT hZ (hw _ tm50))) (mvT hZ (hw _ tm50)) (mvT hZ (hw _ tm49)) (by decide) (backOf (W := 0) (rmE1 l Z a0 hw [] a1 oc od mc md sr sp sw ss co cf le re rc k_co k_cf k_le k_oc k_od k_re k_rc (1 : Int32) en wk (0 : Int32) [(.ref ca), .null, .null] [(.ref da), .null, .null] [(.int l0), (.int 0), (.int 0)] (2 : Int32) c1 y1 vd [.null, g1, .null] [(.int 0), (.int m1), (.int 0)] T1325.heap n0 Z1331 Oa1325 f1326 f1327 f1328 Vc1325 Vd1325 f1329 f1330 OVc OVf rfl rfl rfl (by unfold own_3; decide) OV rfl rfl (by unfold own_3; decide) rfl rfl ord g_a) hZ (hw _ tm51) (hw _ tm7) (by decide) (by decide)) q1333a q1333c (g := (mkF m 367 LL [(.ref a1)])) rfl hsz (Steps.refl _) (argsL := []) (rest := []) (lenOf pd_9 rfl) rfl (by show 2 * 0 + _ ≤ _; exact Nat.le_of_eq rfl) (hb hby at_367) (fun _ _ => ⟨rfl, rfl, (by decide : 20 + 4 ≤ _), (by decide : 195 + 7 ≤ _)⟩)
    dsimp only [Pt.U, Pt.locs, Pt.cells, Pt.slots] at X1333 l1333 y1333 z1333 st1333 hQ1333
    subst l1333 y1333 z1333
    obtain ⟨nc, nd, nb0, kc, kd, kb0, rfl, N1333q, K1333, Oe1333, Fco1333, Fcf1333, Fle1333, Fre1333, Frc1333, Fnc1333, Fnd1333, Fnb01333, szc, lt0, lt1⟩ := hQ1333
    have N1333 := Fr.app N1325 N1333q
    have szn : h0.size ≤ nc := Nat.le_trans f1332.1 szc
    rw [(by decide : (1 : Int32) + (1 : Int32) = (2 : Int32))] at Oe1333
    have f1334 : Arv Z T1333.heap co k_co (.array .int) (3 : Int32) [(.ref ca), (.ref nc), .null] .null := Fco1333
    have f1335 : Arv Z T1333.heap cf k_cf (.array .double) (3 : Int32) [(.ref da), (.ref nd), .null] .null := Fcf1333
    have f1336 : Arv Z T1333.heap le k_le .int 3 [(.int l0), (.int 1), (.int 0)] (.int 0) := Fle1333
    have f1337 : Arv Z T1333.heap rc k_rc .int 3 [(.int 0), (.int m1), (.int 1)] (.int 0) := Frc1333
    have f1338 : Arv Z T1333.heap re k_re (.array .int) (3 : Int32) [.null, g1, (.ref nb0)] .null := Fre1333
    have f1339 := (f1332.trans K1333 (allS (Or.inl (List.mem_of_getElem? (i := 0) rfl)) (allS (Or.inl (List.mem_of_getElem? (i := 3) rfl)) (allS (Or.inl (List.mem_of_getElem? (i := 4) rfl)) (allS (Or.inl (List.mem_of_getElem? (i := 5) rfl)) (allS (Or.inl (List.mem_of_getElem? (i := 6) rfl)) (allS (Or.inl (List.mem_of_getElem? (i := 7) rfl)) all0)))))))
    have f1340 := (Vc1325.keep K1333 (by repeat' first | exact nin0 | refine ninS ?_ ?_ | (show (_ : Nat) ≠ _; omega)))
    have f1341 := (Vd1325.keep K1333 (by repeat' first | exact nin0 | refine ninS ?_ ?_ | (show (_ : Nat) ≠ _; omega)))
    refine ⟨T1333, _, _, nc, nd, rc, nb0, kc, kd, kd, kb0, (2 : Int32), c1, vd, y1, .null, (.ref nb0), (X1333.more (by decide) (by decide)), rfl, N1333, f1339, Oe1333, f1340, f1341, f1334, f1335, f1336, f1338, f1337, (Fnc1333.pad (fun i => own_pad1 i)), (Fnd1333.pad (fun i => own_pad1 i)), (fun q => nomatch q), (fun _ => rfl), (fun q => nomatch q), (fun _ => Fnb01333), szn, lt0, (fun q => nomatch q), (fun _ => ⟨by omega, Fnb01333.lt⟩), fun target kt => ?_⟩
    show own_S p e below m T0 335 LL [] _
    refine wdload X0 hx hby at_335 LL_11 ?_
    refine XS.dconst0 X0.here hx rfl (v := FP.dconst0) (hb hby at_337) rfl ?_
    refine XS.dcmpS X0.here hx rfl (v := (0 : Int32)) (hb hby at_338) rfl (own_v_eq hfc .l) ?_
    refine wifYes X0 hx hby at_339 339 350 rfl (by decide) (by decide) (by decide) ?_
    show own_S p e below m T0 350 LL [] _
    refine wdload X0 hx hby at_350 LL_17 ?_
    refine XS.dconst0 X0.here hx rfl (v := FP.dconst0) (hb hby at_352) rfl ?_
    refine XS.dcmpS X0.here hx rfl (v := (1 : Int32)) (hb hby at_353) rfl (own_v_gt hfd .l) ?_
    refine wifNo X0 hx hby at_354 (by decide) ?_
    show own_S p e below m T0 357 LL [] _
    refine waload X0 hx hby at_357 LL_28 rfl ?_
    refine wiconst X0 hx hby at_359 ?_
    refine wdload X0 hx hby at_360 LL_17 ?_
    refine st1325.trans ?_
    show own_S p e below m T1325 365 LL [] _
    refine waload X1325 hx hby at_365 LL_28 rfl ?_
    refine st1333.trans ?_
    exact kt
  · have Z1342 : n0 ≤ h0.size := Nat.le_trans Z0 (Keep.refl h0 [a1, oc, od, co, cf, le, re, rc]).1
    obtain ⟨cq1343, kq1343, q1343a, q1343b, q1343c⟩ := isOf hZ e0 O_a.1
    obtain ⟨_, _, ⟨T1343, L1343, k1343, n1343⟩, -, X1343, ⟨Lc1343, hQ1343, l1343, y1343, z1343⟩, st1343⟩ := X0.virtualBack hx (y := (⟨"com/example/odds2/odds2/engine/Elimination", "add", "(ID)V"⟩ : MethodName)) (z := (⟨"com/example/odds2/odds2/engine/Elimination", "add", "(ID)V"⟩ : MethodName)) hown (mvT hZ (hw _ tm77)) (mvT hZ (hw _ tm78)) (notFace_of_selects (args := #[]) (mvT hZ (hw _ tm80))) (mvT hZ (hw _ tm80)) (mvT hZ (hw _ tm79)) (by decide) (backOf (W := 0) (rm2a l Z a0 hw [] a1 oc od mc md sr sp sw ss co cf le re rc k_oc k_od (1 : Int32) en wk (0 : Int32) (0 : Int32) vc c0 c1 y0 y1 h0 n0 Z1342 O_a V_oc V_od ord g_a) hZ (hw _ tm81) (hw _ tm7) (by decide) (by decide)) q1343a q1343c (g := (mkF m 347 LL [(.double vc), (.int 0), (.ref a1)])) rfl hsz (Steps.refl _) (argsL := [(.int 0), (.double vc)]) (rest := []) (lenOf pd_10 rfl) rfl (by show 2 * 0 + _ ≤ _; exact Nat.le_of_eq rfl) (hb hby at_347) (fun _ _ => ⟨rfl, e0, (by decide : 20 + 0 ≤ _), (by decide : 195 + 0 ≤ _)⟩)
    dsimp only [Pt.U, Pt.locs, Pt.cells, Pt.slots] at X1343 l1343 y1343 z1343 st1343 hQ1343
    subst l1343 y1343 z1343
    obtain ⟨rfl, N1343q, K1343, Oa1343, Vc1343, Vd1343⟩ := hQ1343
    have N1343 := Fr.app N0 N1343q
    have f1344 := (V_co.keep K1343 (by repeat' first | exact nin0 | refine ninS ?_ ?_ | (show (_ : Nat) ≠ _; omega)))
    have f1345 := (V_cf.keep K1343 (by repeat' first | exact nin0 | refine ninS ?_ ?_ | (show (_ : Nat) ≠ _; omega)))
    have f1346 := (V_le.keep K1343 (by repeat' first | exact nin0 | refine ninS ?_ ?_ | (show (_ : Nat) ≠ _; omega)))
    have f1347 := (V_re.keep K1343 (by repeat' first | exact nin0 | refine ninS ?_ ?_ | (show (_ : Nat) ≠ _; omega)))
    have f1348 := (V_rc.keep K1343 (by repeat' first | exact nin0 | refine ninS ?_ ?_ | (show (_ : Nat) ≠ _; omega)))
    have f1350 := ((Keep.refl h0 [a1, oc, od, co, cf, le, re, rc]).trans K1343 (allS (Or.inl (List.mem_of_getElem? (i := 0) rfl)) (allS (Or.inl (List.mem_of_getElem? (i := 1) rfl)) (allS (Or.inl (List.mem_of_getElem? (i := 2) rfl)) all0))))
    have Z1349 : n0 ≤ T1343.heap.size := Nat.le_trans Z0 f1350.1
    obtain ⟨cq1351, kq1351, q1351a, q1351b, q1351c⟩ := isOf hZ rfl Oa1343.1
    obtain ⟨_, _, ⟨T1351, L1351, k1351, n1351⟩, -, X1351, ⟨Lc1351, hQ1351, l1351, y1351, z1351⟩, st1351⟩ := X1343.virtualBack hx (y := (⟨"com/example/odds2/odds2/engine/Elimination", "endRow", "()V"⟩ : MethodName)) (z := (⟨"com/example/odds2/odds2/engine/Elimination", "endRow", "()V"⟩ : MethodName)) hown (mvT hZ (hw _ tm47)) (mvT hZ (hw _ tm48)) (notFace_of_selects (args := #[]) (mvT hZ (hw _ tm50))) (mvT hZ (hw _ tm50)) (mvT hZ (hw _ tm49)) (by decide) (backOf (W := 0) (rmE1 l Z a0 hw [] a1 oc od mc md sr sp sw ss co cf le re rc k_co k_cf k_le k_oc k_od k_re k_rc (1 : Int32) en wk (0 : Int32) [(.ref ca), .null, .null] [(.ref da), .null, .null] [(.int l0), (.int 0), (.int 0)] (0 : Int32) c1 y1 vc [.null, g1, .null] [(.int 0), (.int m1), (.int 0)] T1343.heap n0 Z1349 Oa1343 f1344 f1345 f1346 Vc1343 Vd1343 f1347 f1348 OVc OVf rfl rfl rfl (by unfold own_3; decide) OV rfl rfl (by unfold own_3; decide) rfl rfl ord g_a) hZ (hw _ tm51) (hw _ tm7) (by decide) (by decide)) q1351a q1351c (g := (mkF m 367 LL [(.ref a1)])) rfl hsz (Steps.refl _) (argsL := []) (rest := []) (lenOf pd_9 rfl) rfl (by show 2 * 0 + _ ≤ _; exact Nat.le_of_eq rfl) (hb hby at_367) (fun _ _ => ⟨rfl, rfl, (by decide : 20 + 4 ≤ _), (by decide : 195 + 7 ≤ _)⟩)
    dsimp only [Pt.U, Pt.locs, Pt.cells, Pt.slots] at X1351 l1351 y1351 z1351 st1351 hQ1351
    subst l1351 y1351 z1351
    obtain ⟨nc, nd, nb0, kc, kd, kb0, rfl, N1351q, K1351, Oe1351, Fco1351, Fcf1351, Fle1351, Fre1351, Frc1351, Fnc1351, Fnd1351, Fnb01351, szc, lt0, lt1⟩ := hQ1351
    have N1351 := Fr.app N1343 N1351q
    have szn : h0.size ≤ nc := Nat.le_trans f1350.1 szc
    rw [(by decide : (1 : Int32) + (1 : Int32) = (2 : Int32))] at Oe1351
    have f1352 : Arv Z T1351.heap co k_co (.array .int) (3 : Int32) [(.ref ca), (.ref nc), .null] .null := Fco1351
    have f1353 : Arv Z T1351.heap cf k_cf (.array .double) (3 : Int32) [(.ref da), (.ref nd), .null] .null := Fcf1351
    have f1354 : Arv Z T1351.heap le k_le .int 3 [(.int l0), (.int 1), (.int 0)] (.int 0) := Fle1351
    have f1355 : Arv Z T1351.heap rc k_rc .int 3 [(.int 1), (.int m1), (.int 0)] (.int 0) := Frc1351
    have f1356 : Arv Z T1351.heap re k_re (.array .int) (3 : Int32) [(.ref nb0), g1, .null] .null := Fre1351
    have f1357 := (f1350.trans K1351 (allS (Or.inl (List.mem_of_getElem? (i := 0) rfl)) (allS (Or.inl (List.mem_of_getElem? (i := 3) rfl)) (allS (Or.inl (List.mem_of_getElem? (i := 4) rfl)) (allS (Or.inl (List.mem_of_getElem? (i := 5) rfl)) (allS (Or.inl (List.mem_of_getElem? (i := 6) rfl)) (allS (Or.inl (List.mem_of_getElem? (i := 7) rfl)) all0)))))))
    have f1358 := (Vc1343.keep K1351 (by repeat' first | exact nin0 | refine ninS ?_ ?_ | (show (_ : Nat) ≠ _; omega)))
    have f1359 := (Vd1343.keep K1351 (by repeat' first | exact nin0 | refine ninS ?_ ?_ | (show (_ : Nat) ≠ _; omega)))
    refine ⟨T1351, _, _, nc, nd, nb0, rc, kc, kd, kb0, kd, (0 : Int32), c1, vc, y1, (.ref nb0), .null, (X1351.more (by decide) (by decide)), rfl, N1351, f1357, Oe1351, f1358, f1359, f1352, f1353, f1354, f1356, f1355, (own_arv1 _ Fnc1351), (own_arv1 _ Fnd1351), (fun _ => rfl), (fun q => nomatch q), (fun _ => Fnb01351), (fun q => nomatch q), szn, lt0, (fun _ => ⟨by omega, Fnb01351.lt⟩), (fun q => nomatch q), fun target kt => ?_⟩
    show own_S p e below m T0 335 LL [] _
    refine wdload X0 hx hby at_335 LL_11 ?_
    refine XS.dconst0 X0.here hx rfl (v := FP.dconst0) (hb hby at_337) rfl ?_
    refine XS.dcmpS X0.here hx rfl (v := (1 : Int32)) (hb hby at_338) rfl (own_v_gt hfc .l) ?_
    refine wifNo X0 hx hby at_339 (by decide) ?_
    show own_S p e below m T0 342 LL [] _
    refine waload X0 hx hby at_342 LL_28 rfl ?_
    refine wiconst X0 hx hby at_344 ?_
    refine wdload X0 hx hby at_345 LL_11 ?_
    refine st1343.trans ?_
    show own_S p e below m T1343 350 LL [] _
    refine wdload X1343 hx hby at_350 LL_17 ?_
    refine XS.dconst0 X1343.here hx rfl (v := FP.dconst0) (hb hby at_352) rfl ?_
    refine XS.dcmpS X1343.here hx rfl (v := (0 : Int32)) (hb hby at_353) rfl (own_v_eq hfd .l) ?_
    refine wifYes X1343 hx hby at_354 354 365 rfl (by decide) (by decide) (by decide) ?_
    show own_S p e below m T1343 365 LL [] _
    refine waload X1343 hx hby at_365 LL_28 rfl ?_
    refine st1351.trans ?_
    exact kt
  · have Z1360 : n0 ≤ h0.size := Nat.le_trans Z0 (Keep.refl h0 [a1, oc, od, co, cf, le, re, rc]).1
    obtain ⟨cq1361, kq1361, q1361a, q1361b, q1361c⟩ := isOf hZ e0 O_a.1
    obtain ⟨_, _, ⟨T1361, L1361, k1361, n1361⟩, -, X1361, ⟨Lc1361, hQ1361, l1361, y1361, z1361⟩, st1361⟩ := X0.virtualBack hx (y := (⟨"com/example/odds2/odds2/engine/Elimination", "add", "(ID)V"⟩ : MethodName)) (z := (⟨"com/example/odds2/odds2/engine/Elimination", "add", "(ID)V"⟩ : MethodName)) hown (mvT hZ (hw _ tm77)) (mvT hZ (hw _ tm78)) (notFace_of_selects (args := #[]) (mvT hZ (hw _ tm80))) (mvT hZ (hw _ tm80)) (mvT hZ (hw _ tm79)) (by decide) (backOf (W := 0) (rm2a l Z a0 hw [] a1 oc od mc md sr sp sw ss co cf le re rc k_oc k_od (1 : Int32) en wk (0 : Int32) (0 : Int32) vc c0 c1 y0 y1 h0 n0 Z1360 O_a V_oc V_od ord g_a) hZ (hw _ tm81) (hw _ tm7) (by decide) (by decide)) q1361a q1361c (g := (mkF m 347 LL [(.double vc), (.int 0), (.ref a1)])) rfl hsz (Steps.refl _) (argsL := [(.int 0), (.double vc)]) (rest := []) (lenOf pd_10 rfl) rfl (by show 2 * 0 + _ ≤ _; exact Nat.le_of_eq rfl) (hb hby at_347) (fun _ _ => ⟨rfl, e0, (by decide : 20 + 0 ≤ _), (by decide : 195 + 0 ≤ _)⟩)
    dsimp only [Pt.U, Pt.locs, Pt.cells, Pt.slots] at X1361 l1361 y1361 z1361 st1361 hQ1361
    subst l1361 y1361 z1361
    obtain ⟨rfl, N1361q, K1361, Oa1361, Vc1361, Vd1361⟩ := hQ1361
    have N1361 := Fr.app N0 N1361q
    have f1363 := ((Keep.refl h0 [a1, oc, od, co, cf, le, re, rc]).trans K1361 (allS (Or.inl (List.mem_of_getElem? (i := 0) rfl)) (allS (Or.inl (List.mem_of_getElem? (i := 1) rfl)) (allS (Or.inl (List.mem_of_getElem? (i := 2) rfl)) all0))))
    have Z1362 : n0 ≤ T1361.heap.size := Nat.le_trans Z0 f1363.1
    obtain ⟨cq1364, kq1364, q1364a, q1364b, q1364c⟩ := isOf hZ rfl Oa1361.1
    obtain ⟨_, _, ⟨T1364, L1364, k1364, n1364⟩, -, X1364, ⟨Lc1364, hQ1364, l1364, y1364, z1364⟩, st1364⟩ := X1361.virtualBack hx (y := (⟨"com/example/odds2/odds2/engine/Elimination", "add", "(ID)V"⟩ : MethodName)) (z := (⟨"com/example/odds2/odds2/engine/Elimination", "add", "(ID)V"⟩ : MethodName)) hown (mvT hZ (hw _ tm77)) (mvT hZ (hw _ tm78)) (notFace_of_selects (args := #[]) (mvT hZ (hw _ tm80))) (mvT hZ (hw _ tm80)) (mvT hZ (hw _ tm79)) (by decide) (backOf (W := 0) (rm2b l Z a0 hw [] a1 oc od mc md sr sp sw ss co cf le re rc k_oc k_od (1 : Int32) en wk (0 : Int32) (2 : Int32) vd (0 : Int32) c1 vc y1 T1361.heap n0 Z1362 Oa1361 Vc1361 Vd1361 ord g_a) hZ (hw _ tm81) (hw _ tm7) (by decide) (by decide)) q1364a q1364c (g := (mkF m 362 LL [(.double vd), (.int 2), (.ref a1)])) rfl hsz (Steps.refl _) (argsL := [(.int 2), (.double vd)]) (rest := []) (lenOf pd_10 rfl) rfl (by show 2 * 0 + _ ≤ _; exact Nat.le_of_eq rfl) (hb hby at_362) (fun _ _ => ⟨rfl, rfl, (by decide : 20 + 0 ≤ _), (by decide : 195 + 0 ≤ _)⟩)
    dsimp only [Pt.U, Pt.locs, Pt.cells, Pt.slots] at X1364 l1364 y1364 z1364 st1364 hQ1364
    subst l1364 y1364 z1364
    obtain ⟨rfl, N1364q, K1364, Oa1364, Vc1364, Vd1364⟩ := hQ1364
    have N1364 := Fr.app N1361 N1364q
    have f1365 := ((V_co.keep K1361 (by repeat' first | exact nin0 | refine ninS ?_ ?_ | (show (_ : Nat) ≠ _; omega))).keep K1364 (by repeat' first | exact nin0 | refine ninS ?_ ?_ | (show (_ : Nat) ≠ _; omega)))
    have f1366 := ((V_cf.keep K1361 (by repeat' first | exact nin0 | refine ninS ?_ ?_ | (show (_ : Nat) ≠ _; omega))).keep K1364 (by repeat' first | exact nin0 | refine ninS ?_ ?_ | (show (_ : Nat) ≠ _; omega)))
    have f1367 := ((V_le.keep K1361 (by repeat' first | exact nin0 | refine ninS ?_ ?_ | (show (_ : Nat) ≠ _; omega))).keep K1364 (by repeat' first | exact nin0 | refine ninS ?_ ?_ | (show (_ : Nat) ≠ _; omega)))
    have f1368 := ((V_re.keep K1361 (by repeat' first | exact nin0 | refine ninS ?_ ?_ | (show (_ : Nat) ≠ _; omega))).keep K1364 (by repeat' first | exact nin0 | refine ninS ?_ ?_ | (show (_ : Nat) ≠ _; omega)))
    have f1369 := ((V_rc.keep K1361 (by repeat' first | exact nin0 | refine ninS ?_ ?_ | (show (_ : Nat) ≠ _; omega))).keep K1364 (by repeat' first | exact nin0 | refine ninS ?_ ?_ | (show (_ : Nat) ≠ _; omega)))
    have f1371 := (f1363.trans K1364 (allS (Or.inl (List.mem_of_getElem? (i := 0) rfl)) (allS (Or.inl (List.mem_of_getElem? (i := 1) rfl)) (allS (Or.inl (List.mem_of_getElem? (i := 2) rfl)) all0))))
    have Z1370 : n0 ≤ T1364.heap.size := Nat.le_trans Z0 f1371.1
    obtain ⟨cq1372, kq1372, q1372a, q1372b, q1372c⟩ := isOf hZ rfl Oa1364.1
    obtain ⟨_, _, ⟨T1372, L1372, k1372, n1372⟩, -, X1372, ⟨Lc1372, hQ1372, l1372, y1372, z1372⟩, st1372⟩ := X1364.virtualBack hx (y := (⟨"com/example/odds2/odds2/engine/Elimination", "endRow", "()V"⟩ : MethodName)) (z := (⟨"com/example/odds2/odds2/engine/Elimination", "endRow", "()V"⟩ : MethodName)) hown (mvT hZ (hw _ tm47)) (mvT hZ (hw _ tm48)) (notFace_of_selects (args := #[]) (mvT hZ (hw _ tm50))) (mvT hZ (hw _ tm50)) (mvT hZ (hw _ tm49)) (by decide) (backOf (W := 0) (rmE2 l Z a0 hw [] a1 oc od mc md sr sp sw ss co cf le re rc k_co k_cf k_le k_oc k_od k_re k_rc en wk (0 : Int32) [(.ref ca), .null, .null] [(.ref da), .null, .null] [(.int l0), (.int 0), (.int 0)] vc vd [.null, g1, .null] [(.int 0), (.int m1), (.int 0)] T1364.heap n0 Z1370 Oa1364 f1365 f1366 f1367 Vc1364 Vd1364 f1368 f1369 OVc OVf rfl rfl rfl OV rfl rfl rfl rfl rfl rfl ord g_a) hZ (hw _ tm51) (hw _ tm7) (by decide) (by decide)) q1372a q1372c (g := (mkF m 367 LL [(.ref a1)])) rfl hsz (Steps.refl _) (argsL := []) (rest := []) (lenOf pd_9 rfl) rfl (by show 2 * 0 + _ ≤ _; exact Nat.le_of_eq rfl) (hb hby at_367) (fun _ _ => ⟨rfl, rfl, (by decide : 20 + 5 ≤ _), (by decide : 195 + 14 ≤ _)⟩)
    dsimp only [Pt.U, Pt.locs, Pt.cells, Pt.slots] at X1372 l1372 y1372 z1372 st1372 hQ1372
    subst l1372 y1372 z1372
    obtain ⟨nc, nd, nb0, nb1, kc, kd, kb0, kb1, rfl, N1372q, K1372, Oe1372, Fco1372, Fcf1372, Fle1372, Fre1372, Frc1372, Fnc1372, Fnd1372, Fnb01372, Fnb11372, szc, lt0, lt1, lt2⟩ := hQ1372
    have N1372 := Fr.app N1364 N1372q
    have szn : h0.size ≤ nc := Nat.le_trans f1371.1 szc
    rw [(by decide : (1 : Int32) + (1 : Int32) = (2 : Int32))] at Oe1372
    have f1373 : Arv Z T1372.heap co k_co (.array .int) (3 : Int32) [(.ref ca), (.ref nc), .null] .null := Fco1372
    have f1374 : Arv Z T1372.heap cf k_cf (.array .double) (3 : Int32) [(.ref da), (.ref nd), .null] .null := Fcf1372
    have f1375 : Arv Z T1372.heap le k_le .int 3 [(.int l0), (.int 2), (.int 0)] (.int 0) := Fle1372
    have f1376 : Arv Z T1372.heap rc k_rc .int 3 [(.int 1), (.int m1), (.int 1)] (.int 0) := Frc1372
    have f1377 : Arv Z T1372.heap re k_re (.array .int) (3 : Int32) [(.ref nb0), g1, (.ref nb1)] .null := Fre1372
    have f1378 := (f1371.trans K1372 (allS (Or.inl (List.mem_of_getElem? (i := 0) rfl)) (allS (Or.inl (List.mem_of_getElem? (i := 3) rfl)) (allS (Or.inl (List.mem_of_getElem? (i := 4) rfl)) (allS (Or.inl (List.mem_of_getElem? (i := 5) rfl)) (allS (Or.inl (List.mem_of_getElem? (i := 6) rfl)) (allS (Or.inl (List.mem_of_getElem? (i := 7) rfl)) all0)))))))
    have f1379 := (Vc1364.keep K1372 (by repeat' first | exact nin0 | refine ninS ?_ ?_ | (show (_ : Nat) ≠ _; omega)))
    have f1380 := (Vd1364.keep K1372 (by repeat' first | exact nin0 | refine ninS ?_ ?_ | (show (_ : Nat) ≠ _; omega)))
    refine ⟨T1372, _, _, nc, nd, nb0, nb1, kc, kd, kb0, kb1, (0 : Int32), (2 : Int32), vc, vd, (.ref nb0), (.ref nb1), (X1372.more (by decide) (by decide)), rfl, N1372, f1378, Oe1372, f1379, f1380, f1373, f1374, f1375, f1377, f1376, Fnc1372, Fnd1372, (fun _ => rfl), (fun _ => rfl), (fun _ => Fnb01372), (fun _ => Fnb11372), szn, lt0, (fun _ => ⟨by omega, Fnb01372.lt⟩), (fun _ => ⟨by omega, Fnb11372.lt⟩), fun target kt => ?_⟩
    show own_S p e below m T0 335 LL [] _
    refine wdload X0 hx hby at_335 LL_11 ?_
    refine XS.dconst0 X0.here hx rfl (v := FP.dconst0) (hb hby at_337) rfl ?_
    refine XS.dcmpS X0.here hx rfl (v := (1 : Int32)) (hb hby at_338) rfl (own_v_gt hfc .l) ?_
    refine wifNo X0 hx hby at_339 (by decide) ?_
    show own_S p e below m T0 342 LL [] _
    refine waload X0 hx hby at_342 LL_28 rfl ?_
    refine wiconst X0 hx hby at_344 ?_
    refine wdload X0 hx hby at_345 LL_11 ?_
    refine st1361.trans ?_
    show own_S p e below m T1361 350 LL [] _
    refine wdload X1361 hx hby at_350 LL_17 ?_
    refine XS.dconst0 X1361.here hx rfl (v := FP.dconst0) (hb hby at_352) rfl ?_
    refine XS.dcmpS X1361.here hx rfl (v := (1 : Int32)) (hb hby at_353) rfl (own_v_gt hfd .l) ?_
    refine wifNo X1361 hx hby at_354 (by decide) ?_
    show own_S p e below m T1361 357 LL [] _
    refine waload X1361 hx hby at_357 LL_28 rfl ?_
    refine wiconst X1361 hx hby at_359 ?_
    refine wdload X1361 hx hby at_360 LL_17 ?_
    refine st1364.trans ?_
    show own_S p e below m T1364 365 LL [] _
    refine waload X1364 hx hby at_365 LL_28 rfl ?_
    refine st1372.trans ?_
    exact kt
set_option maxRecDepth 65536 in
set_option maxHeartbeats 40000000 in
theorem rw2 {p : Program} {l : Launch} {e : Env} {s : State} {m : MethodId} {args : Array Value} {below : List Frame} {meth : Method} {c : Code} {T0 : State} {locs : List Loc} (Z : State) (a0 : Array Value) (hw : ∀ d ∈ tables_1, d.before a0 Z = true) (a1 oc od mc md sr sp sw ss co cf le re rc : Nat) (k_oc k_od k_co k_cf k_le k_re k_rc : ClassId) (en wk : Int64) (fa fe : Bool) (ve : UInt64) (ca da cb db b1 : Nat) (kb1 : ClassId) (c0 c1 : Int32) (y0 y1 : UInt64) (l0 l1 : Int32) (g0 g2 : Value) (m0 m2 : Int32) (LL : Array Slot) (h0 : Heap) (n0 : Nat) (X0 : Stand p l e room_1 s m args below meth c T0 locs 25 209) (hx : p.tables.exec = Jvm.exec) (hZ : Z.Warmed39 s.vm) (hby : c.code = code) (hml : c.maxLocals = 39) (hown : s.vm.findClass "com/example/odds2/odds2/engine/EliminationSolvePinLaw" = some m.cls) (e0 : T0.heap = h0) (N0 : Fr n0 locs) (Z0 : n0 ≤ h0.size) (LL_28 : LL[28]? = some (.val (.ref a1))) (LL_19 : LL[19]? = some (.val (.double ve))) (hsz : LL.size = c.maxLocals) (O_a : own_E Z h0 a1 oc od mc md sr sp sw ss co cf le re rc (2 : Int32) en wk (0 : Int32) (0 : Int32)) (V_oc : Arv Z h0 oc k_oc .int 16 [(.int c0), (.int c1)] (.int 0)) (V_od : Arv Z h0 od k_od .double 16 [(.double y0), (.double y1)] (.double 0)) (V_co : Arv Z h0 co k_co (.array .int) (3 : Int32) [(.ref ca), (.ref cb), .null] .null) (V_cf : Arv Z h0 cf k_cf (.array .double) (3 : Int32) [(.ref da), (.ref db), .null] .null) (V_le : Arv Z h0 le k_le .int 3 [(.int l0), (.int l1), (.int 0)] (.int 0)) (V_re : Arv Z h0 re k_re (.array .int) (3 : Int32) [g0, (cond fa (.ref b1) .null), g2] .null) (V_rc : Arv Z h0 rc k_rc .int 3 [(.int m0), (.int (own_i fa)), (.int m2)] (.int 0)) (OVc : OvrA Z k_co .int "[I") (OVf : OvrA Z k_cf .double "[D") (OV : OvrA Z k_re .int "[I") (G_b1 : fa = true → Arv Z h0 b1 kb1 .int 4 [(.int 0), (.int 0), (.int 0), (.int 0)] (.int 0)) (hbq : fa = true → rc < b1 ∧ b1 < cb) (hcd : cb < db) (hdb : db < h0.size) (hrb : rc < cb) (hfe : FP.dcmp ve FP.dconst0 = some (cond fe .gt .eq)) (ord : own_ord a1 oc od mc md sr sp sw ss co cf le re rc) (g_a : n0 ≤ a1) :
    ∃ (T' : State) (h' : Heap) (L' : List Loc) (cc : Nat) (dc : Nat) (b1' : Nat) (kcc : ClassId) (kdc : ClassId) (kb1' : ClassId) (g1' : Value), Stand p l e room_1 s m args below meth c T' L' 29 216 ∧ T'.heap = h' ∧ Fr n0 L' ∧ Keep h0 h' [a1, oc, od, co, cf, le, re, rc, b1] ∧ own_E Z h' a1 oc od mc md sr sp sw ss co cf le re rc (3 : Int32) (en + (own_i fe).toInt64) (wk + (own_i fe).toInt64) (0 : Int32) (0 : Int32) ∧ Arv Z h' co k_co (.array .int) (3 : Int32) [(.ref ca), (.ref cb), (.ref cc)] .null ∧ Arv Z h' cf k_cf (.array .double) (3 : Int32) [(.ref da), (.ref db), (.ref dc)] .null ∧ Arv Z h' le k_le .int 3 [(.int l0), (.int l1), (.int (own_i fe))] (.int 0) ∧ Arv Z h' re k_re (.array .int) (3 : Int32) [g0, g1', g2] .null ∧ Arv Z h' rc k_rc .int 3 [(.int m0), (.int (own_lb fa fe)), (.int m2)] (.int 0) ∧ Arv Z h' cc kcc .int (own_i fe) [(.int 1), (.int 0)] (.int 0) ∧ Arv Z h' dc kdc .double (own_i fe) [(.double ve), (.double 0)] (.double 0) ∧ ((fa || fe) = true → g1' = .ref b1') ∧ ((fa || fe) = true → Arv Z h' b1' kb1' .int 4 (cond fa (cond fe [(.int 0), (.int 2), (.int 0), (.int 0)] [(.int 0), (.int 0), (.int 0), (.int 0)]) [(.int 2), (.int 0), (.int 0), (.int 0)]) (.int 0)) ∧ h0.size ≤ cc ∧ cc < dc ∧ ((fa || fe) = true → rc < b1' ∧ b1' ≠ cb ∧ b1' ≠ db ∧ b1' ≠ cc ∧ b1' ≠ dc) ∧ ∀ target, own_S p e below m T' 390 LL [] target → own_S p e below m T0 370 LL [] target := by
  have hl := own_laid_of hw
  obtain ⟨or0, or1, or2, or3, or4, or5, or6, or7, or8, or9, or10, or11, or12⟩ := id ord
  rcases fa with _ | _ <;> rcases fe with _ | _
  · have f1381 : Arv Z h0 rc k_rc .int 3 [(.int m0), (.int 0), (.int m2)] (.int 0) := V_rc
    have f1382 : Arv Z h0 re k_re (.array .int) (3 : Int32) [g0, .null, g2] .null := V_re
    have Z1383 : n0 ≤ h0.size := Nat.le_trans Z0 (Keep.refl h0 [a1, oc, od, co, cf, le, re, rc, b1]).1
    obtain ⟨cq1384, kq1384, q1384a, q1384b, q1384c⟩ := isOf hZ e0 O_a.1
    obtain ⟨_, _, ⟨T1384, L1384, k1384, n1384⟩, -, X1384, ⟨Lc1384, hQ1384, l1384, y1384, z1384⟩, st1384⟩ := X0.virtualBack hx (y := (⟨"com/example/odds2/odds2/engine/Elimination", "endRow", "()V"⟩ : MethodName)) (z := (⟨"com/example/odds2/odds2/engine/Elimination", "endRow", "()V"⟩ : MethodName)) hown (mvT hZ (hw _ tm47)) (mvT hZ (hw _ tm48)) (notFace_of_selects (args := #[]) (mvT hZ (hw _ tm50))) (mvT hZ (hw _ tm50)) (mvT hZ (hw _ tm49)) (by decide) (backOf (W := 0) (rmE0 l Z a0 hw [] a1 oc od mc md sr sp sw ss co cf le re rc k_co k_cf k_le (2 : Int32) en wk (0 : Int32) [(.ref ca), (.ref cb), .null] [(.ref da), (.ref db), .null] [(.int l0), (.int l1), (.int 0)] h0 n0 Z1383 O_a V_co V_cf V_le OVc OVf rfl rfl rfl (by unfold own_3; decide) ord g_a) hZ (hw _ tm51) (hw _ tm7) (by decide) (by decide)) q1384a q1384c (g := (mkF m 387 LL [(.ref a1)])) rfl hsz (Steps.refl _) (argsL := []) (rest := []) (lenOf pd_9 rfl) rfl (by show 2 * 0 + _ ≤ _; exact Nat.le_of_eq rfl) (hb hby at_387) (fun _ _ => ⟨rfl, e0, (by decide : 25 + 3 ≤ _), (by decide : 209 + 0 ≤ _)⟩)
    dsimp only [Pt.U, Pt.locs, Pt.cells, Pt.slots] at X1384 l1384 y1384 z1384 st1384 hQ1384
    subst l1384 y1384 z1384
    obtain ⟨nc, nd, kc, kd, rfl, N1384q, K1384, Oe1384, Fco1384, Fcf1384, Fle1384, Fnc1384, Fnd1384, szc, lt0⟩ := hQ1384
    have N1384 := Fr.app N0 N1384q
    have szn : h0.size ≤ nc := Nat.le_trans (Keep.refl h0 [a1, oc, od, co, cf, le, re, rc, b1]).1 szc
    rw [(by decide : (2 : Int32) + (1 : Int32) = (3 : Int32))] at Oe1384
    have f1385 : Arv Z T1384.heap co k_co (.array .int) (3 : Int32) [(.ref ca), (.ref cb), (.ref nc)] .null := Fco1384
    have f1386 : Arv Z T1384.heap cf k_cf (.array .double) (3 : Int32) [(.ref da), (.ref db), (.ref nd)] .null := Fcf1384
    have f1387 : Arv Z T1384.heap le k_le .int 3 [(.int l0), (.int l1), (.int 0)] (.int 0) := Fle1384
    have f1388 := ((Keep.refl h0 [a1, oc, od, co, cf, le, re, rc, b1]).trans K1384 (allS (Or.inl (List.mem_of_getElem? (i := 0) rfl)) (allS (Or.inl (List.mem_of_getElem? (i := 3) rfl)) (allS (Or.inl (List.mem_of_getElem? (i := 4) rfl)) (allS (Or.inl (List.mem_of_getElem? (i := 5) rfl)) all0)))))
    have f1389 := (f1382.keep K1384 (by repeat' first | exact nin0 | refine ninS ?_ ?_ | (show (_ : Nat) ≠ _; omega)))
    have f1390 := (f1381.keep K1384 (by repeat' first | exact nin0 | refine ninS ?_ ?_ | (show (_ : Nat) ≠ _; omega)))
    refine ⟨T1384, _, _, nc, nd, rc, kc, kd, kd, .null, (X1384.more (by decide) (by decide)), rfl, N1384, f1388, Oe1384, f1385, f1386, f1387, f1389, f1390, (own_arv0 _ Fnc1384), (own_arv0 _ Fnd1384), (fun q => nomatch q), (fun q => nomatch q), szn, lt0, (fun q => nomatch q), fun target kt => ?_⟩
    show own_S p e below m T0 370 LL [] _
    refine wdload X0 hx hby at_370 LL_19 ?_
    refine XS.dconst0 X0.here hx rfl (v := FP.dconst0) (hb hby at_372) rfl ?_
    refine XS.dcmpS X0.here hx rfl (v := (0 : Int32)) (hb hby at_373) rfl (own_v_eq hfe .l) ?_
    refine wifYes X0 hx hby at_374 374 385 rfl (by decide) (by decide) (by decide) ?_
    show own_S p e below m T0 385 LL [] _
    refine waload X0 hx hby at_385 LL_28 rfl ?_
    refine st1384.trans ?_
    exact kt
  · have f1391 : Arv Z h0 rc k_rc .int 3 [(.int m0), (.int 0), (.int m2)] (.int 0) := V_rc
    have f1392 : Arv Z h0 re k_re (.array .int) (3 : Int32) [g0, .null, g2] .null := V_re
    have Z1393 : n0 ≤ h0.size := Nat.le_trans Z0 (Keep.refl h0 [a1, oc, od, co, cf, le, re, rc, b1]).1
    obtain ⟨cq1394, kq1394, q1394a, q1394b, q1394c⟩ := isOf hZ e0 O_a.1
    obtain ⟨_, _, ⟨T1394, L1394, k1394, n1394⟩, -, X1394, ⟨Lc1394, hQ1394, l1394, y1394, z1394⟩, st1394⟩ := X0.virtualBack hx (y := (⟨"com/example/odds2/odds2/engine/Elimination", "add", "(ID)V"⟩ : MethodName)) (z := (⟨"com/example/odds2/odds2/engine/Elimination", "add", "(ID)V"⟩ : MethodName)) hown (mvT hZ (hw _ tm77)) (mvT hZ (hw _ tm78)) (notFace_of_selects (args := #[]) (mvT hZ (hw _ tm80))) (mvT hZ (hw _ tm80)) (mvT hZ (hw _ tm79)) (by decide) (backOf (W := 0) (rm2a l Z a0 hw [] a1 oc od mc md sr sp sw ss co cf le re rc k_oc k_od (2 : Int32) en wk (0 : Int32) (1 : Int32) ve c0 c1 y0 y1 h0 n0 Z1393 O_a V_oc V_od ord g_a) hZ (hw _ tm81) (hw _ tm7) (by decide) (by decide)) q1394a q1394c (g := (mkF m 382 LL [(.double ve), (.int 1), (.ref a1)])) rfl hsz (Steps.refl _) (argsL := [(.int 1), (.double ve)]) (rest := []) (lenOf pd_10 rfl) rfl (by show 2 * 0 + _ ≤ _; exact Nat.le_of_eq rfl) (hb hby at_382) (fun _ _ => ⟨rfl, e0, (by decide : 25 + 0 ≤ _), (by decide : 209 + 0 ≤ _)⟩)
    dsimp only [Pt.U, Pt.locs, Pt.cells, Pt.slots] at X1394 l1394 y1394 z1394 st1394 hQ1394
    subst l1394 y1394 z1394
    obtain ⟨rfl, N1394q, K1394, Oa1394, Vc1394, Vd1394⟩ := hQ1394
    have N1394 := Fr.app N0 N1394q
    have f1395 := (V_co.keep K1394 (by repeat' first | exact nin0 | refine ninS ?_ ?_ | (show (_ : Nat) ≠ _; omega)))
    have f1396 := (V_cf.keep K1394 (by repeat' first | exact nin0 | refine ninS ?_ ?_ | (show (_ : Nat) ≠ _; omega)))
    have f1397 := (V_le.keep K1394 (by repeat' first | exact nin0 | refine ninS ?_ ?_ | (show (_ : Nat) ≠ _; omega)))
    have f1398 := (f1392.keep K1394 (by repeat' first | exact nin0 | refine ninS ?_ ?_ | (show (_ : Nat) ≠ _; omega)))
    have f1399 := (f1391.keep K1394 (by repeat' first | exact nin0 | refine ninS ?_ ?_ | (show (_ : Nat) ≠ _; omega)))
    have f1401 := ((Keep.refl h0 [a1, oc, od, co, cf, le, re, rc, b1]).trans K1394 (allS (Or.inl (List.mem_of_getElem? (i := 0) rfl)) (allS (Or.inl (List.mem_of_getElem? (i := 1) rfl)) (allS (Or.inl (List.mem_of_getElem? (i := 2) rfl)) all0))))
    have Z1400 : n0 ≤ T1394.heap.size := Nat.le_trans Z0 f1401.1
    obtain ⟨cq1402, kq1402, q1402a, q1402b, q1402c⟩ := isOf hZ rfl Oa1394.1
    obtain ⟨_, _, ⟨T1402, L1402, k1402, n1402⟩, -, X1402, ⟨Lc1402, hQ1402, l1402, y1402, z1402⟩, st1402⟩ := X1394.virtualBack hx (y := (⟨"com/example/odds2/odds2/engine/Elimination", "endRow", "()V"⟩ : MethodName)) (z := (⟨"com/example/odds2/odds2/engine/Elimination", "endRow", "()V"⟩ : MethodName)) hown (mvT hZ (hw _ tm47)) (mvT hZ (hw _ tm48)) (notFace_of_selects (args := #[]) (mvT hZ (hw _ tm50))) (mvT hZ (hw _ tm50)) (mvT hZ (hw _ tm49)) (by decide) (backOf (W := 0) (rmE1 l Z a0 hw [] a1 oc od mc md sr sp sw ss co cf le re rc k_co k_cf k_le k_oc k_od k_re k_rc (2 : Int32) en wk (0 : Int32) [(.ref ca), (.ref cb), .null] [(.ref da), (.ref db), .null] [(.int l0), (.int l1), (.int 0)] (1 : Int32) c1 y1 ve [g0, .null, g2] [(.int m0), (.int 0), (.int m2)] T1394.heap n0 Z1400 Oa1394 f1395 f1396 f1397 Vc1394 Vd1394 f1398 f1399 OVc OVf rfl rfl rfl (by unfold own_3; decide) OV rfl rfl (by unfold own_3; decide) rfl rfl ord g_a) hZ (hw _ tm51) (hw _ tm7) (by decide) (by decide)) q1402a q1402c (g := (mkF m 387 LL [(.ref a1)])) rfl hsz (Steps.refl _) (argsL := []) (rest := []) (lenOf pd_9 rfl) rfl (by show 2 * 0 + _ ≤ _; exact Nat.le_of_eq rfl) (hb hby at_387) (fun _ _ => ⟨rfl, rfl, (by decide : 25 + 4 ≤ _), (by decide : 209 + 7 ≤ _)⟩)
    dsimp only [Pt.U, Pt.locs, Pt.cells, Pt.slots] at X1402 l1402 y1402 z1402 st1402 hQ1402
    subst l1402 y1402 z1402
    obtain ⟨nc, nd, nb0, kc, kd, kb0, rfl, N1402q, K1402, Oe1402, Fco1402, Fcf1402, Fle1402, Fre1402, Frc1402, Fnc1402, Fnd1402, Fnb01402, szc, lt0, lt1⟩ := hQ1402
    have N1402 := Fr.app N1394 N1402q
    have szn : h0.size ≤ nc := Nat.le_trans f1401.1 szc
    rw [(by decide : (2 : Int32) + (1 : Int32) = (3 : Int32))] at Oe1402
    have f1403 : Arv Z T1402.heap co k_co (.array .int) (3 : Int32) [(.ref ca), (.ref cb), (.ref nc)] .null := Fco1402
    have f1404 : Arv Z T1402.heap cf k_cf (.array .double) (3 : Int32) [(.ref da), (.ref db), (.ref nd)] .null := Fcf1402
    have f1405 : Arv Z T1402.heap le k_le .int 3 [(.int l0), (.int l1), (.int 1)] (.int 0) := Fle1402
    have f1406 : Arv Z T1402.heap rc k_rc .int 3 [(.int m0), (.int 1), (.int m2)] (.int 0) := Frc1402
    have f1407 : Arv Z T1402.heap re k_re (.array .int) (3 : Int32) [g0, (.ref nb0), g2] .null := Fre1402
    have f1408 := (f1401.trans K1402 (allS (Or.inl (List.mem_of_getElem? (i := 0) rfl)) (allS (Or.inl (List.mem_of_getElem? (i := 3) rfl)) (allS (Or.inl (List.mem_of_getElem? (i := 4) rfl)) (allS (Or.inl (List.mem_of_getElem? (i := 5) rfl)) (allS (Or.inl (List.mem_of_getElem? (i := 6) rfl)) (allS (Or.inl (List.mem_of_getElem? (i := 7) rfl)) all0)))))))
    refine ⟨T1402, _, _, nc, nd, nb0, kc, kd, kb0, (.ref nb0), (X1402.more (by decide) (by decide)), rfl, N1402, f1408, Oe1402, f1403, f1404, f1405, f1407, f1406, (Fnc1402.pad (fun i => own_pad1 i)), (Fnd1402.pad (fun i => own_pad1 i)), (fun _ => rfl), (fun _ => Fnb01402), szn, lt0, (fun _ => ⟨by omega, by omega, by omega, by omega, by omega⟩), fun target kt => ?_⟩
    show own_S p e below m T0 370 LL [] _
    refine wdload X0 hx hby at_370 LL_19 ?_
    refine XS.dconst0 X0.here hx rfl (v := FP.dconst0) (hb hby at_372) rfl ?_
    refine XS.dcmpS X0.here hx rfl (v := (1 : Int32)) (hb hby at_373) rfl (own_v_gt hfe .l) ?_
    refine wifNo X0 hx hby at_374 (by decide) ?_
    show own_S p e below m T0 377 LL [] _
    refine waload X0 hx hby at_377 LL_28 rfl ?_
    refine wiconst X0 hx hby at_379 ?_
    refine wdload X0 hx hby at_380 LL_19 ?_
    refine st1394.trans ?_
    show own_S p e below m T1394 385 LL [] _
    refine waload X1394 hx hby at_385 LL_28 rfl ?_
    refine st1402.trans ?_
    exact kt
  · have hb_ := hbq rfl
    have f1409 : Arv Z h0 rc k_rc .int 3 [(.int m0), (.int 1), (.int m2)] (.int 0) := V_rc
    have f1410 : Arv Z h0 re k_re (.array .int) (3 : Int32) [g0, (.ref b1), g2] .null := V_re
    have f1411 : Arv Z h0 b1 kb1 .int 4 [(.int 0), (.int 0), (.int 0), (.int 0)] (.int 0) := G_b1 rfl
    have Z1412 : n0 ≤ h0.size := Nat.le_trans Z0 (Keep.refl h0 [a1, oc, od, co, cf, le, re, rc, b1]).1
    obtain ⟨cq1413, kq1413, q1413a, q1413b, q1413c⟩ := isOf hZ e0 O_a.1
    obtain ⟨_, _, ⟨T1413, L1413, k1413, n1413⟩, -, X1413, ⟨Lc1413, hQ1413, l1413, y1413, z1413⟩, st1413⟩ := X0.virtualBack hx (y := (⟨"com/example/odds2/odds2/engine/Elimination", "endRow", "()V"⟩ : MethodName)) (z := (⟨"com/example/odds2/odds2/engine/Elimination", "endRow", "()V"⟩ : MethodName)) hown (mvT hZ (hw _ tm47)) (mvT hZ (hw _ tm48)) (notFace_of_selects (args := #[]) (mvT hZ (hw _ tm50))) (mvT hZ (hw _ tm50)) (mvT hZ (hw _ tm49)) (by decide) (backOf (W := 0) (rmE0 l Z a0 hw [] a1 oc od mc md sr sp sw ss co cf le re rc k_co k_cf k_le (2 : Int32) en wk (0 : Int32) [(.ref ca), (.ref cb), .null] [(.ref da), (.ref db), .null] [(.int l0), (.int l1), (.int 0)] h0 n0 Z1412 O_a V_co V_cf V_le OVc OVf rfl rfl rfl (by unfold own_3; decide) ord g_a) hZ (hw _ tm51) (hw _ tm7) (by decide) (by decide)) q1413a q1413c (g := (mkF m 387 LL [(.ref a1)])) rfl hsz (Steps.refl _) (argsL := []) (rest := []) (lenOf pd_9 rfl) rfl (by show 2 * 0 + _ ≤ _; exact Nat.le_of_eq rfl) (hb hby at_387) (fun _ _ => ⟨rfl, e0, (by decide : 25 + 3 ≤ _), (by decide : 209 + 0 ≤ _)⟩)
    dsimp only [Pt.U, Pt.locs, Pt.cells, Pt.slots] at X1413 l1413 y1413 z1413 st1413 hQ1413
    subst l1413 y1413 z1413
    obtain ⟨nc, nd, kc, kd, rfl, N1413q, K1413, Oe1413, Fco1413, Fcf1413, Fle1413, Fnc1413, Fnd1413, szc, lt0⟩ := hQ1413
    have N1413 := Fr.app N0 N1413q
    have szn : h0.size ≤ nc := Nat.le_trans (Keep.refl h0 [a1, oc, od, co, cf, le, re, rc, b1]).1 szc
    rw [(by decide : (2 : Int32) + (1 : Int32) = (3 : Int32))] at Oe1413
    have f1414 : Arv Z T1413.heap co k_co (.array .int) (3 : Int32) [(.ref ca), (.ref cb), (.ref nc)] .null := Fco1413
    have f1415 : Arv Z T1413.heap cf k_cf (.array .double) (3 : Int32) [(.ref da), (.ref db), (.ref nd)] .null := Fcf1413
    have f1416 : Arv Z T1413.heap le k_le .int 3 [(.int l0), (.int l1), (.int 0)] (.int 0) := Fle1413
    have f1417 := ((Keep.refl h0 [a1, oc, od, co, cf, le, re, rc, b1]).trans K1413 (allS (Or.inl (List.mem_of_getElem? (i := 0) rfl)) (allS (Or.inl (List.mem_of_getElem? (i := 3) rfl)) (allS (Or.inl (List.mem_of_getElem? (i := 4) rfl)) (allS (Or.inl (List.mem_of_getElem? (i := 5) rfl)) all0)))))
    have f1418 := (f1410.keep K1413 (by repeat' first | exact nin0 | refine ninS ?_ ?_ | (show (_ : Nat) ≠ _; omega)))
    have f1419 := (f1409.keep K1413 (by repeat' first | exact nin0 | refine ninS ?_ ?_ | (show (_ : Nat) ≠ _; omega)))
    have f1420 := (f1411.keep K1413 (by repeat' first | exact nin0 | refine ninS ?_ ?_ | (show (_ : Nat) ≠ _; omega)))
    refine ⟨T1413, _, _, nc, nd, b1, kc, kd, kb1, (.ref b1), (X1413.more (by decide) (by decide)), rfl, N1413, f1417, Oe1413, f1414, f1415, f1416, f1418, f1419, (own_arv0 _ Fnc1413), (own_arv0 _ Fnd1413), (fun _ => rfl), (fun _ => f1420), szn, lt0, (fun _ => ⟨by omega, by omega, by omega, by omega, by omega⟩), fun target kt => ?_⟩
    show own_S p e below m T0 370 LL [] _
    refine wdload X0 hx hby at_370 LL_19 ?_
    refine XS.dconst0 X0.here hx rfl (v := FP.dconst0) (hb hby at_372) rfl ?_
    refine XS.dcmpS X0.here hx rfl (v := (0 : Int32)) (hb hby at_373) rfl (own_v_eq hfe .l) ?_
    refine wifYes X0 hx hby at_374 374 385 rfl (by decide) (by decide) (by decide) ?_
    show own_S p e below m T0 385 LL [] _
    refine waload X0 hx hby at_385 LL_28 rfl ?_
    refine st1413.trans ?_
    exact kt
  · have hb_ := hbq rfl
    have f1421 : Arv Z h0 rc k_rc .int 3 [(.int m0), (.int 1), (.int m2)] (.int 0) := V_rc
    have f1422 : Arv Z h0 re k_re (.array .int) (3 : Int32) [g0, (.ref b1), g2] .null := V_re
    have f1423 : Arv Z h0 b1 kb1 .int 4 [(.int 0), (.int 0), (.int 0), (.int 0)] (.int 0) := G_b1 rfl
    have Z1424 : n0 ≤ h0.size := Nat.le_trans Z0 (Keep.refl h0 [a1, oc, od, co, cf, le, re, rc, b1]).1
    obtain ⟨cq1425, kq1425, q1425a, q1425b, q1425c⟩ := isOf hZ e0 O_a.1
    obtain ⟨_, _, ⟨T1425, L1425, k1425, n1425⟩, -, X1425, ⟨Lc1425, hQ1425, l1425, y1425, z1425⟩, st1425⟩ := X0.virtualBack hx (y := (⟨"com/example/odds2/odds2/engine/Elimination", "add", "(ID)V"⟩ : MethodName)) (z := (⟨"com/example/odds2/odds2/engine/Elimination", "add", "(ID)V"⟩ : MethodName)) hown (mvT hZ (hw _ tm77)) (mvT hZ (hw _ tm78)) (notFace_of_selects (args := #[]) (mvT hZ (hw _ tm80))) (mvT hZ (hw _ tm80)) (mvT hZ (hw _ tm79)) (by decide) (backOf (W := 0) (rm2a l Z a0 hw [] a1 oc od mc md sr sp sw ss co cf le re rc k_oc k_od (2 : Int32) en wk (0 : Int32) (1 : Int32) ve c0 c1 y0 y1 h0 n0 Z1424 O_a V_oc V_od ord g_a) hZ (hw _ tm81) (hw _ tm7) (by decide) (by decide)) q1425a q1425c (g := (mkF m 382 LL [(.double ve), (.int 1), (.ref a1)])) rfl hsz (Steps.refl _) (argsL := [(.int 1), (.double ve)]) (rest := []) (lenOf pd_10 rfl) rfl (by show 2 * 0 + _ ≤ _; exact Nat.le_of_eq rfl) (hb hby at_382) (fun _ _ => ⟨rfl, e0, (by decide : 25 + 0 ≤ _), (by decide : 209 + 0 ≤ _)⟩)
    dsimp only [Pt.U, Pt.locs, Pt.cells, Pt.slots] at X1425 l1425 y1425 z1425 st1425 hQ1425
    subst l1425 y1425 z1425
    obtain ⟨rfl, N1425q, K1425, Oa1425, Vc1425, Vd1425⟩ := hQ1425
    have N1425 := Fr.app N0 N1425q
    have f1426 := (V_co.keep K1425 (by repeat' first | exact nin0 | refine ninS ?_ ?_ | (show (_ : Nat) ≠ _; omega)))
    have f1427 := (V_cf.keep K1425 (by repeat' first | exact nin0 | refine ninS ?_ ?_ | (show (_ : Nat) ≠ _; omega)))
    have f1428 := (V_le.keep K1425 (by repeat' first | exact nin0 | refine ninS ?_ ?_ | (show (_ : Nat) ≠ _; omega)))
    have f1429 := (f1422.keep K1425 (by repeat' first | exact nin0 | refine ninS ?_ ?_ | (show (_ : Nat) ≠ _; omega)))
    have f1430 := (f1421.keep K1425 (by repeat' first | exact nin0 | refine ninS ?_ ?_ | (show (_ : Nat) ≠ _; omega)))
    have f1431 := (f1423.keep K1425 (by repeat' first | exact nin0 | refine ninS ?_ ?_ | (show (_ : Nat) ≠ _; omega)))
    have f1433 := ((Keep.refl h0 [a1, oc, od, co, cf, le, re, rc, b1]).trans K1425 (allS (Or.inl (List.mem_of_getElem? (i := 0) rfl)) (allS (Or.inl (List.mem_of_getElem? (i := 1) rfl)) (allS (Or.inl (List.mem_of_getElem? (i := 2) rfl)) all0))))
    have Z1432 : n0 ≤ T1425.heap.size := Nat.le_trans Z0 f1433.1
    obtain ⟨cq1434, kq1434, q1434a, q1434b, q1434c⟩ := isOf hZ rfl Oa1425.1
    obtain ⟨_, _, ⟨T1434, L1434, k1434, n1434⟩, -, X1434, ⟨Lc1434, hQ1434, l1434, y1434, z1434⟩, st1434⟩ := X1425.virtualBack hx (y := (⟨"com/example/odds2/odds2/engine/Elimination", "endRow", "()V"⟩ : MethodName)) (z := (⟨"com/example/odds2/odds2/engine/Elimination", "endRow", "()V"⟩ : MethodName)) hown (mvT hZ (hw _ tm47)) (mvT hZ (hw _ tm48)) (notFace_of_selects (args := #[]) (mvT hZ (hw _ tm50))) (mvT hZ (hw _ tm50)) (mvT hZ (hw _ tm49)) (by decide) (backOf (W := 0) (rmE1x l Z a0 hw [] a1 oc od mc md sr sp sw ss co cf le re rc k_co k_cf k_le k_oc k_od k_re k_rc (2 : Int32) en wk (0 : Int32) [(.ref ca), (.ref cb), .null] [(.ref da), (.ref db), .null] [(.int l0), (.int l1), (.int 0)] (1 : Int32) c1 y1 ve [g0, (.ref b1), g2] [(.int m0), (.int 1), (.int m2)] b1 kb1 (0 : Int32) T1425.heap n0 Z1432 Oa1425 f1426 f1427 f1428 Vc1425 Vd1425 f1429 f1430 OVc OVf rfl rfl rfl (by unfold own_3; decide) OV rfl rfl (by unfold own_3; decide) rfl rfl f1431 (by omega) ord g_a) hZ (hw _ tm51) (hw _ tm7) (by decide) (by decide)) q1434a q1434c (g := (mkF m 387 LL [(.ref a1)])) rfl hsz (Steps.refl _) (argsL := []) (rest := []) (lenOf pd_9 rfl) rfl (by show 2 * 0 + _ ≤ _; exact Nat.le_of_eq rfl) (hb hby at_387) (fun _ _ => ⟨rfl, rfl, (by decide : 25 + 3 ≤ _), (by decide : 209 + 3 ≤ _)⟩)
    dsimp only [Pt.U, Pt.locs, Pt.cells, Pt.slots] at X1434 l1434 y1434 z1434 st1434 hQ1434
    subst l1434 y1434 z1434
    obtain ⟨nc, nd, kc, kd, rfl, N1434q, K1434, Oe1434, Fco1434, Fcf1434, Fle1434, Frc1434, Fqb1434, Fnc1434, Fnd1434, szc, lt0⟩ := hQ1434
    have N1434 := Fr.app N1425 N1434q
    have szn : h0.size ≤ nc := Nat.le_trans f1433.1 szc
    rw [(by decide : (2 : Int32) + (1 : Int32) = (3 : Int32))] at Oe1434
    have f1435 : Arv Z T1434.heap co k_co (.array .int) (3 : Int32) [(.ref ca), (.ref cb), (.ref nc)] .null := Fco1434
    have f1436 : Arv Z T1434.heap cf k_cf (.array .double) (3 : Int32) [(.ref da), (.ref db), (.ref nd)] .null := Fcf1434
    have f1437 : Arv Z T1434.heap le k_le .int 3 [(.int l0), (.int l1), (.int 1)] (.int 0) := Fle1434
    have f1438 : Arv Z T1434.heap rc k_rc .int 3 [(.int m0), (.int 2), (.int m2)] (.int 0) := Frc1434
    have f1439 := (f1433.trans K1434 (allS (Or.inl (List.mem_of_getElem? (i := 0) rfl)) (allS (Or.inl (List.mem_of_getElem? (i := 3) rfl)) (allS (Or.inl (List.mem_of_getElem? (i := 4) rfl)) (allS (Or.inl (List.mem_of_getElem? (i := 5) rfl)) (allS (Or.inl (List.mem_of_getElem? (i := 7) rfl)) (allS (Or.inl (List.mem_of_getElem? (i := 8) rfl)) all0)))))))
    have f1440 := (f1429.keep K1434 (by repeat' first | exact nin0 | refine ninS ?_ ?_ | (show (_ : Nat) ≠ _; omega)))
    refine ⟨T1434, _, _, nc, nd, b1, kc, kd, kb1, (.ref b1), (X1434.more (by decide) (by decide)), rfl, N1434, f1439, Oe1434, f1435, f1436, f1437, f1440, f1438, (Fnc1434.pad (fun i => own_pad1 i)), (Fnd1434.pad (fun i => own_pad1 i)), (fun _ => rfl), (fun _ => Fqb1434), szn, lt0, (fun _ => ⟨by omega, by omega, by omega, by omega, by omega⟩), fun target kt => ?_⟩
    show own_S p e below m T0 370 LL [] _
    refine wdload X0 hx hby at_370 LL_19 ?_
    refine XS.dconst0 X0.here hx rfl (v := FP.dconst0) (hb hby at_372) rfl ?_
    refine XS.dcmpS X0.here hx rfl (v := (1 : Int32)) (hb hby at_373) rfl (own_v_gt hfe .l) ?_
    refine wifNo X0 hx hby at_374 (by decide) ?_
    show own_S p e below m T0 377 LL [] _
    refine waload X0 hx hby at_377 LL_28 rfl ?_
    refine wiconst X0 hx hby at_379 ?_
    refine wdload X0 hx hby at_380 LL_19 ?_
    refine st1425.trans ?_
    show own_S p e below m T1425 385 LL [] _
    refine waload X1425 hx hby at_385 LL_28 rfl ?_
    refine st1434.trans ?_
    exact kt
theorem ef_0 (m : MethodId) (x0 : Int32) (x1 : Int32) (x2 : Int32) (x3 : Int32) (x4 : Int32) : entryFrame m #[(.int x0), (.int x1), (.int x2), (.int x3), (.int x4)] maxLocals = mkF m 0 #[.val (.int x0), .val (.int x1), .val (.int x2), .val (.int x3), .val (.int x4), .unset, .unset, .unset, .unset, .unset, .unset, .unset, .unset, .unset, .unset, .unset, .unset, .unset, .unset, .unset, .unset, .unset, .unset, .unset, .unset, .unset, .unset, .unset, .unset, .unset, .unset, .unset, .unset, .unset, .unset, .unset, .unset, .unset, .unset] [] := by first | (simp [entryFrame, mkF, argsToLocals, Value.category, maxLocals]; done) | rfl
theorem pn_0 : plainName "com/example/odds2/odds2/engine/EliminationSolvePinLaw" = true := by first | (simp [plainName, overriddenIn]; done) | decide +kernel
def Q0 (Z : State) (i0 i1 i2 i3 i4 : Int32) (h0 : Heap) (n0 : Nat) (v : Option Value) (h : Heap) (L : List Loc) : Prop := v = some (.int 1) ∧ Fr n0 L
set_option maxRecDepth 65536 in
set_option maxHeartbeats 40000000 in
theorem rm0 (l : Launch) (Z : State) (a0 : Array Value) (hw : ∀ d ∈ tables_1, d.before a0 Z = true) (ws : List Jvm.Cond) (i0 i1 i2 i3 i4 : Int32) (h0 : Heap) (n0 : Nat) (Z0 : n0 ≤ h0.size) :
    MetFree l x (head1 (Jvm.Cond.code x code maxLocals ret :: ws) room_1) (fun a U => a = #[(.int i0), (.int i1), (.int i2), (.int i3), (.int i4)] ∧ Z.Warmed39 U.vm ∧ U.heap = h0) (fun _ _ _ _ _ => True) (fun _ U o U' => ∃ v L, o = .returned v ∧ Q0 Z i0 i1 i2 i3 i4 h0 n0 v U'.heap L ∧ FrameEnd U o U' L room_1.cells room_1.slots) := by
  refine MetFree.of_bodySF (plainFor_of_name pn_0) hisR ?_
  intro p e s m args below meth c s₁ Bd hml0 hP hK
  obtain ⟨rfl, hZ, hh⟩ := hP
  have hx := Bd.exec
  have hby := Bd.bytes
  have hml : c.maxLocals = 39 := hml0
  have hown : s.vm.findClass "com/example/odds2/odds2/engine/EliminationSolvePinLaw" = some m.cls := findClass_of_methodNamed Bd.named
  have hnm := (name_of_methodNamed Bd.named Bd.method).1
  have X0 : Stand p l e room_1 s m #[(.int i0), (.int i1), (.int i2), (.int i3), (.int i4)] below meth c s₁ [] 0 0 := Stand.of_body Bd
  have e0 : s₁.heap = h0 := by rw [← hh, Bd.state]; rfl
  have N0 := Fr.nil n0
  have pre0 : ∀ t, Steps p.tables e below (s₁.setTop (mkF m 0 #[.val (.int i0), .val (.int i1), .val (.int i2), .val (.int i3), .val (.int i4), .unset, .unset, .unset, .unset, .unset, .unset, .unset, .unset, .unset, .unset, .unset, .unset, .unset, .unset, .unset, .unset, .unset, .unset, .unset, .unset, .unset, .unset, .unset, .unset, .unset, .unset, .unset, .unset, .unset, .unset, .unset, .unset, .unset, .unset] [])) t → Steps p.tables e below (s₁.setTop (entryFrame m #[(.int i0), (.int i1), (.int i2), (.int i3), (.int i4)] maxLocals)) t := fun t k => castTop (ef_0 m i0 i1 i2 i3 i4) k
  have hl := own_laid_of hw
  obtain ⟨xi, hxi⟩ : ∃ z, z = ((i3 &&& (2147483647 : Int32)) % (13 : Int32)) := ⟨_, rfl⟩
  have txi : own_13 xi := by rw [hxi]; exact own_13_of i3
  obtain ⟨yi, hyi⟩ : ∃ z, z = ((i4 &&& (2147483647 : Int32)) % (13 : Int32)) := ⟨_, rfl⟩
  have tyi : own_13 yi := by rw [hyi]; exact own_13_of i4
  obtain ⟨va, hva⟩ : ∃ z, z = own_q (own_u xi) := ⟨_, rfl⟩
  obtain ⟨vc, hvc⟩ : ∃ z, z = own_q (own_v xi) := ⟨_, rfl⟩
  obtain ⟨vq, hvq⟩ : ∃ z, z = own_q (own_u yi) := ⟨_, rfl⟩
  obtain ⟨ve, hve⟩ : ∃ z, z = own_q (own_v yi) := ⟨_, rfl⟩
  obtain ⟨d0, hd0⟩ : ∃ z, z = FP.i2d i0 := ⟨_, rfl⟩
  obtain ⟨d1, hd1⟩ : ∃ z, z = FP.i2d i1 := ⟨_, rfl⟩
  obtain ⟨d2, hd2⟩ : ∃ z, z = FP.i2d i2 := ⟨_, rfl⟩
  obtain ⟨sk, ⟨nva, nvc, nvq, nve, nvo⟩, ⟨nd0, nd1, nd2⟩, hsk, nvd, rest0⟩ := own_all txi tyi hva hvc hvq hve hd0 hd1 hd2
  obtain ⟨vd, hvd⟩ : ∃ z, z = FP.ddiv vq sk := ⟨_, rfl⟩
  obtain ⟨fa, fc, fd, fe, ow1, sc1, ow2, sc2, ⟨hfa, hfc, hfd, hfe⟩, fac1, nw, fac2, rest1⟩ := rest0 vd hvd
  obtain ⟨e1, he1⟩ : ∃ z, z = (cond fc (FP.dmul (FP.dadd d1 (FP.dmul vc d0)) (cond fa sc1 FP.dconst1)) d1) := ⟨_, rfl⟩
  obtain ⟨e2, he2⟩ : ∃ z, z = (cond fe (FP.dmul (FP.dadd d2 (FP.dmul ve e1)) (cond fd sc2 FP.dconst1)) d2) := ⟨_, rfl⟩
  obtain ⟨x1, hx1⟩ : ∃ z, z = cond fd (FP.dadd e1 (FP.dmul (cond fc (cond fa (FP.dmul vd sc1) vd) vd) e2)) e1 := ⟨_, rfl⟩
  obtain ⟨x0, hx0⟩ : ∃ z, z = cond fa (FP.dadd d0 (FP.dmul va x1)) d0 := ⟨_, rfl⟩
  obtain ⟨mm1, mm2, mm3, mm4, ⟨a1n, a2n, a3q⟩, ⟨b1n, b2n, b3n, b4n, b5q⟩, ⟨c1n, c2n, c3q⟩⟩ := rest1 e1 e2 x1 x0 he1 he2 hx1 hx0
  obtain ⟨L1441, hL1441⟩ := own_nm #[.val (.int i0), .val (.int i1), .val (.int i2), .val (.int i3), .val (.int i4), .unset, .unset, .unset, .unset, .unset, .unset, .unset, .unset, .unset, .unset, .unset, .unset, .unset, .unset, .unset, .unset, .unset, .unset, .unset, .unset, .unset, .unset, .unset, .unset, .unset, .unset, .unset, .unset, .unset, .unset, .unset, .unset, .unset, .unset]
  obtain ⟨T1442, h1442, k1442, X1442, e1442, E1442, A1442, Q1442, st1442⟩ := newPE X0 hx hZ (aty := .int) (hw _ tm0) e0 (g := (mkF m 2 L1441 [(.int 13)])) rfl (hb hby at_2) rfl (by decide) (cap := 13) (by decide) (by decide) (by decide) (by decide) (ad := "[I") (by decide)
  obtain ⟨tu, g1442⟩ : ∃ z, z = h0.size := ⟨_, rfl⟩
  rw [← g1442] at A1442 Q1442 st1442
  have sz_h0_tu : h0.size ≤ (tu : Nat) := by rw [g1442]; exact (Keep.refl h0 []).1
  have f1443 : Arv Z h1442 tu k1442 .int 13 [(.int 0), (.int 0), (.int 0), (.int 0), (.int 0), (.int 0), (.int 0), (.int 0), (.int 0), (.int 0), (.int 0), (.int 0), (.int 0)] (.int 0) := (Arv.new A1442 (by decide)).pad (pad_rep [] (.int 0) 13)
  obtain ⟨T1445, h1445, X1445, e1445, W1445, f1444, N1445, st1445⟩ := wiastore X1442 hx hby hZ e1442 N0 f1443 (by omega : n0 ≤ (tu : Nat)) (0 : Int32) (0 : Int32) 0 rfl (by decide) (by decide) (Nat.le_of_ble_eq_true rfl) L1441 [(.ref tu)] at_7
  obtain ⟨T1447, h1447, X1447, e1447, W1447, f1446, N1447, st1447⟩ := wiastore X1445 hx hby hZ e1445 N1445 f1444 (by omega : n0 ≤ (tu : Nat)) (1 : Int32) (0 : Int32) 1 rfl (by decide) (by decide) (Nat.le_of_ble_eq_true rfl) L1441 [(.ref tu)] at_11
  obtain ⟨T1449, h1449, X1449, e1449, W1449, f1448, N1449, st1449⟩ := wiastore X1447 hx hby hZ e1447 N1447 f1446 (by omega : n0 ≤ (tu : Nat)) (2 : Int32) (0 : Int32) 2 rfl (by decide) (by decide) (Nat.le_of_ble_eq_true rfl) L1441 [(.ref tu)] at_15
  obtain ⟨T1451, h1451, X1451, e1451, W1451, f1450, N1451, st1451⟩ := wiastore X1449 hx hby hZ e1449 N1449 f1448 (by omega : n0 ≤ (tu : Nat)) (3 : Int32) (0 : Int32) 3 rfl (by decide) (by decide) (Nat.le_of_ble_eq_true rfl) L1441 [(.ref tu)] at_19
  obtain ⟨T1453, h1453, X1453, e1453, W1453, f1452, N1453, st1453⟩ := wiastore X1451 hx hby hZ e1451 N1451 f1450 (by omega : n0 ≤ (tu : Nat)) (4 : Int32) (0 : Int32) 4 rfl (by decide) (by decide) (Nat.le_of_ble_eq_true rfl) L1441 [(.ref tu)] at_23
  obtain ⟨T1455, h1455, X1455, e1455, W1455, f1454, N1455, st1455⟩ := wiastore X1453 hx hby hZ e1453 N1453 f1452 (by omega : n0 ≤ (tu : Nat)) (5 : Int32) (1 : Int32) 5 rfl (by decide) (by decide) (Nat.le_of_ble_eq_true rfl) L1441 [(.ref tu)] at_27
  obtain ⟨T1457, h1457, X1457, e1457, W1457, f1456, N1457, st1457⟩ := wiastore X1455 hx hby hZ e1455 N1455 f1454 (by omega : n0 ≤ (tu : Nat)) (6 : Int32) (2 : Int32) 6 rfl (by decide) (by decide) (Nat.le_of_ble_eq_true rfl) L1441 [(.ref tu)] at_32
  obtain ⟨T1459, h1459, X1459, e1459, W1459, f1458, N1459, st1459⟩ := wiastore X1457 hx hby hZ e1457 N1457 f1456 (by omega : n0 ≤ (tu : Nat)) (7 : Int32) (3 : Int32) 7 rfl (by decide) (by decide) (Nat.le_of_ble_eq_true rfl) L1441 [(.ref tu)] at_37
  obtain ⟨T1461, h1461, X1461, e1461, W1461, f1460, N1461, st1461⟩ := wiastore X1459 hx hby hZ e1459 N1459 f1458 (by omega : n0 ≤ (tu : Nat)) (8 : Int32) (4 : Int32) 8 rfl (by decide) (by decide) (Nat.le_of_ble_eq_true rfl) L1441 [(.ref tu)] at_42
  obtain ⟨T1463, h1463, X1463, e1463, W1463, f1462, N1463, st1463⟩ := wiastore X1461 hx hby hZ e1461 N1461 f1460 (by omega : n0 ≤ (tu : Nat)) (9 : Int32) (2 : Int32) 9 rfl (by decide) (by decide) (Nat.le_of_ble_eq_true rfl) L1441 [(.ref tu)] at_47
  obtain ⟨T1465, h1465, X1465, e1465, W1465, f1464, N1465, st1465⟩ := wiastore X1463 hx hby hZ e1463 N1463 f1462 (by omega : n0 ≤ (tu : Nat)) (10 : Int32) (4 : Int32) 10 rfl (by decide) (by decide) (Nat.le_of_ble_eq_true rfl) L1441 [(.ref tu)] at_52
  obtain ⟨T1467, h1467, X1467, e1467, W1467, f1466, N1467, st1467⟩ := wiastore X1465 hx hby hZ e1465 N1465 f1464 (by omega : n0 ≤ (tu : Nat)) (11 : Int32) (3 : Int32) 11 rfl (by decide) (by decide) (Nat.le_of_ble_eq_true rfl) L1441 [(.ref tu)] at_57
  obtain ⟨T1469, h1469, X1469, e1469, W1469, f1468, N1469, st1469⟩ := wiastore X1467 hx hby hZ e1467 N1467 f1466 (by omega : n0 ≤ (tu : Nat)) (12 : Int32) (4 : Int32) 12 rfl (by decide) (by decide) (Nat.le_of_ble_eq_true rfl) L1441 [(.ref tu)] at_62
  obtain ⟨L1470, hL1470⟩ := own_nm #[.val (.int i0), .val (.int i1), .val (.int i2), .val (.int i3), .val (.int i4), .val (.ref tu), .unset, .unset, .unset, .unset, .unset, .unset, .unset, .unset, .unset, .unset, .unset, .unset, .unset, .unset, .unset, .unset, .unset, .unset, .unset, .unset, .unset, .unset, .unset, .unset, .unset, .unset, .unset, .unset, .unset, .unset, .unset, .unset, .unset]
  have f1471 := (((((((((((((((Keep.refl h0 []).ext E1442).wr W1445 (Or.inr (by omega : h0.size ≤ (tu : Nat)))).wr W1447 (Or.inr (by omega : h0.size ≤ (tu : Nat)))).wr W1449 (Or.inr (by omega : h0.size ≤ (tu : Nat)))).wr W1451 (Or.inr (by omega : h0.size ≤ (tu : Nat)))).wr W1453 (Or.inr (by omega : h0.size ≤ (tu : Nat)))).wr W1455 (Or.inr (by omega : h0.size ≤ (tu : Nat)))).wr W1457 (Or.inr (by omega : h0.size ≤ (tu : Nat)))).wr W1459 (Or.inr (by omega : h0.size ≤ (tu : Nat)))).wr W1461 (Or.inr (by omega : h0.size ≤ (tu : Nat)))).wr W1463 (Or.inr (by omega : h0.size ≤ (tu : Nat)))).wr W1465 (Or.inr (by omega : h0.size ≤ (tu : Nat)))).wr W1467 (Or.inr (by omega : h0.size ≤ (tu : Nat)))).wr W1469 (Or.inr (by omega : h0.size ≤ (tu : Nat))))
  obtain ⟨T1472, h1472, k1472, X1472, e1472, E1472, A1472, Q1472, st1472⟩ := newPE X1469 hx hZ (aty := .int) (hw _ tm0) e1469 (g := (mkF m 67 L1470 [(.int 13)])) rfl (hb hby at_67) rfl (by decide) (cap := 13) (by decide) (by decide) (by decide) (by decide) (ad := "[I") (by decide)
  obtain ⟨tv, g1472⟩ : ∃ z, z = h1469.size := ⟨_, rfl⟩
  rw [← g1472] at A1472 Q1472 st1472
  have lt_tu_tv : (tu : Nat) < tv := by rw [g1472]; exact f1468.lt
  have sz_h0_tv : h0.size ≤ (tv : Nat) := by rw [g1472]; exact f1471.1
  have f1473 : Arv Z h1472 tv k1472 .int 13 [(.int 0), (.int 0), (.int 0), (.int 0), (.int 0), (.int 0), (.int 0), (.int 0), (.int 0), (.int 0), (.int 0), (.int 0), (.int 0)] (.int 0) := (Arv.new A1472 (by decide)).pad (pad_rep [] (.int 0) 13)
  obtain ⟨T1475, h1475, X1475, e1475, W1475, f1474, N1475, st1475⟩ := wiastore X1472 hx hby hZ e1472 N1469 f1473 (by omega : n0 ≤ (tv : Nat)) (0 : Int32) (0 : Int32) 0 rfl (by decide) (by decide) (Nat.le_of_ble_eq_true rfl) L1470 [(.ref tv)] at_72
  obtain ⟨T1477, h1477, X1477, e1477, W1477, f1476, N1477, st1477⟩ := wiastore X1475 hx hby hZ e1475 N1475 f1474 (by omega : n0 ≤ (tv : Nat)) (1 : Int32) (1 : Int32) 1 rfl (by decide) (by decide) (Nat.le_of_ble_eq_true rfl) L1470 [(.ref tv)] at_76
  obtain ⟨T1479, h1479, X1479, e1479, W1479, f1478, N1479, st1479⟩ := wiastore X1477 hx hby hZ e1477 N1477 f1476 (by omega : n0 ≤ (tv : Nat)) (2 : Int32) (2 : Int32) 2 rfl (by decide) (by decide) (Nat.le_of_ble_eq_true rfl) L1470 [(.ref tv)] at_80
  obtain ⟨T1481, h1481, X1481, e1481, W1481, f1480, N1481, st1481⟩ := wiastore X1479 hx hby hZ e1479 N1479 f1478 (by omega : n0 ≤ (tv : Nat)) (3 : Int32) (3 : Int32) 3 rfl (by decide) (by decide) (Nat.le_of_ble_eq_true rfl) L1470 [(.ref tv)] at_84
  obtain ⟨T1483, h1483, X1483, e1483, W1483, f1482, N1483, st1483⟩ := wiastore X1481 hx hby hZ e1481 N1481 f1480 (by omega : n0 ≤ (tv : Nat)) (4 : Int32) (4 : Int32) 4 rfl (by decide) (by decide) (Nat.le_of_ble_eq_true rfl) L1470 [(.ref tv)] at_88
  obtain ⟨T1485, h1485, X1485, e1485, W1485, f1484, N1485, st1485⟩ := wiastore X1483 hx hby hZ e1483 N1483 f1482 (by omega : n0 ≤ (tv : Nat)) (5 : Int32) (0 : Int32) 5 rfl (by decide) (by decide) (Nat.le_of_ble_eq_true rfl) L1470 [(.ref tv)] at_92
  obtain ⟨T1487, h1487, X1487, e1487, W1487, f1486, N1487, st1487⟩ := wiastore X1485 hx hby hZ e1485 N1485 f1484 (by omega : n0 ≤ (tv : Nat)) (6 : Int32) (0 : Int32) 6 rfl (by decide) (by decide) (Nat.le_of_ble_eq_true rfl) L1470 [(.ref tv)] at_97
  obtain ⟨T1489, h1489, X1489, e1489, W1489, f1488, N1489, st1489⟩ := wiastore X1487 hx hby hZ e1487 N1487 f1486 (by omega : n0 ≤ (tv : Nat)) (7 : Int32) (0 : Int32) 7 rfl (by decide) (by decide) (Nat.le_of_ble_eq_true rfl) L1470 [(.ref tv)] at_102
  obtain ⟨T1491, h1491, X1491, e1491, W1491, f1490, N1491, st1491⟩ := wiastore X1489 hx hby hZ e1489 N1489 f1488 (by omega : n0 ≤ (tv : Nat)) (8 : Int32) (0 : Int32) 8 rfl (by decide) (by decide) (Nat.le_of_ble_eq_true rfl) L1470 [(.ref tv)] at_107
  obtain ⟨T1493, h1493, X1493, e1493, W1493, f1492, N1493, st1493⟩ := wiastore X1491 hx hby hZ e1491 N1491 f1490 (by omega : n0 ≤ (tv : Nat)) (9 : Int32) (4 : Int32) 9 rfl (by decide) (by decide) (Nat.le_of_ble_eq_true rfl) L1470 [(.ref tv)] at_112
  obtain ⟨T1495, h1495, X1495, e1495, W1495, f1494, N1495, st1495⟩ := wiastore X1493 hx hby hZ e1493 N1493 f1492 (by omega : n0 ≤ (tv : Nat)) (10 : Int32) (2 : Int32) 10 rfl (by decide) (by decide) (Nat.le_of_ble_eq_true rfl) L1470 [(.ref tv)] at_117
  obtain ⟨T1497, h1497, X1497, e1497, W1497, f1496, N1497, st1497⟩ := wiastore X1495 hx hby hZ e1495 N1495 f1494 (by omega : n0 ≤ (tv : Nat)) (11 : Int32) (4 : Int32) 11 rfl (by decide) (by decide) (Nat.le_of_ble_eq_true rfl) L1470 [(.ref tv)] at_122
  obtain ⟨T1499, h1499, X1499, e1499, W1499, f1498, N1499, st1499⟩ := wiastore X1497 hx hby hZ e1497 N1497 f1496 (by omega : n0 ≤ (tv : Nat)) (12 : Int32) (3 : Int32) 12 rfl (by decide) (by decide) (Nat.le_of_ble_eq_true rfl) L1470 [(.ref tv)] at_127
  obtain ⟨L1500, hL1500⟩ := own_nm #[.val (.int i0), .val (.int i1), .val (.int i2), .val (.int i3), .val (.int i4), .val (.ref tu), .val (.ref tv), .unset, .unset, .unset, .unset, .unset, .unset, .unset, .unset, .unset, .unset, .unset, .unset, .unset, .unset, .unset, .unset, .unset, .unset, .unset, .unset, .unset, .unset, .unset, .unset, .unset, .unset, .unset, .unset, .unset, .unset, .unset, .unset]
  have L1500_3 := own_ld hL1500 3 rfl
  obtain ⟨L1501, hL1501⟩ := own_nm #[.val (.int i0), .val (.int i1), .val (.int i2), .val (.int i3), .val (.int i4), .val (.ref tu), .val (.ref tv), .val (.int xi), .unset, .unset, .unset, .unset, .unset, .unset, .unset, .unset, .unset, .unset, .unset, .unset, .unset, .unset, .unset, .unset, .unset, .unset, .unset, .unset, .unset, .unset, .unset, .unset, .unset, .unset, .unset, .unset, .unset, .unset, .unset]
  have L1501_4 := own_ld hL1501 4 rfl
  obtain ⟨L1502, hL1502⟩ := own_nm #[.val (.int i0), .val (.int i1), .val (.int i2), .val (.int i3), .val (.int i4), .val (.ref tu), .val (.ref tv), .val (.int xi), .val (.int yi), .unset, .unset, .unset, .unset, .unset, .unset, .unset, .unset, .unset, .unset, .unset, .unset, .unset, .unset, .unset, .unset, .unset, .unset, .unset, .unset, .unset, .unset, .unset, .unset, .unset, .unset, .unset, .unset, .unset, .unset]
  have L1502_5 := own_ld hL1502 5 rfl
  have L1502_7 := own_ld hL1502 7 rfl
  have f1503 := ((((((((((((((f1468.ext E1472).other W1475 (by omega : (tu : Nat) ≠ tv)).other W1477 (by omega : (tu : Nat) ≠ tv)).other W1479 (by omega : (tu : Nat) ≠ tv)).other W1481 (by omega : (tu : Nat) ≠ tv)).other W1483 (by omega : (tu : Nat) ≠ tv)).other W1485 (by omega : (tu : Nat) ≠ tv)).other W1487 (by omega : (tu : Nat) ≠ tv)).other W1489 (by omega : (tu : Nat) ≠ tv)).other W1491 (by omega : (tu : Nat) ≠ tv)).other W1493 (by omega : (tu : Nat) ≠ tv)).other W1495 (by omega : (tu : Nat) ≠ tv)).other W1497 (by omega : (tu : Nat) ≠ tv)).other W1499 (by omega : (tu : Nat) ≠ tv))
  obtain ⟨L1504, hL1504⟩ := own_nm #[.val (.int i0), .val (.int i1), .val (.int i2), .val (.int i3), .val (.int i4), .val (.ref tu), .val (.ref tv), .val (.int xi), .val (.int yi), .val (.double va), .second, .unset, .unset, .unset, .unset, .unset, .unset, .unset, .unset, .unset, .unset, .unset, .unset, .unset, .unset, .unset, .unset, .unset, .unset, .unset, .unset, .unset, .unset, .unset, .unset, .unset, .unset, .unset, .unset]
  have L1504_6 := own_ld hL1504 6 rfl
  have L1504_7 := own_ld hL1504 7 rfl
  obtain ⟨L1505, hL1505⟩ := own_nm #[.val (.int i0), .val (.int i1), .val (.int i2), .val (.int i3), .val (.int i4), .val (.ref tu), .val (.ref tv), .val (.int xi), .val (.int yi), .val (.double va), .second, .val (.double vc), .second, .unset, .unset, .unset, .unset, .unset, .unset, .unset, .unset, .unset, .unset, .unset, .unset, .unset, .unset, .unset, .unset, .unset, .unset, .unset, .unset, .unset, .unset, .unset, .unset, .unset, .unset]
  have L1505_9 := own_ld hL1505 9 rfl
  have L1505_11 := own_ld hL1505 11 rfl
  obtain ⟨L1506, hL1506⟩ := own_nm #[.val (.int i0), .val (.int i1), .val (.int i2), .val (.int i3), .val (.int i4), .val (.ref tu), .val (.ref tv), .val (.int xi), .val (.int yi), .val (.double va), .second, .val (.double vc), .second, .val (.double (FP.dmul va vc)), .second, .unset, .unset, .unset, .unset, .unset, .unset, .unset, .unset, .unset, .unset, .unset, .unset, .unset, .unset, .unset, .unset, .unset, .unset, .unset, .unset, .unset, .unset, .unset, .unset]
  have f1508 := ((((((((((((((f1471.ext E1472).wr W1475 (Or.inr (by omega : h0.size ≤ (tv : Nat)))).wr W1477 (Or.inr (by omega : h0.size ≤ (tv : Nat)))).wr W1479 (Or.inr (by omega : h0.size ≤ (tv : Nat)))).wr W1481 (Or.inr (by omega : h0.size ≤ (tv : Nat)))).wr W1483 (Or.inr (by omega : h0.size ≤ (tv : Nat)))).wr W1485 (Or.inr (by omega : h0.size ≤ (tv : Nat)))).wr W1487 (Or.inr (by omega : h0.size ≤ (tv : Nat)))).wr W1489 (Or.inr (by omega : h0.size ≤ (tv : Nat)))).wr W1491 (Or.inr (by omega : h0.size ≤ (tv : Nat)))).wr W1493 (Or.inr (by omega : h0.size ≤ (tv : Nat)))).wr W1495 (Or.inr (by omega : h0.size ≤ (tv : Nat)))).wr W1497 (Or.inr (by omega : h0.size ≤ (tv : Nat)))).wr W1499 (Or.inr (by omega : h0.size ≤ (tv : Nat))))
  have Z1507 : n0 ≤ h1499.size := Nat.le_trans Z0 f1508.1
  obtain ⟨T1509, h1509, LT1509, X1509, e1509, N1509, eh1509, st1509⟩ := lw1 Z a0 hw i0 i1 i2 i3 i4 tu tv xi yi va vc sk h1499 n0 X1499 hx hZ hby hml hown e1499 N1499 Z1507 hsk
  obtain ⟨L1510, hL1510⟩ := own_nm #[.val (.int i0), .val (.int i1), .val (.int i2), .val (.int i3), .val (.int i4), .val (.ref tu), .val (.ref tv), .val (.int xi), .val (.int yi), .val (.double va), .second, .val (.double vc), .second, .val (.double (FP.dmul va vc)), .second, .val (.double sk), .second, .unset, .unset, .unset, .unset, .unset, .unset, .unset, .unset, .unset, .unset, .unset, .unset, .unset, .unset, .unset, .unset, .unset, .unset, .unset, .unset, .unset, .unset]
  rw [eh1509] at e1509
  have L1510_5 := own_ld hL1510 5 rfl
  have L1510_8 := own_ld hL1510 8 rfl
  have L1510_15 := own_ld hL1510 15 rfl
  obtain ⟨L1511, hL1511⟩ := own_nm #[.val (.int i0), .val (.int i1), .val (.int i2), .val (.int i3), .val (.int i4), .val (.ref tu), .val (.ref tv), .val (.int xi), .val (.int yi), .val (.double va), .second, .val (.double vc), .second, .val (.double (FP.dmul va vc)), .second, .val (.double sk), .second, .val (.double vd), .second, .unset, .unset, .unset, .unset, .unset, .unset, .unset, .unset, .unset, .unset, .unset, .unset, .unset, .unset, .unset, .unset, .unset, .unset, .unset, .unset]
  have L1511_6 := own_ld hL1511 6 rfl
  have L1511_8 := own_ld hL1511 8 rfl
  obtain ⟨L1512, hL1512⟩ := own_nm #[.val (.int i0), .val (.int i1), .val (.int i2), .val (.int i3), .val (.int i4), .val (.ref tu), .val (.ref tv), .val (.int xi), .val (.int yi), .val (.double va), .second, .val (.double vc), .second, .val (.double (FP.dmul va vc)), .second, .val (.double sk), .second, .val (.double vd), .second, .val (.double ve), .second, .unset, .unset, .unset, .unset, .unset, .unset, .unset, .unset, .unset, .unset, .unset, .unset, .unset, .unset, .unset, .unset, .unset, .unset]
  have L1512_0 := own_ld hL1512 0 rfl
  obtain ⟨L1513, hL1513⟩ := own_nm #[.val (.int i0), .val (.int i1), .val (.int i2), .val (.int i3), .val (.int i4), .val (.ref tu), .val (.ref tv), .val (.int xi), .val (.int yi), .val (.double va), .second, .val (.double vc), .second, .val (.double (FP.dmul va vc)), .second, .val (.double sk), .second, .val (.double vd), .second, .val (.double ve), .second, .val (.double d0), .second, .unset, .unset, .unset, .unset, .unset, .unset, .unset, .unset, .unset, .unset, .unset, .unset, .unset, .unset, .unset, .unset]
  have L1513_1 := own_ld hL1513 1 rfl
  obtain ⟨L1514, hL1514⟩ := own_nm #[.val (.int i0), .val (.int i1), .val (.int i2), .val (.int i3), .val (.int i4), .val (.ref tu), .val (.ref tv), .val (.int xi), .val (.int yi), .val (.double va), .second, .val (.double vc), .second, .val (.double (FP.dmul va vc)), .second, .val (.double sk), .second, .val (.double vd), .second, .val (.double ve), .second, .val (.double d0), .second, .val (.double d1), .second, .unset, .unset, .unset, .unset, .unset, .unset, .unset, .unset, .unset, .unset, .unset, .unset, .unset, .unset]
  have L1514_2 := own_ld hL1514 2 rfl
  obtain ⟨L1515, hL1515⟩ := own_nm #[.val (.int i0), .val (.int i1), .val (.int i2), .val (.int i3), .val (.int i4), .val (.ref tu), .val (.ref tv), .val (.int xi), .val (.int yi), .val (.double va), .second, .val (.double vc), .second, .val (.double (FP.dmul va vc)), .second, .val (.double sk), .second, .val (.double vd), .second, .val (.double ve), .second, .val (.double d0), .second, .val (.double d1), .second, .val (.double d2), .second, .unset, .unset, .unset, .unset, .unset, .unset, .unset, .unset, .unset, .unset, .unset, .unset]
  have L1515_9 := own_ld hL1515 9 rfl
  have Z1516 : n0 ≤ h1499.size := Nat.le_trans Z0 f1508.1
  obtain ⟨T1517, h1517, LT1517, X1517, e1517, N1517, eh1517, st1517⟩ := lwc252 Z a0 hw va fa (0 : Int32) L1515 h1499 n0 X1509 hx hZ hby hml hown e1509 N1509 Z1516 L1515_9 hfa
  rw [eh1517] at e1517
  have L1515_11 := own_ld hL1515 11 rfl
  have Z1518 : n0 ≤ h1499.size := Nat.le_trans Z0 f1508.1
  obtain ⟨T1519, h1519, LT1519, X1519, e1519, N1519, eh1519, st1519⟩ := lwc264 Z a0 hw vc fc (own_i fa) L1515 h1499 n0 X1517 hx hZ hby hml hown e1517 N1517 Z1518 L1515_11 hfc
  rw [eh1519] at e1519
  have L1515_17 := own_ld hL1515 17 rfl
  have Z1520 : n0 ≤ h1499.size := Nat.le_trans Z0 f1508.1
  obtain ⟨T1521, h1521, LT1521, X1521, e1521, N1521, eh1521, st1521⟩ := lwc277 Z a0 hw vd fd ((own_i fa) + own_i fc) L1515 h1499 n0 X1519 hx hZ hby hml hown e1519 N1519 Z1520 L1515_17 hfd
  rw [eh1521] at e1521
  have L1515_19 := own_ld hL1515 19 rfl
  have Z1522 : n0 ≤ h1499.size := Nat.le_trans Z0 f1508.1
  obtain ⟨T1523, h1523, LT1523, X1523, e1523, N1523, eh1523, st1523⟩ := lwc290 Z a0 hw ve fe (((own_i fa) + own_i fc) + own_i fd) L1515 h1499 n0 X1521 hx hZ hby hml hown e1521 N1521 Z1522 L1515_19 hfe
  rw [eh1523] at e1523
  obtain ⟨L1524, hL1524⟩ := own_nm #[.val (.int i0), .val (.int i1), .val (.int i2), .val (.int i3), .val (.int i4), .val (.ref tu), .val (.ref tv), .val (.int xi), .val (.int yi), .val (.double va), .second, .val (.double vc), .second, .val (.double (FP.dmul va vc)), .second, .val (.double sk), .second, .val (.double vd), .second, .val (.double ve), .second, .val (.double d0), .second, .val (.double d1), .second, .val (.double d2), .second, .val (.int (((own_i fa + own_i fc) + own_i fd) + own_i fe)), .unset, .unset, .unset, .unset, .unset, .unset, .unset, .unset, .unset, .unset, .unset]
  obtain ⟨T1525, h1525, X1525, e1525, E1525, A1525, D1525, -, st1525⟩ := newO X1523 hx hZ hown (hw _ tm5) (hw _ tm6) (hw _ tm7) e1523 (g := (mkF m 305 L1524 [])) rfl (hb hby at_305) (by decide) (by decide)
  obtain ⟨a1, g1525⟩ : ∃ z, z = h1499.size := ⟨_, rfl⟩
  rw [← g1525] at A1525 D1525 st1525
  have lt_tv_a1 : (tv : Nat) < a1 := by rw [g1525]; exact f1498.lt
  have sz_h0_a1 : h0.size ≤ (a1 : Nat) := by rw [g1525]; exact f1508.1
  have f1526 : own_obj Z h1525 a1 [(.int 0), .null, .null, .null, .null, .null, (.int 0), (.long 0), (.long 0), .null, .null, (.int 0), .null, .null, (.int 0), .null, .null, .null, .null] := ⟨A1525, rfl, fun i hi => by
      match i, hi with
      | 0, _ => exact D1525 (hl 0 (by decide)) (ty := .int) (by decide +kernel)
      | 1, _ => exact D1525 (hl 1 (by decide)) (ty := (.array (.array .int))) (by decide +kernel)
      | 2, _ => exact D1525 (hl 2 (by decide)) (ty := (.array (.array .double))) (by decide +kernel)
      | 3, _ => exact D1525 (hl 3 (by decide)) (ty := (.array .int)) (by decide +kernel)
      | 4, _ => exact D1525 (hl 4 (by decide)) (ty := (.array (.array .int))) (by decide +kernel)
      | 5, _ => exact D1525 (hl 5 (by decide)) (ty := (.array .int)) (by decide +kernel)
      | 6, _ => exact D1525 (hl 6 (by decide)) (ty := .int) (by decide +kernel)
      | 7, _ => exact D1525 (hl 7 (by decide)) (ty := .long) (by decide +kernel)
      | 8, _ => exact D1525 (hl 8 (by decide)) (ty := .long) (by decide +kernel)
      | 9, _ => exact D1525 (hl 9 (by decide)) (ty := (.array .int)) (by decide +kernel)
      | 10, _ => exact D1525 (hl 10 (by decide)) (ty := (.array .double)) (by decide +kernel)
      | 11, _ => exact D1525 (hl 11 (by decide)) (ty := .int) (by decide +kernel)
      | 12, _ => exact D1525 (hl 12 (by decide)) (ty := (.array .int)) (by decide +kernel)
      | 13, _ => exact D1525 (hl 13 (by decide)) (ty := (.array .double)) (by decide +kernel)
      | 14, _ => exact D1525 (hl 14 (by decide)) (ty := .int) (by decide +kernel)
      | 15, _ => exact D1525 (hl 15 (by decide)) (ty := (.array .int)) (by decide +kernel)
      | 16, _ => exact D1525 (hl 16 (by decide)) (ty := (.array .int)) (by decide +kernel)
      | 17, _ => exact D1525 (hl 17 (by decide)) (ty := (.array .double)) (by decide +kernel)
      | 18, _ => exact D1525 (hl 18 (by decide)) (ty := (.array .double)) (by decide +kernel)
      | j + 19, h => exact absurd h (by omega)⟩
  have g_a : n0 ≤ a1 := by omega
  have la1 := f1526.lt
  have f1528 := (f1508.ext E1525)
  have Z1527 : n0 ≤ h1525.size := Nat.le_trans Z0 f1528.1
  obtain ⟨_, _, ⟨T1529, L1529, k1529, n1529⟩, -, X1529, ⟨Lc1529, hQ1529, l1529, y1529, z1529⟩, st1529⟩ := X1525.specialBack hx (y := (⟨"com/example/odds2/odds2/engine/Elimination", "<init>", "(I)V"⟩ : MethodName)) rfl hown (mvT hZ (hw _ tm8)) (mvT hZ (hw _ tm9)) (mvT hZ (hw _ tm10)) (by decide) (backOf (W := 1) (rm1 l Z a0 hw [] a1 h1525 n0 Z1527 f1526 g_a) hZ (hw _ tm10) (hw _ tm7) (by decide) (by decide)) (g := (mkF m 310 L1524 [(.int 3), (.ref a1), (.ref a1)])) rfl (by rw [hml, hL1524]; rfl) (Steps.refl _) (a := a1) (argsL := [(.int 3)]) (rest := [(.ref a1)]) (lenOf pd_11 rfl) rfl (by show 2 * 0 + _ ≤ _; exact Nat.le_of_eq rfl) (hb hby at_310) (fun _ _ => ⟨rfl, e1525, (by decide : 3 + 13 ≤ _), (by decide : 45 + 143 ≤ _)⟩)
  dsimp only [Pt.U, Pt.locs, Pt.cells, Pt.slots] at X1529 l1529 y1529 z1529 st1529 hQ1529
  subst l1529 y1529 z1529
  obtain ⟨oc, od, mc, md, sr, sp, sw, ss, co, cf, le, re, rc, k_oc, k_od, k_mc, k_md, k_sr, k_sp, k_sw, k_ss, k_co, k_cf, k_le, k_re, k_rc, rfl, N1529q, K1529, Oi1529, Woc1529, Wod1529, Wmc1529, Wmd1529, Wsr1529, Wsp1529, Wsw1529, Wss1529, Wco1529, Wcf1529, Wle1529, Wre1529, Wrc1529, ⟨OVc, OVf, OV⟩, szoc, lo0, lo1, lo2, lo3, lo4, lo5, lo6, lo7, lo8, lo9, lo10, lo11⟩ := hQ1529
  have N1529 := Fr.app N1523 N1529q
  have f1530 : Arv Z T1529.heap le k_le .int 3 [(.int 0), (.int 0), (.int 0)] (.int 0) := Wle1529.pad (fun i => own_pad3 i)
  have f1531 : Arv Z T1529.heap rc k_rc .int 3 [(.int 0), (.int 0), (.int 0)] (.int 0) := Wrc1529.pad (fun i => own_pad3 i)
  have ord : own_ord a1 oc od mc md sr sp sw ss co cf le re rc := ⟨by omega, lo0, lo1, lo2, lo3, lo4, lo5, lo6, lo7, lo8, lo9, lo10, lo11⟩
  obtain ⟨or0, or1, or2, or3, or4, or5, or6, or7, or8, or9, or10, or11, or12⟩ := id ord
  obtain ⟨L1532, hL1532⟩ := own_nm #[.val (.int i0), .val (.int i1), .val (.int i2), .val (.int i3), .val (.int i4), .val (.ref tu), .val (.ref tv), .val (.int xi), .val (.int yi), .val (.double va), .second, .val (.double vc), .second, .val (.double (FP.dmul va vc)), .second, .val (.double sk), .second, .val (.double vd), .second, .val (.double ve), .second, .val (.double d0), .second, .val (.double d1), .second, .val (.double d2), .second, .val (.int (((own_i fa + own_i fc) + own_i fd) + own_i fe)), .val (.ref a1), .unset, .unset, .unset, .unset, .unset, .unset, .unset, .unset, .unset, .unset]
  have L1532_9 := own_ld hL1532 9 rfl
  have L1532_28 := own_ld hL1532 28 rfl
  have Z1533 : n0 ≤ T1529.heap.size := by have zq := Oi1529.lt; omega
  obtain ⟨T1534, h1534, LT1534, ca, da, b1, kca, kda, kb1, c0, c1, y0, y1, X1534, e1534, N1534, K1534, Oa1534, Foc1534, Fod1534, Fco1534, Fcf1534, Fle1534, Fre1534, Frc1534, Fca1534, Fda1534, Gb1534, oca, oda, ob1, oba, st1534⟩ := rw0 Z a0 hw a1 oc od mc md sr sp sw ss co cf le re rc k_oc k_od k_co k_cf k_le k_re k_rc fa va L1532 T1529.heap n0 X1529 hx hZ hby hml hown rfl N1529 Z1533 L1532_28 L1532_9 (by rw [hml, hL1532]; rfl) Oi1529 Woc1529 Wod1529 Wco1529 Wcf1529 f1530 Wre1529 f1531 OVc OVf OV hfa ord g_a
  have lda : (da : Nat) < h1534.size := Fda1534.lt
  have L1532_11 := own_ld hL1532 11 rfl
  have L1532_17 := own_ld hL1532 17 rfl
  have Z1535 : n0 ≤ h1534.size := by have zq := Oa1534.lt; omega
  obtain ⟨T1536, h1536, LT1536, cb, db, b0, b2, kcb, kdb, kb0, kb2, c0', c1', y0', y1', g0, g2, X1536, e1536, N1536, K1536, Oa1536, Foc1536, Fod1536, Fco1536, Fcf1536, Fle1536, Fre1536, Frc1536, Fcb1536, Fdb1536, hg0, hg2, Gb0, Gb2, ocb, odb, ob0, ob2, st1536⟩ := rw1 Z a0 hw a1 oc od mc md sr sp sw ss co cf le re rc k_oc k_od k_co k_cf k_le k_re k_rc ((0 : Int64) + (own_i fa).toInt64) ((0 : Int64) + (own_i fa).toInt64) fc fd vc vd ca da c0 c1 y0 y1 (own_i fa) (cond fa (.ref b1) .null) (own_i fa) L1532 h1534 n0 X1534 hx hZ hby hml hown e1534 N1534 Z1535 L1532_28 L1532_11 L1532_17 (by rw [hml, hL1532]; rfl) Oa1534 Foc1534 Fod1534 Fco1534 Fcf1534 Fle1534 Fre1534 Frc1534 OVc OVf OV hfc hfd ord g_a
  have ldb : (db : Nat) < h1536.size := Fdb1536.lt
  have L1532_19 := own_ld hL1532 19 rfl
  have f1537 := fun qg => (Gb1534 qg).keep K1536 (by have zo := oba qg; repeat' first | exact nin0 | refine ninS ?_ ?_ | (show (_ : Nat) ≠ _; omega))
  have Z1538 : n0 ≤ h1536.size := by have zq := Oa1536.lt; omega
  obtain ⟨T1539, h1539, LT1539, cc, dc, bx, kcc, kdc, kbx, g1, X1539, e1539, N1539, K1539, Oa1539, Fco1539, Fcf1539, Fle1539, Fre1539, Frc1539, Fcc1539, Fdc1539, hg1, Gb1, occ, odc, obb, st1539⟩ := rw2 Z a0 hw a1 oc od mc md sr sp sw ss co cf le re rc k_oc k_od k_co k_cf k_le k_re k_rc (((0 : Int64) + (own_i fa).toInt64) + (own_lb fc fd).toInt64) (((0 : Int64) + (own_i fa).toInt64) + (own_lb fc fd).toInt64) fa fe ve ca da cb db b1 kb1 c0' c1' y0' y1' (own_i fa) (own_lb fc fd) g0 g2 (own_i fc) (own_i fd) L1532 h1536 n0 X1536 hx hZ hby hml hown e1536 N1536 Z1538 L1532_28 L1532_19 (by rw [hml, hL1532]; rfl) Oa1536 Foc1536 Fod1536 Fco1536 Fcf1536 Fle1536 Fre1536 Frc1536 OVc OVf OV f1537 (fun q => by have zo := oba q; omega) odb ldb (by omega) hfe ord g_a
  rw [own_ens fa fc fd fe] at Oa1539
  have f1540 := (((Wmc1529.keep K1534 (by repeat' first | exact nin0 | refine ninS ?_ ?_ | (show (_ : Nat) ≠ _; omega))).keep K1536 (by repeat' first | exact nin0 | refine ninS ?_ ?_ | (show (_ : Nat) ≠ _; omega))).keep K1539 (by repeat' first | exact nin0 | refine ninS ?_ ?_ | (show (_ : Nat) ≠ _; omega)))
  have f1541 := (((Wmd1529.keep K1534 (by repeat' first | exact nin0 | refine ninS ?_ ?_ | (show (_ : Nat) ≠ _; omega))).keep K1536 (by repeat' first | exact nin0 | refine ninS ?_ ?_ | (show (_ : Nat) ≠ _; omega))).keep K1539 (by repeat' first | exact nin0 | refine ninS ?_ ?_ | (show (_ : Nat) ≠ _; omega)))
  have f1542 := (((Wsr1529.keep K1534 (by repeat' first | exact nin0 | refine ninS ?_ ?_ | (show (_ : Nat) ≠ _; omega))).keep K1536 (by repeat' first | exact nin0 | refine ninS ?_ ?_ | (show (_ : Nat) ≠ _; omega))).keep K1539 (by repeat' first | exact nin0 | refine ninS ?_ ?_ | (show (_ : Nat) ≠ _; omega)))
  have f1543 := (((Wsp1529.keep K1534 (by repeat' first | exact nin0 | refine ninS ?_ ?_ | (show (_ : Nat) ≠ _; omega))).keep K1536 (by repeat' first | exact nin0 | refine ninS ?_ ?_ | (show (_ : Nat) ≠ _; omega))).keep K1539 (by repeat' first | exact nin0 | refine ninS ?_ ?_ | (show (_ : Nat) ≠ _; omega)))
  have f1544 := (((Wsw1529.keep K1534 (by repeat' first | exact nin0 | refine ninS ?_ ?_ | (show (_ : Nat) ≠ _; omega))).keep K1536 (by repeat' first | exact nin0 | refine ninS ?_ ?_ | (show (_ : Nat) ≠ _; omega))).keep K1539 (by repeat' first | exact nin0 | refine ninS ?_ ?_ | (show (_ : Nat) ≠ _; omega)))
  have f1545 := (((Wss1529.keep K1534 (by repeat' first | exact nin0 | refine ninS ?_ ?_ | (show (_ : Nat) ≠ _; omega))).keep K1536 (by repeat' first | exact nin0 | refine ninS ?_ ?_ | (show (_ : Nat) ≠ _; omega))).keep K1539 (by repeat' first | exact nin0 | refine ninS ?_ ?_ | (show (_ : Nat) ≠ _; omega)))
  have f1546 := ((Fca1534.keep K1536 (by repeat' first | exact nin0 | refine ninS ?_ ?_ | (show (_ : Nat) ≠ _; omega))).keep K1539 (by repeat' first | exact nin0 | refine ninS ?_ ?_ | (show (_ : Nat) ≠ _; omega)))
  have f1547 := ((Fda1534.keep K1536 (by repeat' first | exact nin0 | refine ninS ?_ ?_ | (show (_ : Nat) ≠ _; omega))).keep K1539 (by repeat' first | exact nin0 | refine ninS ?_ ?_ | (show (_ : Nat) ≠ _; omega)))
  have f1548 := (Fcb1536.keep K1539 (by repeat' first | exact nin0 | refine ninS ?_ ?_ | (show (_ : Nat) ≠ _; omega)))
  have f1549 := (Fdb1536.keep K1539 (by repeat' first | exact nin0 | refine ninS ?_ ?_ | (show (_ : Nat) ≠ _; omega)))
  have f1550 := fun qg => (Gb0 qg).keep K1539 (by have zo := ob0 qg; repeat' first | exact nin0 | refine ninS ?_ ?_ | (show (_ : Nat) ≠ _; omega))
  have f1551 := fun qg => (Gb2 qg).keep K1539 (by have zo := ob2 qg; repeat' first | exact nin0 | refine ninS ?_ ?_ | (show (_ : Nat) ≠ _; omega))
  have Z1552 : n0 ≤ h1539.size := by have zq := Oa1539.lt; omega
  obtain ⟨cq1553, kq1553, q1553a, q1553b, q1553c⟩ := isOf hZ e1539 Oa1539.1
  obtain ⟨_, _, ⟨T1553, L1553, k1553, n1553⟩, -, X1553, ⟨Lc1553, hQ1553, l1553, y1553, z1553⟩, st1553⟩ := X1539.virtualBack hx (y := (⟨"com/example/odds2/odds2/engine/Elimination", "eliminate", "(J)Z"⟩ : MethodName)) (z := (⟨"com/example/odds2/odds2/engine/Elimination", "eliminate", "(J)Z"⟩ : MethodName)) hown (mvT hZ (hw _ tm87)) (mvT hZ (hw _ tm88)) (notFace_of_selects (args := #[]) (mvT hZ (hw _ tm90))) (mvT hZ (hw _ tm90)) (mvT hZ (hw _ tm89)) (by decide) (backOf (W := 0) (rmEL l Z a0 hw [] a1 oc od mc md sr sp sw ss co cf le re rc k_co k_cf k_le k_mc k_md k_sr k_sp k_sw k_ss k_re k_rc (3 : Int32) (own_en fa fc fd fe) fa fc fd fe ca da cb db cc dc kca kda kcb kdb kcc kdc (0 : Int32) (0 : Int32) (0 : UInt64) (0 : UInt64) b0 bx b2 kb0 kbx kb2 g0 g1 g2 va vc vd ve ow1 sc1 ow2 sc2 h1539 n0 Z1552 Oa1539 Fco1539 Fcf1539 Fle1539 Fre1539 Frc1539 f1540 f1541 f1542 f1543 f1544 f1545 f1546 f1547 f1548 f1549 Fcc1539 Fdc1539 hg0 hg1 hg2 f1550 Gb1 f1551 obb (fun q => by have zo := ob2 q; omega) fac1 nw fac2 oca oda (by omega) odb (by omega) odc ord g_a) hZ (hw _ tm91) (hw _ tm7) (by decide) (by decide)) q1553a q1553c (g := (mkF m 395 L1532 [(.long 9223372036854775807), (.ref a1)])) rfl (by rw [hml, hL1532]; rfl) (Steps.refl _) (argsL := [(.long 9223372036854775807)]) (rest := []) (lenOf pd_12 rfl) rfl (by show 2 * 0 + _ ≤ _; exact Nat.le_of_eq rfl) (hb hby at_395) (fun _ _ => ⟨rfl, e1539, (by decide : 29 + 0 ≤ _), (by decide : 216 + 0 ≤ _)⟩)
  dsimp only [Pt.U, Pt.locs, Pt.cells, Pt.slots] at X1553 l1553 y1553 z1553 st1553 hQ1553
  subst l1553 y1553 z1553
  obtain ⟨wkb, t0, t1, s0, s1, rfl, N1553q, K1553, Oe1553, Fle1553, Fsr1553, Fsp1553, Fsw1553, Fss1553, Fcb1553, Fdb1553, hte⟩ := hQ1553
  have N1553 := Fr.app N1539 N1553q
  have hX1 : (cond fd (FP.dadd (cond fc (FP.dmul (FP.dadd d1 (FP.dmul vc d0)) (cond fa sc1 FP.dconst1)) d1) (FP.dmul s0 (cond fe (FP.dmul (FP.dadd d2 (FP.dmul ve (cond fc (FP.dmul (FP.dadd d1 (FP.dmul vc d0)) (cond fa sc1 FP.dconst1)) d1))) (cond fd sc2 FP.dconst1)) d2))) (cond fc (FP.dmul (FP.dadd d1 (FP.dmul vc d0)) (cond fa sc1 FP.dconst1)) d1)) = x1 := by rw [← he1, ← he2, hx1]; exact own_X1 (fun q => (hte q).2)
  obtain ⟨T1554, h1554, k1554, X1554, e1554, E1554, A1554, Q1554, st1554⟩ := newPE X1553 hx hZ (aty := .double) (hw _ tm16) rfl (g := (mkF m 404 L1532 [(.int 3)])) rfl (hb hby at_404) rfl (by decide) (cap := 3) (by decide) (by decide) (by decide) (by decide) (ad := "[D") (by decide)
  obtain ⟨bb, g1554⟩ : ∃ z, z = T1553.heap.size := ⟨_, rfl⟩
  rw [← g1554] at A1554 Q1554 st1554
  have lt_db_bb : (db : Nat) < bb := by rw [g1554]; exact Fdb1553.lt
  have f1555 : Arv Z h1554 bb k1554 .double 3 [(.double 0), (.double 0), (.double 0)] (.double 0) := (Arv.new A1554 (by decide)).pad (pad_rep [] (.double 0) 3)
  obtain ⟨L1556, hL1556⟩ := own_nm #[.val (.int i0), .val (.int i1), .val (.int i2), .val (.int i3), .val (.int i4), .val (.ref tu), .val (.ref tv), .val (.int xi), .val (.int yi), .val (.double va), .second, .val (.double vc), .second, .val (.double (FP.dmul va vc)), .second, .val (.double sk), .second, .val (.double vd), .second, .val (.double ve), .second, .val (.double d0), .second, .val (.double d1), .second, .val (.double d2), .second, .val (.int (((own_i fa + own_i fc) + own_i fd) + own_i fe)), .val (.ref a1), .val (.ref bb), .unset, .unset, .unset, .unset, .unset, .unset, .unset, .unset, .unset]
  have L1556_29 := own_ld hL1556 29 rfl
  have L1556_21 := own_ld hL1556 21 rfl
  obtain ⟨T1558, h1558, X1558, e1558, W1558, f1557, N1558, st1558⟩ := wdastore X1554 hx hby hZ e1554 N1553 f1555 (by omega : n0 ≤ (bb : Nat)) (0 : Int32) d0 0 rfl (by decide) (by decide) (Nat.le_of_ble_eq_true rfl) L1556 [] at_413
  have L1556_23 := own_ld hL1556 23 rfl
  obtain ⟨T1560, h1560, X1560, e1560, W1560, f1559, N1560, st1560⟩ := wdastore X1558 hx hby hZ e1558 N1558 f1557 (by omega : n0 ≤ (bb : Nat)) (1 : Int32) d1 1 rfl (by decide) (by decide) (Nat.le_of_ble_eq_true rfl) L1556 [] at_419
  have L1556_25 := own_ld hL1556 25 rfl
  obtain ⟨T1562, h1562, X1562, e1562, W1562, f1561, N1562, st1562⟩ := wdastore X1560 hx hby hZ e1560 N1560 f1559 (by omega : n0 ≤ (bb : Nat)) (2 : Int32) d2 2 rfl (by decide) (by decide) (Nat.le_of_ble_eq_true rfl) L1556 [] at_425
  have L1556_28 := own_ld hL1556 28 rfl
  have f1564 := ((((Oe1553.ext E1554).other W1558 (by omega : (a1 : Nat) ≠ bb)).other W1560 (by omega : (a1 : Nat) ≠ bb)).other W1562 (by omega : (a1 : Nat) ≠ bb))
  have Z1563 : n0 ≤ h1562.size := by have zq := f1564.lt; omega
  obtain ⟨cq1565, kq1565, q1565a, q1565b, q1565c⟩ := isOf hZ e1562 f1564.1
  obtain ⟨_, _, ⟨T1565, L1565, k1565, n1565⟩, -, X1565, ⟨Lc1565, hQ1565, l1565, y1565, z1565⟩, st1565⟩ := X1562.virtualBack hx (y := (⟨"com/example/odds2/odds2/engine/Elimination", "work", "()J"⟩ : MethodName)) (z := (⟨"com/example/odds2/odds2/engine/Elimination", "work", "()J"⟩ : MethodName)) hown (mvT hZ (hw _ tm117)) (mvT hZ (hw _ tm118)) (notFace_of_selects (args := #[]) (mvT hZ (hw _ tm120))) (mvT hZ (hw _ tm120)) (mvT hZ (hw _ tm119)) (by decide) (backOf (W := 0) (rmW l Z a0 hw [] a1 oc od mc md sr sp sw ss co cf le re rc (3 : Int32) (own_e2 fa fc fd fe) wkb (own_lb fc fe) h1562 n0 Z1563 f1564) hZ (hw _ tm121) (hw _ tm7) (by decide) (by decide)) q1565a q1565c (g := (mkF m 428 L1556 [(.ref a1)])) rfl (by rw [hml, hL1556]; rfl) (Steps.refl _) (argsL := []) (rest := []) (lenOf pd_13 rfl) rfl (by show 2 * 0 + _ ≤ _; exact Nat.le_of_eq rfl) (hb hby at_428) (fun _ _ => ⟨rfl, e1562, (by decide : 30 + 0 ≤ _), (by decide : 219 + 0 ≤ _)⟩)
  dsimp only [Pt.U, Pt.locs, Pt.cells, Pt.slots] at X1565 l1565 y1565 z1565 st1565 hQ1565
  subst l1565 y1565 z1565
  obtain ⟨rfl, N1565q, eh1565⟩ := hQ1565
  have N1565 := Fr.app N1562 N1565q
  obtain ⟨L1566, hL1566⟩ := own_nm #[.val (.int i0), .val (.int i1), .val (.int i2), .val (.int i3), .val (.int i4), .val (.ref tu), .val (.ref tv), .val (.int xi), .val (.int yi), .val (.double va), .second, .val (.double vc), .second, .val (.double (FP.dmul va vc)), .second, .val (.double sk), .second, .val (.double vd), .second, .val (.double ve), .second, .val (.double d0), .second, .val (.double d1), .second, .val (.double d2), .second, .val (.int (((own_i fa + own_i fc) + own_i fd) + own_i fe)), .val (.ref a1), .val (.ref bb), .val (.long wkb), .second, .unset, .unset, .unset, .unset, .unset, .unset, .unset]
  have L1566_28 := own_ld hL1566 28 rfl
  have L1566_29 := own_ld hL1566 29 rfl
  have f1567 := (((((Fco1539.keep K1553 (by repeat' first | exact nin0 | refine ninS ?_ ?_ | (show (_ : Nat) ≠ _; omega))).ext E1554).other W1558 (by omega : (co : Nat) ≠ bb)).other W1560 (by omega : (co : Nat) ≠ bb)).other W1562 (by omega : (co : Nat) ≠ bb))
  have f1568 := (((((Fcf1539.keep K1553 (by repeat' first | exact nin0 | refine ninS ?_ ?_ | (show (_ : Nat) ≠ _; omega))).ext E1554).other W1558 (by omega : (cf : Nat) ≠ bb)).other W1560 (by omega : (cf : Nat) ≠ bb)).other W1562 (by omega : (cf : Nat) ≠ bb))
  have f1569 := ((((Fle1553.ext E1554).other W1558 (by omega : (le : Nat) ≠ bb)).other W1560 (by omega : (le : Nat) ≠ bb)).other W1562 (by omega : (le : Nat) ≠ bb))
  have f1570 := ((((Fsr1553.ext E1554).other W1558 (by omega : (sr : Nat) ≠ bb)).other W1560 (by omega : (sr : Nat) ≠ bb)).other W1562 (by omega : (sr : Nat) ≠ bb))
  have f1571 := ((((Fsp1553.ext E1554).other W1558 (by omega : (sp : Nat) ≠ bb)).other W1560 (by omega : (sp : Nat) ≠ bb)).other W1562 (by omega : (sp : Nat) ≠ bb))
  have f1572 := ((((Fsw1553.ext E1554).other W1558 (by omega : (sw : Nat) ≠ bb)).other W1560 (by omega : (sw : Nat) ≠ bb)).other W1562 (by omega : (sw : Nat) ≠ bb))
  have f1573 := ((((Fss1553.ext E1554).other W1558 (by omega : (ss : Nat) ≠ bb)).other W1560 (by omega : (ss : Nat) ≠ bb)).other W1562 (by omega : (ss : Nat) ≠ bb))
  have f1574 := (((((f1546.keep K1553 (by repeat' first | exact nin0 | refine ninS ?_ ?_ | (show (_ : Nat) ≠ _; omega))).ext E1554).other W1558 (by omega : (ca : Nat) ≠ bb)).other W1560 (by omega : (ca : Nat) ≠ bb)).other W1562 (by omega : (ca : Nat) ≠ bb))
  have f1575 := (((((f1547.keep K1553 (by repeat' first | exact nin0 | refine ninS ?_ ?_ | (show (_ : Nat) ≠ _; omega))).ext E1554).other W1558 (by omega : (da : Nat) ≠ bb)).other W1560 (by omega : (da : Nat) ≠ bb)).other W1562 (by omega : (da : Nat) ≠ bb))
  have f1576 := ((((Fcb1553.ext E1554).other W1558 (by omega : (cb : Nat) ≠ bb)).other W1560 (by omega : (cb : Nat) ≠ bb)).other W1562 (by omega : (cb : Nat) ≠ bb))
  have f1577 := ((((Fdb1553.ext E1554).other W1558 (by omega : (db : Nat) ≠ bb)).other W1560 (by omega : (db : Nat) ≠ bb)).other W1562 (by omega : (db : Nat) ≠ bb))
  have f1578 := (((Q1554.wr W1558).wr W1560).wr W1562)
  have Z1579 : n0 ≤ h1562.size := by have zq := f1564.lt; omega
  obtain ⟨cq1580, kq1580, q1580a, q1580b, q1580c⟩ := isOf hZ eh1565 f1564.1
  obtain ⟨_, _, ⟨T1580, L1580, k1580, n1580⟩, -, X1580, ⟨Lc1580, hQ1580, l1580, y1580, z1580⟩, st1580⟩ := X1565.virtualBack hx (y := (⟨"com/example/odds2/odds2/engine/Elimination", "solve", "([D)[D"⟩ : MethodName)) (z := (⟨"com/example/odds2/odds2/engine/Elimination", "solve", "([D)[D"⟩ : MethodName)) hown (mvT hZ (hw _ tm122)) (mvT hZ (hw _ tm123)) (notFace_of_selects (args := #[]) (mvT hZ (hw _ tm125))) (mvT hZ (hw _ tm125)) (mvT hZ (hw _ tm124)) (by decide) (backOf (W := 0) (rmSV l Z a0 hw [] a1 oc od mc md sr sp sw ss co cf le re rc k_co k_cf k_le k_sr k_sp k_sw k_ss (3 : Int32) (own_e2 fa fc fd fe) wkb fa fc fd fe ca da cb db cc dc kca kda kcb kdb bb k1554 d0 d1 d2 va vc ve sc1 sc2 t0 t1 s0 s1 h1562 n0 Z1579 f1564 f1567 f1568 f1569 f1570 f1571 f1572 f1573 f1574 f1575 f1576 f1577 f1561 f1578 (fun q => (hte q).1) (fun _ => mm1) (fun _ => by rw [← he1]; exact mm2) (fun q => by rw [(hte q).2, ← he1, ← he2]; exact mm3) (fun _ => by rw [hX1]; exact mm4) oca oda (by omega) odb lt_db_bb ord g_a) hZ (hw _ tm126) (hw _ tm7) (by decide) (by decide)) q1580a q1580c (g := (mkF m 437 L1566 [(.ref bb), (.ref a1)])) rfl (by rw [hml, hL1566]; rfl) (Steps.refl _) (argsL := [(.ref bb)]) (rest := []) (lenOf pd_14 rfl) rfl (by show 2 * 0 + _ ≤ _; exact Nat.le_of_eq rfl) (hb hby at_437) (fun _ _ => ⟨rfl, eh1565, (by decide : 30 + 1 ≤ _), (by decide : 219 + 3 ≤ _)⟩)
  dsimp only [Pt.U, Pt.locs, Pt.cells, Pt.slots] at X1580 l1580 y1580 z1580 st1580 hQ1580
  subst l1580 y1580 z1580
  obtain ⟨xx, rfl, N1580q, K1580, Os1580, Vx1580, szx⟩ := hQ1580
  have N1580 := Fr.app N1565 N1580q
  rw [hX1, ← hx0, ← he1, ← he2] at Vx1580
  obtain ⟨L1581, hL1581⟩ := own_nm #[.val (.int i0), .val (.int i1), .val (.int i2), .val (.int i3), .val (.int i4), .val (.ref tu), .val (.ref tv), .val (.int xi), .val (.int yi), .val (.double va), .second, .val (.double vc), .second, .val (.double (FP.dmul va vc)), .second, .val (.double sk), .second, .val (.double vd), .second, .val (.double ve), .second, .val (.double d0), .second, .val (.double d1), .second, .val (.double d2), .second, .val (.int (((own_i fa + own_i fc) + own_i fd) + own_i fe)), .val (.ref a1), .val (.ref bb), .val (.long wkb), .second, .val (.ref xx), .unset, .unset, .unset, .unset, .unset, .unset]
  have L1581_28 := own_ld hL1581 28 rfl
  have Z1582 : n0 ≤ T1580.heap.size := by have zq := Os1580.lt; omega
  obtain ⟨cq1583, kq1583, q1583a, q1583b, q1583c⟩ := isOf hZ rfl Os1580.1
  obtain ⟨_, _, ⟨T1583, L1583, k1583, n1583⟩, -, X1583, ⟨Lc1583, hQ1583, l1583, y1583, z1583⟩, st1583⟩ := X1580.virtualBack hx (y := (⟨"com/example/odds2/odds2/engine/Elimination", "work", "()J"⟩ : MethodName)) (z := (⟨"com/example/odds2/odds2/engine/Elimination", "work", "()J"⟩ : MethodName)) hown (mvT hZ (hw _ tm117)) (mvT hZ (hw _ tm118)) (notFace_of_selects (args := #[]) (mvT hZ (hw _ tm120))) (mvT hZ (hw _ tm120)) (mvT hZ (hw _ tm119)) (by decide) (backOf (W := 0) (rmW l Z a0 hw [] a1 oc od mc md sr sp sw ss co cf le re rc (3 : Int32) (own_e2 fa fc fd fe) (wkb + ((own_lb fc fe).toInt64 + (own_e2 fa fc fd fe))) (own_lb fc fe) T1580.heap n0 Z1582 Os1580) hZ (hw _ tm121) (hw _ tm7) (by decide) (by decide)) q1583a q1583c (g := (mkF m 444 L1581 [(.ref a1)])) rfl (by rw [hml, hL1581]; rfl) (Steps.refl _) (argsL := []) (rest := []) (lenOf pd_13 rfl) rfl (by show 2 * 0 + _ ≤ _; exact Nat.le_of_eq rfl) (hb hby at_444) (fun _ _ => ⟨rfl, rfl, (by decide : 31 + 0 ≤ _), (by decide : 222 + 0 ≤ _)⟩)
  dsimp only [Pt.U, Pt.locs, Pt.cells, Pt.slots] at X1583 l1583 y1583 z1583 st1583 hQ1583
  subst l1583 y1583 z1583
  obtain ⟨rfl, N1583q, eh1583⟩ := hQ1583
  have N1583 := Fr.app N1580 N1583q
  obtain ⟨L1584, hL1584⟩ := own_nm #[.val (.int i0), .val (.int i1), .val (.int i2), .val (.int i3), .val (.int i4), .val (.ref tu), .val (.ref tv), .val (.int xi), .val (.int yi), .val (.double va), .second, .val (.double vc), .second, .val (.double (FP.dmul va vc)), .second, .val (.double sk), .second, .val (.double vd), .second, .val (.double ve), .second, .val (.double d0), .second, .val (.double d1), .second, .val (.double d2), .second, .val (.int (((own_i fa + own_i fc) + own_i fd) + own_i fe)), .val (.ref a1), .val (.ref bb), .val (.long wkb), .second, .val (.ref xx), .val (.long (wkb + ((own_lb fc fe).toInt64 + (own_e2 fa fc fd fe)))), .second, .unset, .unset, .unset, .unset]
  have L1584_32 := own_ld hL1584 32 rfl
  obtain ⟨cl1585, Ar1585, -, S1585, M1585, -, -⟩ := id Vx1580
  have L1584_29 := own_ld hL1584 29 rfl
  have f1586 := (f1561.keep K1580 (ninS (by omega : (bb : Nat) ≠ a1) nin0))
  have L1584_21 := own_ld hL1584 21 rfl
  have L1584_23 := own_ld hL1584 23 rfl
  have L1584_25 := own_ld hL1584 25 rfl
  obtain ⟨L1587, hL1587⟩ := own_nm #[.val (.int i0), .val (.int i1), .val (.int i2), .val (.int i3), .val (.int i4), .val (.ref tu), .val (.ref tv), .val (.int xi), .val (.int yi), .val (.double va), .second, .val (.double vc), .second, .val (.double (FP.dmul va vc)), .second, .val (.double sk), .second, .val (.double vd), .second, .val (.double ve), .second, .val (.double d0), .second, .val (.double d1), .second, .val (.double d2), .second, .val (.int (((own_i fa + own_i fc) + own_i fd) + own_i fe)), .val (.ref a1), .val (.ref bb), .val (.long wkb), .second, .val (.ref xx), .val (.long (wkb + ((own_lb fc fe).toInt64 + (own_e2 fa fc fd fe)))), .second, .val (.int 1), .unset, .unset, .unset]
  have L1587_32 := own_ld hL1587 32 rfl
  have L1587_9 := own_ld hL1587 9 rfl
  have L1587_21 := own_ld hL1587 21 rfl
  obtain ⟨L1588, hL1588⟩ := own_nm #[.val (.int i0), .val (.int i1), .val (.int i2), .val (.int i3), .val (.int i4), .val (.ref tu), .val (.ref tv), .val (.int xi), .val (.int yi), .val (.double va), .second, .val (.double vc), .second, .val (.double (FP.dmul va vc)), .second, .val (.double sk), .second, .val (.double vd), .second, .val (.double ve), .second, .val (.double d0), .second, .val (.double d1), .second, .val (.double d2), .second, .val (.int (((own_i fa + own_i fc) + own_i fd) + own_i fe)), .val (.ref a1), .val (.ref bb), .val (.long wkb), .second, .val (.ref xx), .val (.long (wkb + ((own_lb fc fe).toInt64 + (own_e2 fa fc fd fe)))), .second, .val (.int 1), .val (.int 1), .unset, .unset]
  have L1588_32 := own_ld hL1588 32 rfl
  have L1588_11 := own_ld hL1588 11 rfl
  have L1588_17 := own_ld hL1588 17 rfl
  have L1588_23 := own_ld hL1588 23 rfl
  obtain ⟨L1589, hL1589⟩ := own_nm #[.val (.int i0), .val (.int i1), .val (.int i2), .val (.int i3), .val (.int i4), .val (.ref tu), .val (.ref tv), .val (.int xi), .val (.int yi), .val (.double va), .second, .val (.double vc), .second, .val (.double (FP.dmul va vc)), .second, .val (.double sk), .second, .val (.double vd), .second, .val (.double ve), .second, .val (.double d0), .second, .val (.double d1), .second, .val (.double d2), .second, .val (.int (((own_i fa + own_i fc) + own_i fd) + own_i fe)), .val (.ref a1), .val (.ref bb), .val (.long wkb), .second, .val (.ref xx), .val (.long (wkb + ((own_lb fc fe).toInt64 + (own_e2 fa fc fd fe)))), .second, .val (.int 1), .val (.int 1), .val (.int 1), .unset]
  have L1589_32 := own_ld hL1589 32 rfl
  have L1589_19 := own_ld hL1589 19 rfl
  have L1589_25 := own_ld hL1589 25 rfl
  obtain ⟨L1590, hL1590⟩ := own_nm #[.val (.int i0), .val (.int i1), .val (.int i2), .val (.int i3), .val (.int i4), .val (.ref tu), .val (.ref tv), .val (.int xi), .val (.int yi), .val (.double va), .second, .val (.double vc), .second, .val (.double (FP.dmul va vc)), .second, .val (.double sk), .second, .val (.double vd), .second, .val (.double ve), .second, .val (.double d0), .second, .val (.double d1), .second, .val (.double d2), .second, .val (.int (((own_i fa + own_i fc) + own_i fd) + own_i fe)), .val (.ref a1), .val (.ref bb), .val (.long wkb), .second, .val (.ref xx), .val (.long (wkb + ((own_lb fc fe).toInt64 + (own_e2 fa fc fd fe)))), .second, .val (.int 1), .val (.int 1), .val (.int 1), .val (.int 1)]
  have L1590_35 := own_ld hL1590 35 rfl
  have L1590_36 := own_ld hL1590 36 rfl
  have L1590_37 := own_ld hL1590 37 rfl
  have L1590_38 := own_ld hL1590 38 rfl
  have L1590_33 := own_ld hL1590 33 rfl
  have L1590_30 := own_ld hL1590 30 rfl
  have L1590_27 := own_ld hL1590 27 rfl
  obtain ⟨fs, hr, hrun, hended, hW, hsame⟩ := X1583.leave (v := some (.int 1)) (fun h => by rw [Bd.returns] at h; cases h)
  refine ⟨_, _, pre0 _ ?_, hrun, hended, _, _, rfl, ?_, ⟨_, rfl⟩, hW, hsame.mono (by decide) (by decide)⟩
  · rw [← hL1441]
    show own_S p e below m s₁ 0 L1441 [] _
    refine XS.bipush X0.here hx rfl (hb hby at_0) ?_
    refine st1442 _ ?_
    refine XS.dup X1442.here hx rfl (hb hby at_4) rfl rfl ?_
    refine wiconst X1442 hx hby at_5 ?_
    show own_S p e below m T1442 6 L1441 [(.int 0), (.ref tu), (.ref tu)] _
    refine wiconst X1442 hx hby at_6 ?_
    refine st1445 _ ?_
    refine XS.dup X1445.here hx rfl (hb hby at_8) rfl rfl ?_
    refine wiconst X1445 hx hby at_9 ?_
    show own_S p e below m T1445 10 L1441 [(.int 1), (.ref tu), (.ref tu)] _
    refine wiconst X1445 hx hby at_10 ?_
    refine st1447 _ ?_
    refine XS.dup X1447.here hx rfl (hb hby at_12) rfl rfl ?_
    refine wiconst X1447 hx hby at_13 ?_
    show own_S p e below m T1447 14 L1441 [(.int 2), (.ref tu), (.ref tu)] _
    refine wiconst X1447 hx hby at_14 ?_
    refine st1449 _ ?_
    refine XS.dup X1449.here hx rfl (hb hby at_16) rfl rfl ?_
    refine wiconst X1449 hx hby at_17 ?_
    show own_S p e below m T1449 18 L1441 [(.int 3), (.ref tu), (.ref tu)] _
    refine wiconst X1449 hx hby at_18 ?_
    refine st1451 _ ?_
    refine XS.dup X1451.here hx rfl (hb hby at_20) rfl rfl ?_
    refine wiconst X1451 hx hby at_21 ?_
    show own_S p e below m T1451 22 L1441 [(.int 4), (.ref tu), (.ref tu)] _
    refine wiconst X1451 hx hby at_22 ?_
    refine st1453 _ ?_
    refine XS.dup X1453.here hx rfl (hb hby at_24) rfl rfl ?_
    refine wiconst X1453 hx hby at_25 ?_
    show own_S p e below m T1453 26 L1441 [(.int 5), (.ref tu), (.ref tu)] _
    refine wiconst X1453 hx hby at_26 ?_
    refine st1455 _ ?_
    refine XS.dup X1455.here hx rfl (hb hby at_28) rfl rfl ?_
    refine XS.bipush X1455.here hx rfl (hb hby at_29) ?_
    show own_S p e below m T1455 31 L1441 [(.int 6), (.ref tu), (.ref tu)] _
    refine wiconst X1455 hx hby at_31 ?_
    refine st1457 _ ?_
    refine XS.dup X1457.here hx rfl (hb hby at_33) rfl rfl ?_
    refine XS.bipush X1457.here hx rfl (hb hby at_34) ?_
    show own_S p e below m T1457 36 L1441 [(.int 7), (.ref tu), (.ref tu)] _
    refine wiconst X1457 hx hby at_36 ?_
    refine st1459 _ ?_
    refine XS.dup X1459.here hx rfl (hb hby at_38) rfl rfl ?_
    refine XS.bipush X1459.here hx rfl (hb hby at_39) ?_
    show own_S p e below m T1459 41 L1441 [(.int 8), (.ref tu), (.ref tu)] _
    refine wiconst X1459 hx hby at_41 ?_
    refine st1461 _ ?_
    refine XS.dup X1461.here hx rfl (hb hby at_43) rfl rfl ?_
    refine XS.bipush X1461.here hx rfl (hb hby at_44) ?_
    show own_S p e below m T1461 46 L1441 [(.int 9), (.ref tu), (.ref tu)] _
    refine wiconst X1461 hx hby at_46 ?_
    refine st1463 _ ?_
    refine XS.dup X1463.here hx rfl (hb hby at_48) rfl rfl ?_
    refine XS.bipush X1463.here hx rfl (hb hby at_49) ?_
    show own_S p e below m T1463 51 L1441 [(.int 10), (.ref tu), (.ref tu)] _
    refine wiconst X1463 hx hby at_51 ?_
    refine st1465 _ ?_
    refine XS.dup X1465.here hx rfl (hb hby at_53) rfl rfl ?_
    refine XS.bipush X1465.here hx rfl (hb hby at_54) ?_
    show own_S p e below m T1465 56 L1441 [(.int 11), (.ref tu), (.ref tu)] _
    refine wiconst X1465 hx hby at_56 ?_
    refine st1467 _ ?_
    refine XS.dup X1467.here hx rfl (hb hby at_58) rfl rfl ?_
    refine XS.bipush X1467.here hx rfl (hb hby at_59) ?_
    show own_S p e below m T1467 61 L1441 [(.int 12), (.ref tu), (.ref tu)] _
    refine wiconst X1467 hx hby at_61 ?_
    refine st1469 _ ?_
    refine XS.astore X1469.here hx rfl (hb hby at_63) rfl rfl (l' := L1470) (by rw [hL1441, hL1470]; rfl) ?_
    refine XS.bipush X1469.here hx rfl (hb hby at_65) ?_
    show own_S p e below m T1469 67 L1470 [(.int 13)] _
    refine st1472 _ ?_
    refine XS.dup X1472.here hx rfl (hb hby at_69) rfl rfl ?_
    refine wiconst X1472 hx hby at_70 ?_
    refine wiconst X1472 hx hby at_71 ?_
    show own_S p e below m T1472 72 L1470 [(.int 0), (.int 0), (.ref tv), (.ref tv)] _
    refine st1475 _ ?_
    refine XS.dup X1475.here hx rfl (hb hby at_73) rfl rfl ?_
    refine wiconst X1475 hx hby at_74 ?_
    refine wiconst X1475 hx hby at_75 ?_
    show own_S p e below m T1475 76 L1470 [(.int 1), (.int 1), (.ref tv), (.ref tv)] _
    refine st1477 _ ?_
    refine XS.dup X1477.here hx rfl (hb hby at_77) rfl rfl ?_
    refine wiconst X1477 hx hby at_78 ?_
    refine wiconst X1477 hx hby at_79 ?_
    show own_S p e below m T1477 80 L1470 [(.int 2), (.int 2), (.ref tv), (.ref tv)] _
    refine st1479 _ ?_
    refine XS.dup X1479.here hx rfl (hb hby at_81) rfl rfl ?_
    refine wiconst X1479 hx hby at_82 ?_
    refine wiconst X1479 hx hby at_83 ?_
    show own_S p e below m T1479 84 L1470 [(.int 3), (.int 3), (.ref tv), (.ref tv)] _
    refine st1481 _ ?_
    refine XS.dup X1481.here hx rfl (hb hby at_85) rfl rfl ?_
    refine wiconst X1481 hx hby at_86 ?_
    refine wiconst X1481 hx hby at_87 ?_
    show own_S p e below m T1481 88 L1470 [(.int 4), (.int 4), (.ref tv), (.ref tv)] _
    refine st1483 _ ?_
    refine XS.dup X1483.here hx rfl (hb hby at_89) rfl rfl ?_
    refine wiconst X1483 hx hby at_90 ?_
    refine wiconst X1483 hx hby at_91 ?_
    show own_S p e below m T1483 92 L1470 [(.int 0), (.int 5), (.ref tv), (.ref tv)] _
    refine st1485 _ ?_
    refine XS.dup X1485.here hx rfl (hb hby at_93) rfl rfl ?_
    refine XS.bipush X1485.here hx rfl (hb hby at_94) ?_
    refine wiconst X1485 hx hby at_96 ?_
    show own_S p e below m T1485 97 L1470 [(.int 0), (.int 6), (.ref tv), (.ref tv)] _
    refine st1487 _ ?_
    refine XS.dup X1487.here hx rfl (hb hby at_98) rfl rfl ?_
    refine XS.bipush X1487.here hx rfl (hb hby at_99) ?_
    refine wiconst X1487 hx hby at_101 ?_
    show own_S p e below m T1487 102 L1470 [(.int 0), (.int 7), (.ref tv), (.ref tv)] _
    refine st1489 _ ?_
    refine XS.dup X1489.here hx rfl (hb hby at_103) rfl rfl ?_
    refine XS.bipush X1489.here hx rfl (hb hby at_104) ?_
    refine wiconst X1489 hx hby at_106 ?_
    show own_S p e below m T1489 107 L1470 [(.int 0), (.int 8), (.ref tv), (.ref tv)] _
    refine st1491 _ ?_
    refine XS.dup X1491.here hx rfl (hb hby at_108) rfl rfl ?_
    refine XS.bipush X1491.here hx rfl (hb hby at_109) ?_
    refine wiconst X1491 hx hby at_111 ?_
    show own_S p e below m T1491 112 L1470 [(.int 4), (.int 9), (.ref tv), (.ref tv)] _
    refine st1493 _ ?_
    refine XS.dup X1493.here hx rfl (hb hby at_113) rfl rfl ?_
    refine XS.bipush X1493.here hx rfl (hb hby at_114) ?_
    refine wiconst X1493 hx hby at_116 ?_
    show own_S p e below m T1493 117 L1470 [(.int 2), (.int 10), (.ref tv), (.ref tv)] _
    refine st1495 _ ?_
    refine XS.dup X1495.here hx rfl (hb hby at_118) rfl rfl ?_
    refine XS.bipush X1495.here hx rfl (hb hby at_119) ?_
    refine wiconst X1495 hx hby at_121 ?_
    show own_S p e below m T1495 122 L1470 [(.int 4), (.int 11), (.ref tv), (.ref tv)] _
    refine st1497 _ ?_
    refine XS.dup X1497.here hx rfl (hb hby at_123) rfl rfl ?_
    refine XS.bipush X1497.here hx rfl (hb hby at_124) ?_
    refine wiconst X1497 hx hby at_126 ?_
    show own_S p e below m T1497 127 L1470 [(.int 3), (.int 12), (.ref tv), (.ref tv)] _
    refine st1499 _ ?_
    refine XS.astore X1499.here hx rfl (hb hby at_128) rfl rfl (l' := L1500) (by rw [hL1470, hL1500]; rfl) ?_
    refine wiloadN X1499 hx hby at_130 L1500_3 ?_
    refine X1499.ldcI hx hown (mvT hZ (hw _ tm1)) (g := (mkF m 131 L1500 [(.int i3)])) rfl (hb hby at_131) ?_
    show own_S p e below m T1499 133 L1500 [(.int 2147483647), (.int i3)] _
    refine XS.iand X1499.here hx rfl (hb hby at_133) rfl ?_
    refine XS.bipush X1499.here hx rfl (hb hby at_134) ?_
    refine iremM X1499 hx rfl (hb hby at_136) rfl (by decide) ?_
    show own_S p e below m T1499 137 L1500 [(.int ((i3 &&& (2147483647 : Int32)) % (13 : Int32)))] _
    rw [(hxi.symm : ((i3 &&& (2147483647 : Int32)) % (13 : Int32)) = xi)]
    show own_S p e below m T1499 137 L1500 [(.int xi)] _
    refine wistore X1499 hx hby at_137 hL1500 hL1501 rfl ?_
    refine wiload X1499 hx hby at_139 L1501_4 ?_
    refine X1499.ldcI hx hown (mvT hZ (hw _ tm1)) (g := (mkF m 141 L1501 [(.int i4)])) rfl (hb hby at_141) ?_
    show own_S p e below m T1499 143 L1501 [(.int 2147483647), (.int i4)] _
    refine XS.iand X1499.here hx rfl (hb hby at_143) rfl ?_
    refine XS.bipush X1499.here hx rfl (hb hby at_144) ?_
    refine iremM X1499 hx rfl (hb hby at_146) rfl (by decide) ?_
    show own_S p e below m T1499 147 L1501 [(.int ((i4 &&& (2147483647 : Int32)) % (13 : Int32)))] _
    rw [(hyi.symm : ((i4 &&& (2147483647 : Int32)) % (13 : Int32)) = yi)]
    show own_S p e below m T1499 147 L1501 [(.int yi)] _
    refine wistore X1499 hx hby at_147 hL1501 hL1502 rfl ?_
    refine waload X1499 hx hby at_149 L1502_5 rfl ?_
    refine wiload X1499 hx hby at_151 L1502_7 ?_
    refine wiaload X1499 hx hby hZ e1499 f1503 xi.toNatClampNeg rfl (own_13a txi) (own_13b txi) (v := (.int (own_u xi))) (own_tu txi) at_153 ?_
    show own_S p e below m T1499 154 L1502 [(.int (own_u xi))] _
    refine XS.i2dS X1499.here hx rfl (v := (FP.i2d (own_u xi))) (hb hby at_154) rfl rfl ?_
    refine X1499.ldc2DoubleC hx hown (mvT hZ (hw _ tm2)) (g := (mkF m 155 L1502 [(.double (FP.i2d (own_u xi)))])) rfl (hb hby at_155) _ ?_
    show own_S p e below m T1499 158 L1502 [(.double 4616189618054758400), (.double (FP.i2d (own_u xi)))] _
    refine XS.ddivS X1499.here hx rfl (v := va) (hb hby at_158) rfl (by have q := nva; rw [hva] at q; exact q) hva.symm ?_
    refine XS.dstore X1499.here hx rfl (hb hby at_159) rfl (l' := L1504) (by rw [hL1502, hL1504]; rfl) ?_
    refine waload X1499 hx hby at_161 L1504_6 rfl ?_
    refine wiload X1499 hx hby at_163 L1504_7 ?_
    show own_S p e below m T1499 165 L1504 [(.int xi), (.ref tv)] _
    refine wiaload X1499 hx hby hZ e1499 f1498 xi.toNatClampNeg rfl (own_13a txi) (own_13b txi) (v := (.int (own_v xi))) (own_tv txi) at_165 ?_
    refine XS.i2dS X1499.here hx rfl (v := (FP.i2d (own_v xi))) (hb hby at_166) rfl rfl ?_
    refine X1499.ldc2DoubleC hx hown (mvT hZ (hw _ tm2)) (g := (mkF m 167 L1504 [(.double (FP.i2d (own_v xi)))])) rfl (hb hby at_167) _ ?_
    show own_S p e below m T1499 170 L1504 [(.double 4616189618054758400), (.double (FP.i2d (own_v xi)))] _
    refine XS.ddivS X1499.here hx rfl (v := vc) (hb hby at_170) rfl (by have q := nvc; rw [hvc] at q; exact q) hvc.symm ?_
    refine XS.dstore X1499.here hx rfl (hb hby at_171) rfl (l' := L1505) (by rw [hL1504, hL1505]; rfl) ?_
    refine wdload X1499 hx hby at_173 L1505_9 ?_
    refine wdload X1499 hx hby at_175 L1505_11 ?_
    show own_S p e below m T1499 177 L1505 [(.double vc), (.double va)] _
    refine XS.dmulS X1499.here hx rfl (v := (FP.dmul va vc)) (hb hby at_177) rfl nvo rfl ?_
    refine XS.dstore X1499.here hx rfl (hb hby at_178) rfl (l' := L1506) (by rw [hL1505, hL1506]; rfl) ?_
    rw [hL1506]
    refine st1509 _ ?_
    rw [← hL1510]
    show own_S p e below m T1509 213 L1510 [] _
    refine waload X1509 hx hby at_213 L1510_5 rfl ?_
    refine wiload X1509 hx hby at_215 L1510_8 ?_
    refine wiaload X1509 hx hby hZ e1509 f1503 yi.toNatClampNeg rfl (own_13a tyi) (own_13b tyi) (v := (.int (own_u yi))) (own_tu tyi) at_217 ?_
    refine XS.i2dS X1509.here hx rfl (v := (FP.i2d (own_u yi))) (hb hby at_218) rfl rfl ?_
    show own_S p e below m T1509 219 L1510 [(.double (FP.i2d (own_u yi)))] _
    refine X1509.ldc2DoubleC hx hown (mvT hZ (hw _ tm2)) (g := (mkF m 219 L1510 [(.double (FP.i2d (own_u yi)))])) rfl (hb hby at_219) _ ?_
    show own_S p e below m T1509 222 L1510 [(.double 4616189618054758400), (.double (FP.i2d (own_u yi)))] _
    refine XS.ddivS X1509.here hx rfl (v := vq) (hb hby at_222) rfl (by have q := nvq; rw [hvq] at q; exact q) hvq.symm ?_
    refine wdload X1509 hx hby at_223 L1510_15 ?_
    refine XS.ddivS X1509.here hx rfl (v := vd) (hb hby at_225) rfl nvd hvd.symm ?_
    refine XS.dstore X1509.here hx rfl (hb hby at_226) rfl (l' := L1511) (by rw [hL1510, hL1511]; rfl) ?_
    show own_S p e below m T1509 228 L1511 [] _
    refine waload X1509 hx hby at_228 L1511_6 rfl ?_
    refine wiload X1509 hx hby at_230 L1511_8 ?_
    refine wiaload X1509 hx hby hZ e1509 f1498 yi.toNatClampNeg rfl (own_13a tyi) (own_13b tyi) (v := (.int (own_v yi))) (own_tv tyi) at_232 ?_
    refine XS.i2dS X1509.here hx rfl (v := (FP.i2d (own_v yi))) (hb hby at_233) rfl rfl ?_
    show own_S p e below m T1509 234 L1511 [(.double (FP.i2d (own_v yi)))] _
    refine X1509.ldc2DoubleC hx hown (mvT hZ (hw _ tm2)) (g := (mkF m 234 L1511 [(.double (FP.i2d (own_v yi)))])) rfl (hb hby at_234) _ ?_
    show own_S p e below m T1509 237 L1511 [(.double 4616189618054758400), (.double (FP.i2d (own_v yi)))] _
    refine XS.ddivS X1509.here hx rfl (v := ve) (hb hby at_237) rfl (by have q := nve; rw [hve] at q; exact q) hve.symm ?_
    refine XS.dstore X1509.here hx rfl (hb hby at_238) rfl (l' := L1512) (by rw [hL1511, hL1512]; rfl) ?_
    refine wiloadN X1509 hx hby at_240 L1512_0 ?_
    refine XS.i2dS X1509.here hx rfl (v := d0) (hb hby at_241) rfl hd0.symm ?_
    show own_S p e below m T1509 242 L1512 [(.double d0)] _
    refine XS.dstore X1509.here hx rfl (hb hby at_242) rfl (l' := L1513) (by rw [hL1512, hL1513]; rfl) ?_
    refine wiloadN X1509 hx hby at_244 L1513_1 ?_
    refine XS.i2dS X1509.here hx rfl (v := d1) (hb hby at_245) rfl hd1.symm ?_
    refine XS.dstore X1509.here hx rfl (hb hby at_246) rfl (l' := L1514) (by rw [hL1513, hL1514]; rfl) ?_
    show own_S p e below m T1509 248 L1514 [] _
    refine wiloadN X1509 hx hby at_248 L1514_2 ?_
    refine XS.i2dS X1509.here hx rfl (v := d2) (hb hby at_249) rfl hd2.symm ?_
    refine XS.dstore X1509.here hx rfl (hb hby at_250) rfl (l' := L1515) (by rw [hL1514, hL1515]; rfl) ?_
    refine st1517 _ ?_
    refine st1519 _ ?_
    refine st1521 _ ?_
    refine st1523 _ ?_
    show own_S p e below m T1523 303 L1515 [(.int (((own_i fa + own_i fc) + own_i fd) + own_i fe))] _
    refine wistore X1523 hx hby at_303 hL1515 hL1524 rfl ?_
    refine st1525 _ ?_
    refine XS.dup X1525.here hx rfl (hb hby at_308) rfl rfl ?_
    refine wiconst X1525 hx hby at_309 ?_
    show own_S p e below m T1525 310 L1524 [(.int 3), (.ref a1), (.ref a1)] _
    refine st1529.trans ?_
    refine XS.astore X1529.here hx rfl (hb hby at_313) rfl rfl (l' := L1532) (by rw [hL1524, hL1532]; rfl) ?_
    refine st1534 _ ?_
    refine st1536 _ ?_
    refine st1539 _ ?_
    show own_S p e below m T1539 390 L1532 [] _
    refine waload X1539 hx hby at_390 L1532_28 rfl ?_
    refine X1539.ldc2J hx hown (mvT hZ (hw _ tm86)) (g := (mkF m 392 L1532 [(.ref a1)])) rfl (hb hby at_392) ?_
    show own_S p e below m T1539 395 L1532 [(.long 9223372036854775807), (.ref a1)] _
    refine st1553.trans ?_
    refine wifYes X1553 hx hby at_398 398 403 rfl (by decide) (by decide) (by decide) ?_
    refine wiconst X1553 hx hby at_403 ?_
    refine st1554 _ ?_
    show own_S p e below m T1554 406 L1532 [(.ref bb)] _
    refine XS.astore X1554.here hx rfl (hb hby at_406) rfl rfl (l' := L1556) (by rw [hL1532, hL1556]; rfl) ?_
    refine waload X1554 hx hby at_408 L1556_29 rfl ?_
    refine wiconst X1554 hx hby at_410 ?_
    refine wdload X1554 hx hby at_411 L1556_21 ?_
    show own_S p e below m T1554 413 L1556 [(.double d0), (.int 0), (.ref bb)] _
    refine st1558 _ ?_
    refine waload X1558 hx hby at_414 L1556_29 rfl ?_
    refine wiconst X1558 hx hby at_416 ?_
    refine wdload X1558 hx hby at_417 L1556_23 ?_
    show own_S p e below m T1558 419 L1556 [(.double d1), (.int 1), (.ref bb)] _
    refine st1560 _ ?_
    refine waload X1560 hx hby at_420 L1556_29 rfl ?_
    refine wiconst X1560 hx hby at_422 ?_
    refine wdload X1560 hx hby at_423 L1556_25 ?_
    show own_S p e below m T1560 425 L1556 [(.double d2), (.int 2), (.ref bb)] _
    refine st1562 _ ?_
    refine waload X1562 hx hby at_426 L1556_28 rfl ?_
    refine st1565.trans ?_
    refine XS.lstore X1565.here hx rfl (hb hby at_431) rfl (l' := L1566) (by rw [hL1556, hL1566]; rfl) ?_
    show own_S p e below m T1565 433 L1566 [] _
    refine waload X1565 hx hby at_433 L1566_28 rfl ?_
    refine waload X1565 hx hby at_435 L1566_29 rfl ?_
    refine st1580.trans ?_
    refine XS.astore X1580.here hx rfl (hb hby at_440) rfl rfl (l' := L1581) (by rw [hL1566, hL1581]; rfl) ?_
    show own_S p e below m T1580 442 L1581 [] _
    refine waload X1580 hx hby at_442 L1581_28 rfl ?_
    refine st1583.trans ?_
    refine XS.lstore X1583.here hx rfl (hb hby at_447) rfl (l' := L1584) (by rw [hL1581, hL1584]; rfl) ?_
    refine waload X1583 hx hby at_449 L1584_32 rfl ?_
    show own_S p e below m T1583 451 L1584 [(.ref xx)] _
    refine XS.ifnullNo X1583.here hx rfl (hb hby at_451) rfl ?_
    refine waload X1583 hx hby at_454 L1584_32 rfl ?_
    refine X1583.arraylength hx (by rw [eh1583]; exact Ar1585.1) (State.isArrayOf_alike hZ.alike Ar1585.2.1) (g := (mkF m 456 L1584 [(.ref xx)])) rfl rfl (hb hby at_456) _ ?_
    rw [len_of S1585 M1585]
    show own_S p e below m T1583 457 L1584 [(.int 3)] _
    refine wiconst X1583 hx hby at_457 ?_
    refine wicmpYes X1583 hx hby at_458 458 463 rfl (by decide) (by decide) (by decide) ?_
    refine waload X1583 hx hby at_463 L1584_29 rfl ?_
    refine wiconst X1583 hx hby at_465 ?_
    show own_S p e below m T1583 466 L1584 [(.int 0), (.ref bb)] _
    refine wdaload X1583 hx hby hZ eh1583 f1586 0 rfl (by decide) (by decide) (v := (.double d0)) rfl at_466 ?_
    refine wdload X1583 hx hby at_467 L1584_21 ?_
    refine XS.dcmpS X1583.here hx rfl (v := (0 : Int32)) (hb hby at_469) rfl (dcmpV_self nd0 .l) ?_
    refine wifNo X1583 hx hby at_470 (by decide) ?_
    show own_S p e below m T1583 473 L1584 [] _
    refine waload X1583 hx hby at_473 L1584_29 rfl ?_
    refine wiconst X1583 hx hby at_475 ?_
    refine wdaload X1583 hx hby hZ eh1583 f1586 1 rfl (by decide) (by decide) (v := (.double d1)) rfl at_476 ?_
    refine wdload X1583 hx hby at_477 L1584_23 ?_
    show own_S p e below m T1583 479 L1584 [(.double d1), (.double d1)] _
    refine XS.dcmpS X1583.here hx rfl (v := (0 : Int32)) (hb hby at_479) rfl (dcmpV_self nd1 .l) ?_
    refine wifNo X1583 hx hby at_480 (by decide) ?_
    refine waload X1583 hx hby at_483 L1584_29 rfl ?_
    refine wiconst X1583 hx hby at_485 ?_
    show own_S p e below m T1583 486 L1584 [(.int 2), (.ref bb)] _
    refine wdaload X1583 hx hby hZ eh1583 f1586 2 rfl (by decide) (by decide) (v := (.double d2)) rfl at_486 ?_
    refine wdload X1583 hx hby at_487 L1584_25 ?_
    refine XS.dcmpS X1583.here hx rfl (v := (0 : Int32)) (hb hby at_489) rfl (dcmpV_self nd2 .l) ?_
    refine wifNo X1583 hx hby at_490 (by decide) ?_
    show own_S p e below m T1583 493 L1584 [] _
    refine wiconst X1583 hx hby at_493 ?_
    refine wgoto X1583 hx hby at_494 494 498 rfl (by decide) (by decide) ?_
    refine wistore X1583 hx hby at_498 hL1584 hL1587 rfl ?_
    refine waload X1583 hx hby at_500 L1587_32 rfl ?_
    show own_S p e below m T1583 502 L1587 [(.ref xx)] _
    refine wiconst X1583 hx hby at_502 ?_
    refine wdaload X1583 hx hby hZ eh1583 Vx1580 0 rfl (by decide) (by decide) (v := (.double x0)) rfl at_503 ?_
    refine wdload X1583 hx hby at_504 L1587_9 ?_
    refine waload X1583 hx hby at_506 L1587_32 rfl ?_
    show own_S p e below m T1583 508 L1587 [(.ref xx), (.double va), (.double x0)] _
    refine wiconst X1583 hx hby at_508 ?_
    refine wdaload X1583 hx hby hZ eh1583 Vx1580 1 rfl (by decide) (by decide) (v := (.double x1)) rfl at_509 ?_
    refine XS.dmulS X1583.here hx rfl (v := (FP.dmul va x1)) (hb hby at_510) rfl a1n rfl ?_
    refine wdload X1583 hx hby at_511 L1587_21 ?_
    show own_S p e below m T1583 513 L1587 [(.double d0), (.double (FP.dmul va x1)), (.double x0)] _
    refine XS.daddS X1583.here hx rfl (v := (FP.dadd (FP.dmul va x1) d0)) (hb hby at_513) rfl a2n rfl ?_
    refine XS.dcmpS X1583.here hx rfl (v := (0 : Int32)) (hb hby at_514) rfl (own_v_eq a3q .l) ?_
    refine wifNo X1583 hx hby at_515 (by decide) ?_
    refine wiconst X1583 hx hby at_518 ?_
    show own_S p e below m T1583 519 L1587 [(.int 1)] _
    refine wgoto X1583 hx hby at_519 519 523 rfl (by decide) (by decide) ?_
    refine wistore X1583 hx hby at_523 hL1587 hL1588 rfl ?_
    refine waload X1583 hx hby at_525 L1588_32 rfl ?_
    refine wiconst X1583 hx hby at_527 ?_
    show own_S p e below m T1583 528 L1588 [(.int 1), (.ref xx)] _
    refine wdaload X1583 hx hby hZ eh1583 Vx1580 1 rfl (by decide) (by decide) (v := (.double x1)) rfl at_528 ?_
    refine wdload X1583 hx hby at_529 L1588_11 ?_
    refine waload X1583 hx hby at_531 L1588_32 rfl ?_
    refine wiconst X1583 hx hby at_533 ?_
    show own_S p e below m T1583 534 L1588 [(.int 0), (.ref xx), (.double vc), (.double x1)] _
    refine wdaload X1583 hx hby hZ eh1583 Vx1580 0 rfl (by decide) (by decide) (v := (.double x0)) rfl at_534 ?_
    refine XS.dmulS X1583.here hx rfl (v := (FP.dmul vc x0)) (hb hby at_535) rfl b1n rfl ?_
    refine wdload X1583 hx hby at_536 L1588_17 ?_
    refine waload X1583 hx hby at_538 L1588_32 rfl ?_
    show own_S p e below m T1583 540 L1588 [(.ref xx), (.double vd), (.double (FP.dmul vc x0)), (.double x1)] _
    refine wiconst X1583 hx hby at_540 ?_
    refine wdaload X1583 hx hby hZ eh1583 Vx1580 2 rfl (by decide) (by decide) (v := (.double e2)) rfl at_541 ?_
    refine XS.dmulS X1583.here hx rfl (v := (FP.dmul vd e2)) (hb hby at_542) rfl b2n rfl ?_
    refine XS.daddS X1583.here hx rfl (v := (FP.dadd (FP.dmul vc x0) (FP.dmul vd e2))) (hb hby at_543) rfl b3n rfl ?_
    show own_S p e below m T1583 544 L1588 [(.double (FP.dadd (FP.dmul vc x0) (FP.dmul vd e2))), (.double x1)] _
    refine wdload X1583 hx hby at_544 L1588_23 ?_
    refine XS.daddS X1583.here hx rfl (v := (FP.dadd (FP.dadd (FP.dmul vc x0) (FP.dmul vd e2)) d1)) (hb hby at_546) rfl b4n rfl ?_
    refine XS.dcmpS X1583.here hx rfl (v := (0 : Int32)) (hb hby at_547) rfl (own_v_eq b5q .l) ?_
    refine wifNo X1583 hx hby at_548 (by decide) ?_
    show own_S p e below m T1583 551 L1588 [] _
    refine wiconst X1583 hx hby at_551 ?_
    refine wgoto X1583 hx hby at_552 552 556 rfl (by decide) (by decide) ?_
    refine wistore X1583 hx hby at_556 hL1588 hL1589 rfl ?_
    refine waload X1583 hx hby at_558 L1589_32 rfl ?_
    show own_S p e below m T1583 560 L1589 [(.ref xx)] _
    refine wiconst X1583 hx hby at_560 ?_
    refine wdaload X1583 hx hby hZ eh1583 Vx1580 2 rfl (by decide) (by decide) (v := (.double e2)) rfl at_561 ?_
    refine wdload X1583 hx hby at_562 L1589_19 ?_
    refine waload X1583 hx hby at_564 L1589_32 rfl ?_
    show own_S p e below m T1583 566 L1589 [(.ref xx), (.double ve), (.double e2)] _
    refine wiconst X1583 hx hby at_566 ?_
    refine wdaload X1583 hx hby hZ eh1583 Vx1580 1 rfl (by decide) (by decide) (v := (.double x1)) rfl at_567 ?_
    refine XS.dmulS X1583.here hx rfl (v := (FP.dmul ve x1)) (hb hby at_568) rfl c1n rfl ?_
    refine wdload X1583 hx hby at_569 L1589_25 ?_
    show own_S p e below m T1583 571 L1589 [(.double d2), (.double (FP.dmul ve x1)), (.double e2)] _
    refine XS.daddS X1583.here hx rfl (v := (FP.dadd (FP.dmul ve x1) d2)) (hb hby at_571) rfl c2n rfl ?_
    refine XS.dcmpS X1583.here hx rfl (v := (0 : Int32)) (hb hby at_572) rfl (own_v_eq c3q .l) ?_
    refine wifNo X1583 hx hby at_573 (by decide) ?_
    refine wiconst X1583 hx hby at_576 ?_
    show own_S p e below m T1583 577 L1589 [(.int 1)] _
    refine wgoto X1583 hx hby at_577 577 581 rfl (by decide) (by decide) ?_
    refine wistore X1583 hx hby at_581 hL1589 hL1590 rfl ?_
    refine wiload X1583 hx hby at_583 L1590_35 ?_
    refine wifNo X1583 hx hby at_585 (by decide) ?_
    show own_S p e below m T1583 588 L1590 [] _
    refine wiload X1583 hx hby at_588 L1590_36 ?_
    refine wifNo X1583 hx hby at_590 (by decide) ?_
    refine wiload X1583 hx hby at_593 L1590_37 ?_
    refine wifNo X1583 hx hby at_595 (by decide) ?_
    show own_S p e below m T1583 598 L1590 [] _
    refine wiload X1583 hx hby at_598 L1590_38 ?_
    refine wifNo X1583 hx hby at_600 (by decide) ?_
    refine XS.lload X1583.here hx rfl (hb hby at_603) L1590_33 ?_
    refine XS.lload X1583.here hx rfl (hb hby at_605) L1590_30 ?_
    show own_S p e below m T1583 607 L1590 [(.long wkb), (.long (wkb + ((own_lb fc fe).toInt64 + (own_e2 fa fc fd fe))))] _
    refine XS.lsub X1583.here hx rfl (hb hby at_607) rfl ?_
    refine wiload X1583 hx hby at_608 L1590_27 ?_
    refine XS.i2l X1583.here hx rfl (hb hby at_610) rfl ?_
    refine XS.lcmp X1583.here hx rfl (hb hby at_611) rfl ?_
    show own_S p e below m T1583 612 L1590 [(.int (lcmpW ((wkb + ((own_lb fc fe).toInt64 + (own_e2 fa fc fd fe))) - wkb) (((own_i fa + own_i fc) + own_i fd) + own_i fe).toInt64))] _
    rw [(own_fin wkb fa fc fd fe : (lcmpW ((wkb + ((own_lb fc fe).toInt64 + (own_e2 fa fc fd fe))) - wkb) (((own_i fa + own_i fc) + own_i fd) + own_i fe).toInt64) = (0 : Int32))]
    show own_S p e below m T1583 612 L1590 [(.int 0)] _
    refine wifNo X1583 hx hby at_612 (by decide) ?_
    refine wiconst X1583 hx hby at_615 ?_
    refine wgoto X1583 hx hby at_616 616 620 rfl (by decide) (by decide) ?_
    exact retN X1583 hx (t := .boolean) Bd.returns (by simp) (hb hby at_620) hr
  · show Q0 Z i0 i1 i2 i3 i4 h0 n0 _ T1583.heap _
    rw [eh1583]
    exact ⟨rfl, N1583⟩
set_option maxRecDepth 65536 in
set_option maxHeartbeats 40000000 in
theorem comes_1 {Post : Tables → Env → Array Value → State → Outcome → State → Prop} (hpost : ∀ tb e args s v u, (limb_1_1.after args s (.returned v) u = true ∧ limb_1_2.after args s (.returned v) u = true ∧ True) → FrameEnd s (.returned v) u (Jvm.fieldLocs frame_1_writes args s ++ Jvm.arrayLocs frame_1_arrays args s ++ Jvm.staticLocs frame_1_statics s) 72 512 → Post tb e args s (.returned v) u) :
    ArmFor flags0 classFile x code maxLocals ret World_1 tables_1 room_1 Calls_1 rest_1 Pre_1 Post := by
  intro l hfl _ _ p e ha hc hk s m args below hf hA hF happ hP
  obtain ⟨hcalls, hrest, hpre⟩ := hP
  obtain ⟨-, -, -, hnamed, -, -, -, hat⟩ := (Spec.applies_iff hf).mp happ
  obtain ⟨hg, hn⟩ := and_e (Cond.before_iff.mp (show (Jvm.Cond.and given_1 narrow_1).before args s = true from hpre))
  obtain ⟨gc, gr0⟩ := and_e hg
  obtain ⟨ga0, gr1⟩ := and_e gr0
  obtain ⟨ga1, gr2⟩ := and_e gr1
  obtain ⟨ga2, gr3⟩ := and_e gr2
  obtain ⟨ga3, gr4⟩ := and_e gr3
  have ga4 := gr4
  obtain ⟨w0, w1, w2, w3, w4, rfl⟩ : ∃ w0 w1 w2 w3 w4 : Value, args = #[w0, w1, w2, w3, w4] := by
    have hs : args.size = 5 := by simpa [Cond.value, given_1] using gc
    obtain ⟨L⟩ := args
    match L, hs with
    | [w0, w1, w2, w3, w4], _ => exact ⟨w0, w1, w2, w3, w4, rfl⟩
  have hw := fun d (hd : d ∈ tables_1) => atoms_spec (ws := Jvm.Cond.code x code maxLocals ret :: tables_1) hat d (List.mem_cons_of_mem _ hd)
  obtain ⟨i0, ei0⟩ := is_v ga0
  obtain rfl : w0 = (.int i0) := Option.some.inj ei0
  obtain ⟨i1, ei1⟩ := is_v ga1
  obtain rfl : w1 = (.int i1) := Option.some.inj ei1
  obtain ⟨i2, ei2⟩ := is_v ga2
  obtain rfl : w2 = (.int i2) := Option.some.inj ei2
  obtain ⟨i3, ei3⟩ := is_v ga3
  obtain rfl : w3 = (.int i3) := Option.some.inj ei3
  obtain ⟨i4, ei4⟩ := is_v ga4
  obtain rfl : w4 = (.int i4) := Option.some.inj ei4
  obtain ⟨n, o, h1, h2, h3, _, L, rfl, ⟨rfl, N⟩, hq⟩ := rm0 l s _ hw tables_1 i0 i1 i2 i3 i4 s.heap s.heap.size (Nat.le_refl _) p e ha hc hk s m _ below hf ((Spec.applies_iff_loose hf).mp happ).1 ⟨rfl, State.Warmed39.refl s, rfl⟩ trivial
  refine ⟨n, _, h1, h2, h3, hpost _ _ _ _ _ _ ⟨Cond.after_iff.mpr rfl, Cond.after_iff.mpr (eq_i res_at (Term.int_eval (1)) rfl), trivial⟩ ⟨hq.1, hq.2.1, (hq.2.2.sift fun y hy => Or.inr (N y hy)).mono (by decide) (by decide)⟩⟩
theorem main_1_1 : Claimed_1_1 := comes_1 fun _ _ _ _ _ _ h hF => ⟨h.1, hF⟩
theorem main_1_2 : Claimed_1_2 := comes_1 fun _ _ _ _ _ _ h hF => ⟨h.2.1, hF⟩
end Jvm.Pilot.@@N@@
namespace Jvm.Pilot.@@N@@
open Jvm Jvm.ClassFile Sem Op Lib Jvm.Free Jvm.Stand Jvm.Pilot.@@N@@.Jvm.D
/-! MADE BY PROGRAM (witnessworld.py) out of the Statement's table words and the real class files: 16 classes; the members and pool entries that the words name. The judged class is class 1, her method 1. -/
namespace start1
open Jvm.ClassFile
def u (s : String) : CpInfo := .utf8 (stringToUtf16 s)
/-- a pool by its gaps: so many unusable entries, then the entry; so many at the end -/
def gap : Nat → List CpInfo → List CpInfo
  | 0, r => r
  | n + 1, r => .unusable :: gap n r
def poolList (es : List (Nat × CpInfo)) (last : Nat) : List CpInfo := es.foldr (fun e r => gap e.1 (e.2 :: r)) (gap last [])
def pool (es : List (Nat × CpInfo)) (last : Nat) : Array CpInfo := ⟨poolList es last⟩
def fileOf (pool : Array CpInfo) (this : Nat) (attrs : Array Attribute := #[]) (ms : Array MethodInfo := #[]) (fl : Nat := 33) (sup : Nat := 0) (ifs : Array Nat := #[]) (fds : Array FieldInfo := #[]) : ClassFile where
  minorVersion := 0
  majorVersion := 65
  constantPool := pool
  accessFlags := fl
  thisClass := this
  superClass := sup
  interfaces := ifs
  fields := fds
  methods := ms
  attributes := attrs
def plain (name : String) (sup : Option ClassId) : Class where
  name := name
  kind := .ordinary
  loader := none
  accessFlags := 33
  super := sup
  interfaces := #[]
  cf := none
  fields := #[]
  methods := #[]
  instanceTypes := #[]
  staticTypes := #[]
  resolved := #[]
  callSites := []
  init := .initialized
  statics := none
  mirror := none

def pool0 : Array CpInfo := pool [(5, u "<init>"), (0, u "()V"), (1, .class_ 10), (1, u "java/lang/Object"), (85, u "clone"), (0, u "()Ljava/lang/Object;")] 26

def k0c0 : Code := { maxStack := 0, maxLocals := 1, code := object_method_1_code, exceptionTable := #[], attributes := #[] }
def k0m0 : Method := { name := "<init>", desc := "()V", sig := { parameters := [], returnType := none }, accessFlags := 1, code := some k0c0 }
def k0m1 : Method := { name := "clone", desc := "()Ljava/lang/Object;", sig := { parameters := [], returnType := some (.object "java/lang/Object") }, accessFlags := 260, code := none }
/-- java/lang/Object -/
def k0 : Class := { plain "java/lang/Object" none with
  accessFlags := 33
  interfaces := #[]
  cf := some (fileOf pool0 8 #[] #[{ accessFlags := 1, nameIndex := 5, descriptorIndex := 6, attributes := #[] }, { accessFlags := 260, nameIndex := 96, descriptorIndex := 97, attributes := #[] }] 33 0 #[] #[])
  fields := #[]
  methods := #[k0m0, k0m1]
  instanceTypes := #[]
  staticTypes := #[]
  resolved := Array.replicate 124 none
  statics := none }

def pool1 : Array CpInfo := pool [(2, .class_ 4), (1, u "java/lang/Object"), (0, u "<init>"), (0, u "()V"), (0, .integer 2147483647), (0, .double 4616189618054758400), (1, .double 4602678819172646912), (1, .double 4611686018427387904), (1, .double 4604930618986332160), (1, .class_ 17), (0, u "com/example/odds2/odds2/engine/Elimination"), (0, .methodref 16 19), (0, .nameAndType 5 20), (0, u "(I)V"), (0, .methodref 16 22), (0, .nameAndType 23 24), (0, u "add"), (0, u "(ID)V"), (0, .methodref 16 26), (0, .nameAndType 27 6), (0, u "endRow"), (2, .long 9223372036854775807), (1, .methodref 16 33), (0, .nameAndType 34 35), (0, u "eliminate"), (0, u "(J)Z"), (0, .methodref 16 37), (0, .nameAndType 38 39), (0, u "work"), (0, u "()J"), (0, .methodref 16 41), (0, .nameAndType 42 43), (0, u "solve"), (0, u "([D)[D"), (0, .class_ 45), (0, u "com/example/odds2/odds2/engine/EliminationSolvePinLaw"), (2, u "law"), (0, u "(IIIII)Z")] 7

def k1m0 : Method := { name := "<init>", desc := "()V", sig := { parameters := [], returnType := none }, accessFlags := 1, code := none }
def k1c1 : Code := { maxStack := 8, maxLocals := 39, code := code, exceptionTable := #[], attributes := #[] }
def k1m1 : Method := { name := "law", desc := "(IIIII)Z", sig := { parameters := [.int, .int, .int, .int, .int], returnType := some .boolean }, accessFlags := 9, code := some k1c1 }
/-- com/example/odds2/odds2/engine/EliminationSolvePinLaw -/
def k1 : Class := { plain "com/example/odds2/odds2/engine/EliminationSolvePinLaw" (some 0) with
  accessFlags := 49
  interfaces := #[]
  cf := some (fileOf pool1 44 #[] #[{ accessFlags := 1, nameIndex := 5, descriptorIndex := 6, attributes := #[] }, { accessFlags := 9, nameIndex := 48, descriptorIndex := 49, attributes := #[] }] 49 2 #[] #[])
  fields := #[]
  methods := #[k1m0, k1m1]
  instanceTypes := #[]
  staticTypes := #[]
  resolved := Array.replicate 57 none
  statics := none }

def pool2 : Array CpInfo := pool [(1, .methodref 2 3), (0, .class_ 4), (0, .nameAndType 5 6), (0, u "java/lang/Object"), (0, u "<init>"), (0, u "()V"), (0, .fieldref 8 9), (0, .class_ 10), (0, .nameAndType 11 12), (0, u "com/example/odds2/odds2/engine/Elimination"), (0, u "openColumns"), (0, u "[I"), (0, .fieldref 8 14), (0, .nameAndType 15 16), (0, u "openCoefficients"), (0, u "[D"), (0, .fieldref 8 18), (0, .nameAndType 19 12), (0, u "mergedColumns"), (0, .fieldref 8 21), (0, .nameAndType 22 16), (0, u "mergedCoefficients"), (0, .fieldref 8 24), (0, .nameAndType 25 12), (0, u "stepRows"), (0, .fieldref 8 27), (0, .nameAndType 28 12), (0, u "stepPivots"), (0, .fieldref 8 30), (0, .nameAndType 31 16), (0, u "stepWeights"), (0, .fieldref 8 33), (0, .nameAndType 34 16), (0, u "stepScales"), (0, .fieldref 8 36), (0, .nameAndType 37 38), (0, u "size"), (0, u "I"), (0, .class_ 12), (0, .fieldref 8 41), (0, .nameAndType 42 43), (0, u "columns"), (0, u "[[I"), (0, .class_ 16), (0, .fieldref 8 46), (0, .nameAndType 47 48), (0, u "coefficients"), (0, u "[[D"), (0, .fieldref 8 50), (0, .nameAndType 51 12), (0, u "lengths"), (0, .fieldref 8 53), (0, .nameAndType 54 43), (0, u "readers"), (0, .fieldref 8 56), (0, .nameAndType 57 12), (0, u "readerCounts"), (0, .fieldref 8 59), (0, .nameAndType 60 38), (0, u "openLength"), (1, .class_ 64), (1, u "java/util/Arrays"), (5, .methodref 62 71), (0, .nameAndType 72 73), (0, u "sort"), (0, u "([J)V"), (0, .fieldref 8 75), (0, .nameAndType 76 38), (0, u "rows"), (0, .methodref 8 78), (0, .nameAndType 79 80), (0, u "addReader"), (0, u "(II)V"), (0, .fieldref 8 82), (0, .nameAndType 83 84), (0, u "entries"), (0, u "J"), (0, .fieldref 8 86), (0, .nameAndType 87 84), (0, u "work"), (0, .long 16), (1, .methodref 8 91), (0, .nameAndType 92 93), (0, u "substitute"), (0, u "(II)Z"), (0, .methodref 44 95), (0, .nameAndType 96 97), (0, u "clone"), (0, u "()Ljava/lang/Object;"), (0, .fieldref 8 99), (0, .nameAndType 100 38), (0, u "steps"), (0, .methodref 62 102), (0, .nameAndType 103 104), (0, u "binarySearch"), (0, u "([IIII)I"), (2, .integer 2147483647), (6, .methodref 115 116), (0, .class_ 117), (0, .nameAndType 118 119), (0, u "java/lang/System"), (0, u "arraycopy"), (0, u "(Ljava/lang/Object;ILjava/lang/Object;II)V"), (0, .methodref 8 121), (0, .nameAndType 122 123), (0, u "record"), (0, u "(IIDD)V"), (0, u "GROWTH"), (2, u "(I)V"), (2, u "add"), (0, u "(ID)V"), (1, u "endRow"), (2, u "eliminate"), (0, u "(J)Z"), (0, u "solve"), (0, u "([D)[D"), (0, u "()J")] 2

def k2c0 : Code := { maxStack := 2, maxLocals := 2, code := prog_14_method_1_code, exceptionTable := #[], attributes := #[] }
def k2m0 : Method := { name := "<init>", desc := "(I)V", sig := { parameters := [.int], returnType := none }, accessFlags := 0, code := some k2c0 }
def k2c1 : Code := { maxStack := 4, maxLocals := 4, code := prog_14_method_2_code, exceptionTable := #[], attributes := #[] }
def k2m1 : Method := { name := "add", desc := "(ID)V", sig := { parameters := [.int, .double], returnType := none }, accessFlags := 0, code := some k2c1 }
def k2c2 : Code := { maxStack := 6, maxLocals := 13, code := prog_14_method_3_code, exceptionTable := #[], attributes := #[] }
def k2m2 : Method := { name := "endRow", desc := "()V", sig := { parameters := [], returnType := none }, accessFlags := 0, code := some k2c2 }
def k2c3 : Code := { maxStack := 6, maxLocals := 8, code := prog_14_method_4_code, exceptionTable := #[], attributes := #[] }
def k2m3 : Method := { name := "eliminate", desc := "(J)Z", sig := { parameters := [.long], returnType := some .boolean }, accessFlags := 0, code := some k2c3 }
def k2c4 : Code := { maxStack := 9, maxLocals := 7, code := prog_14_method_5_code, exceptionTable := #[], attributes := #[] }
def k2m4 : Method := { name := "solve", desc := "([D)[D", sig := { parameters := [(.array .double)], returnType := some (.array .double) }, accessFlags := 0, code := some k2c4 }
def k2c5 : Code := { maxStack := 2, maxLocals := 1, code := prog_14_method_6_code, exceptionTable := #[], attributes := #[] }
def k2m5 : Method := { name := "work", desc := "()J", sig := { parameters := [], returnType := some .long }, accessFlags := 0, code := some k2c5 }
def k2c6 : Code := { maxStack := 8, maxLocals := 19, code := prog_14_method_7_code, exceptionTable := #[], attributes := #[] }
def k2m6 : Method := { name := "substitute", desc := "(II)Z", sig := { parameters := [.int, .int], returnType := some .boolean }, accessFlags := 2, code := some k2c6 }
def k2c7 : Code := { maxStack := 4, maxLocals := 7, code := prog_14_method_8_code, exceptionTable := #[], attributes := #[] }
def k2m7 : Method := { name := "record", desc := "(IIDD)V", sig := { parameters := [.int, .int, .double, .double], returnType := none }, accessFlags := 2, code := some k2c7 }
def k2c8 : Code := { maxStack := 6, maxLocals := 4, code := prog_14_method_9_code, exceptionTable := #[], attributes := #[] }
def k2m8 : Method := { name := "addReader", desc := "(II)V", sig := { parameters := [.int, .int], returnType := none }, accessFlags := 2, code := some k2c8 }
/-- com/example/odds2/odds2/engine/Elimination -/
def k2 : Class := { plain "com/example/odds2/odds2/engine/Elimination" (some 0) with
  accessFlags := 48
  interfaces := #[]
  cf := some (fileOf pool2 8 #[] #[{ accessFlags := 0, nameIndex := 5, descriptorIndex := 127, attributes := #[] }, { accessFlags := 0, nameIndex := 130, descriptorIndex := 131, attributes := #[] }, { accessFlags := 0, nameIndex := 133, descriptorIndex := 6, attributes := #[] }, { accessFlags := 0, nameIndex := 136, descriptorIndex := 137, attributes := #[] }, { accessFlags := 0, nameIndex := 138, descriptorIndex := 139, attributes := #[] }, { accessFlags := 0, nameIndex := 87, descriptorIndex := 140, attributes := #[] }, { accessFlags := 2, nameIndex := 92, descriptorIndex := 93, attributes := #[] }, { accessFlags := 2, nameIndex := 122, descriptorIndex := 123, attributes := #[] }, { accessFlags := 2, nameIndex := 79, descriptorIndex := 80, attributes := #[] }] 48 2 #[] #[{ accessFlags := 26, nameIndex := 124, descriptorIndex := 38, attributes := #[] }, { accessFlags := 18, nameIndex := 37, descriptorIndex := 38, attributes := #[] }, { accessFlags := 18, nameIndex := 42, descriptorIndex := 43, attributes := #[] }, { accessFlags := 18, nameIndex := 47, descriptorIndex := 48, attributes := #[] }, { accessFlags := 18, nameIndex := 51, descriptorIndex := 12, attributes := #[] }, { accessFlags := 18, nameIndex := 54, descriptorIndex := 43, attributes := #[] }, { accessFlags := 18, nameIndex := 57, descriptorIndex := 12, attributes := #[] }, { accessFlags := 2, nameIndex := 76, descriptorIndex := 38, attributes := #[] }, { accessFlags := 2, nameIndex := 83, descriptorIndex := 84, attributes := #[] }, { accessFlags := 2, nameIndex := 87, descriptorIndex := 84, attributes := #[] }, { accessFlags := 2, nameIndex := 11, descriptorIndex := 12, attributes := #[] }, { accessFlags := 2, nameIndex := 15, descriptorIndex := 16, attributes := #[] }, { accessFlags := 2, nameIndex := 60, descriptorIndex := 38, attributes := #[] }, { accessFlags := 2, nameIndex := 19, descriptorIndex := 12, attributes := #[] }, { accessFlags := 2, nameIndex := 22, descriptorIndex := 16, attributes := #[] }, { accessFlags := 2, nameIndex := 100, descriptorIndex := 38, attributes := #[] }, { accessFlags := 2, nameIndex := 25, descriptorIndex := 12, attributes := #[] }, { accessFlags := 2, nameIndex := 28, descriptorIndex := 12, attributes := #[] }, { accessFlags := 2, nameIndex := 31, descriptorIndex := 16, attributes := #[] }, { accessFlags := 2, nameIndex := 34, descriptorIndex := 16, attributes := #[] }])
  fields := #[{ name := "GROWTH", type := .int, accessFlags := 26, slot := 0, constantValue := 0 }, { name := "size", type := .int, accessFlags := 18, slot := 0, constantValue := 0 }, { name := "columns", type := (.array (.array .int)), accessFlags := 18, slot := 1, constantValue := 0 }, { name := "coefficients", type := (.array (.array .double)), accessFlags := 18, slot := 2, constantValue := 0 }, { name := "lengths", type := (.array .int), accessFlags := 18, slot := 3, constantValue := 0 }, { name := "readers", type := (.array (.array .int)), accessFlags := 18, slot := 4, constantValue := 0 }, { name := "readerCounts", type := (.array .int), accessFlags := 18, slot := 5, constantValue := 0 }, { name := "rows", type := .int, accessFlags := 2, slot := 6, constantValue := 0 }, { name := "entries", type := .long, accessFlags := 2, slot := 7, constantValue := 0 }, { name := "work", type := .long, accessFlags := 2, slot := 8, constantValue := 0 }, { name := "openColumns", type := (.array .int), accessFlags := 2, slot := 9, constantValue := 0 }, { name := "openCoefficients", type := (.array .double), accessFlags := 2, slot := 10, constantValue := 0 }, { name := "openLength", type := .int, accessFlags := 2, slot := 11, constantValue := 0 }, { name := "mergedColumns", type := (.array .int), accessFlags := 2, slot := 12, constantValue := 0 }, { name := "mergedCoefficients", type := (.array .double), accessFlags := 2, slot := 13, constantValue := 0 }, { name := "steps", type := .int, accessFlags := 2, slot := 14, constantValue := 0 }, { name := "stepRows", type := (.array .int), accessFlags := 2, slot := 15, constantValue := 0 }, { name := "stepPivots", type := (.array .int), accessFlags := 2, slot := 16, constantValue := 0 }, { name := "stepWeights", type := (.array .double), accessFlags := 2, slot := 17, constantValue := 0 }, { name := "stepScales", type := (.array .double), accessFlags := 2, slot := 18, constantValue := 0 }]
  methods := #[k2m0, k2m1, k2m2, k2m3, k2m4, k2m5, k2m6, k2m7, k2m8]
  instanceTypes := #[.int, (.array (.array .int)), (.array (.array .double)), (.array .int), (.array (.array .int)), (.array .int), .int, .long, .long, (.array .int), (.array .double), .int, (.array .int), (.array .double), .int, (.array .int), (.array .int), (.array .double), (.array .double)]
  staticTypes := #[.int]
  resolved := Array.replicate 143 none
  statics := none }

def pool3 : Array CpInfo := pool [(2, .class_ 4), (1, u "java/lang/Object"), (0, u "<init>"), (0, u "()V"), (1, .class_ 10), (1, u "java/util/DualPivotQuicksort"), (0, u "sort"), (1, .methodref 14 15), (0, .class_ 16), (0, .nameAndType 17 18), (0, u "java/util/Arrays"), (0, u "rangeCheck"), (0, u "(III)V"), (0, .methodref 8 20), (0, .nameAndType 11 21), (0, u "([JIII)V"), (52, .class_ 76), (1, u "java/util/Arrays$NaturalOrder"), (36, .class_ 115), (1, u "java/util/Arrays$LegacyMergeSort"), (1, u "Z"), (89, u "binarySearch0"), (1, .methodref 14 210), (0, .nameAndType 207 211), (0, u "([IIII)I"), (163, .class_ 376), (0, u "java/util/Arrays$ArrayList"), (68, u "$assertionsDisabled"), (269, u "MIN_ARRAY_SORT_GRAN"), (0, u "I"), (2, u "INSERTIONSORT_THRESHOLD"), (11, u "([J)V"), (62, u "binarySearch"), (180, .class_ 976), (0, u "java/util/Arrays$ArrayItr")] 52

def k3m0 : Method := { name := "<init>", desc := "()V", sig := { parameters := [], returnType := none }, accessFlags := 2, code := none }
def k3c1 : Code := { maxStack := 4, maxLocals := 1, code := jdk_65_method_4_code, exceptionTable := #[], attributes := #[] }
def k3m1 : Method := { name := "sort", desc := "([J)V", sig := { parameters := [(.array .long)], returnType := none }, accessFlags := 9, code := some k3c1 }
def k3c2 : Code := { maxStack := 4, maxLocals := 3, code := jdk_65_method_30_code, exceptionTable := #[], attributes := #[] }
def k3m2 : Method := { name := "rangeCheck", desc := "(III)V", sig := { parameters := [.int, .int, .int], returnType := none }, accessFlags := 8, code := some k3c2 }
def k3c3 : Code := { maxStack := 4, maxLocals := 4, code := jdk_65_method_58_code, exceptionTable := #[], attributes := #[] }
def k3m3 : Method := { name := "binarySearch", desc := "([IIII)I", sig := { parameters := [(.array .int), .int, .int, .int], returnType := some .int }, accessFlags := 9, code := some k3c3 }
def k3c4 : Code := { maxStack := 2, maxLocals := 8, code := jdk_65_method_59_code, exceptionTable := #[], attributes := #[] }
def k3m4 : Method := { name := "binarySearch0", desc := "([IIII)I", sig := { parameters := [(.array .int), .int, .int, .int], returnType := some .int }, accessFlags := 10, code := some k3c4 }
/-- java/util/Arrays -/
def k3 : Class := { plain "java/util/Arrays" (some 0) with
  accessFlags := 49
  interfaces := #[]
  cf := some (fileOf pool3 14 #[.nestMembers #[975, 375, 113, 74]] #[{ accessFlags := 2, nameIndex := 5, descriptorIndex := 6, attributes := #[] }, { accessFlags := 9, nameIndex := 11, descriptorIndex := 731, attributes := #[] }, { accessFlags := 8, nameIndex := 17, descriptorIndex := 18, attributes := #[] }, { accessFlags := 9, nameIndex := 794, descriptorIndex := 211, attributes := #[] }, { accessFlags := 10, nameIndex := 207, descriptorIndex := 211, attributes := #[] }] 49 2 #[] #[{ accessFlags := 26, nameIndex := 715, descriptorIndex := 716, attributes := #[] }, { accessFlags := 26, nameIndex := 719, descriptorIndex := 716, attributes := #[] }, { accessFlags := 4120, nameIndex := 445, descriptorIndex := 117, attributes := #[] }])
  fields := #[{ name := "MIN_ARRAY_SORT_GRAN", type := .int, accessFlags := 26, slot := 0, constantValue := 0 }, { name := "INSERTIONSORT_THRESHOLD", type := .int, accessFlags := 26, slot := 1, constantValue := 0 }, { name := "$assertionsDisabled", type := .boolean, accessFlags := 4120, slot := 2, constantValue := 0 }]
  methods := #[k3m0, k3m1, k3m2, k3m3, k3m4]
  instanceTypes := #[]
  staticTypes := #[.int, .int, .boolean]
  resolved := Array.replicate 1029 none
  statics := none }

def pool4 : Array CpInfo := pool [(1, .class_ 2), (0, u "java/util/DualPivotQuicksort"), (5, .class_ 10), (1, u "java/lang/Object"), (0, u "<init>"), (0, u "()V"), (4, .class_ 18), (0, u "java/util/DualPivotQuicksort$Sorter"), (9, u "sort"), (7, u "insertionSort"), (31, u "I"), (4, .class_ 74), (0, u "java/util/DualPivotQuicksort$RunMerger"), (10, .class_ 86), (0, u "java/util/DualPivotQuicksort$Merger"), (12, .methodref 1 100), (0, .nameAndType 28 101), (0, u "(Ljava/util/DualPivotQuicksort$Sorter;[JIII)V"), (2, u "([JIII)V"), (0, .methodref 1 106), (0, .nameAndType 36 107), (0, u "([JII)V"), (106, u "MAX_MIXED_INSERTION_SORT_SIZE"), (2, u "MAX_INSERTION_SORT_SIZE"), (1, u "MIN_PARALLEL_SORT_SIZE"), (1, u "MIN_TRY_MERGE_SIZE"), (0, u "MIN_FIRST_RUN_SIZE"), (1, u "MIN_FIRST_RUNS_FACTOR"), (1, u "MAX_RUN_CAPACITY"), (1, u "MIN_RUN_COUNT"), (1, u "MIN_PARALLEL_MERGE_PARTS_SIZE"), (0, u "MIN_BYTE_COUNTING_SORT_SIZE"), (1, u "MIN_SHORT_OR_CHAR_COUNTING_SORT_SIZE"), (1, u "DELTA"), (1, u "MAX_RECURSION_DEPTH"), (1, u "NUM_BYTE_VALUES"), (1, u "MAX_BYTE_INDEX"), (0, u "NUM_CHAR_VALUES"), (0, u "NUM_SHORT_VALUES"), (0, u "MAX_SHORT_INDEX")] 86

def k4m0 : Method := { name := "<init>", desc := "()V", sig := { parameters := [], returnType := none }, accessFlags := 2, code := none }
def k4c1 : Code := { maxStack := 9, maxLocals := 7, code := jdk_2529_method_12_code, exceptionTable := #[], attributes := #[] }
def k4m1 : Method := { name := "sort", desc := "([JIII)V", sig := { parameters := [(.array .long), .int, .int, .int], returnType := none }, accessFlags := 8, code := some k4c1 }
def k4c2 : Code := { maxStack := 6, maxLocals := 25, code := jdk_2529_method_13_code, exceptionTable := #[], attributes := #[] }
def k4m2 : Method := { name := "sort", desc := "(Ljava/util/DualPivotQuicksort$Sorter;[JIII)V", sig := { parameters := [(.object "java/util/DualPivotQuicksort$Sorter"), (.array .long), .int, .int, .int], returnType := none }, accessFlags := 8, code := some k4c2 }
def k4c3 : Code := { maxStack := 5, maxLocals := 7, code := jdk_2529_method_15_code, exceptionTable := #[], attributes := #[] }
def k4m3 : Method := { name := "insertionSort", desc := "([JII)V", sig := { parameters := [(.array .long), .int, .int], returnType := none }, accessFlags := 10, code := some k4c3 }
/-- java/util/DualPivotQuicksort -/
def k4 : Class := { plain "java/util/DualPivotQuicksort" (some 0) with
  accessFlags := 48
  interfaces := #[]
  cf := some (fileOf pool4 1 #[.nestMembers #[73, 85, 17]] #[{ accessFlags := 2, nameIndex := 11, descriptorIndex := 12, attributes := #[] }, { accessFlags := 8, nameIndex := 28, descriptorIndex := 104, attributes := #[] }, { accessFlags := 8, nameIndex := 28, descriptorIndex := 101, attributes := #[] }, { accessFlags := 10, nameIndex := 36, descriptorIndex := 107, attributes := #[] }] 48 8 #[] #[{ accessFlags := 26, nameIndex := 214, descriptorIndex := 68, attributes := #[] }, { accessFlags := 26, nameIndex := 217, descriptorIndex := 68, attributes := #[] }, { accessFlags := 26, nameIndex := 219, descriptorIndex := 68, attributes := #[] }, { accessFlags := 26, nameIndex := 221, descriptorIndex := 68, attributes := #[] }, { accessFlags := 26, nameIndex := 222, descriptorIndex := 68, attributes := #[] }, { accessFlags := 26, nameIndex := 224, descriptorIndex := 68, attributes := #[] }, { accessFlags := 26, nameIndex := 226, descriptorIndex := 68, attributes := #[] }, { accessFlags := 26, nameIndex := 228, descriptorIndex := 68, attributes := #[] }, { accessFlags := 26, nameIndex := 230, descriptorIndex := 68, attributes := #[] }, { accessFlags := 26, nameIndex := 231, descriptorIndex := 68, attributes := #[] }, { accessFlags := 26, nameIndex := 233, descriptorIndex := 68, attributes := #[] }, { accessFlags := 26, nameIndex := 235, descriptorIndex := 68, attributes := #[] }, { accessFlags := 26, nameIndex := 237, descriptorIndex := 68, attributes := #[] }, { accessFlags := 26, nameIndex := 239, descriptorIndex := 68, attributes := #[] }, { accessFlags := 26, nameIndex := 241, descriptorIndex := 68, attributes := #[] }, { accessFlags := 26, nameIndex := 242, descriptorIndex := 68, attributes := #[] }, { accessFlags := 26, nameIndex := 243, descriptorIndex := 68, attributes := #[] }, { accessFlags := 26, nameIndex := 244, descriptorIndex := 68, attributes := #[] }])
  fields := #[{ name := "MAX_MIXED_INSERTION_SORT_SIZE", type := .int, accessFlags := 26, slot := 0, constantValue := 0 }, { name := "MAX_INSERTION_SORT_SIZE", type := .int, accessFlags := 26, slot := 1, constantValue := 0 }, { name := "MIN_PARALLEL_SORT_SIZE", type := .int, accessFlags := 26, slot := 2, constantValue := 0 }, { name := "MIN_TRY_MERGE_SIZE", type := .int, accessFlags := 26, slot := 3, constantValue := 0 }, { name := "MIN_FIRST_RUN_SIZE", type := .int, accessFlags := 26, slot := 4, constantValue := 0 }, { name := "MIN_FIRST_RUNS_FACTOR", type := .int, accessFlags := 26, slot := 5, constantValue := 0 }, { name := "MAX_RUN_CAPACITY", type := .int, accessFlags := 26, slot := 6, constantValue := 0 }, { name := "MIN_RUN_COUNT", type := .int, accessFlags := 26, slot := 7, constantValue := 0 }, { name := "MIN_PARALLEL_MERGE_PARTS_SIZE", type := .int, accessFlags := 26, slot := 8, constantValue := 0 }, { name := "MIN_BYTE_COUNTING_SORT_SIZE", type := .int, accessFlags := 26, slot := 9, constantValue := 0 }, { name := "MIN_SHORT_OR_CHAR_COUNTING_SORT_SIZE", type := .int, accessFlags := 26, slot := 10, constantValue := 0 }, { name := "DELTA", type := .int, accessFlags := 26, slot := 11, constantValue := 0 }, { name := "MAX_RECURSION_DEPTH", type := .int, accessFlags := 26, slot := 12, constantValue := 0 }, { name := "NUM_BYTE_VALUES", type := .int, accessFlags := 26, slot := 13, constantValue := 0 }, { name := "MAX_BYTE_INDEX", type := .int, accessFlags := 26, slot := 14, constantValue := 0 }, { name := "NUM_CHAR_VALUES", type := .int, accessFlags := 26, slot := 15, constantValue := 0 }, { name := "NUM_SHORT_VALUES", type := .int, accessFlags := 26, slot := 16, constantValue := 0 }, { name := "MAX_SHORT_INDEX", type := .int, accessFlags := 26, slot := 17, constantValue := 0 }]
  methods := #[k4m0, k4m1, k4m2, k4m3]
  instanceTypes := #[]
  staticTypes := #[.int, .int, .int, .int, .int, .int, .int, .int, .int, .int, .int, .int, .int, .int, .int, .int, .int, .int]
  resolved := Array.replicate 331 none
  statics := none }

def pool5 : Array CpInfo := pool [(2, .class_ 4), (1, u "java/lang/Object"), (0, u "<init>"), (0, u "()V"), (1, .class_ 10), (1, u "java/lang/System"), (0, u "allowSecurityManager"), (0, u "I"), (16, u "cons"), (0, u "Ljava/io/Console;"), (77, .class_ 110), (1, u "java/lang/System$CallersHolder"), (43, u "initialErrStream"), (0, u "Ljava/io/PrintStream;"), (19, u "security"), (0, u "Ljava/lang/SecurityManager;"), (31, .class_ 209), (0, u "java/lang/System$1"), (7, u "props"), (0, u "Ljava/util/Properties;"), (2, u "lineSeparator"), (0, u "Ljava/lang/String;"), (96, .class_ 321), (1, u "java/lang/System$LoggerFinder"), (5, .class_ 328), (0, u "java/lang/System$Logger"), (67, u "err"), (2, u "out"), (91, u "notSupportedJnuEncoding"), (15, u "in"), (17, u "initialIn"), (0, u "Ljava/io/InputStream;"), (35, u "bootLayer"), (0, u "Ljava/lang/ModuleLayer;"), (99, .class_ 664), (0, u "java/lang/System$2"), (9, u "NEVER"), (2, u "MAYBE"), (49, u "arraycopy"), (0, u "(Ljava/lang/Object;ILjava/lang/Object;II)V"), (72, .class_ 802), (0, u "java/lang/System$Logger$Level")] 31

def k5m0 : Method := { name := "<init>", desc := "()V", sig := { parameters := [], returnType := none }, accessFlags := 2, code := none }
def k5m1 : Method := { name := "arraycopy", desc := "(Ljava/lang/Object;ILjava/lang/Object;II)V", sig := { parameters := [(.object "java/lang/Object"), .int, (.object "java/lang/Object"), .int, .int], returnType := none }, accessFlags := 265, code := none }
/-- java/lang/System -/
def k5 : Class := { plain "java/lang/System" (some 0) with
  accessFlags := 49
  interfaces := #[]
  cf := some (fileOf pool5 8 #[.nestMembers #[319, 327, 801, 108, 663, 208]] #[{ accessFlags := 2, nameIndex := 5, descriptorIndex := 6, attributes := #[] }, { accessFlags := 265, nameIndex := 727, descriptorIndex := 728, attributes := #[] }] 49 2 #[] #[{ accessFlags := 25, nameIndex := 507, descriptorIndex := 526, attributes := #[] }, { accessFlags := 25, nameIndex := 399, descriptorIndex := 155, attributes := #[] }, { accessFlags := 25, nameIndex := 396, descriptorIndex := 155, attributes := #[] }, { accessFlags := 10, nameIndex := 525, descriptorIndex := 526, attributes := #[] }, { accessFlags := 26, nameIndex := 674, descriptorIndex := 12, attributes := #[] }, { accessFlags := 26, nameIndex := 677, descriptorIndex := 12, attributes := #[] }, { accessFlags := 10, nameIndex := 11, descriptorIndex := 12, attributes := #[] }, { accessFlags := 74, nameIndex := 175, descriptorIndex := 176, attributes := #[] }, { accessFlags := 10, nameIndex := 491, descriptorIndex := 222, attributes := #[] }, { accessFlags := 74, nameIndex := 29, descriptorIndex := 30, attributes := #[] }, { accessFlags := 74, nameIndex := 154, descriptorIndex := 155, attributes := #[] }, { accessFlags := 10, nameIndex := 217, descriptorIndex := 218, attributes := #[] }, { accessFlags := 10, nameIndex := 221, descriptorIndex := 222, attributes := #[] }, { accessFlags := 8, nameIndex := 562, descriptorIndex := 563, attributes := #[] }])
  fields := #[{ name := "in", type := (.object "java/io/InputStream"), accessFlags := 25, slot := 0, constantValue := 0 }, { name := "out", type := (.object "java/io/PrintStream"), accessFlags := 25, slot := 1, constantValue := 0 }, { name := "err", type := (.object "java/io/PrintStream"), accessFlags := 25, slot := 2, constantValue := 0 }, { name := "initialIn", type := (.object "java/io/InputStream"), accessFlags := 10, slot := 3, constantValue := 0 }, { name := "NEVER", type := .int, accessFlags := 26, slot := 4, constantValue := 0 }, { name := "MAYBE", type := .int, accessFlags := 26, slot := 5, constantValue := 0 }, { name := "allowSecurityManager", type := .int, accessFlags := 10, slot := 6, constantValue := 0 }, { name := "security", type := (.object "java/lang/SecurityManager"), accessFlags := 74, slot := 7, constantValue := 0 }, { name := "notSupportedJnuEncoding", type := (.object "java/lang/String"), accessFlags := 10, slot := 8, constantValue := 0 }, { name := "cons", type := (.object "java/io/Console"), accessFlags := 74, slot := 9, constantValue := 0 }, { name := "initialErrStream", type := (.object "java/io/PrintStream"), accessFlags := 74, slot := 10, constantValue := 0 }, { name := "props", type := (.object "java/util/Properties"), accessFlags := 10, slot := 11, constantValue := 0 }, { name := "lineSeparator", type := (.object "java/lang/String"), accessFlags := 10, slot := 12, constantValue := 0 }, { name := "bootLayer", type := (.object "java/lang/ModuleLayer"), accessFlags := 8, slot := 13, constantValue := 0 }]
  methods := #[k5m0, k5m1]
  instanceTypes := #[]
  staticTypes := #[(.object "java/io/InputStream"), (.object "java/io/PrintStream"), (.object "java/io/PrintStream"), (.object "java/io/InputStream"), .int, .int, .int, (.object "java/lang/SecurityManager"), (.object "java/lang/String"), (.object "java/io/Console"), (.object "java/io/PrintStream"), (.object "java/util/Properties"), (.object "java/lang/String"), (.object "java/lang/ModuleLayer")]
  resolved := Array.replicate 834 none
  statics := none }

def pool6 : Array CpInfo := pool [(1, .class_ 2), (0, u "java/lang/Cloneable"), (0, .class_ 4), (0, u "java/lang/Object")] 2

/-- java/lang/Cloneable -/
def k6 : Class := { plain "java/lang/Cloneable" (some 0) with
  accessFlags := 1537
  interfaces := #[]
  cf := some (fileOf pool6 1 #[] #[] 1537 3 #[] #[])
  fields := #[]
  methods := #[]
  instanceTypes := #[]
  staticTypes := #[]
  resolved := Array.replicate 7 none
  statics := none }

def pool7 : Array CpInfo := pool [(1, u "java/io/Serializable"), (0, .class_ 1), (0, u "java/lang/Object"), (0, .class_ 3)] 3

/-- java/io/Serializable -/
def k7 : Class := { plain "java/io/Serializable" (some 0) with
  accessFlags := 1537
  interfaces := #[]
  cf := some (fileOf pool7 2 #[] #[] 1537 4 #[] #[])
  fields := #[]
  methods := #[]
  instanceTypes := #[]
  staticTypes := #[]
  resolved := Array.replicate 8 none
  statics := none }

/-- the primitive byte -/
def k8 : Class := { plain "byte" none with kind := .primitive 'B', accessFlags := 0x411 }
/-- [B -/
def k9 : Class := { plain "[B" (some 0) with kind := .array 8 .byte, interfaces := #[6, 7], accessFlags := 1041 }

/-- the primitive double -/
def k10 : Class := { plain "double" none with kind := .primitive 'D', accessFlags := 0x411 }
/-- [D -/
def k11 : Class := { plain "[D" (some 0) with kind := .array 10 .double, interfaces := #[6, 7], accessFlags := 1041 }

/-- the primitive int -/
def k12 : Class := { plain "int" none with kind := .primitive 'I', accessFlags := 0x411 }
/-- [I -/
def k13 : Class := { plain "[I" (some 0) with kind := .array 12 .int, interfaces := #[6, 7], accessFlags := 1041 }

/-- the primitive long -/
def k14 : Class := { plain "long" none with kind := .primitive 'J', accessFlags := 0x411 }
/-- [J -/
def k15 : Class := { plain "[J" (some 0) with kind := .array 14 .long, interfaces := #[6, 7], accessFlags := 1041 }

/-- [[D -/
def k16 : Class := { plain "[[D" (some 0) with kind := .array 11 (.array .double), interfaces := #[6, 7], accessFlags := 1041 }
/-- [[I -/
def k17 : Class := { plain "[[I" (some 0) with kind := .array 13 (.array .int), interfaces := #[6, 7], accessFlags := 1041 }

def heap : Heap := #[]
def classes : Array Class := #[k0, k1, k2, k3, k4, k5, k6, k7, k8, k9, k10, k11, k12, k13, k14, k15, k16, k17]
def interned : List (Array UInt16 × Addr) := []
def slotsUsed : Nat := 0
def theMethod : MethodId := ⟨1, 1⟩
def args0 : Array Value := #[.int 5, .int 5, .int 5, .int 5, .int 5]
def aboutOver (below : List Frame) : State where
  vm := { classes := classes, interned := interned.toArray }
  heap := heap
  slotsUsed := slotsUsed
  threads := #[{ frames := .invoking theMethod args0 :: below }]
def below0 : List Frame := [.native { method := ⟨0, 0⟩, args := #[] }]
def about1 : State := aboutOver below0
def p0 : Program := .bare "" "" ""
def e0 : Env := launch0.env 0 0 0
theorem w_frames : about1.frames = Frame.invoking theMethod args0 :: below0 := rfl
set_option maxRecDepth 65536 in
theorem w_args : argsFit about1.vm theMethod args0 = true := by decide +kernel
set_option maxRecDepth 65536 in
theorem w_heap : heapFits about1 = true := by decide +kernel
set_option maxRecDepth 65536 in
theorem w_runnable : about1.curStatus? = some .runnable := by decide +kernel
set_option maxRecDepth 65536 in
theorem w_alone : about1.alone = true := by decide +kernel
set_option maxRecDepth 65536 in
theorem w_named : about1.methodNamed? x = some theMethod := by decide +kernel
set_option maxRecDepth 65536 in
theorem w_hears : about1.hears theMethod below0 = true := by decide +kernel
set_option maxRecDepth 65536 in
theorem w_ripe : about1.ripe theMethod args0 below0 = true := by decide +kernel
theorem w_running : about1.status = .running := rfl
set_option maxRecDepth 65536 in
theorem w_room : about1.hasRoom e0.platform room_1 = true :=
  launch0.hasRoom_least _ room_1 (by decide +kernel) (by decide +kernel) (by decide +kernel) (by decide +kernel) (by decide +kernel) (by decide +kernel)
theorem allAtoms_all (ts : List Jvm.Cond) (a : Array Jvm.Value) (st : Jvm.State) : (allAtoms ts).before a st = ts.all (fun c => c.before a st) := by
  induction ts with
  | nil => rfl
  | cons c t ih =>
    show (Jvm.Cond.and c (allAtoms t)).before a st = _
    rw [Jvm.Cond.before_and, ih, List.all_cons]
def words1 : List Jvm.Cond := Jvm.Cond.code x code maxLocals ret :: tables_1
/-- a 'code' word, met by the world's own term for the bytes: nothing is compared byte by byte -/
theorem code_word {y : MethodName} {bytes : ByteArray} {mx : Nat} {rt : Option FieldType} {a : Array Value} {s : State} {m : MethodId} {meth : Method} {c : Code} (h1 : s.methodNamed? y = some m) (h2 : s.vm.method? m = some meth) (h3 : meth.code = some c) (h4 : c.code = bytes)
    (h5 : (c.maxLocals == mx && c.exceptionTable.isEmpty && decide (c.maxStack ≤ mostOperands) && decide (meth.sig.returnType = rt) && !meth.locks && decide (parseMethodDescriptor y.desc = some meth.sig)) = true) : (Jvm.Cond.code y bytes mx rt).before a s = true := by
  simp only [Bool.and_eq_true, beq_iff_eq, Bool.not_eq_true', decide_eq_true_eq] at h5
  obtain ⟨⟨⟨⟨⟨g1, g2⟩, g3⟩, g4⟩, g5⟩, g6⟩ := h5
  simp [Cond.before, Cond.holds, Cond.value, h1, h2, h3, h4, g1, g2, g3, g4, g5, g6]
def isCode : Jvm.Cond → Bool
  | .code _ _ _ _ => true
  | _ => false
theorem all_split {L : List Jvm.Cond} {P : Jvm.Cond → Bool} (h1 : L.all (fun c => isCode c || P c) = true) (h2 : ∀ c ∈ L.filter isCode, P c = true) : L.all P = true := by
  refine List.all_eq_true.mpr fun c hc => ?_
  have h := List.all_eq_true.mp h1 c hc
  rcases Bool.eq_false_or_eq_true (isCode c) with hi | hi
  · exact h2 c (List.mem_filter.mpr ⟨hc, hi⟩)
  · simpa [hi] using h
set_option maxRecDepth 65536 in
theorem w_c0 : (Jvm.Cond.code x code maxLocals ret).before args0 about1 = true := code_word (m := ⟨1, 1⟩) (meth := k1m1) (c := k1c1) (by decide +kernel) rfl rfl rfl (by decide +kernel)
set_option maxRecDepth 65536 in
theorem w_c1 : (Jvm.Cond.code ({ cls := "com/example/odds2/odds2/engine/Elimination", name := "<init>", desc := "(I)V" } : Jvm.MethodName) prog_14_method_1_code (2 : Nat) (Option.none : Option Jvm.ClassFile.FieldType)).before args0 about1 = true := code_word (m := ⟨2, 0⟩) (meth := k2m0) (c := k2c0) (by decide +kernel) rfl rfl rfl (by decide +kernel)
set_option maxRecDepth 65536 in
theorem w_c2 : (Jvm.Cond.code ({ cls := "java/lang/Object", name := "<init>", desc := "()V" } : Jvm.MethodName) object_method_1_code (1 : Nat) (Option.none : Option Jvm.ClassFile.FieldType)).before args0 about1 = true := code_word (m := ⟨0, 0⟩) (meth := k0m0) (c := k0c0) (by decide +kernel) rfl rfl rfl (by decide +kernel)
set_option maxRecDepth 65536 in
theorem w_c3 : (Jvm.Cond.code ({ cls := "com/example/odds2/odds2/engine/Elimination", name := "endRow", desc := "()V" } : Jvm.MethodName) prog_14_method_3_code (13 : Nat) (Option.none : Option Jvm.ClassFile.FieldType)).before args0 about1 = true := code_word (m := ⟨2, 2⟩) (meth := k2m2) (c := k2c2) (by decide +kernel) rfl rfl rfl (by decide +kernel)
set_option maxRecDepth 65536 in
theorem w_c4 : (Jvm.Cond.code ({ cls := "java/util/Arrays", name := "sort", desc := "([J)V" } : Jvm.MethodName) jdk_65_method_4_code (1 : Nat) (Option.none : Option Jvm.ClassFile.FieldType)).before args0 about1 = true := code_word (m := ⟨3, 1⟩) (meth := k3m1) (c := k3c1) (by decide +kernel) rfl rfl rfl (by decide +kernel)
set_option maxRecDepth 65536 in
theorem w_c5 : (Jvm.Cond.code ({ cls := "java/util/DualPivotQuicksort", name := "sort", desc := "([JIII)V" } : Jvm.MethodName) jdk_2529_method_12_code (7 : Nat) (Option.none : Option Jvm.ClassFile.FieldType)).before args0 about1 = true := code_word (m := ⟨4, 1⟩) (meth := k4m1) (c := k4c1) (by decide +kernel) rfl rfl rfl (by decide +kernel)
set_option maxRecDepth 65536 in
theorem w_c6 : (Jvm.Cond.code ({ cls := "java/util/DualPivotQuicksort", name := "sort", desc := "(Ljava/util/DualPivotQuicksort$Sorter;[JIII)V" } : Jvm.MethodName) jdk_2529_method_13_code (25 : Nat) (Option.none : Option Jvm.ClassFile.FieldType)).before args0 about1 = true := code_word (m := ⟨4, 2⟩) (meth := k4m2) (c := k4c2) (by decide +kernel) rfl rfl rfl (by decide +kernel)
set_option maxRecDepth 65536 in
theorem w_c7 : (Jvm.Cond.code ({ cls := "java/util/DualPivotQuicksort", name := "insertionSort", desc := "([JII)V" } : Jvm.MethodName) jdk_2529_method_15_code (7 : Nat) (Option.none : Option Jvm.ClassFile.FieldType)).before args0 about1 = true := code_word (m := ⟨4, 3⟩) (meth := k4m3) (c := k4c3) (by decide +kernel) rfl rfl rfl (by decide +kernel)
set_option maxRecDepth 65536 in
theorem w_c8 : (Jvm.Cond.code ({ cls := "com/example/odds2/odds2/engine/Elimination", name := "add", desc := "(ID)V" } : Jvm.MethodName) prog_14_method_2_code (4 : Nat) (Option.none : Option Jvm.ClassFile.FieldType)).before args0 about1 = true := code_word (m := ⟨2, 1⟩) (meth := k2m1) (c := k2c1) (by decide +kernel) rfl rfl rfl (by decide +kernel)
set_option maxRecDepth 65536 in
theorem w_c9 : (Jvm.Cond.code ({ cls := "com/example/odds2/odds2/engine/Elimination", name := "addReader", desc := "(II)V" } : Jvm.MethodName) prog_14_method_9_code (4 : Nat) (Option.none : Option Jvm.ClassFile.FieldType)).before args0 about1 = true := code_word (m := ⟨2, 8⟩) (meth := k2m8) (c := k2c8) (by decide +kernel) rfl rfl rfl (by decide +kernel)
set_option maxRecDepth 65536 in
theorem w_c10 : (Jvm.Cond.code ({ cls := "com/example/odds2/odds2/engine/Elimination", name := "eliminate", desc := "(J)Z" } : Jvm.MethodName) prog_14_method_4_code (8 : Nat) (Option.some Jvm.ClassFile.FieldType.boolean)).before args0 about1 = true := code_word (m := ⟨2, 3⟩) (meth := k2m3) (c := k2c3) (by decide +kernel) rfl rfl rfl (by decide +kernel)
set_option maxRecDepth 65536 in
theorem w_c11 : (Jvm.Cond.code ({ cls := "com/example/odds2/odds2/engine/Elimination", name := "substitute", desc := "(II)Z" } : Jvm.MethodName) prog_14_method_7_code (19 : Nat) (Option.some Jvm.ClassFile.FieldType.boolean)).before args0 about1 = true := code_word (m := ⟨2, 6⟩) (meth := k2m6) (c := k2c6) (by decide +kernel) rfl rfl rfl (by decide +kernel)
set_option maxRecDepth 65536 in
theorem w_c12 : (Jvm.Cond.code ({ cls := "java/util/Arrays", name := "binarySearch", desc := "([IIII)I" } : Jvm.MethodName) jdk_65_method_58_code (4 : Nat) (Option.some Jvm.ClassFile.FieldType.int)).before args0 about1 = true := code_word (m := ⟨3, 3⟩) (meth := k3m3) (c := k3c3) (by decide +kernel) rfl rfl rfl (by decide +kernel)
set_option maxRecDepth 65536 in
theorem w_c13 : (Jvm.Cond.code ({ cls := "java/util/Arrays", name := "rangeCheck", desc := "(III)V" } : Jvm.MethodName) jdk_65_method_30_code (3 : Nat) (Option.none : Option Jvm.ClassFile.FieldType)).before args0 about1 = true := code_word (m := ⟨3, 2⟩) (meth := k3m2) (c := k3c2) (by decide +kernel) rfl rfl rfl (by decide +kernel)
set_option maxRecDepth 65536 in
theorem w_c14 : (Jvm.Cond.code ({ cls := "java/util/Arrays", name := "binarySearch0", desc := "([IIII)I" } : Jvm.MethodName) jdk_65_method_59_code (8 : Nat) (Option.some Jvm.ClassFile.FieldType.int)).before args0 about1 = true := code_word (m := ⟨3, 4⟩) (meth := k3m4) (c := k3c4) (by decide +kernel) rfl rfl rfl (by decide +kernel)
set_option maxRecDepth 65536 in
theorem w_c15 : (Jvm.Cond.code ({ cls := "com/example/odds2/odds2/engine/Elimination", name := "record", desc := "(IIDD)V" } : Jvm.MethodName) prog_14_method_8_code (7 : Nat) (Option.none : Option Jvm.ClassFile.FieldType)).before args0 about1 = true := code_word (m := ⟨2, 7⟩) (meth := k2m7) (c := k2c7) (by decide +kernel) rfl rfl rfl (by decide +kernel)
set_option maxRecDepth 65536 in
theorem w_c16 : (Jvm.Cond.code ({ cls := "com/example/odds2/odds2/engine/Elimination", name := "work", desc := "()J" } : Jvm.MethodName) prog_14_method_6_code (1 : Nat) (Option.some Jvm.ClassFile.FieldType.long)).before args0 about1 = true := code_word (m := ⟨2, 5⟩) (meth := k2m5) (c := k2c5) (by decide +kernel) rfl rfl rfl (by decide +kernel)
set_option maxRecDepth 65536 in
theorem w_c17 : (Jvm.Cond.code ({ cls := "com/example/odds2/odds2/engine/Elimination", name := "solve", desc := "([D)[D" } : Jvm.MethodName) prog_14_method_5_code (7 : Nat) (Option.some (Jvm.ClassFile.FieldType.array Jvm.ClassFile.FieldType.double))).before args0 about1 = true := code_word (m := ⟨2, 4⟩) (meth := k2m4) (c := k2c4) (by decide +kernel) rfl rfl rfl (by decide +kernel)
def codes1 : List Jvm.Cond := [Jvm.Cond.code x code maxLocals ret, Jvm.Cond.code ({ cls := "com/example/odds2/odds2/engine/Elimination", name := "<init>", desc := "(I)V" } : Jvm.MethodName) prog_14_method_1_code (2 : Nat) (Option.none : Option Jvm.ClassFile.FieldType), Jvm.Cond.code ({ cls := "java/lang/Object", name := "<init>", desc := "()V" } : Jvm.MethodName) object_method_1_code (1 : Nat) (Option.none : Option Jvm.ClassFile.FieldType), Jvm.Cond.code ({ cls := "com/example/odds2/odds2/engine/Elimination", name := "endRow", desc := "()V" } : Jvm.MethodName) prog_14_method_3_code (13 : Nat) (Option.none : Option Jvm.ClassFile.FieldType), Jvm.Cond.code ({ cls := "java/util/Arrays", name := "sort", desc := "([J)V" } : Jvm.MethodName) jdk_65_method_4_code (1 : Nat) (Option.none : Option Jvm.ClassFile.FieldType), Jvm.Cond.code ({ cls := "java/util/DualPivotQuicksort", name := "sort", desc := "([JIII)V" } : Jvm.MethodName) jdk_2529_method_12_code (7 : Nat) (Option.none : Option Jvm.ClassFile.FieldType), Jvm.Cond.code ({ cls := "java/util/DualPivotQuicksort", name := "sort", desc := "(Ljava/util/DualPivotQuicksort$Sorter;[JIII)V" } : Jvm.MethodName) jdk_2529_method_13_code (25 : Nat) (Option.none : Option Jvm.ClassFile.FieldType), Jvm.Cond.code ({ cls := "java/util/DualPivotQuicksort", name := "insertionSort", desc := "([JII)V" } : Jvm.MethodName) jdk_2529_method_15_code (7 : Nat) (Option.none : Option Jvm.ClassFile.FieldType), Jvm.Cond.code ({ cls := "com/example/odds2/odds2/engine/Elimination", name := "add", desc := "(ID)V" } : Jvm.MethodName) prog_14_method_2_code (4 : Nat) (Option.none : Option Jvm.ClassFile.FieldType), Jvm.Cond.code ({ cls := "com/example/odds2/odds2/engine/Elimination", name := "addReader", desc := "(II)V" } : Jvm.MethodName) prog_14_method_9_code (4 : Nat) (Option.none : Option Jvm.ClassFile.FieldType), Jvm.Cond.code ({ cls := "com/example/odds2/odds2/engine/Elimination", name := "eliminate", desc := "(J)Z" } : Jvm.MethodName) prog_14_method_4_code (8 : Nat) (Option.some Jvm.ClassFile.FieldType.boolean), Jvm.Cond.code ({ cls := "com/example/odds2/odds2/engine/Elimination", name := "substitute", desc := "(II)Z" } : Jvm.MethodName) prog_14_method_7_code (19 : Nat) (Option.some Jvm.ClassFile.FieldType.boolean), Jvm.Cond.code ({ cls := "java/util/Arrays", name := "binarySearch", desc := "([IIII)I" } : Jvm.MethodName) jdk_65_method_58_code (4 : Nat) (Option.some Jvm.ClassFile.FieldType.int), Jvm.Cond.code ({ cls := "java/util/Arrays", name := "rangeCheck", desc := "(III)V" } : Jvm.MethodName) jdk_65_method_30_code (3 : Nat) (Option.none : Option Jvm.ClassFile.FieldType), Jvm.Cond.code ({ cls := "java/util/Arrays", name := "binarySearch0", desc := "([IIII)I" } : Jvm.MethodName) jdk_65_method_59_code (8 : Nat) (Option.some Jvm.ClassFile.FieldType.int), Jvm.Cond.code ({ cls := "com/example/odds2/odds2/engine/Elimination", name := "record", desc := "(IIDD)V" } : Jvm.MethodName) prog_14_method_8_code (7 : Nat) (Option.none : Option Jvm.ClassFile.FieldType), Jvm.Cond.code ({ cls := "com/example/odds2/odds2/engine/Elimination", name := "work", desc := "()J" } : Jvm.MethodName) prog_14_method_6_code (1 : Nat) (Option.some Jvm.ClassFile.FieldType.long), Jvm.Cond.code ({ cls := "com/example/odds2/odds2/engine/Elimination", name := "solve", desc := "([D)[D" } : Jvm.MethodName) prog_14_method_5_code (7 : Nat) (Option.some (Jvm.ClassFile.FieldType.array Jvm.ClassFile.FieldType.double))]
set_option maxRecDepth 65536 in
theorem codes_eq : words1.filter isCode = codes1 := rfl
theorem w_codes : ∀ c ∈ words1.filter isCode, c.before args0 about1 = true := by
  rw [codes_eq]
  intro c hc
  simp only [codes1, List.mem_cons, List.not_mem_nil, or_false] at hc
  rcases hc with rfl | rfl | rfl | rfl | rfl | rfl | rfl | rfl | rfl | rfl | rfl | rfl | rfl | rfl | rfl | rfl | rfl | rfl
  · exact w_c0
  · exact w_c1
  · exact w_c2
  · exact w_c3
  · exact w_c4
  · exact w_c5
  · exact w_c6
  · exact w_c7
  · exact w_c8
  · exact w_c9
  · exact w_c10
  · exact w_c11
  · exact w_c12
  · exact w_c13
  · exact w_c14
  · exact w_c15
  · exact w_c16
  · exact w_c17
set_option maxRecDepth 65536 in
theorem w_t1 : (words1.take 24).all (fun c => isCode c || c.before args0 about1) = true := by decide +kernel
set_option maxRecDepth 65536 in
theorem w_t2 : ((words1.drop 24).take 24).all (fun c => isCode c || c.before args0 about1) = true := by decide +kernel
set_option maxRecDepth 65536 in
theorem w_t3 : (((words1.drop 24).drop 24).take 24).all (fun c => isCode c || c.before args0 about1) = true := by decide +kernel
set_option maxRecDepth 65536 in
theorem w_t4 : ((((words1.drop 24).drop 24).drop 24).take 24).all (fun c => isCode c || c.before args0 about1) = true := by decide +kernel
set_option maxRecDepth 65536 in
theorem w_t5 : (((((words1.drop 24).drop 24).drop 24).drop 24).take 24).all (fun c => isCode c || c.before args0 about1) = true := by decide +kernel
set_option maxRecDepth 65536 in
theorem w_t6 : (((((words1.drop 24).drop 24).drop 24).drop 24).drop 24).all (fun c => isCode c || c.before args0 about1) = true := by decide +kernel
theorem w_tables : (allAtoms (Jvm.Cond.code x code maxLocals ret :: tables_1)).before args0 about1 = true := by
  rw [allAtoms_all]
  show words1.all (fun c => c.before args0 about1) = true
  refine all_split ?_ w_codes
  rw [← List.take_append_drop 24 words1, List.all_append, w_t1, ← List.take_append_drop 24 (words1.drop 24), List.all_append, w_t2, ← List.take_append_drop 24 ((words1.drop 24).drop 24), List.all_append, w_t3, ← List.take_append_drop 24 (((words1.drop 24).drop 24).drop 24), List.all_append, w_t4, ← List.take_append_drop 24 ((((words1.drop 24).drop 24).drop 24).drop 24), List.all_append, w_t5, w_t6]
  rfl
set_option maxRecDepth 65536 in
theorem w_case : (Jvm.Cond.and given_1 narrow_1).before args0 about1 = true := by decide +kernel
theorem w_applies : (headSpec (Jvm.Cond.code x code maxLocals ret :: tables_1) room_1).applies x e0.platform about1 = true :=
  (Spec.applies_iff w_frames).mpr ⟨w_running, w_runnable, w_alone, w_named, w_hears, w_ripe, w_room, w_tables⟩
theorem atStart : AtStart classFile x code maxLocals ret World_1 tables_1 room_1 Calls_1 rest_1 Pre_1 launch0 p0 e0 about1 theMethod args0 below0 :=
  ⟨lists_1, trivial, launch0.admits_env _ _ _, launch0.least_env, fairChoices_fair.cas, fairChoices_fair.clock, w_frames, w_args, w_heap, w_applies, trivial, trivial, w_case⟩
end start1
theorem witness_1 : WitnessClaimed_1 := ⟨start1.p0, start1.e0, start1.about1, start1.theMethod, start1.args0, start1.below0, start1.atStart⟩
end Jvm.Pilot.@@N@@
