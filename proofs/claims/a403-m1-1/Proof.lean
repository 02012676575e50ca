import JvmDerived
import JvmDerived.Pilot.@@N@@Statement
import JvmDerived.Pilot.@@N@@Code
set_option linter.unusedVariables false
set_option linter.unusedSimpArgs false
@@BLOCK:NumsL.lean.txt@@
namespace Jvm.Pilot.@@N@@
section OwnFl
open Jvm Jvm.FP Jvm.FP.Core Jvm.Free.Fl Jvm.Op
/-- a double's worth, in units of the least double -/
def own_zv (x : UInt64) : Int := zval b64 (val64 x)
/-- a worth that a finite double has -/
def own_rep (z : Int) : Prop := ∃ V, Core.fits b64 V ∧ (∃ s c q, V = .fin s c q) ∧ zval b64 V = z
theorem own_fin_ne {x : UInt64} (h : DFin x) : val64 x ≠ .nan := by
  obtain ⟨s, c, q, h⟩ := h; rw [h]; exact Datum.noConfusion
theorem own_nn {x : UInt64} (h : DFin x) : NoNaN64 x := val64_no.mpr (own_fin_ne h)
theorem own_rep_of {x : UInt64} (h : DFin x) : own_rep (own_zv x) := ⟨_, val64_fits x, h, rfl⟩
theorem own_rep_mk (s : Bool) {c k : Nat} (hc : c < 2 ^ 53) (hk : k ≤ 2045) : own_rep (signed s (c * 2 ^ k)) := by
  obtain ⟨c', q', h1, h2⟩ := round_exact (f := b64) good_b64 s (c := c) (q := (k : Int) - 1074) hc (by rw [qmin_b64]; omega)
    (by rw [show b64.qmax = 971 from by decide]; omega)
  refine ⟨_, round_fits good_b64 (.fin s c ((k : Int) - 1074)), ⟨_, _, _, h1⟩, ?_⟩
  rw [h1]
  show signed s (inUnits c' q' b64.qmin) = _
  rw [h2]
  unfold inUnits
  rw [qmin_b64, show ((k : Int) - 1074 - -1074).toNat = k by omega]
theorem own_rep_nat {c k : Nat} (hc : c < 2 ^ 53) (hk : k ≤ 2045) : own_rep ((c : Int) * ((2 ^ k : Nat) : Int)) := by
  have := own_rep_mk false hc hk
  simp only [signed, Bool.false_eq_true, if_false] at this
  rw [Int.natCast_mul] at this; exact this
theorem own_rep_neg {z : Int} (h : own_rep z) : own_rep (-z) := by
  obtain ⟨V, h1, ⟨s, c, q, rfl⟩, h3⟩ := h
  exact ⟨negate (.fin s c q), negate_fits h1, ⟨_, _, _, rfl⟩, by rw [zval_negate, h3]⟩
theorem own_rep_int {i : Int} {k : Nat} (hi : i.natAbs < 2 ^ 53) (hk : k ≤ 2045) : own_rep (i * ((2 ^ k : Nat) : Int)) := by
  have := own_rep_nat hi hk
  rcases Int.natAbs_eq i with h | h
  · rw [h]; exact this
  · rw [h, Int.neg_mul]; exact own_rep_neg this
theorem own_top {z : Int} (h : own_rep z) : z < ((b64.tails * 2 ^ (b64.exps - 2) : Nat) : Int) ∧ -((b64.tails * 2 ^ (b64.exps - 2) : Nat) : Int) < z := by
  obtain ⟨V, h1, ⟨s, c, q, rfl⟩, rfl⟩ := h
  have h2 := zmag_lt_top good_b64 h1
  show signed s (inUnits c q b64.qmin) < _ ∧ _ < signed s (inUnits c q b64.qmin)
  generalize b64.tails * 2 ^ (b64.exps - 2) = K at *
  generalize inUnits c q b64.qmin = k at *
  cases s <;> simp only [signed, if_true, Bool.false_eq_true, if_false] <;> constructor <;> omega
/-- no NaN and between two finite worths: finite -/
theorem own_fin_of {x : UInt64} (hn : val64 x ≠ .nan) {lo hi : Int} (hl : own_rep lo) (hh : own_rep hi) (h1 : lo ≤ own_zv x) (h2 : own_zv x ≤ hi) : DFin x := by
  have a := (own_top hl).2
  have b := (own_top hh).1
  unfold own_zv at h1 h2
  cases hv : val64 x with
  | nan => exact absurd hv hn
  | fin s c q => exact ⟨s, c, q, hv⟩
  | inf s =>
    exfalso
    rw [hv] at h1 h2
    simp only [zval, sgn, zmag] at h1 h2
    generalize b64.tails * 2 ^ (b64.exps - 2) = K at *
    cases s <;> simp only [signed, if_true, Bool.false_eq_true, if_false] at h1 h2 <;> omega
theorem own_cmp {x y : UInt64} (hx : DFin x) (hy : DFin y) : FP.dcmp x y = some (compare (own_zv x) (own_zv y)) :=
  order_zval good_b64 (val64_fits x) (val64_fits y) (own_fin_ne hx) (own_fin_ne hy)
theorem own_cmp_lt {x y : UInt64} (hx : DFin x) (hy : DFin y) (h : own_zv x < own_zv y) : FP.dcmp x y = some .lt := by
  rw [own_cmp hx hy, compare_ite, if_pos h]
theorem own_cmp_eq {x y : UInt64} (hx : DFin x) (hy : DFin y) (h : own_zv x = own_zv y) : FP.dcmp x y = some .eq := by
  rw [own_cmp hx hy, compare_ite, if_neg (by omega), if_pos h]
theorem own_cmp_gt {x y : UInt64} (hx : DFin x) (hy : DFin y) (h : own_zv y < own_zv x) : FP.dcmp x y = some .gt := by
  rw [own_cmp hx hy, compare_ite, if_neg (by omega), if_neg (by omega)]
theorem own_v_lt {x y : UInt64} (h : FP.dcmp x y = some .lt) (o : ClassFile.CmpOp) : cmpValue (FP.dcmp x y) o = -1 := by rw [h]; rfl
theorem own_v_eq {x y : UInt64} (h : FP.dcmp x y = some .eq) (o : ClassFile.CmpOp) : cmpValue (FP.dcmp x y) o = 0 := by rw [h]; rfl
theorem own_v_gt {x y : UInt64} (h : FP.dcmp x y = some .gt) (o : ClassFile.CmpOp) : cmpValue (FP.dcmp x y) o = 1 := by rw [h]; rfl
/-! sums -/
theorem own_round_ne (d : Datum) (h : d ≠ .nan) : round b64 d ≠ .nan := by
  cases d with
  | nan => exact absurd rfl h
  | inf s => exact Datum.noConfusion
  | fin s c q => exact roundRatio_ne_nan _ _ _ _ _
theorem own_add {x y : UInt64} (hx : DFin x) (hy : DFin y) {lo hi : Int} (hl : own_rep lo) (hh : own_rep hi) (h1 : lo ≤ own_zv x + own_zv y) (h2 : own_zv x + own_zv y ≤ hi) :
    DFin (FP.dadd x y) ∧ lo ≤ own_zv (FP.dadd x y) ∧ own_zv (FP.dadd x y) ≤ hi := by
  have e : val64 (FP.dadd x y) = round b64 (exactSum (val64 x) (val64 y)) := val64_dadd x y
  have hn : val64 (FP.dadd x y) ≠ .nan := by
    rw [e]; apply own_round_ne
    obtain ⟨s, c, q, hx⟩ := hx; obtain ⟨t, d, r, hy⟩ := hy
    rw [hx, hy]; exact Datum.noConfusion
  obtain ⟨Vl, a1, ⟨_, _, _, a2⟩, rfl⟩ := id hl
  obtain ⟨Vh, b1, ⟨_, _, _, b2⟩, rfl⟩ := id hh
  have g1 : zval b64 Vl ≤ own_zv (FP.dadd x y) := by
    unfold own_zv; rw [e]; exact sum_ge good_b64 hx hy (val64_fits x) (val64_fits y) a1 (by rw [a2]; exact Datum.noConfusion) h1
  have g2 : own_zv (FP.dadd x y) ≤ zval b64 Vh := by
    unfold own_zv; rw [e]; exact sum_le good_b64 hx hy (val64_fits x) (val64_fits y) b1 (by rw [b2]; exact Datum.noConfusion) h2
  exact ⟨own_fin_of hn hl hh g1 g2, g1, g2⟩
theorem own_add_eq {x y : UInt64} (hx : DFin x) (hy : DFin y) (hr : own_rep (own_zv x + own_zv y)) : DFin (FP.dadd x y) ∧ own_zv (FP.dadd x y) = own_zv x + own_zv y := by
  obtain ⟨a, b, c⟩ := own_add hx hy hr hr (Int.le_refl _) (Int.le_refl _)
  exact ⟨a, Int.le_antisymm c b⟩
theorem own_neg_fin {x : UInt64} (h : DFin x) : DFin (FP.dneg x) ∧ own_zv (FP.dneg x) = -own_zv x := by
  have e : val64 (FP.dneg x) = negate (val64 x) := FP.val64_dneg x
  unfold own_zv DFin
  rw [e, zval_negate]
  obtain ⟨s, c, q, h⟩ := h
  exact ⟨⟨_, _, _, by rw [h]; rfl⟩, rfl⟩
theorem own_sub {x y : UInt64} (hx : DFin x) (hy : DFin y) {lo hi : Int} (hl : own_rep lo) (hh : own_rep hi) (h1 : lo ≤ own_zv x - own_zv y) (h2 : own_zv x - own_zv y ≤ hi) :
    DFin (FP.dsub x y) ∧ lo ≤ own_zv (FP.dsub x y) ∧ own_zv (FP.dsub x y) ≤ hi := by
  obtain ⟨n1, n2⟩ := own_neg_fin hy
  have e : FP.dsub x y = FP.dadd x (FP.dneg y) := by
    rw [show FP.dneg y = Core.dneg y from dneg_core (noNaN64_no.mp (own_nn hy))]; exact dsub_eq x y
  rw [e]
  exact own_add hx n1 hl hh (by rw [n2]; omega) (by rw [n2]; omega)
/-! products -/
theorem own_pow_U : (b64.qmin - 2 * b64.qmin).toNat = 1074 := by decide
theorem own_mul {x y : UInt64} (hx : DFin x) (hy : DFin y) {lo hi : Int} (hl : own_rep lo) (hh : own_rep hi) (h1 : lo * ((2 ^ 1074 : Nat) : Int) ≤ own_zv x * own_zv y) (h2 : own_zv x * own_zv y ≤ hi * ((2 ^ 1074 : Nat) : Int)) :
    DFin (FP.dmul x y) ∧ lo ≤ own_zv (FP.dmul x y) ∧ own_zv (FP.dmul x y) ≤ hi := by
  have e : val64 (FP.dmul x y) = round b64 (exactProduct (val64 x) (val64 y)) := val64_dmul x y
  have fx := val64_fits x
  have fy := val64_fits y
  unfold own_zv at h1 h2
  obtain ⟨s, c, q, ex⟩ := hx
  obtain ⟨t, d, r, ey⟩ := hy
  rw [ex] at fx e h1 h2
  rw [ey] at fy e h1 h2
  obtain ⟨p1, p2, p3⟩ := product_units fx fy
  rw [p1] at e
  have hn : val64 (FP.dmul x y) ≠ .nan := by rw [e]; exact roundRatio_ne_nan _ _ _ _ _
  have hv : signed (s != t) (inUnits (c * d) (q + r) (2 * b64.qmin)) = zval b64 (.fin s c q) * zval b64 (.fin t d r) := by
    rw [p3, signed_xor]; rfl
  obtain ⟨Vl, a1, ⟨_, _, _, a2⟩, rfl⟩ := id hl
  obtain ⟨Vh, b1, ⟨_, _, _, b2⟩, rfl⟩ := id hh
  have hq := qmin_neg good_b64
  have g1 : zval b64 Vl ≤ own_zv (FP.dmul x y) := by
    unfold own_zv; rw [e]
    exact zval_round_ge good_b64 a1 (by rw [a2]; exact Datum.noConfusion) (by omega) p2 (by rw [hv, own_pow_U]; exact h1)
  have g2 : own_zv (FP.dmul x y) ≤ zval b64 Vh := by
    unfold own_zv; rw [e]
    exact zval_round_le good_b64 b1 (by rw [b2]; exact Datum.noConfusion) (by omega) p2 (by rw [hv, own_pow_U]; exact h2)
  exact ⟨own_fin_of hn hl hh g1 g2, g1, g2⟩
theorem own_mul_eq {x y : UInt64} (hx : DFin x) (hy : DFin y) {z : Int} (hr : own_rep z) (h : own_zv x * own_zv y = z * ((2 ^ 1074 : Nat) : Int)) : DFin (FP.dmul x y) ∧ own_zv (FP.dmul x y) = z := by
  obtain ⟨a, b, c⟩ := own_mul hx hy hr hr (Int.le_of_eq h.symm) (Int.le_of_eq h)
  exact ⟨a, Int.le_antisymm c b⟩
/-! quotients of a number from nought on by one above nought -/
theorem own_div {x y : UInt64} (hx : DFin x) (hy : DFin y) (px : 0 ≤ own_zv x) (sx : sgn (val64 x) = false) (py : 0 < own_zv y) {lo hi : Int} (hl : own_rep lo) (hh : own_rep hi) (l0 : 0 ≤ lo) (h1 : lo * own_zv y ≤ own_zv x * ((2 ^ 1074 : Nat) : Int)) (h2 : own_zv x * ((2 ^ 1074 : Nat) : Int) ≤ hi * own_zv y) :
    DFin (FP.ddiv x y) ∧ lo ≤ own_zv (FP.ddiv x y) ∧ own_zv (FP.ddiv x y) ≤ hi ∧ sgn (val64 (FP.ddiv x y)) = false := by
  have e : val64 (FP.ddiv x y) = quotient b64 (val64 x) (val64 y) := val64_ddiv x y
  have fx := val64_fits x
  have fy := val64_fits y
  unfold own_zv at h1 h2 px py
  obtain ⟨s, c, q, ex⟩ := hx
  obtain ⟨t, d, r, ey⟩ := hy
  rw [ex] at fx e h1 h2 px sx
  rw [ey] at fy e h1 h2 py
  obtain rfl : s = false := sx
  have hpos : t = false ∧ 0 < d := by
    simp only [zval, sgn, zmag] at py
    cases t
    · refine ⟨rfl, ?_⟩
      rcases Nat.eq_zero_or_pos d with h | h
      · subst h; simp [signed, inUnits] at py
      · exact h
    · simp only [signed, if_true] at py; omega
  obtain ⟨rfl, hd⟩ := hpos
  have e2 : val64 (FP.ddiv x y) = roundRatio b64 false c d (q - r) := by
    rw [e]; simp only [quotient]; rw [if_neg (by omega)]; rfl
  have hn : val64 (FP.ddiv x y) ≠ .nan := by rw [e2]; exact roundRatio_ne_nan _ _ _ _ _
  have hs : sgn (val64 (FP.ddiv x y)) = false := by rw [e2]; exact sgn_roundRatio _ _ _ _ _
  have hzz : own_zv (FP.ddiv x y) = (zmag b64 (roundRatio b64 false c d (q - r)) : Int) := by
    unfold own_zv zval; rw [hs, e2]; rfl
  have q1 := fx.2.1; have q2 := fx.2.2.1; have r1 := fy.2.1; have r2 := fy.2.2.1
  rw [qmin_b64] at q1 r1
  rw [show b64.qmax = 971 from by decide] at q2 r2
  have k1 : zval b64 (.fin false c q) = ((c * 2 ^ (q + 1074).toNat : Nat) : Int) := by
    show ((inUnits c q b64.qmin : Nat) : Int) = _
    unfold inUnits; rw [qmin_b64, show (q - -1074).toNat = (q + 1074).toNat by omega]
  have k2 : zval b64 (.fin false d r) = ((d * 2 ^ (r + 1074).toNat : Nat) : Int) := by
    show ((inUnits d r b64.qmin : Nat) : Int) = _
    unfold inUnits; rw [qmin_b64, show (r - -1074).toNat = (r + 1074).toNat by omega]
  rw [k1, k2] at h1 h2
  have key : ∀ M : Nat, (inUnits c (q - r) (-4096) * 2 ^ (r + 1074).toNat = c * 2 ^ (q + 1074).toNat * 2 ^ 1074 * 2 ^ 1948 * 2 ^ 1074) ∧ (M * 2 ^ (b64.qmin - -4096).toNat * d * 2 ^ (r + 1074).toNat = M * (d * 2 ^ (r + 1074).toNat) * 2 ^ 1074 * 2 ^ 1948) := by
    intro M
    unfold inUnits
    refine ⟨?_, ?_⟩
    · rw [Nat.mul_assoc, ← Nat.pow_add, Nat.mul_assoc, Nat.mul_assoc, Nat.mul_assoc, ← Nat.pow_add, ← Nat.pow_add, ← Nat.pow_add]
      congr 2; omega
    · rw [show (b64.qmin - -4096).toNat = 1074 + 1948 from by decide, Nat.pow_add]
      generalize 2 ^ 1074 = a; generalize 2 ^ 1948 = b; generalize 2 ^ (r + 1074).toNat = w
      ac_rfl
  obtain ⟨Vl, a1, ⟨_, _, _, a2⟩, al⟩ := id hl
  obtain ⟨Vh, b1, ⟨_, _, _, b2⟩, bl⟩ := id hh
  have m1 : (zmag b64 Vl : Int) = lo ∨ (zmag b64 Vl : Int) = -lo := by
    rw [← al]; unfold zval; cases sgn Vl <;> simp [signed]
  have hi0 : 0 ≤ hi := by
    refine Int.not_lt.mp fun hneg => ?_
    have hw : (0 : Int) < ((d * 2 ^ (r + 1074).toNat : Nat) : Int) := by have := Nat.mul_pos hd (Nat.two_pow_pos (r + 1074).toNat); omega
    have := Int.mul_neg_of_neg_of_pos hneg hw
    have h0 : (0 : Int) ≤ ((c * 2 ^ (q + 1074).toNat : Nat) : Int) * ((2 ^ 1074 : Nat) : Int) := Int.mul_nonneg (Int.natCast_nonneg _) (Int.natCast_nonneg _)
    omega
  have m2 : (zmag b64 Vh : Int) = hi := by
    have : (zmag b64 Vh : Int) = hi ∨ (zmag b64 Vh : Int) = -hi := by
      rw [← bl]; unfold zval; cases sgn Vh <;> simp [signed]
    omega
  have m1' : (zmag b64 Vl : Int) = lo := by omega
  have g1 : zmag b64 Vl ≤ zmag b64 (roundRatio b64 false c d (q - r)) := by
    refine zmag_roundRatio_ge good_b64 hd a1 (e0 := -4096) (by rw [qmin_b64]; omega) (by omega) ?_
    refine Nat.le_of_mul_le_mul_right ?_ (Nat.two_pow_pos (r + 1074).toNat)
    rw [(key 0).1, (key (zmag b64 Vl)).2]
    rw [← m1'] at h1
    have h1' : zmag b64 Vl * (d * 2 ^ (r + 1074).toNat) ≤ c * 2 ^ (q + 1074).toNat * 2 ^ 1074 := by
      rw [← Int.natCast_mul, ← Int.natCast_mul] at h1; exact Int.ofNat_le.mp h1
    calc zmag b64 Vl * (d * 2 ^ (r + 1074).toNat) * 2 ^ 1074 * 2 ^ 1948 ≤ c * 2 ^ (q + 1074).toNat * 2 ^ 1074 * 2 ^ 1074 * 2 ^ 1948 :=
          Nat.mul_le_mul_right _ (Nat.mul_le_mul_right _ h1')
      _ = _ := by generalize 2 ^ 1074 = a; generalize 2 ^ 1948 = b; generalize c * 2 ^ (q + 1074).toNat = w; ac_rfl
  have g2 : zmag b64 (roundRatio b64 false c d (q - r)) ≤ zmag b64 Vh := by
    refine zmag_roundRatio_le good_b64 hd b1 (by rw [b2]; exact Datum.noConfusion) (e0 := -4096) (by rw [qmin_b64]; omega) (by omega) ?_
    refine Nat.le_of_mul_le_mul_right ?_ (Nat.two_pow_pos (r + 1074).toNat)
    rw [(key 0).1, (key (zmag b64 Vh)).2]
    rw [← m2] at h2
    have h2' : c * 2 ^ (q + 1074).toNat * 2 ^ 1074 ≤ zmag b64 Vh * (d * 2 ^ (r + 1074).toNat) := by
      rw [← Int.natCast_mul, ← Int.natCast_mul] at h2; exact Int.ofNat_le.mp h2
    calc c * 2 ^ (q + 1074).toNat * 2 ^ 1074 * 2 ^ 1948 * 2 ^ 1074 = c * 2 ^ (q + 1074).toNat * 2 ^ 1074 * 2 ^ 1074 * 2 ^ 1948 := by
          generalize 2 ^ 1074 = a; generalize 2 ^ 1948 = b; generalize c * 2 ^ (q + 1074).toNat = w; ac_rfl
      _ ≤ _ := Nat.mul_le_mul_right _ (Nat.mul_le_mul_right _ h2')
  have z1 : lo ≤ own_zv (FP.ddiv x y) := by rw [hzz, ← m1']; exact Int.ofNat_le.mpr g1
  have z2 : own_zv (FP.ddiv x y) ≤ hi := by rw [hzz, ← m2]; exact Int.ofNat_le.mpr g2
  exact ⟨own_fin_of hn hl hh z1 z2, z1, z2, hs⟩
/-! whole numbers -/
theorem own_whole {i : Int} {x : UInt64} (h : DInt i x) : DFin x ∧ own_zv x = i * ((2 ^ 1074 : Nat) : Int) := by
  have fx := val64_fits x
  unfold DInt at h
  unfold own_zv DFin
  cases hv : val64 x with
  | nan => rw [hv] at h; exact absurd h (by simp [Whole])
  | inf s => rw [hv] at h; exact absurd h (by simp [Whole])
  | fin s c q =>
    refine ⟨⟨s, c, q, rfl⟩, ?_⟩
    rw [hv] at h fx
    have q1 := fx.2.1
    rw [qmin_b64] at q1
    simp only [Whole] at h
    show signed s (inUnits c q b64.qmin) = _
    unfold inUnits
    rw [qmin_b64]
    rcases Int.le_total 0 q with hq | hq
    · rw [show (-q).toNat = 0 by omega] at h
      rw [show (q - -1074).toNat = q.toNat + 1074 by omega, Nat.pow_add, ← Nat.mul_assoc, signed_mul, h]
      simp
    · rw [show q.toNat = 0 by omega] at h
      rw [show (2 : Nat) ^ 1074 = 2 ^ (-q).toNat * 2 ^ (q - -1074).toNat by rw [← Nat.pow_add]; congr 1; omega, Int.natCast_mul, ← Int.mul_assoc, ← h, signed_mul, Nat.pow_zero, Nat.mul_one]
theorem own_i2d (n : Int32) : DFin (FP.i2d n) ∧ own_zv (FP.i2d n) = n.toInt * ((2 ^ 1074 : Nat) : Int) := own_whole (i2d_int n)
theorem own_l2d {n : Int64} (h : n.toInt.natAbs ≤ 2 ^ 53) : DFin (FP.l2d n) ∧ own_zv (FP.l2d n) = n.toInt * ((2 ^ 1074 : Nat) : Int) := own_whole (l2d_int h)
theorem own_sgn_i2d {n : Int32} (h : 0 ≤ n.toInt) : sgn (val64 (FP.i2d n)) = false := by
  rw [show val64 (FP.i2d n) = round b64 (ofInt n.toInt) from val64_i2d n]
  show sgn (roundRatio b64 (decide (n.toInt < 0)) _ 1 0) = false
  rw [sgn_roundRatio]; exact decide_eq_false (by omega)
theorem own_sgn_l2d {n : Int64} (h : 0 ≤ n.toInt) : sgn (val64 (FP.l2d n)) = false := by
  rw [show val64 (FP.l2d n) = round b64 (ofInt n.toInt) from val64_l2d n]
  show sgn (roundRatio b64 (decide (n.toInt < 0)) _ 1 0) = false
  rw [sgn_roundRatio]; exact decide_eq_false (by omega)
theorem own_sgn_of {x : UInt64} (h : DFin x) (hp : 0 < own_zv x) : sgn (val64 x) = false := by
  obtain ⟨s, c, q, e⟩ := h
  unfold own_zv at hp
  rw [e] at hp ⊢
  cases s
  · rfl
  · simp only [zval, sgn, zmag, signed, if_true] at hp; omega
theorem own_one : DFin FP.dconst1 ∧ own_zv FP.dconst1 = 1 * ((2 ^ 1074 : Nat) : Int) :=
  own_whole (show Whole 1 (val64 FP.dconst1) by
    rw [show val64 FP.dconst1 = _ from val64_dconst1]
    show signed false (2 ^ 52 * 2 ^ (-52 : Int).toNat) = 1 * ((2 ^ (-(-52 : Int)).toNat : Nat) : Int)
    decide +kernel)
theorem own_zero : DFin FP.dconst0 ∧ own_zv FP.dconst0 = 0 := by
  have := own_whole (show Whole 0 (val64 FP.dconst0) by
    rw [show val64 FP.dconst0 = _ from val64_dconst0]
    show signed false (0 * 2 ^ b64.qmin.toNat) = 0 * _
    rw [Nat.zero_mul, Int.zero_mul]; rfl)
  rw [Int.zero_mul] at this; exact this
/-- a written constant: its datum by computation -/
theorem own_const {x : UInt64} {s : Bool} {c : Nat} {k : Nat} {q : Int} (h : val64 x = .fin s c q) (hq : q = (k : Int) - 1074) : DFin x ∧ own_zv x = signed s (c * 2 ^ k) := by
  refine ⟨⟨_, _, _, h⟩, ?_⟩
  unfold own_zv; rw [h]
  show signed s (inUnits c q b64.qmin) = _
  unfold inUnits; rw [qmin_b64, show (q - -1074).toNat = k by omega]
end OwnFl
end Jvm.Pilot.@@N@@
namespace Jvm.Pilot.@@N@@
section OwnA
open Jvm Jvm.FP Jvm.FP.Core Jvm.Free.Fl Jvm.Op
def own_P (p1 p2 : Int32) : UInt64 := FP.dmul (FP.i2d (p1 &&& (2147483647 : Int32))) (FP.l2d ((1 : Int64) <<< ((p2 &&& (31 : Int32)) &&& 0x3f).toInt64))
def own_Q (p1 p2 : Int32) : UInt64 := FP.ddiv (own_P p1 p2) (4652218415073722368 : UInt64)
def own_M (p1 p2 : Int32) : UInt64 := FP.dadd FP.dconst1 (own_Q p1 p2)
def own_R (p1 p2 : Int32) : UInt64 := if p2 &&& (32 : Int32) = (0 : Int32) then own_M p1 p2 else FP.dconst1
theorem own_sgn_mul {x y : UInt64} (hx : DFin x) (hy : DFin y) (sx : sgn (val64 x) = false) (sy : sgn (val64 y) = false) : sgn (val64 (FP.dmul x y)) = false := by
  rw [show val64 (FP.dmul x y) = round b64 (exactProduct (val64 x) (val64 y)) from val64_dmul x y]
  obtain ⟨s, c, q, ex⟩ := hx
  obtain ⟨t, d, r, ey⟩ := hy
  rw [ex] at sx ⊢
  rw [ey] at sy ⊢
  obtain rfl : s = false := sx
  obtain rfl : t = false := sy
  exact sgn_roundRatio _ _ _ _ _
theorem own_mask (p : Int32) : 0 ≤ (p &&& (2147483647 : Int32)).toInt ∧ (p &&& (2147483647 : Int32)).toInt < 2 ^ 31 := by
  have h : (p &&& (2147483647 : Int32)).toInt = p.toInt % 2 ^ 31 := Jvm.Kit.i32_mask p 2147483647 (k := 31) (by decide) (by decide)
  omega
theorem own_shift (p : Int32) : 1 ≤ ((1 : Int64) <<< ((p &&& (31 : Int32)) &&& 0x3f).toInt64).toInt ∧ ((1 : Int64) <<< ((p &&& (31 : Int32)) &&& 0x3f).toInt64).toInt ≤ 2 ^ 31 := by
  have h : (p &&& (31 : Int32)).toInt = p.toInt % 2 ^ 5 := Jvm.Kit.i32_mask p 31 (k := 5) (by decide) (by decide)
  obtain ⟨n, hn, e⟩ : ∃ n : Nat, n < 32 ∧ p &&& (31 : Int32) = Int32.ofNat n := by
    refine ⟨(p &&& (31 : Int32)).toInt.toNat, by omega, ?_⟩
    apply Int32.toInt_inj.mp
    rw [Int32.toInt_ofNat_of_lt (by omega)]
    omega
  rw [e]
  have all : ∀ k : Fin 32, 1 ≤ ((1 : Int64) <<< ((Int32.ofNat k.val) &&& 0x3f).toInt64).toInt ∧ ((1 : Int64) <<< ((Int32.ofNat k.val) &&& 0x3f).toInt64).toInt ≤ 2 ^ 31 := by decide +kernel
  exact all ⟨n, hn⟩
theorem own_1024 : DFin (4652218415073722368 : UInt64) ∧ own_zv (4652218415073722368 : UInt64) = ((1024 : Nat) : Int) * ((2 ^ 1074 : Nat) : Int) := by
  have := own_const (x := 4652218415073722368) (s := false) (c := 2 ^ 52) (k := 1032) (q := -42) (by decide +kernel) (by decide)
  refine ⟨this.1, this.2.trans ?_⟩
  simp only [signed, Bool.false_eq_true, if_false]
  rw [← Int.natCast_mul]
  exact congrArg (fun z : Nat => (z : Int)) (by rw [show (1024 : Nat) = 2 ^ 10 from rfl, ← Nat.pow_add, ← Nat.pow_add])
theorem own_facts (p1 p2 : Int32) : NoNaN64 (own_P p1 p2) ∧ NoNaN64 (own_Q p1 p2) ∧ NoNaN64 (own_M p1 p2) ∧ DFin (own_R p1 p2) ∧ 1 * ((2 ^ 1074 : Nat) : Int) ≤ own_zv (own_R p1 p2) := by
  obtain ⟨a1, a2⟩ := own_mask p1
  obtain ⟨b1, b2⟩ := own_shift p2
  obtain ⟨A1, A2⟩ := own_i2d (p1 &&& (2147483647 : Int32))
  obtain ⟨B1, B2⟩ := own_l2d (n := (1 : Int64) <<< ((p2 &&& (31 : Int32)) &&& 0x3f).toInt64) (by omega)
  have sA := own_sgn_i2d a1
  have sB := own_sgn_l2d (n := (1 : Int64) <<< ((p2 &&& (31 : Int32)) &&& 0x3f).toInt64) (by omega)
  have hU : (0 : Int) < ((2 ^ 1074 : Nat) : Int) := Int.natCast_pos.mpr (Nat.two_pow_pos _)
  obtain ⟨P1, P2, P3⟩ : DFin (own_P p1 p2) ∧ ((0 : Nat) : Int) * ((2 ^ 1 : Nat) : Int) ≤ own_zv (own_P p1 p2) ∧ own_zv (own_P p1 p2) ≤ ((2 ^ 50 : Nat) : Int) * ((2 ^ 1086 : Nat) : Int) := by
    refine own_mul A1 B1 (own_rep_nat (by decide) (by decide)) (own_rep_nat (by decide) (by decide)) ?_ ?_
    · rw [A2, B2]
      generalize (p1 &&& (2147483647 : Int32)).toInt = u at *
      generalize ((1 : Int64) <<< ((p2 &&& (31 : Int32)) &&& 0x3f).toInt64).toInt = w at *
      have := Int.mul_nonneg (Int.mul_nonneg a1 (Int.le_of_lt hU)) (Int.mul_nonneg (show 0 ≤ w by omega) (Int.le_of_lt hU))
      omega
    · rw [A2, B2]
      generalize (p1 &&& (2147483647 : Int32)).toInt = u at *
      generalize ((1 : Int64) <<< ((p2 &&& (31 : Int32)) &&& 0x3f).toInt64).toInt = w at *
      have e : ((2 ^ 50 : Nat) : Int) * ((2 ^ 1086 : Nat) : Int) = ((2 ^ 62 : Nat) : Int) * ((2 ^ 1074 : Nat) : Int) := by
        rw [← Int.natCast_mul, ← Int.natCast_mul, ← Nat.pow_add, ← Nat.pow_add]
      rw [e]
      have h1 : u * w ≤ ((2 ^ 62 : Nat) : Int) := by
        calc u * w ≤ 2 ^ 31 * 2 ^ 31 := Int.mul_le_mul (by omega) b2 (by omega) (by decide)
          _ = _ := by decide
      generalize ((2 ^ 1074 : Nat) : Int) = U at *
      generalize ((2 ^ 62 : Nat) : Int) = K at *
      calc u * U * (w * U) = u * w * (U * U) := by ac_rfl
        _ ≤ K * (U * U) := Int.mul_le_mul_of_nonneg_right h1 (Int.mul_nonneg (Int.le_of_lt hU) (Int.le_of_lt hU))
        _ = K * U * U := by ac_rfl
  have sP : sgn (val64 (own_P p1 p2)) = false := own_sgn_mul A1 B1 sA sB
  obtain ⟨Q1, Q2, Q3, -⟩ : DFin (own_Q p1 p2) ∧ ((0 : Nat) : Int) * ((2 ^ 1 : Nat) : Int) ≤ own_zv (own_Q p1 p2) ∧ own_zv (own_Q p1 p2) ≤ ((2 ^ 50 : Nat) : Int) * ((2 ^ 1076 : Nat) : Int) ∧ _ := by
    refine own_div P1 own_1024.1 (by omega) sP (by rw [own_1024.2]; exact Int.mul_pos (by decide) hU) (own_rep_nat (by decide) (by decide)) (own_rep_nat (by decide) (by decide)) (by omega) ?_ ?_
    · have := Int.mul_nonneg (show 0 ≤ own_zv (own_P p1 p2) by omega) (Int.le_of_lt hU)
      omega
    · rw [own_1024.2]
      have e : ((2 ^ 50 : Nat) : Int) * ((2 ^ 1076 : Nat) : Int) * (((1024 : Nat) : Int) * ((2 ^ 1074 : Nat) : Int)) = ((2 ^ 50 : Nat) : Int) * ((2 ^ 1086 : Nat) : Int) * ((2 ^ 1074 : Nat) : Int) := by
        rw [show ((2 ^ 1086 : Nat) : Int) = ((2 ^ 1076 : Nat) : Int) * ((1024 : Nat) : Int) from by rw [← Int.natCast_mul, show (1024 : Nat) = 2 ^ 10 from rfl, ← Nat.pow_add]]
        generalize ((2 ^ 50 : Nat) : Int) = x1; generalize ((2 ^ 1076 : Nat) : Int) = x2; generalize ((2 ^ 1074 : Nat) : Int) = x3; generalize ((1024 : Nat) : Int) = x4
        ac_rfl
      rw [e]
      exact Int.mul_le_mul_of_nonneg_right P3 (Int.le_of_lt hU)
  have h50 : ((2 ^ 50 : Nat) : Int) * ((2 ^ 1076 : Nat) : Int) + 1 * ((2 ^ 1074 : Nat) : Int) ≤ ((2 ^ 51 : Nat) : Int) * ((2 ^ 1076 : Nat) : Int) := by
    have e1 : ((2 ^ 51 : Nat) : Int) = 2 * ((2 ^ 50 : Nat) : Int) := by decide
    have e2 : ((2 ^ 1074 : Nat) : Int) ≤ ((2 ^ 1076 : Nat) : Int) := Int.ofNat_le.mpr (Nat.pow_le_pow_right (by decide) (by decide))
    have e3 : ((2 ^ 1076 : Nat) : Int) ≤ ((2 ^ 50 : Nat) : Int) * ((2 ^ 1076 : Nat) : Int) := by
      have := Int.mul_le_mul_of_nonneg_right (show (1 : Int) ≤ ((2 ^ 50 : Nat) : Int) by decide) (Int.natCast_nonneg (2 ^ 1076))
      omega
    rw [e1, Int.mul_assoc]
    generalize ((2 ^ 50 : Nat) : Int) * ((2 ^ 1076 : Nat) : Int) = a at *
    omega
  obtain ⟨O1, O2⟩ := own_one
  have rone : own_rep (((1 : Nat) : Int) * ((2 ^ 1074 : Nat) : Int)) := own_rep_nat (by decide) (by decide)
  obtain ⟨M1, M2, M3⟩ : DFin (own_M p1 p2) ∧ ((1 : Nat) : Int) * ((2 ^ 1074 : Nat) : Int) ≤ own_zv (own_M p1 p2) ∧ own_zv (own_M p1 p2) ≤ ((2 ^ 51 : Nat) : Int) * ((2 ^ 1076 : Nat) : Int) := by
    refine own_add O1 Q1 rone (own_rep_nat (by decide) (by decide)) ?_ ?_
    · rw [O2]; omega
    · rw [O2]; omega
  refine ⟨own_nn P1, own_nn Q1, own_nn M1, ?_⟩
  unfold own_R
  split
  · exact ⟨M1, M2⟩
  · exact ⟨O1, Int.le_of_eq O2.symm⟩
theorem own_ge {x : UInt64} (h : DFin x) (h1 : 1 * ((2 ^ 1074 : Nat) : Int) ≤ own_zv x) : ¬ (cmpValue (FP.dcmp x FP.dconst1) .l < (0 : Int32)) := by
  rcases Int.lt_or_eq_of_le h1 with g | g
  · rw [own_v_gt (own_cmp_gt h own_one.1 (by rw [own_one.2]; exact g))]; decide
  · rw [own_v_eq (own_cmp_eq h own_one.1 (by rw [own_one.2]; exact g.symm))]; decide
end OwnA
end Jvm.Pilot.@@N@@
namespace Jvm.Pilot.@@N@@
open Jvm Jvm.ClassFile Sem Op Lib Jvm.Free Jvm.Stand Jvm.LawKit Jvm.RoadKit Bundle Jvm.Pilot.@@N@@.Jvm.D
open Jvm.FP Jvm.Free.Fl
theorem d_prog_11_method_4_code_0 : decode prog_11_method_4_code 0 = .ok (.dload_n 0, 1) := by decide +kernel
theorem d_prog_11_method_4_code_1 : decode prog_11_method_4_code 1 = .ok (.dconst 1, 1) := by decide +kernel
theorem d_prog_11_method_4_code_2 : decode prog_11_method_4_code 2 = .ok (.dcmp .l, 1) := by decide +kernel
theorem d_prog_11_method_4_code_3 : decode prog_11_method_4_code 3 = .ok (.ifCond .lt 11, 3) := by decide +kernel
theorem d_prog_11_method_4_code_6 : decode prog_11_method_4_code 6 = .ok (.dload_n 0, 1) := by decide +kernel
theorem d_prog_11_method_4_code_7 : decode prog_11_method_4_code 7 = .ok (.ldc2_w 40, 3) := by decide +kernel
theorem d_prog_11_method_4_code_10 : decode prog_11_method_4_code 10 = .ok (.dcmp .g, 1) := by decide +kernel
theorem d_prog_11_method_4_code_11 : decode prog_11_method_4_code 11 = .ok (.ifCond .lt 17, 3) := by decide +kernel
theorem d_prog_11_method_4_code_28 : decode prog_11_method_4_code 28 = .ok (.dload_n 0, 1) := by decide +kernel
theorem d_prog_11_method_4_code_29 : decode prog_11_method_4_code 29 = .ok (.dreturn, 1) := by decide +kernel
theorem pd_0 : parseMethodDescriptor "(D)D" = some ⟨[.double], some .double⟩ := by decide +kernel
theorem ef_1 (m : MethodId) (x0 : UInt64) : entryFrame m #[(.double x0)] 2 = mkF m 0 #[.val (.double x0), .second] [] := by first | (simp [entryFrame, mkF, argsToLocals, Value.category]; done) | rfl
theorem pn_1 : plainName "com/example/tumblebug/tumblebug/Durations" = true := by first | (simp [plainName, overriddenIn]; done) | decide +kernel
def Q1 (Z : State) (r1 : UInt64) (h0 : Heap) (n0 : Nat) (v : Option Value) (h : Heap) (L : List Loc) : Prop := v = some (.double r1) ∧ Fr n0 L ∧ h = h0
set_option maxRecDepth 65536 in
set_option maxHeartbeats 40000000 in
theorem rm1 (l : Launch) (Z : State) (a0 : Array Value) (hw : ∀ d ∈ tables_1, d.before a0 Z = true) (ws : List Jvm.Cond) (r1 : UInt64) (h0 : Heap) (n0 : Nat) (Z0 : n0 ≤ h0.size) (hf : Jvm.Free.Fl.Fin64 r1) (h1 : ¬ (cmpValue (FP.dcmp r1 FP.dconst1) .l < (0 : Int32))) :
    MetFree l (⟨"com/example/tumblebug/tumblebug/Durations", "requireMultiplier", "(D)D"⟩ : MethodName) (head1 (Jvm.Cond.code (⟨"com/example/tumblebug/tumblebug/Durations", "requireMultiplier", "(D)D"⟩ : MethodName) prog_11_method_4_code 2 (some .double) :: ws) ({ frames := 0, cells := 0, slots := 0, locals := 0 } : Room)) (fun a U => a = #[(.double r1)] ∧ Z.Warmed39 U.vm ∧ U.heap = h0) (fun _ _ _ _ _ => True) (fun _ U o U' => ∃ v L, o = .returned v ∧ Q1 Z r1 h0 n0 v U'.heap L ∧ FrameEnd U o U' L ({ frames := 0, cells := 0, slots := 0, locals := 0 } : Room).cells ({ frames := 0, cells := 0, slots := 0, locals := 0 } : Room).slots) := by
  refine MetFree.of_bodySF (plainFor_of_name pn_1) hisR ?_
  intro p e s m args below meth c s₁ Bd hml0 hP hK
  obtain ⟨rfl, hZ, hh⟩ := hP
  have hx := Bd.exec
  have hby := Bd.bytes
  have hml : c.maxLocals = 2 := hml0
  have hown : s.vm.findClass "com/example/tumblebug/tumblebug/Durations" = some m.cls := findClass_of_methodNamed Bd.named
  have hnm := (name_of_methodNamed Bd.named Bd.method).1
  have X0 : Stand p l e ({ frames := 0, cells := 0, slots := 0, locals := 0 } : Room) s m #[(.double r1)] below meth c s₁ [] 0 0 := Stand.of_body Bd
  have e0 : s₁.heap = h0 := by rw [← hh, Bd.state]; rfl
  have N0 := Fr.nil n0
  have pre0 : ∀ t, Steps p.tables e below (s₁.setTop (mkF m 0 #[.val (.double r1), .second] [])) t → Steps p.tables e below (s₁.setTop (entryFrame m #[(.double r1)] 2)) t := fun t k => castTop (ef_1 m r1) k
  obtain ⟨fs, hr, hrun, hended, hW, hsame⟩ := X0.leave (v := some (.double r1)) (fun h => by rw [Bd.returns] at h; cases h)
  refine ⟨_, _, pre0 _ ?_, hrun, hended, _, _, rfl, ?_, ⟨_, rfl⟩, hW, hsame.mono (by decide) (by decide)⟩
  · show Steps p.tables e below (s₁.setTop (mkF m 0 #[.val (.double r1), .second] [])) _
    refine XS.dloadN X0.here hx rfl (hb hby d_prog_11_method_4_code_0) rfl ?_
    show Steps p.tables e below (s₁.setTop (mkF m 1 #[.val (.double r1), .second] [(.double r1)])) _
    refine XS.dconst1 X0.here hx rfl (v := FP.dconst1) (hb hby d_prog_11_method_4_code_1) rfl ?_
    show Steps p.tables e below (s₁.setTop (mkF m 2 #[.val (.double r1), .second] [(.double FP.dconst1), (.double r1)])) _
    refine XS.dcmpS X0.here hx rfl (v := (cmpValue (FP.dcmp r1 FP.dconst1) .l)) (hb hby d_prog_11_method_4_code_2) rfl rfl ?_
    show Steps p.tables e below (s₁.setTop (mkF m 3 #[.val (.double r1), .second] [(.int (cmpValue (FP.dcmp r1 FP.dconst1) .l))])) _
    refine XS.ifNo X0.here hx rfl (hb hby d_prog_11_method_4_code_3) rfl ((if0 _ _).trans (flt h1).1) ?_
    show Steps p.tables e below (s₁.setTop (mkF m 6 #[.val (.double r1), .second] [])) _
    refine XS.dloadN X0.here hx rfl (hb hby d_prog_11_method_4_code_6) rfl ?_
    show Steps p.tables e below (s₁.setTop (mkF m 7 #[.val (.double r1), .second] [(.double r1)])) _
    refine X0.ldc2DoubleC hx hown (mvT hZ (hw _ (List.mem_of_getElem? (i := 6) rfl))) (g := (mkF m 7 #[.val (.double r1), .second] [(.double r1)])) rfl (hb hby d_prog_11_method_4_code_7) _ ?_
    show Steps p.tables e below (s₁.setTop (mkF m 10 #[.val (.double r1), .second] [(.double (9218868437227405312 : UInt64)), (.double r1)])) _
    refine XS.dcmpS X0.here hx rfl (v := (-1 : Int32)) (hb hby d_prog_11_method_4_code_10) rfl (dcmp_pinf hf .g) ?_
    show Steps p.tables e below (s₁.setTop (mkF m 11 #[.val (.double r1), .second] [(.int (-1 : Int32))])) _
    refine XS.ifYes X0.here hx rfl (pc0 := 11) (pc' := 28) rfl (hb hby d_prog_11_method_4_code_11) rfl (by decide) (by decide) (by decide) ?_
    show Steps p.tables e below (s₁.setTop (mkF m 28 #[.val (.double r1), .second] [])) _
    refine XS.dloadN X0.here hx rfl (hb hby d_prog_11_method_4_code_28) rfl ?_
    show Steps p.tables e below (s₁.setTop (mkF m 29 #[.val (.double r1), .second] [(.double r1)])) _
    jvm_step X0.here [X0.here.top, hx, (hb hby d_prog_11_method_4_code_29), X0.method', Bd.returns, narrow]
    first | (intro acts; rw [hr _ acts rfl rfl rfl]) | rw [hr _ _ rfl rfl rfl]
    exact Steps.refl _
  · show Q1 Z r1 h0 n0 _ s₁.heap _
    rw [e0]
    exact ⟨rfl, N0, rfl⟩
theorem ef_0 (m : MethodId) (x0 : Int32) (x1 : Int32) : entryFrame m #[(.int x0), (.int x1)] maxLocals = mkF m 0 #[.val (.int x0), .val (.int x1), .unset, .unset, .unset, .unset, .unset, .unset, .unset] [] := by first | (simp [entryFrame, mkF, argsToLocals, Value.category, maxLocals]; done) | rfl
theorem pn_0 : plainName "com/example/tumblebug/tumblebug/DurationsRequireMultiplierPinLaw" = true := by first | (simp [plainName, overriddenIn]; done) | decide +kernel
def Q0 (Z : State) (p1 : Int32) (p2 : Int32) (h0 : Heap) (n0 : Nat) (v : Option Value) (h : Heap) (L : List Loc) : Prop := v = some (.int 1) ∧ Fr n0 L
set_option maxRecDepth 65536 in
set_option maxHeartbeats 40000000 in
theorem rm0 (l : Launch) (Z : State) (a0 : Array Value) (hw : ∀ d ∈ tables_1, d.before a0 Z = true) (ws : List Jvm.Cond) (p1 : Int32) (p2 : Int32) (h0 : Heap) (n0 : Nat) (Z0 : n0 ≤ h0.size) :
    MetFree l x (head1 (Jvm.Cond.code x code maxLocals ret :: ws) room_1) (fun a U => a = #[(.int p1), (.int p2)] ∧ Z.Warmed39 U.vm ∧ U.heap = h0) (fun _ _ _ _ _ => True) (fun _ U o U' => ∃ v L, o = .returned v ∧ Q0 Z p1 p2 h0 n0 v U'.heap L ∧ FrameEnd U o U' L room_1.cells room_1.slots) := by
  refine MetFree.of_bodySF (plainFor_of_name pn_0) hisR ?_
  intro p e s m args below meth c s₁ Bd hml0 hP hK
  obtain ⟨rfl, hZ, hh⟩ := hP
  have hx := Bd.exec
  have hby := Bd.bytes
  have hml : c.maxLocals = 9 := hml0
  have hown : s.vm.findClass "com/example/tumblebug/tumblebug/DurationsRequireMultiplierPinLaw" = some m.cls := findClass_of_methodNamed Bd.named
  have hnm := (name_of_methodNamed Bd.named Bd.method).1
  have X0 : Stand p l e room_1 s m #[(.int p1), (.int p2)] below meth c s₁ [] 0 0 := Stand.of_body Bd
  have e0 : s₁.heap = h0 := by rw [← hh, Bd.state]; rfl
  have N0 := Fr.nil n0
  have pre0 : ∀ t, Steps p.tables e below (s₁.setTop (mkF m 0 #[.val (.int p1), .val (.int p2), .unset, .unset, .unset, .unset, .unset, .unset, .unset] [])) t → Steps p.tables e below (s₁.setTop (entryFrame m #[(.int p1), (.int p2)] maxLocals)) t := fun t k => castTop (ef_0 m p1 p2) k
  obtain ⟨F1, F2, F3, F4, F5⟩ := own_facts p1 p2
  obtain ⟨_, _, ⟨T1, L1, k1, n1⟩, -, X1, ⟨Lc1, hQ1, l1, y1, z1⟩, st1⟩ := Jvm.LawKit.callS X0 hx (y := (⟨"com/example/tumblebug/tumblebug/Durations", "requireMultiplier", "(D)D"⟩ : MethodName)) hown (mvT hZ (hw _ (List.mem_of_getElem? (i := 2) rfl))) (mvT hZ (hw _ (List.mem_of_getElem? (i := 3) rfl))) (mvT hZ (hw _ (List.mem_of_getElem? (i := 4) rfl))) (mvT hZ (hw _ (List.mem_of_getElem? (i := 5) rfl))) (by decide) (backOf (W := 0) (rm1 l Z a0 hw [] (own_R p1 p2) h0 n0 Z0 (fin64_core.mpr F4) (own_ge F4 F5)) hZ (hw _ (List.mem_of_getElem? (i := 5) rfl)) (hw _ (List.mem_of_getElem? (i := 4) rfl)) (by decide) (by decide)) (g := (mkF m 37 #[.val (.int p1), .val (.int p2), .val (.int (p2 &&& (31 : Int32))), .val (.double (own_P p1 p2)), .second, .val (.double (own_R p1 p2)), .second, .unset, .unset] [(.double (own_R p1 p2))])) rfl (by rw [hml]; rfl) (argsL := [(.double (own_R p1 p2))]) (rest := []) (lenOf pd_0 rfl) rfl (by show 2 * 0 + _ ≤ _; exact Nat.le_of_eq rfl) (hb hby at_37) (fun _ _ => ⟨rfl, e0, (by decide : 0 + 0 ≤ _), (by decide : 0 + 0 ≤ _)⟩)
  dsimp only [Pt.U, Pt.locs, Pt.cells, Pt.slots] at X1 l1 y1 z1 st1 hQ1
  subst l1 y1 z1
  obtain ⟨rfl, N1q, eh1⟩ := hQ1
  have N1 := Fr.app N0 N1q
  obtain ⟨fs, hr, hrun, hended, hW, hsame⟩ := X1.leave (v := some (.int (1 : Int32))) (fun h => by rw [Bd.returns] at h; cases h)
  have k35 : Steps p.tables e below (s₁.setTop (mkF m 35 #[.val (.int p1), .val (.int p2), .val (.int (p2 &&& (31 : Int32))), .val (.double (own_P p1 p2)), .second, .val (.double (own_R p1 p2)), .second, .unset, .unset] [])) (T1.setFrames fs) := by
    show Steps p.tables e below (s₁.setTop (mkF m 35 #[.val (.int p1), .val (.int p2), .val (.int (p2 &&& (31 : Int32))), .val (.double (own_P p1 p2)), .second, .val (.double (own_R p1 p2)), .second, .unset, .unset] [])) _
    refine XS.dload X0.here hx rfl (hb hby at_35) rfl ?_
    show Steps p.tables e below (s₁.setTop (mkF m 37 #[.val (.int p1), .val (.int p2), .val (.int (p2 &&& (31 : Int32))), .val (.double (own_P p1 p2)), .second, .val (.double (own_R p1 p2)), .second, .unset, .unset] [(.double (own_R p1 p2))])) _
    refine st1 _ ?_
    show Steps p.tables e below (T1.setTop (mkF m 40 #[.val (.int p1), .val (.int p2), .val (.int (p2 &&& (31 : Int32))), .val (.double (own_P p1 p2)), .second, .val (.double (own_R p1 p2)), .second, .unset, .unset] [(.double (own_R p1 p2))])) _
    refine XS.dstore X1.here hx rfl (hb hby at_40) rfl (l' := #[.val (.int p1), .val (.int p2), .val (.int (p2 &&& (31 : Int32))), .val (.double (own_P p1 p2)), .second, .val (.double (own_R p1 p2)), .second, .val (.double (own_R p1 p2)), .second]) rfl ?_
    show Steps p.tables e below (T1.setTop (mkF m 42 #[.val (.int p1), .val (.int p2), .val (.int (p2 &&& (31 : Int32))), .val (.double (own_P p1 p2)), .second, .val (.double (own_R p1 p2)), .second, .val (.double (own_R p1 p2)), .second] [])) _
    refine XS.dload X1.here hx rfl (hb hby at_42) rfl ?_
    show Steps p.tables e below (T1.setTop (mkF m 44 #[.val (.int p1), .val (.int p2), .val (.int (p2 &&& (31 : Int32))), .val (.double (own_P p1 p2)), .second, .val (.double (own_R p1 p2)), .second, .val (.double (own_R p1 p2)), .second] [(.double (own_R p1 p2))])) _
    refine XS.dload X1.here hx rfl (hb hby at_44) rfl ?_
    show Steps p.tables e below (T1.setTop (mkF m 46 #[.val (.int p1), .val (.int p2), .val (.int (p2 &&& (31 : Int32))), .val (.double (own_P p1 p2)), .second, .val (.double (own_R p1 p2)), .second, .val (.double (own_R p1 p2)), .second] [(.double (own_R p1 p2)), (.double (own_R p1 p2))])) _
    refine XS.dcmpS X1.here hx rfl (v := (0 : Int32)) (hb hby at_46) rfl (dcmpV_self (own_nn F4) .l) ?_
    show Steps p.tables e below (T1.setTop (mkF m 47 #[.val (.int p1), .val (.int p2), .val (.int (p2 &&& (31 : Int32))), .val (.double (own_P p1 p2)), .second, .val (.double (own_R p1 p2)), .second, .val (.double (own_R p1 p2)), .second] [(.int (0 : Int32))])) _
    refine XS.ifNo X1.here hx rfl (hb hby at_47) rfl (by decide) ?_
    show Steps p.tables e below (T1.setTop (mkF m 50 #[.val (.int p1), .val (.int p2), .val (.int (p2 &&& (31 : Int32))), .val (.double (own_P p1 p2)), .second, .val (.double (own_R p1 p2)), .second, .val (.double (own_R p1 p2)), .second] [])) _
    refine XS.dload X1.here hx rfl (hb hby at_50) rfl ?_
    show Steps p.tables e below (T1.setTop (mkF m 52 #[.val (.int p1), .val (.int p2), .val (.int (p2 &&& (31 : Int32))), .val (.double (own_P p1 p2)), .second, .val (.double (own_R p1 p2)), .second, .val (.double (own_R p1 p2)), .second] [(.double (own_R p1 p2))])) _
    refine XS.dconst1 X1.here hx rfl (v := FP.dconst1) (hb hby at_52) rfl ?_
    show Steps p.tables e below (T1.setTop (mkF m 53 #[.val (.int p1), .val (.int p2), .val (.int (p2 &&& (31 : Int32))), .val (.double (own_P p1 p2)), .second, .val (.double (own_R p1 p2)), .second, .val (.double (own_R p1 p2)), .second] [(.double FP.dconst1), (.double (own_R p1 p2))])) _
    refine XS.dcmpS X1.here hx rfl (v := (cmpValue (FP.dcmp (own_R p1 p2) FP.dconst1) .l)) (hb hby at_53) rfl rfl ?_
    show Steps p.tables e below (T1.setTop (mkF m 54 #[.val (.int p1), .val (.int p2), .val (.int (p2 &&& (31 : Int32))), .val (.double (own_P p1 p2)), .second, .val (.double (own_R p1 p2)), .second, .val (.double (own_R p1 p2)), .second] [(.int (cmpValue (FP.dcmp (own_R p1 p2) FP.dconst1) .l))])) _
    refine XS.ifNo X1.here hx rfl (hb hby at_54) rfl ((if0 _ _).trans (flt (own_ge F4 F5)).1) ?_
    show Steps p.tables e below (T1.setTop (mkF m 57 #[.val (.int p1), .val (.int p2), .val (.int (p2 &&& (31 : Int32))), .val (.double (own_P p1 p2)), .second, .val (.double (own_R p1 p2)), .second, .val (.double (own_R p1 p2)), .second] [])) _
    refine XS.iconst X1.here hx rfl (hb hby at_57) ?_
    show Steps p.tables e below (T1.setTop (mkF m 58 #[.val (.int p1), .val (.int p2), .val (.int (p2 &&& (31 : Int32))), .val (.double (own_P p1 p2)), .second, .val (.double (own_R p1 p2)), .second, .val (.double (own_R p1 p2)), .second] [(.int (1 : Int32))])) _
    refine XS.goto X1.here hx rfl (pc0 := 58) (pc' := 62) rfl (hb hby at_58) (by decide) (by decide) ?_
    show Steps p.tables e below (T1.setTop (mkF m 62 #[.val (.int p1), .val (.int p2), .val (.int (p2 &&& (31 : Int32))), .val (.double (own_P p1 p2)), .second, .val (.double (own_R p1 p2)), .second, .val (.double (own_R p1 p2)), .second] [(.int (1 : Int32))])) _
    exact retN X1 hx (t := .boolean) Bd.returns (by simp) (hb hby at_62) hr
  refine ⟨_, _, pre0 _ ?_, hrun, hended, _, _, rfl, ?_, ⟨_, rfl⟩, hW, hsame.mono (by decide) (by decide)⟩
  · show Steps p.tables e below (s₁.setTop (mkF m 0 #[.val (.int p1), .val (.int p2), .unset, .unset, .unset, .unset, .unset, .unset, .unset] [])) _
    refine XS.iloadN X0.here hx rfl (hb hby at_0) rfl ?_
    show Steps p.tables e below (s₁.setTop (mkF m 1 #[.val (.int p1), .val (.int p2), .unset, .unset, .unset, .unset, .unset, .unset, .unset] [(.int p2)])) _
    refine XS.bipush X0.here hx rfl (hb hby at_1) ?_
    show Steps p.tables e below (s₁.setTop (mkF m 3 #[.val (.int p1), .val (.int p2), .unset, .unset, .unset, .unset, .unset, .unset, .unset] [(.int (31 : Int32)), (.int p2)])) _
    refine XS.iand X0.here hx rfl (hb hby at_3) rfl ?_
    show Steps p.tables e below (s₁.setTop (mkF m 4 #[.val (.int p1), .val (.int p2), .unset, .unset, .unset, .unset, .unset, .unset, .unset] [(.int (p2 &&& (31 : Int32)))])) _
    refine XS.istoreN X0.here hx rfl (hb hby at_4) rfl (l' := #[.val (.int p1), .val (.int p2), .val (.int (p2 &&& (31 : Int32))), .unset, .unset, .unset, .unset, .unset, .unset]) rfl ?_
    show Steps p.tables e below (s₁.setTop (mkF m 5 #[.val (.int p1), .val (.int p2), .val (.int (p2 &&& (31 : Int32))), .unset, .unset, .unset, .unset, .unset, .unset] [])) _
    refine XS.iloadN X0.here hx rfl (hb hby at_5) rfl ?_
    show Steps p.tables e below (s₁.setTop (mkF m 6 #[.val (.int p1), .val (.int p2), .val (.int (p2 &&& (31 : Int32))), .unset, .unset, .unset, .unset, .unset, .unset] [(.int p1)])) _
    refine X0.ldcI hx hown (mvT hZ (hw _ (List.mem_of_getElem? (i := 0) rfl))) (g := (mkF m 6 #[.val (.int p1), .val (.int p2), .val (.int (p2 &&& (31 : Int32))), .unset, .unset, .unset, .unset, .unset, .unset] [(.int p1)])) rfl (hb hby at_6) ?_
    show Steps p.tables e below (s₁.setTop (mkF m 8 #[.val (.int p1), .val (.int p2), .val (.int (p2 &&& (31 : Int32))), .unset, .unset, .unset, .unset, .unset, .unset] [(.int (2147483647 : Int32)), (.int p1)])) _
    refine XS.iand X0.here hx rfl (hb hby at_8) rfl ?_
    show Steps p.tables e below (s₁.setTop (mkF m 9 #[.val (.int p1), .val (.int p2), .val (.int (p2 &&& (31 : Int32))), .unset, .unset, .unset, .unset, .unset, .unset] [(.int (p1 &&& (2147483647 : Int32)))])) _
    refine XS.i2dS X0.here hx rfl (v := (FP.i2d (p1 &&& (2147483647 : Int32)))) (hb hby at_9) rfl rfl ?_
    show Steps p.tables e below (s₁.setTop (mkF m 10 #[.val (.int p1), .val (.int p2), .val (.int (p2 &&& (31 : Int32))), .unset, .unset, .unset, .unset, .unset, .unset] [(.double (FP.i2d (p1 &&& (2147483647 : Int32))))])) _
    refine XS.lconst X0.here hx rfl (hb hby at_10) ?_
    show Steps p.tables e below (s₁.setTop (mkF m 11 #[.val (.int p1), .val (.int p2), .val (.int (p2 &&& (31 : Int32))), .unset, .unset, .unset, .unset, .unset, .unset] [(.long (1 : Int64)), (.double (FP.i2d (p1 &&& (2147483647 : Int32))))])) _
    refine XS.iloadN X0.here hx rfl (hb hby at_11) rfl ?_
    show Steps p.tables e below (s₁.setTop (mkF m 12 #[.val (.int p1), .val (.int p2), .val (.int (p2 &&& (31 : Int32))), .unset, .unset, .unset, .unset, .unset, .unset] [(.int (p2 &&& (31 : Int32))), (.long (1 : Int64)), (.double (FP.i2d (p1 &&& (2147483647 : Int32))))])) _
    refine XS.lshl X0.here hx rfl (hb hby at_12) rfl ?_
    show Steps p.tables e below (s₁.setTop (mkF m 13 #[.val (.int p1), .val (.int p2), .val (.int (p2 &&& (31 : Int32))), .unset, .unset, .unset, .unset, .unset, .unset] [(.long ((1 : Int64) <<< ((p2 &&& (31 : Int32)) &&& 0x3f).toInt64)), (.double (FP.i2d (p1 &&& (2147483647 : Int32))))])) _
    refine XS.l2dS X0.here hx rfl (v := (FP.l2d ((1 : Int64) <<< ((p2 &&& (31 : Int32)) &&& 0x3f).toInt64))) (hb hby at_13) rfl rfl ?_
    show Steps p.tables e below (s₁.setTop (mkF m 14 #[.val (.int p1), .val (.int p2), .val (.int (p2 &&& (31 : Int32))), .unset, .unset, .unset, .unset, .unset, .unset] [(.double (FP.l2d ((1 : Int64) <<< ((p2 &&& (31 : Int32)) &&& 0x3f).toInt64))), (.double (FP.i2d (p1 &&& (2147483647 : Int32))))])) _
    refine XS.dmulS X0.here hx rfl (v := (own_P p1 p2)) (hb hby at_14) rfl F1 rfl ?_
    show Steps p.tables e below (s₁.setTop (mkF m 15 #[.val (.int p1), .val (.int p2), .val (.int (p2 &&& (31 : Int32))), .unset, .unset, .unset, .unset, .unset, .unset] [(.double (own_P p1 p2))])) _
    refine XS.dstoreN X0.here hx rfl (hb hby at_15) rfl (l' := #[.val (.int p1), .val (.int p2), .val (.int (p2 &&& (31 : Int32))), .val (.double (own_P p1 p2)), .second, .unset, .unset, .unset, .unset]) rfl ?_
    show Steps p.tables e below (s₁.setTop (mkF m 16 #[.val (.int p1), .val (.int p2), .val (.int (p2 &&& (31 : Int32))), .val (.double (own_P p1 p2)), .second, .unset, .unset, .unset, .unset] [])) _
    refine XS.dconst1 X0.here hx rfl (v := FP.dconst1) (hb hby at_16) rfl ?_
    show Steps p.tables e below (s₁.setTop (mkF m 17 #[.val (.int p1), .val (.int p2), .val (.int (p2 &&& (31 : Int32))), .val (.double (own_P p1 p2)), .second, .unset, .unset, .unset, .unset] [(.double FP.dconst1)])) _
    refine XS.dloadN X0.here hx rfl (hb hby at_17) rfl ?_
    show Steps p.tables e below (s₁.setTop (mkF m 18 #[.val (.int p1), .val (.int p2), .val (.int (p2 &&& (31 : Int32))), .val (.double (own_P p1 p2)), .second, .unset, .unset, .unset, .unset] [(.double (own_P p1 p2)), (.double FP.dconst1)])) _
    refine X0.ldc2DoubleC hx hown (mvT hZ (hw _ (List.mem_of_getElem? (i := 1) rfl))) (g := (mkF m 18 #[.val (.int p1), .val (.int p2), .val (.int (p2 &&& (31 : Int32))), .val (.double (own_P p1 p2)), .second, .unset, .unset, .unset, .unset] [(.double (own_P p1 p2)), (.double FP.dconst1)])) rfl (hb hby at_18) _ ?_
    show Steps p.tables e below (s₁.setTop (mkF m 21 #[.val (.int p1), .val (.int p2), .val (.int (p2 &&& (31 : Int32))), .val (.double (own_P p1 p2)), .second, .unset, .unset, .unset, .unset] [(.double (4652218415073722368 : UInt64)), (.double (own_P p1 p2)), (.double FP.dconst1)])) _
    refine XS.ddivS X0.here hx rfl (v := (own_Q p1 p2)) (hb hby at_21) rfl F2 rfl ?_
    show Steps p.tables e below (s₁.setTop (mkF m 22 #[.val (.int p1), .val (.int p2), .val (.int (p2 &&& (31 : Int32))), .val (.double (own_P p1 p2)), .second, .unset, .unset, .unset, .unset] [(.double (own_Q p1 p2)), (.double FP.dconst1)])) _
    refine XS.daddS X0.here hx rfl (v := (own_M p1 p2)) (hb hby at_22) rfl F3 rfl ?_
    show Steps p.tables e below (s₁.setTop (mkF m 23 #[.val (.int p1), .val (.int p2), .val (.int (p2 &&& (31 : Int32))), .val (.double (own_P p1 p2)), .second, .unset, .unset, .unset, .unset] [(.double (own_M p1 p2))])) _
    refine XS.dstore X0.here hx rfl (hb hby at_23) rfl (l' := #[.val (.int p1), .val (.int p2), .val (.int (p2 &&& (31 : Int32))), .val (.double (own_P p1 p2)), .second, .val (.double (own_M p1 p2)), .second, .unset, .unset]) rfl ?_
    show Steps p.tables e below (s₁.setTop (mkF m 25 #[.val (.int p1), .val (.int p2), .val (.int (p2 &&& (31 : Int32))), .val (.double (own_P p1 p2)), .second, .val (.double (own_M p1 p2)), .second, .unset, .unset] [])) _
    refine XS.iloadN X0.here hx rfl (hb hby at_25) rfl ?_
    show Steps p.tables e below (s₁.setTop (mkF m 26 #[.val (.int p1), .val (.int p2), .val (.int (p2 &&& (31 : Int32))), .val (.double (own_P p1 p2)), .second, .val (.double (own_M p1 p2)), .second, .unset, .unset] [(.int p2)])) _
    refine XS.bipush X0.here hx rfl (hb hby at_26) ?_
    show Steps p.tables e below (s₁.setTop (mkF m 28 #[.val (.int p1), .val (.int p2), .val (.int (p2 &&& (31 : Int32))), .val (.double (own_P p1 p2)), .second, .val (.double (own_M p1 p2)), .second, .unset, .unset] [(.int (32 : Int32)), (.int p2)])) _
    refine XS.iand X0.here hx rfl (hb hby at_28) rfl ?_
    show Steps p.tables e below (s₁.setTop (mkF m 29 #[.val (.int p1), .val (.int p2), .val (.int (p2 &&& (31 : Int32))), .val (.double (own_P p1 p2)), .second, .val (.double (own_M p1 p2)), .second, .unset, .unset] [(.int (p2 &&& (32 : Int32)))])) _
    by_cases hq : p2 &&& (32 : Int32) = (0 : Int32)
    · have eR : own_R p1 p2 = own_M p1 p2 := by unfold own_R; rw [if_pos hq]
      show Steps p.tables e below (s₁.setTop (mkF m 29 #[.val (.int p1), .val (.int p2), .val (.int (p2 &&& (31 : Int32))), .val (.double (own_P p1 p2)), .second, .val (.double (own_M p1 p2)), .second, .unset, .unset] [(.int (p2 &&& (32 : Int32)))])) _
      refine XS.ifYes X0.here hx rfl (pc0 := 29) (pc' := 35) rfl (hb hby at_29) rfl ((if0 _ _).trans (teq hq).1) (by decide) (by decide) ?_
      show Steps p.tables e below (s₁.setTop (mkF m 35 #[.val (.int p1), .val (.int p2), .val (.int (p2 &&& (31 : Int32))), .val (.double (own_P p1 p2)), .second, .val (.double (own_M p1 p2)), .second, .unset, .unset] [])) _
      rw [← eR]; exact k35
    · have eR : own_R p1 p2 = FP.dconst1 := by unfold own_R; rw [if_neg hq]
      show Steps p.tables e below (s₁.setTop (mkF m 29 #[.val (.int p1), .val (.int p2), .val (.int (p2 &&& (31 : Int32))), .val (.double (own_P p1 p2)), .second, .val (.double (own_M p1 p2)), .second, .unset, .unset] [(.int (p2 &&& (32 : Int32)))])) _
      refine XS.ifNo X0.here hx rfl (hb hby at_29) rfl ((if0 _ _).trans (feq hq).1) ?_
      show Steps p.tables e below (s₁.setTop (mkF m 32 #[.val (.int p1), .val (.int p2), .val (.int (p2 &&& (31 : Int32))), .val (.double (own_P p1 p2)), .second, .val (.double (own_M p1 p2)), .second, .unset, .unset] [])) _
      refine XS.dconst1 X0.here hx rfl (v := FP.dconst1) (hb hby at_32) rfl ?_
      show Steps p.tables e below (s₁.setTop (mkF m 33 #[.val (.int p1), .val (.int p2), .val (.int (p2 &&& (31 : Int32))), .val (.double (own_P p1 p2)), .second, .val (.double (own_M p1 p2)), .second, .unset, .unset] [(.double FP.dconst1)])) _
      refine XS.dstore X0.here hx rfl (hb hby at_33) rfl (l' := #[.val (.int p1), .val (.int p2), .val (.int (p2 &&& (31 : Int32))), .val (.double (own_P p1 p2)), .second, .val (.double FP.dconst1), .second, .unset, .unset]) rfl ?_
      show Steps p.tables e below (s₁.setTop (mkF m 35 #[.val (.int p1), .val (.int p2), .val (.int (p2 &&& (31 : Int32))), .val (.double (own_P p1 p2)), .second, .val (.double FP.dconst1), .second, .unset, .unset] [])) _
      rw [← eR]; exact k35
  · show Q0 Z p1 p2 h0 n0 _ T1.heap _
    exact ⟨rfl, N1⟩
set_option maxRecDepth 65536 in
set_option maxHeartbeats 40000000 in
theorem comes_1 {Post : Tables → Env → Array Value → State → Outcome → State → Prop} (hpost : ∀ tb e args s v u, (limb_1_1.after args s (.returned v) u = true ∧ limb_1_2.after args s (.returned v) u = true ∧ True) → FrameEnd s (.returned v) u (Jvm.fieldLocs frame_1_writes args s ++ Jvm.arrayLocs frame_1_arrays args s ++ Jvm.staticLocs frame_1_statics s) 0 0 → Post tb e args s (.returned v) u) :
    ArmFor flags0 classFile x code maxLocals ret World_1 tables_1 room_1 Calls_1 rest_1 Pre_1 Post := by
  intro l hfl _ _ p e ha hc hk s m args below hf hA hF happ hP
  obtain ⟨hcalls, hrest, hpre⟩ := hP
  obtain ⟨-, -, -, hnamed, -, -, -, hat⟩ := (Spec.applies_iff hf).mp happ
  obtain ⟨hg, hn⟩ := and_e (Cond.before_iff.mp (show (Jvm.Cond.and given_1 narrow_1).before args s = true from hpre))
  obtain ⟨gc, gr0⟩ := and_e hg
  obtain ⟨ga0, gr1⟩ := and_e gr0
  have ga1 := gr1
  obtain ⟨w0, w1, rfl⟩ : ∃ w0 w1 : Value, args = #[w0, w1] := by
    have hs : args.size = 2 := by simpa [Cond.value, given_1] using gc
    obtain ⟨L⟩ := args
    match L, hs with
    | [w0, w1], _ => exact ⟨w0, w1, rfl⟩
  have hw := fun d (hd : d ∈ tables_1) => atoms_spec (ws := Jvm.Cond.code x code maxLocals ret :: tables_1) hat d (List.mem_cons_of_mem _ hd)
  obtain ⟨i0, ei0⟩ := is_v ga0
  obtain rfl : w0 = (.int i0) := Option.some.inj ei0
  obtain ⟨i1, ei1⟩ := is_v ga1
  obtain rfl : w1 = (.int i1) := Option.some.inj ei1
  obtain ⟨n, o, h1, h2, h3, _, L, rfl, ⟨rfl, N⟩, hq⟩ := rm0 l s _ hw tables_1 i0 i1 s.heap s.heap.size (Nat.le_refl _) p e ha hc hk s m _ below hf ((Spec.applies_iff_loose hf).mp happ).1 ⟨rfl, State.Warmed39.refl s, rfl⟩ trivial
  refine ⟨n, _, h1, h2, h3, hpost _ _ _ _ _ _ ⟨Cond.after_iff.mpr rfl, Cond.after_iff.mpr (eq_i res_at (Term.int_eval (1)) rfl), trivial⟩ ⟨hq.1, hq.2.1, (hq.2.2.sift fun y hy => Or.inr (N y hy)).mono (by decide) (by decide)⟩⟩
theorem main_1_1 : Claimed_1_1 := comes_1 fun _ _ _ _ _ _ h hF => ⟨h.1, hF⟩
theorem main_1_2 : Claimed_1_2 := comes_1 fun _ _ _ _ _ _ h hF => ⟨h.2.1, hF⟩
end Jvm.Pilot.@@N@@
namespace Jvm.Pilot.@@N@@
open Jvm Jvm.ClassFile Sem Op Lib Jvm.Free Jvm.Stand Jvm.Pilot.@@N@@.Jvm.D
/-! MADE BY PROGRAM (witnessworld.py) out of the Statement's table words and the real class files: 9 classes; the members and pool entries that the words name. The judged class is class 1, her method 1. -/
namespace start1
open Jvm.ClassFile
def u (s : String) : CpInfo := .utf8 (stringToUtf16 s)
/-- a pool by its gaps: so many unusable entries, then the entry; so many at the end -/
def gap : Nat → List CpInfo → List CpInfo
  | 0, r => r
  | n + 1, r => .unusable :: gap n r
def poolList (es : List (Nat × CpInfo)) (last : Nat) : List CpInfo := es.foldr (fun e r => gap e.1 (e.2 :: r)) (gap last [])
def pool (es : List (Nat × CpInfo)) (last : Nat) : Array CpInfo := ⟨poolList es last⟩
def fileOf (pool : Array CpInfo) (this : Nat) (attrs : Array Attribute := #[]) (ms : Array MethodInfo := #[]) (fl : Nat := 33) (sup : Nat := 0) (ifs : Array Nat := #[]) (fds : Array FieldInfo := #[]) : ClassFile where
  minorVersion := 0
  majorVersion := 65
  constantPool := pool
  accessFlags := fl
  thisClass := this
  superClass := sup
  interfaces := ifs
  fields := fds
  methods := ms
  attributes := attrs
def plain (name : String) (sup : Option ClassId) : Class where
  name := name
  kind := .ordinary
  loader := none
  accessFlags := 33
  super := sup
  interfaces := #[]
  cf := none
  fields := #[]
  methods := #[]
  instanceTypes := #[]
  staticTypes := #[]
  resolved := #[]
  callSites := []
  init := .initialized
  statics := none
  mirror := none

def pool0 : Array CpInfo := pool [(5, u "<init>"), (0, u "()V"), (1, .class_ 10), (1, u "java/lang/Object")] 113

def k0m0 : Method := { name := "<init>", desc := "()V", sig := { parameters := [], returnType := none }, accessFlags := 1, code := none }
/-- java/lang/Object -/
def k0 : Class := { plain "java/lang/Object" none with
  accessFlags := 33
  interfaces := #[]
  cf := some (fileOf pool0 8 #[] #[{ accessFlags := 1, nameIndex := 5, descriptorIndex := 6, attributes := #[] }] 33 0 #[] #[])
  fields := #[]
  methods := #[k0m0]
  instanceTypes := #[]
  staticTypes := #[]
  resolved := Array.replicate 124 none
  statics := none }

def pool1 : Array CpInfo := pool [(2, .class_ 4), (1, u "java/lang/Object"), (0, u "<init>"), (0, u "()V"), (0, .integer 2147483647), (0, .double 4652218415073722368), (1, .methodref 11 12), (0, .class_ 13), (0, .nameAndType 14 15), (0, u "com/example/tumblebug/tumblebug/Durations"), (0, u "requireMultiplier"), (0, u "(D)D"), (0, .class_ 17), (0, u "com/example/tumblebug/tumblebug/DurationsRequireMultiplierPinLaw"), (2, u "law"), (0, u "(II)Z")] 3

def k1m0 : Method := { name := "<init>", desc := "()V", sig := { parameters := [], returnType := none }, accessFlags := 2, code := none }
def k1c1 : Code := { maxStack := 6, maxLocals := 9, code := code, exceptionTable := #[], attributes := #[] }
def k1m1 : Method := { name := "law", desc := "(II)Z", sig := { parameters := [.int, .int], returnType := some .boolean }, accessFlags := 9, code := some k1c1 }
/-- com/example/tumblebug/tumblebug/DurationsRequireMultiplierPinLaw -/
def k1 : Class := { plain "com/example/tumblebug/tumblebug/DurationsRequireMultiplierPinLaw" (some 0) with
  accessFlags := 49
  interfaces := #[]
  cf := some (fileOf pool1 16 #[] #[{ accessFlags := 2, nameIndex := 5, descriptorIndex := 6, attributes := #[] }, { accessFlags := 9, nameIndex := 20, descriptorIndex := 21, attributes := #[] }] 49 2 #[] #[])
  fields := #[]
  methods := #[k1m0, k1m1]
  instanceTypes := #[]
  staticTypes := #[]
  resolved := Array.replicate 25 none
  statics := none }

def pool2 : Array CpInfo := pool [(2, .class_ 4), (1, u "java/lang/Object"), (0, u "<init>"), (0, u "()V"), (33, .double 9218868437227405312), (36, .class_ 78), (0, u "com/example/tumblebug/tumblebug/Durations"), (8, u "HALF_WRAP"), (0, u "Ljava/time/Duration;"), (31, u "NANOS_PER_SECOND"), (0, u "J"), (7, u "requireMultiplier"), (0, u "(D)D")] 34

def k2m0 : Method := { name := "<init>", desc := "()V", sig := { parameters := [], returnType := none }, accessFlags := 2, code := none }
def k2c1 : Code := { maxStack := 4, maxLocals := 2, code := prog_11_method_4_code, exceptionTable := #[], attributes := #[] }
def k2m1 : Method := { name := "requireMultiplier", desc := "(D)D", sig := { parameters := [.double], returnType := some .double }, accessFlags := 8, code := some k2c1 }
/-- com/example/tumblebug/tumblebug/Durations -/
def k2 : Class := { plain "com/example/tumblebug/tumblebug/Durations" (some 0) with
  accessFlags := 48
  interfaces := #[]
  cf := some (fileOf pool2 77 #[] #[{ accessFlags := 2, nameIndex := 5, descriptorIndex := 6, attributes := #[] }, { accessFlags := 8, nameIndex := 129, descriptorIndex := 130, attributes := #[] }] 48 2 #[] #[{ accessFlags := 26, nameIndex := 120, descriptorIndex := 121, attributes := #[] }, { accessFlags := 26, nameIndex := 87, descriptorIndex := 88, attributes := #[] }])
  fields := #[{ name := "NANOS_PER_SECOND", type := .long, accessFlags := 26, slot := 0, constantValue := 0 }, { name := "HALF_WRAP", type := (.object "java/time/Duration"), accessFlags := 26, slot := 1, constantValue := 0 }]
  methods := #[k2m0, k2m1]
  instanceTypes := #[]
  staticTypes := #[.long, (.object "java/time/Duration")]
  resolved := Array.replicate 165 none
  statics := none }

def pool3 : Array CpInfo := pool [(1, u "java/lang/Cloneable"), (0, .class_ 1), (0, u "java/lang/Object"), (0, .class_ 3)] 3

/-- java/lang/Cloneable -/
def k3 : Class := { plain "java/lang/Cloneable" (some 0) with
  accessFlags := 1537
  interfaces := #[]
  cf := some (fileOf pool3 2 #[] #[] 1537 4 #[] #[])
  fields := #[]
  methods := #[]
  instanceTypes := #[]
  staticTypes := #[]
  resolved := Array.replicate 8 none
  statics := none }

def pool4 : Array CpInfo := pool [(1, u "java/io/Serializable"), (0, .class_ 1), (0, u "java/lang/Object"), (0, .class_ 3)] 3

/-- java/io/Serializable -/
def k4 : Class := { plain "java/io/Serializable" (some 0) with
  accessFlags := 1537
  interfaces := #[]
  cf := some (fileOf pool4 2 #[] #[] 1537 4 #[] #[])
  fields := #[]
  methods := #[]
  instanceTypes := #[]
  staticTypes := #[]
  resolved := Array.replicate 8 none
  statics := none }

/-- the primitive byte -/
def k5 : Class := { plain "byte" none with kind := .primitive 'B', accessFlags := 0x411 }
/-- [B -/
def k6 : Class := { plain "[B" (some 0) with kind := .array 5 .byte, interfaces := #[3, 4], accessFlags := 1041 }

/-- the primitive int -/
def k7 : Class := { plain "int" none with kind := .primitive 'I', accessFlags := 0x411 }
/-- [I -/
def k8 : Class := { plain "[I" (some 0) with kind := .array 7 .int, interfaces := #[3, 4], accessFlags := 1041 }

def heap : Heap := #[]
def classes : Array Class := #[k0, k1, k2, k3, k4, k5, k6, k7, k8]
def interned : List (Array UInt16 × Addr) := []
def slotsUsed : Nat := 0
def theMethod : MethodId := ⟨1, 1⟩
def args0 : Array Value := #[.int 5, .int 5]
def aboutOver (below : List Frame) : State where
  vm := { classes := classes, interned := interned.toArray }
  heap := heap
  slotsUsed := slotsUsed
  threads := #[{ frames := .invoking theMethod args0 :: below }]
def below0 : List Frame := [.native { method := ⟨0, 0⟩, args := #[] }]
def about1 : State := aboutOver below0
def p0 : Program := .bare "" "" ""
def e0 : Env := launch0.env 0 0 0
theorem w_frames : about1.frames = Frame.invoking theMethod args0 :: below0 := rfl
set_option maxRecDepth 65536 in
theorem w_args : argsFit about1.vm theMethod args0 = true := by decide +kernel
set_option maxRecDepth 65536 in
theorem w_heap : heapFits about1 = true := by decide +kernel
set_option maxRecDepth 65536 in
theorem w_runnable : about1.curStatus? = some .runnable := by decide +kernel
set_option maxRecDepth 65536 in
theorem w_alone : about1.alone = true := by decide +kernel
set_option maxRecDepth 65536 in
theorem w_named : about1.methodNamed? x = some theMethod := by decide +kernel
set_option maxRecDepth 65536 in
theorem w_hears : about1.hears theMethod below0 = true := by decide +kernel
set_option maxRecDepth 65536 in
theorem w_ripe : about1.ripe theMethod args0 below0 = true := by decide +kernel
theorem w_running : about1.status = .running := rfl
set_option maxRecDepth 65536 in
theorem w_room : about1.hasRoom e0.platform room_1 = true :=
  launch0.hasRoom_least _ room_1 (by decide +kernel) (by decide +kernel) (by decide +kernel) (by decide +kernel) (by decide +kernel) (by decide +kernel)
theorem allAtoms_all (ts : List Jvm.Cond) (a : Array Jvm.Value) (st : Jvm.State) : (allAtoms ts).before a st = ts.all (fun c => c.before a st) := by
  induction ts with
  | nil => rfl
  | cons c t ih =>
    show (Jvm.Cond.and c (allAtoms t)).before a st = _
    rw [Jvm.Cond.before_and, ih, List.all_cons]
def words1 : List Jvm.Cond := Jvm.Cond.code x code maxLocals ret :: tables_1
/-- a 'code' word, met by the world's own term for the bytes: nothing is compared byte by byte -/
theorem code_word {y : MethodName} {bytes : ByteArray} {mx : Nat} {rt : Option FieldType} {a : Array Value} {s : State} {m : MethodId} {meth : Method} {c : Code} (h1 : s.methodNamed? y = some m) (h2 : s.vm.method? m = some meth) (h3 : meth.code = some c) (h4 : c.code = bytes)
    (h5 : (c.maxLocals == mx && c.exceptionTable.isEmpty && decide (c.maxStack ≤ mostOperands) && decide (meth.sig.returnType = rt) && !meth.locks && decide (parseMethodDescriptor y.desc = some meth.sig)) = true) : (Jvm.Cond.code y bytes mx rt).before a s = true := by
  simp only [Bool.and_eq_true, beq_iff_eq, Bool.not_eq_true', decide_eq_true_eq] at h5
  obtain ⟨⟨⟨⟨⟨g1, g2⟩, g3⟩, g4⟩, g5⟩, g6⟩ := h5
  simp [Cond.before, Cond.holds, Cond.value, h1, h2, h3, h4, g1, g2, g3, g4, g5, g6]
def isCode : Jvm.Cond → Bool
  | .code _ _ _ _ => true
  | _ => false
theorem all_split {L : List Jvm.Cond} {P : Jvm.Cond → Bool} (h1 : L.all (fun c => isCode c || P c) = true) (h2 : ∀ c ∈ L.filter isCode, P c = true) : L.all P = true := by
  refine List.all_eq_true.mpr fun c hc => ?_
  have h := List.all_eq_true.mp h1 c hc
  rcases Bool.eq_false_or_eq_true (isCode c) with hi | hi
  · exact h2 c (List.mem_filter.mpr ⟨hc, hi⟩)
  · simpa [hi] using h
set_option maxRecDepth 65536 in
theorem w_c0 : (Jvm.Cond.code x code maxLocals ret).before args0 about1 = true := code_word (m := ⟨1, 1⟩) (meth := k1m1) (c := k1c1) (by decide +kernel) rfl rfl rfl (by decide +kernel)
set_option maxRecDepth 65536 in
theorem w_c1 : (Jvm.Cond.code ({ cls := "com/example/tumblebug/tumblebug/Durations", name := "requireMultiplier", desc := "(D)D" } : Jvm.MethodName) prog_11_method_4_code (2 : Nat) (Option.some Jvm.ClassFile.FieldType.double)).before args0 about1 = true := code_word (m := ⟨2, 1⟩) (meth := k2m1) (c := k2c1) (by decide +kernel) rfl rfl rfl (by decide +kernel)
def codes1 : List Jvm.Cond := [Jvm.Cond.code x code maxLocals ret, Jvm.Cond.code ({ cls := "com/example/tumblebug/tumblebug/Durations", name := "requireMultiplier", desc := "(D)D" } : Jvm.MethodName) prog_11_method_4_code (2 : Nat) (Option.some Jvm.ClassFile.FieldType.double)]
set_option maxRecDepth 65536 in
theorem codes_eq : words1.filter isCode = codes1 := rfl
theorem w_codes : ∀ c ∈ words1.filter isCode, c.before args0 about1 = true := by
  rw [codes_eq]
  intro c hc
  simp only [codes1, List.mem_cons, List.not_mem_nil, or_false] at hc
  rcases hc with rfl | rfl
  · exact w_c0
  · exact w_c1
set_option maxRecDepth 65536 in
theorem w_t1 : words1.all (fun c => isCode c || c.before args0 about1) = true := by decide +kernel
theorem w_tables : (allAtoms (Jvm.Cond.code x code maxLocals ret :: tables_1)).before args0 about1 = true := by
  rw [allAtoms_all]
  show words1.all (fun c => c.before args0 about1) = true
  refine all_split ?_ w_codes
  rw [w_t1]
set_option maxRecDepth 65536 in
theorem w_case : (Jvm.Cond.and given_1 narrow_1).before args0 about1 = true := by decide +kernel
theorem w_applies : (headSpec (Jvm.Cond.code x code maxLocals ret :: tables_1) room_1).applies x e0.platform about1 = true :=
  (Spec.applies_iff w_frames).mpr ⟨w_running, w_runnable, w_alone, w_named, w_hears, w_ripe, w_room, w_tables⟩
theorem atStart : AtStart classFile x code maxLocals ret World_1 tables_1 room_1 Calls_1 rest_1 Pre_1 launch0 p0 e0 about1 theMethod args0 below0 :=
  ⟨lists_1, trivial, launch0.admits_env _ _ _, launch0.least_env, fairChoices_fair.cas, fairChoices_fair.clock, w_frames, w_args, w_heap, w_applies, trivial, trivial, w_case⟩
end start1
theorem witness_1 : WitnessClaimed_1 := ⟨start1.p0, start1.e0, start1.about1, start1.theMethod, start1.args0, start1.below0, start1.atStart⟩
end Jvm.Pilot.@@N@@
