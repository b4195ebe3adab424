import JvmDerived
import JvmDerived.Pilot.@@N@@Statement
import JvmDerived.Pilot.@@N@@Code
set_option linter.unusedVariables false
set_option linter.unusedSimpArgs false
namespace Jvm.OwnFP
open Jvm.FP.Core
/-! own layer over the library's laws of doubles: values in units of the least double (zval), dyadic values, rounding bounds -/
abbrev zv (a : UInt64) : Int := zval b64 (val64 a)
theorem U_pos : (0 : Int) < (one64 : Int) := by have := one64_pos; omega
theorem signed_bd (s : Bool) (m : Nat) : -(m : Int) ≤ signed s m ∧ signed s m ≤ (m : Int) := by unfold signed; split <;> omega
theorem zv_bd (a : UInt64) : -(zmag b64 (val64 a) : Int) ≤ zv a ∧ zv a ≤ (zmag b64 (val64 a) : Int) := signed_bd _ _
theorem fin_between {a V W : UInt64} (hV : DFin V) (hW : DFin W) (hn : val64 a ≠ .nan) (h1 : zv W ≤ zv a) (h2 : zv a ≤ zv V) : DFin a := by
  cases hd : val64 a with
  | nan => exact absurd hd hn
  | fin s c q => exact ⟨s, c, q, hd⟩
  | inf s =>
    exfalso
    have a1 := hV.zval_lt; have a2 := hW.zval_lt
    have b1 := zv_bd V; have b2 := zv_bd W
    have e : zv a = signed s (b64.tails * 2 ^ (b64.exps - 2)) := by show zval b64 (val64 a) = _; rw [hd]; rfl
    generalize b64.tails * 2 ^ (b64.exps - 2) = TOP at a1 a2 e
    cases s
    · have : zv a = (TOP : Int) := e
      omega
    · have : zv a = -(TOP : Int) := e
      omega
theorem qmax_b64 : b64.qmax = 971 := by decide
theorem rep_exists (n : Int) (k : Nat) (hk : k ≤ 1074) (hn : n.natAbs < 2 ^ 53) : ∃ V, DFin V ∧ zv V * 2 ^ k = n * (one64 : Int) := by
  obtain ⟨c', q', h1, h2⟩ := round_exact (f := b64) good_b64 (decide (n < 0)) (c := n.natAbs) (q := -(k : Int)) hn (by rw [qmin_b64]; omega) (by rw [qmax_b64]; omega)
  have hf := round_fits good_b64 (.fin (decide (n < 0)) n.natAbs (-(k : Int)))
  have hv := val64_of64 hf
  rw [h1] at hv
  refine ⟨of64 (round b64 (.fin (decide (n < 0)) n.natAbs (-(k : Int)))), ⟨_, _, _, by rw [h1]; exact hv⟩, ?_⟩
  show zval b64 (val64 (of64 (round b64 (.fin (decide (n < 0)) n.natAbs (-(k : Int)))))) * 2 ^ k = _
  rw [h1, hv]
  show signed (decide (n < 0)) (inUnits c' q' b64.qmin) * 2 ^ k = _
  rw [h2]
  have e1 : inUnits n.natAbs (-(k : Int)) b64.qmin * 2 ^ k = n.natAbs * one64 := by
    unfold inUnits one64
    rw [qmin_b64, Nat.mul_assoc, ← Nat.pow_add]
    congr 2 <;> omega
  have e2 : signed (decide (n < 0)) (inUnits n.natAbs (-(k : Int)) b64.qmin) * ((2 ^ k : Nat) : Int) = signed (decide (n < 0)) n.natAbs * (one64 : Int) := by
    rw [← signed_mul, e1, signed_mul]
  have e3 : signed (decide (n < 0)) n.natAbs = n := by
    unfold signed
    by_cases h : n < 0
    · simp [h]; omega
    · simp [h]; omega
  rw [e3] at e2
  rw [← e2, Int.natCast_pow]; rfl
theorem rep_up (n : Int) (j : Nat) (hj : j ≤ 971) (hn : n.natAbs < 2 ^ 53) : ∃ V, DFin V ∧ zv V = n * 2 ^ j * (one64 : Int) := by
  obtain ⟨c', q', h1, h2⟩ := round_exact (f := b64) good_b64 (decide (n < 0)) (c := n.natAbs) (q := (j : Int)) hn (by rw [qmin_b64]; omega) (by rw [qmax_b64]; omega)
  have hf := round_fits good_b64 (.fin (decide (n < 0)) n.natAbs (j : Int))
  have hv := val64_of64 hf
  rw [h1] at hv
  refine ⟨of64 (round b64 (.fin (decide (n < 0)) n.natAbs (j : Int))), ⟨_, _, _, by rw [h1]; exact hv⟩, ?_⟩
  show zval b64 (val64 (of64 (round b64 (.fin (decide (n < 0)) n.natAbs (j : Int))))) = _
  rw [h1, hv]
  show signed (decide (n < 0)) (inUnits c' q' b64.qmin) = _
  rw [h2]
  have e1 : inUnits n.natAbs (j : Int) b64.qmin = n.natAbs * (2 ^ j * one64) := by
    unfold inUnits one64
    rw [qmin_b64, ← Nat.pow_add]
    congr 2 <;> omega
  have e3 : signed (decide (n < 0)) n.natAbs = n := by
    unfold signed
    by_cases h : n < 0
    · simp [h]; omega
    · simp [h]; omega
  rw [e1, signed_mul, e3, Int.natCast_mul, Int.natCast_pow, Int.mul_assoc]; rfl
/-- the double is finite and worth n / 2^k -/
def Dy (n : Int) (k : Nat) (a : UInt64) : Prop := DFin a ∧ zv a * 2 ^ k = n * (one64 : Int)
theorem two_pos (k : Nat) : (0 : Int) < 2 ^ k := Int.pow_pos (by decide)
theorem Dy.fin {n : Int} {k : Nat} {a : UInt64} (h : Dy n k a) : DFin a := h.1
theorem Dy.nn {n : Int} {k : Nat} {a : UInt64} (h : Dy n k a) : val64 a ≠ .nan := h.1.ne_nan
theorem dint_fin {i : Int} {a : UInt64} (h : DInt i a) : DFin a := by
  unfold DInt at h
  cases hd : val64 a with
  | nan => rw [hd] at h; exact h.elim
  | inf s => rw [hd] at h; exact h.elim
  | fin s c q => exact ⟨s, c, q, hd⟩
theorem Dy.of_int {i : Int} {a : UInt64} (h : DInt i a) : Dy i 0 a := ⟨dint_fin h, by rw [show zv a = i * (one64 : Int) from DInt_zval h]; simp⟩
theorem dy_i2d (a : Int32) : Dy a.toInt 0 (i2d a) := Dy.of_int (i2d_int a)
theorem dy_l2d {a : Int64} (h : a.toInt.natAbs ≤ 2 ^ 53) : Dy a.toInt 0 (l2d a) := Dy.of_int (l2d_int h)
theorem dy_zero : Dy 0 0 0 := ⟨⟨_, _, _, val64_zero⟩, by rw [show zv 0 = 0 from zval64_zero]; simp⟩
theorem dy_one : Dy 1 0 4607182418800017408 := Dy.of_int dint_one
theorem Dy.up {n : Int} {k : Nat} {a : UInt64} (h : Dy n k a) (j : Nat) : Dy (n * 2 ^ j) (k + j) a := ⟨h.1, by rw [Int.pow_add, ← Int.mul_assoc, h.2]; (generalize one64 = U; ac_rfl)⟩
theorem cancel {x y : Int} {k : Nat} (h : x * 2 ^ k = y * 2 ^ k) : x = y := Int.eq_of_mul_eq_mul_right (Int.ne_of_gt (two_pos k)) h
theorem Dy.eq {n : Int} {k : Nat} {a b : UInt64} (ha : Dy n k a) (hb : Dy n k b) : zv a = zv b := cancel (ha.2.trans hb.2.symm)
theorem val_dneg (a : UInt64) (h : val64 a ≠ .nan) : val64 (Jvm.FP.dneg a) = negate (val64 a) := by
  refine val64_neg_bits ?_
  have hx : (Jvm.FP.dneg a).toNat = a.toNat ^^^ 2 ^ 63 := by
    show (a ^^^ 0x8000000000000000).toNat = _
    rw [UInt64.toNat_xor]; rfl
  have hlt := a.toNat_lt
  by_cases hb : a.toNat < 2 ^ 63
  · right
    rw [hx, Nat.xor_comm]
    have := Nat.two_pow_add_eq_or_of_lt hb 1
    have e2 : (2 ^ 63 ^^^ a.toNat) = 2 ^ 63 + a.toNat := by
      rw [Nat.mul_one] at this
      rw [this]
      apply Nat.eq_of_testBit_eq; intro i
      simp only [Nat.testBit_xor, Nat.testBit_or, Nat.testBit_two_pow]
      by_cases q : 63 = i
      · subst q; simp [Nat.testBit_lt_two_pow hb]
      · simp [q]
    omega
  · left
    have hb' : a.toNat - 2 ^ 63 < 2 ^ 63 := by omega
    have := Nat.two_pow_add_eq_or_of_lt hb' 1
    rw [Nat.mul_one] at this
    have e0 : a.toNat = 2 ^ 63 ||| (a.toNat - 2 ^ 63) := by omega
    have e2 : a.toNat ^^^ 2 ^ 63 = a.toNat - 2 ^ 63 := by
      apply Nat.eq_of_testBit_eq; intro i
      rw [Nat.testBit_xor, Nat.testBit_two_pow]
      have t := congrArg (fun z => z.testBit i) e0
      simp only [Nat.testBit_or, Nat.testBit_two_pow] at t
      rw [t]
      by_cases q : 63 = i
      · subst q; simp [Nat.testBit_lt_two_pow hb']
      · simp [q]
    omega
theorem dneg_fin {a : UInt64} (h : DFin a) : DFin (Jvm.FP.dneg a) := by
  obtain ⟨s, c, q, e⟩ := h
  exact ⟨!s, c, q, by rw [val_dneg a (by rw [e]; exact nofun), e]; rfl⟩
theorem dneg_zv {a : UInt64} (h : val64 a ≠ .nan) : zv (Jvm.FP.dneg a) = -zv a := by
  show zval b64 (val64 (Jvm.FP.dneg a)) = _
  rw [val_dneg a h, zval_negate]
theorem dy_neg {n : Int} {k : Nat} {a : UInt64} (h : Dy n k a) : Dy (-n) k (Jvm.FP.dneg a) := ⟨dneg_fin h.1, by rw [dneg_zv h.nn, Int.neg_mul, h.2, Int.neg_mul]⟩
theorem cneg_fin {a : UInt64} (h : DFin a) : DFin (dneg a) := by
  obtain ⟨s, c, q, e⟩ := h
  exact ⟨!s, c, q, by rw [val64_dneg, e]; rfl⟩
theorem cneg_zv (a : UInt64) : zv (dneg a) = -zv a := by
  show zval b64 (val64 (dneg a)) = _
  rw [val64_dneg, zval_negate]
-- sums
theorem add_nn {a b : UInt64} (ha : DFin a) (hb : DFin b) : val64 (dadd a b) ≠ .nan := (notNaN_iff _).mp (dadd_out ha.notNaN hb)
theorem add_le {a b V : UInt64} (ha : DFin a) (hb : DFin b) (hV : val64 V ≠ .nan) (h : zv a + zv b ≤ zv V) : zv (dadd a b) ≤ zv V := by
  show zval b64 (val64 (dadd a b)) ≤ _
  rw [val64_dadd]
  exact sum_le good_b64 ha hb (val64_fits a) (val64_fits b) (val64_fits V) hV h
theorem add_ge {a b V : UInt64} (ha : DFin a) (hb : DFin b) (hV : val64 V ≠ .nan) (h : zv V ≤ zv a + zv b) : zv V ≤ zv (dadd a b) := by
  show _ ≤ zval b64 (val64 (dadd a b))
  rw [val64_dadd]
  exact sum_ge good_b64 ha hb (val64_fits a) (val64_fits b) (val64_fits V) hV h
theorem add_exact {a b V : UInt64} (ha : DFin a) (hb : DFin b) (hV : DFin V) (h : zv a + zv b = zv V) : DFin (dadd a b) ∧ zv (dadd a b) = zv V := by
  have h1 := add_le ha hb hV.ne_nan (Int.le_of_eq h)
  have h2 := add_ge ha hb hV.ne_nan (Int.le_of_eq h.symm)
  exact ⟨fin_between hV hV (add_nn ha hb) h2 h1, Int.le_antisymm h1 h2⟩
theorem dy_add {n m : Int} {k : Nat} {a b : UInt64} (ha : Dy n k a) (hb : Dy m k b) (hk : k ≤ 1074) (h : (n + m).natAbs < 2 ^ 53) : Dy (n + m) k (dadd a b) := by
  obtain ⟨V, hV, e⟩ := rep_exists (n + m) k hk h
  have q : zv a + zv b = zv V := cancel (k := k) (by rw [Int.add_mul, ha.2, hb.2, e, Int.add_mul])
  obtain ⟨h1, h2⟩ := add_exact ha.1 hb.1 hV q
  exact ⟨h1, by rw [h2]; exact e⟩
theorem dy_sub {n m : Int} {k : Nat} {a b : UInt64} (ha : Dy n k a) (hb : Dy m k b) (hk : k ≤ 1074) (h : (n - m).natAbs < 2 ^ 53) : Dy (n - m) k (dsub a b) := by
  rw [dsub_eq]
  have hb' : Dy (-m) k (dneg b) := ⟨cneg_fin hb.1, by rw [cneg_zv, Int.neg_mul, hb.2, Int.neg_mul]⟩
  have := dy_add ha hb' hk (by rw [← Int.sub_eq_add_neg]; exact h)
  rw [← Int.sub_eq_add_neg] at this; exact this
-- products
theorem mul_nn {a b : UInt64} (ha : DFin a) (hb : DFin b) : val64 (dmul a b) ≠ .nan := (notNaN_iff _).mp (dmul_out ha hb)
theorem mul_units {a b : UInt64} (ha : DFin a) (hb : DFin b) : ∃ s c q, exactProduct (val64 a) (val64 b) = .fin s c q ∧ 2 * b64.qmin ≤ q ∧ signed s (inUnits c q (2 * b64.qmin)) = zv a * zv b := by
  obtain ⟨s, c, q, ea⟩ := ha
  obtain ⟨t, d, r, eb⟩ := hb
  have fa := val64_fits a; have fb := val64_fits b
  rw [ea] at fa; rw [eb] at fb
  obtain ⟨h1, h2, h3⟩ := product_units fa fb
  refine ⟨_, _, _, by rw [ea, eb]; exact h1, h2, ?_⟩
  rw [h3, signed_xor]
  show _ = zval b64 (val64 a) * zval b64 (val64 b)
  rw [ea, eb]; rfl
theorem two_qmin : (b64.qmin - 2 * b64.qmin).toNat = (-b64.qmin).toNat := by congr 1 <;> omega
theorem mul_le {a b V : UInt64} (ha : DFin a) (hb : DFin b) (hV : val64 V ≠ .nan) (h : zv a * zv b ≤ zv V * (one64 : Int)) : zv (dmul a b) ≤ zv V := by
  obtain ⟨s, c, q, e1, e2, e3⟩ := mul_units ha hb
  show zval b64 (val64 (dmul a b)) ≤ zval b64 (val64 V)
  rw [val64_dmul, e1]
  refine zval_round_le good_b64 (val64_fits V) hV (e0 := 2 * b64.qmin) (by rw [qmin_b64]; decide) e2 ?_
  rw [e3, two_qmin, pow_qmin64]; exact h
theorem mul_ge {a b V : UInt64} (ha : DFin a) (hb : DFin b) (hV : val64 V ≠ .nan) (h : zv V * (one64 : Int) ≤ zv a * zv b) : zv V ≤ zv (dmul a b) := by
  obtain ⟨s, c, q, e1, e2, e3⟩ := mul_units ha hb
  show zval b64 (val64 V) ≤ zval b64 (val64 (dmul a b))
  rw [val64_dmul, e1]
  refine zval_round_ge good_b64 (val64_fits V) hV (e0 := 2 * b64.qmin) (by rw [qmin_b64]; decide) e2 ?_
  rw [e3, two_qmin, pow_qmin64]; exact h
theorem mul_exact {a b V : UInt64} (ha : DFin a) (hb : DFin b) (hV : DFin V) (h : zv a * zv b = zv V * (one64 : Int)) : DFin (dmul a b) ∧ zv (dmul a b) = zv V := by
  have h1 := mul_le ha hb hV.ne_nan (Int.le_of_eq h)
  have h2 := mul_ge ha hb hV.ne_nan (Int.le_of_eq h.symm)
  exact ⟨fin_between hV hV (mul_nn ha hb) h2 h1, Int.le_antisymm h1 h2⟩
theorem dy_mul {n m : Int} {k j : Nat} {a b : UInt64} (ha : Dy n k a) (hb : Dy m j b) (hk : k + j ≤ 1074) (h : (n * m).natAbs < 2 ^ 53) : Dy (n * m) (k + j) (dmul a b) := by
  obtain ⟨V, hV, e⟩ := rep_exists (n * m) (k + j) hk h
  have q : zv a * zv b = zv V * (one64 : Int) := cancel (k := k + j) (by
    have : zv a * zv b * 2 ^ (k + j) = (zv a * 2 ^ k) * (zv b * 2 ^ j) := by rw [Int.pow_add]; (generalize one64 = U; ac_rfl)
    rw [this, ha.2, hb.2, show zv V * (one64 : Int) * 2 ^ (k + j) = zv V * 2 ^ (k + j) * (one64 : Int) by (generalize one64 = U; ac_rfl), e]; (generalize one64 = U; ac_rfl))
  obtain ⟨h1, h2⟩ := mul_exact ha.1 hb.1 hV q
  exact ⟨h1, by rw [h2]; exact e⟩
-- quotients
theorem nz_of {b : UInt64} (hb : DFin b) (h : zv b ≠ 0) : ¬ DZero b := fun q => h q.zval
theorem div_nn {a b : UInt64} (ha : DFin a) (hb : DFin b) (h : zv b ≠ 0) : val64 (ddiv a b) ≠ .nan := (notNaN_iff _).mp (ddiv_out ha.notNaN hb (nz_of hb h))
theorem div_pows {q r e0 : Int} (hq : b64.qmin ≤ q) (hr : b64.qmin ≤ r) (h0 : e0 ≤ b64.qmin) (h1 : e0 ≤ q - r) :
    2 ^ (q - r - e0).toNat * 2 ^ (r - b64.qmin).toNat = 2 ^ (q - b64.qmin).toNat * one64 * 2 ^ (b64.qmin - e0).toNat := by
  unfold one64
  rw [← Nat.pow_add, ← Nat.pow_add, ← Nat.pow_add]
  rw [qmin_b64] at *
  congr 1 <;> omega
theorem div_val {a b : UInt64} {s t : Bool} {c d : Nat} {q r : Int} (ea : val64 a = .fin s c q) (eb : val64 b = .fin t d r) (hd : d ≠ 0) : val64 (ddiv a b) = roundRatio b64 (s != t) c d (q - r) := by
  rw [val64_ddiv, ea, eb]
  simp [quotient, hd]
theorem div_mag_le {a b V : UInt64} (ha : DFin a) (hb : DFin b) (hz : zmag b64 (val64 b) ≠ 0) (hV : val64 V ≠ .nan) (h : zmag b64 (val64 a) * one64 ≤ zmag b64 (val64 V) * zmag b64 (val64 b)) : zmag b64 (val64 (ddiv a b)) ≤ zmag b64 (val64 V) := by
  obtain ⟨s, c, q, ea⟩ := ha
  obtain ⟨t, d, r, eb⟩ := hb
  have fa := val64_fits a; have fb := val64_fits b
  rw [ea] at fa; rw [eb] at fb
  have za : zmag b64 (val64 a) = c * 2 ^ (q - b64.qmin).toNat := by rw [ea]; rfl
  have zb : zmag b64 (val64 b) = d * 2 ^ (r - b64.qmin).toNat := by rw [eb]; rfl
  have hd : d ≠ 0 := fun q => hz (by rw [zb, q, Nat.zero_mul])
  rw [div_val ea eb hd]
  have hp := div_pows (e0 := min b64.qmin (q - r)) fa.2.1 fb.2.1 (by omega) (by omega)
  refine zmag_roundRatio_le good_b64 (Nat.pos_of_ne_zero hd) (val64_fits V) hV (e0 := min b64.qmin (q - r)) (by omega) (by omega) ?_
  rw [za, zb] at h
  generalize zmag b64 (val64 V) = v at h ⊢
  unfold inUnits
  refine Nat.le_of_mul_le_mul_right (c := 2 ^ (r - b64.qmin).toNat) ?_ (Nat.two_pow_pos _)
  rw [Nat.mul_assoc, hp]
  have := Nat.mul_le_mul_right (2 ^ (b64.qmin - min b64.qmin (q - r)).toNat) h
  calc c * (2 ^ (q - b64.qmin).toNat * one64 * 2 ^ (b64.qmin - min b64.qmin (q - r)).toNat) = c * 2 ^ (q - b64.qmin).toNat * one64 * 2 ^ (b64.qmin - min b64.qmin (q - r)).toNat := by (generalize one64 = U; ac_rfl)
    _ ≤ _ := this
    _ = v * 2 ^ (b64.qmin - min b64.qmin (q - r)).toNat * d * 2 ^ (r - b64.qmin).toNat := by (generalize one64 = U; ac_rfl)
theorem div_mag_ge {a b V : UInt64} (ha : DFin a) (hb : DFin b) (hz : zmag b64 (val64 b) ≠ 0) (hV : val64 V ≠ .nan) (h : zmag b64 (val64 V) * zmag b64 (val64 b) ≤ zmag b64 (val64 a) * one64) : zmag b64 (val64 V) ≤ zmag b64 (val64 (ddiv a b)) := by
  obtain ⟨s, c, q, ea⟩ := ha
  obtain ⟨t, d, r, eb⟩ := hb
  have fa := val64_fits a; have fb := val64_fits b
  rw [ea] at fa; rw [eb] at fb
  have za : zmag b64 (val64 a) = c * 2 ^ (q - b64.qmin).toNat := by rw [ea]; rfl
  have zb : zmag b64 (val64 b) = d * 2 ^ (r - b64.qmin).toNat := by rw [eb]; rfl
  have hd : d ≠ 0 := fun q => hz (by rw [zb, q, Nat.zero_mul])
  rw [div_val ea eb hd]
  have hp := div_pows (e0 := min b64.qmin (q - r)) fa.2.1 fb.2.1 (by omega) (by omega)
  refine zmag_roundRatio_ge good_b64 (Nat.pos_of_ne_zero hd) (val64_fits V) (e0 := min b64.qmin (q - r)) (by omega) (by omega) ?_
  rw [za, zb] at h
  generalize zmag b64 (val64 V) = v at h ⊢
  unfold inUnits
  refine Nat.le_of_mul_le_mul_right (c := 2 ^ (r - b64.qmin).toNat) ?_ (Nat.two_pow_pos _)
  rw [Nat.mul_assoc c, hp]
  have := Nat.mul_le_mul_right (2 ^ (b64.qmin - min b64.qmin (q - r)).toNat) h
  calc v * 2 ^ (b64.qmin - min b64.qmin (q - r)).toNat * d * 2 ^ (r - b64.qmin).toNat = v * (d * 2 ^ (r - b64.qmin).toNat) * 2 ^ (b64.qmin - min b64.qmin (q - r)).toNat := by (generalize one64 = U; ac_rfl)
    _ ≤ _ := this
    _ = c * (2 ^ (q - b64.qmin).toNat * one64 * 2 ^ (b64.qmin - min b64.qmin (q - r)).toNat) := by (generalize one64 = U; ac_rfl)
theorem div_sgn {a b : UInt64} (ha : DFin a) (hb : DFin b) (hz : zmag b64 (val64 b) ≠ 0) : sgn (val64 (ddiv a b)) = (sgn (val64 a) != sgn (val64 b)) := by
  obtain ⟨s, c, q, ea⟩ := ha
  obtain ⟨t, d, r, eb⟩ := hb
  have zb : zmag b64 (val64 b) = d * 2 ^ (r - b64.qmin).toNat := by rw [eb]; rfl
  have hd : d ≠ 0 := fun q => hz (by rw [zb, q, Nat.zero_mul])
  rw [div_val ea eb hd, sgn_roundRatio, ea, eb]; rfl
theorem zv_cases (a : UInt64) : (sgn (val64 a) = false ∧ zv a = (zmag b64 (val64 a) : Int)) ∨ (sgn (val64 a) = true ∧ zv a = -(zmag b64 (val64 a) : Int)) := by
  show (_ ∧ signed _ _ = _) ∨ (_ ∧ signed _ _ = _)
  cases sgn (val64 a) <;> simp [signed]
theorem nat_mul_le {a b c d : Nat} (h : (a : Int) * (b : Int) ≤ (c : Int) * (d : Int)) : a * b ≤ c * d := by
  rw [← Int.natCast_mul, ← Int.natCast_mul] at h; exact Int.ofNat_le.mp h
theorem div_le {a b V : UInt64} (ha : DFin a) (hb : DFin b) (hp : 0 < zv b) (hV : val64 V ≠ .nan) (h : zv a * (one64 : Int) ≤ zv V * zv b) : zv (ddiv a b) ≤ zv V := by
  have ub := zv_bd b
  have hz : zmag b64 (val64 b) ≠ 0 := by omega
  have eb : sgn (val64 b) = false ∧ zv b = (zmag b64 (val64 b) : Int) := by rcases zv_cases b with q | q; exact q; omega
  have es := div_sgn ha hb hz
  rw [eb.1] at es
  have hU := U_pos
  rcases zv_cases a with ⟨sa, ea⟩ | ⟨sa, ea⟩ <;> rw [sa] at es
  · have er : zv (ddiv a b) = (zmag b64 (val64 (ddiv a b)) : Int) := by rcases zv_cases (ddiv a b) with q | q; exact q.2; rw [q.1] at es; cases es
    rcases zv_cases V with ⟨sv, ev⟩ | ⟨sv, ev⟩
    · have := div_mag_le ha hb hz hV (nat_mul_le (by rw [← ea, ← ev, ← eb.2]; exact h))
      omega
    · have h0 : 0 ≤ zv a * (one64 : Int) := Int.mul_nonneg (by omega) (by omega)
      have h1 : 0 ≤ zv V * zv b := Int.le_trans h0 h
      have h2 : zv V = 0 := by
        by_cases q : zv V < 0
        · have := Int.mul_neg_of_neg_of_pos q hp; omega
        · omega
      have h3 : zmag b64 (val64 V) = 0 := by omega
      rw [h2, Int.zero_mul] at h
      have h5 : zmag b64 (val64 a) * one64 ≤ zmag b64 (val64 V) * zmag b64 (val64 b) := nat_mul_le (by rw [← ea, h3]; simpa using h)
      have := div_mag_le ha hb hz hV h5
      omega
  · have er : zv (ddiv a b) = -(zmag b64 (val64 (ddiv a b)) : Int) := by rcases zv_cases (ddiv a b) with q | q; rw [q.1] at es; cases es; exact q.2
    rcases zv_cases V with ⟨sv, ev⟩ | ⟨sv, ev⟩
    · omega
    · have := div_mag_ge ha hb hz hV (nat_mul_le (by
        have : zv V * zv b = -((zmag b64 (val64 V) : Int) * (zmag b64 (val64 b) : Int)) := by rw [ev, eb.2, Int.neg_mul]
        have h6 : zv a * (one64 : Int) = -((zmag b64 (val64 a) : Int) * (one64 : Int)) := by rw [ea, Int.neg_mul]
        omega))
      omega
theorem div_ge {a b V : UInt64} (ha : DFin a) (hb : DFin b) (hp : 0 < zv b) (hV : val64 V ≠ .nan) (h : zv V * zv b ≤ zv a * (one64 : Int)) : zv V ≤ zv (ddiv a b) := by
  have ub := zv_bd b
  have hz : zmag b64 (val64 b) ≠ 0 := by omega
  have eb : sgn (val64 b) = false ∧ zv b = (zmag b64 (val64 b) : Int) := by rcases zv_cases b with q | q; exact q; omega
  have es := div_sgn ha hb hz
  rw [eb.1] at es
  have hU := U_pos
  rcases zv_cases a with ⟨sa, ea⟩ | ⟨sa, ea⟩ <;> rw [sa] at es
  · have er : zv (ddiv a b) = (zmag b64 (val64 (ddiv a b)) : Int) := by rcases zv_cases (ddiv a b) with q | q; exact q.2; rw [q.1] at es; cases es
    rcases zv_cases V with ⟨sv, ev⟩ | ⟨sv, ev⟩
    · have := div_mag_ge ha hb hz hV (nat_mul_le (by rw [← ea, ← ev, ← eb.2]; exact h))
      omega
    · omega
  · have er : zv (ddiv a b) = -(zmag b64 (val64 (ddiv a b)) : Int) := by rcases zv_cases (ddiv a b) with q | q; rw [q.1] at es; cases es; exact q.2
    rcases zv_cases V with ⟨sv, ev⟩ | ⟨sv, ev⟩
    · have h0 : zv a * (one64 : Int) ≤ 0 := Int.mul_nonpos_of_nonpos_of_nonneg (by omega) (by omega)
      have h1 : zv V * zv b ≤ 0 := Int.le_trans h h0
      have h2 : zv V = 0 := by
        by_cases q : 0 < zv V
        · have := Int.mul_pos q hp; omega
        · omega
      have h3 : zmag b64 (val64 V) = 0 := by omega
      rw [h2, Int.zero_mul] at h
      have h4 : (zmag b64 (val64 a) : Int) * (one64 : Int) = -(zv a * (one64 : Int)) := by rw [ea, Int.neg_mul, Int.neg_neg]
      have h5 : zmag b64 (val64 a) * one64 ≤ zmag b64 (val64 V) * zmag b64 (val64 b) := nat_mul_le (by rw [h4, h3]; simp; omega)
      have := div_mag_le ha hb hz hV h5
      omega
    · have := div_mag_le ha hb hz hV (nat_mul_le (by
        have : zv V * zv b = -((zmag b64 (val64 V) : Int) * (zmag b64 (val64 b) : Int)) := by rw [ev, eb.2, Int.neg_mul]
        have h6 : zv a * (one64 : Int) = -((zmag b64 (val64 a) : Int) * (one64 : Int)) := by rw [ea, Int.neg_mul]
        omega))
      omega
theorem Dy.pos {m : Int} {j : Nat} {b : UInt64} (hb : Dy m j b) (hm : 0 < m) : 0 < zv b := by
  have h1 : 0 < zv b * 2 ^ j := by rw [hb.2]; exact Int.mul_pos hm U_pos
  exact Int.pos_of_mul_pos_left h1 (two_pos j)
theorem div_le_dy {n m q : Int} {k j i : Nat} {a b : UInt64} (ha : Dy n k a) (hb : Dy m j b) (hm : 0 < m) (hi : i ≤ 1074) (hq : q.natAbs < 2 ^ 53) (h : n * 2 ^ j * 2 ^ i ≤ q * m * 2 ^ k) : zv (ddiv a b) * 2 ^ i ≤ q * (one64 : Int) := by
  obtain ⟨V, hV, e⟩ := rep_exists q i hi hq
  rw [← e]
  refine Int.mul_le_mul_of_nonneg_right (div_le ha.1 hb.1 (hb.pos hm) hV.ne_nan ?_) (Int.le_of_lt (two_pos i))
  have hU := U_pos
  refine Int.le_of_mul_le_mul_right (a := 2 ^ k * 2 ^ j * 2 ^ i) ?_ (Int.mul_pos (Int.mul_pos (two_pos k) (two_pos j)) (two_pos i))
  have e1 : zv a * (one64 : Int) * (2 ^ k * 2 ^ j * 2 ^ i) = n * 2 ^ j * 2 ^ i * ((one64 : Int) * (one64 : Int)) := by
    rw [show zv a * (one64 : Int) * (2 ^ k * 2 ^ j * 2 ^ i) = zv a * 2 ^ k * ((one64 : Int) * 2 ^ j * 2 ^ i) by (generalize one64 = U; ac_rfl), ha.2]; (generalize one64 = U; ac_rfl)
  have e2 : zv V * zv b * (2 ^ k * 2 ^ j * 2 ^ i) = q * m * 2 ^ k * ((one64 : Int) * (one64 : Int)) := by
    rw [show zv V * zv b * (2 ^ k * 2 ^ j * 2 ^ i) = (zv V * 2 ^ i) * (zv b * 2 ^ j) * 2 ^ k by (generalize one64 = U; ac_rfl), e, hb.2]; (generalize one64 = U; ac_rfl)
  rw [e1, e2]
  exact Int.mul_le_mul_of_nonneg_right h (Int.le_of_lt (Int.mul_pos hU hU))
theorem div_ge_dy {n m q : Int} {k j i : Nat} {a b : UInt64} (ha : Dy n k a) (hb : Dy m j b) (hm : 0 < m) (hi : i ≤ 1074) (hq : q.natAbs < 2 ^ 53) (h : q * m * 2 ^ k ≤ n * 2 ^ j * 2 ^ i) : q * (one64 : Int) ≤ zv (ddiv a b) * 2 ^ i := by
  obtain ⟨V, hV, e⟩ := rep_exists q i hi hq
  rw [← e]
  refine Int.mul_le_mul_of_nonneg_right (div_ge ha.1 hb.1 (hb.pos hm) hV.ne_nan ?_) (Int.le_of_lt (two_pos i))
  have hU := U_pos
  refine Int.le_of_mul_le_mul_right (a := 2 ^ k * 2 ^ j * 2 ^ i) ?_ (Int.mul_pos (Int.mul_pos (two_pos k) (two_pos j)) (two_pos i))
  have e1 : zv a * (one64 : Int) * (2 ^ k * 2 ^ j * 2 ^ i) = n * 2 ^ j * 2 ^ i * ((one64 : Int) * (one64 : Int)) := by
    rw [show zv a * (one64 : Int) * (2 ^ k * 2 ^ j * 2 ^ i) = zv a * 2 ^ k * ((one64 : Int) * 2 ^ j * 2 ^ i) by (generalize one64 = U; ac_rfl), ha.2]; (generalize one64 = U; ac_rfl)
  have e2 : zv V * zv b * (2 ^ k * 2 ^ j * 2 ^ i) = q * m * 2 ^ k * ((one64 : Int) * (one64 : Int)) := by
    rw [show zv V * zv b * (2 ^ k * 2 ^ j * 2 ^ i) = (zv V * 2 ^ i) * (zv b * 2 ^ j) * 2 ^ k by (generalize one64 = U; ac_rfl), e, hb.2]; (generalize one64 = U; ac_rfl)
  rw [e1, e2]
  exact Int.mul_le_mul_of_nonneg_right h (Int.le_of_lt (Int.mul_pos hU hU))
theorem dy_div {n m q : Int} {k j i : Nat} {a b : UInt64} (ha : Dy n k a) (hb : Dy m j b) (hm : 0 < m) (hi : i ≤ 1074) (hq : q.natAbs < 2 ^ 53) (h : n * 2 ^ j * 2 ^ i = q * m * 2 ^ k) : Dy q i (ddiv a b) := by
  have h1 := div_le_dy ha hb hm hi hq (Int.le_of_eq h)
  have h2 := div_ge_dy ha hb hm hi hq (Int.le_of_eq h.symm)
  have h3 := Int.le_antisymm h1 h2
  obtain ⟨V, hV, e⟩ := rep_exists q i hi hq
  have h4 : zv (ddiv a b) = zv V := cancel (h3.trans e.symm)
  exact ⟨fin_between hV hV (div_nn ha.1 hb.1 (Int.ne_of_gt (hb.pos hm))) (Int.le_of_eq h4.symm) (Int.le_of_eq h4), h3⟩
-- comparisons
theorem cmp_dy {n m : Int} {k j : Nat} {a b : UInt64} (ha : Dy n k a) (hb : Dy m j b) : Jvm.FP.dcmp a b = some (compare (n * 2 ^ j) (m * 2 ^ k)) := by
  show dcmp a b = _
  rw [dcmp_zval ha.nn hb.nn]
  congr 1
  have hU := U_pos
  have e1 : zv a * (2 ^ k * 2 ^ j) = n * 2 ^ j * (one64 : Int) := by rw [← Int.mul_assoc, ha.2]; (generalize one64 = U; ac_rfl)
  have e2 : zv b * (2 ^ k * 2 ^ j) = m * 2 ^ k * (one64 : Int) := by rw [show zv b * (2 ^ k * 2 ^ j) = zv b * 2 ^ j * 2 ^ k by (generalize one64 = U; ac_rfl), hb.2]; (generalize one64 = U; ac_rfl)
  rw [← compare_mul_pos (zv a) (zv b) (2 ^ k * 2 ^ j) (Int.mul_pos (two_pos k) (two_pos j)), e1, e2, compare_mul_pos _ _ _ hU]
theorem cmp_dy0 {n m : Int} {k : Nat} {a b : UInt64} (ha : Dy n k a) (hb : Dy m k b) : Jvm.FP.dcmp a b = some (compare n m) := by
  rw [cmp_dy ha hb, compare_mul_pos _ _ _ (two_pos k)]
theorem cmp_lt {a b : UInt64} (ha : val64 a ≠ .nan) (hb : val64 b ≠ .nan) (h : zv a < zv b) : Jvm.FP.dcmp a b = some .lt := dcmp_lt.mpr ⟨ha, hb, h⟩
theorem cmp_eq {a b : UInt64} (ha : val64 a ≠ .nan) (hb : val64 b ≠ .nan) (h : zv a = zv b) : Jvm.FP.dcmp a b = some .eq := dcmp_eq.mpr ⟨ha, hb, h⟩
theorem cmp_gt {a b : UInt64} (ha : val64 a ≠ .nan) (hb : val64 b ≠ .nan) (h : zv b < zv a) : Jvm.FP.dcmp a b = some .gt := dcmp_gt.mpr ⟨ha, hb, h⟩
open Jvm.Op in
theorem cv_lt_g (r : Option Ordering) : cmpValue r .g < 0 ↔ r = some .lt := by rcases r with _ | (_ | _ | _) <;> decide
open Jvm.Op in
theorem cv_lt_l (r : Option Ordering) : cmpValue r .l < 0 ↔ r = some .lt ∨ r = none := by rcases r with _ | (_ | _ | _) <;> decide
open Jvm.Op in
theorem cv_gt_g (r : Option Ordering) : 0 < cmpValue r .g ↔ r = some .gt ∨ r = none := by rcases r with _ | (_ | _ | _) <;> decide
open Jvm.Op in
theorem cv_gt_l (r : Option Ordering) : 0 < cmpValue r .l ↔ r = some .gt := by rcases r with _ | (_ | _ | _) <;> decide
open Jvm.Op in
theorem cv_eq (r : Option Ordering) (o : Jvm.ClassFile.CmpOp) : cmpValue r o = 0 ↔ r = some .eq := by cases o <;> rcases r with _ | (_ | _ | _) <;> decide
theorem nn64 {a : UInt64} (h : DFin a) : Jvm.Free.Fl.NoNaN64 a := Jvm.Free.Fl.val64_no.mpr h.ne_nan
theorem nnv {a : UInt64} (h : val64 a ≠ .nan) : Jvm.Free.Fl.NoNaN64 a := Jvm.Free.Fl.val64_no.mpr h
theorem nn_v {a : UInt64} (h : Jvm.Free.Fl.NoNaN64 a) : val64 a ≠ .nan := Jvm.Free.Fl.val64_no.mp h
end Jvm.OwnFP
namespace Jvm.OwnKit
open Jvm Jvm.ClassFile Sem Op Lib Jvm.Free Jvm.Stand Jvm.LawKit Jvm.RoadKit
theorem eqF_int {Z : State} {args : Array Value} {t : Term} {C n d : String} {x : Addr} {k : Int32} (ev : t.eval args Z none [] Z = some (.ref x)) (h : (Jvm.Cond.eq (Term.field t C n d) (Term.int k)).value args Z none Z [] = some true) : Fld Z Z.heap x C n d (.int k) := by
  obtain ⟨u, w, h1, h2, -, h4⟩ := cmp_v (Or.inl h)
  have e2 : (Term.int k).eval args Z none [] Z = some (.int k) := Term.int_eval k
  cases e2.symm.trans h2
  obtain ⟨z, rfl⟩ := h4
  have hz : z = k := by simpa [Cond.value, h1, e2] using h
  subst hz
  exact Fld.start (by rw [← fld_at ev]; exact h1)
theorem eqF_dbl {Z : State} {args : Array Value} {t : Term} {C n d : String} {x : Addr} {k : Int64} {b : UInt64} (ev : t.eval args Z none [] Z = some (.ref x)) (h : (Jvm.Cond.eq (Term.field t C n d) (Term.op1 Jvm.Unary.bitsD (Term.long k))).value args Z none Z [] = some true) (hb : k.toUInt64 = b) : Fld Z Z.heap x C n d (.double b) := by
  obtain ⟨u, w, h1, h2, -, h4⟩ := cmp_v (Or.inl h)
  have e2 : (Term.op1 Jvm.Unary.bitsD (Term.long k)).eval args Z none [] Z = some (.double k.toUInt64) := by simp [Term.eval, Jvm.Unary.apply]
  cases e2.symm.trans h2
  obtain ⟨z, rfl⟩ := h4
  have hz : z = k.toUInt64 := by simpa [Cond.value, h1, e2] using h
  subst hz; subst hb
  exact Fld.start (by rw [← fld_at ev]; exact h1)
theorem eqS_int {Z : State} {args : Array Value} {C n d : String} {k : Int32} (h : (Jvm.Cond.eq (Term.static C n d) (Term.int k)).value args Z none Z [] = some true) : (Term.static C n d).eval args Z none [] Z = some (.int k) := by
  obtain ⟨u, w, h1, h2, -, h4⟩ := cmp_v (Or.inl h)
  have e2 : (Term.int k).eval args Z none [] Z = some (.int k) := Term.int_eval k
  cases e2.symm.trans h2
  obtain ⟨z, rfl⟩ := h4
  have hz : z = k := by simpa [Cond.value, h1, e2] using h
  subst hz
  exact h1
theorem staKeep {Z : State} {h h' : Heap} {C n d : String} {v : Value} {ws : List Addr} (F : Sta Z h C n d v) (K : Keep h h' ws) (q : ∀ x ∈ ws, ∃ c : Cell, h[x]? = some c ∧ c.vm.isStatics = false) : Sta Z h' C n d v := by
  obtain ⟨cf, i, k, f, st, cell, h1, h2, h3, h4, h5, h6, h7⟩ := F
  refine ⟨cf, i, k, f, st, cell, h1, h2, h3, h4, K.2.1 st cell h5 fun hm => ?_, h6, h7⟩
  obtain ⟨c, e1, e2⟩ := q st hm
  cases h5.symm.trans e1
  rw [e2] at h6; cases h6
theorem exaSt {Z : State} {h : Heap} {a : Addr} {C : String} (F : Exa Z h a C) : ∃ c : Cell, h[a]? = some c ∧ c.vm.isStatics = false := by
  obtain ⟨c, _, h1, -, -, h4, -⟩ := F; exact ⟨c, h1, h4⟩
theorem arvSt {Z : State} {h : Heap} {a : Addr} {k : ClassId} {ty : FieldType} {z : Int32} {vs : List Value} {dv : Value} (F : Arv Z h a k ty z vs dv) : ∃ c : Cell, h[a]? = some c ∧ c.vm.isStatics = false := by
  obtain ⟨c, A, -⟩ := F; exact ⟨c, A.1, A.plain⟩
theorem narB0 : nar .boolean 0 = 0 := by decide
theorem narB1 : nar .boolean 1 = 1 := by decide
end Jvm.OwnKit
namespace Jvm.Pilot.@@N@@
open Jvm Jvm.ClassFile Sem Op Lib Jvm.Free Jvm.Stand Jvm.LawKit Jvm.RoadKit Bundle Jvm.OwnFP Jvm.OwnKit Jvm.Pilot.@@N@@.Jvm.D
theorem own_lo (a : Int32) : -1048576 < (a % 1048576).toInt64.toInt ∧ (a % 1048576).toInt64.toInt < 1048576 := by
  rw [c_i2l]
  have h := c_irem a 1048576 1048576 (by decide)
  by_cases q : 0 ≤ a.toInt
  · rw [h.1 q]; omega
  · rw [h.2 (by omega)]; omega
theorem own_inc (y : Int64) (h1 : 0 ≤ y.toInt) (h2 : y.toInt < 1048576) : (y + 1).toInt = y.toInt + 1 := by
  have c := c_ladd y 1; have r := rng64 (y + 1); have e : (1 : Int64).toInt = 1 := by decide
  rw [e] at c; omega
theorem own_mask20 (x : Int32) : 1 ≤ ((x &&& 1048575).toInt64 + 1).toInt ∧ ((x &&& 1048575).toInt64 + 1).toInt ≤ 1048576 := by
  have h := c_mask x 1048575 20 (by decide) (by decide)
  have e : (x &&& 1048575).toInt64.toInt = x.toInt % 1048576 := by rw [c_i2l, h]; rfl
  rw [own_inc _ (by omega) (by omega)]; omega
theorem own_mask10 (x : Int32) : 1 ≤ ((x &&& 1023).toInt64 + 1).toInt ∧ ((x &&& 1023).toInt64 + 1).toInt ≤ 1024 := by
  have h := c_mask x 1023 10 (by decide) (by decide)
  have e : (x &&& 1023).toInt64.toInt = x.toInt % 1024 := by rw [c_i2l, h]; rfl
  rw [own_inc _ (by omega) (by omega)]; omega
theorem own_sc (x : Int32) : ∃ k : Nat, k ≤ 7 ∧ ((1 : Int32) <<< ((x &&& 7) &&& 31)).toInt = 2 ^ k := by
  have h := c_mask x 7 3 (by decide) (by decide)
  generalize x &&& 7 = z at h ⊢
  have hz : 0 ≤ z.toInt ∧ z.toInt < 8 := by rw [h]; have : ((2 ^ 3 : Nat) : Int) = 8 := by decide
                                            omega
  have : z = 0 ∨ z = 1 ∨ z = 2 ∨ z = 3 ∨ z = 4 ∨ z = 5 ∨ z = 6 ∨ z = 7 := by
    have e := fun y : Int32 => (Int32.toInt_inj (x := z) (y := y))
    have e0 := e 0; have e1 := e 1; have e2 := e 2; have e3 := e 3; have e4 := e 4; have e5 := e 5; have e6 := e 6; have e7 := e 7
    rw [show (0 : Int32).toInt = 0 by decide] at e0; rw [show (1 : Int32).toInt = 1 by decide] at e1; rw [show (2 : Int32).toInt = 2 by decide] at e2; rw [show (3 : Int32).toInt = 3 by decide] at e3
    rw [show (4 : Int32).toInt = 4 by decide] at e4; rw [show (5 : Int32).toInt = 5 by decide] at e5; rw [show (6 : Int32).toInt = 6 by decide] at e6; rw [show (7 : Int32).toInt = 7 by decide] at e7
    rw [← e0, ← e1, ← e2, ← e3, ← e4, ← e5, ← e6, ← e7]; omega
  rcases this with rfl | rfl | rfl | rfl | rfl | rfl | rfl | rfl
  · exact ⟨0, by decide, by decide⟩
  · exact ⟨1, by decide, by decide⟩
  · exact ⟨2, by decide, by decide⟩
  · exact ⟨3, by decide, by decide⟩
  · exact ⟨4, by decide, by decide⟩
  · exact ⟨5, by decide, by decide⟩
  · exact ⟨6, by decide, by decide⟩
  · exact ⟨7, by decide, by decide⟩
theorem own_sum {lo st ce : Int64} (h1 : -1048576 < lo.toInt ∧ lo.toInt < 1048576) (h2 : 1 ≤ st.toInt ∧ st.toInt ≤ 1048576) (h3 : 1 ≤ ce.toInt ∧ ce.toInt ≤ 1024) :
    (lo + st * ce).toInt = lo.toInt + st.toInt * ce.toInt ∧ 0 ≤ st.toInt * ce.toInt ∧ st.toInt * ce.toInt ≤ 1048576 * 1024 := by
  have m1 : 0 ≤ st.toInt * ce.toInt := Int.mul_nonneg (by omega) (by omega)
  have m2 : st.toInt * ce.toInt ≤ 1048576 * 1024 := Int.mul_le_mul h2.2 h3.2 (by omega) (by decide)
  have e : (st * ce).toInt = st.toInt * ce.toInt := Jvm.FP.Core.int64_mul (by omega) (by omega)
  refine ⟨?_, m1, m2⟩
  rw [Jvm.FP.Core.int64_add (by rw [e]; omega) (by rw [e]; omega), e]
theorem own_q {n : Int} {k : Nat} {a : UInt64} {sc : Int32} (ha : Dy n 0 a) (hk : k ≤ 7) (hs : sc.toInt = 2 ^ k) (hn : n.natAbs < 2 ^ 53) : Dy n k (FP.ddiv a (FP.i2d sc)) := by
  have hb := dy_i2d sc
  rw [hs] at hb
  exact dy_div ha hb (two_pos k) (by omega) hn (by simp)
theorem own_back {ce : Int64} (h : 1 ≤ ce.toInt ∧ ce.toInt ≤ 1024) : ce.toInt32.toInt = ce.toInt := by
  have c := c_l2i ce; have r := rng32 ce.toInt32; omega
theorem own_l {a : Int64} (h : -2000000000 < a.toInt ∧ a.toInt < 2000000000) : Dy a.toInt 0 (FP.l2d a) := dy_l2d (by omega)
theorem ef_rmRec (m : MethodId) (x0 : Addr) : entryFrame m #[(.ref x0)] 1 = mkF m 0 #[.val (.ref x0)] [] := by first | (simp [entryFrame, mkF, argsToLocals, Value.category]; done) | rfl
theorem d2_0 : decode jdk_30_method_1_code 0 = .ok (.aload_n 0, 1) := by decide +kernel
theorem d2_1 : decode jdk_30_method_1_code 1 = .ok (.invokespecial 1, 3) := by decide +kernel
theorem d2_4 : decode jdk_30_method_1_code 4 = .ok (.return_, 1) := by decide +kernel
theorem own_pn_java_lang_Record : plainName "java/lang/Record" = true := by first | (simp [plainName, overriddenIn]; done) | decide +kernel
def QRec (Z : State) (a0_ : Addr) (h0 : Heap) (n0 : Nat) (v : Option Value) (h : Heap) (L : List Loc) : Prop := v = none ∧ Fr n0 L ∧ h = h0
set_option maxRecDepth 65536 in
set_option maxHeartbeats 40000000 in
theorem rmRec (l : Launch) (Z : State) (a0 : Array Value) (hw : ∀ d ∈ tables_1, d.before a0 Z = true) (ws : List Jvm.Cond) (a0_ : Addr) (h0 : Heap) (n0 : Nat) (Z0 : n0 ≤ h0.size) :
    MetFree l (⟨"java/lang/Record", "<init>", "()V"⟩ : MethodName) (head1 (Jvm.Cond.code (⟨"java/lang/Record", "<init>", "()V"⟩ : MethodName) jdk_30_method_1_code 1 none :: ws) ({ frames := 1, cells := 0, slots := 0, locals := 12 } : Room)) (fun a U => a = #[(.ref a0_)] ∧ Z.Warmed39 U.vm ∧ U.heap = h0) (fun _ _ _ _ _ => True) (fun _ U o U' => ∃ v L, o = .returned v ∧ QRec Z a0_ h0 n0 v U'.heap L ∧ FrameEnd U o U' L ({ frames := 1, cells := 0, slots := 0, locals := 12 } : Room).cells ({ frames := 1, cells := 0, slots := 0, locals := 12 } : Room).slots) := by
  refine MetFree.of_bodySF (plainFor_of_name own_pn_java_lang_Record) hisR ?_
  intro p e s m args below meth c s₁ Bd hml0 hP hK
  obtain ⟨rfl, hZ, hh⟩ := hP
  have hx := Bd.exec
  have hby := Bd.bytes
  have hml : c.maxLocals = 1 := hml0
  have hown : s.vm.findClass "java/lang/Record" = some m.cls := findClass_of_methodNamed Bd.named
  have hnm := (name_of_methodNamed Bd.named Bd.method).1
  have X0 : Stand p l e ({ frames := 1, cells := 0, slots := 0, locals := 12 } : Room) s m #[(.ref a0_)] below meth c s₁ [] 0 0 := Stand.of_body Bd
  have e0 : s₁.heap = h0 := by rw [← hh, Bd.state]; rfl
  have N0 := Fr.nil n0
  have pre0 : ∀ t, Steps p.tables e below (s₁.setTop (mkF m 0 #[.val (.ref a0_)] [])) t → Steps p.tables e below (s₁.setTop (entryFrame m #[(.ref a0_)] 1)) t := fun t k => castTop (ef_rmRec m a0_) k
  have a1 : ∀ t, Steps p.tables e below (s₁.setTop (mkF m 1 #[.val (.ref a0_)] [(.ref a0_)])) t → Steps p.tables e below (s₁.setTop (entryFrame m #[(.ref a0_)] 1)) t := by
    intro t k
    refine pre0 t ?_
    show Steps p.tables e below (s₁.setTop (mkF m 0 #[.val (.ref a0_)] [])) _
    refine XS.aloadN X0.here hx rfl (hb hby d2_0) rfl rfl ?_
    exact k
  obtain ⟨T2, X2, e2, st2⟩ := initO X0 hx hZ hown (hw _ (List.mem_of_getElem? (i := 13) rfl)) (hw _ (List.mem_of_getElem? (i := 14) rfl)) (hw _ (List.mem_of_getElem? (i := 15) rfl)) e0 (g := (mkF m 1 #[.val (.ref a0_)] [(.ref a0_)])) rfl (by rw [hml]; rfl) rfl (hb hby d2_1) (by decide) (W := 0) (by show 2 * 0 + _ ≤ _; exact Nat.le_of_eq rfl) (by decide)
  have a3 : ∀ t, Steps p.tables e below (T2.setTop (mkF m 4 #[.val (.ref a0_)] [])) t → Steps p.tables e below (s₁.setTop (entryFrame m #[(.ref a0_)] 1)) t := fun t k => a1 t (st2 t k)
  obtain ⟨fs, hr, hrun, hended, hW, hsame⟩ := X2.leave (v := none) (fun _ => rfl)
  refine ⟨_, _, a3 _ ?_, hrun, hended, _, _, rfl, ?_, ⟨_, rfl⟩, hW, hsame.mono (by decide) (by decide)⟩
  · show Steps p.tables e below (T2.setTop (mkF m 4 #[.val (.ref a0_)] [])) _
    exact X2.returnOut hx Bd.returns (hb hby d2_4) hr
  · show QRec Z a0_ h0 n0 _ T2.heap _
    rw [e2]
    exact ⟨rfl, N0, rfl⟩
theorem ef_rm1 (m : MethodId) (x0 : Addr) (x1 : UInt64) (x2 : UInt64) (x3 : UInt64) (x4 : UInt64) (x5 : Int32) (x6 : Int32) : entryFrame m #[(.ref x0), (.double x1), (.double x2), (.double x3), (.double x4), (.int x5), (.int x6)] 11 = mkF m 0 #[.val (.ref x0), .val (.double x1), .second, .val (.double x2), .second, .val (.double x3), .second, .val (.double x4), .second, .val (.int x5), .val (.int x6)] [] := by first | (simp [entryFrame, mkF, argsToLocals, Value.category]; done) | rfl
theorem d1_0 : decode prog_14_method_1_code 0 = .ok (.aload_n 0, 1) := by decide +kernel
theorem d1_1 : decode prog_14_method_1_code 1 = .ok (.invokespecial 3, 3) := by decide +kernel
theorem own_pd0 : parseMethodDescriptor "()V" = some ⟨[], none⟩ := by decide +kernel
theorem d1_4 : decode prog_14_method_1_code 4 = .ok (.aload_n 0, 1) := by decide +kernel
theorem d1_5 : decode prog_14_method_1_code 5 = .ok (.dload_n 1, 1) := by decide +kernel
theorem d1_6 : decode prog_14_method_1_code 6 = .ok (.putfield 9, 3) := by decide +kernel
theorem d1_9 : decode prog_14_method_1_code 9 = .ok (.aload_n 0, 1) := by decide +kernel
theorem d1_10 : decode prog_14_method_1_code 10 = .ok (.dload_n 3, 1) := by decide +kernel
theorem d1_11 : decode prog_14_method_1_code 11 = .ok (.putfield 15, 3) := by decide +kernel
theorem d1_14 : decode prog_14_method_1_code 14 = .ok (.aload_n 0, 1) := by decide +kernel
theorem d1_15 : decode prog_14_method_1_code 15 = .ok (.dload 5, 2) := by decide +kernel
theorem d1_17 : decode prog_14_method_1_code 17 = .ok (.putfield 18, 3) := by decide +kernel
theorem d1_20 : decode prog_14_method_1_code 20 = .ok (.aload_n 0, 1) := by decide +kernel
theorem d1_21 : decode prog_14_method_1_code 21 = .ok (.dload 7, 2) := by decide +kernel
theorem d1_23 : decode prog_14_method_1_code 23 = .ok (.putfield 21, 3) := by decide +kernel
theorem d1_26 : decode prog_14_method_1_code 26 = .ok (.aload_n 0, 1) := by decide +kernel
theorem d1_27 : decode prog_14_method_1_code 27 = .ok (.iload 9, 2) := by decide +kernel
theorem d1_29 : decode prog_14_method_1_code 29 = .ok (.putfield 24, 3) := by decide +kernel
theorem d1_32 : decode prog_14_method_1_code 32 = .ok (.aload_n 0, 1) := by decide +kernel
theorem d1_33 : decode prog_14_method_1_code 33 = .ok (.iload 10, 2) := by decide +kernel
theorem d1_35 : decode prog_14_method_1_code 35 = .ok (.putfield 28, 3) := by decide +kernel
theorem d1_38 : decode prog_14_method_1_code 38 = .ok (.return_, 1) := by decide +kernel
theorem own_pn_com_example_momentkeep_momentkeep_Grid : plainName "com/example/momentkeep/momentkeep/Grid" = true := by first | (simp [plainName, overriddenIn]; done) | decide +kernel
def Qrm1 (Z : State) (a0_ : Addr) (d1 : UInt64) (d2 : UInt64) (d3 : UInt64) (d4 : UInt64) (p5 : Int32) (p6 : Int32) (h0 : Heap) (n0 : Nat) (v : Option Value) (h : Heap) (L : List Loc) : Prop := v = none ∧ Fr n0 L ∧ Keep h0 h [a0_] ∧ Fld Z h a0_ "com/example/momentkeep/momentkeep/Grid" "xMin" "D" (.double d1) ∧ Fld Z h a0_ "com/example/momentkeep/momentkeep/Grid" "xMax" "D" (.double d2) ∧ Fld Z h a0_ "com/example/momentkeep/momentkeep/Grid" "vMin" "D" (.double d3) ∧ Fld Z h a0_ "com/example/momentkeep/momentkeep/Grid" "vMax" "D" (.double d4) ∧ Fld Z h a0_ "com/example/momentkeep/momentkeep/Grid" "nx" "I" (.int p5) ∧ Fld Z h a0_ "com/example/momentkeep/momentkeep/Grid" "nv" "I" (.int p6)
set_option maxRecDepth 65536 in
set_option maxHeartbeats 40000000 in
theorem rm1 (l : Launch) (Z : State) (a0 : Array Value) (hw : ∀ d ∈ tables_1, d.before a0 Z = true) (ws : List Jvm.Cond) (a0_ : Addr) (d1 : UInt64) (d2 : UInt64) (d3 : UInt64) (d4 : UInt64) (p5 : Int32) (p6 : Int32) (h0 : Heap) (n0 : Nat) (Z0 : n0 ≤ h0.size) (E0 : Exa Z h0 a0_ "com/example/momentkeep/momentkeep/Grid") (g0 : n0 ≤ a0_) (F0_xMin : Fld Z h0 a0_ "com/example/momentkeep/momentkeep/Grid" "xMin" "D" (.double 0)) (F0_xMax : Fld Z h0 a0_ "com/example/momentkeep/momentkeep/Grid" "xMax" "D" (.double 0)) (F0_vMin : Fld Z h0 a0_ "com/example/momentkeep/momentkeep/Grid" "vMin" "D" (.double 0)) (F0_vMax : Fld Z h0 a0_ "com/example/momentkeep/momentkeep/Grid" "vMax" "D" (.double 0)) (F0_nx : Fld Z h0 a0_ "com/example/momentkeep/momentkeep/Grid" "nx" "I" (.int 0)) (F0_nv : Fld Z h0 a0_ "com/example/momentkeep/momentkeep/Grid" "nv" "I" (.int 0)) :
    MetFree l (⟨"com/example/momentkeep/momentkeep/Grid", "<init>", "(DDDDII)V"⟩ : MethodName) (head1 (Jvm.Cond.code (⟨"com/example/momentkeep/momentkeep/Grid", "<init>", "(DDDDII)V"⟩ : MethodName) prog_14_method_1_code 11 none :: ws) ({ frames := 2, cells := 0, slots := 0, locals := 24 } : Room)) (fun a U => a = #[(.ref a0_), (.double d1), (.double d2), (.double d3), (.double d4), (.int p5), (.int p6)] ∧ Z.Warmed39 U.vm ∧ U.heap = h0) (fun _ _ _ _ _ => True) (fun _ U o U' => ∃ v L, o = .returned v ∧ Qrm1 Z a0_ d1 d2 d3 d4 p5 p6 h0 n0 v U'.heap L ∧ FrameEnd U o U' L ({ frames := 2, cells := 0, slots := 0, locals := 24 } : Room).cells ({ frames := 2, cells := 0, slots := 0, locals := 24 } : Room).slots) := by
  refine MetFree.of_bodySF (plainFor_of_name own_pn_com_example_momentkeep_momentkeep_Grid) hisR ?_
  intro p e s m args below meth c s₁ Bd hml0 hP hK
  obtain ⟨rfl, hZ, hh⟩ := hP
  have hx := Bd.exec
  have hby := Bd.bytes
  have hml : c.maxLocals = 11 := hml0
  have hown : s.vm.findClass "com/example/momentkeep/momentkeep/Grid" = some m.cls := findClass_of_methodNamed Bd.named
  have hnm := (name_of_methodNamed Bd.named Bd.method).1
  have X0 : Stand p l e ({ frames := 2, cells := 0, slots := 0, locals := 24 } : Room) s m #[(.ref a0_), (.double d1), (.double d2), (.double d3), (.double d4), (.int p5), (.int p6)] below meth c s₁ [] 0 0 := Stand.of_body Bd
  have e0 : s₁.heap = h0 := by rw [← hh, Bd.state]; rfl
  have N0 := Fr.nil n0
  have pre0 : ∀ t, Steps p.tables e below (s₁.setTop (mkF m 0 #[.val (.ref a0_), .val (.double d1), .second, .val (.double d2), .second, .val (.double d3), .second, .val (.double d4), .second, .val (.int p5), .val (.int p6)] [])) t → Steps p.tables e below (s₁.setTop (entryFrame m #[(.ref a0_), (.double d1), (.double d2), (.double d3), (.double d4), (.int p5), (.int p6)] 11)) t := fun t k => castTop (ef_rm1 m a0_ d1 d2 d3 d4 p5 p6) k
  have a1 : ∀ t, Steps p.tables e below (s₁.setTop (mkF m 1 #[.val (.ref a0_), .val (.double d1), .second, .val (.double d2), .second, .val (.double d3), .second, .val (.double d4), .second, .val (.int p5), .val (.int p6)] [(.ref a0_)])) t → Steps p.tables e below (s₁.setTop (entryFrame m #[(.ref a0_), (.double d1), (.double d2), (.double d3), (.double d4), (.int p5), (.int p6)] 11)) t := by
    intro t k
    refine pre0 t ?_
    show Steps p.tables e below (s₁.setTop (mkF m 0 #[.val (.ref a0_), .val (.double d1), .second, .val (.double d2), .second, .val (.double d3), .second, .val (.double d4), .second, .val (.int p5), .val (.int p6)] [])) _
    refine XS.aloadN X0.here hx rfl (hb hby d1_0) rfl rfl ?_
    exact k
  obtain ⟨_, _, ⟨T2, L2, k2, n2⟩, -, X2, ⟨Lc2, hQ2, l2, y2, z2⟩, st2⟩ := X0.specialBack hx (y := (⟨"java/lang/Record", "<init>", "()V"⟩ : MethodName)) rfl hown (mvT hZ (hw _ (List.mem_of_getElem? (i := 8) rfl))) (mvT hZ (hw _ (List.mem_of_getElem? (i := 9) rfl))) (mvT hZ (hw _ (List.mem_of_getElem? (i := 12) rfl))) (by decide) (backOf (W := 0) (rmRec l Z a0 hw [] a0_ h0 n0 Z0 ) hZ (hw _ (List.mem_of_getElem? (i := 12) rfl)) (hw _ (List.mem_of_getElem? (i := 11) rfl)) (by decide) (by decide)) (g := (mkF m 1 #[.val (.ref a0_), .val (.double d1), .second, .val (.double d2), .second, .val (.double d3), .second, .val (.double d4), .second, .val (.int p5), .val (.int p6)] [(.ref a0_)])) rfl (by rw [hml]; rfl) (Steps.refl _) (a := a0_) (argsL := []) (rest := []) (lenOf own_pd0 rfl) rfl (by show 2 * 0 + _ ≤ _; exact Nat.le_of_eq rfl) (hb hby d1_1) (fun _ _ => ⟨rfl, e0, (by decide : 0 + 0 ≤ _), (by decide : 0 + 0 ≤ _)⟩)
  dsimp only [Pt.U, Pt.locs, Pt.cells, Pt.slots] at X2 l2 y2 z2 st2 hQ2
  subst l2 y2 z2
  obtain ⟨rfl, N2q, e2q⟩ := hQ2
  have N2 := Fr.app N0 N2q
  have a3 : ∀ t, Steps p.tables e below (T2.setTop (mkF m 4 #[.val (.ref a0_), .val (.double d1), .second, .val (.double d2), .second, .val (.double d3), .second, .val (.double d4), .second, .val (.int p5), .val (.int p6)] [])) t → Steps p.tables e below (s₁.setTop (entryFrame m #[(.ref a0_), (.double d1), (.double d2), (.double d3), (.double d4), (.int p5), (.int p6)] 11)) t := fun t k => a1 t (st2.trans k)
  have a4 : ∀ t, Steps p.tables e below (T2.setTop (mkF m 6 #[.val (.ref a0_), .val (.double d1), .second, .val (.double d2), .second, .val (.double d3), .second, .val (.double d4), .second, .val (.int p5), .val (.int p6)] [(.double d1), (.ref a0_)])) t → Steps p.tables e below (s₁.setTop (entryFrame m #[(.ref a0_), (.double d1), (.double d2), (.double d3), (.double d4), (.int p5), (.int p6)] 11)) t := by
    intro t k
    refine a3 t ?_
    show Steps p.tables e below (T2.setTop (mkF m 4 #[.val (.ref a0_), .val (.double d1), .second, .val (.double d2), .second, .val (.double d3), .second, .val (.double d4), .second, .val (.int p5), .val (.int p6)] [])) _
    refine XS.aloadN X2.here hx rfl (hb hby d1_4) rfl rfl ?_
    show Steps p.tables e below (T2.setTop (mkF m 5 #[.val (.ref a0_), .val (.double d1), .second, .val (.double d2), .second, .val (.double d3), .second, .val (.double d4), .second, .val (.int p5), .val (.int p6)] [(.ref a0_)])) _
    refine XS.dloadN X2.here hx rfl (hb hby d1_5) rfl ?_
    exact k
  obtain ⟨T5, h5, X5, e5, W5, st5⟩ := putF X2 hx hZ hown (host := "") (Or.inl (hw _ (List.mem_of_getElem? (i := 16) rfl))) Via.refl e2q F0_xMin E0 (Or.inr ⟨(hw _ (List.mem_of_getElem? (i := 17) rfl)), rfl, hnm⟩) (hw _ (List.mem_of_getElem? (i := 3) rfl)) (ty := .double) (by decide) rfl rfl (g := (mkF m 6 #[.val (.ref a0_), .val (.double d1), .second, .val (.double d2), .second, .val (.double d3), .second, .val (.double d4), .second, .val (.int p5), .val (.int p6)] [(.double d1), (.ref a0_)])) rfl rfl (hb hby d1_6)
  have Fw5 := Fld.same W5 F0_xMin
  have N5 := Fr.snoc X5 N2 g0
  have K5 : Keep h0 h5 [a0_] := Keep.wr (Keep.refl h0 [a0_]) W5 (Or.inl (List.mem_of_getElem? (i := 0) rfl))
  have a6 : ∀ t, Steps p.tables e below (T5.setTop (mkF m 9 #[.val (.ref a0_), .val (.double d1), .second, .val (.double d2), .second, .val (.double d3), .second, .val (.double d4), .second, .val (.int p5), .val (.int p6)] [])) t → Steps p.tables e below (s₁.setTop (entryFrame m #[(.ref a0_), (.double d1), (.double d2), (.double d3), (.double d4), (.int p5), (.int p6)] 11)) t := fun t k => a4 t (st5 t k)
  have a7 : ∀ t, Steps p.tables e below (T5.setTop (mkF m 11 #[.val (.ref a0_), .val (.double d1), .second, .val (.double d2), .second, .val (.double d3), .second, .val (.double d4), .second, .val (.int p5), .val (.int p6)] [(.double d2), (.ref a0_)])) t → Steps p.tables e below (s₁.setTop (entryFrame m #[(.ref a0_), (.double d1), (.double d2), (.double d3), (.double d4), (.int p5), (.int p6)] 11)) t := by
    intro t k
    refine a6 t ?_
    show Steps p.tables e below (T5.setTop (mkF m 9 #[.val (.ref a0_), .val (.double d1), .second, .val (.double d2), .second, .val (.double d3), .second, .val (.double d4), .second, .val (.int p5), .val (.int p6)] [])) _
    refine XS.aloadN X5.here hx rfl (hb hby d1_9) rfl rfl ?_
    show Steps p.tables e below (T5.setTop (mkF m 10 #[.val (.ref a0_), .val (.double d1), .second, .val (.double d2), .second, .val (.double d3), .second, .val (.double d4), .second, .val (.int p5), .val (.int p6)] [(.ref a0_)])) _
    refine XS.dloadN X5.here hx rfl (hb hby d1_10) rfl ?_
    exact k
  obtain ⟨T8, h8, X8, e8, W8, st8⟩ := putF X5 hx hZ hown (host := "") (Or.inl (hw _ (List.mem_of_getElem? (i := 18) rfl))) Via.refl e5 (Fld.other W5 F0_xMax (Or.inr (slot_ne (Or.inr (hw _ (List.mem_of_getElem? (i := 19) rfl))) (Or.inr (hw _ (List.mem_of_getElem? (i := 17) rfl))) (by decide) (t := .double) (t' := .double) (by decide) (by decide)))) (Exa.wr W5 E0) (Or.inr ⟨(hw _ (List.mem_of_getElem? (i := 19) rfl)), rfl, hnm⟩) (hw _ (List.mem_of_getElem? (i := 3) rfl)) (ty := .double) (by decide) rfl rfl (g := (mkF m 11 #[.val (.ref a0_), .val (.double d1), .second, .val (.double d2), .second, .val (.double d3), .second, .val (.double d4), .second, .val (.int p5), .val (.int p6)] [(.double d2), (.ref a0_)])) rfl rfl (hb hby d1_11)
  have Fw8 := Fld.same W8 (Fld.other W5 F0_xMax (Or.inr (slot_ne (Or.inr (hw _ (List.mem_of_getElem? (i := 19) rfl))) (Or.inr (hw _ (List.mem_of_getElem? (i := 17) rfl))) (by decide) (t := .double) (t' := .double) (by decide) (by decide))))
  have N8 := Fr.snoc X8 N5 g0
  have K8 : Keep h0 h8 [a0_] := Keep.wr K5 W8 (Or.inl (List.mem_of_getElem? (i := 0) rfl))
  have a9 : ∀ t, Steps p.tables e below (T8.setTop (mkF m 14 #[.val (.ref a0_), .val (.double d1), .second, .val (.double d2), .second, .val (.double d3), .second, .val (.double d4), .second, .val (.int p5), .val (.int p6)] [])) t → Steps p.tables e below (s₁.setTop (entryFrame m #[(.ref a0_), (.double d1), (.double d2), (.double d3), (.double d4), (.int p5), (.int p6)] 11)) t := fun t k => a7 t (st8 t k)
  have a10 : ∀ t, Steps p.tables e below (T8.setTop (mkF m 17 #[.val (.ref a0_), .val (.double d1), .second, .val (.double d2), .second, .val (.double d3), .second, .val (.double d4), .second, .val (.int p5), .val (.int p6)] [(.double d3), (.ref a0_)])) t → Steps p.tables e below (s₁.setTop (entryFrame m #[(.ref a0_), (.double d1), (.double d2), (.double d3), (.double d4), (.int p5), (.int p6)] 11)) t := by
    intro t k
    refine a9 t ?_
    show Steps p.tables e below (T8.setTop (mkF m 14 #[.val (.ref a0_), .val (.double d1), .second, .val (.double d2), .second, .val (.double d3), .second, .val (.double d4), .second, .val (.int p5), .val (.int p6)] [])) _
    refine XS.aloadN X8.here hx rfl (hb hby d1_14) rfl rfl ?_
    show Steps p.tables e below (T8.setTop (mkF m 15 #[.val (.ref a0_), .val (.double d1), .second, .val (.double d2), .second, .val (.double d3), .second, .val (.double d4), .second, .val (.int p5), .val (.int p6)] [(.ref a0_)])) _
    refine XS.dload X8.here hx rfl (hb hby d1_15) rfl ?_
    exact k
  obtain ⟨T11, h11, X11, e11, W11, st11⟩ := putF X8 hx hZ hown (host := "") (Or.inl (hw _ (List.mem_of_getElem? (i := 20) rfl))) Via.refl e8 (Fld.other W8 (Fld.other W5 F0_vMin (Or.inr (slot_ne (Or.inr (hw _ (List.mem_of_getElem? (i := 21) rfl))) (Or.inr (hw _ (List.mem_of_getElem? (i := 17) rfl))) (by decide) (t := .double) (t' := .double) (by decide) (by decide)))) (Or.inr (slot_ne (Or.inr (hw _ (List.mem_of_getElem? (i := 21) rfl))) (Or.inr (hw _ (List.mem_of_getElem? (i := 19) rfl))) (by decide) (t := .double) (t' := .double) (by decide) (by decide)))) (Exa.wr W8 (Exa.wr W5 E0)) (Or.inr ⟨(hw _ (List.mem_of_getElem? (i := 21) rfl)), rfl, hnm⟩) (hw _ (List.mem_of_getElem? (i := 3) rfl)) (ty := .double) (by decide) rfl rfl (g := (mkF m 17 #[.val (.ref a0_), .val (.double d1), .second, .val (.double d2), .second, .val (.double d3), .second, .val (.double d4), .second, .val (.int p5), .val (.int p6)] [(.double d3), (.ref a0_)])) rfl rfl (hb hby d1_17)
  have Fw11 := Fld.same W11 (Fld.other W8 (Fld.other W5 F0_vMin (Or.inr (slot_ne (Or.inr (hw _ (List.mem_of_getElem? (i := 21) rfl))) (Or.inr (hw _ (List.mem_of_getElem? (i := 17) rfl))) (by decide) (t := .double) (t' := .double) (by decide) (by decide)))) (Or.inr (slot_ne (Or.inr (hw _ (List.mem_of_getElem? (i := 21) rfl))) (Or.inr (hw _ (List.mem_of_getElem? (i := 19) rfl))) (by decide) (t := .double) (t' := .double) (by decide) (by decide))))
  have N11 := Fr.snoc X11 N8 g0
  have K11 : Keep h0 h11 [a0_] := Keep.wr K8 W11 (Or.inl (List.mem_of_getElem? (i := 0) rfl))
  have a12 : ∀ t, Steps p.tables e below (T11.setTop (mkF m 20 #[.val (.ref a0_), .val (.double d1), .second, .val (.double d2), .second, .val (.double d3), .second, .val (.double d4), .second, .val (.int p5), .val (.int p6)] [])) t → Steps p.tables e below (s₁.setTop (entryFrame m #[(.ref a0_), (.double d1), (.double d2), (.double d3), (.double d4), (.int p5), (.int p6)] 11)) t := fun t k => a10 t (st11 t k)
  have a13 : ∀ t, Steps p.tables e below (T11.setTop (mkF m 23 #[.val (.ref a0_), .val (.double d1), .second, .val (.double d2), .second, .val (.double d3), .second, .val (.double d4), .second, .val (.int p5), .val (.int p6)] [(.double d4), (.ref a0_)])) t → Steps p.tables e below (s₁.setTop (entryFrame m #[(.ref a0_), (.double d1), (.double d2), (.double d3), (.double d4), (.int p5), (.int p6)] 11)) t := by
    intro t k
    refine a12 t ?_
    show Steps p.tables e below (T11.setTop (mkF m 20 #[.val (.ref a0_), .val (.double d1), .second, .val (.double d2), .second, .val (.double d3), .second, .val (.double d4), .second, .val (.int p5), .val (.int p6)] [])) _
    refine XS.aloadN X11.here hx rfl (hb hby d1_20) rfl rfl ?_
    show Steps p.tables e below (T11.setTop (mkF m 21 #[.val (.ref a0_), .val (.double d1), .second, .val (.double d2), .second, .val (.double d3), .second, .val (.double d4), .second, .val (.int p5), .val (.int p6)] [(.ref a0_)])) _
    refine XS.dload X11.here hx rfl (hb hby d1_21) rfl ?_
    exact k
  obtain ⟨T14, h14, X14, e14, W14, st14⟩ := putF X11 hx hZ hown (host := "") (Or.inl (hw _ (List.mem_of_getElem? (i := 22) rfl))) Via.refl e11 (Fld.other W11 (Fld.other W8 (Fld.other W5 F0_vMax (Or.inr (slot_ne (Or.inr (hw _ (List.mem_of_getElem? (i := 23) rfl))) (Or.inr (hw _ (List.mem_of_getElem? (i := 17) rfl))) (by decide) (t := .double) (t' := .double) (by decide) (by decide)))) (Or.inr (slot_ne (Or.inr (hw _ (List.mem_of_getElem? (i := 23) rfl))) (Or.inr (hw _ (List.mem_of_getElem? (i := 19) rfl))) (by decide) (t := .double) (t' := .double) (by decide) (by decide)))) (Or.inr (slot_ne (Or.inr (hw _ (List.mem_of_getElem? (i := 23) rfl))) (Or.inr (hw _ (List.mem_of_getElem? (i := 21) rfl))) (by decide) (t := .double) (t' := .double) (by decide) (by decide)))) (Exa.wr W11 (Exa.wr W8 (Exa.wr W5 E0))) (Or.inr ⟨(hw _ (List.mem_of_getElem? (i := 23) rfl)), rfl, hnm⟩) (hw _ (List.mem_of_getElem? (i := 3) rfl)) (ty := .double) (by decide) rfl rfl (g := (mkF m 23 #[.val (.ref a0_), .val (.double d1), .second, .val (.double d2), .second, .val (.double d3), .second, .val (.double d4), .second, .val (.int p5), .val (.int p6)] [(.double d4), (.ref a0_)])) rfl rfl (hb hby d1_23)
  have Fw14 := Fld.same W14 (Fld.other W11 (Fld.other W8 (Fld.other W5 F0_vMax (Or.inr (slot_ne (Or.inr (hw _ (List.mem_of_getElem? (i := 23) rfl))) (Or.inr (hw _ (List.mem_of_getElem? (i := 17) rfl))) (by decide) (t := .double) (t' := .double) (by decide) (by decide)))) (Or.inr (slot_ne (Or.inr (hw _ (List.mem_of_getElem? (i := 23) rfl))) (Or.inr (hw _ (List.mem_of_getElem? (i := 19) rfl))) (by decide) (t := .double) (t' := .double) (by decide) (by decide)))) (Or.inr (slot_ne (Or.inr (hw _ (List.mem_of_getElem? (i := 23) rfl))) (Or.inr (hw _ (List.mem_of_getElem? (i := 21) rfl))) (by decide) (t := .double) (t' := .double) (by decide) (by decide))))
  have N14 := Fr.snoc X14 N11 g0
  have K14 : Keep h0 h14 [a0_] := Keep.wr K11 W14 (Or.inl (List.mem_of_getElem? (i := 0) rfl))
  have a15 : ∀ t, Steps p.tables e below (T14.setTop (mkF m 26 #[.val (.ref a0_), .val (.double d1), .second, .val (.double d2), .second, .val (.double d3), .second, .val (.double d4), .second, .val (.int p5), .val (.int p6)] [])) t → Steps p.tables e below (s₁.setTop (entryFrame m #[(.ref a0_), (.double d1), (.double d2), (.double d3), (.double d4), (.int p5), (.int p6)] 11)) t := fun t k => a13 t (st14 t k)
  have a16 : ∀ t, Steps p.tables e below (T14.setTop (mkF m 29 #[.val (.ref a0_), .val (.double d1), .second, .val (.double d2), .second, .val (.double d3), .second, .val (.double d4), .second, .val (.int p5), .val (.int p6)] [(.int p5), (.ref a0_)])) t → Steps p.tables e below (s₁.setTop (entryFrame m #[(.ref a0_), (.double d1), (.double d2), (.double d3), (.double d4), (.int p5), (.int p6)] 11)) t := by
    intro t k
    refine a15 t ?_
    show Steps p.tables e below (T14.setTop (mkF m 26 #[.val (.ref a0_), .val (.double d1), .second, .val (.double d2), .second, .val (.double d3), .second, .val (.double d4), .second, .val (.int p5), .val (.int p6)] [])) _
    refine XS.aloadN X14.here hx rfl (hb hby d1_26) rfl rfl ?_
    show Steps p.tables e below (T14.setTop (mkF m 27 #[.val (.ref a0_), .val (.double d1), .second, .val (.double d2), .second, .val (.double d3), .second, .val (.double d4), .second, .val (.int p5), .val (.int p6)] [(.ref a0_)])) _
    refine XS.iload X14.here hx rfl (hb hby d1_27) rfl ?_
    exact k
  obtain ⟨T17, h17, X17, e17, W17, st17⟩ := putF X14 hx hZ hown (host := "") (Or.inl (hw _ (List.mem_of_getElem? (i := 24) rfl))) Via.refl e14 (Fld.other W14 (Fld.other W11 (Fld.other W8 (Fld.other W5 F0_nx (Or.inr (slot_ne (Or.inr (hw _ (List.mem_of_getElem? (i := 25) rfl))) (Or.inr (hw _ (List.mem_of_getElem? (i := 17) rfl))) (by decide) (t := .int) (t' := .double) (by decide) (by decide)))) (Or.inr (slot_ne (Or.inr (hw _ (List.mem_of_getElem? (i := 25) rfl))) (Or.inr (hw _ (List.mem_of_getElem? (i := 19) rfl))) (by decide) (t := .int) (t' := .double) (by decide) (by decide)))) (Or.inr (slot_ne (Or.inr (hw _ (List.mem_of_getElem? (i := 25) rfl))) (Or.inr (hw _ (List.mem_of_getElem? (i := 21) rfl))) (by decide) (t := .int) (t' := .double) (by decide) (by decide)))) (Or.inr (slot_ne (Or.inr (hw _ (List.mem_of_getElem? (i := 25) rfl))) (Or.inr (hw _ (List.mem_of_getElem? (i := 23) rfl))) (by decide) (t := .int) (t' := .double) (by decide) (by decide)))) (Exa.wr W14 (Exa.wr W11 (Exa.wr W8 (Exa.wr W5 E0)))) (Or.inr ⟨(hw _ (List.mem_of_getElem? (i := 25) rfl)), rfl, hnm⟩) (hw _ (List.mem_of_getElem? (i := 3) rfl)) (ty := .int) (by decide) rfl rfl (g := (mkF m 29 #[.val (.ref a0_), .val (.double d1), .second, .val (.double d2), .second, .val (.double d3), .second, .val (.double d4), .second, .val (.int p5), .val (.int p6)] [(.int p5), (.ref a0_)])) rfl rfl (hb hby d1_29)
  have Fw17 := Fld.same W17 (Fld.other W14 (Fld.other W11 (Fld.other W8 (Fld.other W5 F0_nx (Or.inr (slot_ne (Or.inr (hw _ (List.mem_of_getElem? (i := 25) rfl))) (Or.inr (hw _ (List.mem_of_getElem? (i := 17) rfl))) (by decide) (t := .int) (t' := .double) (by decide) (by decide)))) (Or.inr (slot_ne (Or.inr (hw _ (List.mem_of_getElem? (i := 25) rfl))) (Or.inr (hw _ (List.mem_of_getElem? (i := 19) rfl))) (by decide) (t := .int) (t' := .double) (by decide) (by decide)))) (Or.inr (slot_ne (Or.inr (hw _ (List.mem_of_getElem? (i := 25) rfl))) (Or.inr (hw _ (List.mem_of_getElem? (i := 21) rfl))) (by decide) (t := .int) (t' := .double) (by decide) (by decide)))) (Or.inr (slot_ne (Or.inr (hw _ (List.mem_of_getElem? (i := 25) rfl))) (Or.inr (hw _ (List.mem_of_getElem? (i := 23) rfl))) (by decide) (t := .int) (t' := .double) (by decide) (by decide))))
  have N17 := Fr.snoc X17 N14 g0
  have K17 : Keep h0 h17 [a0_] := Keep.wr K14 W17 (Or.inl (List.mem_of_getElem? (i := 0) rfl))
  have a18 : ∀ t, Steps p.tables e below (T17.setTop (mkF m 32 #[.val (.ref a0_), .val (.double d1), .second, .val (.double d2), .second, .val (.double d3), .second, .val (.double d4), .second, .val (.int p5), .val (.int p6)] [])) t → Steps p.tables e below (s₁.setTop (entryFrame m #[(.ref a0_), (.double d1), (.double d2), (.double d3), (.double d4), (.int p5), (.int p6)] 11)) t := fun t k => a16 t (st17 t k)
  have a19 : ∀ t, Steps p.tables e below (T17.setTop (mkF m 35 #[.val (.ref a0_), .val (.double d1), .second, .val (.double d2), .second, .val (.double d3), .second, .val (.double d4), .second, .val (.int p5), .val (.int p6)] [(.int p6), (.ref a0_)])) t → Steps p.tables e below (s₁.setTop (entryFrame m #[(.ref a0_), (.double d1), (.double d2), (.double d3), (.double d4), (.int p5), (.int p6)] 11)) t := by
    intro t k
    refine a18 t ?_
    show Steps p.tables e below (T17.setTop (mkF m 32 #[.val (.ref a0_), .val (.double d1), .second, .val (.double d2), .second, .val (.double d3), .second, .val (.double d4), .second, .val (.int p5), .val (.int p6)] [])) _
    refine XS.aloadN X17.here hx rfl (hb hby d1_32) rfl rfl ?_
    show Steps p.tables e below (T17.setTop (mkF m 33 #[.val (.ref a0_), .val (.double d1), .second, .val (.double d2), .second, .val (.double d3), .second, .val (.double d4), .second, .val (.int p5), .val (.int p6)] [(.ref a0_)])) _
    refine XS.iload X17.here hx rfl (hb hby d1_33) rfl ?_
    exact k
  obtain ⟨T20, h20, X20, e20, W20, st20⟩ := putF X17 hx hZ hown (host := "") (Or.inl (hw _ (List.mem_of_getElem? (i := 26) rfl))) Via.refl e17 (Fld.other W17 (Fld.other W14 (Fld.other W11 (Fld.other W8 (Fld.other W5 F0_nv (Or.inr (slot_ne (Or.inr (hw _ (List.mem_of_getElem? (i := 27) rfl))) (Or.inr (hw _ (List.mem_of_getElem? (i := 17) rfl))) (by decide) (t := .int) (t' := .double) (by decide) (by decide)))) (Or.inr (slot_ne (Or.inr (hw _ (List.mem_of_getElem? (i := 27) rfl))) (Or.inr (hw _ (List.mem_of_getElem? (i := 19) rfl))) (by decide) (t := .int) (t' := .double) (by decide) (by decide)))) (Or.inr (slot_ne (Or.inr (hw _ (List.mem_of_getElem? (i := 27) rfl))) (Or.inr (hw _ (List.mem_of_getElem? (i := 21) rfl))) (by decide) (t := .int) (t' := .double) (by decide) (by decide)))) (Or.inr (slot_ne (Or.inr (hw _ (List.mem_of_getElem? (i := 27) rfl))) (Or.inr (hw _ (List.mem_of_getElem? (i := 23) rfl))) (by decide) (t := .int) (t' := .double) (by decide) (by decide)))) (Or.inr (slot_ne (Or.inr (hw _ (List.mem_of_getElem? (i := 27) rfl))) (Or.inr (hw _ (List.mem_of_getElem? (i := 25) rfl))) (by decide) (t := .int) (t' := .int) (by decide) (by decide)))) (Exa.wr W17 (Exa.wr W14 (Exa.wr W11 (Exa.wr W8 (Exa.wr W5 E0))))) (Or.inr ⟨(hw _ (List.mem_of_getElem? (i := 27) rfl)), rfl, hnm⟩) (hw _ (List.mem_of_getElem? (i := 3) rfl)) (ty := .int) (by decide) rfl rfl (g := (mkF m 35 #[.val (.ref a0_), .val (.double d1), .second, .val (.double d2), .second, .val (.double d3), .second, .val (.double d4), .second, .val (.int p5), .val (.int p6)] [(.int p6), (.ref a0_)])) rfl rfl (hb hby d1_35)
  have Fw20 := Fld.same W20 (Fld.other W17 (Fld.other W14 (Fld.other W11 (Fld.other W8 (Fld.other W5 F0_nv (Or.inr (slot_ne (Or.inr (hw _ (List.mem_of_getElem? (i := 27) rfl))) (Or.inr (hw _ (List.mem_of_getElem? (i := 17) rfl))) (by decide) (t := .int) (t' := .double) (by decide) (by decide)))) (Or.inr (slot_ne (Or.inr (hw _ (List.mem_of_getElem? (i := 27) rfl))) (Or.inr (hw _ (List.mem_of_getElem? (i := 19) rfl))) (by decide) (t := .int) (t' := .double) (by decide) (by decide)))) (Or.inr (slot_ne (Or.inr (hw _ (List.mem_of_getElem? (i := 27) rfl))) (Or.inr (hw _ (List.mem_of_getElem? (i := 21) rfl))) (by decide) (t := .int) (t' := .double) (by decide) (by decide)))) (Or.inr (slot_ne (Or.inr (hw _ (List.mem_of_getElem? (i := 27) rfl))) (Or.inr (hw _ (List.mem_of_getElem? (i := 23) rfl))) (by decide) (t := .int) (t' := .double) (by decide) (by decide)))) (Or.inr (slot_ne (Or.inr (hw _ (List.mem_of_getElem? (i := 27) rfl))) (Or.inr (hw _ (List.mem_of_getElem? (i := 25) rfl))) (by decide) (t := .int) (t' := .int) (by decide) (by decide))))
  have N20 := Fr.snoc X20 N17 g0
  have K20 : Keep h0 h20 [a0_] := Keep.wr K17 W20 (Or.inl (List.mem_of_getElem? (i := 0) rfl))
  have a21 : ∀ t, Steps p.tables e below (T20.setTop (mkF m 38 #[.val (.ref a0_), .val (.double d1), .second, .val (.double d2), .second, .val (.double d3), .second, .val (.double d4), .second, .val (.int p5), .val (.int p6)] [])) t → Steps p.tables e below (s₁.setTop (entryFrame m #[(.ref a0_), (.double d1), (.double d2), (.double d3), (.double d4), (.int p5), (.int p6)] 11)) t := fun t k => a19 t (st20 t k)
  obtain ⟨fs, hr, hrun, hended, hW, hsame⟩ := X20.leave (v := none) (fun _ => rfl)
  refine ⟨_, _, a21 _ ?_, hrun, hended, _, _, rfl, ?_, ⟨_, rfl⟩, hW, hsame.mono (by decide) (by decide)⟩
  · show Steps p.tables e below (T20.setTop (mkF m 38 #[.val (.ref a0_), .val (.double d1), .second, .val (.double d2), .second, .val (.double d3), .second, .val (.double d4), .second, .val (.int p5), .val (.int p6)] [])) _
    exact X20.returnOut hx Bd.returns (hb hby d1_38) hr
  · show Qrm1 Z a0_ d1 d2 d3 d4 p5 p6 h0 n0 _ T20.heap _
    rw [e20]
    exact ⟨rfl, N20, K20, (Fld.other W20 (Fld.other W17 (Fld.other W14 (Fld.other W11 (Fld.other W8 Fw5 (Or.inr (slot_ne (Or.inr (hw _ (List.mem_of_getElem? (i := 17) rfl))) (Or.inr (hw _ (List.mem_of_getElem? (i := 19) rfl))) (by decide) (t := .double) (t' := .double) (by decide) (by decide)))) (Or.inr (slot_ne (Or.inr (hw _ (List.mem_of_getElem? (i := 17) rfl))) (Or.inr (hw _ (List.mem_of_getElem? (i := 21) rfl))) (by decide) (t := .double) (t' := .double) (by decide) (by decide)))) (Or.inr (slot_ne (Or.inr (hw _ (List.mem_of_getElem? (i := 17) rfl))) (Or.inr (hw _ (List.mem_of_getElem? (i := 23) rfl))) (by decide) (t := .double) (t' := .double) (by decide) (by decide)))) (Or.inr (slot_ne (Or.inr (hw _ (List.mem_of_getElem? (i := 17) rfl))) (Or.inr (hw _ (List.mem_of_getElem? (i := 25) rfl))) (by decide) (t := .double) (t' := .int) (by decide) (by decide)))) (Or.inr (slot_ne (Or.inr (hw _ (List.mem_of_getElem? (i := 17) rfl))) (Or.inr (hw _ (List.mem_of_getElem? (i := 27) rfl))) (by decide) (t := .double) (t' := .int) (by decide) (by decide)))), (Fld.other W20 (Fld.other W17 (Fld.other W14 (Fld.other W11 Fw8 (Or.inr (slot_ne (Or.inr (hw _ (List.mem_of_getElem? (i := 19) rfl))) (Or.inr (hw _ (List.mem_of_getElem? (i := 21) rfl))) (by decide) (t := .double) (t' := .double) (by decide) (by decide)))) (Or.inr (slot_ne (Or.inr (hw _ (List.mem_of_getElem? (i := 19) rfl))) (Or.inr (hw _ (List.mem_of_getElem? (i := 23) rfl))) (by decide) (t := .double) (t' := .double) (by decide) (by decide)))) (Or.inr (slot_ne (Or.inr (hw _ (List.mem_of_getElem? (i := 19) rfl))) (Or.inr (hw _ (List.mem_of_getElem? (i := 25) rfl))) (by decide) (t := .double) (t' := .int) (by decide) (by decide)))) (Or.inr (slot_ne (Or.inr (hw _ (List.mem_of_getElem? (i := 19) rfl))) (Or.inr (hw _ (List.mem_of_getElem? (i := 27) rfl))) (by decide) (t := .double) (t' := .int) (by decide) (by decide)))), (Fld.other W20 (Fld.other W17 (Fld.other W14 Fw11 (Or.inr (slot_ne (Or.inr (hw _ (List.mem_of_getElem? (i := 21) rfl))) (Or.inr (hw _ (List.mem_of_getElem? (i := 23) rfl))) (by decide) (t := .double) (t' := .double) (by decide) (by decide)))) (Or.inr (slot_ne (Or.inr (hw _ (List.mem_of_getElem? (i := 21) rfl))) (Or.inr (hw _ (List.mem_of_getElem? (i := 25) rfl))) (by decide) (t := .double) (t' := .int) (by decide) (by decide)))) (Or.inr (slot_ne (Or.inr (hw _ (List.mem_of_getElem? (i := 21) rfl))) (Or.inr (hw _ (List.mem_of_getElem? (i := 27) rfl))) (by decide) (t := .double) (t' := .int) (by decide) (by decide)))), (Fld.other W20 (Fld.other W17 Fw14 (Or.inr (slot_ne (Or.inr (hw _ (List.mem_of_getElem? (i := 23) rfl))) (Or.inr (hw _ (List.mem_of_getElem? (i := 25) rfl))) (by decide) (t := .double) (t' := .int) (by decide) (by decide)))) (Or.inr (slot_ne (Or.inr (hw _ (List.mem_of_getElem? (i := 23) rfl))) (Or.inr (hw _ (List.mem_of_getElem? (i := 27) rfl))) (by decide) (t := .double) (t' := .int) (by decide) (by decide)))), (Fld.other W20 Fw17 (Or.inr (slot_ne (Or.inr (hw _ (List.mem_of_getElem? (i := 25) rfl))) (Or.inr (hw _ (List.mem_of_getElem? (i := 27) rfl))) (by decide) (t := .int) (t' := .int) (by decide) (by decide)))), Fw20⟩
theorem ef_rmD (m : MethodId) (x0 : Addr) : entryFrame m #[(.ref x0)] 1 = mkF m 0 #[.val (.ref x0)] [] := by first | (simp [entryFrame, mkF, argsToLocals, Value.category]; done) | rfl
theorem d4_0 : decode prog_14_method_3_code 0 = .ok (.aload_n 0, 1) := by decide +kernel
theorem d4_1 : decode prog_14_method_3_code 1 = .ok (.getfield 21, 3) := by decide +kernel
theorem d4_4 : decode prog_14_method_3_code 4 = .ok (.aload_n 0, 1) := by decide +kernel
theorem d4_5 : decode prog_14_method_3_code 5 = .ok (.getfield 18, 3) := by decide +kernel
theorem d4_8 : decode prog_14_method_3_code 8 = .ok (.dsub, 1) := by decide +kernel
theorem d4_9 : decode prog_14_method_3_code 9 = .ok (.aload_n 0, 1) := by decide +kernel
theorem d4_10 : decode prog_14_method_3_code 10 = .ok (.getfield 28, 3) := by decide +kernel
theorem d4_13 : decode prog_14_method_3_code 13 = .ok (.i2d, 1) := by decide +kernel
theorem d4_14 : decode prog_14_method_3_code 14 = .ok (.ddiv, 1) := by decide +kernel
theorem d4_15 : decode prog_14_method_3_code 15 = .ok (.dreturn, 1) := by decide +kernel
def QD (Z : State) (a0_ : Addr) (c0 c1 : UInt64) (nv : Int32) (h0 : Heap) (n0 : Nat) (v : Option Value) (h : Heap) (L : List Loc) : Prop := v = some (.double (FP.ddiv (FP.dsub c0 c1) (FP.i2d nv))) ∧ Fr n0 L ∧ h = h0
set_option maxRecDepth 65536 in
set_option maxHeartbeats 40000000 in
theorem rmD (l : Launch) (Z : State) (a0 : Array Value) (hw : ∀ d ∈ tables_1, d.before a0 Z = true) (ws : List Jvm.Cond) (a0_ : Addr) (c0 c1 : UInt64) (nv : Int32) (h0 : Heap) (n0 : Nat) (Z0 : n0 ≤ h0.size) (F1 : Fld Z h0 a0_ "com/example/momentkeep/momentkeep/Grid" "vMax" "D" (.double c0)) (F2 : Fld Z h0 a0_ "com/example/momentkeep/momentkeep/Grid" "vMin" "D" (.double c1)) (F3 : Fld Z h0 a0_ "com/example/momentkeep/momentkeep/Grid" "nv" "I" (.int nv)) (n1 : Jvm.Free.Fl.NoNaN64 (FP.dsub c0 c1)) (n2 : Jvm.Free.Fl.NoNaN64 (FP.ddiv (FP.dsub c0 c1) (FP.i2d nv))) :
    MetFree l (⟨"com/example/momentkeep/momentkeep/Grid", "dv", "()D"⟩ : MethodName) (head1 (Jvm.Cond.code (⟨"com/example/momentkeep/momentkeep/Grid", "dv", "()D"⟩ : MethodName) prog_14_method_3_code 1 (some .double) :: ws) ({ frames := 0, cells := 0, slots := 0, locals := 0 } : Room)) (fun a U => a = #[(.ref a0_)] ∧ Z.Warmed39 U.vm ∧ U.heap = h0) (fun _ _ _ _ _ => True) (fun _ U o U' => ∃ v L, o = .returned v ∧ QD Z a0_ c0 c1 nv h0 n0 v U'.heap L ∧ FrameEnd U o U' L ({ frames := 0, cells := 0, slots := 0, locals := 0 } : Room).cells ({ frames := 0, cells := 0, slots := 0, locals := 0 } : Room).slots) := by
  refine MetFree.of_bodySF (plainFor_of_name own_pn_com_example_momentkeep_momentkeep_Grid) hisR ?_
  intro p e s m args below meth c s₁ Bd hml0 hP hK
  obtain ⟨rfl, hZ, hh⟩ := hP
  have hx := Bd.exec
  have hby := Bd.bytes
  have hml : c.maxLocals = 1 := hml0
  have hown : s.vm.findClass "com/example/momentkeep/momentkeep/Grid" = some m.cls := findClass_of_methodNamed Bd.named
  have hnm := (name_of_methodNamed Bd.named Bd.method).1
  have X0 : Stand p l e ({ frames := 0, cells := 0, slots := 0, locals := 0 } : Room) s m #[(.ref a0_)] below meth c s₁ [] 0 0 := Stand.of_body Bd
  have e0 : s₁.heap = h0 := by rw [← hh, Bd.state]; rfl
  have N0 := Fr.nil n0
  have pre0 : ∀ t, Steps p.tables e below (s₁.setTop (mkF m 0 #[.val (.ref a0_)] [])) t → Steps p.tables e below (s₁.setTop (entryFrame m #[(.ref a0_)] 1)) t := fun t k => castTop (ef_rmD m a0_) k
  have a1 : ∀ t, Steps p.tables e below (s₁.setTop (mkF m 1 #[.val (.ref a0_)] [(.ref a0_)])) t → Steps p.tables e below (s₁.setTop (entryFrame m #[(.ref a0_)] 1)) t := by
    intro t k
    refine pre0 t ?_
    show Steps p.tables e below (s₁.setTop (mkF m 0 #[.val (.ref a0_)] [])) _
    refine XS.aloadN X0.here hx rfl (hb hby d4_0) rfl rfl ?_
    exact k
  obtain ⟨T2, X2, e2, st2⟩ := getF X0 hx hZ hown (host := "") (Or.inl (hw _ (List.mem_of_getElem? (i := 22) rfl))) Via.refl e0 F1 (g := (mkF m 1 #[.val (.ref a0_)] [(.ref a0_)])) rfl rfl (hb hby d4_1)
  have a3 : ∀ t, Steps p.tables e below (T2.setTop (mkF m 4 #[.val (.ref a0_)] [(.double c0)])) t → Steps p.tables e below (s₁.setTop (entryFrame m #[(.ref a0_)] 1)) t := fun t k => a1 t (st2 t k)
  have a4 : ∀ t, Steps p.tables e below (T2.setTop (mkF m 5 #[.val (.ref a0_)] [(.ref a0_), (.double c0)])) t → Steps p.tables e below (s₁.setTop (entryFrame m #[(.ref a0_)] 1)) t := by
    intro t k
    refine a3 t ?_
    show Steps p.tables e below (T2.setTop (mkF m 4 #[.val (.ref a0_)] [(.double c0)])) _
    refine XS.aloadN X2.here hx rfl (hb hby d4_4) rfl rfl ?_
    exact k
  obtain ⟨T5, X5, e5, st5⟩ := getF X2 hx hZ hown (host := "") (Or.inl (hw _ (List.mem_of_getElem? (i := 20) rfl))) Via.refl e2 F2 (g := (mkF m 5 #[.val (.ref a0_)] [(.ref a0_), (.double c0)])) rfl rfl (hb hby d4_5)
  have a6 : ∀ t, Steps p.tables e below (T5.setTop (mkF m 8 #[.val (.ref a0_)] [(.double c1), (.double c0)])) t → Steps p.tables e below (s₁.setTop (entryFrame m #[(.ref a0_)] 1)) t := fun t k => a4 t (st5 t k)
  have a7 : ∀ t, Steps p.tables e below (T5.setTop (mkF m 10 #[.val (.ref a0_)] [(.ref a0_), (.double (FP.dsub c0 c1))])) t → Steps p.tables e below (s₁.setTop (entryFrame m #[(.ref a0_)] 1)) t := by
    intro t k
    refine a6 t ?_
    show Steps p.tables e below (T5.setTop (mkF m 8 #[.val (.ref a0_)] [(.double c1), (.double c0)])) _
    refine XS.dsubS X5.here hx rfl (hb hby d4_8) rfl n1 rfl ?_
    show Steps p.tables e below (T5.setTop (mkF m 9 #[.val (.ref a0_)] [(.double (FP.dsub c0 c1))])) _
    refine XS.aloadN X5.here hx rfl (hb hby d4_9) rfl rfl ?_
    exact k
  obtain ⟨T8, X8, e8, st8⟩ := getF X5 hx hZ hown (host := "") (Or.inl (hw _ (List.mem_of_getElem? (i := 26) rfl))) Via.refl e5 F3 (g := (mkF m 10 #[.val (.ref a0_)] [(.ref a0_), (.double (FP.dsub c0 c1))])) rfl rfl (hb hby d4_10)
  have a9 : ∀ t, Steps p.tables e below (T8.setTop (mkF m 13 #[.val (.ref a0_)] [(.int nv), (.double (FP.dsub c0 c1))])) t → Steps p.tables e below (s₁.setTop (entryFrame m #[(.ref a0_)] 1)) t := fun t k => a7 t (st8 t k)
  have a10 : ∀ t, Steps p.tables e below (T8.setTop (mkF m 15 #[.val (.ref a0_)] [(.double (FP.ddiv (FP.dsub c0 c1) (FP.i2d nv)))])) t → Steps p.tables e below (s₁.setTop (entryFrame m #[(.ref a0_)] 1)) t := by
    intro t k
    refine a9 t ?_
    show Steps p.tables e below (T8.setTop (mkF m 13 #[.val (.ref a0_)] [(.int nv), (.double (FP.dsub c0 c1))])) _
    refine XS.i2dS X8.here hx rfl (hb hby d4_13) rfl rfl ?_
    show Steps p.tables e below (T8.setTop (mkF m 14 #[.val (.ref a0_)] [(.double (FP.i2d nv)), (.double (FP.dsub c0 c1))])) _
    refine XS.ddivS X8.here hx rfl (hb hby d4_14) rfl n2 rfl ?_
    exact k
  obtain ⟨fs, hr, hrun, hended, hW, hsame⟩ := X8.leave (v := some (.double (FP.ddiv (FP.dsub c0 c1) (FP.i2d nv)))) (fun h => by rw [Bd.returns] at h; cases h)
  refine ⟨_, _, a10 _ ?_, hrun, hended, _, _, rfl, ?_, ⟨_, rfl⟩, hW, hsame.mono (by decide) (by decide)⟩
  · show Steps p.tables e below (T8.setTop (mkF m 15 #[.val (.ref a0_)] [(.double (FP.ddiv (FP.dsub c0 c1) (FP.i2d nv)))])) _
    exact retOut X8 hx Bd.returns rfl (Or.inr (Or.inr (Or.inl ⟨rfl, rfl, _, rfl⟩))) (hb hby d4_15) hr
  · show QD Z a0_ c0 c1 nv h0 n0 _ T8.heap _
    rw [e8]
    exact ⟨rfl, N0, rfl⟩
theorem ef_rm0 (m : MethodId) (x0 : Int32) (x1 : Int32) (x2 : Int32) (x3 : Int32) (x4 : Int32) (x5 : Int32) : entryFrame m #[(.int x0), (.int x1), (.int x2), (.int x3), (.int x4), (.int x5)] maxLocals = mkF m 0 #[.val (.int x0), .val (.int x1), .val (.int x2), .val (.int x3), .val (.int x4), .val (.int x5), .unset, .unset, .unset, .unset, .unset, .unset, .unset, .unset, .unset, .unset, .unset, .unset, .unset, .unset, .unset, .unset, .unset, .unset, .unset, .unset] [] := by first | (simp [entryFrame, mkF, argsToLocals, Value.category, maxLocals]; done) | rfl
theorem own_pd1 : parseMethodDescriptor "(DDDDII)V" = some ⟨[.double, .double, .double, .double, .int, .int], none⟩ := by decide +kernel
theorem own_pd2 : parseMethodDescriptor "()D" = some ⟨[], some .double⟩ := by decide +kernel
theorem own_pn_com_example_momentkeep_momentkeep_GridDvPinLaw : plainName "com/example/momentkeep/momentkeep/GridDvPinLaw" = true := by first | (simp [plainName, overriddenIn]; done) | decide +kernel
def Q0 (Z : State) (p0 : Int32) (p1 : Int32) (p2 : Int32) (p3 : Int32) (p4 : Int32) (p5 : Int32) (h0 : Heap) (n0 : Nat) (v : Option Value) (h : Heap) (L : List Loc) : Prop := v = some (.int 1) ∧ Fr n0 L
set_option maxRecDepth 65536 in
set_option maxHeartbeats 40000000 in
theorem rm0 (l : Launch) (Z : State) (a0 : Array Value) (hw : ∀ d ∈ tables_1, d.before a0 Z = true) (ws : List Jvm.Cond) (p0 : Int32) (p1 : Int32) (p2 : Int32) (p3 : Int32) (p4 : Int32) (p5 : Int32) (h0 : Heap) (n0 : Nat) (Z0 : n0 ≤ h0.size) :
    MetFree l x (head1 (Jvm.Cond.code x code maxLocals ret :: ws) room_1) (fun a U => a = #[(.int p0), (.int p1), (.int p2), (.int p3), (.int p4), (.int p5)] ∧ Z.Warmed39 U.vm ∧ U.heap = h0) (fun _ _ _ _ _ => True) (fun _ U o U' => ∃ v L, o = .returned v ∧ Q0 Z p0 p1 p2 p3 p4 p5 h0 n0 v U'.heap L ∧ FrameEnd U o U' L room_1.cells room_1.slots) := by
  refine MetFree.of_bodySF (plainFor_of_name own_pn_com_example_momentkeep_momentkeep_GridDvPinLaw) hisR ?_
  intro p e s m args below meth c s₁ Bd hml0 hP hK
  obtain ⟨rfl, hZ, hh⟩ := hP
  have hx := Bd.exec
  have hby := Bd.bytes
  have hml : c.maxLocals = 26 := hml0
  have hown : s.vm.findClass "com/example/momentkeep/momentkeep/GridDvPinLaw" = some m.cls := findClass_of_methodNamed Bd.named
  have hnm := (name_of_methodNamed Bd.named Bd.method).1
  have X0 : Stand p l e room_1 s m #[(.int p0), (.int p1), (.int p2), (.int p3), (.int p4), (.int p5)] below meth c s₁ [] 0 0 := Stand.of_body Bd
  have e0 : s₁.heap = h0 := by rw [← hh, Bd.state]; rfl
  have N0 := Fr.nil n0
  have pre0 : ∀ t, Steps p.tables e below (s₁.setTop (mkF m 0 #[.val (.int p0), .val (.int p1), .val (.int p2), .val (.int p3), .val (.int p4), .val (.int p5), .unset, .unset, .unset, .unset, .unset, .unset, .unset, .unset, .unset, .unset, .unset, .unset, .unset, .unset, .unset, .unset, .unset, .unset, .unset, .unset] [])) t → Steps p.tables e below (s₁.setTop (entryFrame m #[(.int p0), (.int p1), (.int p2), (.int p3), (.int p4), (.int p5)] maxLocals)) t := fun t k => castTop (ef_rm0 m p0 p1 p2 p3 p4 p5) k
  have a1 : ∀ t, Steps p.tables e below (s₁.setTop (mkF m 5 #[.val (.int p0), .val (.int p1), .val (.int p2), .val (.int p3), .val (.int p4), .val (.int p5), .unset, .unset, .unset, .unset, .unset, .unset, .unset, .unset, .unset, .unset, .unset, .unset, .unset, .unset, .unset, .unset, .unset, .unset, .unset, .unset] [(.long ((p0 % (1048576 : Int32)).toInt64))])) t → Steps p.tables e below (s₁.setTop (entryFrame m #[(.int p0), (.int p1), (.int p2), (.int p3), (.int p4), (.int p5)] maxLocals)) t := by
    intro t k
    refine pre0 t ?_
    show Steps p.tables e below (s₁.setTop (mkF m 0 #[.val (.int p0), .val (.int p1), .val (.int p2), .val (.int p3), .val (.int p4), .val (.int p5), .unset, .unset, .unset, .unset, .unset, .unset, .unset, .unset, .unset, .unset, .unset, .unset, .unset, .unset, .unset, .unset, .unset, .unset, .unset, .unset] [])) _
    refine XS.iloadN X0.here hx rfl (hb hby at_0) rfl ?_
    show Steps p.tables e below (s₁.setTop (mkF m 1 #[.val (.int p0), .val (.int p1), .val (.int p2), .val (.int p3), .val (.int p4), .val (.int p5), .unset, .unset, .unset, .unset, .unset, .unset, .unset, .unset, .unset, .unset, .unset, .unset, .unset, .unset, .unset, .unset, .unset, .unset, .unset, .unset] [(.int p0)])) _
    refine X0.ldcInt hx hown (mvT hZ (hw _ (List.mem_of_getElem? (i := 0) rfl))) (g := (mkF m 1 #[.val (.int p0), .val (.int p1), .val (.int p2), .val (.int p3), .val (.int p4), .val (.int p5), .unset, .unset, .unset, .unset, .unset, .unset, .unset, .unset, .unset, .unset, .unset, .unset, .unset, .unset, .unset, .unset, .unset, .unset, .unset, .unset] [(.int p0)])) rfl (hb hby at_1) _ ?_
    show Steps p.tables e below (s₁.setTop (mkF m 3 #[.val (.int p0), .val (.int p1), .val (.int p2), .val (.int p3), .val (.int p4), .val (.int p5), .unset, .unset, .unset, .unset, .unset, .unset, .unset, .unset, .unset, .unset, .unset, .unset, .unset, .unset, .unset, .unset, .unset, .unset, .unset, .unset] [(.int (1048576 : Int32)), (.int p0)])) _
    refine iremM X0 hx rfl (hb hby at_3) rfl (by decide) ?_
    show Steps p.tables e below (s₁.setTop (mkF m 4 #[.val (.int p0), .val (.int p1), .val (.int p2), .val (.int p3), .val (.int p4), .val (.int p5), .unset, .unset, .unset, .unset, .unset, .unset, .unset, .unset, .unset, .unset, .unset, .unset, .unset, .unset, .unset, .unset, .unset, .unset, .unset, .unset] [(.int (p0 % (1048576 : Int32)))])) _
    refine XS.i2l X0.here hx rfl (hb hby at_4) rfl ?_
    exact k
  obtain ⟨lo, h_lo⟩ : ∃ z, z = ((p0 % (1048576 : Int32)).toInt64) := ⟨_, rfl⟩
  rw [← h_lo] at a1
  have a2 : ∀ t, Steps p.tables e below (s₁.setTop (mkF m 14 #[.val (.int p0), .val (.int p1), .val (.int p2), .val (.int p3), .val (.int p4), .val (.int p5), .val (.long lo), .second, .unset, .unset, .unset, .unset, .unset, .unset, .unset, .unset, .unset, .unset, .unset, .unset, .unset, .unset, .unset, .unset, .unset, .unset] [(.long (((p1 &&& (1048575 : Int32)).toInt64) + (1 : Int64)))])) t → Steps p.tables e below (s₁.setTop (entryFrame m #[(.int p0), (.int p1), (.int p2), (.int p3), (.int p4), (.int p5)] maxLocals)) t := by
    intro t k
    refine a1 t ?_
    show Steps p.tables e below (s₁.setTop (mkF m 5 #[.val (.int p0), .val (.int p1), .val (.int p2), .val (.int p3), .val (.int p4), .val (.int p5), .unset, .unset, .unset, .unset, .unset, .unset, .unset, .unset, .unset, .unset, .unset, .unset, .unset, .unset, .unset, .unset, .unset, .unset, .unset, .unset] [(.long lo)])) _
    refine XS.lstore X0.here hx rfl (hb hby at_5) rfl (l' := #[.val (.int p0), .val (.int p1), .val (.int p2), .val (.int p3), .val (.int p4), .val (.int p5), .val (.long lo), .second, .unset, .unset, .unset, .unset, .unset, .unset, .unset, .unset, .unset, .unset, .unset, .unset, .unset, .unset, .unset, .unset, .unset, .unset]) rfl ?_
    show Steps p.tables e below (s₁.setTop (mkF m 7 #[.val (.int p0), .val (.int p1), .val (.int p2), .val (.int p3), .val (.int p4), .val (.int p5), .val (.long lo), .second, .unset, .unset, .unset, .unset, .unset, .unset, .unset, .unset, .unset, .unset, .unset, .unset, .unset, .unset, .unset, .unset, .unset, .unset] [])) _
    refine XS.iloadN X0.here hx rfl (hb hby at_7) rfl ?_
    show Steps p.tables e below (s₁.setTop (mkF m 8 #[.val (.int p0), .val (.int p1), .val (.int p2), .val (.int p3), .val (.int p4), .val (.int p5), .val (.long lo), .second, .unset, .unset, .unset, .unset, .unset, .unset, .unset, .unset, .unset, .unset, .unset, .unset, .unset, .unset, .unset, .unset, .unset, .unset] [(.int p1)])) _
    refine X0.ldcInt hx hown (mvT hZ (hw _ (List.mem_of_getElem? (i := 1) rfl))) (g := (mkF m 8 #[.val (.int p0), .val (.int p1), .val (.int p2), .val (.int p3), .val (.int p4), .val (.int p5), .val (.long lo), .second, .unset, .unset, .unset, .unset, .unset, .unset, .unset, .unset, .unset, .unset, .unset, .unset, .unset, .unset, .unset, .unset, .unset, .unset] [(.int p1)])) rfl (hb hby at_8) _ ?_
    show Steps p.tables e below (s₁.setTop (mkF m 10 #[.val (.int p0), .val (.int p1), .val (.int p2), .val (.int p3), .val (.int p4), .val (.int p5), .val (.long lo), .second, .unset, .unset, .unset, .unset, .unset, .unset, .unset, .unset, .unset, .unset, .unset, .unset, .unset, .unset, .unset, .unset, .unset, .unset] [(.int (1048575 : Int32)), (.int p1)])) _
    refine XS.iand X0.here hx rfl (hb hby at_10) rfl ?_
    show Steps p.tables e below (s₁.setTop (mkF m 11 #[.val (.int p0), .val (.int p1), .val (.int p2), .val (.int p3), .val (.int p4), .val (.int p5), .val (.long lo), .second, .unset, .unset, .unset, .unset, .unset, .unset, .unset, .unset, .unset, .unset, .unset, .unset, .unset, .unset, .unset, .unset, .unset, .unset] [(.int (p1 &&& (1048575 : Int32)))])) _
    refine XS.i2l X0.here hx rfl (hb hby at_11) rfl ?_
    show Steps p.tables e below (s₁.setTop (mkF m 12 #[.val (.int p0), .val (.int p1), .val (.int p2), .val (.int p3), .val (.int p4), .val (.int p5), .val (.long lo), .second, .unset, .unset, .unset, .unset, .unset, .unset, .unset, .unset, .unset, .unset, .unset, .unset, .unset, .unset, .unset, .unset, .unset, .unset] [(.long ((p1 &&& (1048575 : Int32)).toInt64))])) _
    refine XS.lconst X0.here hx rfl (hb hby at_12) ?_
    show Steps p.tables e below (s₁.setTop (mkF m 13 #[.val (.int p0), .val (.int p1), .val (.int p2), .val (.int p3), .val (.int p4), .val (.int p5), .val (.long lo), .second, .unset, .unset, .unset, .unset, .unset, .unset, .unset, .unset, .unset, .unset, .unset, .unset, .unset, .unset, .unset, .unset, .unset, .unset] [(.long (1 : Int64)), (.long ((p1 &&& (1048575 : Int32)).toInt64))])) _
    refine XS.ladd X0.here hx rfl (hb hby at_13) rfl ?_
    exact k
  obtain ⟨stp, h_stp⟩ : ∃ z, z = (((p1 &&& (1048575 : Int32)).toInt64) + (1 : Int64)) := ⟨_, rfl⟩
  rw [← h_stp] at a2
  have a3 : ∀ t, Steps p.tables e below (s₁.setTop (mkF m 24 #[.val (.int p0), .val (.int p1), .val (.int p2), .val (.int p3), .val (.int p4), .val (.int p5), .val (.long lo), .second, .val (.long stp), .second, .unset, .unset, .unset, .unset, .unset, .unset, .unset, .unset, .unset, .unset, .unset, .unset, .unset, .unset, .unset, .unset] [(.long (((p2 &&& (1023 : Int32)).toInt64) + (1 : Int64)))])) t → Steps p.tables e below (s₁.setTop (entryFrame m #[(.int p0), (.int p1), (.int p2), (.int p3), (.int p4), (.int p5)] maxLocals)) t := by
    intro t k
    refine a2 t ?_
    show Steps p.tables e below (s₁.setTop (mkF m 14 #[.val (.int p0), .val (.int p1), .val (.int p2), .val (.int p3), .val (.int p4), .val (.int p5), .val (.long lo), .second, .unset, .unset, .unset, .unset, .unset, .unset, .unset, .unset, .unset, .unset, .unset, .unset, .unset, .unset, .unset, .unset, .unset, .unset] [(.long stp)])) _
    refine XS.lstore X0.here hx rfl (hb hby at_14) rfl (l' := #[.val (.int p0), .val (.int p1), .val (.int p2), .val (.int p3), .val (.int p4), .val (.int p5), .val (.long lo), .second, .val (.long stp), .second, .unset, .unset, .unset, .unset, .unset, .unset, .unset, .unset, .unset, .unset, .unset, .unset, .unset, .unset, .unset, .unset]) rfl ?_
    show Steps p.tables e below (s₁.setTop (mkF m 16 #[.val (.int p0), .val (.int p1), .val (.int p2), .val (.int p3), .val (.int p4), .val (.int p5), .val (.long lo), .second, .val (.long stp), .second, .unset, .unset, .unset, .unset, .unset, .unset, .unset, .unset, .unset, .unset, .unset, .unset, .unset, .unset, .unset, .unset] [])) _
    refine XS.iloadN X0.here hx rfl (hb hby at_16) rfl ?_
    show Steps p.tables e below (s₁.setTop (mkF m 17 #[.val (.int p0), .val (.int p1), .val (.int p2), .val (.int p3), .val (.int p4), .val (.int p5), .val (.long lo), .second, .val (.long stp), .second, .unset, .unset, .unset, .unset, .unset, .unset, .unset, .unset, .unset, .unset, .unset, .unset, .unset, .unset, .unset, .unset] [(.int p2)])) _
    refine XS.sipush X0.here hx rfl (hb hby at_17) ?_
    show Steps p.tables e below (s₁.setTop (mkF m 20 #[.val (.int p0), .val (.int p1), .val (.int p2), .val (.int p3), .val (.int p4), .val (.int p5), .val (.long lo), .second, .val (.long stp), .second, .unset, .unset, .unset, .unset, .unset, .unset, .unset, .unset, .unset, .unset, .unset, .unset, .unset, .unset, .unset, .unset] [(.int (1023 : Int32)), (.int p2)])) _
    refine XS.iand X0.here hx rfl (hb hby at_20) rfl ?_
    show Steps p.tables e below (s₁.setTop (mkF m 21 #[.val (.int p0), .val (.int p1), .val (.int p2), .val (.int p3), .val (.int p4), .val (.int p5), .val (.long lo), .second, .val (.long stp), .second, .unset, .unset, .unset, .unset, .unset, .unset, .unset, .unset, .unset, .unset, .unset, .unset, .unset, .unset, .unset, .unset] [(.int (p2 &&& (1023 : Int32)))])) _
    refine XS.i2l X0.here hx rfl (hb hby at_21) rfl ?_
    show Steps p.tables e below (s₁.setTop (mkF m 22 #[.val (.int p0), .val (.int p1), .val (.int p2), .val (.int p3), .val (.int p4), .val (.int p5), .val (.long lo), .second, .val (.long stp), .second, .unset, .unset, .unset, .unset, .unset, .unset, .unset, .unset, .unset, .unset, .unset, .unset, .unset, .unset, .unset, .unset] [(.long ((p2 &&& (1023 : Int32)).toInt64))])) _
    refine XS.lconst X0.here hx rfl (hb hby at_22) ?_
    show Steps p.tables e below (s₁.setTop (mkF m 23 #[.val (.int p0), .val (.int p1), .val (.int p2), .val (.int p3), .val (.int p4), .val (.int p5), .val (.long lo), .second, .val (.long stp), .second, .unset, .unset, .unset, .unset, .unset, .unset, .unset, .unset, .unset, .unset, .unset, .unset, .unset, .unset, .unset, .unset] [(.long (1 : Int64)), (.long ((p2 &&& (1023 : Int32)).toInt64))])) _
    refine XS.ladd X0.here hx rfl (hb hby at_23) rfl ?_
    exact k
  obtain ⟨cel, h_cel⟩ : ∃ z, z = (((p2 &&& (1023 : Int32)).toInt64) + (1 : Int64)) := ⟨_, rfl⟩
  rw [← h_cel] at a3
  have a4 : ∀ t, Steps p.tables e below (s₁.setTop (mkF m 32 #[.val (.int p0), .val (.int p1), .val (.int p2), .val (.int p3), .val (.int p4), .val (.int p5), .val (.long lo), .second, .val (.long stp), .second, .val (.long cel), .second, .unset, .unset, .unset, .unset, .unset, .unset, .unset, .unset, .unset, .unset, .unset, .unset, .unset, .unset] [(.int ((1 : Int32) <<< ((p3 &&& (7 : Int32)) &&& 31)))])) t → Steps p.tables e below (s₁.setTop (entryFrame m #[(.int p0), (.int p1), (.int p2), (.int p3), (.int p4), (.int p5)] maxLocals)) t := by
    intro t k
    refine a3 t ?_
    show Steps p.tables e below (s₁.setTop (mkF m 24 #[.val (.int p0), .val (.int p1), .val (.int p2), .val (.int p3), .val (.int p4), .val (.int p5), .val (.long lo), .second, .val (.long stp), .second, .unset, .unset, .unset, .unset, .unset, .unset, .unset, .unset, .unset, .unset, .unset, .unset, .unset, .unset, .unset, .unset] [(.long cel)])) _
    refine XS.lstore X0.here hx rfl (hb hby at_24) rfl (l' := #[.val (.int p0), .val (.int p1), .val (.int p2), .val (.int p3), .val (.int p4), .val (.int p5), .val (.long lo), .second, .val (.long stp), .second, .val (.long cel), .second, .unset, .unset, .unset, .unset, .unset, .unset, .unset, .unset, .unset, .unset, .unset, .unset, .unset, .unset]) rfl ?_
    show Steps p.tables e below (s₁.setTop (mkF m 26 #[.val (.int p0), .val (.int p1), .val (.int p2), .val (.int p3), .val (.int p4), .val (.int p5), .val (.long lo), .second, .val (.long stp), .second, .val (.long cel), .second, .unset, .unset, .unset, .unset, .unset, .unset, .unset, .unset, .unset, .unset, .unset, .unset, .unset, .unset] [])) _
    refine XS.iconst X0.here hx rfl (hb hby at_26) ?_
    show Steps p.tables e below (s₁.setTop (mkF m 27 #[.val (.int p0), .val (.int p1), .val (.int p2), .val (.int p3), .val (.int p4), .val (.int p5), .val (.long lo), .second, .val (.long stp), .second, .val (.long cel), .second, .unset, .unset, .unset, .unset, .unset, .unset, .unset, .unset, .unset, .unset, .unset, .unset, .unset, .unset] [(.int (1 : Int32))])) _
    refine XS.iloadN X0.here hx rfl (hb hby at_27) rfl ?_
    show Steps p.tables e below (s₁.setTop (mkF m 28 #[.val (.int p0), .val (.int p1), .val (.int p2), .val (.int p3), .val (.int p4), .val (.int p5), .val (.long lo), .second, .val (.long stp), .second, .val (.long cel), .second, .unset, .unset, .unset, .unset, .unset, .unset, .unset, .unset, .unset, .unset, .unset, .unset, .unset, .unset] [(.int p3), (.int (1 : Int32))])) _
    refine XS.bipush X0.here hx rfl (hb hby at_28) ?_
    show Steps p.tables e below (s₁.setTop (mkF m 30 #[.val (.int p0), .val (.int p1), .val (.int p2), .val (.int p3), .val (.int p4), .val (.int p5), .val (.long lo), .second, .val (.long stp), .second, .val (.long cel), .second, .unset, .unset, .unset, .unset, .unset, .unset, .unset, .unset, .unset, .unset, .unset, .unset, .unset, .unset] [(.int (7 : Int32)), (.int p3), (.int (1 : Int32))])) _
    refine XS.iand X0.here hx rfl (hb hby at_30) rfl ?_
    show Steps p.tables e below (s₁.setTop (mkF m 31 #[.val (.int p0), .val (.int p1), .val (.int p2), .val (.int p3), .val (.int p4), .val (.int p5), .val (.long lo), .second, .val (.long stp), .second, .val (.long cel), .second, .unset, .unset, .unset, .unset, .unset, .unset, .unset, .unset, .unset, .unset, .unset, .unset, .unset, .unset] [(.int (p3 &&& (7 : Int32))), (.int (1 : Int32))])) _
    refine XS.ishl X0.here hx rfl (hb hby at_31) rfl ?_
    exact k
  obtain ⟨sc, h_sc⟩ : ∃ z, z = ((1 : Int32) <<< ((p3 &&& (7 : Int32)) &&& 31)) := ⟨_, rfl⟩
  rw [← h_sc] at a4
  have r1 := own_lo p0
  rw [← h_lo] at r1
  have r2 := own_mask20 p1
  rw [← h_stp] at r2
  have r3 := own_mask10 p2
  rw [← h_cel] at r3
  obtain ⟨kk, hk, hs⟩ := own_sc p3
  rw [← h_sc] at hs
  obtain ⟨m1, m2, m3⟩ := own_sum r1 r2 r3
  have hV1 : Dy lo.toInt kk (FP.ddiv (FP.l2d lo) (FP.i2d sc)) := own_q (own_l (by omega)) hk hs (by omega)
  have hV2 : Dy (lo.toInt + stp.toInt * cel.toInt) kk (FP.ddiv (FP.l2d (lo + (stp * cel))) (FP.i2d sc)) := own_q (m1 ▸ own_l (by omega)) hk hs (by omega)
  have hV3 : Dy stp.toInt kk (FP.ddiv (FP.l2d stp) (FP.i2d sc)) := own_q (own_l (by omega)) hk hs (by omega)
  have hD1 : Dy (stp.toInt * cel.toInt) kk (FP.dsub (FP.ddiv (FP.l2d (lo + (stp * cel))) (FP.i2d sc)) (FP.ddiv (FP.l2d lo) (FP.i2d sc))) := by
    have := dy_sub hV2 hV1 (by omega) (by omega)
    rw [show lo.toInt + stp.toInt * cel.toInt - lo.toInt = stp.toInt * cel.toInt by omega] at this; exact this
  have hD2 : Dy stp.toInt kk (FP.ddiv (FP.dsub (FP.ddiv (FP.l2d (lo + (stp * cel))) (FP.i2d sc)) (FP.ddiv (FP.l2d lo) (FP.i2d sc))) (FP.i2d (cel.toInt32))) := by
    have hc := dy_i2d cel.toInt32
    rw [own_back r3] at hc
    exact dy_div hD1 hc (by omega) (by omega) (by omega) (by simp)
  have a5 : ∀ t, Steps p.tables e below (s₁.setTop (mkF m 43 #[.val (.int p0), .val (.int p1), .val (.int p2), .val (.int p3), .val (.int p4), .val (.int p5), .val (.long lo), .second, .val (.long stp), .second, .val (.long cel), .second, .val (.double (FP.i2d sc)), .second, .unset, .unset, .unset, .unset, .unset, .unset, .unset, .unset, .unset, .unset, .unset, .unset] [(.int ((p4 &&& (1023 : Int32)) + (1 : Int32)))])) t → Steps p.tables e below (s₁.setTop (entryFrame m #[(.int p0), (.int p1), (.int p2), (.int p3), (.int p4), (.int p5)] maxLocals)) t := by
    intro t k
    refine a4 t ?_
    show Steps p.tables e below (s₁.setTop (mkF m 32 #[.val (.int p0), .val (.int p1), .val (.int p2), .val (.int p3), .val (.int p4), .val (.int p5), .val (.long lo), .second, .val (.long stp), .second, .val (.long cel), .second, .unset, .unset, .unset, .unset, .unset, .unset, .unset, .unset, .unset, .unset, .unset, .unset, .unset, .unset] [(.int sc)])) _
    refine XS.i2dS X0.here hx rfl (hb hby at_32) rfl rfl ?_
    show Steps p.tables e below (s₁.setTop (mkF m 33 #[.val (.int p0), .val (.int p1), .val (.int p2), .val (.int p3), .val (.int p4), .val (.int p5), .val (.long lo), .second, .val (.long stp), .second, .val (.long cel), .second, .unset, .unset, .unset, .unset, .unset, .unset, .unset, .unset, .unset, .unset, .unset, .unset, .unset, .unset] [(.double (FP.i2d sc))])) _
    refine XS.dstore X0.here hx rfl (hb hby at_33) rfl (l' := #[.val (.int p0), .val (.int p1), .val (.int p2), .val (.int p3), .val (.int p4), .val (.int p5), .val (.long lo), .second, .val (.long stp), .second, .val (.long cel), .second, .val (.double (FP.i2d sc)), .second, .unset, .unset, .unset, .unset, .unset, .unset, .unset, .unset, .unset, .unset, .unset, .unset]) rfl ?_
    show Steps p.tables e below (s₁.setTop (mkF m 35 #[.val (.int p0), .val (.int p1), .val (.int p2), .val (.int p3), .val (.int p4), .val (.int p5), .val (.long lo), .second, .val (.long stp), .second, .val (.long cel), .second, .val (.double (FP.i2d sc)), .second, .unset, .unset, .unset, .unset, .unset, .unset, .unset, .unset, .unset, .unset, .unset, .unset] [])) _
    refine XS.iload X0.here hx rfl (hb hby at_35) rfl ?_
    show Steps p.tables e below (s₁.setTop (mkF m 37 #[.val (.int p0), .val (.int p1), .val (.int p2), .val (.int p3), .val (.int p4), .val (.int p5), .val (.long lo), .second, .val (.long stp), .second, .val (.long cel), .second, .val (.double (FP.i2d sc)), .second, .unset, .unset, .unset, .unset, .unset, .unset, .unset, .unset, .unset, .unset, .unset, .unset] [(.int p4)])) _
    refine XS.sipush X0.here hx rfl (hb hby at_37) ?_
    show Steps p.tables e below (s₁.setTop (mkF m 40 #[.val (.int p0), .val (.int p1), .val (.int p2), .val (.int p3), .val (.int p4), .val (.int p5), .val (.long lo), .second, .val (.long stp), .second, .val (.long cel), .second, .val (.double (FP.i2d sc)), .second, .unset, .unset, .unset, .unset, .unset, .unset, .unset, .unset, .unset, .unset, .unset, .unset] [(.int (1023 : Int32)), (.int p4)])) _
    refine XS.iand X0.here hx rfl (hb hby at_40) rfl ?_
    show Steps p.tables e below (s₁.setTop (mkF m 41 #[.val (.int p0), .val (.int p1), .val (.int p2), .val (.int p3), .val (.int p4), .val (.int p5), .val (.long lo), .second, .val (.long stp), .second, .val (.long cel), .second, .val (.double (FP.i2d sc)), .second, .unset, .unset, .unset, .unset, .unset, .unset, .unset, .unset, .unset, .unset, .unset, .unset] [(.int (p4 &&& (1023 : Int32)))])) _
    refine XS.iconst X0.here hx rfl (hb hby at_41) ?_
    show Steps p.tables e below (s₁.setTop (mkF m 42 #[.val (.int p0), .val (.int p1), .val (.int p2), .val (.int p3), .val (.int p4), .val (.int p5), .val (.long lo), .second, .val (.long stp), .second, .val (.long cel), .second, .val (.double (FP.i2d sc)), .second, .unset, .unset, .unset, .unset, .unset, .unset, .unset, .unset, .unset, .unset, .unset, .unset] [(.int (1 : Int32)), (.int (p4 &&& (1023 : Int32)))])) _
    refine XS.iadd X0.here hx rfl (hb hby at_42) rfl ?_
    exact k
  obtain ⟨nx, h_nx⟩ : ∃ z, z = ((p4 &&& (1023 : Int32)) + (1 : Int32)) := ⟨_, rfl⟩
  rw [← h_nx] at a5
  have a6 : ∀ t, Steps p.tables e below (s₁.setTop (mkF m 66 #[.val (.int p0), .val (.int p1), .val (.int p2), .val (.int p3), .val (.int p4), .val (.int p5), .val (.long lo), .second, .val (.long stp), .second, .val (.long cel), .second, .val (.double (FP.i2d sc)), .second, .val (.int nx), .val (.double (FP.i2d (p5 % (1048576 : Int32)))), .second, .unset, .unset, .unset, .unset, .unset, .unset, .unset, .unset, .unset] [(.long (((((p5.toUInt32 >>> ((12 : Int32) &&& 31).toUInt32).toInt32) &&& (1048575 : Int32)).toInt64) + (1 : Int64))), (.double (FP.i2d (p5 % (1048576 : Int32))))])) t → Steps p.tables e below (s₁.setTop (entryFrame m #[(.int p0), (.int p1), (.int p2), (.int p3), (.int p4), (.int p5)] maxLocals)) t := by
    intro t k
    refine a5 t ?_
    show Steps p.tables e below (s₁.setTop (mkF m 43 #[.val (.int p0), .val (.int p1), .val (.int p2), .val (.int p3), .val (.int p4), .val (.int p5), .val (.long lo), .second, .val (.long stp), .second, .val (.long cel), .second, .val (.double (FP.i2d sc)), .second, .unset, .unset, .unset, .unset, .unset, .unset, .unset, .unset, .unset, .unset, .unset, .unset] [(.int nx)])) _
    refine XS.istore X0.here hx rfl (hb hby at_43) rfl (l' := #[.val (.int p0), .val (.int p1), .val (.int p2), .val (.int p3), .val (.int p4), .val (.int p5), .val (.long lo), .second, .val (.long stp), .second, .val (.long cel), .second, .val (.double (FP.i2d sc)), .second, .val (.int nx), .unset, .unset, .unset, .unset, .unset, .unset, .unset, .unset, .unset, .unset, .unset]) rfl ?_
    show Steps p.tables e below (s₁.setTop (mkF m 45 #[.val (.int p0), .val (.int p1), .val (.int p2), .val (.int p3), .val (.int p4), .val (.int p5), .val (.long lo), .second, .val (.long stp), .second, .val (.long cel), .second, .val (.double (FP.i2d sc)), .second, .val (.int nx), .unset, .unset, .unset, .unset, .unset, .unset, .unset, .unset, .unset, .unset, .unset] [])) _
    refine XS.iload X0.here hx rfl (hb hby at_45) rfl ?_
    show Steps p.tables e below (s₁.setTop (mkF m 47 #[.val (.int p0), .val (.int p1), .val (.int p2), .val (.int p3), .val (.int p4), .val (.int p5), .val (.long lo), .second, .val (.long stp), .second, .val (.long cel), .second, .val (.double (FP.i2d sc)), .second, .val (.int nx), .unset, .unset, .unset, .unset, .unset, .unset, .unset, .unset, .unset, .unset, .unset] [(.int p5)])) _
    refine X0.ldcInt hx hown (mvT hZ (hw _ (List.mem_of_getElem? (i := 0) rfl))) (g := (mkF m 47 #[.val (.int p0), .val (.int p1), .val (.int p2), .val (.int p3), .val (.int p4), .val (.int p5), .val (.long lo), .second, .val (.long stp), .second, .val (.long cel), .second, .val (.double (FP.i2d sc)), .second, .val (.int nx), .unset, .unset, .unset, .unset, .unset, .unset, .unset, .unset, .unset, .unset, .unset] [(.int p5)])) rfl (hb hby at_47) _ ?_
    show Steps p.tables e below (s₁.setTop (mkF m 49 #[.val (.int p0), .val (.int p1), .val (.int p2), .val (.int p3), .val (.int p4), .val (.int p5), .val (.long lo), .second, .val (.long stp), .second, .val (.long cel), .second, .val (.double (FP.i2d sc)), .second, .val (.int nx), .unset, .unset, .unset, .unset, .unset, .unset, .unset, .unset, .unset, .unset, .unset] [(.int (1048576 : Int32)), (.int p5)])) _
    refine iremM X0 hx rfl (hb hby at_49) rfl (by decide) ?_
    show Steps p.tables e below (s₁.setTop (mkF m 50 #[.val (.int p0), .val (.int p1), .val (.int p2), .val (.int p3), .val (.int p4), .val (.int p5), .val (.long lo), .second, .val (.long stp), .second, .val (.long cel), .second, .val (.double (FP.i2d sc)), .second, .val (.int nx), .unset, .unset, .unset, .unset, .unset, .unset, .unset, .unset, .unset, .unset, .unset] [(.int (p5 % (1048576 : Int32)))])) _
    refine XS.i2dS X0.here hx rfl (hb hby at_50) rfl rfl ?_
    show Steps p.tables e below (s₁.setTop (mkF m 51 #[.val (.int p0), .val (.int p1), .val (.int p2), .val (.int p3), .val (.int p4), .val (.int p5), .val (.long lo), .second, .val (.long stp), .second, .val (.long cel), .second, .val (.double (FP.i2d sc)), .second, .val (.int nx), .unset, .unset, .unset, .unset, .unset, .unset, .unset, .unset, .unset, .unset, .unset] [(.double (FP.i2d (p5 % (1048576 : Int32))))])) _
    refine XS.dstore X0.here hx rfl (hb hby at_51) rfl (l' := #[.val (.int p0), .val (.int p1), .val (.int p2), .val (.int p3), .val (.int p4), .val (.int p5), .val (.long lo), .second, .val (.long stp), .second, .val (.long cel), .second, .val (.double (FP.i2d sc)), .second, .val (.int nx), .val (.double (FP.i2d (p5 % (1048576 : Int32)))), .second, .unset, .unset, .unset, .unset, .unset, .unset, .unset, .unset, .unset]) rfl ?_
    show Steps p.tables e below (s₁.setTop (mkF m 53 #[.val (.int p0), .val (.int p1), .val (.int p2), .val (.int p3), .val (.int p4), .val (.int p5), .val (.long lo), .second, .val (.long stp), .second, .val (.long cel), .second, .val (.double (FP.i2d sc)), .second, .val (.int nx), .val (.double (FP.i2d (p5 % (1048576 : Int32)))), .second, .unset, .unset, .unset, .unset, .unset, .unset, .unset, .unset, .unset] [])) _
    refine XS.dload X0.here hx rfl (hb hby at_53) rfl ?_
    show Steps p.tables e below (s₁.setTop (mkF m 55 #[.val (.int p0), .val (.int p1), .val (.int p2), .val (.int p3), .val (.int p4), .val (.int p5), .val (.long lo), .second, .val (.long stp), .second, .val (.long cel), .second, .val (.double (FP.i2d sc)), .second, .val (.int nx), .val (.double (FP.i2d (p5 % (1048576 : Int32)))), .second, .unset, .unset, .unset, .unset, .unset, .unset, .unset, .unset, .unset] [(.double (FP.i2d (p5 % (1048576 : Int32))))])) _
    refine XS.iload X0.here hx rfl (hb hby at_55) rfl ?_
    show Steps p.tables e below (s₁.setTop (mkF m 57 #[.val (.int p0), .val (.int p1), .val (.int p2), .val (.int p3), .val (.int p4), .val (.int p5), .val (.long lo), .second, .val (.long stp), .second, .val (.long cel), .second, .val (.double (FP.i2d sc)), .second, .val (.int nx), .val (.double (FP.i2d (p5 % (1048576 : Int32)))), .second, .unset, .unset, .unset, .unset, .unset, .unset, .unset, .unset, .unset] [(.int p5), (.double (FP.i2d (p5 % (1048576 : Int32))))])) _
    refine XS.bipush X0.here hx rfl (hb hby at_57) ?_
    show Steps p.tables e below (s₁.setTop (mkF m 59 #[.val (.int p0), .val (.int p1), .val (.int p2), .val (.int p3), .val (.int p4), .val (.int p5), .val (.long lo), .second, .val (.long stp), .second, .val (.long cel), .second, .val (.double (FP.i2d sc)), .second, .val (.int nx), .val (.double (FP.i2d (p5 % (1048576 : Int32)))), .second, .unset, .unset, .unset, .unset, .unset, .unset, .unset, .unset, .unset] [(.int (12 : Int32)), (.int p5), (.double (FP.i2d (p5 % (1048576 : Int32))))])) _
    refine XS.iushr X0.here hx rfl (hb hby at_59) rfl ?_
    show Steps p.tables e below (s₁.setTop (mkF m 60 #[.val (.int p0), .val (.int p1), .val (.int p2), .val (.int p3), .val (.int p4), .val (.int p5), .val (.long lo), .second, .val (.long stp), .second, .val (.long cel), .second, .val (.double (FP.i2d sc)), .second, .val (.int nx), .val (.double (FP.i2d (p5 % (1048576 : Int32)))), .second, .unset, .unset, .unset, .unset, .unset, .unset, .unset, .unset, .unset] [(.int ((p5.toUInt32 >>> ((12 : Int32) &&& 31).toUInt32).toInt32)), (.double (FP.i2d (p5 % (1048576 : Int32))))])) _
    refine X0.ldcInt hx hown (mvT hZ (hw _ (List.mem_of_getElem? (i := 1) rfl))) (g := (mkF m 60 #[.val (.int p0), .val (.int p1), .val (.int p2), .val (.int p3), .val (.int p4), .val (.int p5), .val (.long lo), .second, .val (.long stp), .second, .val (.long cel), .second, .val (.double (FP.i2d sc)), .second, .val (.int nx), .val (.double (FP.i2d (p5 % (1048576 : Int32)))), .second, .unset, .unset, .unset, .unset, .unset, .unset, .unset, .unset, .unset] [(.int ((p5.toUInt32 >>> ((12 : Int32) &&& 31).toUInt32).toInt32)), (.double (FP.i2d (p5 % (1048576 : Int32))))])) rfl (hb hby at_60) _ ?_
    show Steps p.tables e below (s₁.setTop (mkF m 62 #[.val (.int p0), .val (.int p1), .val (.int p2), .val (.int p3), .val (.int p4), .val (.int p5), .val (.long lo), .second, .val (.long stp), .second, .val (.long cel), .second, .val (.double (FP.i2d sc)), .second, .val (.int nx), .val (.double (FP.i2d (p5 % (1048576 : Int32)))), .second, .unset, .unset, .unset, .unset, .unset, .unset, .unset, .unset, .unset] [(.int (1048575 : Int32)), (.int ((p5.toUInt32 >>> ((12 : Int32) &&& 31).toUInt32).toInt32)), (.double (FP.i2d (p5 % (1048576 : Int32))))])) _
    refine XS.iand X0.here hx rfl (hb hby at_62) rfl ?_
    show Steps p.tables e below (s₁.setTop (mkF m 63 #[.val (.int p0), .val (.int p1), .val (.int p2), .val (.int p3), .val (.int p4), .val (.int p5), .val (.long lo), .second, .val (.long stp), .second, .val (.long cel), .second, .val (.double (FP.i2d sc)), .second, .val (.int nx), .val (.double (FP.i2d (p5 % (1048576 : Int32)))), .second, .unset, .unset, .unset, .unset, .unset, .unset, .unset, .unset, .unset] [(.int (((p5.toUInt32 >>> ((12 : Int32) &&& 31).toUInt32).toInt32) &&& (1048575 : Int32))), (.double (FP.i2d (p5 % (1048576 : Int32))))])) _
    refine XS.i2l X0.here hx rfl (hb hby at_63) rfl ?_
    show Steps p.tables e below (s₁.setTop (mkF m 64 #[.val (.int p0), .val (.int p1), .val (.int p2), .val (.int p3), .val (.int p4), .val (.int p5), .val (.long lo), .second, .val (.long stp), .second, .val (.long cel), .second, .val (.double (FP.i2d sc)), .second, .val (.int nx), .val (.double (FP.i2d (p5 % (1048576 : Int32)))), .second, .unset, .unset, .unset, .unset, .unset, .unset, .unset, .unset, .unset] [(.long ((((p5.toUInt32 >>> ((12 : Int32) &&& 31).toUInt32).toInt32) &&& (1048575 : Int32)).toInt64)), (.double (FP.i2d (p5 % (1048576 : Int32))))])) _
    refine XS.lconst X0.here hx rfl (hb hby at_64) ?_
    show Steps p.tables e below (s₁.setTop (mkF m 65 #[.val (.int p0), .val (.int p1), .val (.int p2), .val (.int p3), .val (.int p4), .val (.int p5), .val (.long lo), .second, .val (.long stp), .second, .val (.long cel), .second, .val (.double (FP.i2d sc)), .second, .val (.int nx), .val (.double (FP.i2d (p5 % (1048576 : Int32)))), .second, .unset, .unset, .unset, .unset, .unset, .unset, .unset, .unset, .unset] [(.long (1 : Int64)), (.long ((((p5.toUInt32 >>> ((12 : Int32) &&& 31).toUInt32).toInt32) &&& (1048575 : Int32)).toInt64)), (.double (FP.i2d (p5 % (1048576 : Int32))))])) _
    refine XS.ladd X0.here hx rfl (hb hby at_65) rfl ?_
    exact k
  obtain ⟨wd, h_wd⟩ : ∃ z, z = (((((p5.toUInt32 >>> ((12 : Int32) &&& 31).toUInt32).toInt32) &&& (1048575 : Int32)).toInt64) + (1 : Int64)) := ⟨_, rfl⟩
  rw [← h_wd] at a6
  have a7 : ∀ t, Steps p.tables e below (s₁.setTop (mkF m 92 #[.val (.int p0), .val (.int p1), .val (.int p2), .val (.int p3), .val (.int p4), .val (.int p5), .val (.long lo), .second, .val (.long stp), .second, .val (.long cel), .second, .val (.double (FP.i2d sc)), .second, .val (.int nx), .val (.double (FP.i2d (p5 % (1048576 : Int32)))), .second, .val (.double (FP.dadd (FP.i2d (p5 % (1048576 : Int32))) (FP.l2d wd))), .second, .val (.double (FP.ddiv (FP.l2d lo) (FP.i2d sc))), .second, .val (.double (FP.ddiv (FP.l2d (lo + (stp * cel))) (FP.i2d sc))), .second, .unset, .unset, .unset] [])) t → Steps p.tables e below (s₁.setTop (entryFrame m #[(.int p0), (.int p1), (.int p2), (.int p3), (.int p4), (.int p5)] maxLocals)) t := by
    intro t k
    refine a6 t ?_
    show Steps p.tables e below (s₁.setTop (mkF m 66 #[.val (.int p0), .val (.int p1), .val (.int p2), .val (.int p3), .val (.int p4), .val (.int p5), .val (.long lo), .second, .val (.long stp), .second, .val (.long cel), .second, .val (.double (FP.i2d sc)), .second, .val (.int nx), .val (.double (FP.i2d (p5 % (1048576 : Int32)))), .second, .unset, .unset, .unset, .unset, .unset, .unset, .unset, .unset, .unset] [(.long wd), (.double (FP.i2d (p5 % (1048576 : Int32))))])) _
    refine XS.l2dS X0.here hx rfl (hb hby at_66) rfl rfl ?_
    show Steps p.tables e below (s₁.setTop (mkF m 67 #[.val (.int p0), .val (.int p1), .val (.int p2), .val (.int p3), .val (.int p4), .val (.int p5), .val (.long lo), .second, .val (.long stp), .second, .val (.long cel), .second, .val (.double (FP.i2d sc)), .second, .val (.int nx), .val (.double (FP.i2d (p5 % (1048576 : Int32)))), .second, .unset, .unset, .unset, .unset, .unset, .unset, .unset, .unset, .unset] [(.double (FP.l2d wd)), (.double (FP.i2d (p5 % (1048576 : Int32))))])) _
    refine XS.daddS X0.here hx rfl (hb hby at_67) rfl (Jvm.Free.Fl.dadd_out (Jvm.Free.Fl.i2d_fin _).noNaN (Jvm.Free.Fl.l2d_fin _)) rfl ?_
    show Steps p.tables e below (s₁.setTop (mkF m 68 #[.val (.int p0), .val (.int p1), .val (.int p2), .val (.int p3), .val (.int p4), .val (.int p5), .val (.long lo), .second, .val (.long stp), .second, .val (.long cel), .second, .val (.double (FP.i2d sc)), .second, .val (.int nx), .val (.double (FP.i2d (p5 % (1048576 : Int32)))), .second, .unset, .unset, .unset, .unset, .unset, .unset, .unset, .unset, .unset] [(.double (FP.dadd (FP.i2d (p5 % (1048576 : Int32))) (FP.l2d wd)))])) _
    refine XS.dstore X0.here hx rfl (hb hby at_68) rfl (l' := #[.val (.int p0), .val (.int p1), .val (.int p2), .val (.int p3), .val (.int p4), .val (.int p5), .val (.long lo), .second, .val (.long stp), .second, .val (.long cel), .second, .val (.double (FP.i2d sc)), .second, .val (.int nx), .val (.double (FP.i2d (p5 % (1048576 : Int32)))), .second, .val (.double (FP.dadd (FP.i2d (p5 % (1048576 : Int32))) (FP.l2d wd))), .second, .unset, .unset, .unset, .unset, .unset, .unset, .unset]) rfl ?_
    show Steps p.tables e below (s₁.setTop (mkF m 70 #[.val (.int p0), .val (.int p1), .val (.int p2), .val (.int p3), .val (.int p4), .val (.int p5), .val (.long lo), .second, .val (.long stp), .second, .val (.long cel), .second, .val (.double (FP.i2d sc)), .second, .val (.int nx), .val (.double (FP.i2d (p5 % (1048576 : Int32)))), .second, .val (.double (FP.dadd (FP.i2d (p5 % (1048576 : Int32))) (FP.l2d wd))), .second, .unset, .unset, .unset, .unset, .unset, .unset, .unset] [])) _
    refine XS.lload X0.here hx rfl (hb hby at_70) rfl ?_
    show Steps p.tables e below (s₁.setTop (mkF m 72 #[.val (.int p0), .val (.int p1), .val (.int p2), .val (.int p3), .val (.int p4), .val (.int p5), .val (.long lo), .second, .val (.long stp), .second, .val (.long cel), .second, .val (.double (FP.i2d sc)), .second, .val (.int nx), .val (.double (FP.i2d (p5 % (1048576 : Int32)))), .second, .val (.double (FP.dadd (FP.i2d (p5 % (1048576 : Int32))) (FP.l2d wd))), .second, .unset, .unset, .unset, .unset, .unset, .unset, .unset] [(.long lo)])) _
    refine XS.l2dS X0.here hx rfl (hb hby at_72) rfl rfl ?_
    show Steps p.tables e below (s₁.setTop (mkF m 73 #[.val (.int p0), .val (.int p1), .val (.int p2), .val (.int p3), .val (.int p4), .val (.int p5), .val (.long lo), .second, .val (.long stp), .second, .val (.long cel), .second, .val (.double (FP.i2d sc)), .second, .val (.int nx), .val (.double (FP.i2d (p5 % (1048576 : Int32)))), .second, .val (.double (FP.dadd (FP.i2d (p5 % (1048576 : Int32))) (FP.l2d wd))), .second, .unset, .unset, .unset, .unset, .unset, .unset, .unset] [(.double (FP.l2d lo))])) _
    refine XS.dload X0.here hx rfl (hb hby at_73) rfl ?_
    show Steps p.tables e below (s₁.setTop (mkF m 75 #[.val (.int p0), .val (.int p1), .val (.int p2), .val (.int p3), .val (.int p4), .val (.int p5), .val (.long lo), .second, .val (.long stp), .second, .val (.long cel), .second, .val (.double (FP.i2d sc)), .second, .val (.int nx), .val (.double (FP.i2d (p5 % (1048576 : Int32)))), .second, .val (.double (FP.dadd (FP.i2d (p5 % (1048576 : Int32))) (FP.l2d wd))), .second, .unset, .unset, .unset, .unset, .unset, .unset, .unset] [(.double (FP.i2d sc)), (.double (FP.l2d lo))])) _
    refine XS.ddivS X0.here hx rfl (hb hby at_75) rfl (nn64 hV1.1) rfl ?_
    show Steps p.tables e below (s₁.setTop (mkF m 76 #[.val (.int p0), .val (.int p1), .val (.int p2), .val (.int p3), .val (.int p4), .val (.int p5), .val (.long lo), .second, .val (.long stp), .second, .val (.long cel), .second, .val (.double (FP.i2d sc)), .second, .val (.int nx), .val (.double (FP.i2d (p5 % (1048576 : Int32)))), .second, .val (.double (FP.dadd (FP.i2d (p5 % (1048576 : Int32))) (FP.l2d wd))), .second, .unset, .unset, .unset, .unset, .unset, .unset, .unset] [(.double (FP.ddiv (FP.l2d lo) (FP.i2d sc)))])) _
    refine XS.dstore X0.here hx rfl (hb hby at_76) rfl (l' := #[.val (.int p0), .val (.int p1), .val (.int p2), .val (.int p3), .val (.int p4), .val (.int p5), .val (.long lo), .second, .val (.long stp), .second, .val (.long cel), .second, .val (.double (FP.i2d sc)), .second, .val (.int nx), .val (.double (FP.i2d (p5 % (1048576 : Int32)))), .second, .val (.double (FP.dadd (FP.i2d (p5 % (1048576 : Int32))) (FP.l2d wd))), .second, .val (.double (FP.ddiv (FP.l2d lo) (FP.i2d sc))), .second, .unset, .unset, .unset, .unset, .unset]) rfl ?_
    show Steps p.tables e below (s₁.setTop (mkF m 78 #[.val (.int p0), .val (.int p1), .val (.int p2), .val (.int p3), .val (.int p4), .val (.int p5), .val (.long lo), .second, .val (.long stp), .second, .val (.long cel), .second, .val (.double (FP.i2d sc)), .second, .val (.int nx), .val (.double (FP.i2d (p5 % (1048576 : Int32)))), .second, .val (.double (FP.dadd (FP.i2d (p5 % (1048576 : Int32))) (FP.l2d wd))), .second, .val (.double (FP.ddiv (FP.l2d lo) (FP.i2d sc))), .second, .unset, .unset, .unset, .unset, .unset] [])) _
    refine XS.lload X0.here hx rfl (hb hby at_78) rfl ?_
    show Steps p.tables e below (s₁.setTop (mkF m 80 #[.val (.int p0), .val (.int p1), .val (.int p2), .val (.int p3), .val (.int p4), .val (.int p5), .val (.long lo), .second, .val (.long stp), .second, .val (.long cel), .second, .val (.double (FP.i2d sc)), .second, .val (.int nx), .val (.double (FP.i2d (p5 % (1048576 : Int32)))), .second, .val (.double (FP.dadd (FP.i2d (p5 % (1048576 : Int32))) (FP.l2d wd))), .second, .val (.double (FP.ddiv (FP.l2d lo) (FP.i2d sc))), .second, .unset, .unset, .unset, .unset, .unset] [(.long lo)])) _
    refine XS.lload X0.here hx rfl (hb hby at_80) rfl ?_
    show Steps p.tables e below (s₁.setTop (mkF m 82 #[.val (.int p0), .val (.int p1), .val (.int p2), .val (.int p3), .val (.int p4), .val (.int p5), .val (.long lo), .second, .val (.long stp), .second, .val (.long cel), .second, .val (.double (FP.i2d sc)), .second, .val (.int nx), .val (.double (FP.i2d (p5 % (1048576 : Int32)))), .second, .val (.double (FP.dadd (FP.i2d (p5 % (1048576 : Int32))) (FP.l2d wd))), .second, .val (.double (FP.ddiv (FP.l2d lo) (FP.i2d sc))), .second, .unset, .unset, .unset, .unset, .unset] [(.long stp), (.long lo)])) _
    refine XS.lload X0.here hx rfl (hb hby at_82) rfl ?_
    show Steps p.tables e below (s₁.setTop (mkF m 84 #[.val (.int p0), .val (.int p1), .val (.int p2), .val (.int p3), .val (.int p4), .val (.int p5), .val (.long lo), .second, .val (.long stp), .second, .val (.long cel), .second, .val (.double (FP.i2d sc)), .second, .val (.int nx), .val (.double (FP.i2d (p5 % (1048576 : Int32)))), .second, .val (.double (FP.dadd (FP.i2d (p5 % (1048576 : Int32))) (FP.l2d wd))), .second, .val (.double (FP.ddiv (FP.l2d lo) (FP.i2d sc))), .second, .unset, .unset, .unset, .unset, .unset] [(.long cel), (.long stp), (.long lo)])) _
    refine XS.lmul X0.here hx rfl (hb hby at_84) rfl ?_
    show Steps p.tables e below (s₁.setTop (mkF m 85 #[.val (.int p0), .val (.int p1), .val (.int p2), .val (.int p3), .val (.int p4), .val (.int p5), .val (.long lo), .second, .val (.long stp), .second, .val (.long cel), .second, .val (.double (FP.i2d sc)), .second, .val (.int nx), .val (.double (FP.i2d (p5 % (1048576 : Int32)))), .second, .val (.double (FP.dadd (FP.i2d (p5 % (1048576 : Int32))) (FP.l2d wd))), .second, .val (.double (FP.ddiv (FP.l2d lo) (FP.i2d sc))), .second, .unset, .unset, .unset, .unset, .unset] [(.long (stp * cel)), (.long lo)])) _
    refine XS.ladd X0.here hx rfl (hb hby at_85) rfl ?_
    show Steps p.tables e below (s₁.setTop (mkF m 86 #[.val (.int p0), .val (.int p1), .val (.int p2), .val (.int p3), .val (.int p4), .val (.int p5), .val (.long lo), .second, .val (.long stp), .second, .val (.long cel), .second, .val (.double (FP.i2d sc)), .second, .val (.int nx), .val (.double (FP.i2d (p5 % (1048576 : Int32)))), .second, .val (.double (FP.dadd (FP.i2d (p5 % (1048576 : Int32))) (FP.l2d wd))), .second, .val (.double (FP.ddiv (FP.l2d lo) (FP.i2d sc))), .second, .unset, .unset, .unset, .unset, .unset] [(.long (lo + (stp * cel)))])) _
    refine XS.l2dS X0.here hx rfl (hb hby at_86) rfl rfl ?_
    show Steps p.tables e below (s₁.setTop (mkF m 87 #[.val (.int p0), .val (.int p1), .val (.int p2), .val (.int p3), .val (.int p4), .val (.int p5), .val (.long lo), .second, .val (.long stp), .second, .val (.long cel), .second, .val (.double (FP.i2d sc)), .second, .val (.int nx), .val (.double (FP.i2d (p5 % (1048576 : Int32)))), .second, .val (.double (FP.dadd (FP.i2d (p5 % (1048576 : Int32))) (FP.l2d wd))), .second, .val (.double (FP.ddiv (FP.l2d lo) (FP.i2d sc))), .second, .unset, .unset, .unset, .unset, .unset] [(.double (FP.l2d (lo + (stp * cel))))])) _
    refine XS.dload X0.here hx rfl (hb hby at_87) rfl ?_
    show Steps p.tables e below (s₁.setTop (mkF m 89 #[.val (.int p0), .val (.int p1), .val (.int p2), .val (.int p3), .val (.int p4), .val (.int p5), .val (.long lo), .second, .val (.long stp), .second, .val (.long cel), .second, .val (.double (FP.i2d sc)), .second, .val (.int nx), .val (.double (FP.i2d (p5 % (1048576 : Int32)))), .second, .val (.double (FP.dadd (FP.i2d (p5 % (1048576 : Int32))) (FP.l2d wd))), .second, .val (.double (FP.ddiv (FP.l2d lo) (FP.i2d sc))), .second, .unset, .unset, .unset, .unset, .unset] [(.double (FP.i2d sc)), (.double (FP.l2d (lo + (stp * cel))))])) _
    refine XS.ddivS X0.here hx rfl (hb hby at_89) rfl (nn64 hV2.1) rfl ?_
    show Steps p.tables e below (s₁.setTop (mkF m 90 #[.val (.int p0), .val (.int p1), .val (.int p2), .val (.int p3), .val (.int p4), .val (.int p5), .val (.long lo), .second, .val (.long stp), .second, .val (.long cel), .second, .val (.double (FP.i2d sc)), .second, .val (.int nx), .val (.double (FP.i2d (p5 % (1048576 : Int32)))), .second, .val (.double (FP.dadd (FP.i2d (p5 % (1048576 : Int32))) (FP.l2d wd))), .second, .val (.double (FP.ddiv (FP.l2d lo) (FP.i2d sc))), .second, .unset, .unset, .unset, .unset, .unset] [(.double (FP.ddiv (FP.l2d (lo + (stp * cel))) (FP.i2d sc)))])) _
    refine XS.dstore X0.here hx rfl (hb hby at_90) rfl (l' := #[.val (.int p0), .val (.int p1), .val (.int p2), .val (.int p3), .val (.int p4), .val (.int p5), .val (.long lo), .second, .val (.long stp), .second, .val (.long cel), .second, .val (.double (FP.i2d sc)), .second, .val (.int nx), .val (.double (FP.i2d (p5 % (1048576 : Int32)))), .second, .val (.double (FP.dadd (FP.i2d (p5 % (1048576 : Int32))) (FP.l2d wd))), .second, .val (.double (FP.ddiv (FP.l2d lo) (FP.i2d sc))), .second, .val (.double (FP.ddiv (FP.l2d (lo + (stp * cel))) (FP.i2d sc))), .second, .unset, .unset, .unset]) rfl ?_
    exact k
  obtain ⟨T8, h8, X8, e8, E8, A8, D8, -, st8⟩ := newO X0 hx hZ hown (hw _ (List.mem_of_getElem? (i := 2) rfl)) (hw _ (List.mem_of_getElem? (i := 3) rfl)) (hw _ (List.mem_of_getElem? (i := 4) rfl)) e0 (g := (mkF m 92 #[.val (.int p0), .val (.int p1), .val (.int p2), .val (.int p3), .val (.int p4), .val (.int p5), .val (.long lo), .second, .val (.long stp), .second, .val (.long cel), .second, .val (.double (FP.i2d sc)), .second, .val (.int nx), .val (.double (FP.i2d (p5 % (1048576 : Int32)))), .second, .val (.double (FP.dadd (FP.i2d (p5 % (1048576 : Int32))) (FP.l2d wd))), .second, .val (.double (FP.ddiv (FP.l2d lo) (FP.i2d sc))), .second, .val (.double (FP.ddiv (FP.l2d (lo + (stp * cel))) (FP.i2d sc))), .second, .unset, .unset, .unset] [])) rfl (hb hby at_92) (by decide) (by decide)
  obtain ⟨b8, g8⟩ : ∃ z, z = h0.size := ⟨_, rfl⟩
  rw [← g8] at A8 D8 st8
  have g_b8 : n0 ≤ b8 := Nat.le_trans Z0 (Nat.le_of_eq g8.symm)
  have sz_b8 : h0.size ≤ b8 := Nat.le_trans ((Keep.refl h0 [])).1 (Nat.le_of_eq g8.symm)
  have K8 : Keep h0 h8 [] := Keep.ext (Keep.refl h0 []) E8
  have F_xMin_b8 : Fld Z h8 b8 "com/example/momentkeep/momentkeep/Grid" "xMin" "D" (.double (0 : UInt64)) := D8 (Or.inr (hw _ (List.mem_of_getElem? (i := 17) rfl))) (ty := .double) (by decide)
  have F_xMax_b8 : Fld Z h8 b8 "com/example/momentkeep/momentkeep/Grid" "xMax" "D" (.double (0 : UInt64)) := D8 (Or.inr (hw _ (List.mem_of_getElem? (i := 19) rfl))) (ty := .double) (by decide)
  have F_vMin_b8 : Fld Z h8 b8 "com/example/momentkeep/momentkeep/Grid" "vMin" "D" (.double (0 : UInt64)) := D8 (Or.inr (hw _ (List.mem_of_getElem? (i := 21) rfl))) (ty := .double) (by decide)
  have F_vMax_b8 : Fld Z h8 b8 "com/example/momentkeep/momentkeep/Grid" "vMax" "D" (.double (0 : UInt64)) := D8 (Or.inr (hw _ (List.mem_of_getElem? (i := 23) rfl))) (ty := .double) (by decide)
  have F_nx_b8 : Fld Z h8 b8 "com/example/momentkeep/momentkeep/Grid" "nx" "I" (.int (0 : Int32)) := D8 (Or.inr (hw _ (List.mem_of_getElem? (i := 25) rfl))) (ty := .int) (by decide)
  have F_nv_b8 : Fld Z h8 b8 "com/example/momentkeep/momentkeep/Grid" "nv" "I" (.int (0 : Int32)) := D8 (Or.inr (hw _ (List.mem_of_getElem? (i := 27) rfl))) (ty := .int) (by decide)
  have a9 : ∀ t, Steps p.tables e below (T8.setTop (mkF m 95 #[.val (.int p0), .val (.int p1), .val (.int p2), .val (.int p3), .val (.int p4), .val (.int p5), .val (.long lo), .second, .val (.long stp), .second, .val (.long cel), .second, .val (.double (FP.i2d sc)), .second, .val (.int nx), .val (.double (FP.i2d (p5 % (1048576 : Int32)))), .second, .val (.double (FP.dadd (FP.i2d (p5 % (1048576 : Int32))) (FP.l2d wd))), .second, .val (.double (FP.ddiv (FP.l2d lo) (FP.i2d sc))), .second, .val (.double (FP.ddiv (FP.l2d (lo + (stp * cel))) (FP.i2d sc))), .second, .unset, .unset, .unset] [(.ref b8)])) t → Steps p.tables e below (s₁.setTop (entryFrame m #[(.int p0), (.int p1), (.int p2), (.int p3), (.int p4), (.int p5)] maxLocals)) t := fun t k => a7 t (st8 t k)
  have a10 : ∀ t, Steps p.tables e below (T8.setTop (mkF m 109 #[.val (.int p0), .val (.int p1), .val (.int p2), .val (.int p3), .val (.int p4), .val (.int p5), .val (.long lo), .second, .val (.long stp), .second, .val (.long cel), .second, .val (.double (FP.i2d sc)), .second, .val (.int nx), .val (.double (FP.i2d (p5 % (1048576 : Int32)))), .second, .val (.double (FP.dadd (FP.i2d (p5 % (1048576 : Int32))) (FP.l2d wd))), .second, .val (.double (FP.ddiv (FP.l2d lo) (FP.i2d sc))), .second, .val (.double (FP.ddiv (FP.l2d (lo + (stp * cel))) (FP.i2d sc))), .second, .unset, .unset, .unset] [(.int (cel.toInt32)), (.int nx), (.double (FP.ddiv (FP.l2d (lo + (stp * cel))) (FP.i2d sc))), (.double (FP.ddiv (FP.l2d lo) (FP.i2d sc))), (.double (FP.dadd (FP.i2d (p5 % (1048576 : Int32))) (FP.l2d wd))), (.double (FP.i2d (p5 % (1048576 : Int32)))), (.ref b8), (.ref b8)])) t → Steps p.tables e below (s₁.setTop (entryFrame m #[(.int p0), (.int p1), (.int p2), (.int p3), (.int p4), (.int p5)] maxLocals)) t := by
    intro t k
    refine a9 t ?_
    show Steps p.tables e below (T8.setTop (mkF m 95 #[.val (.int p0), .val (.int p1), .val (.int p2), .val (.int p3), .val (.int p4), .val (.int p5), .val (.long lo), .second, .val (.long stp), .second, .val (.long cel), .second, .val (.double (FP.i2d sc)), .second, .val (.int nx), .val (.double (FP.i2d (p5 % (1048576 : Int32)))), .second, .val (.double (FP.dadd (FP.i2d (p5 % (1048576 : Int32))) (FP.l2d wd))), .second, .val (.double (FP.ddiv (FP.l2d lo) (FP.i2d sc))), .second, .val (.double (FP.ddiv (FP.l2d (lo + (stp * cel))) (FP.i2d sc))), .second, .unset, .unset, .unset] [(.ref b8)])) _
    refine XS.dup X8.here hx rfl (hb hby at_95) rfl rfl ?_
    show Steps p.tables e below (T8.setTop (mkF m 96 #[.val (.int p0), .val (.int p1), .val (.int p2), .val (.int p3), .val (.int p4), .val (.int p5), .val (.long lo), .second, .val (.long stp), .second, .val (.long cel), .second, .val (.double (FP.i2d sc)), .second, .val (.int nx), .val (.double (FP.i2d (p5 % (1048576 : Int32)))), .second, .val (.double (FP.dadd (FP.i2d (p5 % (1048576 : Int32))) (FP.l2d wd))), .second, .val (.double (FP.ddiv (FP.l2d lo) (FP.i2d sc))), .second, .val (.double (FP.ddiv (FP.l2d (lo + (stp * cel))) (FP.i2d sc))), .second, .unset, .unset, .unset] [(.ref b8), (.ref b8)])) _
    refine XS.dload X8.here hx rfl (hb hby at_96) rfl ?_
    show Steps p.tables e below (T8.setTop (mkF m 98 #[.val (.int p0), .val (.int p1), .val (.int p2), .val (.int p3), .val (.int p4), .val (.int p5), .val (.long lo), .second, .val (.long stp), .second, .val (.long cel), .second, .val (.double (FP.i2d sc)), .second, .val (.int nx), .val (.double (FP.i2d (p5 % (1048576 : Int32)))), .second, .val (.double (FP.dadd (FP.i2d (p5 % (1048576 : Int32))) (FP.l2d wd))), .second, .val (.double (FP.ddiv (FP.l2d lo) (FP.i2d sc))), .second, .val (.double (FP.ddiv (FP.l2d (lo + (stp * cel))) (FP.i2d sc))), .second, .unset, .unset, .unset] [(.double (FP.i2d (p5 % (1048576 : Int32)))), (.ref b8), (.ref b8)])) _
    refine XS.dload X8.here hx rfl (hb hby at_98) rfl ?_
    show Steps p.tables e below (T8.setTop (mkF m 100 #[.val (.int p0), .val (.int p1), .val (.int p2), .val (.int p3), .val (.int p4), .val (.int p5), .val (.long lo), .second, .val (.long stp), .second, .val (.long cel), .second, .val (.double (FP.i2d sc)), .second, .val (.int nx), .val (.double (FP.i2d (p5 % (1048576 : Int32)))), .second, .val (.double (FP.dadd (FP.i2d (p5 % (1048576 : Int32))) (FP.l2d wd))), .second, .val (.double (FP.ddiv (FP.l2d lo) (FP.i2d sc))), .second, .val (.double (FP.ddiv (FP.l2d (lo + (stp * cel))) (FP.i2d sc))), .second, .unset, .unset, .unset] [(.double (FP.dadd (FP.i2d (p5 % (1048576 : Int32))) (FP.l2d wd))), (.double (FP.i2d (p5 % (1048576 : Int32)))), (.ref b8), (.ref b8)])) _
    refine XS.dload X8.here hx rfl (hb hby at_100) rfl ?_
    show Steps p.tables e below (T8.setTop (mkF m 102 #[.val (.int p0), .val (.int p1), .val (.int p2), .val (.int p3), .val (.int p4), .val (.int p5), .val (.long lo), .second, .val (.long stp), .second, .val (.long cel), .second, .val (.double (FP.i2d sc)), .second, .val (.int nx), .val (.double (FP.i2d (p5 % (1048576 : Int32)))), .second, .val (.double (FP.dadd (FP.i2d (p5 % (1048576 : Int32))) (FP.l2d wd))), .second, .val (.double (FP.ddiv (FP.l2d lo) (FP.i2d sc))), .second, .val (.double (FP.ddiv (FP.l2d (lo + (stp * cel))) (FP.i2d sc))), .second, .unset, .unset, .unset] [(.double (FP.ddiv (FP.l2d lo) (FP.i2d sc))), (.double (FP.dadd (FP.i2d (p5 % (1048576 : Int32))) (FP.l2d wd))), (.double (FP.i2d (p5 % (1048576 : Int32)))), (.ref b8), (.ref b8)])) _
    refine XS.dload X8.here hx rfl (hb hby at_102) rfl ?_
    show Steps p.tables e below (T8.setTop (mkF m 104 #[.val (.int p0), .val (.int p1), .val (.int p2), .val (.int p3), .val (.int p4), .val (.int p5), .val (.long lo), .second, .val (.long stp), .second, .val (.long cel), .second, .val (.double (FP.i2d sc)), .second, .val (.int nx), .val (.double (FP.i2d (p5 % (1048576 : Int32)))), .second, .val (.double (FP.dadd (FP.i2d (p5 % (1048576 : Int32))) (FP.l2d wd))), .second, .val (.double (FP.ddiv (FP.l2d lo) (FP.i2d sc))), .second, .val (.double (FP.ddiv (FP.l2d (lo + (stp * cel))) (FP.i2d sc))), .second, .unset, .unset, .unset] [(.double (FP.ddiv (FP.l2d (lo + (stp * cel))) (FP.i2d sc))), (.double (FP.ddiv (FP.l2d lo) (FP.i2d sc))), (.double (FP.dadd (FP.i2d (p5 % (1048576 : Int32))) (FP.l2d wd))), (.double (FP.i2d (p5 % (1048576 : Int32)))), (.ref b8), (.ref b8)])) _
    refine XS.iload X8.here hx rfl (hb hby at_104) rfl ?_
    show Steps p.tables e below (T8.setTop (mkF m 106 #[.val (.int p0), .val (.int p1), .val (.int p2), .val (.int p3), .val (.int p4), .val (.int p5), .val (.long lo), .second, .val (.long stp), .second, .val (.long cel), .second, .val (.double (FP.i2d sc)), .second, .val (.int nx), .val (.double (FP.i2d (p5 % (1048576 : Int32)))), .second, .val (.double (FP.dadd (FP.i2d (p5 % (1048576 : Int32))) (FP.l2d wd))), .second, .val (.double (FP.ddiv (FP.l2d lo) (FP.i2d sc))), .second, .val (.double (FP.ddiv (FP.l2d (lo + (stp * cel))) (FP.i2d sc))), .second, .unset, .unset, .unset] [(.int nx), (.double (FP.ddiv (FP.l2d (lo + (stp * cel))) (FP.i2d sc))), (.double (FP.ddiv (FP.l2d lo) (FP.i2d sc))), (.double (FP.dadd (FP.i2d (p5 % (1048576 : Int32))) (FP.l2d wd))), (.double (FP.i2d (p5 % (1048576 : Int32)))), (.ref b8), (.ref b8)])) _
    refine XS.lload X8.here hx rfl (hb hby at_106) rfl ?_
    show Steps p.tables e below (T8.setTop (mkF m 108 #[.val (.int p0), .val (.int p1), .val (.int p2), .val (.int p3), .val (.int p4), .val (.int p5), .val (.long lo), .second, .val (.long stp), .second, .val (.long cel), .second, .val (.double (FP.i2d sc)), .second, .val (.int nx), .val (.double (FP.i2d (p5 % (1048576 : Int32)))), .second, .val (.double (FP.dadd (FP.i2d (p5 % (1048576 : Int32))) (FP.l2d wd))), .second, .val (.double (FP.ddiv (FP.l2d lo) (FP.i2d sc))), .second, .val (.double (FP.ddiv (FP.l2d (lo + (stp * cel))) (FP.i2d sc))), .second, .unset, .unset, .unset] [(.long cel), (.int nx), (.double (FP.ddiv (FP.l2d (lo + (stp * cel))) (FP.i2d sc))), (.double (FP.ddiv (FP.l2d lo) (FP.i2d sc))), (.double (FP.dadd (FP.i2d (p5 % (1048576 : Int32))) (FP.l2d wd))), (.double (FP.i2d (p5 % (1048576 : Int32)))), (.ref b8), (.ref b8)])) _
    refine XS.l2i X8.here hx rfl (hb hby at_108) rfl ?_
    exact k
  obtain ⟨_, _, ⟨T11, L11, k11, n11⟩, -, X11, ⟨Lc11, hQ11, l11, y11, z11⟩, st11⟩ := X8.specialBack hx (y := (⟨"com/example/momentkeep/momentkeep/Grid", "<init>", "(DDDDII)V"⟩ : MethodName)) rfl hown (mvT hZ (hw _ (List.mem_of_getElem? (i := 5) rfl))) (mvT hZ (hw _ (List.mem_of_getElem? (i := 6) rfl))) (mvT hZ (hw _ (List.mem_of_getElem? (i := 7) rfl))) (by decide) (backOf (W := 1) (rm1 l Z a0 hw [] b8 (FP.i2d (p5 % (1048576 : Int32))) (FP.dadd (FP.i2d (p5 % (1048576 : Int32))) (FP.l2d wd)) (FP.ddiv (FP.l2d lo) (FP.i2d sc)) (FP.ddiv (FP.l2d (lo + (stp * cel))) (FP.i2d sc)) nx (cel.toInt32)  h8 n0 (Nat.le_trans Z0 E8.1) A8 g_b8 F_xMin_b8 F_xMax_b8 F_vMin_b8 F_vMax_b8 F_nx_b8 F_nv_b8 ) hZ (hw _ (List.mem_of_getElem? (i := 7) rfl)) (hw _ (List.mem_of_getElem? (i := 4) rfl)) (by decide) (by decide)) (g := (mkF m 109 #[.val (.int p0), .val (.int p1), .val (.int p2), .val (.int p3), .val (.int p4), .val (.int p5), .val (.long lo), .second, .val (.long stp), .second, .val (.long cel), .second, .val (.double (FP.i2d sc)), .second, .val (.int nx), .val (.double (FP.i2d (p5 % (1048576 : Int32)))), .second, .val (.double (FP.dadd (FP.i2d (p5 % (1048576 : Int32))) (FP.l2d wd))), .second, .val (.double (FP.ddiv (FP.l2d lo) (FP.i2d sc))), .second, .val (.double (FP.ddiv (FP.l2d (lo + (stp * cel))) (FP.i2d sc))), .second, .unset, .unset, .unset] [(.int (cel.toInt32)), (.int nx), (.double (FP.ddiv (FP.l2d (lo + (stp * cel))) (FP.i2d sc))), (.double (FP.ddiv (FP.l2d lo) (FP.i2d sc))), (.double (FP.dadd (FP.i2d (p5 % (1048576 : Int32))) (FP.l2d wd))), (.double (FP.i2d (p5 % (1048576 : Int32)))), (.ref b8), (.ref b8)])) rfl (by rw [hml]; rfl) (Steps.refl _) (a := b8) (argsL := [(.double (FP.i2d (p5 % (1048576 : Int32)))), (.double (FP.dadd (FP.i2d (p5 % (1048576 : Int32))) (FP.l2d wd))), (.double (FP.ddiv (FP.l2d lo) (FP.i2d sc))), (.double (FP.ddiv (FP.l2d (lo + (stp * cel))) (FP.i2d sc))), (.int nx), (.int (cel.toInt32))]) (rest := [(.ref b8)]) (lenOf own_pd1 rfl) rfl (by show 2 * 0 + _ ≤ _; exact Nat.le_of_eq rfl) (hb hby at_109) (fun _ _ => ⟨rfl, e8, (by decide : 1 + 0 ≤ _), (by decide : 6 + 0 ≤ _)⟩)
  dsimp only [Pt.U, Pt.locs, Pt.cells, Pt.slots] at X11 l11 y11 z11 st11 hQ11
  subst l11 y11 z11
  obtain ⟨rfl, N11q, K11q, G11_0, G11_1, G11_2, G11_3, G11_4, G11_5⟩ := hQ11
  have N11 := Fr.app N0 N11q
  have KK11 : Keep h0 T11.heap [] := Keep.trans K8 K11q (allS (Or.inr sz_b8) all0)
  have a12 : ∀ t, Steps p.tables e below (T11.setTop (mkF m 112 #[.val (.int p0), .val (.int p1), .val (.int p2), .val (.int p3), .val (.int p4), .val (.int p5), .val (.long lo), .second, .val (.long stp), .second, .val (.long cel), .second, .val (.double (FP.i2d sc)), .second, .val (.int nx), .val (.double (FP.i2d (p5 % (1048576 : Int32)))), .second, .val (.double (FP.dadd (FP.i2d (p5 % (1048576 : Int32))) (FP.l2d wd))), .second, .val (.double (FP.ddiv (FP.l2d lo) (FP.i2d sc))), .second, .val (.double (FP.ddiv (FP.l2d (lo + (stp * cel))) (FP.i2d sc))), .second, .unset, .unset, .unset] [(.ref b8)])) t → Steps p.tables e below (s₁.setTop (entryFrame m #[(.int p0), (.int p1), (.int p2), (.int p3), (.int p4), (.int p5)] maxLocals)) t := fun t k => a10 t (st11.trans k)
  have a13 : ∀ t, Steps p.tables e below (T11.setTop (mkF m 116 #[.val (.int p0), .val (.int p1), .val (.int p2), .val (.int p3), .val (.int p4), .val (.int p5), .val (.long lo), .second, .val (.long stp), .second, .val (.long cel), .second, .val (.double (FP.i2d sc)), .second, .val (.int nx), .val (.double (FP.i2d (p5 % (1048576 : Int32)))), .second, .val (.double (FP.dadd (FP.i2d (p5 % (1048576 : Int32))) (FP.l2d wd))), .second, .val (.double (FP.ddiv (FP.l2d lo) (FP.i2d sc))), .second, .val (.double (FP.ddiv (FP.l2d (lo + (stp * cel))) (FP.i2d sc))), .second, .val (.ref b8), .unset, .unset] [(.ref b8)])) t → Steps p.tables e below (s₁.setTop (entryFrame m #[(.int p0), (.int p1), (.int p2), (.int p3), (.int p4), (.int p5)] maxLocals)) t := by
    intro t k
    refine a12 t ?_
    show Steps p.tables e below (T11.setTop (mkF m 112 #[.val (.int p0), .val (.int p1), .val (.int p2), .val (.int p3), .val (.int p4), .val (.int p5), .val (.long lo), .second, .val (.long stp), .second, .val (.long cel), .second, .val (.double (FP.i2d sc)), .second, .val (.int nx), .val (.double (FP.i2d (p5 % (1048576 : Int32)))), .second, .val (.double (FP.dadd (FP.i2d (p5 % (1048576 : Int32))) (FP.l2d wd))), .second, .val (.double (FP.ddiv (FP.l2d lo) (FP.i2d sc))), .second, .val (.double (FP.ddiv (FP.l2d (lo + (stp * cel))) (FP.i2d sc))), .second, .unset, .unset, .unset] [(.ref b8)])) _
    refine XS.astore X11.here hx rfl (hb hby at_112) rfl rfl (l' := #[.val (.int p0), .val (.int p1), .val (.int p2), .val (.int p3), .val (.int p4), .val (.int p5), .val (.long lo), .second, .val (.long stp), .second, .val (.long cel), .second, .val (.double (FP.i2d sc)), .second, .val (.int nx), .val (.double (FP.i2d (p5 % (1048576 : Int32)))), .second, .val (.double (FP.dadd (FP.i2d (p5 % (1048576 : Int32))) (FP.l2d wd))), .second, .val (.double (FP.ddiv (FP.l2d lo) (FP.i2d sc))), .second, .val (.double (FP.ddiv (FP.l2d (lo + (stp * cel))) (FP.i2d sc))), .second, .val (.ref b8), .unset, .unset]) rfl ?_
    show Steps p.tables e below (T11.setTop (mkF m 114 #[.val (.int p0), .val (.int p1), .val (.int p2), .val (.int p3), .val (.int p4), .val (.int p5), .val (.long lo), .second, .val (.long stp), .second, .val (.long cel), .second, .val (.double (FP.i2d sc)), .second, .val (.int nx), .val (.double (FP.i2d (p5 % (1048576 : Int32)))), .second, .val (.double (FP.dadd (FP.i2d (p5 % (1048576 : Int32))) (FP.l2d wd))), .second, .val (.double (FP.ddiv (FP.l2d lo) (FP.i2d sc))), .second, .val (.double (FP.ddiv (FP.l2d (lo + (stp * cel))) (FP.i2d sc))), .second, .val (.ref b8), .unset, .unset] [])) _
    refine XS.aload X11.here hx rfl (hb hby at_114) rfl rfl ?_
    exact k
  obtain ⟨cq14, kq14, q14a, q14b, q14c⟩ := isOf hZ rfl (A8.keep K11q)
  obtain ⟨_, _, ⟨T14, L14, k14, n14⟩, -, X14, ⟨Lc14, hQ14, l14, y14, z14⟩, st14⟩ := X11.virtualBack hx (y := (⟨"com/example/momentkeep/momentkeep/Grid", "dv", "()D"⟩ : MethodName)) (z := (⟨"com/example/momentkeep/momentkeep/Grid", "dv", "()D"⟩ : MethodName)) hown (mvT hZ (hw _ (List.mem_of_getElem? (i := 28) rfl))) (mvT hZ (hw _ (List.mem_of_getElem? (i := 29) rfl))) (notFace_of_selects (args := #[]) (mvT hZ (hw _ (List.mem_of_getElem? (i := 31) rfl)))) (mvT hZ (hw _ (List.mem_of_getElem? (i := 31) rfl))) (mvT hZ (hw _ (List.mem_of_getElem? (i := 30) rfl))) (by decide) (backOf (W := 0) (rmD l Z a0 hw [] b8 (FP.ddiv (FP.l2d (lo + (stp * cel))) (FP.i2d sc)) (FP.ddiv (FP.l2d lo) (FP.i2d sc)) (cel.toInt32) T11.heap n0 (Nat.le_trans (Nat.le_trans Z0 E8.1) K11q.1) G11_3 G11_2 G11_5 (nn64 hD1.1) (nn64 hD2.1)) hZ (hw _ (List.mem_of_getElem? (i := 32) rfl)) (hw _ (List.mem_of_getElem? (i := 4) rfl)) (by decide) (by decide)) q14a q14c (g := (mkF m 116 #[.val (.int p0), .val (.int p1), .val (.int p2), .val (.int p3), .val (.int p4), .val (.int p5), .val (.long lo), .second, .val (.long stp), .second, .val (.long cel), .second, .val (.double (FP.i2d sc)), .second, .val (.int nx), .val (.double (FP.i2d (p5 % (1048576 : Int32)))), .second, .val (.double (FP.dadd (FP.i2d (p5 % (1048576 : Int32))) (FP.l2d wd))), .second, .val (.double (FP.ddiv (FP.l2d lo) (FP.i2d sc))), .second, .val (.double (FP.ddiv (FP.l2d (lo + (stp * cel))) (FP.i2d sc))), .second, .val (.ref b8), .unset, .unset] [(.ref b8)])) rfl (by rw [hml]; rfl) (Steps.refl _) (argsL := []) (rest := []) (lenOf own_pd2 rfl) rfl (by show 2 * 0 + _ ≤ _; exact Nat.le_of_eq rfl) (hb hby at_116) (fun _ _ => ⟨rfl, rfl, (by decide : 1 + 0 ≤ _), (by decide : 6 + 0 ≤ _)⟩)
  dsimp only [Pt.U, Pt.locs, Pt.cells, Pt.slots] at X14 l14 y14 z14 st14 hQ14
  subst l14 y14 z14
  obtain ⟨rfl, N14q, e14q⟩ := hQ14
  have N14 := Fr.app N11 N14q
  have a15 : ∀ t, Steps p.tables e below (T14.setTop (mkF m 119 #[.val (.int p0), .val (.int p1), .val (.int p2), .val (.int p3), .val (.int p4), .val (.int p5), .val (.long lo), .second, .val (.long stp), .second, .val (.long cel), .second, .val (.double (FP.i2d sc)), .second, .val (.int nx), .val (.double (FP.i2d (p5 % (1048576 : Int32)))), .second, .val (.double (FP.dadd (FP.i2d (p5 % (1048576 : Int32))) (FP.l2d wd))), .second, .val (.double (FP.ddiv (FP.l2d lo) (FP.i2d sc))), .second, .val (.double (FP.ddiv (FP.l2d (lo + (stp * cel))) (FP.i2d sc))), .second, .val (.ref b8), .unset, .unset] [(.double (FP.ddiv (FP.dsub (FP.ddiv (FP.l2d (lo + (stp * cel))) (FP.i2d sc)) (FP.ddiv (FP.l2d lo) (FP.i2d sc))) (FP.i2d (cel.toInt32))))])) t → Steps p.tables e below (s₁.setTop (entryFrame m #[(.int p0), (.int p1), (.int p2), (.int p3), (.int p4), (.int p5)] maxLocals)) t := fun t k => a13 t (st14.trans k)
  have a16 : ∀ t, Steps p.tables e below (T14.setTop (mkF m 138 #[.val (.int p0), .val (.int p1), .val (.int p2), .val (.int p3), .val (.int p4), .val (.int p5), .val (.long lo), .second, .val (.long stp), .second, .val (.long cel), .second, .val (.double (FP.i2d sc)), .second, .val (.int nx), .val (.double (FP.i2d (p5 % (1048576 : Int32)))), .second, .val (.double (FP.dadd (FP.i2d (p5 % (1048576 : Int32))) (FP.l2d wd))), .second, .val (.double (FP.ddiv (FP.l2d lo) (FP.i2d sc))), .second, .val (.double (FP.ddiv (FP.l2d (lo + (stp * cel))) (FP.i2d sc))), .second, .val (.ref b8), .val (.double (FP.ddiv (FP.dsub (FP.ddiv (FP.l2d (lo + (stp * cel))) (FP.i2d sc)) (FP.ddiv (FP.l2d lo) (FP.i2d sc))) (FP.i2d (cel.toInt32)))), .second] [(.int (1 : Int32))])) t → Steps p.tables e below (s₁.setTop (entryFrame m #[(.int p0), (.int p1), (.int p2), (.int p3), (.int p4), (.int p5)] maxLocals)) t := by
    intro t k
    refine a15 t ?_
    show Steps p.tables e below (T14.setTop (mkF m 119 #[.val (.int p0), .val (.int p1), .val (.int p2), .val (.int p3), .val (.int p4), .val (.int p5), .val (.long lo), .second, .val (.long stp), .second, .val (.long cel), .second, .val (.double (FP.i2d sc)), .second, .val (.int nx), .val (.double (FP.i2d (p5 % (1048576 : Int32)))), .second, .val (.double (FP.dadd (FP.i2d (p5 % (1048576 : Int32))) (FP.l2d wd))), .second, .val (.double (FP.ddiv (FP.l2d lo) (FP.i2d sc))), .second, .val (.double (FP.ddiv (FP.l2d (lo + (stp * cel))) (FP.i2d sc))), .second, .val (.ref b8), .unset, .unset] [(.double (FP.ddiv (FP.dsub (FP.ddiv (FP.l2d (lo + (stp * cel))) (FP.i2d sc)) (FP.ddiv (FP.l2d lo) (FP.i2d sc))) (FP.i2d (cel.toInt32))))])) _
    refine XS.dstore X14.here hx rfl (hb hby at_119) rfl (l' := #[.val (.int p0), .val (.int p1), .val (.int p2), .val (.int p3), .val (.int p4), .val (.int p5), .val (.long lo), .second, .val (.long stp), .second, .val (.long cel), .second, .val (.double (FP.i2d sc)), .second, .val (.int nx), .val (.double (FP.i2d (p5 % (1048576 : Int32)))), .second, .val (.double (FP.dadd (FP.i2d (p5 % (1048576 : Int32))) (FP.l2d wd))), .second, .val (.double (FP.ddiv (FP.l2d lo) (FP.i2d sc))), .second, .val (.double (FP.ddiv (FP.l2d (lo + (stp * cel))) (FP.i2d sc))), .second, .val (.ref b8), .val (.double (FP.ddiv (FP.dsub (FP.ddiv (FP.l2d (lo + (stp * cel))) (FP.i2d sc)) (FP.ddiv (FP.l2d lo) (FP.i2d sc))) (FP.i2d (cel.toInt32)))), .second]) rfl ?_
    show Steps p.tables e below (T14.setTop (mkF m 121 #[.val (.int p0), .val (.int p1), .val (.int p2), .val (.int p3), .val (.int p4), .val (.int p5), .val (.long lo), .second, .val (.long stp), .second, .val (.long cel), .second, .val (.double (FP.i2d sc)), .second, .val (.int nx), .val (.double (FP.i2d (p5 % (1048576 : Int32)))), .second, .val (.double (FP.dadd (FP.i2d (p5 % (1048576 : Int32))) (FP.l2d wd))), .second, .val (.double (FP.ddiv (FP.l2d lo) (FP.i2d sc))), .second, .val (.double (FP.ddiv (FP.l2d (lo + (stp * cel))) (FP.i2d sc))), .second, .val (.ref b8), .val (.double (FP.ddiv (FP.dsub (FP.ddiv (FP.l2d (lo + (stp * cel))) (FP.i2d sc)) (FP.ddiv (FP.l2d lo) (FP.i2d sc))) (FP.i2d (cel.toInt32)))), .second] [])) _
    refine XS.dload X14.here hx rfl (hb hby at_121) rfl ?_
    show Steps p.tables e below (T14.setTop (mkF m 123 #[.val (.int p0), .val (.int p1), .val (.int p2), .val (.int p3), .val (.int p4), .val (.int p5), .val (.long lo), .second, .val (.long stp), .second, .val (.long cel), .second, .val (.double (FP.i2d sc)), .second, .val (.int nx), .val (.double (FP.i2d (p5 % (1048576 : Int32)))), .second, .val (.double (FP.dadd (FP.i2d (p5 % (1048576 : Int32))) (FP.l2d wd))), .second, .val (.double (FP.ddiv (FP.l2d lo) (FP.i2d sc))), .second, .val (.double (FP.ddiv (FP.l2d (lo + (stp * cel))) (FP.i2d sc))), .second, .val (.ref b8), .val (.double (FP.ddiv (FP.dsub (FP.ddiv (FP.l2d (lo + (stp * cel))) (FP.i2d sc)) (FP.ddiv (FP.l2d lo) (FP.i2d sc))) (FP.i2d (cel.toInt32)))), .second] [(.double (FP.ddiv (FP.dsub (FP.ddiv (FP.l2d (lo + (stp * cel))) (FP.i2d sc)) (FP.ddiv (FP.l2d lo) (FP.i2d sc))) (FP.i2d (cel.toInt32))))])) _
    refine XS.lload X14.here hx rfl (hb hby at_123) rfl ?_
    show Steps p.tables e below (T14.setTop (mkF m 125 #[.val (.int p0), .val (.int p1), .val (.int p2), .val (.int p3), .val (.int p4), .val (.int p5), .val (.long lo), .second, .val (.long stp), .second, .val (.long cel), .second, .val (.double (FP.i2d sc)), .second, .val (.int nx), .val (.double (FP.i2d (p5 % (1048576 : Int32)))), .second, .val (.double (FP.dadd (FP.i2d (p5 % (1048576 : Int32))) (FP.l2d wd))), .second, .val (.double (FP.ddiv (FP.l2d lo) (FP.i2d sc))), .second, .val (.double (FP.ddiv (FP.l2d (lo + (stp * cel))) (FP.i2d sc))), .second, .val (.ref b8), .val (.double (FP.ddiv (FP.dsub (FP.ddiv (FP.l2d (lo + (stp * cel))) (FP.i2d sc)) (FP.ddiv (FP.l2d lo) (FP.i2d sc))) (FP.i2d (cel.toInt32)))), .second] [(.long stp), (.double (FP.ddiv (FP.dsub (FP.ddiv (FP.l2d (lo + (stp * cel))) (FP.i2d sc)) (FP.ddiv (FP.l2d lo) (FP.i2d sc))) (FP.i2d (cel.toInt32))))])) _
    refine XS.l2dS X14.here hx rfl (hb hby at_125) rfl rfl ?_
    show Steps p.tables e below (T14.setTop (mkF m 126 #[.val (.int p0), .val (.int p1), .val (.int p2), .val (.int p3), .val (.int p4), .val (.int p5), .val (.long lo), .second, .val (.long stp), .second, .val (.long cel), .second, .val (.double (FP.i2d sc)), .second, .val (.int nx), .val (.double (FP.i2d (p5 % (1048576 : Int32)))), .second, .val (.double (FP.dadd (FP.i2d (p5 % (1048576 : Int32))) (FP.l2d wd))), .second, .val (.double (FP.ddiv (FP.l2d lo) (FP.i2d sc))), .second, .val (.double (FP.ddiv (FP.l2d (lo + (stp * cel))) (FP.i2d sc))), .second, .val (.ref b8), .val (.double (FP.ddiv (FP.dsub (FP.ddiv (FP.l2d (lo + (stp * cel))) (FP.i2d sc)) (FP.ddiv (FP.l2d lo) (FP.i2d sc))) (FP.i2d (cel.toInt32)))), .second] [(.double (FP.l2d stp)), (.double (FP.ddiv (FP.dsub (FP.ddiv (FP.l2d (lo + (stp * cel))) (FP.i2d sc)) (FP.ddiv (FP.l2d lo) (FP.i2d sc))) (FP.i2d (cel.toInt32))))])) _
    refine XS.dload X14.here hx rfl (hb hby at_126) rfl ?_
    show Steps p.tables e below (T14.setTop (mkF m 128 #[.val (.int p0), .val (.int p1), .val (.int p2), .val (.int p3), .val (.int p4), .val (.int p5), .val (.long lo), .second, .val (.long stp), .second, .val (.long cel), .second, .val (.double (FP.i2d sc)), .second, .val (.int nx), .val (.double (FP.i2d (p5 % (1048576 : Int32)))), .second, .val (.double (FP.dadd (FP.i2d (p5 % (1048576 : Int32))) (FP.l2d wd))), .second, .val (.double (FP.ddiv (FP.l2d lo) (FP.i2d sc))), .second, .val (.double (FP.ddiv (FP.l2d (lo + (stp * cel))) (FP.i2d sc))), .second, .val (.ref b8), .val (.double (FP.ddiv (FP.dsub (FP.ddiv (FP.l2d (lo + (stp * cel))) (FP.i2d sc)) (FP.ddiv (FP.l2d lo) (FP.i2d sc))) (FP.i2d (cel.toInt32)))), .second] [(.double (FP.i2d sc)), (.double (FP.l2d stp)), (.double (FP.ddiv (FP.dsub (FP.ddiv (FP.l2d (lo + (stp * cel))) (FP.i2d sc)) (FP.ddiv (FP.l2d lo) (FP.i2d sc))) (FP.i2d (cel.toInt32))))])) _
    refine XS.ddivS X14.here hx rfl (hb hby at_128) rfl (nn64 hV3.1) rfl ?_
    show Steps p.tables e below (T14.setTop (mkF m 129 #[.val (.int p0), .val (.int p1), .val (.int p2), .val (.int p3), .val (.int p4), .val (.int p5), .val (.long lo), .second, .val (.long stp), .second, .val (.long cel), .second, .val (.double (FP.i2d sc)), .second, .val (.int nx), .val (.double (FP.i2d (p5 % (1048576 : Int32)))), .second, .val (.double (FP.dadd (FP.i2d (p5 % (1048576 : Int32))) (FP.l2d wd))), .second, .val (.double (FP.ddiv (FP.l2d lo) (FP.i2d sc))), .second, .val (.double (FP.ddiv (FP.l2d (lo + (stp * cel))) (FP.i2d sc))), .second, .val (.ref b8), .val (.double (FP.ddiv (FP.dsub (FP.ddiv (FP.l2d (lo + (stp * cel))) (FP.i2d sc)) (FP.ddiv (FP.l2d lo) (FP.i2d sc))) (FP.i2d (cel.toInt32)))), .second] [(.double (FP.ddiv (FP.l2d stp) (FP.i2d sc))), (.double (FP.ddiv (FP.dsub (FP.ddiv (FP.l2d (lo + (stp * cel))) (FP.i2d sc)) (FP.ddiv (FP.l2d lo) (FP.i2d sc))) (FP.i2d (cel.toInt32))))])) _
    refine XS.dcmpS X14.here hx rfl (hb hby at_129) rfl rfl ?_
    show Steps p.tables e below (T14.setTop (mkF m 130 #[.val (.int p0), .val (.int p1), .val (.int p2), .val (.int p3), .val (.int p4), .val (.int p5), .val (.long lo), .second, .val (.long stp), .second, .val (.long cel), .second, .val (.double (FP.i2d sc)), .second, .val (.int nx), .val (.double (FP.i2d (p5 % (1048576 : Int32)))), .second, .val (.double (FP.dadd (FP.i2d (p5 % (1048576 : Int32))) (FP.l2d wd))), .second, .val (.double (FP.ddiv (FP.l2d lo) (FP.i2d sc))), .second, .val (.double (FP.ddiv (FP.l2d (lo + (stp * cel))) (FP.i2d sc))), .second, .val (.ref b8), .val (.double (FP.ddiv (FP.dsub (FP.ddiv (FP.l2d (lo + (stp * cel))) (FP.i2d sc)) (FP.ddiv (FP.l2d lo) (FP.i2d sc))) (FP.i2d (cel.toInt32)))), .second] [(.int (cmpValue (FP.dcmp (FP.ddiv (FP.dsub (FP.ddiv (FP.l2d (lo + (stp * cel))) (FP.i2d sc)) (FP.ddiv (FP.l2d lo) (FP.i2d sc))) (FP.i2d (cel.toInt32))) (FP.ddiv (FP.l2d stp) (FP.i2d sc))) .l))])) _
    refine XS.ifNo X14.here hx rfl (hb hby at_130) rfl ((if0 _ _).trans (teq ((cv_eq _ _).mpr (cmp_eq hD2.nn hV3.nn (hD2.eq hV3)))).2) ?_
    show Steps p.tables e below (T14.setTop (mkF m 133 #[.val (.int p0), .val (.int p1), .val (.int p2), .val (.int p3), .val (.int p4), .val (.int p5), .val (.long lo), .second, .val (.long stp), .second, .val (.long cel), .second, .val (.double (FP.i2d sc)), .second, .val (.int nx), .val (.double (FP.i2d (p5 % (1048576 : Int32)))), .second, .val (.double (FP.dadd (FP.i2d (p5 % (1048576 : Int32))) (FP.l2d wd))), .second, .val (.double (FP.ddiv (FP.l2d lo) (FP.i2d sc))), .second, .val (.double (FP.ddiv (FP.l2d (lo + (stp * cel))) (FP.i2d sc))), .second, .val (.ref b8), .val (.double (FP.ddiv (FP.dsub (FP.ddiv (FP.l2d (lo + (stp * cel))) (FP.i2d sc)) (FP.ddiv (FP.l2d lo) (FP.i2d sc))) (FP.i2d (cel.toInt32)))), .second] [])) _
    refine XS.iconst X14.here hx rfl (hb hby at_133) ?_
    show Steps p.tables e below (T14.setTop (mkF m 134 #[.val (.int p0), .val (.int p1), .val (.int p2), .val (.int p3), .val (.int p4), .val (.int p5), .val (.long lo), .second, .val (.long stp), .second, .val (.long cel), .second, .val (.double (FP.i2d sc)), .second, .val (.int nx), .val (.double (FP.i2d (p5 % (1048576 : Int32)))), .second, .val (.double (FP.dadd (FP.i2d (p5 % (1048576 : Int32))) (FP.l2d wd))), .second, .val (.double (FP.ddiv (FP.l2d lo) (FP.i2d sc))), .second, .val (.double (FP.ddiv (FP.l2d (lo + (stp * cel))) (FP.i2d sc))), .second, .val (.ref b8), .val (.double (FP.ddiv (FP.dsub (FP.ddiv (FP.l2d (lo + (stp * cel))) (FP.i2d sc)) (FP.ddiv (FP.l2d lo) (FP.i2d sc))) (FP.i2d (cel.toInt32)))), .second] [(.int (1 : Int32))])) _
    refine XS.goto X14.here hx rfl (pc0 := 134) (pc' := 138) rfl (hb hby at_134) (by decide) (by decide) ?_
    exact k
  obtain ⟨fs, hr, hrun, hended, hW, hsame⟩ := X14.leave (v := some (.int (1 : Int32))) (fun h => by rw [Bd.returns] at h; cases h)
  refine ⟨_, _, a16 _ ?_, hrun, hended, _, _, rfl, ?_, ⟨_, rfl⟩, hW, hsame.mono (by decide) (by decide)⟩
  · show Steps p.tables e below (T14.setTop (mkF m 138 #[.val (.int p0), .val (.int p1), .val (.int p2), .val (.int p3), .val (.int p4), .val (.int p5), .val (.long lo), .second, .val (.long stp), .second, .val (.long cel), .second, .val (.double (FP.i2d sc)), .second, .val (.int nx), .val (.double (FP.i2d (p5 % (1048576 : Int32)))), .second, .val (.double (FP.dadd (FP.i2d (p5 % (1048576 : Int32))) (FP.l2d wd))), .second, .val (.double (FP.ddiv (FP.l2d lo) (FP.i2d sc))), .second, .val (.double (FP.ddiv (FP.l2d (lo + (stp * cel))) (FP.i2d sc))), .second, .val (.ref b8), .val (.double (FP.ddiv (FP.dsub (FP.ddiv (FP.l2d (lo + (stp * cel))) (FP.i2d sc)) (FP.ddiv (FP.l2d lo) (FP.i2d sc))) (FP.i2d (cel.toInt32)))), .second] [(.int (1 : Int32))])) _
    exact retN X14 hx (t := .boolean) Bd.returns (by simp) (hb hby at_138) hr
  · show Q0 Z p0 p1 p2 p3 p4 p5 h0 n0 _ T14.heap _
    rw [e14q]
    exact ⟨rfl, N14⟩
set_option maxRecDepth 65536 in
set_option maxHeartbeats 40000000 in
theorem comes_1 {Post : Tables → Env → Array Value → State → Outcome → State → Prop} (hpost : ∀ tb e args s v u, (limb_1_1.after args s (.returned v) u = true ∧ limb_1_2.after args s (.returned v) u = true ∧ True) → FrameEnd s (.returned v) u (Jvm.fieldLocs frame_1_writes args s ++ Jvm.arrayLocs frame_1_arrays args s ++ Jvm.staticLocs frame_1_statics s) 16 128 → Post tb e args s (.returned v) u) :
    ArmFor flags0 classFile x code maxLocals ret World_1 tables_1 room_1 Calls_1 rest_1 Pre_1 Post := by
  intro l hfl _ _ p e ha hc hk s m args below hf hA hF happ hP
  obtain ⟨hcalls, hrest, hpre⟩ := hP
  obtain ⟨-, -, -, hnamed, -, -, -, hat⟩ := (Spec.applies_iff hf).mp happ
  obtain ⟨hg, hn⟩ := and_e (Cond.before_iff.mp (show (Jvm.Cond.and given_1 narrow_1).before args s = true from hpre))
  obtain ⟨g1, g2⟩ := and_e hg
  obtain ⟨g3, g4⟩ := and_e g2
  obtain ⟨g5, g6⟩ := and_e g4
  obtain ⟨g7, g8⟩ := and_e g6
  obtain ⟨g9, g10⟩ := and_e g8
  obtain ⟨g11, g12⟩ := and_e g10
  obtain ⟨w0, w1, w2, w3, w4, w5, rfl⟩ : ∃ w0 w1 w2 w3 w4 w5 : Value, args = #[w0, w1, w2, w3, w4, w5] := by
    have hs : args.size = 6 := by simpa [Cond.value, given_1] using g1
    obtain ⟨L⟩ := args
    match L, hs with
    | [w0, w1, w2, w3, w4, w5], _ => exact ⟨w0, w1, w2, w3, w4, w5, rfl⟩
  have hw := fun d (hd : d ∈ tables_1) => atoms_spec (ws := Jvm.Cond.code x code maxLocals ret :: tables_1) hat d (List.mem_cons_of_mem _ hd)
  have hfit : Fit s := fun {y c} hc i hi => by
    obtain ⟨ha, rfl⟩ := Array.getElem?_eq_some_iff.mp hc
    have q := List.all_eq_true.mp ((Array.all_eq_true_iff_forall_mem.mp hF) _ (Array.getElem_mem ha)) i (List.mem_range.mpr hi)
    simpa [Array.getElem?_eq_getElem hi] using q
  obtain ⟨i0, ei0⟩ := is_v g3
  obtain rfl : w0 = (.int i0) := Option.some.inj ei0
  obtain ⟨i1, ei1⟩ := is_v g5
  obtain rfl : w1 = (.int i1) := Option.some.inj ei1
  obtain ⟨i2, ei2⟩ := is_v g7
  obtain rfl : w2 = (.int i2) := Option.some.inj ei2
  obtain ⟨i3, ei3⟩ := is_v g9
  obtain rfl : w3 = (.int i3) := Option.some.inj ei3
  obtain ⟨i4, ei4⟩ := is_v g11
  obtain rfl : w4 = (.int i4) := Option.some.inj ei4
  obtain ⟨i5, ei5⟩ := is_v g12
  obtain rfl : w5 = (.int i5) := Option.some.inj ei5
  obtain ⟨n, o, h1, h2, h3, _, L, rfl, ⟨rfl, N⟩, hq⟩ := rm0 l s _ hw tables_1 i0 i1 i2 i3 i4 i5  s.heap s.heap.size (Nat.le_refl _)  p e ha hc hk s m _ below hf ((Spec.applies_iff_loose hf).mp happ).1 ⟨rfl, State.Warmed39.refl s, rfl⟩ trivial
  refine ⟨n, _, h1, h2, h3, hpost _ _ _ _ _ _ ⟨Cond.after_iff.mpr rfl, Cond.after_iff.mpr (eq_i res_at (Term.int_eval (1)) rfl), trivial⟩ ⟨hq.1, hq.2.1, (hq.2.2.sift fun y hy => Or.inr (N y hy)).mono (by decide) (by decide)⟩⟩
theorem main_1_1 : Claimed_1_1 := comes_1 fun _ _ _ _ _ _ h hF => ⟨h.1, hF⟩
theorem main_1_2 : Claimed_1_2 := comes_1 fun _ _ _ _ _ _ h hF => ⟨h.2.1, hF⟩
end Jvm.Pilot.@@N@@
namespace Jvm.Pilot.@@N@@
open Jvm Jvm.ClassFile Sem Op Lib Jvm.Free Jvm.Stand Jvm.Pilot.@@N@@.Jvm.D
/-! MADE BY PROGRAM (witnessworld.py) out of the Statement's table words and the real class files: 10 classes; the members and pool entries that the words name. The judged class is class 1, her method 1. -/
namespace start1
open Jvm.ClassFile
def u (s : String) : CpInfo := .utf8 (stringToUtf16 s)
/-- a pool by its gaps: so many unusable entries, then the entry; so many at the end -/
def gap : Nat → List CpInfo → List CpInfo
  | 0, r => r
  | n + 1, r => .unusable :: gap n r
def poolList (es : List (Nat × CpInfo)) (last : Nat) : List CpInfo := es.foldr (fun e r => gap e.1 (e.2 :: r)) (gap last [])
def pool (es : List (Nat × CpInfo)) (last : Nat) : Array CpInfo := ⟨poolList es last⟩
def fileOf (pool : Array CpInfo) (this : Nat) (attrs : Array Attribute := #[]) (ms : Array MethodInfo := #[]) (fl : Nat := 33) (sup : Nat := 0) (ifs : Array Nat := #[]) (fds : Array FieldInfo := #[]) : ClassFile where
  minorVersion := 0
  majorVersion := 65
  constantPool := pool
  accessFlags := fl
  thisClass := this
  superClass := sup
  interfaces := ifs
  fields := fds
  methods := ms
  attributes := attrs
def plain (name : String) (sup : Option ClassId) : Class where
  name := name
  kind := .ordinary
  loader := none
  accessFlags := 33
  super := sup
  interfaces := #[]
  cf := none
  fields := #[]
  methods := #[]
  instanceTypes := #[]
  staticTypes := #[]
  resolved := #[]
  callSites := []
  init := .initialized
  statics := none
  mirror := none

def pool0 : Array CpInfo := pool [(5, u "<init>"), (0, u "()V"), (1, .class_ 10), (1, u "java/lang/Object")] 113

def k0c0 : Code := { maxStack := 0, maxLocals := 1, code := object_method_1_code, exceptionTable := #[], attributes := #[] }
def k0m0 : Method := { name := "<init>", desc := "()V", sig := { parameters := [], returnType := none }, accessFlags := 1, code := some k0c0 }
/-- java/lang/Object -/
def k0 : Class := { plain "java/lang/Object" none with
  accessFlags := 33
  interfaces := #[]
  cf := some (fileOf pool0 8 #[] #[{ accessFlags := 1, nameIndex := 5, descriptorIndex := 6, attributes := #[] }] 33 0 #[] #[])
  fields := #[]
  methods := #[k0m0]
  instanceTypes := #[]
  staticTypes := #[]
  resolved := Array.replicate 124 none
  statics := none }

def pool1 : Array CpInfo := pool [(2, .class_ 4), (1, u "java/lang/Object"), (0, u "<init>"), (0, u "()V"), (0, .integer 1048576), (0, .integer 1048575), (0, .class_ 10), (0, u "com/example/momentkeep/momentkeep/Grid"), (0, .methodref 9 12), (0, .nameAndType 5 13), (0, u "(DDDDII)V"), (0, .methodref 9 15), (0, .nameAndType 16 17), (0, u "dv"), (0, u "()D"), (0, .class_ 19), (0, u "com/example/momentkeep/momentkeep/GridDvPinLaw"), (2, u "law"), (0, u "(IIIIII)Z")] 3

def k1m0 : Method := { name := "<init>", desc := "()V", sig := { parameters := [], returnType := none }, accessFlags := 1, code := none }
def k1c1 : Code := { maxStack := 13, maxLocals := 26, code := code, exceptionTable := #[], attributes := #[] }
def k1m1 : Method := { name := "law", desc := "(IIIIII)Z", sig := { parameters := [.int, .int, .int, .int, .int, .int], returnType := some .boolean }, accessFlags := 9, code := some k1c1 }
/-- com/example/momentkeep/momentkeep/GridDvPinLaw -/
def k1 : Class := { plain "com/example/momentkeep/momentkeep/GridDvPinLaw" (some 0) with
  accessFlags := 49
  interfaces := #[]
  cf := some (fileOf pool1 18 #[] #[{ accessFlags := 1, nameIndex := 5, descriptorIndex := 6, attributes := #[] }, { accessFlags := 9, nameIndex := 22, descriptorIndex := 23, attributes := #[] }] 49 2 #[] #[])
  fields := #[]
  methods := #[k1m0, k1m1]
  instanceTypes := #[]
  staticTypes := #[]
  resolved := Array.replicate 27 none
  statics := none }

def pool2 : Array CpInfo := pool [(1, .methodref 2 3), (0, .class_ 4), (0, .nameAndType 5 6), (0, u "java/lang/Object"), (0, u "<init>"), (0, u "()V"), (0, .class_ 8), (0, u "java/lang/Record")] 13

def k2c0 : Code := { maxStack := 1, maxLocals := 1, code := jdk_30_method_1_code, exceptionTable := #[], attributes := #[] }
def k2m0 : Method := { name := "<init>", desc := "()V", sig := { parameters := [], returnType := none }, accessFlags := 4, code := some k2c0 }
/-- java/lang/Record -/
def k2 : Class := { plain "java/lang/Record" (some 0) with
  accessFlags := 1057
  interfaces := #[]
  cf := some (fileOf pool2 7 #[] #[{ accessFlags := 4, nameIndex := 5, descriptorIndex := 6, attributes := #[] }] 1057 2 #[] #[])
  fields := #[]
  methods := #[k2m0]
  instanceTypes := #[]
  staticTypes := #[]
  resolved := Array.replicate 22 none
  statics := none }

def pool3 : Array CpInfo := pool [(3, .methodref 4 5), (0, .class_ 6), (0, .nameAndType 7 8), (0, u "java/lang/Record"), (0, u "<init>"), (0, u "()V"), (0, .fieldref 10 11), (0, .class_ 12), (0, .nameAndType 13 14), (0, u "com/example/momentkeep/momentkeep/Grid"), (0, u "xMin"), (0, u "D"), (0, .fieldref 10 16), (0, .nameAndType 17 14), (0, u "xMax"), (0, .fieldref 10 19), (0, .nameAndType 20 14), (0, u "vMin"), (0, .fieldref 10 22), (0, .nameAndType 23 14), (0, u "vMax"), (0, .fieldref 10 25), (0, .nameAndType 26 27), (0, u "nx"), (0, u "I"), (0, .fieldref 10 29), (0, .nameAndType 30 27), (0, u "nv"), (5, u "()D"), (16, u "dv"), (22, u "MAX_SIZE"), (2, u "(DDDDII)V")] 46

def k3c0 : Code := { maxStack := 3, maxLocals := 11, code := prog_14_method_1_code, exceptionTable := #[], attributes := #[] }
def k3m0 : Method := { name := "<init>", desc := "(DDDDII)V", sig := { parameters := [.double, .double, .double, .double, .int, .int], returnType := none }, accessFlags := 0, code := some k3c0 }
def k3c1 : Code := { maxStack := 4, maxLocals := 1, code := prog_14_method_3_code, exceptionTable := #[], attributes := #[] }
def k3m1 : Method := { name := "dv", desc := "()D", sig := { parameters := [], returnType := some .double }, accessFlags := 0, code := some k3c1 }
/-- com/example/momentkeep/momentkeep/Grid -/
def k3 : Class := { plain "com/example/momentkeep/momentkeep/Grid" (some 2) with
  accessFlags := 48
  interfaces := #[]
  cf := some (fileOf pool3 10 #[] #[{ accessFlags := 0, nameIndex := 7, descriptorIndex := 79, attributes := #[] }, { accessFlags := 0, nameIndex := 53, descriptorIndex := 36, attributes := #[] }] 48 4 #[] #[{ accessFlags := 18, nameIndex := 13, descriptorIndex := 14, attributes := #[] }, { accessFlags := 18, nameIndex := 17, descriptorIndex := 14, attributes := #[] }, { accessFlags := 18, nameIndex := 20, descriptorIndex := 14, attributes := #[] }, { accessFlags := 18, nameIndex := 23, descriptorIndex := 14, attributes := #[] }, { accessFlags := 18, nameIndex := 26, descriptorIndex := 27, attributes := #[] }, { accessFlags := 18, nameIndex := 30, descriptorIndex := 27, attributes := #[] }, { accessFlags := 24, nameIndex := 76, descriptorIndex := 27, attributes := #[] }])
  fields := #[{ name := "xMin", type := .double, accessFlags := 18, slot := 0, constantValue := 0 }, { name := "xMax", type := .double, accessFlags := 18, slot := 1, constantValue := 0 }, { name := "vMin", type := .double, accessFlags := 18, slot := 2, constantValue := 0 }, { name := "vMax", type := .double, accessFlags := 18, slot := 3, constantValue := 0 }, { name := "nx", type := .int, accessFlags := 18, slot := 4, constantValue := 0 }, { name := "nv", type := .int, accessFlags := 18, slot := 5, constantValue := 0 }, { name := "MAX_SIZE", type := .int, accessFlags := 24, slot := 0, constantValue := 0 }]
  methods := #[k3m0, k3m1]
  instanceTypes := #[.double, .double, .double, .double, .int, .int]
  staticTypes := #[.int]
  resolved := Array.replicate 126 none
  statics := none }

def pool4 : Array CpInfo := pool [(1, u "java/lang/Cloneable"), (0, .class_ 1), (0, u "java/lang/Object"), (0, .class_ 3)] 3

/-- java/lang/Cloneable -/
def k4 : Class := { plain "java/lang/Cloneable" (some 0) with
  accessFlags := 1537
  interfaces := #[]
  cf := some (fileOf pool4 2 #[] #[] 1537 4 #[] #[])
  fields := #[]
  methods := #[]
  instanceTypes := #[]
  staticTypes := #[]
  resolved := Array.replicate 8 none
  statics := none }

def pool5 : Array CpInfo := pool [(1, u "java/io/Serializable"), (0, .class_ 1), (0, u "java/lang/Object"), (0, .class_ 3)] 3

/-- java/io/Serializable -/
def k5 : Class := { plain "java/io/Serializable" (some 0) with
  accessFlags := 1537
  interfaces := #[]
  cf := some (fileOf pool5 2 #[] #[] 1537 4 #[] #[])
  fields := #[]
  methods := #[]
  instanceTypes := #[]
  staticTypes := #[]
  resolved := Array.replicate 8 none
  statics := none }

/-- the primitive byte -/
def k6 : Class := { plain "byte" none with kind := .primitive 'B', accessFlags := 0x411 }
/-- [B -/
def k7 : Class := { plain "[B" (some 0) with kind := .array 6 .byte, interfaces := #[4, 5], accessFlags := 1041 }

/-- the primitive int -/
def k8 : Class := { plain "int" none with kind := .primitive 'I', accessFlags := 0x411 }
/-- [I -/
def k9 : Class := { plain "[I" (some 0) with kind := .array 8 .int, interfaces := #[4, 5], accessFlags := 1041 }

def heap : Heap := #[]
def classes : Array Class := #[k0, k1, k2, k3, k4, k5, k6, k7, k8, k9]
def interned : List (Array UInt16 × Addr) := []
def slotsUsed : Nat := 0
def theMethod : MethodId := ⟨1, 1⟩
def args0 : Array Value := #[.int 7, .int 5, .int 1, .int 2, .int 3, .int 4]
def aboutOver (below : List Frame) : State where
  vm := { classes := classes, interned := interned.toArray }
  heap := heap
  slotsUsed := slotsUsed
  threads := #[{ frames := .invoking theMethod args0 :: below }]
def below0 : List Frame := [.native { method := ⟨0, 0⟩, args := #[] }]
def about1 : State := aboutOver below0
def p0 : Program := .bare "" "" ""
def e0 : Env := launch0.env 0 0 0
theorem w_frames : about1.frames = Frame.invoking theMethod args0 :: below0 := rfl
set_option maxRecDepth 65536 in
theorem w_args : argsFit about1.vm theMethod args0 = true := by decide +kernel
set_option maxRecDepth 65536 in
theorem w_heap : heapFits about1 = true := by decide +kernel
set_option maxRecDepth 65536 in
theorem w_runnable : about1.curStatus? = some .runnable := by decide +kernel
set_option maxRecDepth 65536 in
theorem w_alone : about1.alone = true := by decide +kernel
set_option maxRecDepth 65536 in
theorem w_named : about1.methodNamed? x = some theMethod := by decide +kernel
set_option maxRecDepth 65536 in
theorem w_hears : about1.hears theMethod below0 = true := by decide +kernel
set_option maxRecDepth 65536 in
theorem w_ripe : about1.ripe theMethod args0 below0 = true := by decide +kernel
theorem w_running : about1.status = .running := rfl
set_option maxRecDepth 65536 in
theorem w_room : about1.hasRoom e0.platform room_1 = true :=
  launch0.hasRoom_least _ room_1 (by decide +kernel) (by decide +kernel) (by decide +kernel) (by decide +kernel) (by decide +kernel) (by decide +kernel)
theorem allAtoms_all (ts : List Jvm.Cond) (a : Array Jvm.Value) (st : Jvm.State) : (allAtoms ts).before a st = ts.all (fun c => c.before a st) := by
  induction ts with
  | nil => rfl
  | cons c t ih =>
    show (Jvm.Cond.and c (allAtoms t)).before a st = _
    rw [Jvm.Cond.before_and, ih, List.all_cons]
def words1 : List Jvm.Cond := Jvm.Cond.code x code maxLocals ret :: tables_1
/-- a 'code' word, met by the world's own term for the bytes: nothing is compared byte by byte -/
theorem code_word {y : MethodName} {bytes : ByteArray} {mx : Nat} {rt : Option FieldType} {a : Array Value} {s : State} {m : MethodId} {meth : Method} {c : Code} (h1 : s.methodNamed? y = some m) (h2 : s.vm.method? m = some meth) (h3 : meth.code = some c) (h4 : c.code = bytes)
    (h5 : (c.maxLocals == mx && c.exceptionTable.isEmpty && decide (c.maxStack ≤ mostOperands) && decide (meth.sig.returnType = rt) && !meth.locks && decide (parseMethodDescriptor y.desc = some meth.sig)) = true) : (Jvm.Cond.code y bytes mx rt).before a s = true := by
  simp only [Bool.and_eq_true, beq_iff_eq, Bool.not_eq_true', decide_eq_true_eq] at h5
  obtain ⟨⟨⟨⟨⟨g1, g2⟩, g3⟩, g4⟩, g5⟩, g6⟩ := h5
  simp [Cond.before, Cond.holds, Cond.value, h1, h2, h3, h4, g1, g2, g3, g4, g5, g6]
def isCode : Jvm.Cond → Bool
  | .code _ _ _ _ => true
  | _ => false
theorem all_split {L : List Jvm.Cond} {P : Jvm.Cond → Bool} (h1 : L.all (fun c => isCode c || P c) = true) (h2 : ∀ c ∈ L.filter isCode, P c = true) : L.all P = true := by
  refine List.all_eq_true.mpr fun c hc => ?_
  have h := List.all_eq_true.mp h1 c hc
  rcases Bool.eq_false_or_eq_true (isCode c) with hi | hi
  · exact h2 c (List.mem_filter.mpr ⟨hc, hi⟩)
  · simpa [hi] using h
set_option maxRecDepth 65536 in
theorem w_c0 : (Jvm.Cond.code x code maxLocals ret).before args0 about1 = true := code_word (m := ⟨1, 1⟩) (meth := k1m1) (c := k1c1) (by decide +kernel) rfl rfl rfl (by decide +kernel)
set_option maxRecDepth 65536 in
theorem w_c1 : (Jvm.Cond.code ({ cls := "com/example/momentkeep/momentkeep/Grid", name := "<init>", desc := "(DDDDII)V" } : Jvm.MethodName) prog_14_method_1_code (11 : Nat) (Option.none : Option Jvm.ClassFile.FieldType)).before args0 about1 = true := code_word (m := ⟨3, 0⟩) (meth := k3m0) (c := k3c0) (by decide +kernel) rfl rfl rfl (by decide +kernel)
set_option maxRecDepth 65536 in
theorem w_c2 : (Jvm.Cond.code ({ cls := "java/lang/Record", name := "<init>", desc := "()V" } : Jvm.MethodName) jdk_30_method_1_code (1 : Nat) (Option.none : Option Jvm.ClassFile.FieldType)).before args0 about1 = true := code_word (m := ⟨2, 0⟩) (meth := k2m0) (c := k2c0) (by decide +kernel) rfl rfl rfl (by decide +kernel)
set_option maxRecDepth 65536 in
theorem w_c3 : (Jvm.Cond.code ({ cls := "java/lang/Object", name := "<init>", desc := "()V" } : Jvm.MethodName) object_method_1_code (1 : Nat) (Option.none : Option Jvm.ClassFile.FieldType)).before args0 about1 = true := code_word (m := ⟨0, 0⟩) (meth := k0m0) (c := k0c0) (by decide +kernel) rfl rfl rfl (by decide +kernel)
set_option maxRecDepth 65536 in
theorem w_c4 : (Jvm.Cond.code ({ cls := "com/example/momentkeep/momentkeep/Grid", name := "dv", desc := "()D" } : Jvm.MethodName) prog_14_method_3_code (1 : Nat) (Option.some Jvm.ClassFile.FieldType.double)).before args0 about1 = true := code_word (m := ⟨3, 1⟩) (meth := k3m1) (c := k3c1) (by decide +kernel) rfl rfl rfl (by decide +kernel)
def codes1 : List Jvm.Cond := [Jvm.Cond.code x code maxLocals ret, Jvm.Cond.code ({ cls := "com/example/momentkeep/momentkeep/Grid", name := "<init>", desc := "(DDDDII)V" } : Jvm.MethodName) prog_14_method_1_code (11 : Nat) (Option.none : Option Jvm.ClassFile.FieldType), Jvm.Cond.code ({ cls := "java/lang/Record", name := "<init>", desc := "()V" } : Jvm.MethodName) jdk_30_method_1_code (1 : Nat) (Option.none : Option Jvm.ClassFile.FieldType), Jvm.Cond.code ({ cls := "java/lang/Object", name := "<init>", desc := "()V" } : Jvm.MethodName) object_method_1_code (1 : Nat) (Option.none : Option Jvm.ClassFile.FieldType), Jvm.Cond.code ({ cls := "com/example/momentkeep/momentkeep/Grid", name := "dv", desc := "()D" } : Jvm.MethodName) prog_14_method_3_code (1 : Nat) (Option.some Jvm.ClassFile.FieldType.double)]
set_option maxRecDepth 65536 in
theorem codes_eq : words1.filter isCode = codes1 := rfl
theorem w_codes : ∀ c ∈ words1.filter isCode, c.before args0 about1 = true := by
  rw [codes_eq]
  intro c hc
  simp only [codes1, List.mem_cons, List.not_mem_nil, or_false] at hc
  rcases hc with rfl | rfl | rfl | rfl | rfl
  · exact w_c0
  · exact w_c1
  · exact w_c2
  · exact w_c3
  · exact w_c4
set_option maxRecDepth 65536 in
theorem w_t1 : (words1.take 24).all (fun c => isCode c || c.before args0 about1) = true := by decide +kernel
set_option maxRecDepth 65536 in
theorem w_t2 : (words1.drop 24).all (fun c => isCode c || c.before args0 about1) = true := by decide +kernel
theorem w_tables : (allAtoms (Jvm.Cond.code x code maxLocals ret :: tables_1)).before args0 about1 = true := by
  rw [allAtoms_all]
  show words1.all (fun c => c.before args0 about1) = true
  refine all_split ?_ w_codes
  rw [← List.take_append_drop 24 words1, List.all_append, w_t1, w_t2]
  rfl
set_option maxRecDepth 65536 in
theorem w_case : (Jvm.Cond.and given_1 narrow_1).before args0 about1 = true := by decide +kernel
theorem w_applies : (headSpec (Jvm.Cond.code x code maxLocals ret :: tables_1) room_1).applies x e0.platform about1 = true :=
  (Spec.applies_iff w_frames).mpr ⟨w_running, w_runnable, w_alone, w_named, w_hears, w_ripe, w_room, w_tables⟩
theorem atStart : AtStart classFile x code maxLocals ret World_1 tables_1 room_1 Calls_1 rest_1 Pre_1 launch0 p0 e0 about1 theMethod args0 below0 :=
  ⟨lists_1, trivial, launch0.admits_env _ _ _, launch0.least_env, fairChoices_fair.cas, fairChoices_fair.clock, w_frames, w_args, w_heap, w_applies, trivial, trivial, w_case⟩
end start1
theorem witness_1 : WitnessClaimed_1 := ⟨start1.p0, start1.e0, start1.about1, start1.theMethod, start1.args0, start1.below0, start1.atStart⟩
end Jvm.Pilot.@@N@@
