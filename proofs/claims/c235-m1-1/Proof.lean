import JvmDerived
import JvmDerived.Pilot.@@N@@Statement
import JvmDerived.Pilot.@@N@@Code
set_option linter.unusedVariables false
set_option linter.unusedSimpArgs false
namespace Jvm.OwnFP
open Jvm.FP.Core
/-! own layer over the library's laws of doubles: values in units of the least double (zval), dyadic values, rounding bounds -/
abbrev zv (a : UInt64) : Int := zval b64 (val64 a)
theorem U_pos : (0 : Int) < (one64 : Int) := by have := one64_pos; omega
theorem signed_bd (s : Bool) (m : Nat) : -(m : Int) ≤ signed s m ∧ signed s m ≤ (m : Int) := by unfold signed; split <;> omega
theorem zv_bd (a : UInt64) : -(zmag b64 (val64 a) : Int) ≤ zv a ∧ zv a ≤ (zmag b64 (val64 a) : Int) := signed_bd _ _
theorem fin_between {a V W : UInt64} (hV : DFin V) (hW : DFin W) (hn : val64 a ≠ .nan) (h1 : zv W ≤ zv a) (h2 : zv a ≤ zv V) : DFin a := by
  cases hd : val64 a with
  | nan => exact absurd hd hn
  | fin s c q => exact ⟨s, c, q, hd⟩
  | inf s =>
    exfalso
    have a1 := hV.zval_lt; have a2 := hW.zval_lt
    have b1 := zv_bd V; have b2 := zv_bd W
    have e : zv a = signed s (b64.tails * 2 ^ (b64.exps - 2)) := by show zval b64 (val64 a) = _; rw [hd]; rfl
    generalize b64.tails * 2 ^ (b64.exps - 2) = TOP at a1 a2 e
    cases s
    · have : zv a = (TOP : Int) := e
      omega
    · have : zv a = -(TOP : Int) := e
      omega
theorem qmax_b64 : b64.qmax = 971 := by decide
theorem rep_exists (n : Int) (k : Nat) (hk : k ≤ 1074) (hn : n.natAbs < 2 ^ 53) : ∃ V, DFin V ∧ zv V * 2 ^ k = n * (one64 : Int) := by
  obtain ⟨c', q', h1, h2⟩ := round_exact (f := b64) good_b64 (decide (n < 0)) (c := n.natAbs) (q := -(k : Int)) hn (by rw [qmin_b64]; omega) (by rw [qmax_b64]; omega)
  have hf := round_fits good_b64 (.fin (decide (n < 0)) n.natAbs (-(k : Int)))
  have hv := val64_of64 hf
  rw [h1] at hv
  refine ⟨of64 (round b64 (.fin (decide (n < 0)) n.natAbs (-(k : Int)))), ⟨_, _, _, by rw [h1]; exact hv⟩, ?_⟩
  show zval b64 (val64 (of64 (round b64 (.fin (decide (n < 0)) n.natAbs (-(k : Int)))))) * 2 ^ k = _
  rw [h1, hv]
  show signed (decide (n < 0)) (inUnits c' q' b64.qmin) * 2 ^ k = _
  rw [h2]
  have e1 : inUnits n.natAbs (-(k : Int)) b64.qmin * 2 ^ k = n.natAbs * one64 := by
    unfold inUnits one64
    rw [qmin_b64, Nat.mul_assoc, ← Nat.pow_add]
    congr 2 <;> omega
  have e2 : signed (decide (n < 0)) (inUnits n.natAbs (-(k : Int)) b64.qmin) * ((2 ^ k : Nat) : Int) = signed (decide (n < 0)) n.natAbs * (one64 : Int) := by
    rw [← signed_mul, e1, signed_mul]
  have e3 : signed (decide (n < 0)) n.natAbs = n := by
    unfold signed
    by_cases h : n < 0
    · simp [h]; omega
    · simp [h]; omega
  rw [e3] at e2
  rw [← e2, Int.natCast_pow]; rfl
theorem rep_up (n : Int) (j : Nat) (hj : j ≤ 971) (hn : n.natAbs < 2 ^ 53) : ∃ V, DFin V ∧ zv V = n * 2 ^ j * (one64 : Int) := by
  obtain ⟨c', q', h1, h2⟩ := round_exact (f := b64) good_b64 (decide (n < 0)) (c := n.natAbs) (q := (j : Int)) hn (by rw [qmin_b64]; omega) (by rw [qmax_b64]; omega)
  have hf := round_fits good_b64 (.fin (decide (n < 0)) n.natAbs (j : Int))
  have hv := val64_of64 hf
  rw [h1] at hv
  refine ⟨of64 (round b64 (.fin (decide (n < 0)) n.natAbs (j : Int))), ⟨_, _, _, by rw [h1]; exact hv⟩, ?_⟩
  show zval b64 (val64 (of64 (round b64 (.fin (decide (n < 0)) n.natAbs (j : Int))))) = _
  rw [h1, hv]
  show signed (decide (n < 0)) (inUnits c' q' b64.qmin) = _
  rw [h2]
  have e1 : inUnits n.natAbs (j : Int) b64.qmin = n.natAbs * (2 ^ j * one64) := by
    unfold inUnits one64
    rw [qmin_b64, ← Nat.pow_add]
    congr 2 <;> omega
  have e3 : signed (decide (n < 0)) n.natAbs = n := by
    unfold signed
    by_cases h : n < 0
    · simp [h]; omega
    · simp [h]; omega
  rw [e1, signed_mul, e3, Int.natCast_mul, Int.natCast_pow, Int.mul_assoc]; rfl
/-- the double is finite and worth n / 2^k -/
def Dy (n : Int) (k : Nat) (a : UInt64) : Prop := DFin a ∧ zv a * 2 ^ k = n * (one64 : Int)
theorem two_pos (k : Nat) : (0 : Int) < 2 ^ k := Int.pow_pos (by decide)
theorem Dy.fin {n : Int} {k : Nat} {a : UInt64} (h : Dy n k a) : DFin a := h.1
theorem Dy.nn {n : Int} {k : Nat} {a : UInt64} (h : Dy n k a) : val64 a ≠ .nan := h.1.ne_nan
theorem dint_fin {i : Int} {a : UInt64} (h : DInt i a) : DFin a := by
  unfold DInt at h
  cases hd : val64 a with
  | nan => rw [hd] at h; exact h.elim
  | inf s => rw [hd] at h; exact h.elim
  | fin s c q => exact ⟨s, c, q, hd⟩
theorem Dy.of_int {i : Int} {a : UInt64} (h : DInt i a) : Dy i 0 a := ⟨dint_fin h, by rw [show zv a = i * (one64 : Int) from DInt_zval h]; simp⟩
theorem dy_i2d (a : Int32) : Dy a.toInt 0 (i2d a) := Dy.of_int (i2d_int a)
theorem dy_l2d {a : Int64} (h : a.toInt.natAbs ≤ 2 ^ 53) : Dy a.toInt 0 (l2d a) := Dy.of_int (l2d_int h)
theorem dy_zero : Dy 0 0 0 := ⟨⟨_, _, _, val64_zero⟩, by rw [show zv 0 = 0 from zval64_zero]; simp⟩
theorem dy_one : Dy 1 0 4607182418800017408 := Dy.of_int dint_one
theorem Dy.up {n : Int} {k : Nat} {a : UInt64} (h : Dy n k a) (j : Nat) : Dy (n * 2 ^ j) (k + j) a := ⟨h.1, by rw [Int.pow_add, ← Int.mul_assoc, h.2]; (generalize one64 = U; ac_rfl)⟩
theorem cancel {x y : Int} {k : Nat} (h : x * 2 ^ k = y * 2 ^ k) : x = y := Int.eq_of_mul_eq_mul_right (Int.ne_of_gt (two_pos k)) h
theorem Dy.eq {n : Int} {k : Nat} {a b : UInt64} (ha : Dy n k a) (hb : Dy n k b) : zv a = zv b := cancel (ha.2.trans hb.2.symm)
theorem val_dneg (a : UInt64) (h : val64 a ≠ .nan) : val64 (Jvm.FP.dneg a) = negate (val64 a) := by
  refine val64_neg_bits ?_
  have hx : (Jvm.FP.dneg a).toNat = a.toNat ^^^ 2 ^ 63 := by
    show (a ^^^ 0x8000000000000000).toNat = _
    rw [UInt64.toNat_xor]; rfl
  have hlt := a.toNat_lt
  by_cases hb : a.toNat < 2 ^ 63
  · right
    rw [hx, Nat.xor_comm]
    have := Nat.two_pow_add_eq_or_of_lt hb 1
    have e2 : (2 ^ 63 ^^^ a.toNat) = 2 ^ 63 + a.toNat := by
      rw [Nat.mul_one] at this
      rw [this]
      apply Nat.eq_of_testBit_eq; intro i
      simp only [Nat.testBit_xor, Nat.testBit_or, Nat.testBit_two_pow]
      by_cases q : 63 = i
      · subst q; simp [Nat.testBit_lt_two_pow hb]
      · simp [q]
    omega
  · left
    have hb' : a.toNat - 2 ^ 63 < 2 ^ 63 := by omega
    have := Nat.two_pow_add_eq_or_of_lt hb' 1
    rw [Nat.mul_one] at this
    have e0 : a.toNat = 2 ^ 63 ||| (a.toNat - 2 ^ 63) := by omega
    have e2 : a.toNat ^^^ 2 ^ 63 = a.toNat - 2 ^ 63 := by
      apply Nat.eq_of_testBit_eq; intro i
      rw [Nat.testBit_xor, Nat.testBit_two_pow]
      have t := congrArg (fun z => z.testBit i) e0
      simp only [Nat.testBit_or, Nat.testBit_two_pow] at t
      rw [t]
      by_cases q : 63 = i
      · subst q; simp [Nat.testBit_lt_two_pow hb']
      · simp [q]
    omega
theorem dneg_fin {a : UInt64} (h : DFin a) : DFin (Jvm.FP.dneg a) := by
  obtain ⟨s, c, q, e⟩ := h
  exact ⟨!s, c, q, by rw [val_dneg a (by rw [e]; exact nofun), e]; rfl⟩
theorem dneg_zv {a : UInt64} (h : val64 a ≠ .nan) : zv (Jvm.FP.dneg a) = -zv a := by
  show zval b64 (val64 (Jvm.FP.dneg a)) = _
  rw [val_dneg a h, zval_negate]
theorem dy_neg {n : Int} {k : Nat} {a : UInt64} (h : Dy n k a) : Dy (-n) k (Jvm.FP.dneg a) := ⟨dneg_fin h.1, by rw [dneg_zv h.nn, Int.neg_mul, h.2, Int.neg_mul]⟩
theorem cneg_fin {a : UInt64} (h : DFin a) : DFin (dneg a) := by
  obtain ⟨s, c, q, e⟩ := h
  exact ⟨!s, c, q, by rw [val64_dneg, e]; rfl⟩
theorem cneg_zv (a : UInt64) : zv (dneg a) = -zv a := by
  show zval b64 (val64 (dneg a)) = _
  rw [val64_dneg, zval_negate]
-- sums
theorem add_nn {a b : UInt64} (ha : DFin a) (hb : DFin b) : val64 (dadd a b) ≠ .nan := (notNaN_iff _).mp (dadd_out ha.notNaN hb)
theorem add_le {a b V : UInt64} (ha : DFin a) (hb : DFin b) (hV : val64 V ≠ .nan) (h : zv a + zv b ≤ zv V) : zv (dadd a b) ≤ zv V := by
  show zval b64 (val64 (dadd a b)) ≤ _
  rw [val64_dadd]
  exact sum_le good_b64 ha hb (val64_fits a) (val64_fits b) (val64_fits V) hV h
theorem add_ge {a b V : UInt64} (ha : DFin a) (hb : DFin b) (hV : val64 V ≠ .nan) (h : zv V ≤ zv a + zv b) : zv V ≤ zv (dadd a b) := by
  show _ ≤ zval b64 (val64 (dadd a b))
  rw [val64_dadd]
  exact sum_ge good_b64 ha hb (val64_fits a) (val64_fits b) (val64_fits V) hV h
theorem add_exact {a b V : UInt64} (ha : DFin a) (hb : DFin b) (hV : DFin V) (h : zv a + zv b = zv V) : DFin (dadd a b) ∧ zv (dadd a b) = zv V := by
  have h1 := add_le ha hb hV.ne_nan (Int.le_of_eq h)
  have h2 := add_ge ha hb hV.ne_nan (Int.le_of_eq h.symm)
  exact ⟨fin_between hV hV (add_nn ha hb) h2 h1, Int.le_antisymm h1 h2⟩
theorem dy_add {n m : Int} {k : Nat} {a b : UInt64} (ha : Dy n k a) (hb : Dy m k b) (hk : k ≤ 1074) (h : (n + m).natAbs < 2 ^ 53) : Dy (n + m) k (dadd a b) := by
  obtain ⟨V, hV, e⟩ := rep_exists (n + m) k hk h
  have q : zv a + zv b = zv V := cancel (k := k) (by rw [Int.add_mul, ha.2, hb.2, e, Int.add_mul])
  obtain ⟨h1, h2⟩ := add_exact ha.1 hb.1 hV q
  exact ⟨h1, by rw [h2]; exact e⟩
theorem dy_sub {n m : Int} {k : Nat} {a b : UInt64} (ha : Dy n k a) (hb : Dy m k b) (hk : k ≤ 1074) (h : (n - m).natAbs < 2 ^ 53) : Dy (n - m) k (dsub a b) := by
  rw [dsub_eq]
  have hb' : Dy (-m) k (dneg b) := ⟨cneg_fin hb.1, by rw [cneg_zv, Int.neg_mul, hb.2, Int.neg_mul]⟩
  have := dy_add ha hb' hk (by rw [← Int.sub_eq_add_neg]; exact h)
  rw [← Int.sub_eq_add_neg] at this; exact this
-- products
theorem mul_nn {a b : UInt64} (ha : DFin a) (hb : DFin b) : val64 (dmul a b) ≠ .nan := (notNaN_iff _).mp (dmul_out ha hb)
theorem mul_units {a b : UInt64} (ha : DFin a) (hb : DFin b) : ∃ s c q, exactProduct (val64 a) (val64 b) = .fin s c q ∧ 2 * b64.qmin ≤ q ∧ signed s (inUnits c q (2 * b64.qmin)) = zv a * zv b := by
  obtain ⟨s, c, q, ea⟩ := ha
  obtain ⟨t, d, r, eb⟩ := hb
  have fa := val64_fits a; have fb := val64_fits b
  rw [ea] at fa; rw [eb] at fb
  obtain ⟨h1, h2, h3⟩ := product_units fa fb
  refine ⟨_, _, _, by rw [ea, eb]; exact h1, h2, ?_⟩
  rw [h3, signed_xor]
  show _ = zval b64 (val64 a) * zval b64 (val64 b)
  rw [ea, eb]; rfl
theorem two_qmin : (b64.qmin - 2 * b64.qmin).toNat = (-b64.qmin).toNat := by congr 1 <;> omega
theorem mul_le {a b V : UInt64} (ha : DFin a) (hb : DFin b) (hV : val64 V ≠ .nan) (h : zv a * zv b ≤ zv V * (one64 : Int)) : zv (dmul a b) ≤ zv V := by
  obtain ⟨s, c, q, e1, e2, e3⟩ := mul_units ha hb
  show zval b64 (val64 (dmul a b)) ≤ zval b64 (val64 V)
  rw [val64_dmul, e1]
  refine zval_round_le good_b64 (val64_fits V) hV (e0 := 2 * b64.qmin) (by rw [qmin_b64]; decide) e2 ?_
  rw [e3, two_qmin, pow_qmin64]; exact h
theorem mul_ge {a b V : UInt64} (ha : DFin a) (hb : DFin b) (hV : val64 V ≠ .nan) (h : zv V * (one64 : Int) ≤ zv a * zv b) : zv V ≤ zv (dmul a b) := by
  obtain ⟨s, c, q, e1, e2, e3⟩ := mul_units ha hb
  show zval b64 (val64 V) ≤ zval b64 (val64 (dmul a b))
  rw [val64_dmul, e1]
  refine zval_round_ge good_b64 (val64_fits V) hV (e0 := 2 * b64.qmin) (by rw [qmin_b64]; decide) e2 ?_
  rw [e3, two_qmin, pow_qmin64]; exact h
theorem mul_exact {a b V : UInt64} (ha : DFin a) (hb : DFin b) (hV : DFin V) (h : zv a * zv b = zv V * (one64 : Int)) : DFin (dmul a b) ∧ zv (dmul a b) = zv V := by
  have h1 := mul_le ha hb hV.ne_nan (Int.le_of_eq h)
  have h2 := mul_ge ha hb hV.ne_nan (Int.le_of_eq h.symm)
  exact ⟨fin_between hV hV (mul_nn ha hb) h2 h1, Int.le_antisymm h1 h2⟩
theorem dy_mul {n m : Int} {k j : Nat} {a b : UInt64} (ha : Dy n k a) (hb : Dy m j b) (hk : k + j ≤ 1074) (h : (n * m).natAbs < 2 ^ 53) : Dy (n * m) (k + j) (dmul a b) := by
  obtain ⟨V, hV, e⟩ := rep_exists (n * m) (k + j) hk h
  have q : zv a * zv b = zv V * (one64 : Int) := cancel (k := k + j) (by
    have : zv a * zv b * 2 ^ (k + j) = (zv a * 2 ^ k) * (zv b * 2 ^ j) := by rw [Int.pow_add]; (generalize one64 = U; ac_rfl)
    rw [this, ha.2, hb.2, show zv V * (one64 : Int) * 2 ^ (k + j) = zv V * 2 ^ (k + j) * (one64 : Int) by (generalize one64 = U; ac_rfl), e]; (generalize one64 = U; ac_rfl))
  obtain ⟨h1, h2⟩ := mul_exact ha.1 hb.1 hV q
  exact ⟨h1, by rw [h2]; exact e⟩
-- quotients
theorem nz_of {b : UInt64} (hb : DFin b) (h : zv b ≠ 0) : ¬ DZero b := fun q => h q.zval
theorem div_nn {a b : UInt64} (ha : DFin a) (hb : DFin b) (h : zv b ≠ 0) : val64 (ddiv a b) ≠ .nan := (notNaN_iff _).mp (ddiv_out ha.notNaN hb (nz_of hb h))
theorem div_pows {q r e0 : Int} (hq : b64.qmin ≤ q) (hr : b64.qmin ≤ r) (h0 : e0 ≤ b64.qmin) (h1 : e0 ≤ q - r) :
    2 ^ (q - r - e0).toNat * 2 ^ (r - b64.qmin).toNat = 2 ^ (q - b64.qmin).toNat * one64 * 2 ^ (b64.qmin - e0).toNat := by
  unfold one64
  rw [← Nat.pow_add, ← Nat.pow_add, ← Nat.pow_add]
  rw [qmin_b64] at *
  congr 1 <;> omega
theorem div_val {a b : UInt64} {s t : Bool} {c d : Nat} {q r : Int} (ea : val64 a = .fin s c q) (eb : val64 b = .fin t d r) (hd : d ≠ 0) : val64 (ddiv a b) = roundRatio b64 (s != t) c d (q - r) := by
  rw [val64_ddiv, ea, eb]
  simp [quotient, hd]
theorem div_mag_le {a b V : UInt64} (ha : DFin a) (hb : DFin b) (hz : zmag b64 (val64 b) ≠ 0) (hV : val64 V ≠ .nan) (h : zmag b64 (val64 a) * one64 ≤ zmag b64 (val64 V) * zmag b64 (val64 b)) : zmag b64 (val64 (ddiv a b)) ≤ zmag b64 (val64 V) := by
  obtain ⟨s, c, q, ea⟩ := ha
  obtain ⟨t, d, r, eb⟩ := hb
  have fa := val64_fits a; have fb := val64_fits b
  rw [ea] at fa; rw [eb] at fb
  have za : zmag b64 (val64 a) = c * 2 ^ (q - b64.qmin).toNat := by rw [ea]; rfl
  have zb : zmag b64 (val64 b) = d * 2 ^ (r - b64.qmin).toNat := by rw [eb]; rfl
  have hd : d ≠ 0 := fun q => hz (by rw [zb, q, Nat.zero_mul])
  rw [div_val ea eb hd]
  have hp := div_pows (e0 := min b64.qmin (q - r)) fa.2.1 fb.2.1 (by omega) (by omega)
  refine zmag_roundRatio_le good_b64 (Nat.pos_of_ne_zero hd) (val64_fits V) hV (e0 := min b64.qmin (q - r)) (by omega) (by omega) ?_
  rw [za, zb] at h
  generalize zmag b64 (val64 V) = v at h ⊢
  unfold inUnits
  refine Nat.le_of_mul_le_mul_right (c := 2 ^ (r - b64.qmin).toNat) ?_ (Nat.two_pow_pos _)
  rw [Nat.mul_assoc, hp]
  have := Nat.mul_le_mul_right (2 ^ (b64.qmin - min b64.qmin (q - r)).toNat) h
  calc c * (2 ^ (q - b64.qmin).toNat * one64 * 2 ^ (b64.qmin - min b64.qmin (q - r)).toNat) = c * 2 ^ (q - b64.qmin).toNat * one64 * 2 ^ (b64.qmin - min b64.qmin (q - r)).toNat := by (generalize one64 = U; ac_rfl)
    _ ≤ _ := this
    _ = v * 2 ^ (b64.qmin - min b64.qmin (q - r)).toNat * d * 2 ^ (r - b64.qmin).toNat := by (generalize one64 = U; ac_rfl)
theorem div_mag_ge {a b V : UInt64} (ha : DFin a) (hb : DFin b) (hz : zmag b64 (val64 b) ≠ 0) (hV : val64 V ≠ .nan) (h : zmag b64 (val64 V) * zmag b64 (val64 b) ≤ zmag b64 (val64 a) * one64) : zmag b64 (val64 V) ≤ zmag b64 (val64 (ddiv a b)) := by
  obtain ⟨s, c, q, ea⟩ := ha
  obtain ⟨t, d, r, eb⟩ := hb
  have fa := val64_fits a; have fb := val64_fits b
  rw [ea] at fa; rw [eb] at fb
  have za : zmag b64 (val64 a) = c * 2 ^ (q - b64.qmin).toNat := by rw [ea]; rfl
  have zb : zmag b64 (val64 b) = d * 2 ^ (r - b64.qmin).toNat := by rw [eb]; rfl
  have hd : d ≠ 0 := fun q => hz (by rw [zb, q, Nat.zero_mul])
  rw [div_val ea eb hd]
  have hp := div_pows (e0 := min b64.qmin (q - r)) fa.2.1 fb.2.1 (by omega) (by omega)
  refine zmag_roundRatio_ge good_b64 (Nat.pos_of_ne_zero hd) (val64_fits V) (e0 := min b64.qmin (q - r)) (by omega) (by omega) ?_
  rw [za, zb] at h
  generalize zmag b64 (val64 V) = v at h ⊢
  unfold inUnits
  refine Nat.le_of_mul_le_mul_right (c := 2 ^ (r - b64.qmin).toNat) ?_ (Nat.two_pow_pos _)
  rw [Nat.mul_assoc c, hp]
  have := Nat.mul_le_mul_right (2 ^ (b64.qmin - min b64.qmin (q - r)).toNat) h
  calc v * 2 ^ (b64.qmin - min b64.qmin (q - r)).toNat * d * 2 ^ (r - b64.qmin).toNat = v * (d * 2 ^ (r - b64.qmin).toNat) * 2 ^ (b64.qmin - min b64.qmin (q - r)).toNat := by (generalize one64 = U; ac_rfl)
    _ ≤ _ := this
    _ = c * (2 ^ (q - b64.qmin).toNat * one64 * 2 ^ (b64.qmin - min b64.qmin (q - r)).toNat) := by (generalize one64 = U; ac_rfl)
theorem div_sgn {a b : UInt64} (ha : DFin a) (hb : DFin b) (hz : zmag b64 (val64 b) ≠ 0) : sgn (val64 (ddiv a b)) = (sgn (val64 a) != sgn (val64 b)) := by
  obtain ⟨s, c, q, ea⟩ := ha
  obtain ⟨t, d, r, eb⟩ := hb
  have zb : zmag b64 (val64 b) = d * 2 ^ (r - b64.qmin).toNat := by rw [eb]; rfl
  have hd : d ≠ 0 := fun q => hz (by rw [zb, q, Nat.zero_mul])
  rw [div_val ea eb hd, sgn_roundRatio, ea, eb]; rfl
theorem zv_cases (a : UInt64) : (sgn (val64 a) = false ∧ zv a = (zmag b64 (val64 a) : Int)) ∨ (sgn (val64 a) = true ∧ zv a = -(zmag b64 (val64 a) : Int)) := by
  show (_ ∧ signed _ _ = _) ∨ (_ ∧ signed _ _ = _)
  cases sgn (val64 a) <;> simp [signed]
theorem nat_mul_le {a b c d : Nat} (h : (a : Int) * (b : Int) ≤ (c : Int) * (d : Int)) : a * b ≤ c * d := by
  rw [← Int.natCast_mul, ← Int.natCast_mul] at h; exact Int.ofNat_le.mp h
theorem div_le {a b V : UInt64} (ha : DFin a) (hb : DFin b) (hp : 0 < zv b) (hV : val64 V ≠ .nan) (h : zv a * (one64 : Int) ≤ zv V * zv b) : zv (ddiv a b) ≤ zv V := by
  have ub := zv_bd b
  have hz : zmag b64 (val64 b) ≠ 0 := by omega
  have eb : sgn (val64 b) = false ∧ zv b = (zmag b64 (val64 b) : Int) := by rcases zv_cases b with q | q; exact q; omega
  have es := div_sgn ha hb hz
  rw [eb.1] at es
  have hU := U_pos
  rcases zv_cases a with ⟨sa, ea⟩ | ⟨sa, ea⟩ <;> rw [sa] at es
  · have er : zv (ddiv a b) = (zmag b64 (val64 (ddiv a b)) : Int) := by rcases zv_cases (ddiv a b) with q | q; exact q.2; rw [q.1] at es; cases es
    rcases zv_cases V with ⟨sv, ev⟩ | ⟨sv, ev⟩
    · have := div_mag_le ha hb hz hV (nat_mul_le (by rw [← ea, ← ev, ← eb.2]; exact h))
      omega
    · have h0 : 0 ≤ zv a * (one64 : Int) := Int.mul_nonneg (by omega) (by omega)
      have h1 : 0 ≤ zv V * zv b := Int.le_trans h0 h
      have h2 : zv V = 0 := by
        by_cases q : zv V < 0
        · have := Int.mul_neg_of_neg_of_pos q hp; omega
        · omega
      have h3 : zmag b64 (val64 V) = 0 := by omega
      rw [h2, Int.zero_mul] at h
      have h5 : zmag b64 (val64 a) * one64 ≤ zmag b64 (val64 V) * zmag b64 (val64 b) := nat_mul_le (by rw [← ea, h3]; simpa using h)
      have := div_mag_le ha hb hz hV h5
      omega
  · have er : zv (ddiv a b) = -(zmag b64 (val64 (ddiv a b)) : Int) := by rcases zv_cases (ddiv a b) with q | q; rw [q.1] at es; cases es; exact q.2
    rcases zv_cases V with ⟨sv, ev⟩ | ⟨sv, ev⟩
    · omega
    · have := div_mag_ge ha hb hz hV (nat_mul_le (by
        have : zv V * zv b = -((zmag b64 (val64 V) : Int) * (zmag b64 (val64 b) : Int)) := by rw [ev, eb.2, Int.neg_mul]
        have h6 : zv a * (one64 : Int) = -((zmag b64 (val64 a) : Int) * (one64 : Int)) := by rw [ea, Int.neg_mul]
        omega))
      omega
theorem div_ge {a b V : UInt64} (ha : DFin a) (hb : DFin b) (hp : 0 < zv b) (hV : val64 V ≠ .nan) (h : zv V * zv b ≤ zv a * (one64 : Int)) : zv V ≤ zv (ddiv a b) := by
  have ub := zv_bd b
  have hz : zmag b64 (val64 b) ≠ 0 := by omega
  have eb : sgn (val64 b) = false ∧ zv b = (zmag b64 (val64 b) : Int) := by rcases zv_cases b with q | q; exact q; omega
  have es := div_sgn ha hb hz
  rw [eb.1] at es
  have hU := U_pos
  rcases zv_cases a with ⟨sa, ea⟩ | ⟨sa, ea⟩ <;> rw [sa] at es
  · have er : zv (ddiv a b) = (zmag b64 (val64 (ddiv a b)) : Int) := by rcases zv_cases (ddiv a b) with q | q; exact q.2; rw [q.1] at es; cases es
    rcases zv_cases V with ⟨sv, ev⟩ | ⟨sv, ev⟩
    · have := div_mag_ge ha hb hz hV (nat_mul_le (by rw [← ea, ← ev, ← eb.2]; exact h))
      omega
    · omega
  · have er : zv (ddiv a b) = -(zmag b64 (val64 (ddiv a b)) : Int) := by rcases zv_cases (ddiv a b) with q | q; rw [q.1] at es; cases es; exact q.2
    rcases zv_cases V with ⟨sv, ev⟩ | ⟨sv, ev⟩
    · have h0 : zv a * (one64 : Int) ≤ 0 := Int.mul_nonpos_of_nonpos_of_nonneg (by omega) (by omega)
      have h1 : zv V * zv b ≤ 0 := Int.le_trans h h0
      have h2 : zv V = 0 := by
        by_cases q : 0 < zv V
        · have := Int.mul_pos q hp; omega
        · omega
      have h3 : zmag b64 (val64 V) = 0 := by omega
      rw [h2, Int.zero_mul] at h
      have h4 : (zmag b64 (val64 a) : Int) * (one64 : Int) = -(zv a * (one64 : Int)) := by rw [ea, Int.neg_mul, Int.neg_neg]
      have h5 : zmag b64 (val64 a) * one64 ≤ zmag b64 (val64 V) * zmag b64 (val64 b) := nat_mul_le (by rw [h4, h3]; simp; omega)
      have := div_mag_le ha hb hz hV h5
      omega
    · have := div_mag_le ha hb hz hV (nat_mul_le (by
        have : zv V * zv b = -((zmag b64 (val64 V) : Int) * (zmag b64 (val64 b) : Int)) := by rw [ev, eb.2, Int.neg_mul]
        have h6 : zv a * (one64 : Int) = -((zmag b64 (val64 a) : Int) * (one64 : Int)) := by rw [ea, Int.neg_mul]
        omega))
      omega
theorem Dy.pos {m : Int} {j : Nat} {b : UInt64} (hb : Dy m j b) (hm : 0 < m) : 0 < zv b := by
  have h1 : 0 < zv b * 2 ^ j := by rw [hb.2]; exact Int.mul_pos hm U_pos
  exact Int.pos_of_mul_pos_left h1 (two_pos j)
theorem div_le_dy {n m q : Int} {k j i : Nat} {a b : UInt64} (ha : Dy n k a) (hb : Dy m j b) (hm : 0 < m) (hi : i ≤ 1074) (hq : q.natAbs < 2 ^ 53) (h : n * 2 ^ j * 2 ^ i ≤ q * m * 2 ^ k) : zv (ddiv a b) * 2 ^ i ≤ q * (one64 : Int) := by
  obtain ⟨V, hV, e⟩ := rep_exists q i hi hq
  rw [← e]
  refine Int.mul_le_mul_of_nonneg_right (div_le ha.1 hb.1 (hb.pos hm) hV.ne_nan ?_) (Int.le_of_lt (two_pos i))
  have hU := U_pos
  refine Int.le_of_mul_le_mul_right (a := 2 ^ k * 2 ^ j * 2 ^ i) ?_ (Int.mul_pos (Int.mul_pos (two_pos k) (two_pos j)) (two_pos i))
  have e1 : zv a * (one64 : Int) * (2 ^ k * 2 ^ j * 2 ^ i) = n * 2 ^ j * 2 ^ i * ((one64 : Int) * (one64 : Int)) := by
    rw [show zv a * (one64 : Int) * (2 ^ k * 2 ^ j * 2 ^ i) = zv a * 2 ^ k * ((one64 : Int) * 2 ^ j * 2 ^ i) by (generalize one64 = U; ac_rfl), ha.2]; (generalize one64 = U; ac_rfl)
  have e2 : zv V * zv b * (2 ^ k * 2 ^ j * 2 ^ i) = q * m * 2 ^ k * ((one64 : Int) * (one64 : Int)) := by
    rw [show zv V * zv b * (2 ^ k * 2 ^ j * 2 ^ i) = (zv V * 2 ^ i) * (zv b * 2 ^ j) * 2 ^ k by (generalize one64 = U; ac_rfl), e, hb.2]; (generalize one64 = U; ac_rfl)
  rw [e1, e2]
  exact Int.mul_le_mul_of_nonneg_right h (Int.le_of_lt (Int.mul_pos hU hU))
theorem div_ge_dy {n m q : Int} {k j i : Nat} {a b : UInt64} (ha : Dy n k a) (hb : Dy m j b) (hm : 0 < m) (hi : i ≤ 1074) (hq : q.natAbs < 2 ^ 53) (h : q * m * 2 ^ k ≤ n * 2 ^ j * 2 ^ i) : q * (one64 : Int) ≤ zv (ddiv a b) * 2 ^ i := by
  obtain ⟨V, hV, e⟩ := rep_exists q i hi hq
  rw [← e]
  refine Int.mul_le_mul_of_nonneg_right (div_ge ha.1 hb.1 (hb.pos hm) hV.ne_nan ?_) (Int.le_of_lt (two_pos i))
  have hU := U_pos
  refine Int.le_of_mul_le_mul_right (a := 2 ^ k * 2 ^ j * 2 ^ i) ?_ (Int.mul_pos (Int.mul_pos (two_pos k) (two_pos j)) (two_pos i))
  have e1 : zv a * (one64 : Int) * (2 ^ k * 2 ^ j * 2 ^ i) = n * 2 ^ j * 2 ^ i * ((one64 : Int) * (one64 : Int)) := by
    rw [show zv a * (one64 : Int) * (2 ^ k * 2 ^ j * 2 ^ i) = zv a * 2 ^ k * ((one64 : Int) * 2 ^ j * 2 ^ i) by (generalize one64 = U; ac_rfl), ha.2]; (generalize one64 = U; ac_rfl)
  have e2 : zv V * zv b * (2 ^ k * 2 ^ j * 2 ^ i) = q * m * 2 ^ k * ((one64 : Int) * (one64 : Int)) := by
    rw [show zv V * zv b * (2 ^ k * 2 ^ j * 2 ^ i) = (zv V * 2 ^ i) * (zv b * 2 ^ j) * 2 ^ k by (generalize one64 = U; ac_rfl), e, hb.2]; (generalize one64 = U; ac_rfl)
  rw [e1, e2]
  exact Int.mul_le_mul_of_nonneg_right h (Int.le_of_lt (Int.mul_pos hU hU))
theorem dy_div {n m q : Int} {k j i : Nat} {a b : UInt64} (ha : Dy n k a) (hb : Dy m j b) (hm : 0 < m) (hi : i ≤ 1074) (hq : q.natAbs < 2 ^ 53) (h : n * 2 ^ j * 2 ^ i = q * m * 2 ^ k) : Dy q i (ddiv a b) := by
  have h1 := div_le_dy ha hb hm hi hq (Int.le_of_eq h)
  have h2 := div_ge_dy ha hb hm hi hq (Int.le_of_eq h.symm)
  have h3 := Int.le_antisymm h1 h2
  obtain ⟨V, hV, e⟩ := rep_exists q i hi hq
  have h4 : zv (ddiv a b) = zv V := cancel (h3.trans e.symm)
  exact ⟨fin_between hV hV (div_nn ha.1 hb.1 (Int.ne_of_gt (hb.pos hm))) (Int.le_of_eq h4.symm) (Int.le_of_eq h4), h3⟩
-- comparisons
theorem cmp_dy {n m : Int} {k j : Nat} {a b : UInt64} (ha : Dy n k a) (hb : Dy m j b) : Jvm.FP.dcmp a b = some (compare (n * 2 ^ j) (m * 2 ^ k)) := by
  show dcmp a b = _
  rw [dcmp_zval ha.nn hb.nn]
  congr 1
  have hU := U_pos
  have e1 : zv a * (2 ^ k * 2 ^ j) = n * 2 ^ j * (one64 : Int) := by rw [← Int.mul_assoc, ha.2]; (generalize one64 = U; ac_rfl)
  have e2 : zv b * (2 ^ k * 2 ^ j) = m * 2 ^ k * (one64 : Int) := by rw [show zv b * (2 ^ k * 2 ^ j) = zv b * 2 ^ j * 2 ^ k by (generalize one64 = U; ac_rfl), hb.2]; (generalize one64 = U; ac_rfl)
  rw [← compare_mul_pos (zv a) (zv b) (2 ^ k * 2 ^ j) (Int.mul_pos (two_pos k) (two_pos j)), e1, e2, compare_mul_pos _ _ _ hU]
theorem cmp_dy0 {n m : Int} {k : Nat} {a b : UInt64} (ha : Dy n k a) (hb : Dy m k b) : Jvm.FP.dcmp a b = some (compare n m) := by
  rw [cmp_dy ha hb, compare_mul_pos _ _ _ (two_pos k)]
theorem cmp_lt {a b : UInt64} (ha : val64 a ≠ .nan) (hb : val64 b ≠ .nan) (h : zv a < zv b) : Jvm.FP.dcmp a b = some .lt := dcmp_lt.mpr ⟨ha, hb, h⟩
theorem cmp_eq {a b : UInt64} (ha : val64 a ≠ .nan) (hb : val64 b ≠ .nan) (h : zv a = zv b) : Jvm.FP.dcmp a b = some .eq := dcmp_eq.mpr ⟨ha, hb, h⟩
theorem cmp_gt {a b : UInt64} (ha : val64 a ≠ .nan) (hb : val64 b ≠ .nan) (h : zv b < zv a) : Jvm.FP.dcmp a b = some .gt := dcmp_gt.mpr ⟨ha, hb, h⟩
open Jvm.Op in
theorem cv_lt_g (r : Option Ordering) : cmpValue r .g < 0 ↔ r = some .lt := by rcases r with _ | (_ | _ | _) <;> decide
open Jvm.Op in
theorem cv_lt_l (r : Option Ordering) : cmpValue r .l < 0 ↔ r = some .lt ∨ r = none := by rcases r with _ | (_ | _ | _) <;> decide
open Jvm.Op in
theorem cv_gt_g (r : Option Ordering) : 0 < cmpValue r .g ↔ r = some .gt ∨ r = none := by rcases r with _ | (_ | _ | _) <;> decide
open Jvm.Op in
theorem cv_gt_l (r : Option Ordering) : 0 < cmpValue r .l ↔ r = some .gt := by rcases r with _ | (_ | _ | _) <;> decide
open Jvm.Op in
theorem cv_eq (r : Option Ordering) (o : Jvm.ClassFile.CmpOp) : cmpValue r o = 0 ↔ r = some .eq := by cases o <;> rcases r with _ | (_ | _ | _) <;> decide
theorem nn64 {a : UInt64} (h : DFin a) : Jvm.Free.Fl.NoNaN64 a := Jvm.Free.Fl.val64_no.mpr h.ne_nan
theorem nnv {a : UInt64} (h : val64 a ≠ .nan) : Jvm.Free.Fl.NoNaN64 a := Jvm.Free.Fl.val64_no.mpr h
theorem nn_v {a : UInt64} (h : Jvm.Free.Fl.NoNaN64 a) : val64 a ≠ .nan := Jvm.Free.Fl.val64_no.mp h
end Jvm.OwnFP
namespace Jvm.OwnKit
open Jvm Jvm.ClassFile Sem Op Lib Jvm.Free Jvm.Stand Jvm.LawKit Jvm.RoadKit
theorem eqF_int {Z : State} {args : Array Value} {t : Term} {C n d : String} {x : Addr} {k : Int32} (ev : t.eval args Z none [] Z = some (.ref x)) (h : (Jvm.Cond.eq (Term.field t C n d) (Term.int k)).value args Z none Z [] = some true) : Fld Z Z.heap x C n d (.int k) := by
  obtain ⟨u, w, h1, h2, -, h4⟩ := cmp_v (Or.inl h)
  have e2 : (Term.int k).eval args Z none [] Z = some (.int k) := Term.int_eval k
  cases e2.symm.trans h2
  obtain ⟨z, rfl⟩ := h4
  have hz : z = k := by simpa [Cond.value, h1, e2] using h
  subst hz
  exact Fld.start (by rw [← fld_at ev]; exact h1)
theorem eqF_dbl {Z : State} {args : Array Value} {t : Term} {C n d : String} {x : Addr} {k : Int64} {b : UInt64} (ev : t.eval args Z none [] Z = some (.ref x)) (h : (Jvm.Cond.eq (Term.field t C n d) (Term.op1 Jvm.Unary.bitsD (Term.long k))).value args Z none Z [] = some true) (hb : k.toUInt64 = b) : Fld Z Z.heap x C n d (.double b) := by
  obtain ⟨u, w, h1, h2, -, h4⟩ := cmp_v (Or.inl h)
  have e2 : (Term.op1 Jvm.Unary.bitsD (Term.long k)).eval args Z none [] Z = some (.double k.toUInt64) := by simp [Term.eval, Jvm.Unary.apply]
  cases e2.symm.trans h2
  obtain ⟨z, rfl⟩ := h4
  have hz : z = k.toUInt64 := by simpa [Cond.value, h1, e2] using h
  subst hz; subst hb
  exact Fld.start (by rw [← fld_at ev]; exact h1)
theorem eqS_int {Z : State} {args : Array Value} {C n d : String} {k : Int32} (h : (Jvm.Cond.eq (Term.static C n d) (Term.int k)).value args Z none Z [] = some true) : (Term.static C n d).eval args Z none [] Z = some (.int k) := by
  obtain ⟨u, w, h1, h2, -, h4⟩ := cmp_v (Or.inl h)
  have e2 : (Term.int k).eval args Z none [] Z = some (.int k) := Term.int_eval k
  cases e2.symm.trans h2
  obtain ⟨z, rfl⟩ := h4
  have hz : z = k := by simpa [Cond.value, h1, e2] using h
  subst hz
  exact h1
theorem staKeep {Z : State} {h h' : Heap} {C n d : String} {v : Value} {ws : List Addr} (F : Sta Z h C n d v) (K : Keep h h' ws) (q : ∀ x ∈ ws, ∃ c : Cell, h[x]? = some c ∧ c.vm.isStatics = false) : Sta Z h' C n d v := by
  obtain ⟨cf, i, k, f, st, cell, h1, h2, h3, h4, h5, h6, h7⟩ := F
  refine ⟨cf, i, k, f, st, cell, h1, h2, h3, h4, K.2.1 st cell h5 fun hm => ?_, h6, h7⟩
  obtain ⟨c, e1, e2⟩ := q st hm
  cases h5.symm.trans e1
  rw [e2] at h6; cases h6
theorem exaSt {Z : State} {h : Heap} {a : Addr} {C : String} (F : Exa Z h a C) : ∃ c : Cell, h[a]? = some c ∧ c.vm.isStatics = false := by
  obtain ⟨c, _, h1, -, -, h4, -⟩ := F; exact ⟨c, h1, h4⟩
theorem arvSt {Z : State} {h : Heap} {a : Addr} {k : ClassId} {ty : FieldType} {z : Int32} {vs : List Value} {dv : Value} (F : Arv Z h a k ty z vs dv) : ∃ c : Cell, h[a]? = some c ∧ c.vm.isStatics = false := by
  obtain ⟨c, A, -⟩ := F; exact ⟨c, A.1, A.plain⟩
theorem narB0 : nar .boolean 0 = 0 := by decide
theorem narB1 : nar .boolean 1 = 1 := by decide
end Jvm.OwnKit
namespace Jvm.Pilot.@@N@@
open Jvm Jvm.ClassFile Sem Op Lib Jvm.Free Jvm.Stand Jvm.LawKit Jvm.RoadKit Bundle Jvm.OwnFP Jvm.OwnKit Jvm.Pilot.@@N@@.Jvm.D
theorem own_1024 : Dy 1024 0 4652218415073722368 := by
  have := dy_i2d 1024
  rw [show Jvm.FP.Core.i2d 1024 = 4652218415073722368 by decide +kernel] at this; exact this
def own_sh (k : Int32) : UInt64 := if k = 0 then 0 else if k = 1 then 4625762741046049652 else if k = 2 then 13851945122584546498 else if k = 3 then 0 else if k = 4 then 4607038447727129632 else if k = 5 then 0 else if k = 6 then 4625762741046049652 else if k = 7 then 13849134777900825460 else 13848857802020142547
def own_ch (k : Int32) : Int32 := if k = 0 then 1 else if k = 1 then 1 else if k = 2 then 1 else if k = 3 then 1 else if k = 4 then 1 else if k = 5 then 2 else if k = 6 then 2 else if k = 7 then 1 else 1
def own_exp (k : Int32) (m : UInt64) : UInt64 := if k = 0 then FP.dadd m 4607215186990906156 else if k = 1 then FP.dadd (FP.dadd m 4625762741046049652) 4607215186990906156 else if k = 2 then FP.dadd (FP.dsub m 4628573085729770690) 4607215186990906156 else if k = 3 then FP.dadd m 4607215186990906156 else if k = 4 then FP.dadd (FP.dadd m 4607038447727129632) 4607215186990906156 else if k = 5 then FP.ddiv (FP.dadd m (FP.dadd 4607215186990906156 4607215186990906156)) 4611686018427387904 else if k = 6 then FP.ddiv (FP.dadd (FP.dadd m 4625762741046049652) (FP.dadd 4607215186990906156 4607215186990906156)) 4611686018427387904 else if k = 7 then FP.dadd (FP.dsub m 4625762741046049652) 4607215186990906156 else FP.dadd (FP.dsub m 4625485765165366739) 4607215186990906156

theorem own_fr (f : Int32) : Dy (f &&& 1023).toInt 10 (FP.ddiv (FP.i2d (f &&& 1023)) 4652218415073722368) := by
  have r := rng32 (f &&& 1023)
  exact dy_div (dy_i2d _) own_1024 (by decide) (by decide) (by omega) (by simp only [Int.pow_zero, Int.mul_one, show (2 : Int) ^ 10 = 1024 by decide])
theorem own_m (w : Int64) (f : Int32) : Jvm.Free.Fl.NoNaN64 (FP.dadd (FP.l2d w) (FP.ddiv (FP.i2d (f &&& 1023)) 4652218415073722368)) :=
  Jvm.Free.Fl.dadd_out (Jvm.Free.Fl.l2d_fin w).noNaN (Jvm.Free.Fl.fin64_core.mpr (own_fr f).1)
theorem own_P : Jvm.Free.Fl.Fin64 4607215186990906156 := by unfold Jvm.Free.Fl.Fin64; decide
theorem own_PP : Jvm.Free.Fl.Fin64 (FP.dadd 4607215186990906156 4607215186990906156) := by unfold Jvm.Free.Fl.Fin64; decide +kernel
theorem own_W : Jvm.Free.Fl.Fin64 4625762741046049652 := by unfold Jvm.Free.Fl.Fin64; decide
theorem own_CO : Jvm.Free.Fl.Fin64 4628573085729770690 := by unfold Jvm.Free.Fl.Fin64; decide
theorem own_AM : Jvm.Free.Fl.Fin64 4625485765165366739 := by unfold Jvm.Free.Fl.Fin64; decide
theorem own_WA : Jvm.Free.Fl.Fin64 4607038447727129632 := by unfold Jvm.Free.Fl.Fin64; decide
theorem own_two : Jvm.Free.Fl.Fin64 4611686018427387904 := by unfold Jvm.Free.Fl.Fin64; decide
theorem own_twonz : Jvm.Free.Fl.Nz64 4611686018427387904 := by unfold Jvm.Free.Fl.Nz64; decide
theorem own_shf (k : Int32) : Jvm.Free.Fl.Fin64 (own_sh k) := by
  unfold own_sh; repeat' split
  all_goals (unfold Jvm.Free.Fl.Fin64; decide)
theorem own_ch12 (k : Int32) : own_ch k = 1 ∨ own_ch k = 2 := by
  unfold own_ch; repeat' split
  all_goals first | exact Or.inl rfl | exact Or.inr rfl
theorem own_cp {c : Int32} (h : c = 1 ∨ c = 2) : Jvm.Free.Fl.Fin64 (FP.dmul (FP.i2d c) 4607215186990906156) ∧ Jvm.Free.Fl.Fin64 (FP.i2d c) ∧ Jvm.Free.Fl.Nz64 (FP.i2d c) := by
  rcases h with rfl | rfl <;> exact ⟨by unfold Jvm.Free.Fl.Fin64; decide +kernel, by unfold Jvm.Free.Fl.Fin64; decide +kernel, by unfold Jvm.Free.Fl.Nz64; decide +kernel⟩
theorem own_n3 {d sh : UInt64} {c : Int32} (hd : Jvm.Free.Fl.NoNaN64 d) (hs : Jvm.Free.Fl.Fin64 sh) (hc : c = 1 ∨ c = 2) : Jvm.Free.Fl.NoNaN64 (FP.dadd (FP.dadd d sh) (FP.dmul (FP.i2d c) 4607215186990906156)) := Jvm.Free.Fl.dadd_out (Jvm.Free.Fl.dadd_out hd hs) (own_cp hc).1
theorem own_n4 {d sh : UInt64} {c : Int32} (hd : Jvm.Free.Fl.NoNaN64 d) (hs : Jvm.Free.Fl.Fin64 sh) (hc : c = 1 ∨ c = 2) : Jvm.Free.Fl.NoNaN64 (FP.ddiv (FP.dadd (FP.dadd d sh) (FP.dmul (FP.i2d c) 4607215186990906156)) (FP.i2d c)) := Jvm.Free.Fl.ddiv_out (own_n3 hd hs hc) (own_cp hc).2.1 (own_cp hc).2.2
theorem own_neg (m b c : UInt64) (h : Jvm.FP.Core.dneg b = c) : FP.dsub m b = FP.dadd m c := by show Jvm.FP.Core.dsub m b = Jvm.FP.Core.dadd m c; rw [Jvm.FP.Core.dsub_eq, h]
theorem own_div1 {x : UInt64} (h : Jvm.Free.Fl.NoNaN64 x) : FP.ddiv x (FP.i2d 1) = x := by
  show Jvm.FP.Core.ddiv x (Jvm.FP.Core.i2d 1) = x
  rw [show Jvm.FP.Core.i2d 1 = Jvm.FP.Core.dconst1 by decide +kernel]; exact Jvm.FP.Core.ddiv_one (nn_v h)
theorem own_pz : FP.dmul (FP.i2d 1) 4607215186990906156 = 4607215186990906156 := by decide +kernel
theorem own_p2 : FP.dmul (FP.i2d 2) 4607215186990906156 = FP.dadd 4607215186990906156 4607215186990906156 := by decide +kernel
theorem own_i2 : FP.i2d 2 = 4611686018427387904 := by decide +kernel
theorem own_z {m : UInt64} (h : Jvm.Free.Fl.NoNaN64 m) (hz : m ≠ Jvm.FP.Core.dzeroNeg) : FP.dadd m 0 = m := Jvm.FP.Core.dadd_zero (nn_v h) hz
/-- what the ion type reckons is what is expected, bit for bit, where m is not -0.0 -/
theorem own_same {m : UInt64} (h : Jvm.Free.Fl.NoNaN64 m) (hz : m ≠ Jvm.FP.Core.dzeroNeg) (k : Int32) : FP.ddiv (FP.dadd (FP.dadd m (own_sh k)) (FP.dmul (FP.i2d (own_ch k)) 4607215186990906156)) (FP.i2d (own_ch k)) = own_exp k m := by
  unfold own_sh own_ch own_exp
  repeat' split
  · rw [own_pz, own_div1 (Jvm.Free.Fl.dadd_out (Jvm.Free.Fl.dadd_out h (by unfold Jvm.Free.Fl.Fin64; decide)) own_P), own_z h hz]
  · rw [own_pz, own_div1 (Jvm.Free.Fl.dadd_out (Jvm.Free.Fl.dadd_out h own_W) own_P)]
  · rw [own_pz, own_div1 (Jvm.Free.Fl.dadd_out (Jvm.Free.Fl.dadd_out h (by unfold Jvm.Free.Fl.Fin64; decide)) own_P), ← own_neg m 4628573085729770690 _ (by decide +kernel)]
  · rw [own_pz, own_div1 (Jvm.Free.Fl.dadd_out (Jvm.Free.Fl.dadd_out h (by unfold Jvm.Free.Fl.Fin64; decide)) own_P), own_z h hz]
  · rw [own_pz, own_div1 (Jvm.Free.Fl.dadd_out (Jvm.Free.Fl.dadd_out h own_WA) own_P)]
  · rw [own_p2, own_i2, own_z h hz]
  · rw [own_p2, own_i2]
  · rw [own_pz, own_div1 (Jvm.Free.Fl.dadd_out (Jvm.Free.Fl.dadd_out h (by unfold Jvm.Free.Fl.Fin64; decide)) own_P), ← own_neg m 4625762741046049652 _ (by decide +kernel)]
  · rw [own_pz, own_div1 (Jvm.Free.Fl.dadd_out (Jvm.Free.Fl.dadd_out h (by unfold Jvm.Free.Fl.Fin64; decide)) own_P), ← own_neg m 4625485765165366739 _ (by decide +kernel)]
theorem own_fin {m : UInt64} (h : Jvm.Free.Fl.NoNaN64 m) (k : Int32) : cmpValue (FP.dcmp (FP.ddiv (FP.dadd (FP.dadd m (own_sh k)) (FP.dmul (FP.i2d (own_ch k)) 4607215186990906156)) (FP.i2d (own_ch k))) (own_exp k m)) .l = 0 := by
  rw [cv_eq]
  by_cases hz : m = Jvm.FP.Core.dzeroNeg
  · subst hz
    unfold own_sh own_ch own_exp
    repeat' split
    all_goals decide +kernel
  · have e := own_same h hz k
    have n := own_n4 (c := own_ch k) h (own_shf k) (own_ch12 k)
    rw [e] at n ⊢
    exact Jvm.FP.Core.dcmp_self (nn_v n)
theorem ef_rmP (m : MethodId) (x0 : Int32) : entryFrame m #[(.int x0)] 1 = mkF m 0 #[.val (.int x0)] [] := by first | (simp [entryFrame, mkF, argsToLocals, Value.category]; done) | rfl
theorem d1_0 : decode method_3_code 0 = .ok (.iload_n 0, 1) := by decide +kernel
theorem d1_1 : decode method_3_code 1 = .ok (.ifCond .ne 7, 3) := by decide +kernel
theorem d1_4 : decode method_3_code 4 = .ok (.getstatic 26, 3) := by decide +kernel
theorem d1_7 : decode method_3_code 7 = .ok (.areturn, 1) := by decide +kernel
theorem d1_8 : decode method_3_code 8 = .ok (.iload_n 0, 1) := by decide +kernel
theorem d1_9 : decode method_3_code 9 = .ok (.iconst 1, 1) := by decide +kernel
theorem d1_10 : decode method_3_code 10 = .ok (.if_icmp .ne 7, 3) := by decide +kernel
theorem d1_13 : decode method_3_code 13 = .ok (.getstatic 30, 3) := by decide +kernel
theorem d1_16 : decode method_3_code 16 = .ok (.areturn, 1) := by decide +kernel
theorem d1_17 : decode method_3_code 17 = .ok (.iload_n 0, 1) := by decide +kernel
theorem d1_18 : decode method_3_code 18 = .ok (.iconst 2, 1) := by decide +kernel
theorem d1_19 : decode method_3_code 19 = .ok (.if_icmp .ne 7, 3) := by decide +kernel
theorem d1_22 : decode method_3_code 22 = .ok (.getstatic 33, 3) := by decide +kernel
theorem d1_25 : decode method_3_code 25 = .ok (.areturn, 1) := by decide +kernel
theorem d1_26 : decode method_3_code 26 = .ok (.iload_n 0, 1) := by decide +kernel
theorem d1_27 : decode method_3_code 27 = .ok (.iconst 3, 1) := by decide +kernel
theorem d1_28 : decode method_3_code 28 = .ok (.if_icmp .ne 7, 3) := by decide +kernel
theorem d1_31 : decode method_3_code 31 = .ok (.getstatic 36, 3) := by decide +kernel
theorem d1_34 : decode method_3_code 34 = .ok (.areturn, 1) := by decide +kernel
theorem d1_35 : decode method_3_code 35 = .ok (.iload_n 0, 1) := by decide +kernel
theorem d1_36 : decode method_3_code 36 = .ok (.iconst 4, 1) := by decide +kernel
theorem d1_37 : decode method_3_code 37 = .ok (.if_icmp .ne 7, 3) := by decide +kernel
theorem d1_40 : decode method_3_code 40 = .ok (.getstatic 39, 3) := by decide +kernel
theorem d1_43 : decode method_3_code 43 = .ok (.areturn, 1) := by decide +kernel
theorem d1_44 : decode method_3_code 44 = .ok (.iload_n 0, 1) := by decide +kernel
theorem d1_45 : decode method_3_code 45 = .ok (.iconst 5, 1) := by decide +kernel
theorem d1_46 : decode method_3_code 46 = .ok (.if_icmp .ne 7, 3) := by decide +kernel
theorem d1_49 : decode method_3_code 49 = .ok (.getstatic 42, 3) := by decide +kernel
theorem d1_52 : decode method_3_code 52 = .ok (.areturn, 1) := by decide +kernel
theorem d1_53 : decode method_3_code 53 = .ok (.iload_n 0, 1) := by decide +kernel
theorem d1_54 : decode method_3_code 54 = .ok (.bipush 6, 2) := by decide +kernel
theorem d1_56 : decode method_3_code 56 = .ok (.if_icmp .ne 7, 3) := by decide +kernel
theorem d1_59 : decode method_3_code 59 = .ok (.getstatic 45, 3) := by decide +kernel
theorem d1_62 : decode method_3_code 62 = .ok (.areturn, 1) := by decide +kernel
theorem d1_63 : decode method_3_code 63 = .ok (.iload_n 0, 1) := by decide +kernel
theorem d1_64 : decode method_3_code 64 = .ok (.bipush 7, 2) := by decide +kernel
theorem d1_66 : decode method_3_code 66 = .ok (.if_icmp .ne 7, 3) := by decide +kernel
theorem d1_69 : decode method_3_code 69 = .ok (.getstatic 48, 3) := by decide +kernel
theorem d1_72 : decode method_3_code 72 = .ok (.areturn, 1) := by decide +kernel
theorem d1_73 : decode method_3_code 73 = .ok (.getstatic 51, 3) := by decide +kernel
theorem d1_76 : decode method_3_code 76 = .ok (.areturn, 1) := by decide +kernel
theorem own_pn_com_example_peptools_peptools_spectra_IonTypeMzHoldingPinLaw : plainName "com/example/peptools/peptools/spectra/IonTypeMzHoldingPinLaw" = true := by first | (simp [plainName, overriddenIn]; done) | decide +kernel
def QP (Z : State) (p0 : Int32) (w_B : Addr) (w_Y : Addr) (w_A : Addr) (w_Y_LESS_WATER : Addr) (w_Y_LESS_AMMONIA : Addr) (w_B_DOUBLY_CHARGED : Addr) (w_Y_DOUBLY_CHARGED : Addr) (w_B_LESS_WATER : Addr) (w_B_LESS_AMMONIA : Addr) (h0 : Heap) (n0 : Nat) (v : Option Value) (h : Heap) (L : List Loc) : Prop := ∃ u : Addr, v = some (.ref u) ∧ Exa Z h0 u "com/example/peptools/peptools/spectra/IonType" ∧ Fld Z h0 u "com/example/peptools/peptools/spectra/IonType" "charge" "I" (.int (own_ch p0)) ∧ Fld Z h0 u "com/example/peptools/peptools/spectra/IonType" "neutralShift" "D" (.double (own_sh p0)) ∧ Fr n0 L ∧ h = h0
set_option maxRecDepth 65536 in
set_option maxHeartbeats 40000000 in
theorem rmP (l : Launch) (Z : State) (a0 : Array Value) (hw : ∀ d ∈ tables_1, d.before a0 Z = true) (ws : List Jvm.Cond) (p0 : Int32) (w_B : Addr) (w_Y : Addr) (w_A : Addr) (w_Y_LESS_WATER : Addr) (w_Y_LESS_AMMONIA : Addr) (w_B_DOUBLY_CHARGED : Addr) (w_Y_DOUBLY_CHARGED : Addr) (w_B_LESS_WATER : Addr) (w_B_LESS_AMMONIA : Addr) (h0 : Heap) (n0 : Nat) (Z0 : n0 ≤ h0.size) (S_B : Sta Z h0 "com/example/peptools/peptools/spectra/IonType" "B" "Lcom/example/peptools/peptools/spectra/IonType;" (.ref w_B)) (X_B : Exa Z h0 w_B "com/example/peptools/peptools/spectra/IonType") (F_B_charge : Fld Z h0 w_B "com/example/peptools/peptools/spectra/IonType" "charge" "I" (.int 1)) (F_B_neutralShift : Fld Z h0 w_B "com/example/peptools/peptools/spectra/IonType" "neutralShift" "D" (.double 0)) (S_Y : Sta Z h0 "com/example/peptools/peptools/spectra/IonType" "Y" "Lcom/example/peptools/peptools/spectra/IonType;" (.ref w_Y)) (X_Y : Exa Z h0 w_Y "com/example/peptools/peptools/spectra/IonType") (F_Y_charge : Fld Z h0 w_Y "com/example/peptools/peptools/spectra/IonType" "charge" "I" (.int 1)) (F_Y_neutralShift : Fld Z h0 w_Y "com/example/peptools/peptools/spectra/IonType" "neutralShift" "D" (.double 4625762741046049652)) (S_A : Sta Z h0 "com/example/peptools/peptools/spectra/IonType" "A" "Lcom/example/peptools/peptools/spectra/IonType;" (.ref w_A)) (X_A : Exa Z h0 w_A "com/example/peptools/peptools/spectra/IonType") (F_A_charge : Fld Z h0 w_A "com/example/peptools/peptools/spectra/IonType" "charge" "I" (.int 1)) (F_A_neutralShift : Fld Z h0 w_A "com/example/peptools/peptools/spectra/IonType" "neutralShift" "D" (.double 13851945122584546498)) (S_Y_LESS_WATER : Sta Z h0 "com/example/peptools/peptools/spectra/IonType" "Y_LESS_WATER" "Lcom/example/peptools/peptools/spectra/IonType;" (.ref w_Y_LESS_WATER)) (X_Y_LESS_WATER : Exa Z h0 w_Y_LESS_WATER "com/example/peptools/peptools/spectra/IonType") (F_Y_LESS_WATER_charge : Fld Z h0 w_Y_LESS_WATER "com/example/peptools/peptools/spectra/IonType" "charge" "I" (.int 1)) (F_Y_LESS_WATER_neutralShift : Fld Z h0 w_Y_LESS_WATER "com/example/peptools/peptools/spectra/IonType" "neutralShift" "D" (.double 0)) (S_Y_LESS_AMMONIA : Sta Z h0 "com/example/peptools/peptools/spectra/IonType" "Y_LESS_AMMONIA" "Lcom/example/peptools/peptools/spectra/IonType;" (.ref w_Y_LESS_AMMONIA)) (X_Y_LESS_AMMONIA : Exa Z h0 w_Y_LESS_AMMONIA "com/example/peptools/peptools/spectra/IonType") (F_Y_LESS_AMMONIA_charge : Fld Z h0 w_Y_LESS_AMMONIA "com/example/peptools/peptools/spectra/IonType" "charge" "I" (.int 1)) (F_Y_LESS_AMMONIA_neutralShift : Fld Z h0 w_Y_LESS_AMMONIA "com/example/peptools/peptools/spectra/IonType" "neutralShift" "D" (.double 4607038447727129632)) (S_B_DOUBLY_CHARGED : Sta Z h0 "com/example/peptools/peptools/spectra/IonType" "B_DOUBLY_CHARGED" "Lcom/example/peptools/peptools/spectra/IonType;" (.ref w_B_DOUBLY_CHARGED)) (X_B_DOUBLY_CHARGED : Exa Z h0 w_B_DOUBLY_CHARGED "com/example/peptools/peptools/spectra/IonType") (F_B_DOUBLY_CHARGED_charge : Fld Z h0 w_B_DOUBLY_CHARGED "com/example/peptools/peptools/spectra/IonType" "charge" "I" (.int 2)) (F_B_DOUBLY_CHARGED_neutralShift : Fld Z h0 w_B_DOUBLY_CHARGED "com/example/peptools/peptools/spectra/IonType" "neutralShift" "D" (.double 0)) (S_Y_DOUBLY_CHARGED : Sta Z h0 "com/example/peptools/peptools/spectra/IonType" "Y_DOUBLY_CHARGED" "Lcom/example/peptools/peptools/spectra/IonType;" (.ref w_Y_DOUBLY_CHARGED)) (X_Y_DOUBLY_CHARGED : Exa Z h0 w_Y_DOUBLY_CHARGED "com/example/peptools/peptools/spectra/IonType") (F_Y_DOUBLY_CHARGED_charge : Fld Z h0 w_Y_DOUBLY_CHARGED "com/example/peptools/peptools/spectra/IonType" "charge" "I" (.int 2)) (F_Y_DOUBLY_CHARGED_neutralShift : Fld Z h0 w_Y_DOUBLY_CHARGED "com/example/peptools/peptools/spectra/IonType" "neutralShift" "D" (.double 4625762741046049652)) (S_B_LESS_WATER : Sta Z h0 "com/example/peptools/peptools/spectra/IonType" "B_LESS_WATER" "Lcom/example/peptools/peptools/spectra/IonType;" (.ref w_B_LESS_WATER)) (X_B_LESS_WATER : Exa Z h0 w_B_LESS_WATER "com/example/peptools/peptools/spectra/IonType") (F_B_LESS_WATER_charge : Fld Z h0 w_B_LESS_WATER "com/example/peptools/peptools/spectra/IonType" "charge" "I" (.int 1)) (F_B_LESS_WATER_neutralShift : Fld Z h0 w_B_LESS_WATER "com/example/peptools/peptools/spectra/IonType" "neutralShift" "D" (.double 13849134777900825460)) (S_B_LESS_AMMONIA : Sta Z h0 "com/example/peptools/peptools/spectra/IonType" "B_LESS_AMMONIA" "Lcom/example/peptools/peptools/spectra/IonType;" (.ref w_B_LESS_AMMONIA)) (X_B_LESS_AMMONIA : Exa Z h0 w_B_LESS_AMMONIA "com/example/peptools/peptools/spectra/IonType") (F_B_LESS_AMMONIA_charge : Fld Z h0 w_B_LESS_AMMONIA "com/example/peptools/peptools/spectra/IonType" "charge" "I" (.int 1)) (F_B_LESS_AMMONIA_neutralShift : Fld Z h0 w_B_LESS_AMMONIA "com/example/peptools/peptools/spectra/IonType" "neutralShift" "D" (.double 13848857802020142547)) :
    MetFree l (⟨"com/example/peptools/peptools/spectra/IonTypeMzHoldingPinLaw", "pick", "(I)Lcom/example/peptools/peptools/spectra/IonType;"⟩ : MethodName) (head1 (Jvm.Cond.code (⟨"com/example/peptools/peptools/spectra/IonTypeMzHoldingPinLaw", "pick", "(I)Lcom/example/peptools/peptools/spectra/IonType;"⟩ : MethodName) method_3_code 1 (some (.object "com/example/peptools/peptools/spectra/IonType")) :: ws) ({ frames := 0, cells := 0, slots := 0, locals := 0 } : Room)) (fun a U => a = #[(.int p0)] ∧ Z.Warmed39 U.vm ∧ U.heap = h0) (fun _ _ _ _ _ => True) (fun _ U o U' => ∃ v L, o = .returned v ∧ QP Z p0 w_B w_Y w_A w_Y_LESS_WATER w_Y_LESS_AMMONIA w_B_DOUBLY_CHARGED w_Y_DOUBLY_CHARGED w_B_LESS_WATER w_B_LESS_AMMONIA h0 n0 v U'.heap L ∧ FrameEnd U o U' L ({ frames := 0, cells := 0, slots := 0, locals := 0 } : Room).cells ({ frames := 0, cells := 0, slots := 0, locals := 0 } : Room).slots) := by
  refine MetFree.of_bodySF (plainFor_of_name own_pn_com_example_peptools_peptools_spectra_IonTypeMzHoldingPinLaw) hisR ?_
  intro p e s m args below meth c s₁ Bd hml0 hP hK
  obtain ⟨rfl, hZ, hh⟩ := hP
  have hx := Bd.exec
  have hby := Bd.bytes
  have hml : c.maxLocals = 1 := hml0
  have hown : s.vm.findClass "com/example/peptools/peptools/spectra/IonTypeMzHoldingPinLaw" = some m.cls := findClass_of_methodNamed Bd.named
  have hnm := (name_of_methodNamed Bd.named Bd.method).1
  have X0 : Stand p l e ({ frames := 0, cells := 0, slots := 0, locals := 0 } : Room) s m #[(.int p0)] below meth c s₁ [] 0 0 := Stand.of_body Bd
  have e0 : s₁.heap = h0 := by rw [← hh, Bd.state]; rfl
  have N0 := Fr.nil n0
  have pre0 : ∀ t, Steps p.tables e below (s₁.setTop (mkF m 0 #[.val (.int p0)] [])) t → Steps p.tables e below (s₁.setTop (entryFrame m #[(.int p0)] 1)) t := fun t k => castTop (ef_rmP m p0) k
  have a1 : ∀ t, Steps p.tables e below (s₁.setTop (mkF m 1 #[.val (.int p0)] [(.int p0)])) t → Steps p.tables e below (s₁.setTop (entryFrame m #[(.int p0)] 1)) t := by
    intro t k
    refine pre0 t ?_
    show Steps p.tables e below (s₁.setTop (mkF m 0 #[.val (.int p0)] [])) _
    refine XS.iloadN X0.here hx rfl (hb hby d1_0) rfl ?_
    exact k
  by_cases hc1_2 : p0 = (0 : Int32)
  ·
    have a3 : ∀ t, Steps p.tables e below (s₁.setTop (mkF m 4 #[.val (.int p0)] [])) t → Steps p.tables e below (s₁.setTop (entryFrame m #[(.int p0)] 1)) t := by
      intro t k
      refine a1 t ?_
      show Steps p.tables e below (s₁.setTop (mkF m 1 #[.val (.int p0)] [(.int p0)])) _
      refine XS.ifNo X0.here hx rfl (hb hby d1_1) rfl ((if0 _ _).trans (teq hc1_2).2) ?_
      exact k
    obtain ⟨T4, X4, e4, st4⟩ := getS2 X0 hx hZ hown (host := "") (Or.inl (hw _ (List.mem_of_getElem? (i := 6) rfl))) Via.refl e0 S_B (g := (mkF m 4 #[.val (.int p0)] [])) rfl (hb hby d1_4)
    have a5 : ∀ t, Steps p.tables e below (T4.setTop (mkF m 7 #[.val (.int p0)] [(.ref w_B)])) t → Steps p.tables e below (s₁.setTop (entryFrame m #[(.int p0)] 1)) t := fun t k => a3 t (st4 t k)
    obtain ⟨fs, hr, hrun, hended, hW, hsame⟩ := X4.leave (v := some (.ref w_B)) (fun h => by rw [Bd.returns] at h; cases h)
    refine ⟨_, _, a5 _ ?_, hrun, hended, _, _, rfl, ?_, ⟨_, rfl⟩, hW, hsame.mono (by decide) (by decide)⟩
    · show Steps p.tables e below (T4.setTop (mkF m 7 #[.val (.int p0)] [(.ref w_B)])) _
      exact retOut X4 hx Bd.returns rfl (Or.inr (Or.inr (Or.inr (Or.inr ⟨rfl, rfl, rfl⟩)))) (hb hby d1_7) hr
    · show QP Z p0 w_B w_Y w_A w_Y_LESS_WATER w_Y_LESS_AMMONIA w_B_DOUBLY_CHARGED w_Y_DOUBLY_CHARGED w_B_LESS_WATER w_B_LESS_AMMONIA h0 n0 _ T4.heap _
      rw [e4]
      exact ⟨w_B, rfl, X_B, (by unfold own_ch; rw [if_pos hc1_2]; exact F_B_charge), (by unfold own_sh; rw [if_pos hc1_2]; exact F_B_neutralShift), N0, rfl⟩
  ·
    have a6 : ∀ t, Steps p.tables e below (s₁.setTop (mkF m 10 #[.val (.int p0)] [(.int (1 : Int32)), (.int p0)])) t → Steps p.tables e below (s₁.setTop (entryFrame m #[(.int p0)] 1)) t := by
      intro t k
      refine a1 t ?_
      show Steps p.tables e below (s₁.setTop (mkF m 1 #[.val (.int p0)] [(.int p0)])) _
      refine XS.ifYes X0.here hx rfl (pc0 := 1) (pc' := 8) rfl (hb hby d1_1) rfl ((if0 _ _).trans (feq hc1_2).2) (by decide) (by decide) ?_
      show Steps p.tables e below (s₁.setTop (mkF m 8 #[.val (.int p0)] [])) _
      refine XS.iloadN X0.here hx rfl (hb hby d1_8) rfl ?_
      show Steps p.tables e below (s₁.setTop (mkF m 9 #[.val (.int p0)] [(.int p0)])) _
      refine XS.iconst X0.here hx rfl (hb hby d1_9) ?_
      exact k
    by_cases hc10_7 : p0 = (1 : Int32)
    ·
      have a8 : ∀ t, Steps p.tables e below (s₁.setTop (mkF m 13 #[.val (.int p0)] [])) t → Steps p.tables e below (s₁.setTop (entryFrame m #[(.int p0)] 1)) t := by
        intro t k
        refine a6 t ?_
        show Steps p.tables e below (s₁.setTop (mkF m 10 #[.val (.int p0)] [(.int (1 : Int32)), (.int p0)])) _
        refine XS.icmpNo X0.here hx rfl (hb hby d1_10) rfl (teq hc10_7).2 ?_
        exact k
      obtain ⟨T9, X9, e9, st9⟩ := getS2 X0 hx hZ hown (host := "") (Or.inl (hw _ (List.mem_of_getElem? (i := 28) rfl))) Via.refl e0 S_Y (g := (mkF m 13 #[.val (.int p0)] [])) rfl (hb hby d1_13)
      have a10 : ∀ t, Steps p.tables e below (T9.setTop (mkF m 16 #[.val (.int p0)] [(.ref w_Y)])) t → Steps p.tables e below (s₁.setTop (entryFrame m #[(.int p0)] 1)) t := fun t k => a8 t (st9 t k)
      obtain ⟨fs, hr, hrun, hended, hW, hsame⟩ := X9.leave (v := some (.ref w_Y)) (fun h => by rw [Bd.returns] at h; cases h)
      refine ⟨_, _, a10 _ ?_, hrun, hended, _, _, rfl, ?_, ⟨_, rfl⟩, hW, hsame.mono (by decide) (by decide)⟩
      · show Steps p.tables e below (T9.setTop (mkF m 16 #[.val (.int p0)] [(.ref w_Y)])) _
        exact retOut X9 hx Bd.returns rfl (Or.inr (Or.inr (Or.inr (Or.inr ⟨rfl, rfl, rfl⟩)))) (hb hby d1_16) hr
      · show QP Z p0 w_B w_Y w_A w_Y_LESS_WATER w_Y_LESS_AMMONIA w_B_DOUBLY_CHARGED w_Y_DOUBLY_CHARGED w_B_LESS_WATER w_B_LESS_AMMONIA h0 n0 _ T9.heap _
        rw [e9]
        exact ⟨w_Y, rfl, X_Y, (by unfold own_ch; rw [if_neg hc1_2, if_pos hc10_7]; exact F_Y_charge), (by unfold own_sh; rw [if_neg hc1_2, if_pos hc10_7]; exact F_Y_neutralShift), N0, rfl⟩
    ·
      have a11 : ∀ t, Steps p.tables e below (s₁.setTop (mkF m 19 #[.val (.int p0)] [(.int (2 : Int32)), (.int p0)])) t → Steps p.tables e below (s₁.setTop (entryFrame m #[(.int p0)] 1)) t := by
        intro t k
        refine a6 t ?_
        show Steps p.tables e below (s₁.setTop (mkF m 10 #[.val (.int p0)] [(.int (1 : Int32)), (.int p0)])) _
        refine XS.icmpYes X0.here hx rfl (pc0 := 10) (pc' := 17) rfl (hb hby d1_10) rfl (feq hc10_7).2 (by decide) (by decide) ?_
        show Steps p.tables e below (s₁.setTop (mkF m 17 #[.val (.int p0)] [])) _
        refine XS.iloadN X0.here hx rfl (hb hby d1_17) rfl ?_
        show Steps p.tables e below (s₁.setTop (mkF m 18 #[.val (.int p0)] [(.int p0)])) _
        refine XS.iconst X0.here hx rfl (hb hby d1_18) ?_
        exact k
      by_cases hc19_12 : p0 = (2 : Int32)
      ·
        have a13 : ∀ t, Steps p.tables e below (s₁.setTop (mkF m 22 #[.val (.int p0)] [])) t → Steps p.tables e below (s₁.setTop (entryFrame m #[(.int p0)] 1)) t := by
          intro t k
          refine a11 t ?_
          show Steps p.tables e below (s₁.setTop (mkF m 19 #[.val (.int p0)] [(.int (2 : Int32)), (.int p0)])) _
          refine XS.icmpNo X0.here hx rfl (hb hby d1_19) rfl (teq hc19_12).2 ?_
          exact k
        obtain ⟨T14, X14, e14, st14⟩ := getS2 X0 hx hZ hown (host := "") (Or.inl (hw _ (List.mem_of_getElem? (i := 33) rfl))) Via.refl e0 S_A (g := (mkF m 22 #[.val (.int p0)] [])) rfl (hb hby d1_22)
        have a15 : ∀ t, Steps p.tables e below (T14.setTop (mkF m 25 #[.val (.int p0)] [(.ref w_A)])) t → Steps p.tables e below (s₁.setTop (entryFrame m #[(.int p0)] 1)) t := fun t k => a13 t (st14 t k)
        obtain ⟨fs, hr, hrun, hended, hW, hsame⟩ := X14.leave (v := some (.ref w_A)) (fun h => by rw [Bd.returns] at h; cases h)
        refine ⟨_, _, a15 _ ?_, hrun, hended, _, _, rfl, ?_, ⟨_, rfl⟩, hW, hsame.mono (by decide) (by decide)⟩
        · show Steps p.tables e below (T14.setTop (mkF m 25 #[.val (.int p0)] [(.ref w_A)])) _
          exact retOut X14 hx Bd.returns rfl (Or.inr (Or.inr (Or.inr (Or.inr ⟨rfl, rfl, rfl⟩)))) (hb hby d1_25) hr
        · show QP Z p0 w_B w_Y w_A w_Y_LESS_WATER w_Y_LESS_AMMONIA w_B_DOUBLY_CHARGED w_Y_DOUBLY_CHARGED w_B_LESS_WATER w_B_LESS_AMMONIA h0 n0 _ T14.heap _
          rw [e14]
          exact ⟨w_A, rfl, X_A, (by unfold own_ch; rw [if_neg hc1_2, if_neg hc10_7, if_pos hc19_12]; exact F_A_charge), (by unfold own_sh; rw [if_neg hc1_2, if_neg hc10_7, if_pos hc19_12]; exact F_A_neutralShift), N0, rfl⟩
      ·
        have a16 : ∀ t, Steps p.tables e below (s₁.setTop (mkF m 28 #[.val (.int p0)] [(.int (3 : Int32)), (.int p0)])) t → Steps p.tables e below (s₁.setTop (entryFrame m #[(.int p0)] 1)) t := by
          intro t k
          refine a11 t ?_
          show Steps p.tables e below (s₁.setTop (mkF m 19 #[.val (.int p0)] [(.int (2 : Int32)), (.int p0)])) _
          refine XS.icmpYes X0.here hx rfl (pc0 := 19) (pc' := 26) rfl (hb hby d1_19) rfl (feq hc19_12).2 (by decide) (by decide) ?_
          show Steps p.tables e below (s₁.setTop (mkF m 26 #[.val (.int p0)] [])) _
          refine XS.iloadN X0.here hx rfl (hb hby d1_26) rfl ?_
          show Steps p.tables e below (s₁.setTop (mkF m 27 #[.val (.int p0)] [(.int p0)])) _
          refine XS.iconst X0.here hx rfl (hb hby d1_27) ?_
          exact k
        by_cases hc28_17 : p0 = (3 : Int32)
        ·
          have a18 : ∀ t, Steps p.tables e below (s₁.setTop (mkF m 31 #[.val (.int p0)] [])) t → Steps p.tables e below (s₁.setTop (entryFrame m #[(.int p0)] 1)) t := by
            intro t k
            refine a16 t ?_
            show Steps p.tables e below (s₁.setTop (mkF m 28 #[.val (.int p0)] [(.int (3 : Int32)), (.int p0)])) _
            refine XS.icmpNo X0.here hx rfl (hb hby d1_28) rfl (teq hc28_17).2 ?_
            exact k
          obtain ⟨T19, X19, e19, st19⟩ := getS2 X0 hx hZ hown (host := "") (Or.inl (hw _ (List.mem_of_getElem? (i := 23) rfl))) Via.refl e0 S_Y_LESS_WATER (g := (mkF m 31 #[.val (.int p0)] [])) rfl (hb hby d1_31)
          have a20 : ∀ t, Steps p.tables e below (T19.setTop (mkF m 34 #[.val (.int p0)] [(.ref w_Y_LESS_WATER)])) t → Steps p.tables e below (s₁.setTop (entryFrame m #[(.int p0)] 1)) t := fun t k => a18 t (st19 t k)
          obtain ⟨fs, hr, hrun, hended, hW, hsame⟩ := X19.leave (v := some (.ref w_Y_LESS_WATER)) (fun h => by rw [Bd.returns] at h; cases h)
          refine ⟨_, _, a20 _ ?_, hrun, hended, _, _, rfl, ?_, ⟨_, rfl⟩, hW, hsame.mono (by decide) (by decide)⟩
          · show Steps p.tables e below (T19.setTop (mkF m 34 #[.val (.int p0)] [(.ref w_Y_LESS_WATER)])) _
            exact retOut X19 hx Bd.returns rfl (Or.inr (Or.inr (Or.inr (Or.inr ⟨rfl, rfl, rfl⟩)))) (hb hby d1_34) hr
          · show QP Z p0 w_B w_Y w_A w_Y_LESS_WATER w_Y_LESS_AMMONIA w_B_DOUBLY_CHARGED w_Y_DOUBLY_CHARGED w_B_LESS_WATER w_B_LESS_AMMONIA h0 n0 _ T19.heap _
            rw [e19]
            exact ⟨w_Y_LESS_WATER, rfl, X_Y_LESS_WATER, (by unfold own_ch; rw [if_neg hc1_2, if_neg hc10_7, if_neg hc19_12, if_pos hc28_17]; exact F_Y_LESS_WATER_charge), (by unfold own_sh; rw [if_neg hc1_2, if_neg hc10_7, if_neg hc19_12, if_pos hc28_17]; exact F_Y_LESS_WATER_neutralShift), N0, rfl⟩
        ·
          have a21 : ∀ t, Steps p.tables e below (s₁.setTop (mkF m 37 #[.val (.int p0)] [(.int (4 : Int32)), (.int p0)])) t → Steps p.tables e below (s₁.setTop (entryFrame m #[(.int p0)] 1)) t := by
            intro t k
            refine a16 t ?_
            show Steps p.tables e below (s₁.setTop (mkF m 28 #[.val (.int p0)] [(.int (3 : Int32)), (.int p0)])) _
            refine XS.icmpYes X0.here hx rfl (pc0 := 28) (pc' := 35) rfl (hb hby d1_28) rfl (feq hc28_17).2 (by decide) (by decide) ?_
            show Steps p.tables e below (s₁.setTop (mkF m 35 #[.val (.int p0)] [])) _
            refine XS.iloadN X0.here hx rfl (hb hby d1_35) rfl ?_
            show Steps p.tables e below (s₁.setTop (mkF m 36 #[.val (.int p0)] [(.int p0)])) _
            refine XS.iconst X0.here hx rfl (hb hby d1_36) ?_
            exact k
          by_cases hc37_22 : p0 = (4 : Int32)
          ·
            have a23 : ∀ t, Steps p.tables e below (s₁.setTop (mkF m 40 #[.val (.int p0)] [])) t → Steps p.tables e below (s₁.setTop (entryFrame m #[(.int p0)] 1)) t := by
              intro t k
              refine a21 t ?_
              show Steps p.tables e below (s₁.setTop (mkF m 37 #[.val (.int p0)] [(.int (4 : Int32)), (.int p0)])) _
              refine XS.icmpNo X0.here hx rfl (hb hby d1_37) rfl (teq hc37_22).2 ?_
              exact k
            obtain ⟨T24, X24, e24, st24⟩ := getS2 X0 hx hZ hown (host := "") (Or.inl (hw _ (List.mem_of_getElem? (i := 41) rfl))) Via.refl e0 S_Y_LESS_AMMONIA (g := (mkF m 40 #[.val (.int p0)] [])) rfl (hb hby d1_40)
            have a25 : ∀ t, Steps p.tables e below (T24.setTop (mkF m 43 #[.val (.int p0)] [(.ref w_Y_LESS_AMMONIA)])) t → Steps p.tables e below (s₁.setTop (entryFrame m #[(.int p0)] 1)) t := fun t k => a23 t (st24 t k)
            obtain ⟨fs, hr, hrun, hended, hW, hsame⟩ := X24.leave (v := some (.ref w_Y_LESS_AMMONIA)) (fun h => by rw [Bd.returns] at h; cases h)
            refine ⟨_, _, a25 _ ?_, hrun, hended, _, _, rfl, ?_, ⟨_, rfl⟩, hW, hsame.mono (by decide) (by decide)⟩
            · show Steps p.tables e below (T24.setTop (mkF m 43 #[.val (.int p0)] [(.ref w_Y_LESS_AMMONIA)])) _
              exact retOut X24 hx Bd.returns rfl (Or.inr (Or.inr (Or.inr (Or.inr ⟨rfl, rfl, rfl⟩)))) (hb hby d1_43) hr
            · show QP Z p0 w_B w_Y w_A w_Y_LESS_WATER w_Y_LESS_AMMONIA w_B_DOUBLY_CHARGED w_Y_DOUBLY_CHARGED w_B_LESS_WATER w_B_LESS_AMMONIA h0 n0 _ T24.heap _
              rw [e24]
              exact ⟨w_Y_LESS_AMMONIA, rfl, X_Y_LESS_AMMONIA, (by unfold own_ch; rw [if_neg hc1_2, if_neg hc10_7, if_neg hc19_12, if_neg hc28_17, if_pos hc37_22]; exact F_Y_LESS_AMMONIA_charge), (by unfold own_sh; rw [if_neg hc1_2, if_neg hc10_7, if_neg hc19_12, if_neg hc28_17, if_pos hc37_22]; exact F_Y_LESS_AMMONIA_neutralShift), N0, rfl⟩
          ·
            have a26 : ∀ t, Steps p.tables e below (s₁.setTop (mkF m 46 #[.val (.int p0)] [(.int (5 : Int32)), (.int p0)])) t → Steps p.tables e below (s₁.setTop (entryFrame m #[(.int p0)] 1)) t := by
              intro t k
              refine a21 t ?_
              show Steps p.tables e below (s₁.setTop (mkF m 37 #[.val (.int p0)] [(.int (4 : Int32)), (.int p0)])) _
              refine XS.icmpYes X0.here hx rfl (pc0 := 37) (pc' := 44) rfl (hb hby d1_37) rfl (feq hc37_22).2 (by decide) (by decide) ?_
              show Steps p.tables e below (s₁.setTop (mkF m 44 #[.val (.int p0)] [])) _
              refine XS.iloadN X0.here hx rfl (hb hby d1_44) rfl ?_
              show Steps p.tables e below (s₁.setTop (mkF m 45 #[.val (.int p0)] [(.int p0)])) _
              refine XS.iconst X0.here hx rfl (hb hby d1_45) ?_
              exact k
            by_cases hc46_27 : p0 = (5 : Int32)
            ·
              have a28 : ∀ t, Steps p.tables e below (s₁.setTop (mkF m 49 #[.val (.int p0)] [])) t → Steps p.tables e below (s₁.setTop (entryFrame m #[(.int p0)] 1)) t := by
                intro t k
                refine a26 t ?_
                show Steps p.tables e below (s₁.setTop (mkF m 46 #[.val (.int p0)] [(.int (5 : Int32)), (.int p0)])) _
                refine XS.icmpNo X0.here hx rfl (hb hby d1_46) rfl (teq hc46_27).2 ?_
                exact k
              obtain ⟨T29, X29, e29, st29⟩ := getS2 X0 hx hZ hown (host := "") (Or.inl (hw _ (List.mem_of_getElem? (i := 39) rfl))) Via.refl e0 S_B_DOUBLY_CHARGED (g := (mkF m 49 #[.val (.int p0)] [])) rfl (hb hby d1_49)
              have a30 : ∀ t, Steps p.tables e below (T29.setTop (mkF m 52 #[.val (.int p0)] [(.ref w_B_DOUBLY_CHARGED)])) t → Steps p.tables e below (s₁.setTop (entryFrame m #[(.int p0)] 1)) t := fun t k => a28 t (st29 t k)
              obtain ⟨fs, hr, hrun, hended, hW, hsame⟩ := X29.leave (v := some (.ref w_B_DOUBLY_CHARGED)) (fun h => by rw [Bd.returns] at h; cases h)
              refine ⟨_, _, a30 _ ?_, hrun, hended, _, _, rfl, ?_, ⟨_, rfl⟩, hW, hsame.mono (by decide) (by decide)⟩
              · show Steps p.tables e below (T29.setTop (mkF m 52 #[.val (.int p0)] [(.ref w_B_DOUBLY_CHARGED)])) _
                exact retOut X29 hx Bd.returns rfl (Or.inr (Or.inr (Or.inr (Or.inr ⟨rfl, rfl, rfl⟩)))) (hb hby d1_52) hr
              · show QP Z p0 w_B w_Y w_A w_Y_LESS_WATER w_Y_LESS_AMMONIA w_B_DOUBLY_CHARGED w_Y_DOUBLY_CHARGED w_B_LESS_WATER w_B_LESS_AMMONIA h0 n0 _ T29.heap _
                rw [e29]
                exact ⟨w_B_DOUBLY_CHARGED, rfl, X_B_DOUBLY_CHARGED, (by unfold own_ch; rw [if_neg hc1_2, if_neg hc10_7, if_neg hc19_12, if_neg hc28_17, if_neg hc37_22, if_pos hc46_27]; exact F_B_DOUBLY_CHARGED_charge), (by unfold own_sh; rw [if_neg hc1_2, if_neg hc10_7, if_neg hc19_12, if_neg hc28_17, if_neg hc37_22, if_pos hc46_27]; exact F_B_DOUBLY_CHARGED_neutralShift), N0, rfl⟩
            ·
              have a31 : ∀ t, Steps p.tables e below (s₁.setTop (mkF m 56 #[.val (.int p0)] [(.int (6 : Int32)), (.int p0)])) t → Steps p.tables e below (s₁.setTop (entryFrame m #[(.int p0)] 1)) t := by
                intro t k
                refine a26 t ?_
                show Steps p.tables e below (s₁.setTop (mkF m 46 #[.val (.int p0)] [(.int (5 : Int32)), (.int p0)])) _
                refine XS.icmpYes X0.here hx rfl (pc0 := 46) (pc' := 53) rfl (hb hby d1_46) rfl (feq hc46_27).2 (by decide) (by decide) ?_
                show Steps p.tables e below (s₁.setTop (mkF m 53 #[.val (.int p0)] [])) _
                refine XS.iloadN X0.here hx rfl (hb hby d1_53) rfl ?_
                show Steps p.tables e below (s₁.setTop (mkF m 54 #[.val (.int p0)] [(.int p0)])) _
                refine XS.bipush X0.here hx rfl (hb hby d1_54) ?_
                exact k
              by_cases hc56_32 : p0 = (6 : Int32)
              ·
                have a33 : ∀ t, Steps p.tables e below (s₁.setTop (mkF m 59 #[.val (.int p0)] [])) t → Steps p.tables e below (s₁.setTop (entryFrame m #[(.int p0)] 1)) t := by
                  intro t k
                  refine a31 t ?_
                  show Steps p.tables e below (s₁.setTop (mkF m 56 #[.val (.int p0)] [(.int (6 : Int32)), (.int p0)])) _
                  refine XS.icmpNo X0.here hx rfl (hb hby d1_56) rfl (teq hc56_32).2 ?_
                  exact k
                obtain ⟨T34, X34, e34, st34⟩ := getS2 X0 hx hZ hown (host := "") (Or.inl (hw _ (List.mem_of_getElem? (i := 30) rfl))) Via.refl e0 S_Y_DOUBLY_CHARGED (g := (mkF m 59 #[.val (.int p0)] [])) rfl (hb hby d1_59)
                have a35 : ∀ t, Steps p.tables e below (T34.setTop (mkF m 62 #[.val (.int p0)] [(.ref w_Y_DOUBLY_CHARGED)])) t → Steps p.tables e below (s₁.setTop (entryFrame m #[(.int p0)] 1)) t := fun t k => a33 t (st34 t k)
                obtain ⟨fs, hr, hrun, hended, hW, hsame⟩ := X34.leave (v := some (.ref w_Y_DOUBLY_CHARGED)) (fun h => by rw [Bd.returns] at h; cases h)
                refine ⟨_, _, a35 _ ?_, hrun, hended, _, _, rfl, ?_, ⟨_, rfl⟩, hW, hsame.mono (by decide) (by decide)⟩
                · show Steps p.tables e below (T34.setTop (mkF m 62 #[.val (.int p0)] [(.ref w_Y_DOUBLY_CHARGED)])) _
                  exact retOut X34 hx Bd.returns rfl (Or.inr (Or.inr (Or.inr (Or.inr ⟨rfl, rfl, rfl⟩)))) (hb hby d1_62) hr
                · show QP Z p0 w_B w_Y w_A w_Y_LESS_WATER w_Y_LESS_AMMONIA w_B_DOUBLY_CHARGED w_Y_DOUBLY_CHARGED w_B_LESS_WATER w_B_LESS_AMMONIA h0 n0 _ T34.heap _
                  rw [e34]
                  exact ⟨w_Y_DOUBLY_CHARGED, rfl, X_Y_DOUBLY_CHARGED, (by unfold own_ch; rw [if_neg hc1_2, if_neg hc10_7, if_neg hc19_12, if_neg hc28_17, if_neg hc37_22, if_neg hc46_27, if_pos hc56_32]; exact F_Y_DOUBLY_CHARGED_charge), (by unfold own_sh; rw [if_neg hc1_2, if_neg hc10_7, if_neg hc19_12, if_neg hc28_17, if_neg hc37_22, if_neg hc46_27, if_pos hc56_32]; exact F_Y_DOUBLY_CHARGED_neutralShift), N0, rfl⟩
              ·
                have a36 : ∀ t, Steps p.tables e below (s₁.setTop (mkF m 66 #[.val (.int p0)] [(.int (7 : Int32)), (.int p0)])) t → Steps p.tables e below (s₁.setTop (entryFrame m #[(.int p0)] 1)) t := by
                  intro t k
                  refine a31 t ?_
                  show Steps p.tables e below (s₁.setTop (mkF m 56 #[.val (.int p0)] [(.int (6 : Int32)), (.int p0)])) _
                  refine XS.icmpYes X0.here hx rfl (pc0 := 56) (pc' := 63) rfl (hb hby d1_56) rfl (feq hc56_32).2 (by decide) (by decide) ?_
                  show Steps p.tables e below (s₁.setTop (mkF m 63 #[.val (.int p0)] [])) _
                  refine XS.iloadN X0.here hx rfl (hb hby d1_63) rfl ?_
                  show Steps p.tables e below (s₁.setTop (mkF m 64 #[.val (.int p0)] [(.int p0)])) _
                  refine XS.bipush X0.here hx rfl (hb hby d1_64) ?_
                  exact k
                by_cases hc66_37 : p0 = (7 : Int32)
                ·
                  have a38 : ∀ t, Steps p.tables e below (s₁.setTop (mkF m 69 #[.val (.int p0)] [])) t → Steps p.tables e below (s₁.setTop (entryFrame m #[(.int p0)] 1)) t := by
                    intro t k
                    refine a36 t ?_
                    show Steps p.tables e below (s₁.setTop (mkF m 66 #[.val (.int p0)] [(.int (7 : Int32)), (.int p0)])) _
                    refine XS.icmpNo X0.here hx rfl (hb hby d1_66) rfl (teq hc66_37).2 ?_
                    exact k
                  obtain ⟨T39, X39, e39, st39⟩ := getS2 X0 hx hZ hown (host := "") (Or.inl (hw _ (List.mem_of_getElem? (i := 25) rfl))) Via.refl e0 S_B_LESS_WATER (g := (mkF m 69 #[.val (.int p0)] [])) rfl (hb hby d1_69)
                  have a40 : ∀ t, Steps p.tables e below (T39.setTop (mkF m 72 #[.val (.int p0)] [(.ref w_B_LESS_WATER)])) t → Steps p.tables e below (s₁.setTop (entryFrame m #[(.int p0)] 1)) t := fun t k => a38 t (st39 t k)
                  obtain ⟨fs, hr, hrun, hended, hW, hsame⟩ := X39.leave (v := some (.ref w_B_LESS_WATER)) (fun h => by rw [Bd.returns] at h; cases h)
                  refine ⟨_, _, a40 _ ?_, hrun, hended, _, _, rfl, ?_, ⟨_, rfl⟩, hW, hsame.mono (by decide) (by decide)⟩
                  · show Steps p.tables e below (T39.setTop (mkF m 72 #[.val (.int p0)] [(.ref w_B_LESS_WATER)])) _
                    exact retOut X39 hx Bd.returns rfl (Or.inr (Or.inr (Or.inr (Or.inr ⟨rfl, rfl, rfl⟩)))) (hb hby d1_72) hr
                  · show QP Z p0 w_B w_Y w_A w_Y_LESS_WATER w_Y_LESS_AMMONIA w_B_DOUBLY_CHARGED w_Y_DOUBLY_CHARGED w_B_LESS_WATER w_B_LESS_AMMONIA h0 n0 _ T39.heap _
                    rw [e39]
                    exact ⟨w_B_LESS_WATER, rfl, X_B_LESS_WATER, (by unfold own_ch; rw [if_neg hc1_2, if_neg hc10_7, if_neg hc19_12, if_neg hc28_17, if_neg hc37_22, if_neg hc46_27, if_neg hc56_32, if_pos hc66_37]; exact F_B_LESS_WATER_charge), (by unfold own_sh; rw [if_neg hc1_2, if_neg hc10_7, if_neg hc19_12, if_neg hc28_17, if_neg hc37_22, if_neg hc46_27, if_neg hc56_32, if_pos hc66_37]; exact F_B_LESS_WATER_neutralShift), N0, rfl⟩
                ·
                  have a41 : ∀ t, Steps p.tables e below (s₁.setTop (mkF m 73 #[.val (.int p0)] [])) t → Steps p.tables e below (s₁.setTop (entryFrame m #[(.int p0)] 1)) t := by
                    intro t k
                    refine a36 t ?_
                    show Steps p.tables e below (s₁.setTop (mkF m 66 #[.val (.int p0)] [(.int (7 : Int32)), (.int p0)])) _
                    refine XS.icmpYes X0.here hx rfl (pc0 := 66) (pc' := 73) rfl (hb hby d1_66) rfl (feq hc66_37).2 (by decide) (by decide) ?_
                    exact k
                  obtain ⟨T42, X42, e42, st42⟩ := getS2 X0 hx hZ hown (host := "") (Or.inl (hw _ (List.mem_of_getElem? (i := 36) rfl))) Via.refl e0 S_B_LESS_AMMONIA (g := (mkF m 73 #[.val (.int p0)] [])) rfl (hb hby d1_73)
                  have a43 : ∀ t, Steps p.tables e below (T42.setTop (mkF m 76 #[.val (.int p0)] [(.ref w_B_LESS_AMMONIA)])) t → Steps p.tables e below (s₁.setTop (entryFrame m #[(.int p0)] 1)) t := fun t k => a41 t (st42 t k)
                  obtain ⟨fs, hr, hrun, hended, hW, hsame⟩ := X42.leave (v := some (.ref w_B_LESS_AMMONIA)) (fun h => by rw [Bd.returns] at h; cases h)
                  refine ⟨_, _, a43 _ ?_, hrun, hended, _, _, rfl, ?_, ⟨_, rfl⟩, hW, hsame.mono (by decide) (by decide)⟩
                  · show Steps p.tables e below (T42.setTop (mkF m 76 #[.val (.int p0)] [(.ref w_B_LESS_AMMONIA)])) _
                    exact retOut X42 hx Bd.returns rfl (Or.inr (Or.inr (Or.inr (Or.inr ⟨rfl, rfl, rfl⟩)))) (hb hby d1_76) hr
                  · show QP Z p0 w_B w_Y w_A w_Y_LESS_WATER w_Y_LESS_AMMONIA w_B_DOUBLY_CHARGED w_Y_DOUBLY_CHARGED w_B_LESS_WATER w_B_LESS_AMMONIA h0 n0 _ T42.heap _
                    rw [e42]
                    exact ⟨w_B_LESS_AMMONIA, rfl, X_B_LESS_AMMONIA, (by unfold own_ch; rw [if_neg hc1_2, if_neg hc10_7, if_neg hc19_12, if_neg hc28_17, if_neg hc37_22, if_neg hc46_27, if_neg hc56_32, if_neg hc66_37]; exact F_B_LESS_AMMONIA_charge), (by unfold own_sh; rw [if_neg hc1_2, if_neg hc10_7, if_neg hc19_12, if_neg hc28_17, if_neg hc37_22, if_neg hc46_27, if_neg hc56_32, if_neg hc66_37]; exact F_B_LESS_AMMONIA_neutralShift), N0, rfl⟩
theorem ef_rmZ (m : MethodId) (x0 : Addr) (x1 : UInt64) : entryFrame m #[(.ref x0), (.double x1)] 3 = mkF m 0 #[.val (.ref x0), .val (.double x1), .second] [] := by first | (simp [entryFrame, mkF, argsToLocals, Value.category]; done) | rfl
theorem d2_0 : decode prog_58_method_6_code 0 = .ok (.dload_n 1, 1) := by decide +kernel
theorem d2_1 : decode prog_58_method_6_code 1 = .ok (.aload_n 0, 1) := by decide +kernel
theorem d2_2 : decode prog_58_method_6_code 2 = .ok (.getfield 54, 3) := by decide +kernel
theorem d2_5 : decode prog_58_method_6_code 5 = .ok (.dadd, 1) := by decide +kernel
theorem d2_6 : decode prog_58_method_6_code 6 = .ok (.aload_n 0, 1) := by decide +kernel
theorem d2_7 : decode prog_58_method_6_code 7 = .ok (.getfield 58, 3) := by decide +kernel
theorem d2_10 : decode prog_58_method_6_code 10 = .ok (.i2d, 1) := by decide +kernel
theorem d2_11 : decode prog_58_method_6_code 11 = .ok (.ldc2_w 77, 3) := by decide +kernel
theorem d2_14 : decode prog_58_method_6_code 14 = .ok (.dmul, 1) := by decide +kernel
theorem d2_15 : decode prog_58_method_6_code 15 = .ok (.dadd, 1) := by decide +kernel
theorem d2_16 : decode prog_58_method_6_code 16 = .ok (.aload_n 0, 1) := by decide +kernel
theorem d2_17 : decode prog_58_method_6_code 17 = .ok (.getfield 58, 3) := by decide +kernel
theorem d2_20 : decode prog_58_method_6_code 20 = .ok (.i2d, 1) := by decide +kernel
theorem d2_21 : decode prog_58_method_6_code 21 = .ok (.ddiv, 1) := by decide +kernel
theorem d2_22 : decode prog_58_method_6_code 22 = .ok (.dreturn, 1) := by decide +kernel
theorem own_pn_com_example_peptools_peptools_spectra_IonType : plainName "com/example/peptools/peptools/spectra/IonType" = true := by first | (simp [plainName, overriddenIn]; done) | decide +kernel
def QZ (Z : State) (a0_ : Addr) (d1 : UInt64) (ch : Int32) (sh : UInt64) (h0 : Heap) (n0 : Nat) (v : Option Value) (h : Heap) (L : List Loc) : Prop := v = some (.double (FP.ddiv (FP.dadd (FP.dadd d1 sh) (FP.dmul (FP.i2d ch) (4607215186990906156 : UInt64))) (FP.i2d ch))) ∧ Fr n0 L ∧ h = h0
set_option maxRecDepth 65536 in
set_option maxHeartbeats 40000000 in
theorem rmZ (l : Launch) (Z : State) (a0 : Array Value) (hw : ∀ d ∈ tables_1, d.before a0 Z = true) (ws : List Jvm.Cond) (a0_ : Addr) (d1 : UInt64) (ch : Int32) (sh : UInt64) (h0 : Heap) (n0 : Nat) (Z0 : n0 ≤ h0.size) (F1 : Fld Z h0 a0_ "com/example/peptools/peptools/spectra/IonType" "charge" "I" (.int ch)) (F2 : Fld Z h0 a0_ "com/example/peptools/peptools/spectra/IonType" "neutralShift" "D" (.double sh)) (hd : Jvm.Free.Fl.NoNaN64 d1) (hs : Jvm.Free.Fl.Fin64 sh) (hc : ch = 1 ∨ ch = 2) :
    MetFree l (⟨"com/example/peptools/peptools/spectra/IonType", "mzHolding", "(D)D"⟩ : MethodName) (head1 (Jvm.Cond.code (⟨"com/example/peptools/peptools/spectra/IonType", "mzHolding", "(D)D"⟩ : MethodName) prog_58_method_6_code 3 (some .double) :: ws) ({ frames := 0, cells := 0, slots := 0, locals := 0 } : Room)) (fun a U => a = #[(.ref a0_), (.double d1)] ∧ Z.Warmed39 U.vm ∧ U.heap = h0) (fun _ _ _ _ _ => True) (fun _ U o U' => ∃ v L, o = .returned v ∧ QZ Z a0_ d1 ch sh h0 n0 v U'.heap L ∧ FrameEnd U o U' L ({ frames := 0, cells := 0, slots := 0, locals := 0 } : Room).cells ({ frames := 0, cells := 0, slots := 0, locals := 0 } : Room).slots) := by
  refine MetFree.of_bodySF (plainFor_of_name own_pn_com_example_peptools_peptools_spectra_IonType) hisR ?_
  intro p e s m args below meth c s₁ Bd hml0 hP hK
  obtain ⟨rfl, hZ, hh⟩ := hP
  have hx := Bd.exec
  have hby := Bd.bytes
  have hml : c.maxLocals = 3 := hml0
  have hown : s.vm.findClass "com/example/peptools/peptools/spectra/IonType" = some m.cls := findClass_of_methodNamed Bd.named
  have hnm := (name_of_methodNamed Bd.named Bd.method).1
  have X0 : Stand p l e ({ frames := 0, cells := 0, slots := 0, locals := 0 } : Room) s m #[(.ref a0_), (.double d1)] below meth c s₁ [] 0 0 := Stand.of_body Bd
  have e0 : s₁.heap = h0 := by rw [← hh, Bd.state]; rfl
  have N0 := Fr.nil n0
  have pre0 : ∀ t, Steps p.tables e below (s₁.setTop (mkF m 0 #[.val (.ref a0_), .val (.double d1), .second] [])) t → Steps p.tables e below (s₁.setTop (entryFrame m #[(.ref a0_), (.double d1)] 3)) t := fun t k => castTop (ef_rmZ m a0_ d1) k
  have a1 : ∀ t, Steps p.tables e below (s₁.setTop (mkF m 2 #[.val (.ref a0_), .val (.double d1), .second] [(.ref a0_), (.double d1)])) t → Steps p.tables e below (s₁.setTop (entryFrame m #[(.ref a0_), (.double d1)] 3)) t := by
    intro t k
    refine pre0 t ?_
    show Steps p.tables e below (s₁.setTop (mkF m 0 #[.val (.ref a0_), .val (.double d1), .second] [])) _
    refine XS.dloadN X0.here hx rfl (hb hby d2_0) rfl ?_
    show Steps p.tables e below (s₁.setTop (mkF m 1 #[.val (.ref a0_), .val (.double d1), .second] [(.double d1)])) _
    refine XS.aloadN X0.here hx rfl (hb hby d2_1) rfl rfl ?_
    exact k
  obtain ⟨T2, X2, e2, st2⟩ := getF X0 hx hZ hown (host := "") (Or.inl (hw _ (List.mem_of_getElem? (i := 14) rfl))) Via.refl e0 F2 (g := (mkF m 2 #[.val (.ref a0_), .val (.double d1), .second] [(.ref a0_), (.double d1)])) rfl rfl (hb hby d2_2)
  have a3 : ∀ t, Steps p.tables e below (T2.setTop (mkF m 5 #[.val (.ref a0_), .val (.double d1), .second] [(.double sh), (.double d1)])) t → Steps p.tables e below (s₁.setTop (entryFrame m #[(.ref a0_), (.double d1)] 3)) t := fun t k => a1 t (st2 t k)
  have a4 : ∀ t, Steps p.tables e below (T2.setTop (mkF m 7 #[.val (.ref a0_), .val (.double d1), .second] [(.ref a0_), (.double (FP.dadd d1 sh))])) t → Steps p.tables e below (s₁.setTop (entryFrame m #[(.ref a0_), (.double d1)] 3)) t := by
    intro t k
    refine a3 t ?_
    show Steps p.tables e below (T2.setTop (mkF m 5 #[.val (.ref a0_), .val (.double d1), .second] [(.double sh), (.double d1)])) _
    refine XS.daddS X2.here hx rfl (hb hby d2_5) rfl (Jvm.Free.Fl.dadd_out hd hs) rfl ?_
    show Steps p.tables e below (T2.setTop (mkF m 6 #[.val (.ref a0_), .val (.double d1), .second] [(.double (FP.dadd d1 sh))])) _
    refine XS.aloadN X2.here hx rfl (hb hby d2_6) rfl rfl ?_
    exact k
  obtain ⟨T5, X5, e5, st5⟩ := getF X2 hx hZ hown (host := "") (Or.inl (hw _ (List.mem_of_getElem? (i := 16) rfl))) Via.refl e2 F1 (g := (mkF m 7 #[.val (.ref a0_), .val (.double d1), .second] [(.ref a0_), (.double (FP.dadd d1 sh))])) rfl rfl (hb hby d2_7)
  have a6 : ∀ t, Steps p.tables e below (T5.setTop (mkF m 10 #[.val (.ref a0_), .val (.double d1), .second] [(.int ch), (.double (FP.dadd d1 sh))])) t → Steps p.tables e below (s₁.setTop (entryFrame m #[(.ref a0_), (.double d1)] 3)) t := fun t k => a4 t (st5 t k)
  have a7 : ∀ t, Steps p.tables e below (T5.setTop (mkF m 17 #[.val (.ref a0_), .val (.double d1), .second] [(.ref a0_), (.double (FP.dadd (FP.dadd d1 sh) (FP.dmul (FP.i2d ch) (4607215186990906156 : UInt64))))])) t → Steps p.tables e below (s₁.setTop (entryFrame m #[(.ref a0_), (.double d1)] 3)) t := by
    intro t k
    refine a6 t ?_
    show Steps p.tables e below (T5.setTop (mkF m 10 #[.val (.ref a0_), .val (.double d1), .second] [(.int ch), (.double (FP.dadd d1 sh))])) _
    refine XS.i2dS X5.here hx rfl (hb hby d2_10) rfl rfl ?_
    show Steps p.tables e below (T5.setTop (mkF m 11 #[.val (.ref a0_), .val (.double d1), .second] [(.double (FP.i2d ch)), (.double (FP.dadd d1 sh))])) _
    refine X5.ldc2DoubleC hx hown (mvT hZ (hw _ (List.mem_of_getElem? (i := 18) rfl))) (g := (mkF m 11 #[.val (.ref a0_), .val (.double d1), .second] [(.double (FP.i2d ch)), (.double (FP.dadd d1 sh))])) rfl (hb hby d2_11) _ ?_
    show Steps p.tables e below (T5.setTop (mkF m 14 #[.val (.ref a0_), .val (.double d1), .second] [(.double (4607215186990906156 : UInt64)), (.double (FP.i2d ch)), (.double (FP.dadd d1 sh))])) _
    refine XS.dmulS X5.here hx rfl (hb hby d2_14) rfl (own_cp hc).1.noNaN rfl ?_
    show Steps p.tables e below (T5.setTop (mkF m 15 #[.val (.ref a0_), .val (.double d1), .second] [(.double (FP.dmul (FP.i2d ch) (4607215186990906156 : UInt64))), (.double (FP.dadd d1 sh))])) _
    refine XS.daddS X5.here hx rfl (hb hby d2_15) rfl (own_n3 hd hs hc) rfl ?_
    show Steps p.tables e below (T5.setTop (mkF m 16 #[.val (.ref a0_), .val (.double d1), .second] [(.double (FP.dadd (FP.dadd d1 sh) (FP.dmul (FP.i2d ch) (4607215186990906156 : UInt64))))])) _
    refine XS.aloadN X5.here hx rfl (hb hby d2_16) rfl rfl ?_
    exact k
  obtain ⟨T8, X8, e8, st8⟩ := getF X5 hx hZ hown (host := "") (Or.inl (hw _ (List.mem_of_getElem? (i := 16) rfl))) Via.refl e5 F1 (g := (mkF m 17 #[.val (.ref a0_), .val (.double d1), .second] [(.ref a0_), (.double (FP.dadd (FP.dadd d1 sh) (FP.dmul (FP.i2d ch) (4607215186990906156 : UInt64))))])) rfl rfl (hb hby d2_17)
  have a9 : ∀ t, Steps p.tables e below (T8.setTop (mkF m 20 #[.val (.ref a0_), .val (.double d1), .second] [(.int ch), (.double (FP.dadd (FP.dadd d1 sh) (FP.dmul (FP.i2d ch) (4607215186990906156 : UInt64))))])) t → Steps p.tables e below (s₁.setTop (entryFrame m #[(.ref a0_), (.double d1)] 3)) t := fun t k => a7 t (st8 t k)
  have a10 : ∀ t, Steps p.tables e below (T8.setTop (mkF m 22 #[.val (.ref a0_), .val (.double d1), .second] [(.double (FP.ddiv (FP.dadd (FP.dadd d1 sh) (FP.dmul (FP.i2d ch) (4607215186990906156 : UInt64))) (FP.i2d ch)))])) t → Steps p.tables e below (s₁.setTop (entryFrame m #[(.ref a0_), (.double d1)] 3)) t := by
    intro t k
    refine a9 t ?_
    show Steps p.tables e below (T8.setTop (mkF m 20 #[.val (.ref a0_), .val (.double d1), .second] [(.int ch), (.double (FP.dadd (FP.dadd d1 sh) (FP.dmul (FP.i2d ch) (4607215186990906156 : UInt64))))])) _
    refine XS.i2dS X8.here hx rfl (hb hby d2_20) rfl rfl ?_
    show Steps p.tables e below (T8.setTop (mkF m 21 #[.val (.ref a0_), .val (.double d1), .second] [(.double (FP.i2d ch)), (.double (FP.dadd (FP.dadd d1 sh) (FP.dmul (FP.i2d ch) (4607215186990906156 : UInt64))))])) _
    refine XS.ddivS X8.here hx rfl (hb hby d2_21) rfl (own_n4 hd hs hc) rfl ?_
    exact k
  obtain ⟨fs, hr, hrun, hended, hW, hsame⟩ := X8.leave (v := some (.double (FP.ddiv (FP.dadd (FP.dadd d1 sh) (FP.dmul (FP.i2d ch) (4607215186990906156 : UInt64))) (FP.i2d ch)))) (fun h => by rw [Bd.returns] at h; cases h)
  refine ⟨_, _, a10 _ ?_, hrun, hended, _, _, rfl, ?_, ⟨_, rfl⟩, hW, hsame.mono (by decide) (by decide)⟩
  · show Steps p.tables e below (T8.setTop (mkF m 22 #[.val (.ref a0_), .val (.double d1), .second] [(.double (FP.ddiv (FP.dadd (FP.dadd d1 sh) (FP.dmul (FP.i2d ch) (4607215186990906156 : UInt64))) (FP.i2d ch)))])) _
    exact retOut X8 hx Bd.returns rfl (Or.inr (Or.inr (Or.inl ⟨rfl, rfl, _, rfl⟩))) (hb hby d2_22) hr
  · show QZ Z a0_ d1 ch sh h0 n0 _ T8.heap _
    rw [e8]
    exact ⟨rfl, N0, rfl⟩
theorem ef_rmE (m : MethodId) (x0 : Int32) (x1 : UInt64) : entryFrame m #[(.int x0), (.double x1)] 5 = mkF m 0 #[.val (.int x0), .val (.double x1), .second, .unset, .unset] [] := by first | (simp [entryFrame, mkF, argsToLocals, Value.category]; done) | rfl
theorem d3_0 : decode method_4_code 0 = .ok (.ldc2_w 56, 3) := by decide +kernel
theorem d3_3 : decode method_4_code 3 = .ok (.dstore_n 3, 1) := by decide +kernel
theorem d3_4 : decode method_4_code 4 = .ok (.iload_n 0, 1) := by decide +kernel
theorem d3_5 : decode method_4_code 5 = .ok (.ifCond .ne 7, 3) := by decide +kernel
theorem d3_8 : decode method_4_code 8 = .ok (.dload_n 1, 1) := by decide +kernel
theorem d3_9 : decode method_4_code 9 = .ok (.dload_n 3, 1) := by decide +kernel
theorem d3_10 : decode method_4_code 10 = .ok (.dadd, 1) := by decide +kernel
theorem d3_11 : decode method_4_code 11 = .ok (.dreturn, 1) := by decide +kernel
theorem d3_12 : decode method_4_code 12 = .ok (.iload_n 0, 1) := by decide +kernel
theorem d3_13 : decode method_4_code 13 = .ok (.iconst 1, 1) := by decide +kernel
theorem d3_14 : decode method_4_code 14 = .ok (.if_icmp .ne 11, 3) := by decide +kernel
theorem d3_17 : decode method_4_code 17 = .ok (.dload_n 1, 1) := by decide +kernel
theorem d3_18 : decode method_4_code 18 = .ok (.ldc2_w 58, 3) := by decide +kernel
theorem d3_21 : decode method_4_code 21 = .ok (.dadd, 1) := by decide +kernel
theorem d3_22 : decode method_4_code 22 = .ok (.dload_n 3, 1) := by decide +kernel
theorem d3_23 : decode method_4_code 23 = .ok (.dadd, 1) := by decide +kernel
theorem d3_24 : decode method_4_code 24 = .ok (.dreturn, 1) := by decide +kernel
theorem d3_25 : decode method_4_code 25 = .ok (.iload_n 0, 1) := by decide +kernel
theorem d3_26 : decode method_4_code 26 = .ok (.iconst 2, 1) := by decide +kernel
theorem d3_27 : decode method_4_code 27 = .ok (.if_icmp .ne 11, 3) := by decide +kernel
theorem d3_30 : decode method_4_code 30 = .ok (.dload_n 1, 1) := by decide +kernel
theorem d3_31 : decode method_4_code 31 = .ok (.ldc2_w 60, 3) := by decide +kernel
theorem d3_34 : decode method_4_code 34 = .ok (.dsub, 1) := by decide +kernel
theorem d3_35 : decode method_4_code 35 = .ok (.dload_n 3, 1) := by decide +kernel
theorem d3_36 : decode method_4_code 36 = .ok (.dadd, 1) := by decide +kernel
theorem d3_37 : decode method_4_code 37 = .ok (.dreturn, 1) := by decide +kernel
theorem d3_38 : decode method_4_code 38 = .ok (.iload_n 0, 1) := by decide +kernel
theorem d3_39 : decode method_4_code 39 = .ok (.iconst 3, 1) := by decide +kernel
theorem d3_40 : decode method_4_code 40 = .ok (.if_icmp .ne 7, 3) := by decide +kernel
theorem d3_43 : decode method_4_code 43 = .ok (.dload_n 1, 1) := by decide +kernel
theorem d3_44 : decode method_4_code 44 = .ok (.dload_n 3, 1) := by decide +kernel
theorem d3_45 : decode method_4_code 45 = .ok (.dadd, 1) := by decide +kernel
theorem d3_46 : decode method_4_code 46 = .ok (.dreturn, 1) := by decide +kernel
theorem d3_47 : decode method_4_code 47 = .ok (.iload_n 0, 1) := by decide +kernel
theorem d3_48 : decode method_4_code 48 = .ok (.iconst 4, 1) := by decide +kernel
theorem d3_49 : decode method_4_code 49 = .ok (.if_icmp .ne 11, 3) := by decide +kernel
theorem d3_52 : decode method_4_code 52 = .ok (.dload_n 1, 1) := by decide +kernel
theorem d3_53 : decode method_4_code 53 = .ok (.ldc2_w 62, 3) := by decide +kernel
theorem d3_56 : decode method_4_code 56 = .ok (.dadd, 1) := by decide +kernel
theorem d3_57 : decode method_4_code 57 = .ok (.dload_n 3, 1) := by decide +kernel
theorem d3_58 : decode method_4_code 58 = .ok (.dadd, 1) := by decide +kernel
theorem d3_59 : decode method_4_code 59 = .ok (.dreturn, 1) := by decide +kernel
theorem d3_60 : decode method_4_code 60 = .ok (.iload_n 0, 1) := by decide +kernel
theorem d3_61 : decode method_4_code 61 = .ok (.iconst 5, 1) := by decide +kernel
theorem d3_62 : decode method_4_code 62 = .ok (.if_icmp .ne 13, 3) := by decide +kernel
theorem d3_65 : decode method_4_code 65 = .ok (.dload_n 1, 1) := by decide +kernel
theorem d3_66 : decode method_4_code 66 = .ok (.dload_n 3, 1) := by decide +kernel
theorem d3_67 : decode method_4_code 67 = .ok (.dload_n 3, 1) := by decide +kernel
theorem d3_68 : decode method_4_code 68 = .ok (.dadd, 1) := by decide +kernel
theorem d3_69 : decode method_4_code 69 = .ok (.dadd, 1) := by decide +kernel
theorem d3_70 : decode method_4_code 70 = .ok (.ldc2_w 64, 3) := by decide +kernel
theorem d3_73 : decode method_4_code 73 = .ok (.ddiv, 1) := by decide +kernel
theorem d3_74 : decode method_4_code 74 = .ok (.dreturn, 1) := by decide +kernel
theorem d3_75 : decode method_4_code 75 = .ok (.iload_n 0, 1) := by decide +kernel
theorem d3_76 : decode method_4_code 76 = .ok (.bipush 6, 2) := by decide +kernel
theorem d3_78 : decode method_4_code 78 = .ok (.if_icmp .ne 17, 3) := by decide +kernel
theorem d3_81 : decode method_4_code 81 = .ok (.dload_n 1, 1) := by decide +kernel
theorem d3_82 : decode method_4_code 82 = .ok (.ldc2_w 58, 3) := by decide +kernel
theorem d3_85 : decode method_4_code 85 = .ok (.dadd, 1) := by decide +kernel
theorem d3_86 : decode method_4_code 86 = .ok (.dload_n 3, 1) := by decide +kernel
theorem d3_87 : decode method_4_code 87 = .ok (.dload_n 3, 1) := by decide +kernel
theorem d3_88 : decode method_4_code 88 = .ok (.dadd, 1) := by decide +kernel
theorem d3_89 : decode method_4_code 89 = .ok (.dadd, 1) := by decide +kernel
theorem d3_90 : decode method_4_code 90 = .ok (.ldc2_w 64, 3) := by decide +kernel
theorem d3_93 : decode method_4_code 93 = .ok (.ddiv, 1) := by decide +kernel
theorem d3_94 : decode method_4_code 94 = .ok (.dreturn, 1) := by decide +kernel
theorem d3_95 : decode method_4_code 95 = .ok (.iload_n 0, 1) := by decide +kernel
theorem d3_96 : decode method_4_code 96 = .ok (.bipush 7, 2) := by decide +kernel
theorem d3_98 : decode method_4_code 98 = .ok (.if_icmp .ne 11, 3) := by decide +kernel
theorem d3_101 : decode method_4_code 101 = .ok (.dload_n 1, 1) := by decide +kernel
theorem d3_102 : decode method_4_code 102 = .ok (.ldc2_w 58, 3) := by decide +kernel
theorem d3_105 : decode method_4_code 105 = .ok (.dsub, 1) := by decide +kernel
theorem d3_106 : decode method_4_code 106 = .ok (.dload_n 3, 1) := by decide +kernel
theorem d3_107 : decode method_4_code 107 = .ok (.dadd, 1) := by decide +kernel
theorem d3_108 : decode method_4_code 108 = .ok (.dreturn, 1) := by decide +kernel
theorem d3_109 : decode method_4_code 109 = .ok (.dload_n 1, 1) := by decide +kernel
theorem d3_110 : decode method_4_code 110 = .ok (.ldc2_w 66, 3) := by decide +kernel
theorem d3_113 : decode method_4_code 113 = .ok (.dsub, 1) := by decide +kernel
theorem d3_114 : decode method_4_code 114 = .ok (.dload_n 3, 1) := by decide +kernel
theorem d3_115 : decode method_4_code 115 = .ok (.dadd, 1) := by decide +kernel
theorem d3_116 : decode method_4_code 116 = .ok (.dreturn, 1) := by decide +kernel
def QE (Z : State) (p0 : Int32) (d1 : UInt64) (h0 : Heap) (n0 : Nat) (v : Option Value) (h : Heap) (L : List Loc) : Prop := v = some (.double (own_exp p0 d1)) ∧ Fr n0 L ∧ h = h0
set_option maxRecDepth 65536 in
set_option maxHeartbeats 40000000 in
theorem rmE (l : Launch) (Z : State) (a0 : Array Value) (hw : ∀ d ∈ tables_1, d.before a0 Z = true) (ws : List Jvm.Cond) (p0 : Int32) (d1 : UInt64) (h0 : Heap) (n0 : Nat) (Z0 : n0 ≤ h0.size) (hm : Jvm.Free.Fl.NoNaN64 d1) :
    MetFree l (⟨"com/example/peptools/peptools/spectra/IonTypeMzHoldingPinLaw", "expected", "(ID)D"⟩ : MethodName) (head1 (Jvm.Cond.code (⟨"com/example/peptools/peptools/spectra/IonTypeMzHoldingPinLaw", "expected", "(ID)D"⟩ : MethodName) method_4_code 5 (some .double) :: ws) ({ frames := 0, cells := 0, slots := 0, locals := 0 } : Room)) (fun a U => a = #[(.int p0), (.double d1)] ∧ Z.Warmed39 U.vm ∧ U.heap = h0) (fun _ _ _ _ _ => True) (fun _ U o U' => ∃ v L, o = .returned v ∧ QE Z p0 d1 h0 n0 v U'.heap L ∧ FrameEnd U o U' L ({ frames := 0, cells := 0, slots := 0, locals := 0 } : Room).cells ({ frames := 0, cells := 0, slots := 0, locals := 0 } : Room).slots) := by
  refine MetFree.of_bodySF (plainFor_of_name own_pn_com_example_peptools_peptools_spectra_IonTypeMzHoldingPinLaw) hisR ?_
  intro p e s m args below meth c s₁ Bd hml0 hP hK
  obtain ⟨rfl, hZ, hh⟩ := hP
  have hx := Bd.exec
  have hby := Bd.bytes
  have hml : c.maxLocals = 5 := hml0
  have hown : s.vm.findClass "com/example/peptools/peptools/spectra/IonTypeMzHoldingPinLaw" = some m.cls := findClass_of_methodNamed Bd.named
  have hnm := (name_of_methodNamed Bd.named Bd.method).1
  have X0 : Stand p l e ({ frames := 0, cells := 0, slots := 0, locals := 0 } : Room) s m #[(.int p0), (.double d1)] below meth c s₁ [] 0 0 := Stand.of_body Bd
  have e0 : s₁.heap = h0 := by rw [← hh, Bd.state]; rfl
  have N0 := Fr.nil n0
  have pre0 : ∀ t, Steps p.tables e below (s₁.setTop (mkF m 0 #[.val (.int p0), .val (.double d1), .second, .unset, .unset] [])) t → Steps p.tables e below (s₁.setTop (entryFrame m #[(.int p0), (.double d1)] 5)) t := fun t k => castTop (ef_rmE m p0 d1) k
  have a1 : ∀ t, Steps p.tables e below (s₁.setTop (mkF m 5 #[.val (.int p0), .val (.double d1), .second, .val (.double (4607215186990906156 : UInt64)), .second] [(.int p0)])) t → Steps p.tables e below (s₁.setTop (entryFrame m #[(.int p0), (.double d1)] 5)) t := by
    intro t k
    refine pre0 t ?_
    show Steps p.tables e below (s₁.setTop (mkF m 0 #[.val (.int p0), .val (.double d1), .second, .unset, .unset] [])) _
    refine X0.ldc2DoubleC hx hown (mvT hZ (hw _ (List.mem_of_getElem? (i := 22) rfl))) (g := (mkF m 0 #[.val (.int p0), .val (.double d1), .second, .unset, .unset] [])) rfl (hb hby d3_0) _ ?_
    show Steps p.tables e below (s₁.setTop (mkF m 3 #[.val (.int p0), .val (.double d1), .second, .unset, .unset] [(.double (4607215186990906156 : UInt64))])) _
    refine XS.dstoreN X0.here hx rfl (hb hby d3_3) rfl (l' := #[.val (.int p0), .val (.double d1), .second, .val (.double (4607215186990906156 : UInt64)), .second]) rfl ?_
    show Steps p.tables e below (s₁.setTop (mkF m 4 #[.val (.int p0), .val (.double d1), .second, .val (.double (4607215186990906156 : UInt64)), .second] [])) _
    refine XS.iloadN X0.here hx rfl (hb hby d3_4) rfl ?_
    exact k
  by_cases hc5_2 : p0 = (0 : Int32)
  ·
    have a3 : ∀ t, Steps p.tables e below (s₁.setTop (mkF m 11 #[.val (.int p0), .val (.double d1), .second, .val (.double (4607215186990906156 : UInt64)), .second] [(.double (FP.dadd d1 (4607215186990906156 : UInt64)))])) t → Steps p.tables e below (s₁.setTop (entryFrame m #[(.int p0), (.double d1)] 5)) t := by
      intro t k
      refine a1 t ?_
      show Steps p.tables e below (s₁.setTop (mkF m 5 #[.val (.int p0), .val (.double d1), .second, .val (.double (4607215186990906156 : UInt64)), .second] [(.int p0)])) _
      refine XS.ifNo X0.here hx rfl (hb hby d3_5) rfl ((if0 _ _).trans (teq hc5_2).2) ?_
      show Steps p.tables e below (s₁.setTop (mkF m 8 #[.val (.int p0), .val (.double d1), .second, .val (.double (4607215186990906156 : UInt64)), .second] [])) _
      refine XS.dloadN X0.here hx rfl (hb hby d3_8) rfl ?_
      show Steps p.tables e below (s₁.setTop (mkF m 9 #[.val (.int p0), .val (.double d1), .second, .val (.double (4607215186990906156 : UInt64)), .second] [(.double d1)])) _
      refine XS.dloadN X0.here hx rfl (hb hby d3_9) rfl ?_
      show Steps p.tables e below (s₁.setTop (mkF m 10 #[.val (.int p0), .val (.double d1), .second, .val (.double (4607215186990906156 : UInt64)), .second] [(.double (4607215186990906156 : UInt64)), (.double d1)])) _
      refine XS.daddS X0.here hx rfl (hb hby d3_10) rfl (Jvm.Free.Fl.dadd_out hm own_P) rfl ?_
      exact k
    obtain ⟨fs, hr, hrun, hended, hW, hsame⟩ := X0.leave (v := some (.double (FP.dadd d1 (4607215186990906156 : UInt64)))) (fun h => by rw [Bd.returns] at h; cases h)
    refine ⟨_, _, a3 _ ?_, hrun, hended, _, _, rfl, ?_, ⟨_, rfl⟩, hW, hsame.mono (by decide) (by decide)⟩
    · show Steps p.tables e below (s₁.setTop (mkF m 11 #[.val (.int p0), .val (.double d1), .second, .val (.double (4607215186990906156 : UInt64)), .second] [(.double (FP.dadd d1 (4607215186990906156 : UInt64)))])) _
      exact retOut X0 hx Bd.returns rfl (Or.inr (Or.inr (Or.inl ⟨rfl, rfl, _, rfl⟩))) (hb hby d3_11) hr
    · show QE Z p0 d1 h0 n0 _ s₁.heap _
      rw [e0]
      exact ⟨by unfold own_exp; rw [if_pos hc5_2], N0, rfl⟩
  ·
    have a4 : ∀ t, Steps p.tables e below (s₁.setTop (mkF m 14 #[.val (.int p0), .val (.double d1), .second, .val (.double (4607215186990906156 : UInt64)), .second] [(.int (1 : Int32)), (.int p0)])) t → Steps p.tables e below (s₁.setTop (entryFrame m #[(.int p0), (.double d1)] 5)) t := by
      intro t k
      refine a1 t ?_
      show Steps p.tables e below (s₁.setTop (mkF m 5 #[.val (.int p0), .val (.double d1), .second, .val (.double (4607215186990906156 : UInt64)), .second] [(.int p0)])) _
      refine XS.ifYes X0.here hx rfl (pc0 := 5) (pc' := 12) rfl (hb hby d3_5) rfl ((if0 _ _).trans (feq hc5_2).2) (by decide) (by decide) ?_
      show Steps p.tables e below (s₁.setTop (mkF m 12 #[.val (.int p0), .val (.double d1), .second, .val (.double (4607215186990906156 : UInt64)), .second] [])) _
      refine XS.iloadN X0.here hx rfl (hb hby d3_12) rfl ?_
      show Steps p.tables e below (s₁.setTop (mkF m 13 #[.val (.int p0), .val (.double d1), .second, .val (.double (4607215186990906156 : UInt64)), .second] [(.int p0)])) _
      refine XS.iconst X0.here hx rfl (hb hby d3_13) ?_
      exact k
    by_cases hc14_5 : p0 = (1 : Int32)
    ·
      have a6 : ∀ t, Steps p.tables e below (s₁.setTop (mkF m 24 #[.val (.int p0), .val (.double d1), .second, .val (.double (4607215186990906156 : UInt64)), .second] [(.double (FP.dadd (FP.dadd d1 (4625762741046049652 : UInt64)) (4607215186990906156 : UInt64)))])) t → Steps p.tables e below (s₁.setTop (entryFrame m #[(.int p0), (.double d1)] 5)) t := by
        intro t k
        refine a4 t ?_
        show Steps p.tables e below (s₁.setTop (mkF m 14 #[.val (.int p0), .val (.double d1), .second, .val (.double (4607215186990906156 : UInt64)), .second] [(.int (1 : Int32)), (.int p0)])) _
        refine XS.icmpNo X0.here hx rfl (hb hby d3_14) rfl (teq hc14_5).2 ?_
        show Steps p.tables e below (s₁.setTop (mkF m 17 #[.val (.int p0), .val (.double d1), .second, .val (.double (4607215186990906156 : UInt64)), .second] [])) _
        refine XS.dloadN X0.here hx rfl (hb hby d3_17) rfl ?_
        show Steps p.tables e below (s₁.setTop (mkF m 18 #[.val (.int p0), .val (.double d1), .second, .val (.double (4607215186990906156 : UInt64)), .second] [(.double d1)])) _
        refine X0.ldc2DoubleC hx hown (mvT hZ (hw _ (List.mem_of_getElem? (i := 27) rfl))) (g := (mkF m 18 #[.val (.int p0), .val (.double d1), .second, .val (.double (4607215186990906156 : UInt64)), .second] [(.double d1)])) rfl (hb hby d3_18) _ ?_
        show Steps p.tables e below (s₁.setTop (mkF m 21 #[.val (.int p0), .val (.double d1), .second, .val (.double (4607215186990906156 : UInt64)), .second] [(.double (4625762741046049652 : UInt64)), (.double d1)])) _
        refine XS.daddS X0.here hx rfl (hb hby d3_21) rfl (Jvm.Free.Fl.dadd_out hm own_W) rfl ?_
        show Steps p.tables e below (s₁.setTop (mkF m 22 #[.val (.int p0), .val (.double d1), .second, .val (.double (4607215186990906156 : UInt64)), .second] [(.double (FP.dadd d1 (4625762741046049652 : UInt64)))])) _
        refine XS.dloadN X0.here hx rfl (hb hby d3_22) rfl ?_
        show Steps p.tables e below (s₁.setTop (mkF m 23 #[.val (.int p0), .val (.double d1), .second, .val (.double (4607215186990906156 : UInt64)), .second] [(.double (4607215186990906156 : UInt64)), (.double (FP.dadd d1 (4625762741046049652 : UInt64)))])) _
        refine XS.daddS X0.here hx rfl (hb hby d3_23) rfl (Jvm.Free.Fl.dadd_out (Jvm.Free.Fl.dadd_out hm own_W) own_P) rfl ?_
        exact k
      obtain ⟨fs, hr, hrun, hended, hW, hsame⟩ := X0.leave (v := some (.double (FP.dadd (FP.dadd d1 (4625762741046049652 : UInt64)) (4607215186990906156 : UInt64)))) (fun h => by rw [Bd.returns] at h; cases h)
      refine ⟨_, _, a6 _ ?_, hrun, hended, _, _, rfl, ?_, ⟨_, rfl⟩, hW, hsame.mono (by decide) (by decide)⟩
      · show Steps p.tables e below (s₁.setTop (mkF m 24 #[.val (.int p0), .val (.double d1), .second, .val (.double (4607215186990906156 : UInt64)), .second] [(.double (FP.dadd (FP.dadd d1 (4625762741046049652 : UInt64)) (4607215186990906156 : UInt64)))])) _
        exact retOut X0 hx Bd.returns rfl (Or.inr (Or.inr (Or.inl ⟨rfl, rfl, _, rfl⟩))) (hb hby d3_24) hr
      · show QE Z p0 d1 h0 n0 _ s₁.heap _
        rw [e0]
        exact ⟨by unfold own_exp; rw [if_neg hc5_2, if_pos hc14_5], N0, rfl⟩
    ·
      have a7 : ∀ t, Steps p.tables e below (s₁.setTop (mkF m 27 #[.val (.int p0), .val (.double d1), .second, .val (.double (4607215186990906156 : UInt64)), .second] [(.int (2 : Int32)), (.int p0)])) t → Steps p.tables e below (s₁.setTop (entryFrame m #[(.int p0), (.double d1)] 5)) t := by
        intro t k
        refine a4 t ?_
        show Steps p.tables e below (s₁.setTop (mkF m 14 #[.val (.int p0), .val (.double d1), .second, .val (.double (4607215186990906156 : UInt64)), .second] [(.int (1 : Int32)), (.int p0)])) _
        refine XS.icmpYes X0.here hx rfl (pc0 := 14) (pc' := 25) rfl (hb hby d3_14) rfl (feq hc14_5).2 (by decide) (by decide) ?_
        show Steps p.tables e below (s₁.setTop (mkF m 25 #[.val (.int p0), .val (.double d1), .second, .val (.double (4607215186990906156 : UInt64)), .second] [])) _
        refine XS.iloadN X0.here hx rfl (hb hby d3_25) rfl ?_
        show Steps p.tables e below (s₁.setTop (mkF m 26 #[.val (.int p0), .val (.double d1), .second, .val (.double (4607215186990906156 : UInt64)), .second] [(.int p0)])) _
        refine XS.iconst X0.here hx rfl (hb hby d3_26) ?_
        exact k
      by_cases hc27_8 : p0 = (2 : Int32)
      ·
        have a9 : ∀ t, Steps p.tables e below (s₁.setTop (mkF m 37 #[.val (.int p0), .val (.double d1), .second, .val (.double (4607215186990906156 : UInt64)), .second] [(.double (FP.dadd (FP.dsub d1 (4628573085729770690 : UInt64)) (4607215186990906156 : UInt64)))])) t → Steps p.tables e below (s₁.setTop (entryFrame m #[(.int p0), (.double d1)] 5)) t := by
          intro t k
          refine a7 t ?_
          show Steps p.tables e below (s₁.setTop (mkF m 27 #[.val (.int p0), .val (.double d1), .second, .val (.double (4607215186990906156 : UInt64)), .second] [(.int (2 : Int32)), (.int p0)])) _
          refine XS.icmpNo X0.here hx rfl (hb hby d3_27) rfl (teq hc27_8).2 ?_
          show Steps p.tables e below (s₁.setTop (mkF m 30 #[.val (.int p0), .val (.double d1), .second, .val (.double (4607215186990906156 : UInt64)), .second] [])) _
          refine XS.dloadN X0.here hx rfl (hb hby d3_30) rfl ?_
          show Steps p.tables e below (s₁.setTop (mkF m 31 #[.val (.int p0), .val (.double d1), .second, .val (.double (4607215186990906156 : UInt64)), .second] [(.double d1)])) _
          refine X0.ldc2DoubleC hx hown (mvT hZ (hw _ (List.mem_of_getElem? (i := 35) rfl))) (g := (mkF m 31 #[.val (.int p0), .val (.double d1), .second, .val (.double (4607215186990906156 : UInt64)), .second] [(.double d1)])) rfl (hb hby d3_31) _ ?_
          show Steps p.tables e below (s₁.setTop (mkF m 34 #[.val (.int p0), .val (.double d1), .second, .val (.double (4607215186990906156 : UInt64)), .second] [(.double (4628573085729770690 : UInt64)), (.double d1)])) _
          refine XS.dsubS X0.here hx rfl (hb hby d3_34) rfl (Jvm.Free.Fl.dsub_out hm own_CO) rfl ?_
          show Steps p.tables e below (s₁.setTop (mkF m 35 #[.val (.int p0), .val (.double d1), .second, .val (.double (4607215186990906156 : UInt64)), .second] [(.double (FP.dsub d1 (4628573085729770690 : UInt64)))])) _
          refine XS.dloadN X0.here hx rfl (hb hby d3_35) rfl ?_
          show Steps p.tables e below (s₁.setTop (mkF m 36 #[.val (.int p0), .val (.double d1), .second, .val (.double (4607215186990906156 : UInt64)), .second] [(.double (4607215186990906156 : UInt64)), (.double (FP.dsub d1 (4628573085729770690 : UInt64)))])) _
          refine XS.daddS X0.here hx rfl (hb hby d3_36) rfl (Jvm.Free.Fl.dadd_out (Jvm.Free.Fl.dsub_out hm own_CO) own_P) rfl ?_
          exact k
        obtain ⟨fs, hr, hrun, hended, hW, hsame⟩ := X0.leave (v := some (.double (FP.dadd (FP.dsub d1 (4628573085729770690 : UInt64)) (4607215186990906156 : UInt64)))) (fun h => by rw [Bd.returns] at h; cases h)
        refine ⟨_, _, a9 _ ?_, hrun, hended, _, _, rfl, ?_, ⟨_, rfl⟩, hW, hsame.mono (by decide) (by decide)⟩
        · show Steps p.tables e below (s₁.setTop (mkF m 37 #[.val (.int p0), .val (.double d1), .second, .val (.double (4607215186990906156 : UInt64)), .second] [(.double (FP.dadd (FP.dsub d1 (4628573085729770690 : UInt64)) (4607215186990906156 : UInt64)))])) _
          exact retOut X0 hx Bd.returns rfl (Or.inr (Or.inr (Or.inl ⟨rfl, rfl, _, rfl⟩))) (hb hby d3_37) hr
        · show QE Z p0 d1 h0 n0 _ s₁.heap _
          rw [e0]
          exact ⟨by unfold own_exp; rw [if_neg hc5_2, if_neg hc14_5, if_pos hc27_8], N0, rfl⟩
      ·
        have a10 : ∀ t, Steps p.tables e below (s₁.setTop (mkF m 40 #[.val (.int p0), .val (.double d1), .second, .val (.double (4607215186990906156 : UInt64)), .second] [(.int (3 : Int32)), (.int p0)])) t → Steps p.tables e below (s₁.setTop (entryFrame m #[(.int p0), (.double d1)] 5)) t := by
          intro t k
          refine a7 t ?_
          show Steps p.tables e below (s₁.setTop (mkF m 27 #[.val (.int p0), .val (.double d1), .second, .val (.double (4607215186990906156 : UInt64)), .second] [(.int (2 : Int32)), (.int p0)])) _
          refine XS.icmpYes X0.here hx rfl (pc0 := 27) (pc' := 38) rfl (hb hby d3_27) rfl (feq hc27_8).2 (by decide) (by decide) ?_
          show Steps p.tables e below (s₁.setTop (mkF m 38 #[.val (.int p0), .val (.double d1), .second, .val (.double (4607215186990906156 : UInt64)), .second] [])) _
          refine XS.iloadN X0.here hx rfl (hb hby d3_38) rfl ?_
          show Steps p.tables e below (s₁.setTop (mkF m 39 #[.val (.int p0), .val (.double d1), .second, .val (.double (4607215186990906156 : UInt64)), .second] [(.int p0)])) _
          refine XS.iconst X0.here hx rfl (hb hby d3_39) ?_
          exact k
        by_cases hc40_11 : p0 = (3 : Int32)
        ·
          have a12 : ∀ t, Steps p.tables e below (s₁.setTop (mkF m 46 #[.val (.int p0), .val (.double d1), .second, .val (.double (4607215186990906156 : UInt64)), .second] [(.double (FP.dadd d1 (4607215186990906156 : UInt64)))])) t → Steps p.tables e below (s₁.setTop (entryFrame m #[(.int p0), (.double d1)] 5)) t := by
            intro t k
            refine a10 t ?_
            show Steps p.tables e below (s₁.setTop (mkF m 40 #[.val (.int p0), .val (.double d1), .second, .val (.double (4607215186990906156 : UInt64)), .second] [(.int (3 : Int32)), (.int p0)])) _
            refine XS.icmpNo X0.here hx rfl (hb hby d3_40) rfl (teq hc40_11).2 ?_
            show Steps p.tables e below (s₁.setTop (mkF m 43 #[.val (.int p0), .val (.double d1), .second, .val (.double (4607215186990906156 : UInt64)), .second] [])) _
            refine XS.dloadN X0.here hx rfl (hb hby d3_43) rfl ?_
            show Steps p.tables e below (s₁.setTop (mkF m 44 #[.val (.int p0), .val (.double d1), .second, .val (.double (4607215186990906156 : UInt64)), .second] [(.double d1)])) _
            refine XS.dloadN X0.here hx rfl (hb hby d3_44) rfl ?_
            show Steps p.tables e below (s₁.setTop (mkF m 45 #[.val (.int p0), .val (.double d1), .second, .val (.double (4607215186990906156 : UInt64)), .second] [(.double (4607215186990906156 : UInt64)), (.double d1)])) _
            refine XS.daddS X0.here hx rfl (hb hby d3_45) rfl (Jvm.Free.Fl.dadd_out hm own_P) rfl ?_
            exact k
          obtain ⟨fs, hr, hrun, hended, hW, hsame⟩ := X0.leave (v := some (.double (FP.dadd d1 (4607215186990906156 : UInt64)))) (fun h => by rw [Bd.returns] at h; cases h)
          refine ⟨_, _, a12 _ ?_, hrun, hended, _, _, rfl, ?_, ⟨_, rfl⟩, hW, hsame.mono (by decide) (by decide)⟩
          · show Steps p.tables e below (s₁.setTop (mkF m 46 #[.val (.int p0), .val (.double d1), .second, .val (.double (4607215186990906156 : UInt64)), .second] [(.double (FP.dadd d1 (4607215186990906156 : UInt64)))])) _
            exact retOut X0 hx Bd.returns rfl (Or.inr (Or.inr (Or.inl ⟨rfl, rfl, _, rfl⟩))) (hb hby d3_46) hr
          · show QE Z p0 d1 h0 n0 _ s₁.heap _
            rw [e0]
            exact ⟨by unfold own_exp; rw [if_neg hc5_2, if_neg hc14_5, if_neg hc27_8, if_pos hc40_11], N0, rfl⟩
        ·
          have a13 : ∀ t, Steps p.tables e below (s₁.setTop (mkF m 49 #[.val (.int p0), .val (.double d1), .second, .val (.double (4607215186990906156 : UInt64)), .second] [(.int (4 : Int32)), (.int p0)])) t → Steps p.tables e below (s₁.setTop (entryFrame m #[(.int p0), (.double d1)] 5)) t := by
            intro t k
            refine a10 t ?_
            show Steps p.tables e below (s₁.setTop (mkF m 40 #[.val (.int p0), .val (.double d1), .second, .val (.double (4607215186990906156 : UInt64)), .second] [(.int (3 : Int32)), (.int p0)])) _
            refine XS.icmpYes X0.here hx rfl (pc0 := 40) (pc' := 47) rfl (hb hby d3_40) rfl (feq hc40_11).2 (by decide) (by decide) ?_
            show Steps p.tables e below (s₁.setTop (mkF m 47 #[.val (.int p0), .val (.double d1), .second, .val (.double (4607215186990906156 : UInt64)), .second] [])) _
            refine XS.iloadN X0.here hx rfl (hb hby d3_47) rfl ?_
            show Steps p.tables e below (s₁.setTop (mkF m 48 #[.val (.int p0), .val (.double d1), .second, .val (.double (4607215186990906156 : UInt64)), .second] [(.int p0)])) _
            refine XS.iconst X0.here hx rfl (hb hby d3_48) ?_
            exact k
          by_cases hc49_14 : p0 = (4 : Int32)
          ·
            have a15 : ∀ t, Steps p.tables e below (s₁.setTop (mkF m 59 #[.val (.int p0), .val (.double d1), .second, .val (.double (4607215186990906156 : UInt64)), .second] [(.double (FP.dadd (FP.dadd d1 (4607038447727129632 : UInt64)) (4607215186990906156 : UInt64)))])) t → Steps p.tables e below (s₁.setTop (entryFrame m #[(.int p0), (.double d1)] 5)) t := by
              intro t k
              refine a13 t ?_
              show Steps p.tables e below (s₁.setTop (mkF m 49 #[.val (.int p0), .val (.double d1), .second, .val (.double (4607215186990906156 : UInt64)), .second] [(.int (4 : Int32)), (.int p0)])) _
              refine XS.icmpNo X0.here hx rfl (hb hby d3_49) rfl (teq hc49_14).2 ?_
              show Steps p.tables e below (s₁.setTop (mkF m 52 #[.val (.int p0), .val (.double d1), .second, .val (.double (4607215186990906156 : UInt64)), .second] [])) _
              refine XS.dloadN X0.here hx rfl (hb hby d3_52) rfl ?_
              show Steps p.tables e below (s₁.setTop (mkF m 53 #[.val (.int p0), .val (.double d1), .second, .val (.double (4607215186990906156 : UInt64)), .second] [(.double d1)])) _
              refine X0.ldc2DoubleC hx hown (mvT hZ (hw _ (List.mem_of_getElem? (i := 43) rfl))) (g := (mkF m 53 #[.val (.int p0), .val (.double d1), .second, .val (.double (4607215186990906156 : UInt64)), .second] [(.double d1)])) rfl (hb hby d3_53) _ ?_
              show Steps p.tables e below (s₁.setTop (mkF m 56 #[.val (.int p0), .val (.double d1), .second, .val (.double (4607215186990906156 : UInt64)), .second] [(.double (4607038447727129632 : UInt64)), (.double d1)])) _
              refine XS.daddS X0.here hx rfl (hb hby d3_56) rfl (Jvm.Free.Fl.dadd_out hm own_WA) rfl ?_
              show Steps p.tables e below (s₁.setTop (mkF m 57 #[.val (.int p0), .val (.double d1), .second, .val (.double (4607215186990906156 : UInt64)), .second] [(.double (FP.dadd d1 (4607038447727129632 : UInt64)))])) _
              refine XS.dloadN X0.here hx rfl (hb hby d3_57) rfl ?_
              show Steps p.tables e below (s₁.setTop (mkF m 58 #[.val (.int p0), .val (.double d1), .second, .val (.double (4607215186990906156 : UInt64)), .second] [(.double (4607215186990906156 : UInt64)), (.double (FP.dadd d1 (4607038447727129632 : UInt64)))])) _
              refine XS.daddS X0.here hx rfl (hb hby d3_58) rfl (Jvm.Free.Fl.dadd_out (Jvm.Free.Fl.dadd_out hm own_WA) own_P) rfl ?_
              exact k
            obtain ⟨fs, hr, hrun, hended, hW, hsame⟩ := X0.leave (v := some (.double (FP.dadd (FP.dadd d1 (4607038447727129632 : UInt64)) (4607215186990906156 : UInt64)))) (fun h => by rw [Bd.returns] at h; cases h)
            refine ⟨_, _, a15 _ ?_, hrun, hended, _, _, rfl, ?_, ⟨_, rfl⟩, hW, hsame.mono (by decide) (by decide)⟩
            · show Steps p.tables e below (s₁.setTop (mkF m 59 #[.val (.int p0), .val (.double d1), .second, .val (.double (4607215186990906156 : UInt64)), .second] [(.double (FP.dadd (FP.dadd d1 (4607038447727129632 : UInt64)) (4607215186990906156 : UInt64)))])) _
              exact retOut X0 hx Bd.returns rfl (Or.inr (Or.inr (Or.inl ⟨rfl, rfl, _, rfl⟩))) (hb hby d3_59) hr
            · show QE Z p0 d1 h0 n0 _ s₁.heap _
              rw [e0]
              exact ⟨by unfold own_exp; rw [if_neg hc5_2, if_neg hc14_5, if_neg hc27_8, if_neg hc40_11, if_pos hc49_14], N0, rfl⟩
          ·
            have a16 : ∀ t, Steps p.tables e below (s₁.setTop (mkF m 62 #[.val (.int p0), .val (.double d1), .second, .val (.double (4607215186990906156 : UInt64)), .second] [(.int (5 : Int32)), (.int p0)])) t → Steps p.tables e below (s₁.setTop (entryFrame m #[(.int p0), (.double d1)] 5)) t := by
              intro t k
              refine a13 t ?_
              show Steps p.tables e below (s₁.setTop (mkF m 49 #[.val (.int p0), .val (.double d1), .second, .val (.double (4607215186990906156 : UInt64)), .second] [(.int (4 : Int32)), (.int p0)])) _
              refine XS.icmpYes X0.here hx rfl (pc0 := 49) (pc' := 60) rfl (hb hby d3_49) rfl (feq hc49_14).2 (by decide) (by decide) ?_
              show Steps p.tables e below (s₁.setTop (mkF m 60 #[.val (.int p0), .val (.double d1), .second, .val (.double (4607215186990906156 : UInt64)), .second] [])) _
              refine XS.iloadN X0.here hx rfl (hb hby d3_60) rfl ?_
              show Steps p.tables e below (s₁.setTop (mkF m 61 #[.val (.int p0), .val (.double d1), .second, .val (.double (4607215186990906156 : UInt64)), .second] [(.int p0)])) _
              refine XS.iconst X0.here hx rfl (hb hby d3_61) ?_
              exact k
            by_cases hc62_17 : p0 = (5 : Int32)
            ·
              have a18 : ∀ t, Steps p.tables e below (s₁.setTop (mkF m 74 #[.val (.int p0), .val (.double d1), .second, .val (.double (4607215186990906156 : UInt64)), .second] [(.double (FP.ddiv (FP.dadd d1 (FP.dadd (4607215186990906156 : UInt64) (4607215186990906156 : UInt64))) (4611686018427387904 : UInt64)))])) t → Steps p.tables e below (s₁.setTop (entryFrame m #[(.int p0), (.double d1)] 5)) t := by
                intro t k
                refine a16 t ?_
                show Steps p.tables e below (s₁.setTop (mkF m 62 #[.val (.int p0), .val (.double d1), .second, .val (.double (4607215186990906156 : UInt64)), .second] [(.int (5 : Int32)), (.int p0)])) _
                refine XS.icmpNo X0.here hx rfl (hb hby d3_62) rfl (teq hc62_17).2 ?_
                show Steps p.tables e below (s₁.setTop (mkF m 65 #[.val (.int p0), .val (.double d1), .second, .val (.double (4607215186990906156 : UInt64)), .second] [])) _
                refine XS.dloadN X0.here hx rfl (hb hby d3_65) rfl ?_
                show Steps p.tables e below (s₁.setTop (mkF m 66 #[.val (.int p0), .val (.double d1), .second, .val (.double (4607215186990906156 : UInt64)), .second] [(.double d1)])) _
                refine XS.dloadN X0.here hx rfl (hb hby d3_66) rfl ?_
                show Steps p.tables e below (s₁.setTop (mkF m 67 #[.val (.int p0), .val (.double d1), .second, .val (.double (4607215186990906156 : UInt64)), .second] [(.double (4607215186990906156 : UInt64)), (.double d1)])) _
                refine XS.dloadN X0.here hx rfl (hb hby d3_67) rfl ?_
                show Steps p.tables e below (s₁.setTop (mkF m 68 #[.val (.int p0), .val (.double d1), .second, .val (.double (4607215186990906156 : UInt64)), .second] [(.double (4607215186990906156 : UInt64)), (.double (4607215186990906156 : UInt64)), (.double d1)])) _
                refine XS.daddS X0.here hx rfl (hb hby d3_68) rfl own_PP.noNaN rfl ?_
                show Steps p.tables e below (s₁.setTop (mkF m 69 #[.val (.int p0), .val (.double d1), .second, .val (.double (4607215186990906156 : UInt64)), .second] [(.double (FP.dadd (4607215186990906156 : UInt64) (4607215186990906156 : UInt64))), (.double d1)])) _
                refine XS.daddS X0.here hx rfl (hb hby d3_69) rfl (Jvm.Free.Fl.dadd_out hm own_PP) rfl ?_
                show Steps p.tables e below (s₁.setTop (mkF m 70 #[.val (.int p0), .val (.double d1), .second, .val (.double (4607215186990906156 : UInt64)), .second] [(.double (FP.dadd d1 (FP.dadd (4607215186990906156 : UInt64) (4607215186990906156 : UInt64))))])) _
                refine X0.ldc2DoubleC hx hown (mvT hZ (hw _ (List.mem_of_getElem? (i := 32) rfl))) (g := (mkF m 70 #[.val (.int p0), .val (.double d1), .second, .val (.double (4607215186990906156 : UInt64)), .second] [(.double (FP.dadd d1 (FP.dadd (4607215186990906156 : UInt64) (4607215186990906156 : UInt64))))])) rfl (hb hby d3_70) _ ?_
                show Steps p.tables e below (s₁.setTop (mkF m 73 #[.val (.int p0), .val (.double d1), .second, .val (.double (4607215186990906156 : UInt64)), .second] [(.double (4611686018427387904 : UInt64)), (.double (FP.dadd d1 (FP.dadd (4607215186990906156 : UInt64) (4607215186990906156 : UInt64))))])) _
                refine XS.ddivS X0.here hx rfl (hb hby d3_73) rfl (Jvm.Free.Fl.ddiv_out (Jvm.Free.Fl.dadd_out hm own_PP) own_two own_twonz) rfl ?_
                exact k
              obtain ⟨fs, hr, hrun, hended, hW, hsame⟩ := X0.leave (v := some (.double (FP.ddiv (FP.dadd d1 (FP.dadd (4607215186990906156 : UInt64) (4607215186990906156 : UInt64))) (4611686018427387904 : UInt64)))) (fun h => by rw [Bd.returns] at h; cases h)
              refine ⟨_, _, a18 _ ?_, hrun, hended, _, _, rfl, ?_, ⟨_, rfl⟩, hW, hsame.mono (by decide) (by decide)⟩
              · show Steps p.tables e below (s₁.setTop (mkF m 74 #[.val (.int p0), .val (.double d1), .second, .val (.double (4607215186990906156 : UInt64)), .second] [(.double (FP.ddiv (FP.dadd d1 (FP.dadd (4607215186990906156 : UInt64) (4607215186990906156 : UInt64))) (4611686018427387904 : UInt64)))])) _
                exact retOut X0 hx Bd.returns rfl (Or.inr (Or.inr (Or.inl ⟨rfl, rfl, _, rfl⟩))) (hb hby d3_74) hr
              · show QE Z p0 d1 h0 n0 _ s₁.heap _
                rw [e0]
                exact ⟨by unfold own_exp; rw [if_neg hc5_2, if_neg hc14_5, if_neg hc27_8, if_neg hc40_11, if_neg hc49_14, if_pos hc62_17], N0, rfl⟩
            ·
              have a19 : ∀ t, Steps p.tables e below (s₁.setTop (mkF m 78 #[.val (.int p0), .val (.double d1), .second, .val (.double (4607215186990906156 : UInt64)), .second] [(.int (6 : Int32)), (.int p0)])) t → Steps p.tables e below (s₁.setTop (entryFrame m #[(.int p0), (.double d1)] 5)) t := by
                intro t k
                refine a16 t ?_
                show Steps p.tables e below (s₁.setTop (mkF m 62 #[.val (.int p0), .val (.double d1), .second, .val (.double (4607215186990906156 : UInt64)), .second] [(.int (5 : Int32)), (.int p0)])) _
                refine XS.icmpYes X0.here hx rfl (pc0 := 62) (pc' := 75) rfl (hb hby d3_62) rfl (feq hc62_17).2 (by decide) (by decide) ?_
                show Steps p.tables e below (s₁.setTop (mkF m 75 #[.val (.int p0), .val (.double d1), .second, .val (.double (4607215186990906156 : UInt64)), .second] [])) _
                refine XS.iloadN X0.here hx rfl (hb hby d3_75) rfl ?_
                show Steps p.tables e below (s₁.setTop (mkF m 76 #[.val (.int p0), .val (.double d1), .second, .val (.double (4607215186990906156 : UInt64)), .second] [(.int p0)])) _
                refine XS.bipush X0.here hx rfl (hb hby d3_76) ?_
                exact k
              by_cases hc78_20 : p0 = (6 : Int32)
              ·
                have a21 : ∀ t, Steps p.tables e below (s₁.setTop (mkF m 94 #[.val (.int p0), .val (.double d1), .second, .val (.double (4607215186990906156 : UInt64)), .second] [(.double (FP.ddiv (FP.dadd (FP.dadd d1 (4625762741046049652 : UInt64)) (FP.dadd (4607215186990906156 : UInt64) (4607215186990906156 : UInt64))) (4611686018427387904 : UInt64)))])) t → Steps p.tables e below (s₁.setTop (entryFrame m #[(.int p0), (.double d1)] 5)) t := by
                  intro t k
                  refine a19 t ?_
                  show Steps p.tables e below (s₁.setTop (mkF m 78 #[.val (.int p0), .val (.double d1), .second, .val (.double (4607215186990906156 : UInt64)), .second] [(.int (6 : Int32)), (.int p0)])) _
                  refine XS.icmpNo X0.here hx rfl (hb hby d3_78) rfl (teq hc78_20).2 ?_
                  show Steps p.tables e below (s₁.setTop (mkF m 81 #[.val (.int p0), .val (.double d1), .second, .val (.double (4607215186990906156 : UInt64)), .second] [])) _
                  refine XS.dloadN X0.here hx rfl (hb hby d3_81) rfl ?_
                  show Steps p.tables e below (s₁.setTop (mkF m 82 #[.val (.int p0), .val (.double d1), .second, .val (.double (4607215186990906156 : UInt64)), .second] [(.double d1)])) _
                  refine X0.ldc2DoubleC hx hown (mvT hZ (hw _ (List.mem_of_getElem? (i := 27) rfl))) (g := (mkF m 82 #[.val (.int p0), .val (.double d1), .second, .val (.double (4607215186990906156 : UInt64)), .second] [(.double d1)])) rfl (hb hby d3_82) _ ?_
                  show Steps p.tables e below (s₁.setTop (mkF m 85 #[.val (.int p0), .val (.double d1), .second, .val (.double (4607215186990906156 : UInt64)), .second] [(.double (4625762741046049652 : UInt64)), (.double d1)])) _
                  refine XS.daddS X0.here hx rfl (hb hby d3_85) rfl (Jvm.Free.Fl.dadd_out hm own_W) rfl ?_
                  show Steps p.tables e below (s₁.setTop (mkF m 86 #[.val (.int p0), .val (.double d1), .second, .val (.double (4607215186990906156 : UInt64)), .second] [(.double (FP.dadd d1 (4625762741046049652 : UInt64)))])) _
                  refine XS.dloadN X0.here hx rfl (hb hby d3_86) rfl ?_
                  show Steps p.tables e below (s₁.setTop (mkF m 87 #[.val (.int p0), .val (.double d1), .second, .val (.double (4607215186990906156 : UInt64)), .second] [(.double (4607215186990906156 : UInt64)), (.double (FP.dadd d1 (4625762741046049652 : UInt64)))])) _
                  refine XS.dloadN X0.here hx rfl (hb hby d3_87) rfl ?_
                  show Steps p.tables e below (s₁.setTop (mkF m 88 #[.val (.int p0), .val (.double d1), .second, .val (.double (4607215186990906156 : UInt64)), .second] [(.double (4607215186990906156 : UInt64)), (.double (4607215186990906156 : UInt64)), (.double (FP.dadd d1 (4625762741046049652 : UInt64)))])) _
                  refine XS.daddS X0.here hx rfl (hb hby d3_88) rfl own_PP.noNaN rfl ?_
                  show Steps p.tables e below (s₁.setTop (mkF m 89 #[.val (.int p0), .val (.double d1), .second, .val (.double (4607215186990906156 : UInt64)), .second] [(.double (FP.dadd (4607215186990906156 : UInt64) (4607215186990906156 : UInt64))), (.double (FP.dadd d1 (4625762741046049652 : UInt64)))])) _
                  refine XS.daddS X0.here hx rfl (hb hby d3_89) rfl (Jvm.Free.Fl.dadd_out (Jvm.Free.Fl.dadd_out hm own_W) own_PP) rfl ?_
                  show Steps p.tables e below (s₁.setTop (mkF m 90 #[.val (.int p0), .val (.double d1), .second, .val (.double (4607215186990906156 : UInt64)), .second] [(.double (FP.dadd (FP.dadd d1 (4625762741046049652 : UInt64)) (FP.dadd (4607215186990906156 : UInt64) (4607215186990906156 : UInt64))))])) _
                  refine X0.ldc2DoubleC hx hown (mvT hZ (hw _ (List.mem_of_getElem? (i := 32) rfl))) (g := (mkF m 90 #[.val (.int p0), .val (.double d1), .second, .val (.double (4607215186990906156 : UInt64)), .second] [(.double (FP.dadd (FP.dadd d1 (4625762741046049652 : UInt64)) (FP.dadd (4607215186990906156 : UInt64) (4607215186990906156 : UInt64))))])) rfl (hb hby d3_90) _ ?_
                  show Steps p.tables e below (s₁.setTop (mkF m 93 #[.val (.int p0), .val (.double d1), .second, .val (.double (4607215186990906156 : UInt64)), .second] [(.double (4611686018427387904 : UInt64)), (.double (FP.dadd (FP.dadd d1 (4625762741046049652 : UInt64)) (FP.dadd (4607215186990906156 : UInt64) (4607215186990906156 : UInt64))))])) _
                  refine XS.ddivS X0.here hx rfl (hb hby d3_93) rfl (Jvm.Free.Fl.ddiv_out (Jvm.Free.Fl.dadd_out (Jvm.Free.Fl.dadd_out hm own_W) own_PP) own_two own_twonz) rfl ?_
                  exact k
                obtain ⟨fs, hr, hrun, hended, hW, hsame⟩ := X0.leave (v := some (.double (FP.ddiv (FP.dadd (FP.dadd d1 (4625762741046049652 : UInt64)) (FP.dadd (4607215186990906156 : UInt64) (4607215186990906156 : UInt64))) (4611686018427387904 : UInt64)))) (fun h => by rw [Bd.returns] at h; cases h)
                refine ⟨_, _, a21 _ ?_, hrun, hended, _, _, rfl, ?_, ⟨_, rfl⟩, hW, hsame.mono (by decide) (by decide)⟩
                · show Steps p.tables e below (s₁.setTop (mkF m 94 #[.val (.int p0), .val (.double d1), .second, .val (.double (4607215186990906156 : UInt64)), .second] [(.double (FP.ddiv (FP.dadd (FP.dadd d1 (4625762741046049652 : UInt64)) (FP.dadd (4607215186990906156 : UInt64) (4607215186990906156 : UInt64))) (4611686018427387904 : UInt64)))])) _
                  exact retOut X0 hx Bd.returns rfl (Or.inr (Or.inr (Or.inl ⟨rfl, rfl, _, rfl⟩))) (hb hby d3_94) hr
                · show QE Z p0 d1 h0 n0 _ s₁.heap _
                  rw [e0]
                  exact ⟨by unfold own_exp; rw [if_neg hc5_2, if_neg hc14_5, if_neg hc27_8, if_neg hc40_11, if_neg hc49_14, if_neg hc62_17, if_pos hc78_20], N0, rfl⟩
              ·
                have a22 : ∀ t, Steps p.tables e below (s₁.setTop (mkF m 98 #[.val (.int p0), .val (.double d1), .second, .val (.double (4607215186990906156 : UInt64)), .second] [(.int (7 : Int32)), (.int p0)])) t → Steps p.tables e below (s₁.setTop (entryFrame m #[(.int p0), (.double d1)] 5)) t := by
                  intro t k
                  refine a19 t ?_
                  show Steps p.tables e below (s₁.setTop (mkF m 78 #[.val (.int p0), .val (.double d1), .second, .val (.double (4607215186990906156 : UInt64)), .second] [(.int (6 : Int32)), (.int p0)])) _
                  refine XS.icmpYes X0.here hx rfl (pc0 := 78) (pc' := 95) rfl (hb hby d3_78) rfl (feq hc78_20).2 (by decide) (by decide) ?_
                  show Steps p.tables e below (s₁.setTop (mkF m 95 #[.val (.int p0), .val (.double d1), .second, .val (.double (4607215186990906156 : UInt64)), .second] [])) _
                  refine XS.iloadN X0.here hx rfl (hb hby d3_95) rfl ?_
                  show Steps p.tables e below (s₁.setTop (mkF m 96 #[.val (.int p0), .val (.double d1), .second, .val (.double (4607215186990906156 : UInt64)), .second] [(.int p0)])) _
                  refine XS.bipush X0.here hx rfl (hb hby d3_96) ?_
                  exact k
                by_cases hc98_23 : p0 = (7 : Int32)
                ·
                  have a24 : ∀ t, Steps p.tables e below (s₁.setTop (mkF m 108 #[.val (.int p0), .val (.double d1), .second, .val (.double (4607215186990906156 : UInt64)), .second] [(.double (FP.dadd (FP.dsub d1 (4625762741046049652 : UInt64)) (4607215186990906156 : UInt64)))])) t → Steps p.tables e below (s₁.setTop (entryFrame m #[(.int p0), (.double d1)] 5)) t := by
                    intro t k
                    refine a22 t ?_
                    show Steps p.tables e below (s₁.setTop (mkF m 98 #[.val (.int p0), .val (.double d1), .second, .val (.double (4607215186990906156 : UInt64)), .second] [(.int (7 : Int32)), (.int p0)])) _
                    refine XS.icmpNo X0.here hx rfl (hb hby d3_98) rfl (teq hc98_23).2 ?_
                    show Steps p.tables e below (s₁.setTop (mkF m 101 #[.val (.int p0), .val (.double d1), .second, .val (.double (4607215186990906156 : UInt64)), .second] [])) _
                    refine XS.dloadN X0.here hx rfl (hb hby d3_101) rfl ?_
                    show Steps p.tables e below (s₁.setTop (mkF m 102 #[.val (.int p0), .val (.double d1), .second, .val (.double (4607215186990906156 : UInt64)), .second] [(.double d1)])) _
                    refine X0.ldc2DoubleC hx hown (mvT hZ (hw _ (List.mem_of_getElem? (i := 27) rfl))) (g := (mkF m 102 #[.val (.int p0), .val (.double d1), .second, .val (.double (4607215186990906156 : UInt64)), .second] [(.double d1)])) rfl (hb hby d3_102) _ ?_
                    show Steps p.tables e below (s₁.setTop (mkF m 105 #[.val (.int p0), .val (.double d1), .second, .val (.double (4607215186990906156 : UInt64)), .second] [(.double (4625762741046049652 : UInt64)), (.double d1)])) _
                    refine XS.dsubS X0.here hx rfl (hb hby d3_105) rfl (Jvm.Free.Fl.dsub_out hm own_W) rfl ?_
                    show Steps p.tables e below (s₁.setTop (mkF m 106 #[.val (.int p0), .val (.double d1), .second, .val (.double (4607215186990906156 : UInt64)), .second] [(.double (FP.dsub d1 (4625762741046049652 : UInt64)))])) _
                    refine XS.dloadN X0.here hx rfl (hb hby d3_106) rfl ?_
                    show Steps p.tables e below (s₁.setTop (mkF m 107 #[.val (.int p0), .val (.double d1), .second, .val (.double (4607215186990906156 : UInt64)), .second] [(.double (4607215186990906156 : UInt64)), (.double (FP.dsub d1 (4625762741046049652 : UInt64)))])) _
                    refine XS.daddS X0.here hx rfl (hb hby d3_107) rfl (Jvm.Free.Fl.dadd_out (Jvm.Free.Fl.dsub_out hm own_W) own_P) rfl ?_
                    exact k
                  obtain ⟨fs, hr, hrun, hended, hW, hsame⟩ := X0.leave (v := some (.double (FP.dadd (FP.dsub d1 (4625762741046049652 : UInt64)) (4607215186990906156 : UInt64)))) (fun h => by rw [Bd.returns] at h; cases h)
                  refine ⟨_, _, a24 _ ?_, hrun, hended, _, _, rfl, ?_, ⟨_, rfl⟩, hW, hsame.mono (by decide) (by decide)⟩
                  · show Steps p.tables e below (s₁.setTop (mkF m 108 #[.val (.int p0), .val (.double d1), .second, .val (.double (4607215186990906156 : UInt64)), .second] [(.double (FP.dadd (FP.dsub d1 (4625762741046049652 : UInt64)) (4607215186990906156 : UInt64)))])) _
                    exact retOut X0 hx Bd.returns rfl (Or.inr (Or.inr (Or.inl ⟨rfl, rfl, _, rfl⟩))) (hb hby d3_108) hr
                  · show QE Z p0 d1 h0 n0 _ s₁.heap _
                    rw [e0]
                    exact ⟨by unfold own_exp; rw [if_neg hc5_2, if_neg hc14_5, if_neg hc27_8, if_neg hc40_11, if_neg hc49_14, if_neg hc62_17, if_neg hc78_20, if_pos hc98_23], N0, rfl⟩
                ·
                  have a25 : ∀ t, Steps p.tables e below (s₁.setTop (mkF m 116 #[.val (.int p0), .val (.double d1), .second, .val (.double (4607215186990906156 : UInt64)), .second] [(.double (FP.dadd (FP.dsub d1 (4625485765165366739 : UInt64)) (4607215186990906156 : UInt64)))])) t → Steps p.tables e below (s₁.setTop (entryFrame m #[(.int p0), (.double d1)] 5)) t := by
                    intro t k
                    refine a22 t ?_
                    show Steps p.tables e below (s₁.setTop (mkF m 98 #[.val (.int p0), .val (.double d1), .second, .val (.double (4607215186990906156 : UInt64)), .second] [(.int (7 : Int32)), (.int p0)])) _
                    refine XS.icmpYes X0.here hx rfl (pc0 := 98) (pc' := 109) rfl (hb hby d3_98) rfl (feq hc98_23).2 (by decide) (by decide) ?_
                    show Steps p.tables e below (s₁.setTop (mkF m 109 #[.val (.int p0), .val (.double d1), .second, .val (.double (4607215186990906156 : UInt64)), .second] [])) _
                    refine XS.dloadN X0.here hx rfl (hb hby d3_109) rfl ?_
                    show Steps p.tables e below (s₁.setTop (mkF m 110 #[.val (.int p0), .val (.double d1), .second, .val (.double (4607215186990906156 : UInt64)), .second] [(.double d1)])) _
                    refine X0.ldc2DoubleC hx hown (mvT hZ (hw _ (List.mem_of_getElem? (i := 38) rfl))) (g := (mkF m 110 #[.val (.int p0), .val (.double d1), .second, .val (.double (4607215186990906156 : UInt64)), .second] [(.double d1)])) rfl (hb hby d3_110) _ ?_
                    show Steps p.tables e below (s₁.setTop (mkF m 113 #[.val (.int p0), .val (.double d1), .second, .val (.double (4607215186990906156 : UInt64)), .second] [(.double (4625485765165366739 : UInt64)), (.double d1)])) _
                    refine XS.dsubS X0.here hx rfl (hb hby d3_113) rfl (Jvm.Free.Fl.dsub_out hm own_AM) rfl ?_
                    show Steps p.tables e below (s₁.setTop (mkF m 114 #[.val (.int p0), .val (.double d1), .second, .val (.double (4607215186990906156 : UInt64)), .second] [(.double (FP.dsub d1 (4625485765165366739 : UInt64)))])) _
                    refine XS.dloadN X0.here hx rfl (hb hby d3_114) rfl ?_
                    show Steps p.tables e below (s₁.setTop (mkF m 115 #[.val (.int p0), .val (.double d1), .second, .val (.double (4607215186990906156 : UInt64)), .second] [(.double (4607215186990906156 : UInt64)), (.double (FP.dsub d1 (4625485765165366739 : UInt64)))])) _
                    refine XS.daddS X0.here hx rfl (hb hby d3_115) rfl (Jvm.Free.Fl.dadd_out (Jvm.Free.Fl.dsub_out hm own_AM) own_P) rfl ?_
                    exact k
                  obtain ⟨fs, hr, hrun, hended, hW, hsame⟩ := X0.leave (v := some (.double (FP.dadd (FP.dsub d1 (4625485765165366739 : UInt64)) (4607215186990906156 : UInt64)))) (fun h => by rw [Bd.returns] at h; cases h)
                  refine ⟨_, _, a25 _ ?_, hrun, hended, _, _, rfl, ?_, ⟨_, rfl⟩, hW, hsame.mono (by decide) (by decide)⟩
                  · show Steps p.tables e below (s₁.setTop (mkF m 116 #[.val (.int p0), .val (.double d1), .second, .val (.double (4607215186990906156 : UInt64)), .second] [(.double (FP.dadd (FP.dsub d1 (4625485765165366739 : UInt64)) (4607215186990906156 : UInt64)))])) _
                    exact retOut X0 hx Bd.returns rfl (Or.inr (Or.inr (Or.inl ⟨rfl, rfl, _, rfl⟩))) (hb hby d3_116) hr
                  · show QE Z p0 d1 h0 n0 _ s₁.heap _
                    rw [e0]
                    exact ⟨by unfold own_exp; rw [if_neg hc5_2, if_neg hc14_5, if_neg hc27_8, if_neg hc40_11, if_neg hc49_14, if_neg hc62_17, if_neg hc78_20, if_neg hc98_23], N0, rfl⟩
theorem ef_rm0 (m : MethodId) (x0 : Int32) (x1 : Int64) (x2 : Int32) : entryFrame m #[(.int x0), (.long x1), (.int x2)] maxLocals = mkF m 0 #[.val (.int x0), .val (.long x1), .second, .val (.int x2), .unset, .unset, .unset, .unset, .unset, .unset] [] := by first | (simp [entryFrame, mkF, argsToLocals, Value.category, maxLocals]; done) | rfl
theorem own_pd0 : parseMethodDescriptor "(I)Lcom/example/peptools/peptools/spectra/IonType;" = some ⟨[.int], some (.object "com/example/peptools/peptools/spectra/IonType")⟩ := by decide +kernel
theorem own_pd1 : parseMethodDescriptor "(D)D" = some ⟨[.double], some .double⟩ := by decide +kernel
theorem own_pd2 : parseMethodDescriptor "(ID)D" = some ⟨[.int, .double], some .double⟩ := by decide +kernel
def Q0 (Z : State) (p0 : Int32) (q1 : Int64) (p2 : Int32) (w_B : Addr) (w_Y : Addr) (w_A : Addr) (w_Y_LESS_WATER : Addr) (w_Y_LESS_AMMONIA : Addr) (w_B_DOUBLY_CHARGED : Addr) (w_Y_DOUBLY_CHARGED : Addr) (w_B_LESS_WATER : Addr) (w_B_LESS_AMMONIA : Addr) (h0 : Heap) (n0 : Nat) (v : Option Value) (h : Heap) (L : List Loc) : Prop := v = some (.int 1) ∧ Fr n0 L
set_option maxRecDepth 65536 in
set_option maxHeartbeats 40000000 in
theorem rm0 (l : Launch) (Z : State) (a0 : Array Value) (hw : ∀ d ∈ tables_1, d.before a0 Z = true) (ws : List Jvm.Cond) (p0 : Int32) (q1 : Int64) (p2 : Int32) (w_B : Addr) (w_Y : Addr) (w_A : Addr) (w_Y_LESS_WATER : Addr) (w_Y_LESS_AMMONIA : Addr) (w_B_DOUBLY_CHARGED : Addr) (w_Y_DOUBLY_CHARGED : Addr) (w_B_LESS_WATER : Addr) (w_B_LESS_AMMONIA : Addr) (h0 : Heap) (n0 : Nat) (Z0 : n0 ≤ h0.size) (S_B : Sta Z h0 "com/example/peptools/peptools/spectra/IonType" "B" "Lcom/example/peptools/peptools/spectra/IonType;" (.ref w_B)) (X_B : Exa Z h0 w_B "com/example/peptools/peptools/spectra/IonType") (F_B_charge : Fld Z h0 w_B "com/example/peptools/peptools/spectra/IonType" "charge" "I" (.int 1)) (F_B_neutralShift : Fld Z h0 w_B "com/example/peptools/peptools/spectra/IonType" "neutralShift" "D" (.double 0)) (S_Y : Sta Z h0 "com/example/peptools/peptools/spectra/IonType" "Y" "Lcom/example/peptools/peptools/spectra/IonType;" (.ref w_Y)) (X_Y : Exa Z h0 w_Y "com/example/peptools/peptools/spectra/IonType") (F_Y_charge : Fld Z h0 w_Y "com/example/peptools/peptools/spectra/IonType" "charge" "I" (.int 1)) (F_Y_neutralShift : Fld Z h0 w_Y "com/example/peptools/peptools/spectra/IonType" "neutralShift" "D" (.double 4625762741046049652)) (S_A : Sta Z h0 "com/example/peptools/peptools/spectra/IonType" "A" "Lcom/example/peptools/peptools/spectra/IonType;" (.ref w_A)) (X_A : Exa Z h0 w_A "com/example/peptools/peptools/spectra/IonType") (F_A_charge : Fld Z h0 w_A "com/example/peptools/peptools/spectra/IonType" "charge" "I" (.int 1)) (F_A_neutralShift : Fld Z h0 w_A "com/example/peptools/peptools/spectra/IonType" "neutralShift" "D" (.double 13851945122584546498)) (S_Y_LESS_WATER : Sta Z h0 "com/example/peptools/peptools/spectra/IonType" "Y_LESS_WATER" "Lcom/example/peptools/peptools/spectra/IonType;" (.ref w_Y_LESS_WATER)) (X_Y_LESS_WATER : Exa Z h0 w_Y_LESS_WATER "com/example/peptools/peptools/spectra/IonType") (F_Y_LESS_WATER_charge : Fld Z h0 w_Y_LESS_WATER "com/example/peptools/peptools/spectra/IonType" "charge" "I" (.int 1)) (F_Y_LESS_WATER_neutralShift : Fld Z h0 w_Y_LESS_WATER "com/example/peptools/peptools/spectra/IonType" "neutralShift" "D" (.double 0)) (S_Y_LESS_AMMONIA : Sta Z h0 "com/example/peptools/peptools/spectra/IonType" "Y_LESS_AMMONIA" "Lcom/example/peptools/peptools/spectra/IonType;" (.ref w_Y_LESS_AMMONIA)) (X_Y_LESS_AMMONIA : Exa Z h0 w_Y_LESS_AMMONIA "com/example/peptools/peptools/spectra/IonType") (F_Y_LESS_AMMONIA_charge : Fld Z h0 w_Y_LESS_AMMONIA "com/example/peptools/peptools/spectra/IonType" "charge" "I" (.int 1)) (F_Y_LESS_AMMONIA_neutralShift : Fld Z h0 w_Y_LESS_AMMONIA "com/example/peptools/peptools/spectra/IonType" "neutralShift" "D" (.double 4607038447727129632)) (S_B_DOUBLY_CHARGED : Sta Z h0 "com/example/peptools/peptools/spectra/IonType" "B_DOUBLY_CHARGED" "Lcom/example/peptools/peptools/spectra/IonType;" (.ref w_B_DOUBLY_CHARGED)) (X_B_DOUBLY_CHARGED : Exa Z h0 w_B_DOUBLY_CHARGED "com/example/peptools/peptools/spectra/IonType") (F_B_DOUBLY_CHARGED_charge : Fld Z h0 w_B_DOUBLY_CHARGED "com/example/peptools/peptools/spectra/IonType" "charge" "I" (.int 2)) (F_B_DOUBLY_CHARGED_neutralShift : Fld Z h0 w_B_DOUBLY_CHARGED "com/example/peptools/peptools/spectra/IonType" "neutralShift" "D" (.double 0)) (S_Y_DOUBLY_CHARGED : Sta Z h0 "com/example/peptools/peptools/spectra/IonType" "Y_DOUBLY_CHARGED" "Lcom/example/peptools/peptools/spectra/IonType;" (.ref w_Y_DOUBLY_CHARGED)) (X_Y_DOUBLY_CHARGED : Exa Z h0 w_Y_DOUBLY_CHARGED "com/example/peptools/peptools/spectra/IonType") (F_Y_DOUBLY_CHARGED_charge : Fld Z h0 w_Y_DOUBLY_CHARGED "com/example/peptools/peptools/spectra/IonType" "charge" "I" (.int 2)) (F_Y_DOUBLY_CHARGED_neutralShift : Fld Z h0 w_Y_DOUBLY_CHARGED "com/example/peptools/peptools/spectra/IonType" "neutralShift" "D" (.double 4625762741046049652)) (S_B_LESS_WATER : Sta Z h0 "com/example/peptools/peptools/spectra/IonType" "B_LESS_WATER" "Lcom/example/peptools/peptools/spectra/IonType;" (.ref w_B_LESS_WATER)) (X_B_LESS_WATER : Exa Z h0 w_B_LESS_WATER "com/example/peptools/peptools/spectra/IonType") (F_B_LESS_WATER_charge : Fld Z h0 w_B_LESS_WATER "com/example/peptools/peptools/spectra/IonType" "charge" "I" (.int 1)) (F_B_LESS_WATER_neutralShift : Fld Z h0 w_B_LESS_WATER "com/example/peptools/peptools/spectra/IonType" "neutralShift" "D" (.double 13849134777900825460)) (S_B_LESS_AMMONIA : Sta Z h0 "com/example/peptools/peptools/spectra/IonType" "B_LESS_AMMONIA" "Lcom/example/peptools/peptools/spectra/IonType;" (.ref w_B_LESS_AMMONIA)) (X_B_LESS_AMMONIA : Exa Z h0 w_B_LESS_AMMONIA "com/example/peptools/peptools/spectra/IonType") (F_B_LESS_AMMONIA_charge : Fld Z h0 w_B_LESS_AMMONIA "com/example/peptools/peptools/spectra/IonType" "charge" "I" (.int 1)) (F_B_LESS_AMMONIA_neutralShift : Fld Z h0 w_B_LESS_AMMONIA "com/example/peptools/peptools/spectra/IonType" "neutralShift" "D" (.double 13848857802020142547)) :
    MetFree l x (head1 (Jvm.Cond.code x code maxLocals ret :: ws) room_1) (fun a U => a = #[(.int p0), (.long q1), (.int p2)] ∧ Z.Warmed39 U.vm ∧ U.heap = h0) (fun _ _ _ _ _ => True) (fun _ U o U' => ∃ v L, o = .returned v ∧ Q0 Z p0 q1 p2 w_B w_Y w_A w_Y_LESS_WATER w_Y_LESS_AMMONIA w_B_DOUBLY_CHARGED w_Y_DOUBLY_CHARGED w_B_LESS_WATER w_B_LESS_AMMONIA h0 n0 v U'.heap L ∧ FrameEnd U o U' L room_1.cells room_1.slots) := by
  refine MetFree.of_bodySF (plainFor_of_name own_pn_com_example_peptools_peptools_spectra_IonTypeMzHoldingPinLaw) hisR ?_
  intro p e s m args below meth c s₁ Bd hml0 hP hK
  obtain ⟨rfl, hZ, hh⟩ := hP
  have hx := Bd.exec
  have hby := Bd.bytes
  have hml : c.maxLocals = 10 := hml0
  have hown : s.vm.findClass "com/example/peptools/peptools/spectra/IonTypeMzHoldingPinLaw" = some m.cls := findClass_of_methodNamed Bd.named
  have hnm := (name_of_methodNamed Bd.named Bd.method).1
  have X0 : Stand p l e room_1 s m #[(.int p0), (.long q1), (.int p2)] below meth c s₁ [] 0 0 := Stand.of_body Bd
  have e0 : s₁.heap = h0 := by rw [← hh, Bd.state]; rfl
  have N0 := Fr.nil n0
  have pre0 : ∀ t, Steps p.tables e below (s₁.setTop (mkF m 0 #[.val (.int p0), .val (.long q1), .second, .val (.int p2), .unset, .unset, .unset, .unset, .unset, .unset] [])) t → Steps p.tables e below (s₁.setTop (entryFrame m #[(.int p0), (.long q1), (.int p2)] maxLocals)) t := fun t k => castTop (ef_rm0 m p0 q1 p2) k
  have a1 : ∀ t, Steps p.tables e below (s₁.setTop (mkF m 7 #[.val (.int p0), .val (.long q1), .second, .val (.int p2), .unset, .unset, .unset, .unset, .unset, .unset] [(.int ((p0 &&& (2147483647 : Int32)) % (9 : Int32)))])) t → Steps p.tables e below (s₁.setTop (entryFrame m #[(.int p0), (.long q1), (.int p2)] maxLocals)) t := by
    intro t k
    refine pre0 t ?_
    show Steps p.tables e below (s₁.setTop (mkF m 0 #[.val (.int p0), .val (.long q1), .second, .val (.int p2), .unset, .unset, .unset, .unset, .unset, .unset] [])) _
    refine XS.iloadN X0.here hx rfl (hb hby at_0) rfl ?_
    show Steps p.tables e below (s₁.setTop (mkF m 1 #[.val (.int p0), .val (.long q1), .second, .val (.int p2), .unset, .unset, .unset, .unset, .unset, .unset] [(.int p0)])) _
    refine X0.ldcInt hx hown (mvT hZ (hw _ (List.mem_of_getElem? (i := 0) rfl))) (g := (mkF m 1 #[.val (.int p0), .val (.long q1), .second, .val (.int p2), .unset, .unset, .unset, .unset, .unset, .unset] [(.int p0)])) rfl (hb hby at_1) _ ?_
    show Steps p.tables e below (s₁.setTop (mkF m 3 #[.val (.int p0), .val (.long q1), .second, .val (.int p2), .unset, .unset, .unset, .unset, .unset, .unset] [(.int (2147483647 : Int32)), (.int p0)])) _
    refine XS.iand X0.here hx rfl (hb hby at_3) rfl ?_
    show Steps p.tables e below (s₁.setTop (mkF m 4 #[.val (.int p0), .val (.long q1), .second, .val (.int p2), .unset, .unset, .unset, .unset, .unset, .unset] [(.int (p0 &&& (2147483647 : Int32)))])) _
    refine XS.bipush X0.here hx rfl (hb hby at_4) ?_
    show Steps p.tables e below (s₁.setTop (mkF m 6 #[.val (.int p0), .val (.long q1), .second, .val (.int p2), .unset, .unset, .unset, .unset, .unset, .unset] [(.int (9 : Int32)), (.int (p0 &&& (2147483647 : Int32)))])) _
    refine iremM X0 hx rfl (hb hby at_6) rfl (by decide) ?_
    exact k
  obtain ⟨kk, h_kk⟩ : ∃ z, z = ((p0 &&& (2147483647 : Int32)) % (9 : Int32)) := ⟨_, rfl⟩
  rw [← h_kk] at a1
  have a2 : ∀ t, Steps p.tables e below (s₁.setTop (mkF m 22 #[.val (.int p0), .val (.long q1), .second, .val (.int p2), .val (.int kk), .unset, .unset, .unset, .unset, .unset] [(.double (FP.dadd (FP.l2d q1) (FP.ddiv (FP.i2d (p2 &&& (1023 : Int32))) (4652218415073722368 : UInt64))))])) t → Steps p.tables e below (s₁.setTop (entryFrame m #[(.int p0), (.long q1), (.int p2)] maxLocals)) t := by
    intro t k
    refine a1 t ?_
    show Steps p.tables e below (s₁.setTop (mkF m 7 #[.val (.int p0), .val (.long q1), .second, .val (.int p2), .unset, .unset, .unset, .unset, .unset, .unset] [(.int kk)])) _
    refine XS.istore X0.here hx rfl (hb hby at_7) rfl (l' := #[.val (.int p0), .val (.long q1), .second, .val (.int p2), .val (.int kk), .unset, .unset, .unset, .unset, .unset]) rfl ?_
    show Steps p.tables e below (s₁.setTop (mkF m 9 #[.val (.int p0), .val (.long q1), .second, .val (.int p2), .val (.int kk), .unset, .unset, .unset, .unset, .unset] [])) _
    refine XS.lloadN X0.here hx rfl (hb hby at_9) rfl ?_
    show Steps p.tables e below (s₁.setTop (mkF m 10 #[.val (.int p0), .val (.long q1), .second, .val (.int p2), .val (.int kk), .unset, .unset, .unset, .unset, .unset] [(.long q1)])) _
    refine XS.l2dS X0.here hx rfl (hb hby at_10) rfl rfl ?_
    show Steps p.tables e below (s₁.setTop (mkF m 11 #[.val (.int p0), .val (.long q1), .second, .val (.int p2), .val (.int kk), .unset, .unset, .unset, .unset, .unset] [(.double (FP.l2d q1))])) _
    refine XS.iloadN X0.here hx rfl (hb hby at_11) rfl ?_
    show Steps p.tables e below (s₁.setTop (mkF m 12 #[.val (.int p0), .val (.long q1), .second, .val (.int p2), .val (.int kk), .unset, .unset, .unset, .unset, .unset] [(.int p2), (.double (FP.l2d q1))])) _
    refine XS.sipush X0.here hx rfl (hb hby at_12) ?_
    show Steps p.tables e below (s₁.setTop (mkF m 15 #[.val (.int p0), .val (.long q1), .second, .val (.int p2), .val (.int kk), .unset, .unset, .unset, .unset, .unset] [(.int (1023 : Int32)), (.int p2), (.double (FP.l2d q1))])) _
    refine XS.iand X0.here hx rfl (hb hby at_15) rfl ?_
    show Steps p.tables e below (s₁.setTop (mkF m 16 #[.val (.int p0), .val (.long q1), .second, .val (.int p2), .val (.int kk), .unset, .unset, .unset, .unset, .unset] [(.int (p2 &&& (1023 : Int32))), (.double (FP.l2d q1))])) _
    refine XS.i2dS X0.here hx rfl (hb hby at_16) rfl rfl ?_
    show Steps p.tables e below (s₁.setTop (mkF m 17 #[.val (.int p0), .val (.long q1), .second, .val (.int p2), .val (.int kk), .unset, .unset, .unset, .unset, .unset] [(.double (FP.i2d (p2 &&& (1023 : Int32)))), (.double (FP.l2d q1))])) _
    refine X0.ldc2DoubleC hx hown (mvT hZ (hw _ (List.mem_of_getElem? (i := 1) rfl))) (g := (mkF m 17 #[.val (.int p0), .val (.long q1), .second, .val (.int p2), .val (.int kk), .unset, .unset, .unset, .unset, .unset] [(.double (FP.i2d (p2 &&& (1023 : Int32)))), (.double (FP.l2d q1))])) rfl (hb hby at_17) _ ?_
    show Steps p.tables e below (s₁.setTop (mkF m 20 #[.val (.int p0), .val (.long q1), .second, .val (.int p2), .val (.int kk), .unset, .unset, .unset, .unset, .unset] [(.double (4652218415073722368 : UInt64)), (.double (FP.i2d (p2 &&& (1023 : Int32)))), (.double (FP.l2d q1))])) _
    refine XS.ddivS X0.here hx rfl (hb hby at_20) rfl (nn64 (own_fr p2).1) rfl ?_
    show Steps p.tables e below (s₁.setTop (mkF m 21 #[.val (.int p0), .val (.long q1), .second, .val (.int p2), .val (.int kk), .unset, .unset, .unset, .unset, .unset] [(.double (FP.ddiv (FP.i2d (p2 &&& (1023 : Int32))) (4652218415073722368 : UInt64))), (.double (FP.l2d q1))])) _
    refine XS.daddS X0.here hx rfl (hb hby at_21) rfl (own_m q1 p2) rfl ?_
    exact k
  obtain ⟨mm, h_mm⟩ : ∃ z, z = (FP.dadd (FP.l2d q1) (FP.ddiv (FP.i2d (p2 &&& (1023 : Int32))) (4652218415073722368 : UInt64))) := ⟨_, rfl⟩
  rw [← h_mm] at a2
  have hmm : Jvm.Free.Fl.NoNaN64 mm := by rw [h_mm]; exact own_m q1 p2
  have a3 : ∀ t, Steps p.tables e below (s₁.setTop (mkF m 26 #[.val (.int p0), .val (.long q1), .second, .val (.int p2), .val (.int kk), .val (.double mm), .second, .unset, .unset, .unset] [(.int kk)])) t → Steps p.tables e below (s₁.setTop (entryFrame m #[(.int p0), (.long q1), (.int p2)] maxLocals)) t := by
    intro t k
    refine a2 t ?_
    show Steps p.tables e below (s₁.setTop (mkF m 22 #[.val (.int p0), .val (.long q1), .second, .val (.int p2), .val (.int kk), .unset, .unset, .unset, .unset, .unset] [(.double mm)])) _
    refine XS.dstore X0.here hx rfl (hb hby at_22) rfl (l' := #[.val (.int p0), .val (.long q1), .second, .val (.int p2), .val (.int kk), .val (.double mm), .second, .unset, .unset, .unset]) rfl ?_
    show Steps p.tables e below (s₁.setTop (mkF m 24 #[.val (.int p0), .val (.long q1), .second, .val (.int p2), .val (.int kk), .val (.double mm), .second, .unset, .unset, .unset] [])) _
    refine XS.iload X0.here hx rfl (hb hby at_24) rfl ?_
    exact k
  obtain ⟨_, _, ⟨T4, L4, k4, n4⟩, -, X4, ⟨Lc4, hQ4, l4, y4, z4⟩, st4⟩ := Jvm.LawKit.callS X0 hx (y := (⟨"com/example/peptools/peptools/spectra/IonTypeMzHoldingPinLaw", "pick", "(I)Lcom/example/peptools/peptools/spectra/IonType;"⟩ : MethodName)) hown (mvT hZ (hw _ (List.mem_of_getElem? (i := 2) rfl))) (mvT hZ (hw _ (List.mem_of_getElem? (i := 3) rfl))) (mvT hZ (hw _ (List.mem_of_getElem? (i := 4) rfl))) (mvT hZ (hw _ (List.mem_of_getElem? (i := 5) rfl))) (by decide) (backOf (W := 0) (rmP l Z a0 hw [] kk w_B w_Y w_A w_Y_LESS_WATER w_Y_LESS_AMMONIA w_B_DOUBLY_CHARGED w_Y_DOUBLY_CHARGED w_B_LESS_WATER w_B_LESS_AMMONIA h0 n0 Z0 S_B X_B F_B_charge F_B_neutralShift S_Y X_Y F_Y_charge F_Y_neutralShift S_A X_A F_A_charge F_A_neutralShift S_Y_LESS_WATER X_Y_LESS_WATER F_Y_LESS_WATER_charge F_Y_LESS_WATER_neutralShift S_Y_LESS_AMMONIA X_Y_LESS_AMMONIA F_Y_LESS_AMMONIA_charge F_Y_LESS_AMMONIA_neutralShift S_B_DOUBLY_CHARGED X_B_DOUBLY_CHARGED F_B_DOUBLY_CHARGED_charge F_B_DOUBLY_CHARGED_neutralShift S_Y_DOUBLY_CHARGED X_Y_DOUBLY_CHARGED F_Y_DOUBLY_CHARGED_charge F_Y_DOUBLY_CHARGED_neutralShift S_B_LESS_WATER X_B_LESS_WATER F_B_LESS_WATER_charge F_B_LESS_WATER_neutralShift S_B_LESS_AMMONIA X_B_LESS_AMMONIA F_B_LESS_AMMONIA_charge F_B_LESS_AMMONIA_neutralShift) hZ (hw _ (List.mem_of_getElem? (i := 5) rfl)) (hw _ (List.mem_of_getElem? (i := 4) rfl)) (by decide) (by decide)) (g := (mkF m 26 #[.val (.int p0), .val (.long q1), .second, .val (.int p2), .val (.int kk), .val (.double mm), .second, .unset, .unset, .unset] [(.int kk)])) rfl (by rw [hml]; rfl) (argsL := [(.int kk)]) (rest := []) (lenOf own_pd0 rfl) rfl (by show 2 * 0 + _ ≤ _; exact Nat.le_of_eq rfl) (hb hby at_26) (fun _ _ => ⟨rfl, e0, (by decide : 0 + 0 ≤ _), (by decide : 0 + 0 ≤ _)⟩)
  dsimp only [Pt.U, Pt.locs, Pt.cells, Pt.slots] at X4 l4 y4 z4 st4 hQ4
  subst l4 y4 z4
  obtain ⟨u4, rfl, XU4, FC4, FS4, N4q, e4q⟩ := hQ4
  have N4 := Fr.app N0 N4q
  have a5 : ∀ t, Steps p.tables e below (T4.setTop (mkF m 29 #[.val (.int p0), .val (.long q1), .second, .val (.int p2), .val (.int kk), .val (.double mm), .second, .unset, .unset, .unset] [(.ref u4)])) t → Steps p.tables e below (s₁.setTop (entryFrame m #[(.int p0), (.long q1), (.int p2)] maxLocals)) t := fun t k => a3 t (st4 t k)
  have a6 : ∀ t, Steps p.tables e below (T4.setTop (mkF m 35 #[.val (.int p0), .val (.long q1), .second, .val (.int p2), .val (.int kk), .val (.double mm), .second, .val (.ref u4), .unset, .unset] [(.double mm), (.ref u4)])) t → Steps p.tables e below (s₁.setTop (entryFrame m #[(.int p0), (.long q1), (.int p2)] maxLocals)) t := by
    intro t k
    refine a5 t ?_
    show Steps p.tables e below (T4.setTop (mkF m 29 #[.val (.int p0), .val (.long q1), .second, .val (.int p2), .val (.int kk), .val (.double mm), .second, .unset, .unset, .unset] [(.ref u4)])) _
    refine XS.astore X4.here hx rfl (hb hby at_29) rfl rfl (l' := #[.val (.int p0), .val (.long q1), .second, .val (.int p2), .val (.int kk), .val (.double mm), .second, .val (.ref u4), .unset, .unset]) rfl ?_
    show Steps p.tables e below (T4.setTop (mkF m 31 #[.val (.int p0), .val (.long q1), .second, .val (.int p2), .val (.int kk), .val (.double mm), .second, .val (.ref u4), .unset, .unset] [])) _
    refine XS.aload X4.here hx rfl (hb hby at_31) rfl rfl ?_
    show Steps p.tables e below (T4.setTop (mkF m 33 #[.val (.int p0), .val (.long q1), .second, .val (.int p2), .val (.int kk), .val (.double mm), .second, .val (.ref u4), .unset, .unset] [(.ref u4)])) _
    refine XS.dload X4.here hx rfl (hb hby at_33) rfl ?_
    exact k
  obtain ⟨cq7, kq7, q7a, q7b, q7c⟩ := isOf hZ e4q XU4
  obtain ⟨_, _, ⟨T7, L7, k7, n7⟩, -, X7, ⟨Lc7, hQ7, l7, y7, z7⟩, st7⟩ := X4.virtualBack hx (y := (⟨"com/example/peptools/peptools/spectra/IonType", "mzHolding", "(D)D"⟩ : MethodName)) (z := (⟨"com/example/peptools/peptools/spectra/IonType", "mzHolding", "(D)D"⟩ : MethodName)) hown (mvT hZ (hw _ (List.mem_of_getElem? (i := 9) rfl))) (mvT hZ (hw _ (List.mem_of_getElem? (i := 10) rfl))) (notFace_of_selects (args := #[]) (mvT hZ (hw _ (List.mem_of_getElem? (i := 12) rfl)))) (mvT hZ (hw _ (List.mem_of_getElem? (i := 12) rfl))) (mvT hZ (hw _ (List.mem_of_getElem? (i := 11) rfl))) (by decide) (backOf (W := 0) (rmZ l Z a0 hw [] u4 mm (own_ch kk) (own_sh kk) h0 n0 Z0 FC4 FS4 hmm (own_shf kk) (own_ch12 kk)) hZ (hw _ (List.mem_of_getElem? (i := 13) rfl)) (hw _ (List.mem_of_getElem? (i := 7) rfl)) (by decide) (by decide)) q7a q7c (g := (mkF m 35 #[.val (.int p0), .val (.long q1), .second, .val (.int p2), .val (.int kk), .val (.double mm), .second, .val (.ref u4), .unset, .unset] [(.double mm), (.ref u4)])) rfl (by rw [hml]; rfl) (Steps.refl _) (argsL := [(.double mm)]) (rest := []) (lenOf own_pd1 rfl) rfl (by show 2 * 0 + _ ≤ _; exact Nat.le_of_eq rfl) (hb hby at_35) (fun _ _ => ⟨rfl, e4q, (by decide : 0 + 0 ≤ _), (by decide : 0 + 0 ≤ _)⟩)
  dsimp only [Pt.U, Pt.locs, Pt.cells, Pt.slots] at X7 l7 y7 z7 st7 hQ7
  subst l7 y7 z7
  obtain ⟨rfl, N7q, e7q⟩ := hQ7
  have N7 := Fr.app N4 N7q
  have a8 : ∀ t, Steps p.tables e below (T7.setTop (mkF m 38 #[.val (.int p0), .val (.long q1), .second, .val (.int p2), .val (.int kk), .val (.double mm), .second, .val (.ref u4), .unset, .unset] [(.double (FP.ddiv (FP.dadd (FP.dadd mm (own_sh kk)) (FP.dmul (FP.i2d (own_ch kk)) (4607215186990906156 : UInt64))) (FP.i2d (own_ch kk))))])) t → Steps p.tables e below (s₁.setTop (entryFrame m #[(.int p0), (.long q1), (.int p2)] maxLocals)) t := fun t k => a6 t (st7.trans k)
  have a9 : ∀ t, Steps p.tables e below (T7.setTop (mkF m 46 #[.val (.int p0), .val (.long q1), .second, .val (.int p2), .val (.int kk), .val (.double mm), .second, .val (.ref u4), .val (.double (FP.ddiv (FP.dadd (FP.dadd mm (own_sh kk)) (FP.dmul (FP.i2d (own_ch kk)) (4607215186990906156 : UInt64))) (FP.i2d (own_ch kk)))), .second] [(.double mm), (.int kk), (.double (FP.ddiv (FP.dadd (FP.dadd mm (own_sh kk)) (FP.dmul (FP.i2d (own_ch kk)) (4607215186990906156 : UInt64))) (FP.i2d (own_ch kk))))])) t → Steps p.tables e below (s₁.setTop (entryFrame m #[(.int p0), (.long q1), (.int p2)] maxLocals)) t := by
    intro t k
    refine a8 t ?_
    show Steps p.tables e below (T7.setTop (mkF m 38 #[.val (.int p0), .val (.long q1), .second, .val (.int p2), .val (.int kk), .val (.double mm), .second, .val (.ref u4), .unset, .unset] [(.double (FP.ddiv (FP.dadd (FP.dadd mm (own_sh kk)) (FP.dmul (FP.i2d (own_ch kk)) (4607215186990906156 : UInt64))) (FP.i2d (own_ch kk))))])) _
    refine XS.dstore X7.here hx rfl (hb hby at_38) rfl (l' := #[.val (.int p0), .val (.long q1), .second, .val (.int p2), .val (.int kk), .val (.double mm), .second, .val (.ref u4), .val (.double (FP.ddiv (FP.dadd (FP.dadd mm (own_sh kk)) (FP.dmul (FP.i2d (own_ch kk)) (4607215186990906156 : UInt64))) (FP.i2d (own_ch kk)))), .second]) rfl ?_
    show Steps p.tables e below (T7.setTop (mkF m 40 #[.val (.int p0), .val (.long q1), .second, .val (.int p2), .val (.int kk), .val (.double mm), .second, .val (.ref u4), .val (.double (FP.ddiv (FP.dadd (FP.dadd mm (own_sh kk)) (FP.dmul (FP.i2d (own_ch kk)) (4607215186990906156 : UInt64))) (FP.i2d (own_ch kk)))), .second] [])) _
    refine XS.dload X7.here hx rfl (hb hby at_40) rfl ?_
    show Steps p.tables e below (T7.setTop (mkF m 42 #[.val (.int p0), .val (.long q1), .second, .val (.int p2), .val (.int kk), .val (.double mm), .second, .val (.ref u4), .val (.double (FP.ddiv (FP.dadd (FP.dadd mm (own_sh kk)) (FP.dmul (FP.i2d (own_ch kk)) (4607215186990906156 : UInt64))) (FP.i2d (own_ch kk)))), .second] [(.double (FP.ddiv (FP.dadd (FP.dadd mm (own_sh kk)) (FP.dmul (FP.i2d (own_ch kk)) (4607215186990906156 : UInt64))) (FP.i2d (own_ch kk))))])) _
    refine XS.iload X7.here hx rfl (hb hby at_42) rfl ?_
    show Steps p.tables e below (T7.setTop (mkF m 44 #[.val (.int p0), .val (.long q1), .second, .val (.int p2), .val (.int kk), .val (.double mm), .second, .val (.ref u4), .val (.double (FP.ddiv (FP.dadd (FP.dadd mm (own_sh kk)) (FP.dmul (FP.i2d (own_ch kk)) (4607215186990906156 : UInt64))) (FP.i2d (own_ch kk)))), .second] [(.int kk), (.double (FP.ddiv (FP.dadd (FP.dadd mm (own_sh kk)) (FP.dmul (FP.i2d (own_ch kk)) (4607215186990906156 : UInt64))) (FP.i2d (own_ch kk))))])) _
    refine XS.dload X7.here hx rfl (hb hby at_44) rfl ?_
    exact k
  obtain ⟨_, _, ⟨T10, L10, k10, n10⟩, -, X10, ⟨Lc10, hQ10, l10, y10, z10⟩, st10⟩ := Jvm.LawKit.callS X7 hx (y := (⟨"com/example/peptools/peptools/spectra/IonTypeMzHoldingPinLaw", "expected", "(ID)D"⟩ : MethodName)) hown (mvT hZ (hw _ (List.mem_of_getElem? (i := 19) rfl))) (mvT hZ (hw _ (List.mem_of_getElem? (i := 20) rfl))) (mvT hZ (hw _ (List.mem_of_getElem? (i := 4) rfl))) (mvT hZ (hw _ (List.mem_of_getElem? (i := 21) rfl))) (by decide) (backOf (W := 2) (rmE l Z a0 hw [] kk mm h0 n0 Z0 hmm) hZ (hw _ (List.mem_of_getElem? (i := 21) rfl)) (hw _ (List.mem_of_getElem? (i := 4) rfl)) (by decide) (by decide)) (g := (mkF m 46 #[.val (.int p0), .val (.long q1), .second, .val (.int p2), .val (.int kk), .val (.double mm), .second, .val (.ref u4), .val (.double (FP.ddiv (FP.dadd (FP.dadd mm (own_sh kk)) (FP.dmul (FP.i2d (own_ch kk)) (4607215186990906156 : UInt64))) (FP.i2d (own_ch kk)))), .second] [(.double mm), (.int kk), (.double (FP.ddiv (FP.dadd (FP.dadd mm (own_sh kk)) (FP.dmul (FP.i2d (own_ch kk)) (4607215186990906156 : UInt64))) (FP.i2d (own_ch kk))))])) rfl (by rw [hml]; rfl) (argsL := [(.int kk), (.double mm)]) (rest := [(.double (FP.ddiv (FP.dadd (FP.dadd mm (own_sh kk)) (FP.dmul (FP.i2d (own_ch kk)) (4607215186990906156 : UInt64))) (FP.i2d (own_ch kk))))]) (lenOf own_pd2 rfl) rfl (by show 2 * 0 + _ ≤ _; exact Nat.le_of_eq rfl) (hb hby at_46) (fun _ _ => ⟨rfl, e7q, (by decide : 0 + 0 ≤ _), (by decide : 0 + 0 ≤ _)⟩)
  dsimp only [Pt.U, Pt.locs, Pt.cells, Pt.slots] at X10 l10 y10 z10 st10 hQ10
  subst l10 y10 z10
  obtain ⟨rfl, N10q, e10q⟩ := hQ10
  have N10 := Fr.app N7 N10q
  have a11 : ∀ t, Steps p.tables e below (T10.setTop (mkF m 49 #[.val (.int p0), .val (.long q1), .second, .val (.int p2), .val (.int kk), .val (.double mm), .second, .val (.ref u4), .val (.double (FP.ddiv (FP.dadd (FP.dadd mm (own_sh kk)) (FP.dmul (FP.i2d (own_ch kk)) (4607215186990906156 : UInt64))) (FP.i2d (own_ch kk)))), .second] [(.double (own_exp kk mm)), (.double (FP.ddiv (FP.dadd (FP.dadd mm (own_sh kk)) (FP.dmul (FP.i2d (own_ch kk)) (4607215186990906156 : UInt64))) (FP.i2d (own_ch kk))))])) t → Steps p.tables e below (s₁.setTop (entryFrame m #[(.int p0), (.long q1), (.int p2)] maxLocals)) t := fun t k => a9 t (st10 t k)
  have a12 : ∀ t, Steps p.tables e below (T10.setTop (mkF m 58 #[.val (.int p0), .val (.long q1), .second, .val (.int p2), .val (.int kk), .val (.double mm), .second, .val (.ref u4), .val (.double (FP.ddiv (FP.dadd (FP.dadd mm (own_sh kk)) (FP.dmul (FP.i2d (own_ch kk)) (4607215186990906156 : UInt64))) (FP.i2d (own_ch kk)))), .second] [(.int (1 : Int32))])) t → Steps p.tables e below (s₁.setTop (entryFrame m #[(.int p0), (.long q1), (.int p2)] maxLocals)) t := by
    intro t k
    refine a11 t ?_
    show Steps p.tables e below (T10.setTop (mkF m 49 #[.val (.int p0), .val (.long q1), .second, .val (.int p2), .val (.int kk), .val (.double mm), .second, .val (.ref u4), .val (.double (FP.ddiv (FP.dadd (FP.dadd mm (own_sh kk)) (FP.dmul (FP.i2d (own_ch kk)) (4607215186990906156 : UInt64))) (FP.i2d (own_ch kk)))), .second] [(.double (own_exp kk mm)), (.double (FP.ddiv (FP.dadd (FP.dadd mm (own_sh kk)) (FP.dmul (FP.i2d (own_ch kk)) (4607215186990906156 : UInt64))) (FP.i2d (own_ch kk))))])) _
    refine XS.dcmpS X10.here hx rfl (hb hby at_49) rfl rfl ?_
    show Steps p.tables e below (T10.setTop (mkF m 50 #[.val (.int p0), .val (.long q1), .second, .val (.int p2), .val (.int kk), .val (.double mm), .second, .val (.ref u4), .val (.double (FP.ddiv (FP.dadd (FP.dadd mm (own_sh kk)) (FP.dmul (FP.i2d (own_ch kk)) (4607215186990906156 : UInt64))) (FP.i2d (own_ch kk)))), .second] [(.int (cmpValue (FP.dcmp (FP.ddiv (FP.dadd (FP.dadd mm (own_sh kk)) (FP.dmul (FP.i2d (own_ch kk)) (4607215186990906156 : UInt64))) (FP.i2d (own_ch kk))) (own_exp kk mm)) .l))])) _
    refine XS.ifNo X10.here hx rfl (hb hby at_50) rfl ((if0 _ _).trans (teq (own_fin hmm kk)).2) ?_
    show Steps p.tables e below (T10.setTop (mkF m 53 #[.val (.int p0), .val (.long q1), .second, .val (.int p2), .val (.int kk), .val (.double mm), .second, .val (.ref u4), .val (.double (FP.ddiv (FP.dadd (FP.dadd mm (own_sh kk)) (FP.dmul (FP.i2d (own_ch kk)) (4607215186990906156 : UInt64))) (FP.i2d (own_ch kk)))), .second] [])) _
    refine XS.iconst X10.here hx rfl (hb hby at_53) ?_
    show Steps p.tables e below (T10.setTop (mkF m 54 #[.val (.int p0), .val (.long q1), .second, .val (.int p2), .val (.int kk), .val (.double mm), .second, .val (.ref u4), .val (.double (FP.ddiv (FP.dadd (FP.dadd mm (own_sh kk)) (FP.dmul (FP.i2d (own_ch kk)) (4607215186990906156 : UInt64))) (FP.i2d (own_ch kk)))), .second] [(.int (1 : Int32))])) _
    refine XS.goto X10.here hx rfl (pc0 := 54) (pc' := 58) rfl (hb hby at_54) (by decide) (by decide) ?_
    exact k
  obtain ⟨fs, hr, hrun, hended, hW, hsame⟩ := X10.leave (v := some (.int (1 : Int32))) (fun h => by rw [Bd.returns] at h; cases h)
  refine ⟨_, _, a12 _ ?_, hrun, hended, _, _, rfl, ?_, ⟨_, rfl⟩, hW, hsame.mono (by decide) (by decide)⟩
  · show Steps p.tables e below (T10.setTop (mkF m 58 #[.val (.int p0), .val (.long q1), .second, .val (.int p2), .val (.int kk), .val (.double mm), .second, .val (.ref u4), .val (.double (FP.ddiv (FP.dadd (FP.dadd mm (own_sh kk)) (FP.dmul (FP.i2d (own_ch kk)) (4607215186990906156 : UInt64))) (FP.i2d (own_ch kk)))), .second] [(.int (1 : Int32))])) _
    exact retN X10 hx (t := .boolean) Bd.returns (by simp) (hb hby at_58) hr
  · show Q0 Z p0 q1 p2 w_B w_Y w_A w_Y_LESS_WATER w_Y_LESS_AMMONIA w_B_DOUBLY_CHARGED w_Y_DOUBLY_CHARGED w_B_LESS_WATER w_B_LESS_AMMONIA h0 n0 _ T10.heap _
    rw [e10q]
    exact ⟨rfl, N10⟩
set_option maxRecDepth 65536 in
set_option maxHeartbeats 40000000 in
theorem comes_1 {Post : Tables → Env → Array Value → State → Outcome → State → Prop} (hpost : ∀ tb e args s v u, (limb_1_1.after args s (.returned v) u = true ∧ limb_1_2.after args s (.returned v) u = true ∧ True) → FrameEnd s (.returned v) u (Jvm.fieldLocs frame_1_writes args s ++ Jvm.arrayLocs frame_1_arrays args s ++ Jvm.staticLocs frame_1_statics s) 0 0 → Post tb e args s (.returned v) u) :
    ArmFor flags0 classFile x code maxLocals ret World_1 tables_1 room_1 Calls_1 rest_1 Pre_1 Post := by
  intro l hfl _ _ p e ha hc hk s m args below hf hA hF happ hP
  obtain ⟨hcalls, hrest, hpre⟩ := hP
  obtain ⟨-, -, -, hnamed, -, -, -, hat⟩ := (Spec.applies_iff hf).mp happ
  obtain ⟨hg, hn⟩ := and_e (Cond.before_iff.mp (show (Jvm.Cond.and given_1 narrow_1).before args s = true from hpre))
  obtain ⟨g1, g2⟩ := and_e hg
  obtain ⟨g3, g4⟩ := and_e g2
  obtain ⟨g5, g6⟩ := and_e g4
  obtain ⟨g7, g8⟩ := and_e hn
  obtain ⟨g9, g10⟩ := and_e g8
  obtain ⟨g11, g12⟩ := and_e g10
  obtain ⟨g13, g14⟩ := and_e g12
  obtain ⟨g15, g16⟩ := and_e g14
  obtain ⟨g17, g18⟩ := and_e g16
  obtain ⟨g19, g20⟩ := and_e g18
  obtain ⟨g21, g22⟩ := and_e g20
  obtain ⟨g23, g24⟩ := and_e g22
  obtain ⟨g25, g26⟩ := and_e g24
  obtain ⟨g27, g28⟩ := and_e g26
  obtain ⟨g29, g30⟩ := and_e g28
  obtain ⟨g31, g32⟩ := and_e g30
  obtain ⟨g33, g34⟩ := and_e g32
  obtain ⟨g35, g36⟩ := and_e g34
  obtain ⟨g37, g38⟩ := and_e g36
  obtain ⟨g39, g40⟩ := and_e g38
  obtain ⟨g41, g42⟩ := and_e g40
  obtain ⟨g43, g44⟩ := and_e g42
  obtain ⟨g45, g46⟩ := and_e g44
  obtain ⟨g47, g48⟩ := and_e g46
  obtain ⟨g49, g50⟩ := and_e g48
  obtain ⟨g51, g52⟩ := and_e g50
  obtain ⟨g53, g54⟩ := and_e g52
  obtain ⟨g55, g56⟩ := and_e g54
  obtain ⟨g57, g58⟩ := and_e g56
  obtain ⟨w0, w1, w2, rfl⟩ : ∃ w0 w1 w2 : Value, args = #[w0, w1, w2] := by
    have hs : args.size = 3 := by simpa [Cond.value, given_1] using g1
    obtain ⟨L⟩ := args
    match L, hs with
    | [w0, w1, w2], _ => exact ⟨w0, w1, w2, rfl⟩
  have hw := fun d (hd : d ∈ tables_1) => atoms_spec (ws := Jvm.Cond.code x code maxLocals ret :: tables_1) hat d (List.mem_cons_of_mem _ hd)
  have hfit : Fit s := fun {y c} hc i hi => by
    obtain ⟨ha, rfl⟩ := Array.getElem?_eq_some_iff.mp hc
    have q := List.all_eq_true.mp ((Array.all_eq_true_iff_forall_mem.mp hF) _ (Array.getElem_mem ha)) i (List.mem_range.mpr hi)
    simpa [Array.getElem?_eq_getElem hi] using q
  obtain ⟨i0, ei0⟩ := is_v g3
  obtain rfl : w0 = (.int i0) := Option.some.inj ei0
  obtain ⟨i1, ei1⟩ := isL_v g5
  obtain rfl : w1 = (.long i1) := Option.some.inj ei1
  obtain ⟨i2, ei2⟩ := is_v g6
  obtain rfl : w2 = (.int i2) := Option.some.inj ei2
  obtain ⟨w_B, ev_B⟩ := exa_v g7
  have S_B := Sta.start ev_B (Or.inr ⟨(hw _ (List.mem_of_getElem? (i := 7) rfl)), (hw _ (List.mem_of_getElem? (i := 8) rfl))⟩)
  have X_B := Exa.start ev_B g7
  have F_B_neutralShift := eqF_dbl (b := 0) ev_B g9 (by decide)
  have F_B_charge := eqF_int ev_B g11
  obtain ⟨w_Y_LESS_WATER, ev_Y_LESS_WATER⟩ := exa_v g13
  have S_Y_LESS_WATER := Sta.start ev_Y_LESS_WATER (Or.inr ⟨(hw _ (List.mem_of_getElem? (i := 7) rfl)), (hw _ (List.mem_of_getElem? (i := 24) rfl))⟩)
  have X_Y_LESS_WATER := Exa.start ev_Y_LESS_WATER g13
  have F_Y_LESS_WATER_neutralShift := eqF_dbl (b := 0) ev_Y_LESS_WATER g15 (by decide)
  have F_Y_LESS_WATER_charge := eqF_int ev_Y_LESS_WATER g17
  obtain ⟨w_B_LESS_WATER, ev_B_LESS_WATER⟩ := exa_v g19
  have S_B_LESS_WATER := Sta.start ev_B_LESS_WATER (Or.inr ⟨(hw _ (List.mem_of_getElem? (i := 7) rfl)), (hw _ (List.mem_of_getElem? (i := 26) rfl))⟩)
  have X_B_LESS_WATER := Exa.start ev_B_LESS_WATER g19
  have F_B_LESS_WATER_neutralShift := eqF_dbl (b := 13849134777900825460) ev_B_LESS_WATER g21 (by decide)
  have F_B_LESS_WATER_charge := eqF_int ev_B_LESS_WATER g23
  obtain ⟨w_Y, ev_Y⟩ := exa_v g25
  have S_Y := Sta.start ev_Y (Or.inr ⟨(hw _ (List.mem_of_getElem? (i := 7) rfl)), (hw _ (List.mem_of_getElem? (i := 29) rfl))⟩)
  have X_Y := Exa.start ev_Y g25
  have F_Y_neutralShift := eqF_dbl (b := 4625762741046049652) ev_Y g27 (by decide)
  have F_Y_charge := eqF_int ev_Y g29
  obtain ⟨w_Y_DOUBLY_CHARGED, ev_Y_DOUBLY_CHARGED⟩ := exa_v g31
  have S_Y_DOUBLY_CHARGED := Sta.start ev_Y_DOUBLY_CHARGED (Or.inr ⟨(hw _ (List.mem_of_getElem? (i := 7) rfl)), (hw _ (List.mem_of_getElem? (i := 31) rfl))⟩)
  have X_Y_DOUBLY_CHARGED := Exa.start ev_Y_DOUBLY_CHARGED g31
  have F_Y_DOUBLY_CHARGED_neutralShift := eqF_dbl (b := 4625762741046049652) ev_Y_DOUBLY_CHARGED g33 (by decide)
  have F_Y_DOUBLY_CHARGED_charge := eqF_int ev_Y_DOUBLY_CHARGED g35
  obtain ⟨w_A, ev_A⟩ := exa_v g37
  have S_A := Sta.start ev_A (Or.inr ⟨(hw _ (List.mem_of_getElem? (i := 7) rfl)), (hw _ (List.mem_of_getElem? (i := 34) rfl))⟩)
  have X_A := Exa.start ev_A g37
  have F_A_neutralShift := eqF_dbl (b := 13851945122584546498) ev_A g39 (by decide)
  have F_A_charge := eqF_int ev_A g41
  obtain ⟨w_B_LESS_AMMONIA, ev_B_LESS_AMMONIA⟩ := exa_v g43
  have S_B_LESS_AMMONIA := Sta.start ev_B_LESS_AMMONIA (Or.inr ⟨(hw _ (List.mem_of_getElem? (i := 7) rfl)), (hw _ (List.mem_of_getElem? (i := 37) rfl))⟩)
  have X_B_LESS_AMMONIA := Exa.start ev_B_LESS_AMMONIA g43
  have F_B_LESS_AMMONIA_neutralShift := eqF_dbl (b := 13848857802020142547) ev_B_LESS_AMMONIA g45 (by decide)
  have F_B_LESS_AMMONIA_charge := eqF_int ev_B_LESS_AMMONIA g47
  obtain ⟨w_B_DOUBLY_CHARGED, ev_B_DOUBLY_CHARGED⟩ := exa_v g49
  have S_B_DOUBLY_CHARGED := Sta.start ev_B_DOUBLY_CHARGED (Or.inr ⟨(hw _ (List.mem_of_getElem? (i := 7) rfl)), (hw _ (List.mem_of_getElem? (i := 40) rfl))⟩)
  have X_B_DOUBLY_CHARGED := Exa.start ev_B_DOUBLY_CHARGED g49
  have F_B_DOUBLY_CHARGED_neutralShift := eqF_dbl (b := 0) ev_B_DOUBLY_CHARGED g51 (by decide)
  have F_B_DOUBLY_CHARGED_charge := eqF_int ev_B_DOUBLY_CHARGED g53
  obtain ⟨w_Y_LESS_AMMONIA, ev_Y_LESS_AMMONIA⟩ := exa_v g55
  have S_Y_LESS_AMMONIA := Sta.start ev_Y_LESS_AMMONIA (Or.inr ⟨(hw _ (List.mem_of_getElem? (i := 7) rfl)), (hw _ (List.mem_of_getElem? (i := 42) rfl))⟩)
  have X_Y_LESS_AMMONIA := Exa.start ev_Y_LESS_AMMONIA g55
  have F_Y_LESS_AMMONIA_neutralShift := eqF_dbl (b := 4607038447727129632) ev_Y_LESS_AMMONIA g57 (by decide)
  have F_Y_LESS_AMMONIA_charge := eqF_int ev_Y_LESS_AMMONIA g58
  obtain ⟨n, o, h1, h2, h3, _, L, rfl, ⟨rfl, N⟩, hq⟩ := rm0 l s _ hw tables_1 i0 i1 i2 w_B w_Y w_A w_Y_LESS_WATER w_Y_LESS_AMMONIA w_B_DOUBLY_CHARGED w_Y_DOUBLY_CHARGED w_B_LESS_WATER w_B_LESS_AMMONIA s.heap s.heap.size (Nat.le_refl _) S_B X_B F_B_charge F_B_neutralShift S_Y X_Y F_Y_charge F_Y_neutralShift S_A X_A F_A_charge F_A_neutralShift S_Y_LESS_WATER X_Y_LESS_WATER F_Y_LESS_WATER_charge F_Y_LESS_WATER_neutralShift S_Y_LESS_AMMONIA X_Y_LESS_AMMONIA F_Y_LESS_AMMONIA_charge F_Y_LESS_AMMONIA_neutralShift S_B_DOUBLY_CHARGED X_B_DOUBLY_CHARGED F_B_DOUBLY_CHARGED_charge F_B_DOUBLY_CHARGED_neutralShift S_Y_DOUBLY_CHARGED X_Y_DOUBLY_CHARGED F_Y_DOUBLY_CHARGED_charge F_Y_DOUBLY_CHARGED_neutralShift S_B_LESS_WATER X_B_LESS_WATER F_B_LESS_WATER_charge F_B_LESS_WATER_neutralShift S_B_LESS_AMMONIA X_B_LESS_AMMONIA F_B_LESS_AMMONIA_charge F_B_LESS_AMMONIA_neutralShift p e ha hc hk s m _ below hf ((Spec.applies_iff_loose hf).mp happ).1 ⟨rfl, State.Warmed39.refl s, rfl⟩ trivial
  refine ⟨n, _, h1, h2, h3, hpost _ _ _ _ _ _ ⟨Cond.after_iff.mpr rfl, Cond.after_iff.mpr (eq_i res_at (Term.int_eval (1)) rfl), trivial⟩ ⟨hq.1, hq.2.1, (hq.2.2.sift fun y hy => Or.inr (N y hy)).mono (by decide) (by decide)⟩⟩
theorem main_1_1 : Claimed_1_1 := comes_1 fun _ _ _ _ _ _ h hF => ⟨h.1, hF⟩
theorem main_1_2 : Claimed_1_2 := comes_1 fun _ _ _ _ _ _ h hF => ⟨h.2.1, hF⟩
end Jvm.Pilot.@@N@@
namespace Jvm.Pilot.@@N@@
open Jvm Jvm.ClassFile Sem Op Lib Jvm.Free Jvm.Stand Jvm.Pilot.@@N@@.Jvm.D
/-! MADE BY PROGRAM (witnessworld.py) out of the Statement's table words and the real class files: 12 classes; the members and pool entries that the words name. The judged class is class 1, her method 1. -/
namespace start1
open Jvm.ClassFile
def u (s : String) : CpInfo := .utf8 (stringToUtf16 s)
/-- a pool by its gaps: so many unusable entries, then the entry; so many at the end -/
def gap : Nat → List CpInfo → List CpInfo
  | 0, r => r
  | n + 1, r => .unusable :: gap n r
def poolList (es : List (Nat × CpInfo)) (last : Nat) : List CpInfo := es.foldr (fun e r => gap e.1 (e.2 :: r)) (gap last [])
def pool (es : List (Nat × CpInfo)) (last : Nat) : Array CpInfo := ⟨poolList es last⟩
def fileOf (pool : Array CpInfo) (this : Nat) (attrs : Array Attribute := #[]) (ms : Array MethodInfo := #[]) (fl : Nat := 33) (sup : Nat := 0) (ifs : Array Nat := #[]) (fds : Array FieldInfo := #[]) : ClassFile where
  minorVersion := 0
  majorVersion := 65
  constantPool := pool
  accessFlags := fl
  thisClass := this
  superClass := sup
  interfaces := ifs
  fields := fds
  methods := ms
  attributes := attrs
def plain (name : String) (sup : Option ClassId) : Class where
  name := name
  kind := .ordinary
  loader := none
  accessFlags := 33
  super := sup
  interfaces := #[]
  cf := none
  fields := #[]
  methods := #[]
  instanceTypes := #[]
  staticTypes := #[]
  resolved := #[]
  callSites := []
  init := .initialized
  statics := none
  mirror := none

def pool0 : Array CpInfo := pool [(5, u "<init>"), (0, u "()V"), (1, .class_ 10), (1, u "java/lang/Object")] 113

def k0m0 : Method := { name := "<init>", desc := "()V", sig := { parameters := [], returnType := none }, accessFlags := 1, code := none }
/-- java/lang/Object -/
def k0 : Class := { plain "java/lang/Object" none with
  accessFlags := 33
  interfaces := #[]
  cf := some (fileOf pool0 8 #[] #[{ accessFlags := 1, nameIndex := 5, descriptorIndex := 6, attributes := #[] }] 33 0 #[] #[])
  fields := #[]
  methods := #[k0m0]
  instanceTypes := #[]
  staticTypes := #[]
  resolved := Array.replicate 124 none
  statics := none }

def pool1 : Array CpInfo := pool [(2, .class_ 4), (1, u "java/lang/Object"), (0, u "<init>"), (0, u "()V"), (0, .integer 2147483647), (0, .double 4652218415073722368), (1, .methodref 11 12), (0, .class_ 13), (0, .nameAndType 14 15), (0, u "com/example/peptools/peptools/spectra/IonTypeMzHoldingPinLaw"), (0, u "pick"), (0, u "(I)Lcom/example/peptools/peptools/spectra/IonType;"), (0, .methodref 17 18), (0, .class_ 19), (0, .nameAndType 20 21), (0, u "com/example/peptools/peptools/spectra/IonType"), (0, u "mzHolding"), (0, u "(D)D"), (0, .methodref 11 23), (0, .nameAndType 24 25), (0, u "expected"), (0, u "(ID)D"), (0, .fieldref 17 27), (0, .nameAndType 28 29), (0, u "B"), (0, u "Lcom/example/peptools/peptools/spectra/IonType;"), (0, .fieldref 17 31), (0, .nameAndType 32 29), (0, u "Y"), (0, .fieldref 17 34), (0, .nameAndType 35 29), (0, u "A"), (0, .fieldref 17 37), (0, .nameAndType 38 29), (0, u "Y_LESS_WATER"), (0, .fieldref 17 40), (0, .nameAndType 41 29), (0, u "Y_LESS_AMMONIA"), (0, .fieldref 17 43), (0, .nameAndType 44 29), (0, u "B_DOUBLY_CHARGED"), (0, .fieldref 17 46), (0, .nameAndType 47 29), (0, u "Y_DOUBLY_CHARGED"), (0, .fieldref 17 49), (0, .nameAndType 50 29), (0, u "B_LESS_WATER"), (0, .fieldref 17 52), (0, .nameAndType 53 29), (0, u "B_LESS_AMMONIA"), (2, .double 4607215186990906156), (1, .double 4625762741046049652), (1, .double 4628573085729770690), (1, .double 4607038447727129632), (1, .double 4611686018427387904), (1, .double 4625485765165366739), (3, u "law"), (0, u "(IJI)Z")] 3

def k1m0 : Method := { name := "<init>", desc := "()V", sig := { parameters := [], returnType := none }, accessFlags := 1, code := none }
def k1c1 : Code := { maxStack := 6, maxLocals := 10, code := code, exceptionTable := #[], attributes := #[] }
def k1m1 : Method := { name := "law", desc := "(IJI)Z", sig := { parameters := [.int, .long, .int], returnType := some .boolean }, accessFlags := 9, code := some k1c1 }
def k1c2 : Code := { maxStack := 2, maxLocals := 1, code := method_3_code, exceptionTable := #[], attributes := #[] }
def k1m2 : Method := { name := "pick", desc := "(I)Lcom/example/peptools/peptools/spectra/IonType;", sig := { parameters := [.int], returnType := some (.object "com/example/peptools/peptools/spectra/IonType") }, accessFlags := 10, code := some k1c2 }
def k1c3 : Code := { maxStack := 6, maxLocals := 5, code := method_4_code, exceptionTable := #[], attributes := #[] }
def k1m3 : Method := { name := "expected", desc := "(ID)D", sig := { parameters := [.int, .double], returnType := some .double }, accessFlags := 10, code := some k1c3 }
/-- com/example/peptools/peptools/spectra/IonTypeMzHoldingPinLaw -/
def k1 : Class := { plain "com/example/peptools/peptools/spectra/IonTypeMzHoldingPinLaw" (some 0) with
  accessFlags := 49
  interfaces := #[]
  cf := some (fileOf pool1 11 #[] #[{ accessFlags := 1, nameIndex := 5, descriptorIndex := 6, attributes := #[] }, { accessFlags := 9, nameIndex := 70, descriptorIndex := 71, attributes := #[] }, { accessFlags := 10, nameIndex := 14, descriptorIndex := 15, attributes := #[] }, { accessFlags := 10, nameIndex := 24, descriptorIndex := 25, attributes := #[] }] 49 2 #[] #[])
  fields := #[]
  methods := #[k1m0, k1m1, k1m2, k1m3]
  instanceTypes := #[]
  staticTypes := #[]
  resolved := Array.replicate 75 none
  statics := none }

def pool2 : Array CpInfo := pool [(1, .class_ 2), (0, u "java/lang/constant/Constable"), (0, .class_ 4), (0, u "java/lang/Object")] 6

/-- java/lang/constant/Constable -/
def k2 : Class := { plain "java/lang/constant/Constable" (some 0) with
  accessFlags := 1537
  interfaces := #[]
  cf := some (fileOf pool2 1 #[] #[] 1537 3 #[] #[])
  fields := #[]
  methods := #[]
  instanceTypes := #[]
  staticTypes := #[]
  resolved := Array.replicate 11 none
  statics := none }

def pool3 : Array CpInfo := pool [(1, .class_ 2), (0, u "java/lang/Comparable"), (0, .class_ 4), (0, u "java/lang/Object")] 7

/-- java/lang/Comparable -/
def k3 : Class := { plain "java/lang/Comparable" (some 0) with
  accessFlags := 1537
  interfaces := #[]
  cf := some (fileOf pool3 1 #[] #[] 1537 3 #[] #[])
  fields := #[]
  methods := #[]
  instanceTypes := #[]
  staticTypes := #[]
  resolved := Array.replicate 12 none
  statics := none }

def pool4 : Array CpInfo := pool [(1, .class_ 2), (0, u "java/io/Serializable"), (0, .class_ 4), (0, u "java/lang/Object")] 2

/-- java/io/Serializable -/
def k4 : Class := { plain "java/io/Serializable" (some 0) with
  accessFlags := 1537
  interfaces := #[]
  cf := some (fileOf pool4 1 #[] #[] 1537 3 #[] #[])
  fields := #[]
  methods := #[]
  instanceTypes := #[]
  staticTypes := #[]
  resolved := Array.replicate 7 none
  statics := none }

def pool5 : Array CpInfo := pool [(2, .class_ 4), (1, u "java/lang/Enum"), (0, u "name"), (0, u "Ljava/lang/String;"), (2, u "ordinal"), (0, u "I"), (1, .class_ 14), (1, u "java/lang/Object"), (4, u "hash"), (86, .class_ 108), (1, u "java/lang/Enum$EnumDesc"), (2, .class_ 112), (0, u "java/lang/constant/Constable"), (0, .class_ 114), (0, u "java/lang/Comparable"), (0, .class_ 116), (0, u "java/io/Serializable")] 87

/-- java/lang/Enum -/
def k5 : Class := { plain "java/lang/Enum" (some 0) with
  accessFlags := 1057
  interfaces := #[2, 3, 4]
  cf := some (fileOf pool5 2 #[.nestMembers #[106]] #[] 1057 12 #[111, 113, 115] #[{ accessFlags := 18, nameIndex := 5, descriptorIndex := 6, attributes := #[] }, { accessFlags := 18, nameIndex := 9, descriptorIndex := 10, attributes := #[] }, { accessFlags := 2, nameIndex := 19, descriptorIndex := 10, attributes := #[] }])
  fields := #[{ name := "name", type := (.object "java/lang/String"), accessFlags := 18, slot := 0, constantValue := 0 }, { name := "ordinal", type := .int, accessFlags := 18, slot := 1, constantValue := 0 }, { name := "hash", type := .int, accessFlags := 2, slot := 2, constantValue := 0 }]
  methods := #[]
  instanceTypes := #[(.object "java/lang/String"), .int, .int]
  staticTypes := #[]
  resolved := Array.replicate 204 none
  statics := none }

def pool6 : Array CpInfo := pool [(1, .class_ 2), (0, u "com/example/peptools/peptools/spectra/IonType"), (2, u "B"), (0, u "Lcom/example/peptools/peptools/spectra/IonType;"), (2, u "Y"), (2, u "A"), (2, u "Y_LESS_WATER"), (2, u "Y_LESS_AMMONIA"), (2, u "B_DOUBLY_CHARGED"), (2, u "Y_DOUBLY_CHARGED"), (2, u "B_LESS_WATER"), (2, u "B_LESS_AMMONIA"), (2, u "$VALUES"), (0, u "[Lcom/example/peptools/peptools/spectra/IonType;"), (6, .class_ 43), (1, u "java/lang/Enum"), (8, u "nTerminal"), (0, u "Z"), (0, .fieldref 1 55), (0, .nameAndType 56 57), (0, u "neutralShift"), (0, u "D"), (0, .fieldref 1 59), (0, .nameAndType 60 61), (0, u "charge"), (0, u "I"), (11, u "mzHolding"), (0, u "(D)D"), (2, .double 4607215186990906156)] 46

def k6c0 : Code := { maxStack := 6, maxLocals := 3, code := prog_58_method_6_code, exceptionTable := #[], attributes := #[] }
def k6m0 : Method := { name := "mzHolding", desc := "(D)D", sig := { parameters := [.double], returnType := some .double }, accessFlags := 1, code := some k6c0 }
/-- com/example/peptools/peptools/spectra/IonType -/
def k6 : Class := { plain "com/example/peptools/peptools/spectra/IonType" (some 5) with
  accessFlags := 16433
  interfaces := #[]
  cf := some (fileOf pool6 1 #[] #[{ accessFlags := 1, nameIndex := 73, descriptorIndex := 74, attributes := #[] }] 16433 41 #[] #[{ accessFlags := 16409, nameIndex := 5, descriptorIndex := 6, attributes := #[] }, { accessFlags := 16409, nameIndex := 9, descriptorIndex := 6, attributes := #[] }, { accessFlags := 16409, nameIndex := 12, descriptorIndex := 6, attributes := #[] }, { accessFlags := 16409, nameIndex := 15, descriptorIndex := 6, attributes := #[] }, { accessFlags := 16409, nameIndex := 18, descriptorIndex := 6, attributes := #[] }, { accessFlags := 16409, nameIndex := 21, descriptorIndex := 6, attributes := #[] }, { accessFlags := 16409, nameIndex := 24, descriptorIndex := 6, attributes := #[] }, { accessFlags := 16409, nameIndex := 27, descriptorIndex := 6, attributes := #[] }, { accessFlags := 16409, nameIndex := 30, descriptorIndex := 6, attributes := #[] }, { accessFlags := 18, nameIndex := 52, descriptorIndex := 53, attributes := #[] }, { accessFlags := 18, nameIndex := 56, descriptorIndex := 57, attributes := #[] }, { accessFlags := 18, nameIndex := 60, descriptorIndex := 61, attributes := #[] }, { accessFlags := 4122, nameIndex := 33, descriptorIndex := 34, attributes := #[] }])
  fields := #[{ name := "B", type := (.object "com/example/peptools/peptools/spectra/IonType"), accessFlags := 16409, slot := 0, constantValue := 0 }, { name := "Y", type := (.object "com/example/peptools/peptools/spectra/IonType"), accessFlags := 16409, slot := 1, constantValue := 0 }, { name := "A", type := (.object "com/example/peptools/peptools/spectra/IonType"), accessFlags := 16409, slot := 2, constantValue := 0 }, { name := "Y_LESS_WATER", type := (.object "com/example/peptools/peptools/spectra/IonType"), accessFlags := 16409, slot := 3, constantValue := 0 }, { name := "Y_LESS_AMMONIA", type := (.object "com/example/peptools/peptools/spectra/IonType"), accessFlags := 16409, slot := 4, constantValue := 0 }, { name := "B_DOUBLY_CHARGED", type := (.object "com/example/peptools/peptools/spectra/IonType"), accessFlags := 16409, slot := 5, constantValue := 0 }, { name := "Y_DOUBLY_CHARGED", type := (.object "com/example/peptools/peptools/spectra/IonType"), accessFlags := 16409, slot := 6, constantValue := 0 }, { name := "B_LESS_WATER", type := (.object "com/example/peptools/peptools/spectra/IonType"), accessFlags := 16409, slot := 7, constantValue := 0 }, { name := "B_LESS_AMMONIA", type := (.object "com/example/peptools/peptools/spectra/IonType"), accessFlags := 16409, slot := 8, constantValue := 0 }, { name := "nTerminal", type := .boolean, accessFlags := 18, slot := 3, constantValue := 0 }, { name := "neutralShift", type := .double, accessFlags := 18, slot := 4, constantValue := 0 }, { name := "charge", type := .int, accessFlags := 18, slot := 5, constantValue := 0 }, { name := "$VALUES", type := (.array (.object "com/example/peptools/peptools/spectra/IonType")), accessFlags := 4122, slot := 9, constantValue := 0 }]
  methods := #[k6m0]
  instanceTypes := #[(.object "java/lang/String"), .int, .int, .boolean, .double, .int]
  staticTypes := #[(.object "com/example/peptools/peptools/spectra/IonType"), (.object "com/example/peptools/peptools/spectra/IonType"), (.object "com/example/peptools/peptools/spectra/IonType"), (.object "com/example/peptools/peptools/spectra/IonType"), (.object "com/example/peptools/peptools/spectra/IonType"), (.object "com/example/peptools/peptools/spectra/IonType"), (.object "com/example/peptools/peptools/spectra/IonType"), (.object "com/example/peptools/peptools/spectra/IonType"), (.object "com/example/peptools/peptools/spectra/IonType"), (.array (.object "com/example/peptools/peptools/spectra/IonType"))]
  resolved := Array.replicate 124 none
  statics := some 0 }

def pool7 : Array CpInfo := pool [(1, u "java/lang/Cloneable"), (0, .class_ 1), (0, u "java/lang/Object"), (0, .class_ 3)] 3

/-- java/lang/Cloneable -/
def k7 : Class := { plain "java/lang/Cloneable" (some 0) with
  accessFlags := 1537
  interfaces := #[]
  cf := some (fileOf pool7 2 #[] #[] 1537 4 #[] #[])
  fields := #[]
  methods := #[]
  instanceTypes := #[]
  staticTypes := #[]
  resolved := Array.replicate 8 none
  statics := none }

/-- the primitive byte -/
def k8 : Class := { plain "byte" none with kind := .primitive 'B', accessFlags := 0x411 }
/-- [B -/
def k9 : Class := { plain "[B" (some 0) with kind := .array 8 .byte, interfaces := #[7, 4], accessFlags := 1041 }

/-- the primitive int -/
def k10 : Class := { plain "int" none with kind := .primitive 'I', accessFlags := 0x411 }
/-- [I -/
def k11 : Class := { plain "[I" (some 0) with kind := .array 10 .int, interfaces := #[7, 4], accessFlags := 1041 }

def heap : Heap := #[{ cls := 6, slots := #[.ref 1, .ref 2, .ref 3, .ref 4, .ref 5, .ref 6, .ref 7, .ref 8, .ref 9, .null], vm := .statics 6 },
  { cls := 6, slots := #[.null, .int 0, .int 0, .int 0, .double 0, .int 1], vm := .none },
  { cls := 6, slots := #[.null, .int 1, .int 0, .int 0, .double 4625762741046049652, .int 1], vm := .none },
  { cls := 6, slots := #[.null, .int 2, .int 0, .int 0, .double 13851945122584546498, .int 1], vm := .none },
  { cls := 6, slots := #[.null, .int 3, .int 0, .int 0, .double 0, .int 1], vm := .none },
  { cls := 6, slots := #[.null, .int 4, .int 0, .int 0, .double 4607038447727129632, .int 1], vm := .none },
  { cls := 6, slots := #[.null, .int 5, .int 0, .int 0, .double 0, .int 2], vm := .none },
  { cls := 6, slots := #[.null, .int 6, .int 0, .int 0, .double 4625762741046049652, .int 2], vm := .none },
  { cls := 6, slots := #[.null, .int 7, .int 0, .int 0, .double 13849134777900825460, .int 1], vm := .none },
  { cls := 6, slots := #[.null, .int 8, .int 0, .int 0, .double 13848857802020142547, .int 1], vm := .none }]
def classes : Array Class := #[k0, k1, k2, k3, k4, k5, k6, k7, k8, k9, k10, k11]
def interned : List (Array UInt16 × Addr) := []
def slotsUsed : Nat := 64
def theMethod : MethodId := ⟨1, 1⟩
def args0 : Array Value := #[.int 7, .long 5, .int 3]
def aboutOver (below : List Frame) : State where
  vm := { classes := classes, interned := interned.toArray }
  heap := heap
  slotsUsed := slotsUsed
  threads := #[{ frames := .invoking theMethod args0 :: below }]
def below0 : List Frame := [.native { method := ⟨0, 0⟩, args := #[] }]
def about1 : State := aboutOver below0
def p0 : Program := .bare "" "" ""
def e0 : Env := launch0.env 0 0 0
theorem w_frames : about1.frames = Frame.invoking theMethod args0 :: below0 := rfl
set_option maxRecDepth 65536 in
theorem w_args : argsFit about1.vm theMethod args0 = true := by decide +kernel
set_option maxRecDepth 65536 in
theorem w_heap : heapFits about1 = true := by decide +kernel
set_option maxRecDepth 65536 in
theorem w_runnable : about1.curStatus? = some .runnable := by decide +kernel
set_option maxRecDepth 65536 in
theorem w_alone : about1.alone = true := by decide +kernel
set_option maxRecDepth 65536 in
theorem w_named : about1.methodNamed? x = some theMethod := by decide +kernel
set_option maxRecDepth 65536 in
theorem w_hears : about1.hears theMethod below0 = true := by decide +kernel
set_option maxRecDepth 65536 in
theorem w_ripe : about1.ripe theMethod args0 below0 = true := by decide +kernel
theorem w_running : about1.status = .running := rfl
set_option maxRecDepth 65536 in
theorem w_room : about1.hasRoom e0.platform room_1 = true :=
  launch0.hasRoom_least _ room_1 (by decide +kernel) (by decide +kernel) (by decide +kernel) (by decide +kernel) (by decide +kernel) (by decide +kernel)
theorem allAtoms_all (ts : List Jvm.Cond) (a : Array Jvm.Value) (st : Jvm.State) : (allAtoms ts).before a st = ts.all (fun c => c.before a st) := by
  induction ts with
  | nil => rfl
  | cons c t ih =>
    show (Jvm.Cond.and c (allAtoms t)).before a st = _
    rw [Jvm.Cond.before_and, ih, List.all_cons]
def words1 : List Jvm.Cond := Jvm.Cond.code x code maxLocals ret :: tables_1
/-- a 'code' word, met by the world's own term for the bytes: nothing is compared byte by byte -/
theorem code_word {y : MethodName} {bytes : ByteArray} {mx : Nat} {rt : Option FieldType} {a : Array Value} {s : State} {m : MethodId} {meth : Method} {c : Code} (h1 : s.methodNamed? y = some m) (h2 : s.vm.method? m = some meth) (h3 : meth.code = some c) (h4 : c.code = bytes)
    (h5 : (c.maxLocals == mx && c.exceptionTable.isEmpty && decide (c.maxStack ≤ mostOperands) && decide (meth.sig.returnType = rt) && !meth.locks && decide (parseMethodDescriptor y.desc = some meth.sig)) = true) : (Jvm.Cond.code y bytes mx rt).before a s = true := by
  simp only [Bool.and_eq_true, beq_iff_eq, Bool.not_eq_true', decide_eq_true_eq] at h5
  obtain ⟨⟨⟨⟨⟨g1, g2⟩, g3⟩, g4⟩, g5⟩, g6⟩ := h5
  simp [Cond.before, Cond.holds, Cond.value, h1, h2, h3, h4, g1, g2, g3, g4, g5, g6]
def isCode : Jvm.Cond → Bool
  | .code _ _ _ _ => true
  | _ => false
theorem all_split {L : List Jvm.Cond} {P : Jvm.Cond → Bool} (h1 : L.all (fun c => isCode c || P c) = true) (h2 : ∀ c ∈ L.filter isCode, P c = true) : L.all P = true := by
  refine List.all_eq_true.mpr fun c hc => ?_
  have h := List.all_eq_true.mp h1 c hc
  rcases Bool.eq_false_or_eq_true (isCode c) with hi | hi
  · exact h2 c (List.mem_filter.mpr ⟨hc, hi⟩)
  · simpa [hi] using h
set_option maxRecDepth 65536 in
theorem w_c0 : (Jvm.Cond.code x code maxLocals ret).before args0 about1 = true := code_word (m := ⟨1, 1⟩) (meth := k1m1) (c := k1c1) (by decide +kernel) rfl rfl rfl (by decide +kernel)
set_option maxRecDepth 65536 in
theorem w_c1 : (Jvm.Cond.code ({ cls := "com/example/peptools/peptools/spectra/IonTypeMzHoldingPinLaw", name := "pick", desc := "(I)Lcom/example/peptools/peptools/spectra/IonType;" } : Jvm.MethodName) method_3_code (1 : Nat) (Option.some (Jvm.ClassFile.FieldType.object "com/example/peptools/peptools/spectra/IonType"))).before args0 about1 = true := code_word (m := ⟨1, 2⟩) (meth := k1m2) (c := k1c2) (by decide +kernel) rfl rfl rfl (by decide +kernel)
set_option maxRecDepth 65536 in
theorem w_c2 : (Jvm.Cond.code ({ cls := "com/example/peptools/peptools/spectra/IonType", name := "mzHolding", desc := "(D)D" } : Jvm.MethodName) prog_58_method_6_code (3 : Nat) (Option.some Jvm.ClassFile.FieldType.double)).before args0 about1 = true := code_word (m := ⟨6, 0⟩) (meth := k6m0) (c := k6c0) (by decide +kernel) rfl rfl rfl (by decide +kernel)
set_option maxRecDepth 65536 in
theorem w_c3 : (Jvm.Cond.code ({ cls := "com/example/peptools/peptools/spectra/IonTypeMzHoldingPinLaw", name := "expected", desc := "(ID)D" } : Jvm.MethodName) method_4_code (5 : Nat) (Option.some Jvm.ClassFile.FieldType.double)).before args0 about1 = true := code_word (m := ⟨1, 3⟩) (meth := k1m3) (c := k1c3) (by decide +kernel) rfl rfl rfl (by decide +kernel)
def codes1 : List Jvm.Cond := [Jvm.Cond.code x code maxLocals ret, Jvm.Cond.code ({ cls := "com/example/peptools/peptools/spectra/IonTypeMzHoldingPinLaw", name := "pick", desc := "(I)Lcom/example/peptools/peptools/spectra/IonType;" } : Jvm.MethodName) method_3_code (1 : Nat) (Option.some (Jvm.ClassFile.FieldType.object "com/example/peptools/peptools/spectra/IonType")), Jvm.Cond.code ({ cls := "com/example/peptools/peptools/spectra/IonType", name := "mzHolding", desc := "(D)D" } : Jvm.MethodName) prog_58_method_6_code (3 : Nat) (Option.some Jvm.ClassFile.FieldType.double), Jvm.Cond.code ({ cls := "com/example/peptools/peptools/spectra/IonTypeMzHoldingPinLaw", name := "expected", desc := "(ID)D" } : Jvm.MethodName) method_4_code (5 : Nat) (Option.some Jvm.ClassFile.FieldType.double)]
set_option maxRecDepth 65536 in
theorem codes_eq : words1.filter isCode = codes1 := rfl
theorem w_codes : ∀ c ∈ words1.filter isCode, c.before args0 about1 = true := by
  rw [codes_eq]
  intro c hc
  simp only [codes1, List.mem_cons, List.not_mem_nil, or_false] at hc
  rcases hc with rfl | rfl | rfl | rfl
  · exact w_c0
  · exact w_c1
  · exact w_c2
  · exact w_c3
set_option maxRecDepth 65536 in
theorem w_t1 : (words1.take 24).all (fun c => isCode c || c.before args0 about1) = true := by decide +kernel
set_option maxRecDepth 65536 in
theorem w_t2 : (words1.drop 24).all (fun c => isCode c || c.before args0 about1) = true := by decide +kernel
theorem w_tables : (allAtoms (Jvm.Cond.code x code maxLocals ret :: tables_1)).before args0 about1 = true := by
  rw [allAtoms_all]
  show words1.all (fun c => c.before args0 about1) = true
  refine all_split ?_ w_codes
  rw [← List.take_append_drop 24 words1, List.all_append, w_t1, w_t2]
  rfl
set_option maxRecDepth 65536 in
theorem w_case : (Jvm.Cond.and given_1 narrow_1).before args0 about1 = true := by decide +kernel
theorem w_applies : (headSpec (Jvm.Cond.code x code maxLocals ret :: tables_1) room_1).applies x e0.platform about1 = true :=
  (Spec.applies_iff w_frames).mpr ⟨w_running, w_runnable, w_alone, w_named, w_hears, w_ripe, w_room, w_tables⟩
theorem atStart : AtStart classFile x code maxLocals ret World_1 tables_1 room_1 Calls_1 rest_1 Pre_1 launch0 p0 e0 about1 theMethod args0 below0 :=
  ⟨lists_1, trivial, launch0.admits_env _ _ _, launch0.least_env, fairChoices_fair.cas, fairChoices_fair.clock, w_frames, w_args, w_heap, w_applies, trivial, trivial, w_case⟩
end start1
theorem witness_1 : WitnessClaimed_1 := ⟨start1.p0, start1.e0, start1.about1, start1.theMethod, start1.args0, start1.below0, start1.atStart⟩
end Jvm.Pilot.@@N@@
