import JvmDerived
import JvmDerived.Pilot.@@N@@Statement
import JvmDerived.Pilot.@@N@@Code
set_option linter.unusedVariables false
set_option linter.unusedSimpArgs false
namespace Jvm.OwnFP
open Jvm.FP.Core
/-! own layer over the library's laws of doubles: values in units of the least double (zval), dyadic values, rounding bounds -/
abbrev zv (a : UInt64) : Int := zval b64 (val64 a)
theorem U_pos : (0 : Int) < (one64 : Int) := by have := one64_pos; omega
theorem signed_bd (s : Bool) (m : Nat) : -(m : Int) ≤ signed s m ∧ signed s m ≤ (m : Int) := by unfold signed; split <;> omega
theorem zv_bd (a : UInt64) : -(zmag b64 (val64 a) : Int) ≤ zv a ∧ zv a ≤ (zmag b64 (val64 a) : Int) := signed_bd _ _
theorem fin_between {a V W : UInt64} (hV : DFin V) (hW : DFin W) (hn : val64 a ≠ .nan) (h1 : zv W ≤ zv a) (h2 : zv a ≤ zv V) : DFin a := by
  cases hd : val64 a with
  | nan => exact absurd hd hn
  | fin s c q => exact ⟨s, c, q, hd⟩
  | inf s =>
    exfalso
    have a1 := hV.zval_lt; have a2 := hW.zval_lt
    have b1 := zv_bd V; have b2 := zv_bd W
    have e : zv a = signed s (b64.tails * 2 ^ (b64.exps - 2)) := by show zval b64 (val64 a) = _; rw [hd]; rfl
    generalize b64.tails * 2 ^ (b64.exps - 2) = TOP at a1 a2 e
    cases s
    · have : zv a = (TOP : Int) := e
      omega
    · have : zv a = -(TOP : Int) := e
      omega
theorem qmax_b64 : b64.qmax = 971 := by decide
theorem rep_exists (n : Int) (k : Nat) (hk : k ≤ 1074) (hn : n.natAbs < 2 ^ 53) : ∃ V, DFin V ∧ zv V * 2 ^ k = n * (one64 : Int) := by
  obtain ⟨c', q', h1, h2⟩ := round_exact (f := b64) good_b64 (decide (n < 0)) (c := n.natAbs) (q := -(k : Int)) hn (by rw [qmin_b64]; omega) (by rw [qmax_b64]; omega)
  have hf := round_fits good_b64 (.fin (decide (n < 0)) n.natAbs (-(k : Int)))
  have hv := val64_of64 hf
  rw [h1] at hv
  refine ⟨of64 (round b64 (.fin (decide (n < 0)) n.natAbs (-(k : Int)))), ⟨_, _, _, by rw [h1]; exact hv⟩, ?_⟩
  show zval b64 (val64 (of64 (round b64 (.fin (decide (n < 0)) n.natAbs (-(k : Int)))))) * 2 ^ k = _
  rw [h1, hv]
  show signed (decide (n < 0)) (inUnits c' q' b64.qmin) * 2 ^ k = _
  rw [h2]
  have e1 : inUnits n.natAbs (-(k : Int)) b64.qmin * 2 ^ k = n.natAbs * one64 := by
    unfold inUnits one64
    rw [qmin_b64, Nat.mul_assoc, ← Nat.pow_add]
    congr 2 <;> omega
  have e2 : signed (decide (n < 0)) (inUnits n.natAbs (-(k : Int)) b64.qmin) * ((2 ^ k : Nat) : Int) = signed (decide (n < 0)) n.natAbs * (one64 : Int) := by
    rw [← signed_mul, e1, signed_mul]
  have e3 : signed (decide (n < 0)) n.natAbs = n := by
    unfold signed
    by_cases h : n < 0
    · simp [h]; omega
    · simp [h]; omega
  rw [e3] at e2
  rw [← e2, Int.natCast_pow]; rfl
theorem rep_up (n : Int) (j : Nat) (hj : j ≤ 971) (hn : n.natAbs < 2 ^ 53) : ∃ V, DFin V ∧ zv V = n * 2 ^ j * (one64 : Int) := by
  obtain ⟨c', q', h1, h2⟩ := round_exact (f := b64) good_b64 (decide (n < 0)) (c := n.natAbs) (q := (j : Int)) hn (by rw [qmin_b64]; omega) (by rw [qmax_b64]; omega)
  have hf := round_fits good_b64 (.fin (decide (n < 0)) n.natAbs (j : Int))
  have hv := val64_of64 hf
  rw [h1] at hv
  refine ⟨of64 (round b64 (.fin (decide (n < 0)) n.natAbs (j : Int))), ⟨_, _, _, by rw [h1]; exact hv⟩, ?_⟩
  show zval b64 (val64 (of64 (round b64 (.fin (decide (n < 0)) n.natAbs (j : Int))))) = _
  rw [h1, hv]
  show signed (decide (n < 0)) (inUnits c' q' b64.qmin) = _
  rw [h2]
  have e1 : inUnits n.natAbs (j : Int) b64.qmin = n.natAbs * (2 ^ j * one64) := by
    unfold inUnits one64
    rw [qmin_b64, ← Nat.pow_add]
    congr 2 <;> omega
  have e3 : signed (decide (n < 0)) n.natAbs = n := by
    unfold signed
    by_cases h : n < 0
    · simp [h]; omega
    · simp [h]; omega
  rw [e1, signed_mul, e3, Int.natCast_mul, Int.natCast_pow, Int.mul_assoc]; rfl
/-- the double is finite and worth n / 2^k -/
def Dy (n : Int) (k : Nat) (a : UInt64) : Prop := DFin a ∧ zv a * 2 ^ k = n * (one64 : Int)
theorem two_pos (k : Nat) : (0 : Int) < 2 ^ k := Int.pow_pos (by decide)
theorem Dy.fin {n : Int} {k : Nat} {a : UInt64} (h : Dy n k a) : DFin a := h.1
theorem Dy.nn {n : Int} {k : Nat} {a : UInt64} (h : Dy n k a) : val64 a ≠ .nan := h.1.ne_nan
theorem dint_fin {i : Int} {a : UInt64} (h : DInt i a) : DFin a := by
  unfold DInt at h
  cases hd : val64 a with
  | nan => rw [hd] at h; exact h.elim
  | inf s => rw [hd] at h; exact h.elim
  | fin s c q => exact ⟨s, c, q, hd⟩
theorem Dy.of_int {i : Int} {a : UInt64} (h : DInt i a) : Dy i 0 a := ⟨dint_fin h, by rw [show zv a = i * (one64 : Int) from DInt_zval h]; simp⟩
theorem dy_i2d (a : Int32) : Dy a.toInt 0 (i2d a) := Dy.of_int (i2d_int a)
theorem dy_l2d {a : Int64} (h : a.toInt.natAbs ≤ 2 ^ 53) : Dy a.toInt 0 (l2d a) := Dy.of_int (l2d_int h)
theorem dy_zero : Dy 0 0 0 := ⟨⟨_, _, _, val64_zero⟩, by rw [show zv 0 = 0 from zval64_zero]; simp⟩
theorem dy_one : Dy 1 0 4607182418800017408 := Dy.of_int dint_one
theorem Dy.up {n : Int} {k : Nat} {a : UInt64} (h : Dy n k a) (j : Nat) : Dy (n * 2 ^ j) (k + j) a := ⟨h.1, by rw [Int.pow_add, ← Int.mul_assoc, h.2]; (generalize one64 = U; ac_rfl)⟩
theorem cancel {x y : Int} {k : Nat} (h : x * 2 ^ k = y * 2 ^ k) : x = y := Int.eq_of_mul_eq_mul_right (Int.ne_of_gt (two_pos k)) h
theorem Dy.eq {n : Int} {k : Nat} {a b : UInt64} (ha : Dy n k a) (hb : Dy n k b) : zv a = zv b := cancel (ha.2.trans hb.2.symm)
theorem val_dneg (a : UInt64) (h : val64 a ≠ .nan) : val64 (Jvm.FP.dneg a) = negate (val64 a) := by
  refine val64_neg_bits ?_
  have hx : (Jvm.FP.dneg a).toNat = a.toNat ^^^ 2 ^ 63 := by
    show (a ^^^ 0x8000000000000000).toNat = _
    rw [UInt64.toNat_xor]; rfl
  have hlt := a.toNat_lt
  by_cases hb : a.toNat < 2 ^ 63
  · right
    rw [hx, Nat.xor_comm]
    have := Nat.two_pow_add_eq_or_of_lt hb 1
    have e2 : (2 ^ 63 ^^^ a.toNat) = 2 ^ 63 + a.toNat := by
      rw [Nat.mul_one] at this
      rw [this]
      apply Nat.eq_of_testBit_eq; intro i
      simp only [Nat.testBit_xor, Nat.testBit_or, Nat.testBit_two_pow]
      by_cases q : 63 = i
      · subst q; simp [Nat.testBit_lt_two_pow hb]
      · simp [q]
    omega
  · left
    have hb' : a.toNat - 2 ^ 63 < 2 ^ 63 := by omega
    have := Nat.two_pow_add_eq_or_of_lt hb' 1
    rw [Nat.mul_one] at this
    have e0 : a.toNat = 2 ^ 63 ||| (a.toNat - 2 ^ 63) := by omega
    have e2 : a.toNat ^^^ 2 ^ 63 = a.toNat - 2 ^ 63 := by
      apply Nat.eq_of_testBit_eq; intro i
      rw [Nat.testBit_xor, Nat.testBit_two_pow]
      have t := congrArg (fun z => z.testBit i) e0
      simp only [Nat.testBit_or, Nat.testBit_two_pow] at t
      rw [t]
      by_cases q : 63 = i
      · subst q; simp [Nat.testBit_lt_two_pow hb']
      · simp [q]
    omega
theorem dneg_fin {a : UInt64} (h : DFin a) : DFin (Jvm.FP.dneg a) := by
  obtain ⟨s, c, q, e⟩ := h
  exact ⟨!s, c, q, by rw [val_dneg a (by rw [e]; exact nofun), e]; rfl⟩
theorem dneg_zv {a : UInt64} (h : val64 a ≠ .nan) : zv (Jvm.FP.dneg a) = -zv a := by
  show zval b64 (val64 (Jvm.FP.dneg a)) = _
  rw [val_dneg a h, zval_negate]
theorem dy_neg {n : Int} {k : Nat} {a : UInt64} (h : Dy n k a) : Dy (-n) k (Jvm.FP.dneg a) := ⟨dneg_fin h.1, by rw [dneg_zv h.nn, Int.neg_mul, h.2, Int.neg_mul]⟩
theorem cneg_fin {a : UInt64} (h : DFin a) : DFin (dneg a) := by
  obtain ⟨s, c, q, e⟩ := h
  exact ⟨!s, c, q, by rw [val64_dneg, e]; rfl⟩
theorem cneg_zv (a : UInt64) : zv (dneg a) = -zv a := by
  show zval b64 (val64 (dneg a)) = _
  rw [val64_dneg, zval_negate]
-- sums
theorem add_nn {a b : UInt64} (ha : DFin a) (hb : DFin b) : val64 (dadd a b) ≠ .nan := (notNaN_iff _).mp (dadd_out ha.notNaN hb)
theorem add_le {a b V : UInt64} (ha : DFin a) (hb : DFin b) (hV : val64 V ≠ .nan) (h : zv a + zv b ≤ zv V) : zv (dadd a b) ≤ zv V := by
  show zval b64 (val64 (dadd a b)) ≤ _
  rw [val64_dadd]
  exact sum_le good_b64 ha hb (val64_fits a) (val64_fits b) (val64_fits V) hV h
theorem add_ge {a b V : UInt64} (ha : DFin a) (hb : DFin b) (hV : val64 V ≠ .nan) (h : zv V ≤ zv a + zv b) : zv V ≤ zv (dadd a b) := by
  show _ ≤ zval b64 (val64 (dadd a b))
  rw [val64_dadd]
  exact sum_ge good_b64 ha hb (val64_fits a) (val64_fits b) (val64_fits V) hV h
theorem add_exact {a b V : UInt64} (ha : DFin a) (hb : DFin b) (hV : DFin V) (h : zv a + zv b = zv V) : DFin (dadd a b) ∧ zv (dadd a b) = zv V := by
  have h1 := add_le ha hb hV.ne_nan (Int.le_of_eq h)
  have h2 := add_ge ha hb hV.ne_nan (Int.le_of_eq h.symm)
  exact ⟨fin_between hV hV (add_nn ha hb) h2 h1, Int.le_antisymm h1 h2⟩
theorem dy_add {n m : Int} {k : Nat} {a b : UInt64} (ha : Dy n k a) (hb : Dy m k b) (hk : k ≤ 1074) (h : (n + m).natAbs < 2 ^ 53) : Dy (n + m) k (dadd a b) := by
  obtain ⟨V, hV, e⟩ := rep_exists (n + m) k hk h
  have q : zv a + zv b = zv V := cancel (k := k) (by rw [Int.add_mul, ha.2, hb.2, e, Int.add_mul])
  obtain ⟨h1, h2⟩ := add_exact ha.1 hb.1 hV q
  exact ⟨h1, by rw [h2]; exact e⟩
theorem dy_sub {n m : Int} {k : Nat} {a b : UInt64} (ha : Dy n k a) (hb : Dy m k b) (hk : k ≤ 1074) (h : (n - m).natAbs < 2 ^ 53) : Dy (n - m) k (dsub a b) := by
  rw [dsub_eq]
  have hb' : Dy (-m) k (dneg b) := ⟨cneg_fin hb.1, by rw [cneg_zv, Int.neg_mul, hb.2, Int.neg_mul]⟩
  have := dy_add ha hb' hk (by rw [← Int.sub_eq_add_neg]; exact h)
  rw [← Int.sub_eq_add_neg] at this; exact this
-- products
theorem mul_nn {a b : UInt64} (ha : DFin a) (hb : DFin b) : val64 (dmul a b) ≠ .nan := (notNaN_iff _).mp (dmul_out ha hb)
theorem mul_units {a b : UInt64} (ha : DFin a) (hb : DFin b) : ∃ s c q, exactProduct (val64 a) (val64 b) = .fin s c q ∧ 2 * b64.qmin ≤ q ∧ signed s (inUnits c q (2 * b64.qmin)) = zv a * zv b := by
  obtain ⟨s, c, q, ea⟩ := ha
  obtain ⟨t, d, r, eb⟩ := hb
  have fa := val64_fits a; have fb := val64_fits b
  rw [ea] at fa; rw [eb] at fb
  obtain ⟨h1, h2, h3⟩ := product_units fa fb
  refine ⟨_, _, _, by rw [ea, eb]; exact h1, h2, ?_⟩
  rw [h3, signed_xor]
  show _ = zval b64 (val64 a) * zval b64 (val64 b)
  rw [ea, eb]; rfl
theorem two_qmin : (b64.qmin - 2 * b64.qmin).toNat = (-b64.qmin).toNat := by congr 1 <;> omega
theorem mul_le {a b V : UInt64} (ha : DFin a) (hb : DFin b) (hV : val64 V ≠ .nan) (h : zv a * zv b ≤ zv V * (one64 : Int)) : zv (dmul a b) ≤ zv V := by
  obtain ⟨s, c, q, e1, e2, e3⟩ := mul_units ha hb
  show zval b64 (val64 (dmul a b)) ≤ zval b64 (val64 V)
  rw [val64_dmul, e1]
  refine zval_round_le good_b64 (val64_fits V) hV (e0 := 2 * b64.qmin) (by rw [qmin_b64]; decide) e2 ?_
  rw [e3, two_qmin, pow_qmin64]; exact h
theorem mul_ge {a b V : UInt64} (ha : DFin a) (hb : DFin b) (hV : val64 V ≠ .nan) (h : zv V * (one64 : Int) ≤ zv a * zv b) : zv V ≤ zv (dmul a b) := by
  obtain ⟨s, c, q, e1, e2, e3⟩ := mul_units ha hb
  show zval b64 (val64 V) ≤ zval b64 (val64 (dmul a b))
  rw [val64_dmul, e1]
  refine zval_round_ge good_b64 (val64_fits V) hV (e0 := 2 * b64.qmin) (by rw [qmin_b64]; decide) e2 ?_
  rw [e3, two_qmin, pow_qmin64]; exact h
theorem mul_exact {a b V : UInt64} (ha : DFin a) (hb : DFin b) (hV : DFin V) (h : zv a * zv b = zv V * (one64 : Int)) : DFin (dmul a b) ∧ zv (dmul a b) = zv V := by
  have h1 := mul_le ha hb hV.ne_nan (Int.le_of_eq h)
  have h2 := mul_ge ha hb hV.ne_nan (Int.le_of_eq h.symm)
  exact ⟨fin_between hV hV (mul_nn ha hb) h2 h1, Int.le_antisymm h1 h2⟩
theorem dy_mul {n m : Int} {k j : Nat} {a b : UInt64} (ha : Dy n k a) (hb : Dy m j b) (hk : k + j ≤ 1074) (h : (n * m).natAbs < 2 ^ 53) : Dy (n * m) (k + j) (dmul a b) := by
  obtain ⟨V, hV, e⟩ := rep_exists (n * m) (k + j) hk h
  have q : zv a * zv b = zv V * (one64 : Int) := cancel (k := k + j) (by
    have : zv a * zv b * 2 ^ (k + j) = (zv a * 2 ^ k) * (zv b * 2 ^ j) := by rw [Int.pow_add]; (generalize one64 = U; ac_rfl)
    rw [this, ha.2, hb.2, show zv V * (one64 : Int) * 2 ^ (k + j) = zv V * 2 ^ (k + j) * (one64 : Int) by (generalize one64 = U; ac_rfl), e]; (generalize one64 = U; ac_rfl))
  obtain ⟨h1, h2⟩ := mul_exact ha.1 hb.1 hV q
  exact ⟨h1, by rw [h2]; exact e⟩
-- quotients
theorem nz_of {b : UInt64} (hb : DFin b) (h : zv b ≠ 0) : ¬ DZero b := fun q => h q.zval
theorem div_nn {a b : UInt64} (ha : DFin a) (hb : DFin b) (h : zv b ≠ 0) : val64 (ddiv a b) ≠ .nan := (notNaN_iff _).mp (ddiv_out ha.notNaN hb (nz_of hb h))
theorem div_pows {q r e0 : Int} (hq : b64.qmin ≤ q) (hr : b64.qmin ≤ r) (h0 : e0 ≤ b64.qmin) (h1 : e0 ≤ q - r) :
    2 ^ (q - r - e0).toNat * 2 ^ (r - b64.qmin).toNat = 2 ^ (q - b64.qmin).toNat * one64 * 2 ^ (b64.qmin - e0).toNat := by
  unfold one64
  rw [← Nat.pow_add, ← Nat.pow_add, ← Nat.pow_add]
  rw [qmin_b64] at *
  congr 1 <;> omega
theorem div_val {a b : UInt64} {s t : Bool} {c d : Nat} {q r : Int} (ea : val64 a = .fin s c q) (eb : val64 b = .fin t d r) (hd : d ≠ 0) : val64 (ddiv a b) = roundRatio b64 (s != t) c d (q - r) := by
  rw [val64_ddiv, ea, eb]
  simp [quotient, hd]
theorem div_mag_le {a b V : UInt64} (ha : DFin a) (hb : DFin b) (hz : zmag b64 (val64 b) ≠ 0) (hV : val64 V ≠ .nan) (h : zmag b64 (val64 a) * one64 ≤ zmag b64 (val64 V) * zmag b64 (val64 b)) : zmag b64 (val64 (ddiv a b)) ≤ zmag b64 (val64 V) := by
  obtain ⟨s, c, q, ea⟩ := ha
  obtain ⟨t, d, r, eb⟩ := hb
  have fa := val64_fits a; have fb := val64_fits b
  rw [ea] at fa; rw [eb] at fb
  have za : zmag b64 (val64 a) = c * 2 ^ (q - b64.qmin).toNat := by rw [ea]; rfl
  have zb : zmag b64 (val64 b) = d * 2 ^ (r - b64.qmin).toNat := by rw [eb]; rfl
  have hd : d ≠ 0 := fun q => hz (by rw [zb, q, Nat.zero_mul])
  rw [div_val ea eb hd]
  have hp := div_pows (e0 := min b64.qmin (q - r)) fa.2.1 fb.2.1 (by omega) (by omega)
  refine zmag_roundRatio_le good_b64 (Nat.pos_of_ne_zero hd) (val64_fits V) hV (e0 := min b64.qmin (q - r)) (by omega) (by omega) ?_
  rw [za, zb] at h
  generalize zmag b64 (val64 V) = v at h ⊢
  unfold inUnits
  refine Nat.le_of_mul_le_mul_right (c := 2 ^ (r - b64.qmin).toNat) ?_ (Nat.two_pow_pos _)
  rw [Nat.mul_assoc, hp]
  have := Nat.mul_le_mul_right (2 ^ (b64.qmin - min b64.qmin (q - r)).toNat) h
  calc c * (2 ^ (q - b64.qmin).toNat * one64 * 2 ^ (b64.qmin - min b64.qmin (q - r)).toNat) = c * 2 ^ (q - b64.qmin).toNat * one64 * 2 ^ (b64.qmin - min b64.qmin (q - r)).toNat := by (generalize one64 = U; ac_rfl)
    _ ≤ _ := this
    _ = v * 2 ^ (b64.qmin - min b64.qmin (q - r)).toNat * d * 2 ^ (r - b64.qmin).toNat := by (generalize one64 = U; ac_rfl)
theorem div_mag_ge {a b V : UInt64} (ha : DFin a) (hb : DFin b) (hz : zmag b64 (val64 b) ≠ 0) (hV : val64 V ≠ .nan) (h : zmag b64 (val64 V) * zmag b64 (val64 b) ≤ zmag b64 (val64 a) * one64) : zmag b64 (val64 V) ≤ zmag b64 (val64 (ddiv a b)) := by
  obtain ⟨s, c, q, ea⟩ := ha
  obtain ⟨t, d, r, eb⟩ := hb
  have fa := val64_fits a; have fb := val64_fits b
  rw [ea] at fa; rw [eb] at fb
  have za : zmag b64 (val64 a) = c * 2 ^ (q - b64.qmin).toNat := by rw [ea]; rfl
  have zb : zmag b64 (val64 b) = d * 2 ^ (r - b64.qmin).toNat := by rw [eb]; rfl
  have hd : d ≠ 0 := fun q => hz (by rw [zb, q, Nat.zero_mul])
  rw [div_val ea eb hd]
  have hp := div_pows (e0 := min b64.qmin (q - r)) fa.2.1 fb.2.1 (by omega) (by omega)
  refine zmag_roundRatio_ge good_b64 (Nat.pos_of_ne_zero hd) (val64_fits V) (e0 := min b64.qmin (q - r)) (by omega) (by omega) ?_
  rw [za, zb] at h
  generalize zmag b64 (val64 V) = v at h ⊢
  unfold inUnits
  refine Nat.le_of_mul_le_mul_right (c := 2 ^ (r - b64.qmin).toNat) ?_ (Nat.two_pow_pos _)
  rw [Nat.mul_assoc c, hp]
  have := Nat.mul_le_mul_right (2 ^ (b64.qmin - min b64.qmin (q - r)).toNat) h
  calc v * 2 ^ (b64.qmin - min b64.qmin (q - r)).toNat * d * 2 ^ (r - b64.qmin).toNat = v * (d * 2 ^ (r - b64.qmin).toNat) * 2 ^ (b64.qmin - min b64.qmin (q - r)).toNat := by (generalize one64 = U; ac_rfl)
    _ ≤ _ := this
    _ = c * (2 ^ (q - b64.qmin).toNat * one64 * 2 ^ (b64.qmin - min b64.qmin (q - r)).toNat) := by (generalize one64 = U; ac_rfl)
theorem div_sgn {a b : UInt64} (ha : DFin a) (hb : DFin b) (hz : zmag b64 (val64 b) ≠ 0) : sgn (val64 (ddiv a b)) = (sgn (val64 a) != sgn (val64 b)) := by
  obtain ⟨s, c, q, ea⟩ := ha
  obtain ⟨t, d, r, eb⟩ := hb
  have zb : zmag b64 (val64 b) = d * 2 ^ (r - b64.qmin).toNat := by rw [eb]; rfl
  have hd : d ≠ 0 := fun q => hz (by rw [zb, q, Nat.zero_mul])
  rw [div_val ea eb hd, sgn_roundRatio, ea, eb]; rfl
theorem zv_cases (a : UInt64) : (sgn (val64 a) = false ∧ zv a = (zmag b64 (val64 a) : Int)) ∨ (sgn (val64 a) = true ∧ zv a = -(zmag b64 (val64 a) : Int)) := by
  show (_ ∧ signed _ _ = _) ∨ (_ ∧ signed _ _ = _)
  cases sgn (val64 a) <;> simp [signed]
theorem nat_mul_le {a b c d : Nat} (h : (a : Int) * (b : Int) ≤ (c : Int) * (d : Int)) : a * b ≤ c * d := by
  rw [← Int.natCast_mul, ← Int.natCast_mul] at h; exact Int.ofNat_le.mp h
theorem div_le {a b V : UInt64} (ha : DFin a) (hb : DFin b) (hp : 0 < zv b) (hV : val64 V ≠ .nan) (h : zv a * (one64 : Int) ≤ zv V * zv b) : zv (ddiv a b) ≤ zv V := by
  have ub := zv_bd b
  have hz : zmag b64 (val64 b) ≠ 0 := by omega
  have eb : sgn (val64 b) = false ∧ zv b = (zmag b64 (val64 b) : Int) := by rcases zv_cases b with q | q; exact q; omega
  have es := div_sgn ha hb hz
  rw [eb.1] at es
  have hU := U_pos
  rcases zv_cases a with ⟨sa, ea⟩ | ⟨sa, ea⟩ <;> rw [sa] at es
  · have er : zv (ddiv a b) = (zmag b64 (val64 (ddiv a b)) : Int) := by rcases zv_cases (ddiv a b) with q | q; exact q.2; rw [q.1] at es; cases es
    rcases zv_cases V with ⟨sv, ev⟩ | ⟨sv, ev⟩
    · have := div_mag_le ha hb hz hV (nat_mul_le (by rw [← ea, ← ev, ← eb.2]; exact h))
      omega
    · have h0 : 0 ≤ zv a * (one64 : Int) := Int.mul_nonneg (by omega) (by omega)
      have h1 : 0 ≤ zv V * zv b := Int.le_trans h0 h
      have h2 : zv V = 0 := by
        by_cases q : zv V < 0
        · have := Int.mul_neg_of_neg_of_pos q hp; omega
        · omega
      have h3 : zmag b64 (val64 V) = 0 := by omega
      rw [h2, Int.zero_mul] at h
      have h5 : zmag b64 (val64 a) * one64 ≤ zmag b64 (val64 V) * zmag b64 (val64 b) := nat_mul_le (by rw [← ea, h3]; simpa using h)
      have := div_mag_le ha hb hz hV h5
      omega
  · have er : zv (ddiv a b) = -(zmag b64 (val64 (ddiv a b)) : Int) := by rcases zv_cases (ddiv a b) with q | q; rw [q.1] at es; cases es; exact q.2
    rcases zv_cases V with ⟨sv, ev⟩ | ⟨sv, ev⟩
    · omega
    · have := div_mag_ge ha hb hz hV (nat_mul_le (by
        have : zv V * zv b = -((zmag b64 (val64 V) : Int) * (zmag b64 (val64 b) : Int)) := by rw [ev, eb.2, Int.neg_mul]
        have h6 : zv a * (one64 : Int) = -((zmag b64 (val64 a) : Int) * (one64 : Int)) := by rw [ea, Int.neg_mul]
        omega))
      omega
theorem div_ge {a b V : UInt64} (ha : DFin a) (hb : DFin b) (hp : 0 < zv b) (hV : val64 V ≠ .nan) (h : zv V * zv b ≤ zv a * (one64 : Int)) : zv V ≤ zv (ddiv a b) := by
  have ub := zv_bd b
  have hz : zmag b64 (val64 b) ≠ 0 := by omega
  have eb : sgn (val64 b) = false ∧ zv b = (zmag b64 (val64 b) : Int) := by rcases zv_cases b with q | q; exact q; omega
  have es := div_sgn ha hb hz
  rw [eb.1] at es
  have hU := U_pos
  rcases zv_cases a with ⟨sa, ea⟩ | ⟨sa, ea⟩ <;> rw [sa] at es
  · have er : zv (ddiv a b) = (zmag b64 (val64 (ddiv a b)) : Int) := by rcases zv_cases (ddiv a b) with q | q; exact q.2; rw [q.1] at es; cases es
    rcases zv_cases V with ⟨sv, ev⟩ | ⟨sv, ev⟩
    · have := div_mag_ge ha hb hz hV (nat_mul_le (by rw [← ea, ← ev, ← eb.2]; exact h))
      omega
    · omega
  · have er : zv (ddiv a b) = -(zmag b64 (val64 (ddiv a b)) : Int) := by rcases zv_cases (ddiv a b) with q | q; rw [q.1] at es; cases es; exact q.2
    rcases zv_cases V with ⟨sv, ev⟩ | ⟨sv, ev⟩
    · have h0 : zv a * (one64 : Int) ≤ 0 := Int.mul_nonpos_of_nonpos_of_nonneg (by omega) (by omega)
      have h1 : zv V * zv b ≤ 0 := Int.le_trans h h0
      have h2 : zv V = 0 := by
        by_cases q : 0 < zv V
        · have := Int.mul_pos q hp; omega
        · omega
      have h3 : zmag b64 (val64 V) = 0 := by omega
      rw [h2, Int.zero_mul] at h
      have h4 : (zmag b64 (val64 a) : Int) * (one64 : Int) = -(zv a * (one64 : Int)) := by rw [ea, Int.neg_mul, Int.neg_neg]
      have h5 : zmag b64 (val64 a) * one64 ≤ zmag b64 (val64 V) * zmag b64 (val64 b) := nat_mul_le (by rw [h4, h3]; simp; omega)
      have := div_mag_le ha hb hz hV h5
      omega
    · have := div_mag_le ha hb hz hV (nat_mul_le (by
        have : zv V * zv b = -((zmag b64 (val64 V) : Int) * (zmag b64 (val64 b) : Int)) := by rw [ev, eb.2, Int.neg_mul]
        have h6 : zv a * (one64 : Int) = -((zmag b64 (val64 a) : Int) * (one64 : Int)) := by rw [ea, Int.neg_mul]
        omega))
      omega
theorem Dy.pos {m : Int} {j : Nat} {b : UInt64} (hb : Dy m j b) (hm : 0 < m) : 0 < zv b := by
  have h1 : 0 < zv b * 2 ^ j := by rw [hb.2]; exact Int.mul_pos hm U_pos
  exact Int.pos_of_mul_pos_left h1 (two_pos j)
theorem div_le_dy {n m q : Int} {k j i : Nat} {a b : UInt64} (ha : Dy n k a) (hb : Dy m j b) (hm : 0 < m) (hi : i ≤ 1074) (hq : q.natAbs < 2 ^ 53) (h : n * 2 ^ j * 2 ^ i ≤ q * m * 2 ^ k) : zv (ddiv a b) * 2 ^ i ≤ q * (one64 : Int) := by
  obtain ⟨V, hV, e⟩ := rep_exists q i hi hq
  rw [← e]
  refine Int.mul_le_mul_of_nonneg_right (div_le ha.1 hb.1 (hb.pos hm) hV.ne_nan ?_) (Int.le_of_lt (two_pos i))
  have hU := U_pos
  refine Int.le_of_mul_le_mul_right (a := 2 ^ k * 2 ^ j * 2 ^ i) ?_ (Int.mul_pos (Int.mul_pos (two_pos k) (two_pos j)) (two_pos i))
  have e1 : zv a * (one64 : Int) * (2 ^ k * 2 ^ j * 2 ^ i) = n * 2 ^ j * 2 ^ i * ((one64 : Int) * (one64 : Int)) := by
    rw [show zv a * (one64 : Int) * (2 ^ k * 2 ^ j * 2 ^ i) = zv a * 2 ^ k * ((one64 : Int) * 2 ^ j * 2 ^ i) by (generalize one64 = U; ac_rfl), ha.2]; (generalize one64 = U; ac_rfl)
  have e2 : zv V * zv b * (2 ^ k * 2 ^ j * 2 ^ i) = q * m * 2 ^ k * ((one64 : Int) * (one64 : Int)) := by
    rw [show zv V * zv b * (2 ^ k * 2 ^ j * 2 ^ i) = (zv V * 2 ^ i) * (zv b * 2 ^ j) * 2 ^ k by (generalize one64 = U; ac_rfl), e, hb.2]; (generalize one64 = U; ac_rfl)
  rw [e1, e2]
  exact Int.mul_le_mul_of_nonneg_right h (Int.le_of_lt (Int.mul_pos hU hU))
theorem div_ge_dy {n m q : Int} {k j i : Nat} {a b : UInt64} (ha : Dy n k a) (hb : Dy m j b) (hm : 0 < m) (hi : i ≤ 1074) (hq : q.natAbs < 2 ^ 53) (h : q * m * 2 ^ k ≤ n * 2 ^ j * 2 ^ i) : q * (one64 : Int) ≤ zv (ddiv a b) * 2 ^ i := by
  obtain ⟨V, hV, e⟩ := rep_exists q i hi hq
  rw [← e]
  refine Int.mul_le_mul_of_nonneg_right (div_ge ha.1 hb.1 (hb.pos hm) hV.ne_nan ?_) (Int.le_of_lt (two_pos i))
  have hU := U_pos
  refine Int.le_of_mul_le_mul_right (a := 2 ^ k * 2 ^ j * 2 ^ i) ?_ (Int.mul_pos (Int.mul_pos (two_pos k) (two_pos j)) (two_pos i))
  have e1 : zv a * (one64 : Int) * (2 ^ k * 2 ^ j * 2 ^ i) = n * 2 ^ j * 2 ^ i * ((one64 : Int) * (one64 : Int)) := by
    rw [show zv a * (one64 : Int) * (2 ^ k * 2 ^ j * 2 ^ i) = zv a * 2 ^ k * ((one64 : Int) * 2 ^ j * 2 ^ i) by (generalize one64 = U; ac_rfl), ha.2]; (generalize one64 = U; ac_rfl)
  have e2 : zv V * zv b * (2 ^ k * 2 ^ j * 2 ^ i) = q * m * 2 ^ k * ((one64 : Int) * (one64 : Int)) := by
    rw [show zv V * zv b * (2 ^ k * 2 ^ j * 2 ^ i) = (zv V * 2 ^ i) * (zv b * 2 ^ j) * 2 ^ k by (generalize one64 = U; ac_rfl), e, hb.2]; (generalize one64 = U; ac_rfl)
  rw [e1, e2]
  exact Int.mul_le_mul_of_nonneg_right h (Int.le_of_lt (Int.mul_pos hU hU))
theorem dy_div {n m q : Int} {k j i : Nat} {a b : UInt64} (ha : Dy n k a) (hb : Dy m j b) (hm : 0 < m) (hi : i ≤ 1074) (hq : q.natAbs < 2 ^ 53) (h : n * 2 ^ j * 2 ^ i = q * m * 2 ^ k) : Dy q i (ddiv a b) := by
  have h1 := div_le_dy ha hb hm hi hq (Int.le_of_eq h)
  have h2 := div_ge_dy ha hb hm hi hq (Int.le_of_eq h.symm)
  have h3 := Int.le_antisymm h1 h2
  obtain ⟨V, hV, e⟩ := rep_exists q i hi hq
  have h4 : zv (ddiv a b) = zv V := cancel (h3.trans e.symm)
  exact ⟨fin_between hV hV (div_nn ha.1 hb.1 (Int.ne_of_gt (hb.pos hm))) (Int.le_of_eq h4.symm) (Int.le_of_eq h4), h3⟩
-- comparisons
theorem cmp_dy {n m : Int} {k j : Nat} {a b : UInt64} (ha : Dy n k a) (hb : Dy m j b) : Jvm.FP.dcmp a b = some (compare (n * 2 ^ j) (m * 2 ^ k)) := by
  show dcmp a b = _
  rw [dcmp_zval ha.nn hb.nn]
  congr 1
  have hU := U_pos
  have e1 : zv a * (2 ^ k * 2 ^ j) = n * 2 ^ j * (one64 : Int) := by rw [← Int.mul_assoc, ha.2]; (generalize one64 = U; ac_rfl)
  have e2 : zv b * (2 ^ k * 2 ^ j) = m * 2 ^ k * (one64 : Int) := by rw [show zv b * (2 ^ k * 2 ^ j) = zv b * 2 ^ j * 2 ^ k by (generalize one64 = U; ac_rfl), hb.2]; (generalize one64 = U; ac_rfl)
  rw [← compare_mul_pos (zv a) (zv b) (2 ^ k * 2 ^ j) (Int.mul_pos (two_pos k) (two_pos j)), e1, e2, compare_mul_pos _ _ _ hU]
theorem cmp_dy0 {n m : Int} {k : Nat} {a b : UInt64} (ha : Dy n k a) (hb : Dy m k b) : Jvm.FP.dcmp a b = some (compare n m) := by
  rw [cmp_dy ha hb, compare_mul_pos _ _ _ (two_pos k)]
theorem cmp_lt {a b : UInt64} (ha : val64 a ≠ .nan) (hb : val64 b ≠ .nan) (h : zv a < zv b) : Jvm.FP.dcmp a b = some .lt := dcmp_lt.mpr ⟨ha, hb, h⟩
theorem cmp_eq {a b : UInt64} (ha : val64 a ≠ .nan) (hb : val64 b ≠ .nan) (h : zv a = zv b) : Jvm.FP.dcmp a b = some .eq := dcmp_eq.mpr ⟨ha, hb, h⟩
theorem cmp_gt {a b : UInt64} (ha : val64 a ≠ .nan) (hb : val64 b ≠ .nan) (h : zv b < zv a) : Jvm.FP.dcmp a b = some .gt := dcmp_gt.mpr ⟨ha, hb, h⟩
open Jvm.Op in
theorem cv_lt_g (r : Option Ordering) : cmpValue r .g < 0 ↔ r = some .lt := by rcases r with _ | (_ | _ | _) <;> decide
open Jvm.Op in
theorem cv_lt_l (r : Option Ordering) : cmpValue r .l < 0 ↔ r = some .lt ∨ r = none := by rcases r with _ | (_ | _ | _) <;> decide
open Jvm.Op in
theorem cv_gt_g (r : Option Ordering) : 0 < cmpValue r .g ↔ r = some .gt ∨ r = none := by rcases r with _ | (_ | _ | _) <;> decide
open Jvm.Op in
theorem cv_gt_l (r : Option Ordering) : 0 < cmpValue r .l ↔ r = some .gt := by rcases r with _ | (_ | _ | _) <;> decide
open Jvm.Op in
theorem cv_eq (r : Option Ordering) (o : Jvm.ClassFile.CmpOp) : cmpValue r o = 0 ↔ r = some .eq := by cases o <;> rcases r with _ | (_ | _ | _) <;> decide
theorem nn64 {a : UInt64} (h : DFin a) : Jvm.Free.Fl.NoNaN64 a := Jvm.Free.Fl.val64_no.mpr h.ne_nan
theorem nnv {a : UInt64} (h : val64 a ≠ .nan) : Jvm.Free.Fl.NoNaN64 a := Jvm.Free.Fl.val64_no.mpr h
theorem nn_v {a : UInt64} (h : Jvm.Free.Fl.NoNaN64 a) : val64 a ≠ .nan := Jvm.Free.Fl.val64_no.mp h
end Jvm.OwnFP
namespace Jvm.OwnKit
open Jvm Jvm.ClassFile Sem Op Lib Jvm.Free Jvm.Stand Jvm.LawKit Jvm.RoadKit
theorem eqF_int {Z : State} {args : Array Value} {t : Term} {C n d : String} {x : Addr} {k : Int32} (ev : t.eval args Z none [] Z = some (.ref x)) (h : (Jvm.Cond.eq (Term.field t C n d) (Term.int k)).value args Z none Z [] = some true) : Fld Z Z.heap x C n d (.int k) := by
  obtain ⟨u, w, h1, h2, -, h4⟩ := cmp_v (Or.inl h)
  have e2 : (Term.int k).eval args Z none [] Z = some (.int k) := Term.int_eval k
  cases e2.symm.trans h2
  obtain ⟨z, rfl⟩ := h4
  have hz : z = k := by simpa [Cond.value, h1, e2] using h
  subst hz
  exact Fld.start (by rw [← fld_at ev]; exact h1)
theorem eqF_dbl {Z : State} {args : Array Value} {t : Term} {C n d : String} {x : Addr} {k : Int64} {b : UInt64} (ev : t.eval args Z none [] Z = some (.ref x)) (h : (Jvm.Cond.eq (Term.field t C n d) (Term.op1 Jvm.Unary.bitsD (Term.long k))).value args Z none Z [] = some true) (hb : k.toUInt64 = b) : Fld Z Z.heap x C n d (.double b) := by
  obtain ⟨u, w, h1, h2, -, h4⟩ := cmp_v (Or.inl h)
  have e2 : (Term.op1 Jvm.Unary.bitsD (Term.long k)).eval args Z none [] Z = some (.double k.toUInt64) := by simp [Term.eval, Jvm.Unary.apply]
  cases e2.symm.trans h2
  obtain ⟨z, rfl⟩ := h4
  have hz : z = k.toUInt64 := by simpa [Cond.value, h1, e2] using h
  subst hz; subst hb
  exact Fld.start (by rw [← fld_at ev]; exact h1)
theorem eqS_int {Z : State} {args : Array Value} {C n d : String} {k : Int32} (h : (Jvm.Cond.eq (Term.static C n d) (Term.int k)).value args Z none Z [] = some true) : (Term.static C n d).eval args Z none [] Z = some (.int k) := by
  obtain ⟨u, w, h1, h2, -, h4⟩ := cmp_v (Or.inl h)
  have e2 : (Term.int k).eval args Z none [] Z = some (.int k) := Term.int_eval k
  cases e2.symm.trans h2
  obtain ⟨z, rfl⟩ := h4
  have hz : z = k := by simpa [Cond.value, h1, e2] using h
  subst hz
  exact h1
theorem staKeep {Z : State} {h h' : Heap} {C n d : String} {v : Value} {ws : List Addr} (F : Sta Z h C n d v) (K : Keep h h' ws) (q : ∀ x ∈ ws, ∃ c : Cell, h[x]? = some c ∧ c.vm.isStatics = false) : Sta Z h' C n d v := by
  obtain ⟨cf, i, k, f, st, cell, h1, h2, h3, h4, h5, h6, h7⟩ := F
  refine ⟨cf, i, k, f, st, cell, h1, h2, h3, h4, K.2.1 st cell h5 fun hm => ?_, h6, h7⟩
  obtain ⟨c, e1, e2⟩ := q st hm
  cases h5.symm.trans e1
  rw [e2] at h6; cases h6
theorem exaSt {Z : State} {h : Heap} {a : Addr} {C : String} (F : Exa Z h a C) : ∃ c : Cell, h[a]? = some c ∧ c.vm.isStatics = false := by
  obtain ⟨c, _, h1, -, -, h4, -⟩ := F; exact ⟨c, h1, h4⟩
theorem arvSt {Z : State} {h : Heap} {a : Addr} {k : ClassId} {ty : FieldType} {z : Int32} {vs : List Value} {dv : Value} (F : Arv Z h a k ty z vs dv) : ∃ c : Cell, h[a]? = some c ∧ c.vm.isStatics = false := by
  obtain ⟨c, A, -⟩ := F; exact ⟨c, A.1, A.plain⟩
theorem narB0 : nar .boolean 0 = 0 := by decide
theorem narB1 : nar .boolean 1 = 1 := by decide
end Jvm.OwnKit
namespace Jvm.Pilot.@@N@@
open Jvm Jvm.ClassFile Sem Op Lib Jvm.Free Jvm.Stand Jvm.LawKit Jvm.RoadKit Bundle Jvm.OwnFP Jvm.OwnKit Jvm.Pilot.@@N@@.Jvm.D
theorem own_64 : Dy 64 0 4634204016564240384 := by
  have := dy_i2d 64
  rw [show Jvm.FP.Core.i2d 64 = 4634204016564240384 by decide +kernel] at this; exact this
theorem own_mz (a : Int32) : Dy a.toInt 6 (FP.ddiv (FP.i2d a) 4634204016564240384) := by
  have r := rng32 a
  exact dy_div (dy_i2d a) own_64 (by decide) (by decide) (by omega) (by simp only [Int.pow_zero, Int.mul_one, show (2 : Int) ^ 6 = 64 by decide])
theorem own_ci (c_ : Int32) : Jvm.FP.Core.DFin (FP.i2d c_) := (dy_i2d c_).1
theorem own_pf : Jvm.FP.Core.DFin 4607215186990906156 := (Jvm.FP.Core.fin_bits _).mpr (by decide)
theorem own_n1 (a c_ : Int32) (hc : c_ = 1 ∨ c_ = 2) : Dy (a.toInt * c_.toInt) 6 (FP.dmul (FP.ddiv (FP.i2d a) 4634204016564240384) (FP.i2d c_)) := by
  have r := rng32 a
  refine dy_mul (own_mz a) (dy_i2d c_) (by decide) ?_
  rcases hc with rfl | rfl
  · rw [show (1 : Int32).toInt = 1 by decide]; omega
  · rw [show (2 : Int32).toInt = 2 by decide]; omega
theorem own_n2 (a c_ : Int32) (hc : c_ = 1 ∨ c_ = 2) {sh : UInt64} (hs : Jvm.FP.Core.DFin sh) : Jvm.Free.Fl.NoNaN64 (FP.dsub (FP.dmul (FP.ddiv (FP.i2d a) 4634204016564240384) (FP.i2d c_)) sh) :=
  Jvm.Free.Fl.dsub_out (nn64 (own_n1 a c_ hc).1) (Jvm.Free.Fl.fin64_core.mpr hs)
theorem own_n3 (c_ : Int32) : Jvm.Free.Fl.NoNaN64 (FP.dmul (FP.i2d c_) 4607215186990906156) := nnv (mul_nn (own_ci c_) own_pf)
theorem own_cp (c_ : Int32) (hc : c_ = 1 ∨ c_ = 2) : Jvm.FP.Core.DFin (FP.dmul (FP.i2d c_) 4607215186990906156) := by
  rcases hc with rfl | rfl <;> exact (Jvm.FP.Core.fin_bits _).mpr (by decide +kernel)
theorem own_n4 (a c_ : Int32) (hc : c_ = 1 ∨ c_ = 2) {sh : UInt64} (hs : Jvm.FP.Core.DFin sh) : Jvm.Free.Fl.NoNaN64 (FP.dsub (FP.dsub (FP.dmul (FP.ddiv (FP.i2d a) 4634204016564240384) (FP.i2d c_)) sh) (FP.dmul (FP.i2d c_) 4607215186990906156)) :=
  Jvm.Free.Fl.dsub_out (own_n2 a c_ hc hs) (Jvm.Free.Fl.fin64_core.mpr (own_cp c_ hc))
theorem ef_rm1 (m : MethodId) (x0 : Addr) (x1 : UInt64) : entryFrame m #[(.ref x0), (.double x1)] 3 = mkF m 0 #[.val (.ref x0), .val (.double x1), .second] [] := by first | (simp [entryFrame, mkF, argsToLocals, Value.category]; done) | rfl
theorem d1_0 : decode prog_58_method_7_code 0 = .ok (.dload_n 1, 1) := by decide +kernel
theorem d1_1 : decode prog_58_method_7_code 1 = .ok (.aload_n 0, 1) := by decide +kernel
theorem d1_2 : decode prog_58_method_7_code 2 = .ok (.getfield 58, 3) := by decide +kernel
theorem d1_5 : decode prog_58_method_7_code 5 = .ok (.i2d, 1) := by decide +kernel
theorem d1_6 : decode prog_58_method_7_code 6 = .ok (.dmul, 1) := by decide +kernel
theorem d1_7 : decode prog_58_method_7_code 7 = .ok (.aload_n 0, 1) := by decide +kernel
theorem d1_8 : decode prog_58_method_7_code 8 = .ok (.getfield 54, 3) := by decide +kernel
theorem d1_11 : decode prog_58_method_7_code 11 = .ok (.dsub, 1) := by decide +kernel
theorem d1_12 : decode prog_58_method_7_code 12 = .ok (.aload_n 0, 1) := by decide +kernel
theorem d1_13 : decode prog_58_method_7_code 13 = .ok (.getfield 58, 3) := by decide +kernel
theorem d1_16 : decode prog_58_method_7_code 16 = .ok (.i2d, 1) := by decide +kernel
theorem d1_17 : decode prog_58_method_7_code 17 = .ok (.ldc2_w 77, 3) := by decide +kernel
theorem d1_20 : decode prog_58_method_7_code 20 = .ok (.dmul, 1) := by decide +kernel
theorem d1_21 : decode prog_58_method_7_code 21 = .ok (.dsub, 1) := by decide +kernel
theorem d1_22 : decode prog_58_method_7_code 22 = .ok (.dreturn, 1) := by decide +kernel
theorem own_pn_com_example_peptools_peptools_spectra_IonType : plainName "com/example/peptools/peptools/spectra/IonType" = true := by first | (simp [plainName, overriddenIn]; done) | decide +kernel
def Q1 (Z : State) (a0_ : Addr) (d1 : UInt64) (ch : Int32) (sh : UInt64) (h0 : Heap) (n0 : Nat) (v : Option Value) (h : Heap) (L : List Loc) : Prop := v = some (.double (FP.dsub (FP.dsub (FP.dmul d1 (FP.i2d ch)) sh) (FP.dmul (FP.i2d ch) (4607215186990906156 : UInt64)))) ∧ Fr n0 L ∧ h = h0
set_option maxRecDepth 65536 in
set_option maxHeartbeats 40000000 in
theorem rm1 (l : Launch) (Z : State) (a0 : Array Value) (hw : ∀ d ∈ tables_1, d.before a0 Z = true) (ws : List Jvm.Cond) (a0_ : Addr) (d1 : UInt64) (ch : Int32) (sh : UInt64) (h0 : Heap) (n0 : Nat) (Z0 : n0 ≤ h0.size) (F1 : Fld Z h0 a0_ "com/example/peptools/peptools/spectra/IonType" "charge" "I" (.int ch)) (F2 : Fld Z h0 a0_ "com/example/peptools/peptools/spectra/IonType" "neutralShift" "D" (.double sh)) (n1 : Jvm.Free.Fl.NoNaN64 (FP.dmul d1 (FP.i2d ch))) (n2 : Jvm.Free.Fl.NoNaN64 (FP.dsub (FP.dmul d1 (FP.i2d ch)) sh)) (n3 : Jvm.Free.Fl.NoNaN64 (FP.dmul (FP.i2d ch) (4607215186990906156 : UInt64))) (n4 : Jvm.Free.Fl.NoNaN64 (FP.dsub (FP.dsub (FP.dmul d1 (FP.i2d ch)) sh) (FP.dmul (FP.i2d ch) (4607215186990906156 : UInt64)))) :
    MetFree l (⟨"com/example/peptools/peptools/spectra/IonType", "residueMassAt", "(D)D"⟩ : MethodName) (head1 (Jvm.Cond.code (⟨"com/example/peptools/peptools/spectra/IonType", "residueMassAt", "(D)D"⟩ : MethodName) prog_58_method_7_code 3 (some .double) :: ws) ({ frames := 0, cells := 0, slots := 0, locals := 0 } : Room)) (fun a U => a = #[(.ref a0_), (.double d1)] ∧ Z.Warmed39 U.vm ∧ U.heap = h0) (fun _ _ _ _ _ => True) (fun _ U o U' => ∃ v L, o = .returned v ∧ Q1 Z a0_ d1 ch sh h0 n0 v U'.heap L ∧ FrameEnd U o U' L ({ frames := 0, cells := 0, slots := 0, locals := 0 } : Room).cells ({ frames := 0, cells := 0, slots := 0, locals := 0 } : Room).slots) := by
  refine MetFree.of_bodySF (plainFor_of_name own_pn_com_example_peptools_peptools_spectra_IonType) hisR ?_
  intro p e s m args below meth c s₁ Bd hml0 hP hK
  obtain ⟨rfl, hZ, hh⟩ := hP
  have hx := Bd.exec
  have hby := Bd.bytes
  have hml : c.maxLocals = 3 := hml0
  have hown : s.vm.findClass "com/example/peptools/peptools/spectra/IonType" = some m.cls := findClass_of_methodNamed Bd.named
  have hnm := (name_of_methodNamed Bd.named Bd.method).1
  have X0 : Stand p l e ({ frames := 0, cells := 0, slots := 0, locals := 0 } : Room) s m #[(.ref a0_), (.double d1)] below meth c s₁ [] 0 0 := Stand.of_body Bd
  have e0 : s₁.heap = h0 := by rw [← hh, Bd.state]; rfl
  have N0 := Fr.nil n0
  have pre0 : ∀ t, Steps p.tables e below (s₁.setTop (mkF m 0 #[.val (.ref a0_), .val (.double d1), .second] [])) t → Steps p.tables e below (s₁.setTop (entryFrame m #[(.ref a0_), (.double d1)] 3)) t := fun t k => castTop (ef_rm1 m a0_ d1) k
  have a1 : ∀ t, Steps p.tables e below (s₁.setTop (mkF m 2 #[.val (.ref a0_), .val (.double d1), .second] [(.ref a0_), (.double d1)])) t → Steps p.tables e below (s₁.setTop (entryFrame m #[(.ref a0_), (.double d1)] 3)) t := by
    intro t k
    refine pre0 t ?_
    show Steps p.tables e below (s₁.setTop (mkF m 0 #[.val (.ref a0_), .val (.double d1), .second] [])) _
    refine XS.dloadN X0.here hx rfl (hb hby d1_0) rfl ?_
    show Steps p.tables e below (s₁.setTop (mkF m 1 #[.val (.ref a0_), .val (.double d1), .second] [(.double d1)])) _
    refine XS.aloadN X0.here hx rfl (hb hby d1_1) rfl rfl ?_
    exact k
  obtain ⟨T2, X2, e2, st2⟩ := getF X0 hx hZ hown (host := "") (Or.inl (hw _ (List.mem_of_getElem? (i := 11) rfl))) Via.refl e0 F1 (g := (mkF m 2 #[.val (.ref a0_), .val (.double d1), .second] [(.ref a0_), (.double d1)])) rfl rfl (hb hby d1_2)
  have a3 : ∀ t, Steps p.tables e below (T2.setTop (mkF m 5 #[.val (.ref a0_), .val (.double d1), .second] [(.int ch), (.double d1)])) t → Steps p.tables e below (s₁.setTop (entryFrame m #[(.ref a0_), (.double d1)] 3)) t := fun t k => a1 t (st2 t k)
  have a4 : ∀ t, Steps p.tables e below (T2.setTop (mkF m 8 #[.val (.ref a0_), .val (.double d1), .second] [(.ref a0_), (.double (FP.dmul d1 (FP.i2d ch)))])) t → Steps p.tables e below (s₁.setTop (entryFrame m #[(.ref a0_), (.double d1)] 3)) t := by
    intro t k
    refine a3 t ?_
    show Steps p.tables e below (T2.setTop (mkF m 5 #[.val (.ref a0_), .val (.double d1), .second] [(.int ch), (.double d1)])) _
    refine XS.i2dS X2.here hx rfl (hb hby d1_5) rfl rfl ?_
    show Steps p.tables e below (T2.setTop (mkF m 6 #[.val (.ref a0_), .val (.double d1), .second] [(.double (FP.i2d ch)), (.double d1)])) _
    refine XS.dmulS X2.here hx rfl (hb hby d1_6) rfl n1 rfl ?_
    show Steps p.tables e below (T2.setTop (mkF m 7 #[.val (.ref a0_), .val (.double d1), .second] [(.double (FP.dmul d1 (FP.i2d ch)))])) _
    refine XS.aloadN X2.here hx rfl (hb hby d1_7) rfl rfl ?_
    exact k
  obtain ⟨T5, X5, e5, st5⟩ := getF X2 hx hZ hown (host := "") (Or.inl (hw _ (List.mem_of_getElem? (i := 13) rfl))) Via.refl e2 F2 (g := (mkF m 8 #[.val (.ref a0_), .val (.double d1), .second] [(.ref a0_), (.double (FP.dmul d1 (FP.i2d ch)))])) rfl rfl (hb hby d1_8)
  have a6 : ∀ t, Steps p.tables e below (T5.setTop (mkF m 11 #[.val (.ref a0_), .val (.double d1), .second] [(.double sh), (.double (FP.dmul d1 (FP.i2d ch)))])) t → Steps p.tables e below (s₁.setTop (entryFrame m #[(.ref a0_), (.double d1)] 3)) t := fun t k => a4 t (st5 t k)
  have a7 : ∀ t, Steps p.tables e below (T5.setTop (mkF m 13 #[.val (.ref a0_), .val (.double d1), .second] [(.ref a0_), (.double (FP.dsub (FP.dmul d1 (FP.i2d ch)) sh))])) t → Steps p.tables e below (s₁.setTop (entryFrame m #[(.ref a0_), (.double d1)] 3)) t := by
    intro t k
    refine a6 t ?_
    show Steps p.tables e below (T5.setTop (mkF m 11 #[.val (.ref a0_), .val (.double d1), .second] [(.double sh), (.double (FP.dmul d1 (FP.i2d ch)))])) _
    refine XS.dsubS X5.here hx rfl (hb hby d1_11) rfl n2 rfl ?_
    show Steps p.tables e below (T5.setTop (mkF m 12 #[.val (.ref a0_), .val (.double d1), .second] [(.double (FP.dsub (FP.dmul d1 (FP.i2d ch)) sh))])) _
    refine XS.aloadN X5.here hx rfl (hb hby d1_12) rfl rfl ?_
    exact k
  obtain ⟨T8, X8, e8, st8⟩ := getF X5 hx hZ hown (host := "") (Or.inl (hw _ (List.mem_of_getElem? (i := 11) rfl))) Via.refl e5 F1 (g := (mkF m 13 #[.val (.ref a0_), .val (.double d1), .second] [(.ref a0_), (.double (FP.dsub (FP.dmul d1 (FP.i2d ch)) sh))])) rfl rfl (hb hby d1_13)
  have a9 : ∀ t, Steps p.tables e below (T8.setTop (mkF m 16 #[.val (.ref a0_), .val (.double d1), .second] [(.int ch), (.double (FP.dsub (FP.dmul d1 (FP.i2d ch)) sh))])) t → Steps p.tables e below (s₁.setTop (entryFrame m #[(.ref a0_), (.double d1)] 3)) t := fun t k => a7 t (st8 t k)
  have a10 : ∀ t, Steps p.tables e below (T8.setTop (mkF m 22 #[.val (.ref a0_), .val (.double d1), .second] [(.double (FP.dsub (FP.dsub (FP.dmul d1 (FP.i2d ch)) sh) (FP.dmul (FP.i2d ch) (4607215186990906156 : UInt64))))])) t → Steps p.tables e below (s₁.setTop (entryFrame m #[(.ref a0_), (.double d1)] 3)) t := by
    intro t k
    refine a9 t ?_
    show Steps p.tables e below (T8.setTop (mkF m 16 #[.val (.ref a0_), .val (.double d1), .second] [(.int ch), (.double (FP.dsub (FP.dmul d1 (FP.i2d ch)) sh))])) _
    refine XS.i2dS X8.here hx rfl (hb hby d1_16) rfl rfl ?_
    show Steps p.tables e below (T8.setTop (mkF m 17 #[.val (.ref a0_), .val (.double d1), .second] [(.double (FP.i2d ch)), (.double (FP.dsub (FP.dmul d1 (FP.i2d ch)) sh))])) _
    refine X8.ldc2DoubleC hx hown (mvT hZ (hw _ (List.mem_of_getElem? (i := 15) rfl))) (g := (mkF m 17 #[.val (.ref a0_), .val (.double d1), .second] [(.double (FP.i2d ch)), (.double (FP.dsub (FP.dmul d1 (FP.i2d ch)) sh))])) rfl (hb hby d1_17) _ ?_
    show Steps p.tables e below (T8.setTop (mkF m 20 #[.val (.ref a0_), .val (.double d1), .second] [(.double (4607215186990906156 : UInt64)), (.double (FP.i2d ch)), (.double (FP.dsub (FP.dmul d1 (FP.i2d ch)) sh))])) _
    refine XS.dmulS X8.here hx rfl (hb hby d1_20) rfl n3 rfl ?_
    show Steps p.tables e below (T8.setTop (mkF m 21 #[.val (.ref a0_), .val (.double d1), .second] [(.double (FP.dmul (FP.i2d ch) (4607215186990906156 : UInt64))), (.double (FP.dsub (FP.dmul d1 (FP.i2d ch)) sh))])) _
    refine XS.dsubS X8.here hx rfl (hb hby d1_21) rfl n4 rfl ?_
    exact k
  obtain ⟨fs, hr, hrun, hended, hW, hsame⟩ := X8.leave (v := some (.double (FP.dsub (FP.dsub (FP.dmul d1 (FP.i2d ch)) sh) (FP.dmul (FP.i2d ch) (4607215186990906156 : UInt64))))) (fun h => by rw [Bd.returns] at h; cases h)
  refine ⟨_, _, a10 _ ?_, hrun, hended, _, _, rfl, ?_, ⟨_, rfl⟩, hW, hsame.mono (by decide) (by decide)⟩
  · show Steps p.tables e below (T8.setTop (mkF m 22 #[.val (.ref a0_), .val (.double d1), .second] [(.double (FP.dsub (FP.dsub (FP.dmul d1 (FP.i2d ch)) sh) (FP.dmul (FP.i2d ch) (4607215186990906156 : UInt64))))])) _
    exact retOut X8 hx Bd.returns rfl (Or.inr (Or.inr (Or.inl ⟨rfl, rfl, _, rfl⟩))) (hb hby d1_22) hr
  · show Q1 Z a0_ d1 ch sh h0 n0 _ T8.heap _
    rw [e8]
    exact ⟨rfl, N0, rfl⟩
theorem ef_rm0 (m : MethodId) (x0 : Int32) (x1 : Int32) : entryFrame m #[(.int x0), (.int x1)] maxLocals = mkF m 0 #[.val (.int x0), .val (.int x1), .unset, .unset, .unset, .unset, .unset, .unset, .unset, .unset, .unset] [] := by first | (simp [entryFrame, mkF, argsToLocals, Value.category, maxLocals]; done) | rfl
theorem own_pd0 : parseMethodDescriptor "(D)D" = some ⟨[.double], some .double⟩ := by decide +kernel
theorem own_pn_com_example_peptools_peptools_spectra_IonTypeResidueMassAtPinLaw : plainName "com/example/peptools/peptools/spectra/IonTypeResidueMassAtPinLaw" = true := by first | (simp [plainName, overriddenIn]; done) | decide +kernel
def Q0 (Z : State) (p0 : Int32) (p1 : Int32) (w_B : Addr) (w_Y : Addr) (w_A : Addr) (w_Y_LESS_WATER : Addr) (w_Y_LESS_AMMONIA : Addr) (w_B_DOUBLY_CHARGED : Addr) (w_Y_DOUBLY_CHARGED : Addr) (w_B_LESS_WATER : Addr) (w_B_LESS_AMMONIA : Addr) (h0 : Heap) (n0 : Nat) (v : Option Value) (h : Heap) (L : List Loc) : Prop := v = some (.int 1) ∧ Fr n0 L
set_option maxRecDepth 65536 in
set_option maxHeartbeats 40000000 in
theorem rm0 (l : Launch) (Z : State) (a0 : Array Value) (hw : ∀ d ∈ tables_1, d.before a0 Z = true) (ws : List Jvm.Cond) (p0 : Int32) (p1 : Int32) (w_B : Addr) (w_Y : Addr) (w_A : Addr) (w_Y_LESS_WATER : Addr) (w_Y_LESS_AMMONIA : Addr) (w_B_DOUBLY_CHARGED : Addr) (w_Y_DOUBLY_CHARGED : Addr) (w_B_LESS_WATER : Addr) (w_B_LESS_AMMONIA : Addr) (h0 : Heap) (n0 : Nat) (Z0 : n0 ≤ h0.size) (S_B : Sta Z h0 "com/example/peptools/peptools/spectra/IonType" "B" "Lcom/example/peptools/peptools/spectra/IonType;" (.ref w_B)) (X_B : Exa Z h0 w_B "com/example/peptools/peptools/spectra/IonType") (F_B_charge : Fld Z h0 w_B "com/example/peptools/peptools/spectra/IonType" "charge" "I" (.int 1)) (F_B_neutralShift : Fld Z h0 w_B "com/example/peptools/peptools/spectra/IonType" "neutralShift" "D" (.double 0)) (S_Y : Sta Z h0 "com/example/peptools/peptools/spectra/IonType" "Y" "Lcom/example/peptools/peptools/spectra/IonType;" (.ref w_Y)) (X_Y : Exa Z h0 w_Y "com/example/peptools/peptools/spectra/IonType") (F_Y_charge : Fld Z h0 w_Y "com/example/peptools/peptools/spectra/IonType" "charge" "I" (.int 1)) (F_Y_neutralShift : Fld Z h0 w_Y "com/example/peptools/peptools/spectra/IonType" "neutralShift" "D" (.double 4625762741046049652)) (S_A : Sta Z h0 "com/example/peptools/peptools/spectra/IonType" "A" "Lcom/example/peptools/peptools/spectra/IonType;" (.ref w_A)) (X_A : Exa Z h0 w_A "com/example/peptools/peptools/spectra/IonType") (F_A_charge : Fld Z h0 w_A "com/example/peptools/peptools/spectra/IonType" "charge" "I" (.int 1)) (F_A_neutralShift : Fld Z h0 w_A "com/example/peptools/peptools/spectra/IonType" "neutralShift" "D" (.double 13851945122584546498)) (S_Y_LESS_WATER : Sta Z h0 "com/example/peptools/peptools/spectra/IonType" "Y_LESS_WATER" "Lcom/example/peptools/peptools/spectra/IonType;" (.ref w_Y_LESS_WATER)) (X_Y_LESS_WATER : Exa Z h0 w_Y_LESS_WATER "com/example/peptools/peptools/spectra/IonType") (F_Y_LESS_WATER_charge : Fld Z h0 w_Y_LESS_WATER "com/example/peptools/peptools/spectra/IonType" "charge" "I" (.int 1)) (F_Y_LESS_WATER_neutralShift : Fld Z h0 w_Y_LESS_WATER "com/example/peptools/peptools/spectra/IonType" "neutralShift" "D" (.double 0)) (S_Y_LESS_AMMONIA : Sta Z h0 "com/example/peptools/peptools/spectra/IonType" "Y_LESS_AMMONIA" "Lcom/example/peptools/peptools/spectra/IonType;" (.ref w_Y_LESS_AMMONIA)) (X_Y_LESS_AMMONIA : Exa Z h0 w_Y_LESS_AMMONIA "com/example/peptools/peptools/spectra/IonType") (F_Y_LESS_AMMONIA_charge : Fld Z h0 w_Y_LESS_AMMONIA "com/example/peptools/peptools/spectra/IonType" "charge" "I" (.int 1)) (F_Y_LESS_AMMONIA_neutralShift : Fld Z h0 w_Y_LESS_AMMONIA "com/example/peptools/peptools/spectra/IonType" "neutralShift" "D" (.double 4607038447727129632)) (S_B_DOUBLY_CHARGED : Sta Z h0 "com/example/peptools/peptools/spectra/IonType" "B_DOUBLY_CHARGED" "Lcom/example/peptools/peptools/spectra/IonType;" (.ref w_B_DOUBLY_CHARGED)) (X_B_DOUBLY_CHARGED : Exa Z h0 w_B_DOUBLY_CHARGED "com/example/peptools/peptools/spectra/IonType") (F_B_DOUBLY_CHARGED_charge : Fld Z h0 w_B_DOUBLY_CHARGED "com/example/peptools/peptools/spectra/IonType" "charge" "I" (.int 2)) (F_B_DOUBLY_CHARGED_neutralShift : Fld Z h0 w_B_DOUBLY_CHARGED "com/example/peptools/peptools/spectra/IonType" "neutralShift" "D" (.double 0)) (S_Y_DOUBLY_CHARGED : Sta Z h0 "com/example/peptools/peptools/spectra/IonType" "Y_DOUBLY_CHARGED" "Lcom/example/peptools/peptools/spectra/IonType;" (.ref w_Y_DOUBLY_CHARGED)) (X_Y_DOUBLY_CHARGED : Exa Z h0 w_Y_DOUBLY_CHARGED "com/example/peptools/peptools/spectra/IonType") (F_Y_DOUBLY_CHARGED_charge : Fld Z h0 w_Y_DOUBLY_CHARGED "com/example/peptools/peptools/spectra/IonType" "charge" "I" (.int 2)) (F_Y_DOUBLY_CHARGED_neutralShift : Fld Z h0 w_Y_DOUBLY_CHARGED "com/example/peptools/peptools/spectra/IonType" "neutralShift" "D" (.double 4625762741046049652)) (S_B_LESS_WATER : Sta Z h0 "com/example/peptools/peptools/spectra/IonType" "B_LESS_WATER" "Lcom/example/peptools/peptools/spectra/IonType;" (.ref w_B_LESS_WATER)) (X_B_LESS_WATER : Exa Z h0 w_B_LESS_WATER "com/example/peptools/peptools/spectra/IonType") (F_B_LESS_WATER_charge : Fld Z h0 w_B_LESS_WATER "com/example/peptools/peptools/spectra/IonType" "charge" "I" (.int 1)) (F_B_LESS_WATER_neutralShift : Fld Z h0 w_B_LESS_WATER "com/example/peptools/peptools/spectra/IonType" "neutralShift" "D" (.double 13849134777900825460)) (S_B_LESS_AMMONIA : Sta Z h0 "com/example/peptools/peptools/spectra/IonType" "B_LESS_AMMONIA" "Lcom/example/peptools/peptools/spectra/IonType;" (.ref w_B_LESS_AMMONIA)) (X_B_LESS_AMMONIA : Exa Z h0 w_B_LESS_AMMONIA "com/example/peptools/peptools/spectra/IonType") (F_B_LESS_AMMONIA_charge : Fld Z h0 w_B_LESS_AMMONIA "com/example/peptools/peptools/spectra/IonType" "charge" "I" (.int 1)) (F_B_LESS_AMMONIA_neutralShift : Fld Z h0 w_B_LESS_AMMONIA "com/example/peptools/peptools/spectra/IonType" "neutralShift" "D" (.double 13848857802020142547)) :
    MetFree l x (head1 (Jvm.Cond.code x code maxLocals ret :: ws) room_1) (fun a U => a = #[(.int p0), (.int p1)] ∧ Z.Warmed39 U.vm ∧ U.heap = h0) (fun _ _ _ _ _ => True) (fun _ U o U' => ∃ v L, o = .returned v ∧ Q0 Z p0 p1 w_B w_Y w_A w_Y_LESS_WATER w_Y_LESS_AMMONIA w_B_DOUBLY_CHARGED w_Y_DOUBLY_CHARGED w_B_LESS_WATER w_B_LESS_AMMONIA h0 n0 v U'.heap L ∧ FrameEnd U o U' L room_1.cells room_1.slots) := by
  refine MetFree.of_bodySF (plainFor_of_name own_pn_com_example_peptools_peptools_spectra_IonTypeResidueMassAtPinLaw) hisR ?_
  intro p e s m args below meth c s₁ Bd hml0 hP hK
  obtain ⟨rfl, hZ, hh⟩ := hP
  have hx := Bd.exec
  have hby := Bd.bytes
  have hml : c.maxLocals = 11 := hml0
  have hown : s.vm.findClass "com/example/peptools/peptools/spectra/IonTypeResidueMassAtPinLaw" = some m.cls := findClass_of_methodNamed Bd.named
  have hnm := (name_of_methodNamed Bd.named Bd.method).1
  have X0 : Stand p l e room_1 s m #[(.int p0), (.int p1)] below meth c s₁ [] 0 0 := Stand.of_body Bd
  have e0 : s₁.heap = h0 := by rw [← hh, Bd.state]; rfl
  have N0 := Fr.nil n0
  have pre0 : ∀ t, Steps p.tables e below (s₁.setTop (mkF m 0 #[.val (.int p0), .val (.int p1), .unset, .unset, .unset, .unset, .unset, .unset, .unset, .unset, .unset] [])) t → Steps p.tables e below (s₁.setTop (entryFrame m #[(.int p0), (.int p1)] maxLocals)) t := fun t k => castTop (ef_rm0 m p0 p1) k
  have a1 : ∀ t, Steps p.tables e below (s₁.setTop (mkF m 9 #[.val (.int p0), .val (.int p1), .val (.int ((p0 &&& (2147483647 : Int32)) % (9 : Int32))), .unset, .unset, .unset, .unset, .unset, .unset, .unset, .unset] [(.int ((p0 &&& (2147483647 : Int32)) % (9 : Int32)))])) t → Steps p.tables e below (s₁.setTop (entryFrame m #[(.int p0), (.int p1)] maxLocals)) t := by
    intro t k
    refine pre0 t ?_
    show Steps p.tables e below (s₁.setTop (mkF m 0 #[.val (.int p0), .val (.int p1), .unset, .unset, .unset, .unset, .unset, .unset, .unset, .unset, .unset] [])) _
    refine XS.iloadN X0.here hx rfl (hb hby at_0) rfl ?_
    show Steps p.tables e below (s₁.setTop (mkF m 1 #[.val (.int p0), .val (.int p1), .unset, .unset, .unset, .unset, .unset, .unset, .unset, .unset, .unset] [(.int p0)])) _
    refine X0.ldcInt hx hown (mvT hZ (hw _ (List.mem_of_getElem? (i := 0) rfl))) (g := (mkF m 1 #[.val (.int p0), .val (.int p1), .unset, .unset, .unset, .unset, .unset, .unset, .unset, .unset, .unset] [(.int p0)])) rfl (hb hby at_1) _ ?_
    show Steps p.tables e below (s₁.setTop (mkF m 3 #[.val (.int p0), .val (.int p1), .unset, .unset, .unset, .unset, .unset, .unset, .unset, .unset, .unset] [(.int (2147483647 : Int32)), (.int p0)])) _
    refine XS.iand X0.here hx rfl (hb hby at_3) rfl ?_
    show Steps p.tables e below (s₁.setTop (mkF m 4 #[.val (.int p0), .val (.int p1), .unset, .unset, .unset, .unset, .unset, .unset, .unset, .unset, .unset] [(.int (p0 &&& (2147483647 : Int32)))])) _
    refine XS.bipush X0.here hx rfl (hb hby at_4) ?_
    show Steps p.tables e below (s₁.setTop (mkF m 6 #[.val (.int p0), .val (.int p1), .unset, .unset, .unset, .unset, .unset, .unset, .unset, .unset, .unset] [(.int (9 : Int32)), (.int (p0 &&& (2147483647 : Int32)))])) _
    refine iremM X0 hx rfl (hb hby at_6) rfl (by decide) ?_
    show Steps p.tables e below (s₁.setTop (mkF m 7 #[.val (.int p0), .val (.int p1), .unset, .unset, .unset, .unset, .unset, .unset, .unset, .unset, .unset] [(.int ((p0 &&& (2147483647 : Int32)) % (9 : Int32)))])) _
    refine XS.istoreN X0.here hx rfl (hb hby at_7) rfl (l' := #[.val (.int p0), .val (.int p1), .val (.int ((p0 &&& (2147483647 : Int32)) % (9 : Int32))), .unset, .unset, .unset, .unset, .unset, .unset, .unset, .unset]) rfl ?_
    show Steps p.tables e below (s₁.setTop (mkF m 8 #[.val (.int p0), .val (.int p1), .val (.int ((p0 &&& (2147483647 : Int32)) % (9 : Int32))), .unset, .unset, .unset, .unset, .unset, .unset, .unset, .unset] [])) _
    refine XS.iloadN X0.here hx rfl (hb hby at_8) rfl ?_
    exact k
  obtain ⟨T53, LL53, u, sh, c_, X53, e53, N53, JU, a53⟩ : ∃ (T53 : State) (LL53 : List Loc) (u : Addr) (sh : UInt64) (c_ : Int32), Stand p l e room_1 s m #[(.int p0), (.int p1)] below meth c T53 LL53 0 0 ∧ T53.heap = h0 ∧ Fr n0 LL53 ∧ (((((p0 &&& (2147483647 : Int32)) % (9 : Int32)) = (0 : Int32)) ∧ u = w_B ∧ sh = (0 : UInt64) ∧ c_ = (1 : Int32)) ∨ ((¬ (((p0 &&& (2147483647 : Int32)) % (9 : Int32)) = (0 : Int32))) ∧ (((p0 &&& (2147483647 : Int32)) % (9 : Int32)) = (1 : Int32)) ∧ u = w_Y ∧ sh = (4625762741046049652 : UInt64) ∧ c_ = (1 : Int32)) ∨ ((¬ (((p0 &&& (2147483647 : Int32)) % (9 : Int32)) = (0 : Int32))) ∧ (¬ (((p0 &&& (2147483647 : Int32)) % (9 : Int32)) = (1 : Int32))) ∧ (((p0 &&& (2147483647 : Int32)) % (9 : Int32)) = (2 : Int32)) ∧ u = w_A ∧ sh = (13851945122584546498 : UInt64) ∧ c_ = (1 : Int32)) ∨ ((¬ (((p0 &&& (2147483647 : Int32)) % (9 : Int32)) = (0 : Int32))) ∧ (¬ (((p0 &&& (2147483647 : Int32)) % (9 : Int32)) = (1 : Int32))) ∧ (¬ (((p0 &&& (2147483647 : Int32)) % (9 : Int32)) = (2 : Int32))) ∧ (((p0 &&& (2147483647 : Int32)) % (9 : Int32)) = (3 : Int32)) ∧ u = w_Y_LESS_WATER ∧ sh = (0 : UInt64) ∧ c_ = (1 : Int32)) ∨ ((¬ (((p0 &&& (2147483647 : Int32)) % (9 : Int32)) = (0 : Int32))) ∧ (¬ (((p0 &&& (2147483647 : Int32)) % (9 : Int32)) = (1 : Int32))) ∧ (¬ (((p0 &&& (2147483647 : Int32)) % (9 : Int32)) = (2 : Int32))) ∧ (¬ (((p0 &&& (2147483647 : Int32)) % (9 : Int32)) = (3 : Int32))) ∧ (((p0 &&& (2147483647 : Int32)) % (9 : Int32)) = (4 : Int32)) ∧ u = w_Y_LESS_AMMONIA ∧ sh = (4607038447727129632 : UInt64) ∧ c_ = (1 : Int32)) ∨ ((¬ (((p0 &&& (2147483647 : Int32)) % (9 : Int32)) = (0 : Int32))) ∧ (¬ (((p0 &&& (2147483647 : Int32)) % (9 : Int32)) = (1 : Int32))) ∧ (¬ (((p0 &&& (2147483647 : Int32)) % (9 : Int32)) = (2 : Int32))) ∧ (¬ (((p0 &&& (2147483647 : Int32)) % (9 : Int32)) = (3 : Int32))) ∧ (¬ (((p0 &&& (2147483647 : Int32)) % (9 : Int32)) = (4 : Int32))) ∧ (((p0 &&& (2147483647 : Int32)) % (9 : Int32)) = (5 : Int32)) ∧ u = w_B_DOUBLY_CHARGED ∧ sh = (0 : UInt64) ∧ c_ = (2 : Int32)) ∨ ((¬ (((p0 &&& (2147483647 : Int32)) % (9 : Int32)) = (0 : Int32))) ∧ (¬ (((p0 &&& (2147483647 : Int32)) % (9 : Int32)) = (1 : Int32))) ∧ (¬ (((p0 &&& (2147483647 : Int32)) % (9 : Int32)) = (2 : Int32))) ∧ (¬ (((p0 &&& (2147483647 : Int32)) % (9 : Int32)) = (3 : Int32))) ∧ (¬ (((p0 &&& (2147483647 : Int32)) % (9 : Int32)) = (4 : Int32))) ∧ (¬ (((p0 &&& (2147483647 : Int32)) % (9 : Int32)) = (5 : Int32))) ∧ (((p0 &&& (2147483647 : Int32)) % (9 : Int32)) = (6 : Int32)) ∧ u = w_Y_DOUBLY_CHARGED ∧ sh = (4625762741046049652 : UInt64) ∧ c_ = (2 : Int32)) ∨ ((¬ (((p0 &&& (2147483647 : Int32)) % (9 : Int32)) = (0 : Int32))) ∧ (¬ (((p0 &&& (2147483647 : Int32)) % (9 : Int32)) = (1 : Int32))) ∧ (¬ (((p0 &&& (2147483647 : Int32)) % (9 : Int32)) = (2 : Int32))) ∧ (¬ (((p0 &&& (2147483647 : Int32)) % (9 : Int32)) = (3 : Int32))) ∧ (¬ (((p0 &&& (2147483647 : Int32)) % (9 : Int32)) = (4 : Int32))) ∧ (¬ (((p0 &&& (2147483647 : Int32)) % (9 : Int32)) = (5 : Int32))) ∧ (¬ (((p0 &&& (2147483647 : Int32)) % (9 : Int32)) = (6 : Int32))) ∧ (((p0 &&& (2147483647 : Int32)) % (9 : Int32)) = (7 : Int32)) ∧ u = w_B_LESS_WATER ∧ sh = (13849134777900825460 : UInt64) ∧ c_ = (1 : Int32)) ∨ ((¬ (((p0 &&& (2147483647 : Int32)) % (9 : Int32)) = (0 : Int32))) ∧ (¬ (((p0 &&& (2147483647 : Int32)) % (9 : Int32)) = (1 : Int32))) ∧ (¬ (((p0 &&& (2147483647 : Int32)) % (9 : Int32)) = (2 : Int32))) ∧ (¬ (((p0 &&& (2147483647 : Int32)) % (9 : Int32)) = (3 : Int32))) ∧ (¬ (((p0 &&& (2147483647 : Int32)) % (9 : Int32)) = (4 : Int32))) ∧ (¬ (((p0 &&& (2147483647 : Int32)) % (9 : Int32)) = (5 : Int32))) ∧ (¬ (((p0 &&& (2147483647 : Int32)) % (9 : Int32)) = (6 : Int32))) ∧ (¬ (((p0 &&& (2147483647 : Int32)) % (9 : Int32)) = (7 : Int32))) ∧ u = w_B_LESS_AMMONIA ∧ sh = (13848857802020142547 : UInt64) ∧ c_ = (1 : Int32))) ∧ ∀ t, Steps p.tables e below (T53.setTop (mkF m 175 #[.val (.int p0), .val (.int p1), .val (.int ((p0 &&& (2147483647 : Int32)) % (9 : Int32))), .val (.ref u), .val (.double sh), .second, .val (.int c_), .unset, .unset, .unset, .unset] [])) t → Steps p.tables e below (s₁.setTop (entryFrame m #[(.int p0), (.int p1)] maxLocals)) t := by
    by_cases hc9_2 : ((p0 &&& (2147483647 : Int32)) % (9 : Int32)) = (0 : Int32)
    ·
      have a3 : ∀ t, Steps p.tables e below (s₁.setTop (mkF m 12 #[.val (.int p0), .val (.int p1), .val (.int ((p0 &&& (2147483647 : Int32)) % (9 : Int32))), .unset, .unset, .unset, .unset, .unset, .unset, .unset, .unset] [])) t → Steps p.tables e below (s₁.setTop (entryFrame m #[(.int p0), (.int p1)] maxLocals)) t := by
        intro t k
        refine a1 t ?_
        show Steps p.tables e below (s₁.setTop (mkF m 9 #[.val (.int p0), .val (.int p1), .val (.int ((p0 &&& (2147483647 : Int32)) % (9 : Int32))), .unset, .unset, .unset, .unset, .unset, .unset, .unset, .unset] [(.int ((p0 &&& (2147483647 : Int32)) % (9 : Int32)))])) _
        refine XS.ifNo X0.here hx rfl (hb hby at_9) rfl ((if0 _ _).trans (teq hc9_2).2) ?_
        exact k
      obtain ⟨T4, X4, e4, st4⟩ := getS2 X0 hx hZ hown (host := "") (Or.inl (hw _ (List.mem_of_getElem? (i := 1) rfl))) Via.refl e0 S_B (g := (mkF m 12 #[.val (.int p0), .val (.int p1), .val (.int ((p0 &&& (2147483647 : Int32)) % (9 : Int32))), .unset, .unset, .unset, .unset, .unset, .unset, .unset, .unset] [])) rfl (hb hby at_12)
      have a5 : ∀ t, Steps p.tables e below (T4.setTop (mkF m 15 #[.val (.int p0), .val (.int p1), .val (.int ((p0 &&& (2147483647 : Int32)) % (9 : Int32))), .unset, .unset, .unset, .unset, .unset, .unset, .unset, .unset] [(.ref w_B)])) t → Steps p.tables e below (s₁.setTop (entryFrame m #[(.int p0), (.int p1)] maxLocals)) t := fun t k => a3 t (st4 t k)
      have a6 : ∀ t, Steps p.tables e below (T4.setTop (mkF m 175 #[.val (.int p0), .val (.int p1), .val (.int ((p0 &&& (2147483647 : Int32)) % (9 : Int32))), .val (.ref w_B), .val (.double (0 : UInt64)), .second, .val (.int (1 : Int32)), .unset, .unset, .unset, .unset] [])) t → Steps p.tables e below (s₁.setTop (entryFrame m #[(.int p0), (.int p1)] maxLocals)) t := by
        intro t k
        refine a5 t ?_
        show Steps p.tables e below (T4.setTop (mkF m 15 #[.val (.int p0), .val (.int p1), .val (.int ((p0 &&& (2147483647 : Int32)) % (9 : Int32))), .unset, .unset, .unset, .unset, .unset, .unset, .unset, .unset] [(.ref w_B)])) _
        refine XS.astoreN X4.here hx rfl (hb hby at_15) rfl rfl (l' := #[.val (.int p0), .val (.int p1), .val (.int ((p0 &&& (2147483647 : Int32)) % (9 : Int32))), .val (.ref w_B), .unset, .unset, .unset, .unset, .unset, .unset, .unset]) rfl ?_
        show Steps p.tables e below (T4.setTop (mkF m 16 #[.val (.int p0), .val (.int p1), .val (.int ((p0 &&& (2147483647 : Int32)) % (9 : Int32))), .val (.ref w_B), .unset, .unset, .unset, .unset, .unset, .unset, .unset] [])) _
        refine XS.dconst0 X4.here hx rfl (hb hby at_16) (v := 0) rfl ?_
        show Steps p.tables e below (T4.setTop (mkF m 17 #[.val (.int p0), .val (.int p1), .val (.int ((p0 &&& (2147483647 : Int32)) % (9 : Int32))), .val (.ref w_B), .unset, .unset, .unset, .unset, .unset, .unset, .unset] [(.double (0 : UInt64))])) _
        refine XS.dstore X4.here hx rfl (hb hby at_17) rfl (l' := #[.val (.int p0), .val (.int p1), .val (.int ((p0 &&& (2147483647 : Int32)) % (9 : Int32))), .val (.ref w_B), .val (.double (0 : UInt64)), .second, .unset, .unset, .unset, .unset, .unset]) rfl ?_
        show Steps p.tables e below (T4.setTop (mkF m 19 #[.val (.int p0), .val (.int p1), .val (.int ((p0 &&& (2147483647 : Int32)) % (9 : Int32))), .val (.ref w_B), .val (.double (0 : UInt64)), .second, .unset, .unset, .unset, .unset, .unset] [])) _
        refine XS.iconst X4.here hx rfl (hb hby at_19) ?_
        show Steps p.tables e below (T4.setTop (mkF m 20 #[.val (.int p0), .val (.int p1), .val (.int ((p0 &&& (2147483647 : Int32)) % (9 : Int32))), .val (.ref w_B), .val (.double (0 : UInt64)), .second, .unset, .unset, .unset, .unset, .unset] [(.int (1 : Int32))])) _
        refine XS.istore X4.here hx rfl (hb hby at_20) rfl (l' := #[.val (.int p0), .val (.int p1), .val (.int ((p0 &&& (2147483647 : Int32)) % (9 : Int32))), .val (.ref w_B), .val (.double (0 : UInt64)), .second, .val (.int (1 : Int32)), .unset, .unset, .unset, .unset]) rfl ?_
        show Steps p.tables e below (T4.setTop (mkF m 22 #[.val (.int p0), .val (.int p1), .val (.int ((p0 &&& (2147483647 : Int32)) % (9 : Int32))), .val (.ref w_B), .val (.double (0 : UInt64)), .second, .val (.int (1 : Int32)), .unset, .unset, .unset, .unset] [])) _
        refine XS.goto X4.here hx rfl (pc0 := 22) (pc' := 175) rfl (hb hby at_22) (by decide) (by decide) ?_
        exact k
      exact ⟨T4, _, w_B, (0 : UInt64), (1 : Int32), X4, e4, N0, Or.inl ⟨hc9_2, rfl, rfl, rfl⟩, a6⟩
    ·
      have a7 : ∀ t, Steps p.tables e below (s₁.setTop (mkF m 27 #[.val (.int p0), .val (.int p1), .val (.int ((p0 &&& (2147483647 : Int32)) % (9 : Int32))), .unset, .unset, .unset, .unset, .unset, .unset, .unset, .unset] [(.int (1 : Int32)), (.int ((p0 &&& (2147483647 : Int32)) % (9 : Int32)))])) t → Steps p.tables e below (s₁.setTop (entryFrame m #[(.int p0), (.int p1)] maxLocals)) t := by
        intro t k
        refine a1 t ?_
        show Steps p.tables e below (s₁.setTop (mkF m 9 #[.val (.int p0), .val (.int p1), .val (.int ((p0 &&& (2147483647 : Int32)) % (9 : Int32))), .unset, .unset, .unset, .unset, .unset, .unset, .unset, .unset] [(.int ((p0 &&& (2147483647 : Int32)) % (9 : Int32)))])) _
        refine XS.ifYes X0.here hx rfl (pc0 := 9) (pc' := 25) rfl (hb hby at_9) rfl ((if0 _ _).trans (feq hc9_2).2) (by decide) (by decide) ?_
        show Steps p.tables e below (s₁.setTop (mkF m 25 #[.val (.int p0), .val (.int p1), .val (.int ((p0 &&& (2147483647 : Int32)) % (9 : Int32))), .unset, .unset, .unset, .unset, .unset, .unset, .unset, .unset] [])) _
        refine XS.iloadN X0.here hx rfl (hb hby at_25) rfl ?_
        show Steps p.tables e below (s₁.setTop (mkF m 26 #[.val (.int p0), .val (.int p1), .val (.int ((p0 &&& (2147483647 : Int32)) % (9 : Int32))), .unset, .unset, .unset, .unset, .unset, .unset, .unset, .unset] [(.int ((p0 &&& (2147483647 : Int32)) % (9 : Int32)))])) _
        refine XS.iconst X0.here hx rfl (hb hby at_26) ?_
        exact k
      by_cases hc27_8 : ((p0 &&& (2147483647 : Int32)) % (9 : Int32)) = (1 : Int32)
      ·
        have a9 : ∀ t, Steps p.tables e below (s₁.setTop (mkF m 30 #[.val (.int p0), .val (.int p1), .val (.int ((p0 &&& (2147483647 : Int32)) % (9 : Int32))), .unset, .unset, .unset, .unset, .unset, .unset, .unset, .unset] [])) t → Steps p.tables e below (s₁.setTop (entryFrame m #[(.int p0), (.int p1)] maxLocals)) t := by
          intro t k
          refine a7 t ?_
          show Steps p.tables e below (s₁.setTop (mkF m 27 #[.val (.int p0), .val (.int p1), .val (.int ((p0 &&& (2147483647 : Int32)) % (9 : Int32))), .unset, .unset, .unset, .unset, .unset, .unset, .unset, .unset] [(.int (1 : Int32)), (.int ((p0 &&& (2147483647 : Int32)) % (9 : Int32)))])) _
          refine XS.icmpNo X0.here hx rfl (hb hby at_27) rfl (teq hc27_8).2 ?_
          exact k
        obtain ⟨T10, X10, e10, st10⟩ := getS2 X0 hx hZ hown (host := "") (Or.inl (hw _ (List.mem_of_getElem? (i := 21) rfl))) Via.refl e0 S_Y (g := (mkF m 30 #[.val (.int p0), .val (.int p1), .val (.int ((p0 &&& (2147483647 : Int32)) % (9 : Int32))), .unset, .unset, .unset, .unset, .unset, .unset, .unset, .unset] [])) rfl (hb hby at_30)
        have a11 : ∀ t, Steps p.tables e below (T10.setTop (mkF m 33 #[.val (.int p0), .val (.int p1), .val (.int ((p0 &&& (2147483647 : Int32)) % (9 : Int32))), .unset, .unset, .unset, .unset, .unset, .unset, .unset, .unset] [(.ref w_Y)])) t → Steps p.tables e below (s₁.setTop (entryFrame m #[(.int p0), (.int p1)] maxLocals)) t := fun t k => a9 t (st10 t k)
        have a12 : ∀ t, Steps p.tables e below (T10.setTop (mkF m 175 #[.val (.int p0), .val (.int p1), .val (.int ((p0 &&& (2147483647 : Int32)) % (9 : Int32))), .val (.ref w_Y), .val (.double (4625762741046049652 : UInt64)), .second, .val (.int (1 : Int32)), .unset, .unset, .unset, .unset] [])) t → Steps p.tables e below (s₁.setTop (entryFrame m #[(.int p0), (.int p1)] maxLocals)) t := by
          intro t k
          refine a11 t ?_
          show Steps p.tables e below (T10.setTop (mkF m 33 #[.val (.int p0), .val (.int p1), .val (.int ((p0 &&& (2147483647 : Int32)) % (9 : Int32))), .unset, .unset, .unset, .unset, .unset, .unset, .unset, .unset] [(.ref w_Y)])) _
          refine XS.astoreN X10.here hx rfl (hb hby at_33) rfl rfl (l' := #[.val (.int p0), .val (.int p1), .val (.int ((p0 &&& (2147483647 : Int32)) % (9 : Int32))), .val (.ref w_Y), .unset, .unset, .unset, .unset, .unset, .unset, .unset]) rfl ?_
          show Steps p.tables e below (T10.setTop (mkF m 34 #[.val (.int p0), .val (.int p1), .val (.int ((p0 &&& (2147483647 : Int32)) % (9 : Int32))), .val (.ref w_Y), .unset, .unset, .unset, .unset, .unset, .unset, .unset] [])) _
          refine X10.ldc2DoubleC hx hown (mvT hZ (hw _ (List.mem_of_getElem? (i := 23) rfl))) (g := (mkF m 34 #[.val (.int p0), .val (.int p1), .val (.int ((p0 &&& (2147483647 : Int32)) % (9 : Int32))), .val (.ref w_Y), .unset, .unset, .unset, .unset, .unset, .unset, .unset] [])) rfl (hb hby at_34) _ ?_
          show Steps p.tables e below (T10.setTop (mkF m 37 #[.val (.int p0), .val (.int p1), .val (.int ((p0 &&& (2147483647 : Int32)) % (9 : Int32))), .val (.ref w_Y), .unset, .unset, .unset, .unset, .unset, .unset, .unset] [(.double (4625762741046049652 : UInt64))])) _
          refine XS.dstore X10.here hx rfl (hb hby at_37) rfl (l' := #[.val (.int p0), .val (.int p1), .val (.int ((p0 &&& (2147483647 : Int32)) % (9 : Int32))), .val (.ref w_Y), .val (.double (4625762741046049652 : UInt64)), .second, .unset, .unset, .unset, .unset, .unset]) rfl ?_
          show Steps p.tables e below (T10.setTop (mkF m 39 #[.val (.int p0), .val (.int p1), .val (.int ((p0 &&& (2147483647 : Int32)) % (9 : Int32))), .val (.ref w_Y), .val (.double (4625762741046049652 : UInt64)), .second, .unset, .unset, .unset, .unset, .unset] [])) _
          refine XS.iconst X10.here hx rfl (hb hby at_39) ?_
          show Steps p.tables e below (T10.setTop (mkF m 40 #[.val (.int p0), .val (.int p1), .val (.int ((p0 &&& (2147483647 : Int32)) % (9 : Int32))), .val (.ref w_Y), .val (.double (4625762741046049652 : UInt64)), .second, .unset, .unset, .unset, .unset, .unset] [(.int (1 : Int32))])) _
          refine XS.istore X10.here hx rfl (hb hby at_40) rfl (l' := #[.val (.int p0), .val (.int p1), .val (.int ((p0 &&& (2147483647 : Int32)) % (9 : Int32))), .val (.ref w_Y), .val (.double (4625762741046049652 : UInt64)), .second, .val (.int (1 : Int32)), .unset, .unset, .unset, .unset]) rfl ?_
          show Steps p.tables e below (T10.setTop (mkF m 42 #[.val (.int p0), .val (.int p1), .val (.int ((p0 &&& (2147483647 : Int32)) % (9 : Int32))), .val (.ref w_Y), .val (.double (4625762741046049652 : UInt64)), .second, .val (.int (1 : Int32)), .unset, .unset, .unset, .unset] [])) _
          refine XS.goto X10.here hx rfl (pc0 := 42) (pc' := 175) rfl (hb hby at_42) (by decide) (by decide) ?_
          exact k
        exact ⟨T10, _, w_Y, (4625762741046049652 : UInt64), (1 : Int32), X10, e10, N0, Or.inr (Or.inl ⟨hc9_2, hc27_8, rfl, rfl, rfl⟩), a12⟩
      ·
        have a13 : ∀ t, Steps p.tables e below (s₁.setTop (mkF m 47 #[.val (.int p0), .val (.int p1), .val (.int ((p0 &&& (2147483647 : Int32)) % (9 : Int32))), .unset, .unset, .unset, .unset, .unset, .unset, .unset, .unset] [(.int (2 : Int32)), (.int ((p0 &&& (2147483647 : Int32)) % (9 : Int32)))])) t → Steps p.tables e below (s₁.setTop (entryFrame m #[(.int p0), (.int p1)] maxLocals)) t := by
          intro t k
          refine a7 t ?_
          show Steps p.tables e below (s₁.setTop (mkF m 27 #[.val (.int p0), .val (.int p1), .val (.int ((p0 &&& (2147483647 : Int32)) % (9 : Int32))), .unset, .unset, .unset, .unset, .unset, .unset, .unset, .unset] [(.int (1 : Int32)), (.int ((p0 &&& (2147483647 : Int32)) % (9 : Int32)))])) _
          refine XS.icmpYes X0.here hx rfl (pc0 := 27) (pc' := 45) rfl (hb hby at_27) rfl (feq hc27_8).2 (by decide) (by decide) ?_
          show Steps p.tables e below (s₁.setTop (mkF m 45 #[.val (.int p0), .val (.int p1), .val (.int ((p0 &&& (2147483647 : Int32)) % (9 : Int32))), .unset, .unset, .unset, .unset, .unset, .unset, .unset, .unset] [])) _
          refine XS.iloadN X0.here hx rfl (hb hby at_45) rfl ?_
          show Steps p.tables e below (s₁.setTop (mkF m 46 #[.val (.int p0), .val (.int p1), .val (.int ((p0 &&& (2147483647 : Int32)) % (9 : Int32))), .unset, .unset, .unset, .unset, .unset, .unset, .unset, .unset] [(.int ((p0 &&& (2147483647 : Int32)) % (9 : Int32)))])) _
          refine XS.iconst X0.here hx rfl (hb hby at_46) ?_
          exact k
        by_cases hc47_14 : ((p0 &&& (2147483647 : Int32)) % (9 : Int32)) = (2 : Int32)
        ·
          have a15 : ∀ t, Steps p.tables e below (s₁.setTop (mkF m 50 #[.val (.int p0), .val (.int p1), .val (.int ((p0 &&& (2147483647 : Int32)) % (9 : Int32))), .unset, .unset, .unset, .unset, .unset, .unset, .unset, .unset] [])) t → Steps p.tables e below (s₁.setTop (entryFrame m #[(.int p0), (.int p1)] maxLocals)) t := by
            intro t k
            refine a13 t ?_
            show Steps p.tables e below (s₁.setTop (mkF m 47 #[.val (.int p0), .val (.int p1), .val (.int ((p0 &&& (2147483647 : Int32)) % (9 : Int32))), .unset, .unset, .unset, .unset, .unset, .unset, .unset, .unset] [(.int (2 : Int32)), (.int ((p0 &&& (2147483647 : Int32)) % (9 : Int32)))])) _
            refine XS.icmpNo X0.here hx rfl (hb hby at_47) rfl (teq hc47_14).2 ?_
            exact k
          obtain ⟨T16, X16, e16, st16⟩ := getS2 X0 hx hZ hown (host := "") (Or.inl (hw _ (List.mem_of_getElem? (i := 31) rfl))) Via.refl e0 S_A (g := (mkF m 50 #[.val (.int p0), .val (.int p1), .val (.int ((p0 &&& (2147483647 : Int32)) % (9 : Int32))), .unset, .unset, .unset, .unset, .unset, .unset, .unset, .unset] [])) rfl (hb hby at_50)
          have a17 : ∀ t, Steps p.tables e below (T16.setTop (mkF m 53 #[.val (.int p0), .val (.int p1), .val (.int ((p0 &&& (2147483647 : Int32)) % (9 : Int32))), .unset, .unset, .unset, .unset, .unset, .unset, .unset, .unset] [(.ref w_A)])) t → Steps p.tables e below (s₁.setTop (entryFrame m #[(.int p0), (.int p1)] maxLocals)) t := fun t k => a15 t (st16 t k)
          have a18 : ∀ t, Steps p.tables e below (T16.setTop (mkF m 175 #[.val (.int p0), .val (.int p1), .val (.int ((p0 &&& (2147483647 : Int32)) % (9 : Int32))), .val (.ref w_A), .val (.double (13851945122584546498 : UInt64)), .second, .val (.int (1 : Int32)), .unset, .unset, .unset, .unset] [])) t → Steps p.tables e below (s₁.setTop (entryFrame m #[(.int p0), (.int p1)] maxLocals)) t := by
            intro t k
            refine a17 t ?_
            show Steps p.tables e below (T16.setTop (mkF m 53 #[.val (.int p0), .val (.int p1), .val (.int ((p0 &&& (2147483647 : Int32)) % (9 : Int32))), .unset, .unset, .unset, .unset, .unset, .unset, .unset, .unset] [(.ref w_A)])) _
            refine XS.astoreN X16.here hx rfl (hb hby at_53) rfl rfl (l' := #[.val (.int p0), .val (.int p1), .val (.int ((p0 &&& (2147483647 : Int32)) % (9 : Int32))), .val (.ref w_A), .unset, .unset, .unset, .unset, .unset, .unset, .unset]) rfl ?_
            show Steps p.tables e below (T16.setTop (mkF m 54 #[.val (.int p0), .val (.int p1), .val (.int ((p0 &&& (2147483647 : Int32)) % (9 : Int32))), .val (.ref w_A), .unset, .unset, .unset, .unset, .unset, .unset, .unset] [])) _
            refine X16.ldc2DoubleC hx hown (mvT hZ (hw _ (List.mem_of_getElem? (i := 33) rfl))) (g := (mkF m 54 #[.val (.int p0), .val (.int p1), .val (.int ((p0 &&& (2147483647 : Int32)) % (9 : Int32))), .val (.ref w_A), .unset, .unset, .unset, .unset, .unset, .unset, .unset] [])) rfl (hb hby at_54) _ ?_
            show Steps p.tables e below (T16.setTop (mkF m 57 #[.val (.int p0), .val (.int p1), .val (.int ((p0 &&& (2147483647 : Int32)) % (9 : Int32))), .val (.ref w_A), .unset, .unset, .unset, .unset, .unset, .unset, .unset] [(.double (13851945122584546498 : UInt64))])) _
            refine XS.dstore X16.here hx rfl (hb hby at_57) rfl (l' := #[.val (.int p0), .val (.int p1), .val (.int ((p0 &&& (2147483647 : Int32)) % (9 : Int32))), .val (.ref w_A), .val (.double (13851945122584546498 : UInt64)), .second, .unset, .unset, .unset, .unset, .unset]) rfl ?_
            show Steps p.tables e below (T16.setTop (mkF m 59 #[.val (.int p0), .val (.int p1), .val (.int ((p0 &&& (2147483647 : Int32)) % (9 : Int32))), .val (.ref w_A), .val (.double (13851945122584546498 : UInt64)), .second, .unset, .unset, .unset, .unset, .unset] [])) _
            refine XS.iconst X16.here hx rfl (hb hby at_59) ?_
            show Steps p.tables e below (T16.setTop (mkF m 60 #[.val (.int p0), .val (.int p1), .val (.int ((p0 &&& (2147483647 : Int32)) % (9 : Int32))), .val (.ref w_A), .val (.double (13851945122584546498 : UInt64)), .second, .unset, .unset, .unset, .unset, .unset] [(.int (1 : Int32))])) _
            refine XS.istore X16.here hx rfl (hb hby at_60) rfl (l' := #[.val (.int p0), .val (.int p1), .val (.int ((p0 &&& (2147483647 : Int32)) % (9 : Int32))), .val (.ref w_A), .val (.double (13851945122584546498 : UInt64)), .second, .val (.int (1 : Int32)), .unset, .unset, .unset, .unset]) rfl ?_
            show Steps p.tables e below (T16.setTop (mkF m 62 #[.val (.int p0), .val (.int p1), .val (.int ((p0 &&& (2147483647 : Int32)) % (9 : Int32))), .val (.ref w_A), .val (.double (13851945122584546498 : UInt64)), .second, .val (.int (1 : Int32)), .unset, .unset, .unset, .unset] [])) _
            refine XS.goto X16.here hx rfl (pc0 := 62) (pc' := 175) rfl (hb hby at_62) (by decide) (by decide) ?_
            exact k
          exact ⟨T16, _, w_A, (13851945122584546498 : UInt64), (1 : Int32), X16, e16, N0, Or.inr (Or.inr (Or.inl ⟨hc9_2, hc27_8, hc47_14, rfl, rfl, rfl⟩)), a18⟩
        ·
          have a19 : ∀ t, Steps p.tables e below (s₁.setTop (mkF m 67 #[.val (.int p0), .val (.int p1), .val (.int ((p0 &&& (2147483647 : Int32)) % (9 : Int32))), .unset, .unset, .unset, .unset, .unset, .unset, .unset, .unset] [(.int (3 : Int32)), (.int ((p0 &&& (2147483647 : Int32)) % (9 : Int32)))])) t → Steps p.tables e below (s₁.setTop (entryFrame m #[(.int p0), (.int p1)] maxLocals)) t := by
            intro t k
            refine a13 t ?_
            show Steps p.tables e below (s₁.setTop (mkF m 47 #[.val (.int p0), .val (.int p1), .val (.int ((p0 &&& (2147483647 : Int32)) % (9 : Int32))), .unset, .unset, .unset, .unset, .unset, .unset, .unset, .unset] [(.int (2 : Int32)), (.int ((p0 &&& (2147483647 : Int32)) % (9 : Int32)))])) _
            refine XS.icmpYes X0.here hx rfl (pc0 := 47) (pc' := 65) rfl (hb hby at_47) rfl (feq hc47_14).2 (by decide) (by decide) ?_
            show Steps p.tables e below (s₁.setTop (mkF m 65 #[.val (.int p0), .val (.int p1), .val (.int ((p0 &&& (2147483647 : Int32)) % (9 : Int32))), .unset, .unset, .unset, .unset, .unset, .unset, .unset, .unset] [])) _
            refine XS.iloadN X0.here hx rfl (hb hby at_65) rfl ?_
            show Steps p.tables e below (s₁.setTop (mkF m 66 #[.val (.int p0), .val (.int p1), .val (.int ((p0 &&& (2147483647 : Int32)) % (9 : Int32))), .unset, .unset, .unset, .unset, .unset, .unset, .unset, .unset] [(.int ((p0 &&& (2147483647 : Int32)) % (9 : Int32)))])) _
            refine XS.iconst X0.here hx rfl (hb hby at_66) ?_
            exact k
          by_cases hc67_20 : ((p0 &&& (2147483647 : Int32)) % (9 : Int32)) = (3 : Int32)
          ·
            have a21 : ∀ t, Steps p.tables e below (s₁.setTop (mkF m 70 #[.val (.int p0), .val (.int p1), .val (.int ((p0 &&& (2147483647 : Int32)) % (9 : Int32))), .unset, .unset, .unset, .unset, .unset, .unset, .unset, .unset] [])) t → Steps p.tables e below (s₁.setTop (entryFrame m #[(.int p0), (.int p1)] maxLocals)) t := by
              intro t k
              refine a19 t ?_
              show Steps p.tables e below (s₁.setTop (mkF m 67 #[.val (.int p0), .val (.int p1), .val (.int ((p0 &&& (2147483647 : Int32)) % (9 : Int32))), .unset, .unset, .unset, .unset, .unset, .unset, .unset, .unset] [(.int (3 : Int32)), (.int ((p0 &&& (2147483647 : Int32)) % (9 : Int32)))])) _
              refine XS.icmpNo X0.here hx rfl (hb hby at_67) rfl (teq hc67_20).2 ?_
              exact k
            obtain ⟨T22, X22, e22, st22⟩ := getS2 X0 hx hZ hown (host := "") (Or.inl (hw _ (List.mem_of_getElem? (i := 29) rfl))) Via.refl e0 S_Y_LESS_WATER (g := (mkF m 70 #[.val (.int p0), .val (.int p1), .val (.int ((p0 &&& (2147483647 : Int32)) % (9 : Int32))), .unset, .unset, .unset, .unset, .unset, .unset, .unset, .unset] [])) rfl (hb hby at_70)
            have a23 : ∀ t, Steps p.tables e below (T22.setTop (mkF m 73 #[.val (.int p0), .val (.int p1), .val (.int ((p0 &&& (2147483647 : Int32)) % (9 : Int32))), .unset, .unset, .unset, .unset, .unset, .unset, .unset, .unset] [(.ref w_Y_LESS_WATER)])) t → Steps p.tables e below (s₁.setTop (entryFrame m #[(.int p0), (.int p1)] maxLocals)) t := fun t k => a21 t (st22 t k)
            have a24 : ∀ t, Steps p.tables e below (T22.setTop (mkF m 175 #[.val (.int p0), .val (.int p1), .val (.int ((p0 &&& (2147483647 : Int32)) % (9 : Int32))), .val (.ref w_Y_LESS_WATER), .val (.double (0 : UInt64)), .second, .val (.int (1 : Int32)), .unset, .unset, .unset, .unset] [])) t → Steps p.tables e below (s₁.setTop (entryFrame m #[(.int p0), (.int p1)] maxLocals)) t := by
              intro t k
              refine a23 t ?_
              show Steps p.tables e below (T22.setTop (mkF m 73 #[.val (.int p0), .val (.int p1), .val (.int ((p0 &&& (2147483647 : Int32)) % (9 : Int32))), .unset, .unset, .unset, .unset, .unset, .unset, .unset, .unset] [(.ref w_Y_LESS_WATER)])) _
              refine XS.astoreN X22.here hx rfl (hb hby at_73) rfl rfl (l' := #[.val (.int p0), .val (.int p1), .val (.int ((p0 &&& (2147483647 : Int32)) % (9 : Int32))), .val (.ref w_Y_LESS_WATER), .unset, .unset, .unset, .unset, .unset, .unset, .unset]) rfl ?_
              show Steps p.tables e below (T22.setTop (mkF m 74 #[.val (.int p0), .val (.int p1), .val (.int ((p0 &&& (2147483647 : Int32)) % (9 : Int32))), .val (.ref w_Y_LESS_WATER), .unset, .unset, .unset, .unset, .unset, .unset, .unset] [])) _
              refine XS.dconst0 X22.here hx rfl (hb hby at_74) (v := 0) rfl ?_
              show Steps p.tables e below (T22.setTop (mkF m 75 #[.val (.int p0), .val (.int p1), .val (.int ((p0 &&& (2147483647 : Int32)) % (9 : Int32))), .val (.ref w_Y_LESS_WATER), .unset, .unset, .unset, .unset, .unset, .unset, .unset] [(.double (0 : UInt64))])) _
              refine XS.dstore X22.here hx rfl (hb hby at_75) rfl (l' := #[.val (.int p0), .val (.int p1), .val (.int ((p0 &&& (2147483647 : Int32)) % (9 : Int32))), .val (.ref w_Y_LESS_WATER), .val (.double (0 : UInt64)), .second, .unset, .unset, .unset, .unset, .unset]) rfl ?_
              show Steps p.tables e below (T22.setTop (mkF m 77 #[.val (.int p0), .val (.int p1), .val (.int ((p0 &&& (2147483647 : Int32)) % (9 : Int32))), .val (.ref w_Y_LESS_WATER), .val (.double (0 : UInt64)), .second, .unset, .unset, .unset, .unset, .unset] [])) _
              refine XS.iconst X22.here hx rfl (hb hby at_77) ?_
              show Steps p.tables e below (T22.setTop (mkF m 78 #[.val (.int p0), .val (.int p1), .val (.int ((p0 &&& (2147483647 : Int32)) % (9 : Int32))), .val (.ref w_Y_LESS_WATER), .val (.double (0 : UInt64)), .second, .unset, .unset, .unset, .unset, .unset] [(.int (1 : Int32))])) _
              refine XS.istore X22.here hx rfl (hb hby at_78) rfl (l' := #[.val (.int p0), .val (.int p1), .val (.int ((p0 &&& (2147483647 : Int32)) % (9 : Int32))), .val (.ref w_Y_LESS_WATER), .val (.double (0 : UInt64)), .second, .val (.int (1 : Int32)), .unset, .unset, .unset, .unset]) rfl ?_
              show Steps p.tables e below (T22.setTop (mkF m 80 #[.val (.int p0), .val (.int p1), .val (.int ((p0 &&& (2147483647 : Int32)) % (9 : Int32))), .val (.ref w_Y_LESS_WATER), .val (.double (0 : UInt64)), .second, .val (.int (1 : Int32)), .unset, .unset, .unset, .unset] [])) _
              refine XS.goto X22.here hx rfl (pc0 := 80) (pc' := 175) rfl (hb hby at_80) (by decide) (by decide) ?_
              exact k
            exact ⟨T22, _, w_Y_LESS_WATER, (0 : UInt64), (1 : Int32), X22, e22, N0, Or.inr (Or.inr (Or.inr (Or.inl ⟨hc9_2, hc27_8, hc47_14, hc67_20, rfl, rfl, rfl⟩))), a24⟩
          ·
            have a25 : ∀ t, Steps p.tables e below (s₁.setTop (mkF m 85 #[.val (.int p0), .val (.int p1), .val (.int ((p0 &&& (2147483647 : Int32)) % (9 : Int32))), .unset, .unset, .unset, .unset, .unset, .unset, .unset, .unset] [(.int (4 : Int32)), (.int ((p0 &&& (2147483647 : Int32)) % (9 : Int32)))])) t → Steps p.tables e below (s₁.setTop (entryFrame m #[(.int p0), (.int p1)] maxLocals)) t := by
              intro t k
              refine a19 t ?_
              show Steps p.tables e below (s₁.setTop (mkF m 67 #[.val (.int p0), .val (.int p1), .val (.int ((p0 &&& (2147483647 : Int32)) % (9 : Int32))), .unset, .unset, .unset, .unset, .unset, .unset, .unset, .unset] [(.int (3 : Int32)), (.int ((p0 &&& (2147483647 : Int32)) % (9 : Int32)))])) _
              refine XS.icmpYes X0.here hx rfl (pc0 := 67) (pc' := 83) rfl (hb hby at_67) rfl (feq hc67_20).2 (by decide) (by decide) ?_
              show Steps p.tables e below (s₁.setTop (mkF m 83 #[.val (.int p0), .val (.int p1), .val (.int ((p0 &&& (2147483647 : Int32)) % (9 : Int32))), .unset, .unset, .unset, .unset, .unset, .unset, .unset, .unset] [])) _
              refine XS.iloadN X0.here hx rfl (hb hby at_83) rfl ?_
              show Steps p.tables e below (s₁.setTop (mkF m 84 #[.val (.int p0), .val (.int p1), .val (.int ((p0 &&& (2147483647 : Int32)) % (9 : Int32))), .unset, .unset, .unset, .unset, .unset, .unset, .unset, .unset] [(.int ((p0 &&& (2147483647 : Int32)) % (9 : Int32)))])) _
              refine XS.iconst X0.here hx rfl (hb hby at_84) ?_
              exact k
            by_cases hc85_26 : ((p0 &&& (2147483647 : Int32)) % (9 : Int32)) = (4 : Int32)
            ·
              have a27 : ∀ t, Steps p.tables e below (s₁.setTop (mkF m 88 #[.val (.int p0), .val (.int p1), .val (.int ((p0 &&& (2147483647 : Int32)) % (9 : Int32))), .unset, .unset, .unset, .unset, .unset, .unset, .unset, .unset] [])) t → Steps p.tables e below (s₁.setTop (entryFrame m #[(.int p0), (.int p1)] maxLocals)) t := by
                intro t k
                refine a25 t ?_
                show Steps p.tables e below (s₁.setTop (mkF m 85 #[.val (.int p0), .val (.int p1), .val (.int ((p0 &&& (2147483647 : Int32)) % (9 : Int32))), .unset, .unset, .unset, .unset, .unset, .unset, .unset, .unset] [(.int (4 : Int32)), (.int ((p0 &&& (2147483647 : Int32)) % (9 : Int32)))])) _
                refine XS.icmpNo X0.here hx rfl (hb hby at_85) rfl (teq hc85_26).2 ?_
                exact k
              obtain ⟨T28, X28, e28, st28⟩ := getS2 X0 hx hZ hown (host := "") (Or.inl (hw _ (List.mem_of_getElem? (i := 18) rfl))) Via.refl e0 S_Y_LESS_AMMONIA (g := (mkF m 88 #[.val (.int p0), .val (.int p1), .val (.int ((p0 &&& (2147483647 : Int32)) % (9 : Int32))), .unset, .unset, .unset, .unset, .unset, .unset, .unset, .unset] [])) rfl (hb hby at_88)
              have a29 : ∀ t, Steps p.tables e below (T28.setTop (mkF m 91 #[.val (.int p0), .val (.int p1), .val (.int ((p0 &&& (2147483647 : Int32)) % (9 : Int32))), .unset, .unset, .unset, .unset, .unset, .unset, .unset, .unset] [(.ref w_Y_LESS_AMMONIA)])) t → Steps p.tables e below (s₁.setTop (entryFrame m #[(.int p0), (.int p1)] maxLocals)) t := fun t k => a27 t (st28 t k)
              have a30 : ∀ t, Steps p.tables e below (T28.setTop (mkF m 175 #[.val (.int p0), .val (.int p1), .val (.int ((p0 &&& (2147483647 : Int32)) % (9 : Int32))), .val (.ref w_Y_LESS_AMMONIA), .val (.double (4607038447727129632 : UInt64)), .second, .val (.int (1 : Int32)), .unset, .unset, .unset, .unset] [])) t → Steps p.tables e below (s₁.setTop (entryFrame m #[(.int p0), (.int p1)] maxLocals)) t := by
                intro t k
                refine a29 t ?_
                show Steps p.tables e below (T28.setTop (mkF m 91 #[.val (.int p0), .val (.int p1), .val (.int ((p0 &&& (2147483647 : Int32)) % (9 : Int32))), .unset, .unset, .unset, .unset, .unset, .unset, .unset, .unset] [(.ref w_Y_LESS_AMMONIA)])) _
                refine XS.astoreN X28.here hx rfl (hb hby at_91) rfl rfl (l' := #[.val (.int p0), .val (.int p1), .val (.int ((p0 &&& (2147483647 : Int32)) % (9 : Int32))), .val (.ref w_Y_LESS_AMMONIA), .unset, .unset, .unset, .unset, .unset, .unset, .unset]) rfl ?_
                show Steps p.tables e below (T28.setTop (mkF m 92 #[.val (.int p0), .val (.int p1), .val (.int ((p0 &&& (2147483647 : Int32)) % (9 : Int32))), .val (.ref w_Y_LESS_AMMONIA), .unset, .unset, .unset, .unset, .unset, .unset, .unset] [])) _
                refine X28.ldc2DoubleC hx hown (mvT hZ (hw _ (List.mem_of_getElem? (i := 20) rfl))) (g := (mkF m 92 #[.val (.int p0), .val (.int p1), .val (.int ((p0 &&& (2147483647 : Int32)) % (9 : Int32))), .val (.ref w_Y_LESS_AMMONIA), .unset, .unset, .unset, .unset, .unset, .unset, .unset] [])) rfl (hb hby at_92) _ ?_
                show Steps p.tables e below (T28.setTop (mkF m 95 #[.val (.int p0), .val (.int p1), .val (.int ((p0 &&& (2147483647 : Int32)) % (9 : Int32))), .val (.ref w_Y_LESS_AMMONIA), .unset, .unset, .unset, .unset, .unset, .unset, .unset] [(.double (4607038447727129632 : UInt64))])) _
                refine XS.dstore X28.here hx rfl (hb hby at_95) rfl (l' := #[.val (.int p0), .val (.int p1), .val (.int ((p0 &&& (2147483647 : Int32)) % (9 : Int32))), .val (.ref w_Y_LESS_AMMONIA), .val (.double (4607038447727129632 : UInt64)), .second, .unset, .unset, .unset, .unset, .unset]) rfl ?_
                show Steps p.tables e below (T28.setTop (mkF m 97 #[.val (.int p0), .val (.int p1), .val (.int ((p0 &&& (2147483647 : Int32)) % (9 : Int32))), .val (.ref w_Y_LESS_AMMONIA), .val (.double (4607038447727129632 : UInt64)), .second, .unset, .unset, .unset, .unset, .unset] [])) _
                refine XS.iconst X28.here hx rfl (hb hby at_97) ?_
                show Steps p.tables e below (T28.setTop (mkF m 98 #[.val (.int p0), .val (.int p1), .val (.int ((p0 &&& (2147483647 : Int32)) % (9 : Int32))), .val (.ref w_Y_LESS_AMMONIA), .val (.double (4607038447727129632 : UInt64)), .second, .unset, .unset, .unset, .unset, .unset] [(.int (1 : Int32))])) _
                refine XS.istore X28.here hx rfl (hb hby at_98) rfl (l' := #[.val (.int p0), .val (.int p1), .val (.int ((p0 &&& (2147483647 : Int32)) % (9 : Int32))), .val (.ref w_Y_LESS_AMMONIA), .val (.double (4607038447727129632 : UInt64)), .second, .val (.int (1 : Int32)), .unset, .unset, .unset, .unset]) rfl ?_
                show Steps p.tables e below (T28.setTop (mkF m 100 #[.val (.int p0), .val (.int p1), .val (.int ((p0 &&& (2147483647 : Int32)) % (9 : Int32))), .val (.ref w_Y_LESS_AMMONIA), .val (.double (4607038447727129632 : UInt64)), .second, .val (.int (1 : Int32)), .unset, .unset, .unset, .unset] [])) _
                refine XS.goto X28.here hx rfl (pc0 := 100) (pc' := 175) rfl (hb hby at_100) (by decide) (by decide) ?_
                exact k
              exact ⟨T28, _, w_Y_LESS_AMMONIA, (4607038447727129632 : UInt64), (1 : Int32), X28, e28, N0, Or.inr (Or.inr (Or.inr (Or.inr (Or.inl ⟨hc9_2, hc27_8, hc47_14, hc67_20, hc85_26, rfl, rfl, rfl⟩)))), a30⟩
            ·
              have a31 : ∀ t, Steps p.tables e below (s₁.setTop (mkF m 105 #[.val (.int p0), .val (.int p1), .val (.int ((p0 &&& (2147483647 : Int32)) % (9 : Int32))), .unset, .unset, .unset, .unset, .unset, .unset, .unset, .unset] [(.int (5 : Int32)), (.int ((p0 &&& (2147483647 : Int32)) % (9 : Int32)))])) t → Steps p.tables e below (s₁.setTop (entryFrame m #[(.int p0), (.int p1)] maxLocals)) t := by
                intro t k
                refine a25 t ?_
                show Steps p.tables e below (s₁.setTop (mkF m 85 #[.val (.int p0), .val (.int p1), .val (.int ((p0 &&& (2147483647 : Int32)) % (9 : Int32))), .unset, .unset, .unset, .unset, .unset, .unset, .unset, .unset] [(.int (4 : Int32)), (.int ((p0 &&& (2147483647 : Int32)) % (9 : Int32)))])) _
                refine XS.icmpYes X0.here hx rfl (pc0 := 85) (pc' := 103) rfl (hb hby at_85) rfl (feq hc85_26).2 (by decide) (by decide) ?_
                show Steps p.tables e below (s₁.setTop (mkF m 103 #[.val (.int p0), .val (.int p1), .val (.int ((p0 &&& (2147483647 : Int32)) % (9 : Int32))), .unset, .unset, .unset, .unset, .unset, .unset, .unset, .unset] [])) _
                refine XS.iloadN X0.here hx rfl (hb hby at_103) rfl ?_
                show Steps p.tables e below (s₁.setTop (mkF m 104 #[.val (.int p0), .val (.int p1), .val (.int ((p0 &&& (2147483647 : Int32)) % (9 : Int32))), .unset, .unset, .unset, .unset, .unset, .unset, .unset, .unset] [(.int ((p0 &&& (2147483647 : Int32)) % (9 : Int32)))])) _
                refine XS.iconst X0.here hx rfl (hb hby at_104) ?_
                exact k
              by_cases hc105_32 : ((p0 &&& (2147483647 : Int32)) % (9 : Int32)) = (5 : Int32)
              ·
                have a33 : ∀ t, Steps p.tables e below (s₁.setTop (mkF m 108 #[.val (.int p0), .val (.int p1), .val (.int ((p0 &&& (2147483647 : Int32)) % (9 : Int32))), .unset, .unset, .unset, .unset, .unset, .unset, .unset, .unset] [])) t → Steps p.tables e below (s₁.setTop (entryFrame m #[(.int p0), (.int p1)] maxLocals)) t := by
                  intro t k
                  refine a31 t ?_
                  show Steps p.tables e below (s₁.setTop (mkF m 105 #[.val (.int p0), .val (.int p1), .val (.int ((p0 &&& (2147483647 : Int32)) % (9 : Int32))), .unset, .unset, .unset, .unset, .unset, .unset, .unset, .unset] [(.int (5 : Int32)), (.int ((p0 &&& (2147483647 : Int32)) % (9 : Int32)))])) _
                  refine XS.icmpNo X0.here hx rfl (hb hby at_105) rfl (teq hc105_32).2 ?_
                  exact k
                obtain ⟨T34, X34, e34, st34⟩ := getS2 X0 hx hZ hown (host := "") (Or.inl (hw _ (List.mem_of_getElem? (i := 16) rfl))) Via.refl e0 S_B_DOUBLY_CHARGED (g := (mkF m 108 #[.val (.int p0), .val (.int p1), .val (.int ((p0 &&& (2147483647 : Int32)) % (9 : Int32))), .unset, .unset, .unset, .unset, .unset, .unset, .unset, .unset] [])) rfl (hb hby at_108)
                have a35 : ∀ t, Steps p.tables e below (T34.setTop (mkF m 111 #[.val (.int p0), .val (.int p1), .val (.int ((p0 &&& (2147483647 : Int32)) % (9 : Int32))), .unset, .unset, .unset, .unset, .unset, .unset, .unset, .unset] [(.ref w_B_DOUBLY_CHARGED)])) t → Steps p.tables e below (s₁.setTop (entryFrame m #[(.int p0), (.int p1)] maxLocals)) t := fun t k => a33 t (st34 t k)
                have a36 : ∀ t, Steps p.tables e below (T34.setTop (mkF m 175 #[.val (.int p0), .val (.int p1), .val (.int ((p0 &&& (2147483647 : Int32)) % (9 : Int32))), .val (.ref w_B_DOUBLY_CHARGED), .val (.double (0 : UInt64)), .second, .val (.int (2 : Int32)), .unset, .unset, .unset, .unset] [])) t → Steps p.tables e below (s₁.setTop (entryFrame m #[(.int p0), (.int p1)] maxLocals)) t := by
                  intro t k
                  refine a35 t ?_
                  show Steps p.tables e below (T34.setTop (mkF m 111 #[.val (.int p0), .val (.int p1), .val (.int ((p0 &&& (2147483647 : Int32)) % (9 : Int32))), .unset, .unset, .unset, .unset, .unset, .unset, .unset, .unset] [(.ref w_B_DOUBLY_CHARGED)])) _
                  refine XS.astoreN X34.here hx rfl (hb hby at_111) rfl rfl (l' := #[.val (.int p0), .val (.int p1), .val (.int ((p0 &&& (2147483647 : Int32)) % (9 : Int32))), .val (.ref w_B_DOUBLY_CHARGED), .unset, .unset, .unset, .unset, .unset, .unset, .unset]) rfl ?_
                  show Steps p.tables e below (T34.setTop (mkF m 112 #[.val (.int p0), .val (.int p1), .val (.int ((p0 &&& (2147483647 : Int32)) % (9 : Int32))), .val (.ref w_B_DOUBLY_CHARGED), .unset, .unset, .unset, .unset, .unset, .unset, .unset] [])) _
                  refine XS.dconst0 X34.here hx rfl (hb hby at_112) (v := 0) rfl ?_
                  show Steps p.tables e below (T34.setTop (mkF m 113 #[.val (.int p0), .val (.int p1), .val (.int ((p0 &&& (2147483647 : Int32)) % (9 : Int32))), .val (.ref w_B_DOUBLY_CHARGED), .unset, .unset, .unset, .unset, .unset, .unset, .unset] [(.double (0 : UInt64))])) _
                  refine XS.dstore X34.here hx rfl (hb hby at_113) rfl (l' := #[.val (.int p0), .val (.int p1), .val (.int ((p0 &&& (2147483647 : Int32)) % (9 : Int32))), .val (.ref w_B_DOUBLY_CHARGED), .val (.double (0 : UInt64)), .second, .unset, .unset, .unset, .unset, .unset]) rfl ?_
                  show Steps p.tables e below (T34.setTop (mkF m 115 #[.val (.int p0), .val (.int p1), .val (.int ((p0 &&& (2147483647 : Int32)) % (9 : Int32))), .val (.ref w_B_DOUBLY_CHARGED), .val (.double (0 : UInt64)), .second, .unset, .unset, .unset, .unset, .unset] [])) _
                  refine XS.iconst X34.here hx rfl (hb hby at_115) ?_
                  show Steps p.tables e below (T34.setTop (mkF m 116 #[.val (.int p0), .val (.int p1), .val (.int ((p0 &&& (2147483647 : Int32)) % (9 : Int32))), .val (.ref w_B_DOUBLY_CHARGED), .val (.double (0 : UInt64)), .second, .unset, .unset, .unset, .unset, .unset] [(.int (2 : Int32))])) _
                  refine XS.istore X34.here hx rfl (hb hby at_116) rfl (l' := #[.val (.int p0), .val (.int p1), .val (.int ((p0 &&& (2147483647 : Int32)) % (9 : Int32))), .val (.ref w_B_DOUBLY_CHARGED), .val (.double (0 : UInt64)), .second, .val (.int (2 : Int32)), .unset, .unset, .unset, .unset]) rfl ?_
                  show Steps p.tables e below (T34.setTop (mkF m 118 #[.val (.int p0), .val (.int p1), .val (.int ((p0 &&& (2147483647 : Int32)) % (9 : Int32))), .val (.ref w_B_DOUBLY_CHARGED), .val (.double (0 : UInt64)), .second, .val (.int (2 : Int32)), .unset, .unset, .unset, .unset] [])) _
                  refine XS.goto X34.here hx rfl (pc0 := 118) (pc' := 175) rfl (hb hby at_118) (by decide) (by decide) ?_
                  exact k
                exact ⟨T34, _, w_B_DOUBLY_CHARGED, (0 : UInt64), (2 : Int32), X34, e34, N0, Or.inr (Or.inr (Or.inr (Or.inr (Or.inr (Or.inl ⟨hc9_2, hc27_8, hc47_14, hc67_20, hc85_26, hc105_32, rfl, rfl, rfl⟩))))), a36⟩
              ·
                have a37 : ∀ t, Steps p.tables e below (s₁.setTop (mkF m 124 #[.val (.int p0), .val (.int p1), .val (.int ((p0 &&& (2147483647 : Int32)) % (9 : Int32))), .unset, .unset, .unset, .unset, .unset, .unset, .unset, .unset] [(.int (6 : Int32)), (.int ((p0 &&& (2147483647 : Int32)) % (9 : Int32)))])) t → Steps p.tables e below (s₁.setTop (entryFrame m #[(.int p0), (.int p1)] maxLocals)) t := by
                  intro t k
                  refine a31 t ?_
                  show Steps p.tables e below (s₁.setTop (mkF m 105 #[.val (.int p0), .val (.int p1), .val (.int ((p0 &&& (2147483647 : Int32)) % (9 : Int32))), .unset, .unset, .unset, .unset, .unset, .unset, .unset, .unset] [(.int (5 : Int32)), (.int ((p0 &&& (2147483647 : Int32)) % (9 : Int32)))])) _
                  refine XS.icmpYes X0.here hx rfl (pc0 := 105) (pc' := 121) rfl (hb hby at_105) rfl (feq hc105_32).2 (by decide) (by decide) ?_
                  show Steps p.tables e below (s₁.setTop (mkF m 121 #[.val (.int p0), .val (.int p1), .val (.int ((p0 &&& (2147483647 : Int32)) % (9 : Int32))), .unset, .unset, .unset, .unset, .unset, .unset, .unset, .unset] [])) _
                  refine XS.iloadN X0.here hx rfl (hb hby at_121) rfl ?_
                  show Steps p.tables e below (s₁.setTop (mkF m 122 #[.val (.int p0), .val (.int p1), .val (.int ((p0 &&& (2147483647 : Int32)) % (9 : Int32))), .unset, .unset, .unset, .unset, .unset, .unset, .unset, .unset] [(.int ((p0 &&& (2147483647 : Int32)) % (9 : Int32)))])) _
                  refine XS.bipush X0.here hx rfl (hb hby at_122) ?_
                  exact k
                by_cases hc124_38 : ((p0 &&& (2147483647 : Int32)) % (9 : Int32)) = (6 : Int32)
                ·
                  have a39 : ∀ t, Steps p.tables e below (s₁.setTop (mkF m 127 #[.val (.int p0), .val (.int p1), .val (.int ((p0 &&& (2147483647 : Int32)) % (9 : Int32))), .unset, .unset, .unset, .unset, .unset, .unset, .unset, .unset] [])) t → Steps p.tables e below (s₁.setTop (entryFrame m #[(.int p0), (.int p1)] maxLocals)) t := by
                    intro t k
                    refine a37 t ?_
                    show Steps p.tables e below (s₁.setTop (mkF m 124 #[.val (.int p0), .val (.int p1), .val (.int ((p0 &&& (2147483647 : Int32)) % (9 : Int32))), .unset, .unset, .unset, .unset, .unset, .unset, .unset, .unset] [(.int (6 : Int32)), (.int ((p0 &&& (2147483647 : Int32)) % (9 : Int32)))])) _
                    refine XS.icmpNo X0.here hx rfl (hb hby at_124) rfl (teq hc124_38).2 ?_
                    exact k
                  obtain ⟨T40, X40, e40, st40⟩ := getS2 X0 hx hZ hown (host := "") (Or.inl (hw _ (List.mem_of_getElem? (i := 24) rfl))) Via.refl e0 S_Y_DOUBLY_CHARGED (g := (mkF m 127 #[.val (.int p0), .val (.int p1), .val (.int ((p0 &&& (2147483647 : Int32)) % (9 : Int32))), .unset, .unset, .unset, .unset, .unset, .unset, .unset, .unset] [])) rfl (hb hby at_127)
                  have a41 : ∀ t, Steps p.tables e below (T40.setTop (mkF m 130 #[.val (.int p0), .val (.int p1), .val (.int ((p0 &&& (2147483647 : Int32)) % (9 : Int32))), .unset, .unset, .unset, .unset, .unset, .unset, .unset, .unset] [(.ref w_Y_DOUBLY_CHARGED)])) t → Steps p.tables e below (s₁.setTop (entryFrame m #[(.int p0), (.int p1)] maxLocals)) t := fun t k => a39 t (st40 t k)
                  have a42 : ∀ t, Steps p.tables e below (T40.setTop (mkF m 175 #[.val (.int p0), .val (.int p1), .val (.int ((p0 &&& (2147483647 : Int32)) % (9 : Int32))), .val (.ref w_Y_DOUBLY_CHARGED), .val (.double (4625762741046049652 : UInt64)), .second, .val (.int (2 : Int32)), .unset, .unset, .unset, .unset] [])) t → Steps p.tables e below (s₁.setTop (entryFrame m #[(.int p0), (.int p1)] maxLocals)) t := by
                    intro t k
                    refine a41 t ?_
                    show Steps p.tables e below (T40.setTop (mkF m 130 #[.val (.int p0), .val (.int p1), .val (.int ((p0 &&& (2147483647 : Int32)) % (9 : Int32))), .unset, .unset, .unset, .unset, .unset, .unset, .unset, .unset] [(.ref w_Y_DOUBLY_CHARGED)])) _
                    refine XS.astoreN X40.here hx rfl (hb hby at_130) rfl rfl (l' := #[.val (.int p0), .val (.int p1), .val (.int ((p0 &&& (2147483647 : Int32)) % (9 : Int32))), .val (.ref w_Y_DOUBLY_CHARGED), .unset, .unset, .unset, .unset, .unset, .unset, .unset]) rfl ?_
                    show Steps p.tables e below (T40.setTop (mkF m 131 #[.val (.int p0), .val (.int p1), .val (.int ((p0 &&& (2147483647 : Int32)) % (9 : Int32))), .val (.ref w_Y_DOUBLY_CHARGED), .unset, .unset, .unset, .unset, .unset, .unset, .unset] [])) _
                    refine X40.ldc2DoubleC hx hown (mvT hZ (hw _ (List.mem_of_getElem? (i := 23) rfl))) (g := (mkF m 131 #[.val (.int p0), .val (.int p1), .val (.int ((p0 &&& (2147483647 : Int32)) % (9 : Int32))), .val (.ref w_Y_DOUBLY_CHARGED), .unset, .unset, .unset, .unset, .unset, .unset, .unset] [])) rfl (hb hby at_131) _ ?_
                    show Steps p.tables e below (T40.setTop (mkF m 134 #[.val (.int p0), .val (.int p1), .val (.int ((p0 &&& (2147483647 : Int32)) % (9 : Int32))), .val (.ref w_Y_DOUBLY_CHARGED), .unset, .unset, .unset, .unset, .unset, .unset, .unset] [(.double (4625762741046049652 : UInt64))])) _
                    refine XS.dstore X40.here hx rfl (hb hby at_134) rfl (l' := #[.val (.int p0), .val (.int p1), .val (.int ((p0 &&& (2147483647 : Int32)) % (9 : Int32))), .val (.ref w_Y_DOUBLY_CHARGED), .val (.double (4625762741046049652 : UInt64)), .second, .unset, .unset, .unset, .unset, .unset]) rfl ?_
                    show Steps p.tables e below (T40.setTop (mkF m 136 #[.val (.int p0), .val (.int p1), .val (.int ((p0 &&& (2147483647 : Int32)) % (9 : Int32))), .val (.ref w_Y_DOUBLY_CHARGED), .val (.double (4625762741046049652 : UInt64)), .second, .unset, .unset, .unset, .unset, .unset] [])) _
                    refine XS.iconst X40.here hx rfl (hb hby at_136) ?_
                    show Steps p.tables e below (T40.setTop (mkF m 137 #[.val (.int p0), .val (.int p1), .val (.int ((p0 &&& (2147483647 : Int32)) % (9 : Int32))), .val (.ref w_Y_DOUBLY_CHARGED), .val (.double (4625762741046049652 : UInt64)), .second, .unset, .unset, .unset, .unset, .unset] [(.int (2 : Int32))])) _
                    refine XS.istore X40.here hx rfl (hb hby at_137) rfl (l' := #[.val (.int p0), .val (.int p1), .val (.int ((p0 &&& (2147483647 : Int32)) % (9 : Int32))), .val (.ref w_Y_DOUBLY_CHARGED), .val (.double (4625762741046049652 : UInt64)), .second, .val (.int (2 : Int32)), .unset, .unset, .unset, .unset]) rfl ?_
                    show Steps p.tables e below (T40.setTop (mkF m 139 #[.val (.int p0), .val (.int p1), .val (.int ((p0 &&& (2147483647 : Int32)) % (9 : Int32))), .val (.ref w_Y_DOUBLY_CHARGED), .val (.double (4625762741046049652 : UInt64)), .second, .val (.int (2 : Int32)), .unset, .unset, .unset, .unset] [])) _
                    refine XS.goto X40.here hx rfl (pc0 := 139) (pc' := 175) rfl (hb hby at_139) (by decide) (by decide) ?_
                    exact k
                  exact ⟨T40, _, w_Y_DOUBLY_CHARGED, (4625762741046049652 : UInt64), (2 : Int32), X40, e40, N0, Or.inr (Or.inr (Or.inr (Or.inr (Or.inr (Or.inr (Or.inl ⟨hc9_2, hc27_8, hc47_14, hc67_20, hc85_26, hc105_32, hc124_38, rfl, rfl, rfl⟩)))))), a42⟩
                ·
                  have a43 : ∀ t, Steps p.tables e below (s₁.setTop (mkF m 145 #[.val (.int p0), .val (.int p1), .val (.int ((p0 &&& (2147483647 : Int32)) % (9 : Int32))), .unset, .unset, .unset, .unset, .unset, .unset, .unset, .unset] [(.int (7 : Int32)), (.int ((p0 &&& (2147483647 : Int32)) % (9 : Int32)))])) t → Steps p.tables e below (s₁.setTop (entryFrame m #[(.int p0), (.int p1)] maxLocals)) t := by
                    intro t k
                    refine a37 t ?_
                    show Steps p.tables e below (s₁.setTop (mkF m 124 #[.val (.int p0), .val (.int p1), .val (.int ((p0 &&& (2147483647 : Int32)) % (9 : Int32))), .unset, .unset, .unset, .unset, .unset, .unset, .unset, .unset] [(.int (6 : Int32)), (.int ((p0 &&& (2147483647 : Int32)) % (9 : Int32)))])) _
                    refine XS.icmpYes X0.here hx rfl (pc0 := 124) (pc' := 142) rfl (hb hby at_124) rfl (feq hc124_38).2 (by decide) (by decide) ?_
                    show Steps p.tables e below (s₁.setTop (mkF m 142 #[.val (.int p0), .val (.int p1), .val (.int ((p0 &&& (2147483647 : Int32)) % (9 : Int32))), .unset, .unset, .unset, .unset, .unset, .unset, .unset, .unset] [])) _
                    refine XS.iloadN X0.here hx rfl (hb hby at_142) rfl ?_
                    show Steps p.tables e below (s₁.setTop (mkF m 143 #[.val (.int p0), .val (.int p1), .val (.int ((p0 &&& (2147483647 : Int32)) % (9 : Int32))), .unset, .unset, .unset, .unset, .unset, .unset, .unset, .unset] [(.int ((p0 &&& (2147483647 : Int32)) % (9 : Int32)))])) _
                    refine XS.bipush X0.here hx rfl (hb hby at_143) ?_
                    exact k
                  by_cases hc145_44 : ((p0 &&& (2147483647 : Int32)) % (9 : Int32)) = (7 : Int32)
                  ·
                    have a45 : ∀ t, Steps p.tables e below (s₁.setTop (mkF m 148 #[.val (.int p0), .val (.int p1), .val (.int ((p0 &&& (2147483647 : Int32)) % (9 : Int32))), .unset, .unset, .unset, .unset, .unset, .unset, .unset, .unset] [])) t → Steps p.tables e below (s₁.setTop (entryFrame m #[(.int p0), (.int p1)] maxLocals)) t := by
                      intro t k
                      refine a43 t ?_
                      show Steps p.tables e below (s₁.setTop (mkF m 145 #[.val (.int p0), .val (.int p1), .val (.int ((p0 &&& (2147483647 : Int32)) % (9 : Int32))), .unset, .unset, .unset, .unset, .unset, .unset, .unset, .unset] [(.int (7 : Int32)), (.int ((p0 &&& (2147483647 : Int32)) % (9 : Int32)))])) _
                      refine XS.icmpNo X0.here hx rfl (hb hby at_145) rfl (teq hc145_44).2 ?_
                      exact k
                    obtain ⟨T46, X46, e46, st46⟩ := getS2 X0 hx hZ hown (host := "") (Or.inl (hw _ (List.mem_of_getElem? (i := 34) rfl))) Via.refl e0 S_B_LESS_WATER (g := (mkF m 148 #[.val (.int p0), .val (.int p1), .val (.int ((p0 &&& (2147483647 : Int32)) % (9 : Int32))), .unset, .unset, .unset, .unset, .unset, .unset, .unset, .unset] [])) rfl (hb hby at_148)
                    have a47 : ∀ t, Steps p.tables e below (T46.setTop (mkF m 151 #[.val (.int p0), .val (.int p1), .val (.int ((p0 &&& (2147483647 : Int32)) % (9 : Int32))), .unset, .unset, .unset, .unset, .unset, .unset, .unset, .unset] [(.ref w_B_LESS_WATER)])) t → Steps p.tables e below (s₁.setTop (entryFrame m #[(.int p0), (.int p1)] maxLocals)) t := fun t k => a45 t (st46 t k)
                    have a48 : ∀ t, Steps p.tables e below (T46.setTop (mkF m 175 #[.val (.int p0), .val (.int p1), .val (.int ((p0 &&& (2147483647 : Int32)) % (9 : Int32))), .val (.ref w_B_LESS_WATER), .val (.double (13849134777900825460 : UInt64)), .second, .val (.int (1 : Int32)), .unset, .unset, .unset, .unset] [])) t → Steps p.tables e below (s₁.setTop (entryFrame m #[(.int p0), (.int p1)] maxLocals)) t := by
                      intro t k
                      refine a47 t ?_
                      show Steps p.tables e below (T46.setTop (mkF m 151 #[.val (.int p0), .val (.int p1), .val (.int ((p0 &&& (2147483647 : Int32)) % (9 : Int32))), .unset, .unset, .unset, .unset, .unset, .unset, .unset, .unset] [(.ref w_B_LESS_WATER)])) _
                      refine XS.astoreN X46.here hx rfl (hb hby at_151) rfl rfl (l' := #[.val (.int p0), .val (.int p1), .val (.int ((p0 &&& (2147483647 : Int32)) % (9 : Int32))), .val (.ref w_B_LESS_WATER), .unset, .unset, .unset, .unset, .unset, .unset, .unset]) rfl ?_
                      show Steps p.tables e below (T46.setTop (mkF m 152 #[.val (.int p0), .val (.int p1), .val (.int ((p0 &&& (2147483647 : Int32)) % (9 : Int32))), .val (.ref w_B_LESS_WATER), .unset, .unset, .unset, .unset, .unset, .unset, .unset] [])) _
                      refine X46.ldc2DoubleC hx hown (mvT hZ (hw _ (List.mem_of_getElem? (i := 36) rfl))) (g := (mkF m 152 #[.val (.int p0), .val (.int p1), .val (.int ((p0 &&& (2147483647 : Int32)) % (9 : Int32))), .val (.ref w_B_LESS_WATER), .unset, .unset, .unset, .unset, .unset, .unset, .unset] [])) rfl (hb hby at_152) _ ?_
                      show Steps p.tables e below (T46.setTop (mkF m 155 #[.val (.int p0), .val (.int p1), .val (.int ((p0 &&& (2147483647 : Int32)) % (9 : Int32))), .val (.ref w_B_LESS_WATER), .unset, .unset, .unset, .unset, .unset, .unset, .unset] [(.double (13849134777900825460 : UInt64))])) _
                      refine XS.dstore X46.here hx rfl (hb hby at_155) rfl (l' := #[.val (.int p0), .val (.int p1), .val (.int ((p0 &&& (2147483647 : Int32)) % (9 : Int32))), .val (.ref w_B_LESS_WATER), .val (.double (13849134777900825460 : UInt64)), .second, .unset, .unset, .unset, .unset, .unset]) rfl ?_
                      show Steps p.tables e below (T46.setTop (mkF m 157 #[.val (.int p0), .val (.int p1), .val (.int ((p0 &&& (2147483647 : Int32)) % (9 : Int32))), .val (.ref w_B_LESS_WATER), .val (.double (13849134777900825460 : UInt64)), .second, .unset, .unset, .unset, .unset, .unset] [])) _
                      refine XS.iconst X46.here hx rfl (hb hby at_157) ?_
                      show Steps p.tables e below (T46.setTop (mkF m 158 #[.val (.int p0), .val (.int p1), .val (.int ((p0 &&& (2147483647 : Int32)) % (9 : Int32))), .val (.ref w_B_LESS_WATER), .val (.double (13849134777900825460 : UInt64)), .second, .unset, .unset, .unset, .unset, .unset] [(.int (1 : Int32))])) _
                      refine XS.istore X46.here hx rfl (hb hby at_158) rfl (l' := #[.val (.int p0), .val (.int p1), .val (.int ((p0 &&& (2147483647 : Int32)) % (9 : Int32))), .val (.ref w_B_LESS_WATER), .val (.double (13849134777900825460 : UInt64)), .second, .val (.int (1 : Int32)), .unset, .unset, .unset, .unset]) rfl ?_
                      show Steps p.tables e below (T46.setTop (mkF m 160 #[.val (.int p0), .val (.int p1), .val (.int ((p0 &&& (2147483647 : Int32)) % (9 : Int32))), .val (.ref w_B_LESS_WATER), .val (.double (13849134777900825460 : UInt64)), .second, .val (.int (1 : Int32)), .unset, .unset, .unset, .unset] [])) _
                      refine XS.goto X46.here hx rfl (pc0 := 160) (pc' := 175) rfl (hb hby at_160) (by decide) (by decide) ?_
                      exact k
                    exact ⟨T46, _, w_B_LESS_WATER, (13849134777900825460 : UInt64), (1 : Int32), X46, e46, N0, Or.inr (Or.inr (Or.inr (Or.inr (Or.inr (Or.inr (Or.inr (Or.inl ⟨hc9_2, hc27_8, hc47_14, hc67_20, hc85_26, hc105_32, hc124_38, hc145_44, rfl, rfl, rfl⟩))))))), a48⟩
                  ·
                    have a49 : ∀ t, Steps p.tables e below (s₁.setTop (mkF m 163 #[.val (.int p0), .val (.int p1), .val (.int ((p0 &&& (2147483647 : Int32)) % (9 : Int32))), .unset, .unset, .unset, .unset, .unset, .unset, .unset, .unset] [])) t → Steps p.tables e below (s₁.setTop (entryFrame m #[(.int p0), (.int p1)] maxLocals)) t := by
                      intro t k
                      refine a43 t ?_
                      show Steps p.tables e below (s₁.setTop (mkF m 145 #[.val (.int p0), .val (.int p1), .val (.int ((p0 &&& (2147483647 : Int32)) % (9 : Int32))), .unset, .unset, .unset, .unset, .unset, .unset, .unset, .unset] [(.int (7 : Int32)), (.int ((p0 &&& (2147483647 : Int32)) % (9 : Int32)))])) _
                      refine XS.icmpYes X0.here hx rfl (pc0 := 145) (pc' := 163) rfl (hb hby at_145) rfl (feq hc145_44).2 (by decide) (by decide) ?_
                      exact k
                    obtain ⟨T50, X50, e50, st50⟩ := getS2 X0 hx hZ hown (host := "") (Or.inl (hw _ (List.mem_of_getElem? (i := 26) rfl))) Via.refl e0 S_B_LESS_AMMONIA (g := (mkF m 163 #[.val (.int p0), .val (.int p1), .val (.int ((p0 &&& (2147483647 : Int32)) % (9 : Int32))), .unset, .unset, .unset, .unset, .unset, .unset, .unset, .unset] [])) rfl (hb hby at_163)
                    have a51 : ∀ t, Steps p.tables e below (T50.setTop (mkF m 166 #[.val (.int p0), .val (.int p1), .val (.int ((p0 &&& (2147483647 : Int32)) % (9 : Int32))), .unset, .unset, .unset, .unset, .unset, .unset, .unset, .unset] [(.ref w_B_LESS_AMMONIA)])) t → Steps p.tables e below (s₁.setTop (entryFrame m #[(.int p0), (.int p1)] maxLocals)) t := fun t k => a49 t (st50 t k)
                    have a52 : ∀ t, Steps p.tables e below (T50.setTop (mkF m 175 #[.val (.int p0), .val (.int p1), .val (.int ((p0 &&& (2147483647 : Int32)) % (9 : Int32))), .val (.ref w_B_LESS_AMMONIA), .val (.double (13848857802020142547 : UInt64)), .second, .val (.int (1 : Int32)), .unset, .unset, .unset, .unset] [])) t → Steps p.tables e below (s₁.setTop (entryFrame m #[(.int p0), (.int p1)] maxLocals)) t := by
                      intro t k
                      refine a51 t ?_
                      show Steps p.tables e below (T50.setTop (mkF m 166 #[.val (.int p0), .val (.int p1), .val (.int ((p0 &&& (2147483647 : Int32)) % (9 : Int32))), .unset, .unset, .unset, .unset, .unset, .unset, .unset, .unset] [(.ref w_B_LESS_AMMONIA)])) _
                      refine XS.astoreN X50.here hx rfl (hb hby at_166) rfl rfl (l' := #[.val (.int p0), .val (.int p1), .val (.int ((p0 &&& (2147483647 : Int32)) % (9 : Int32))), .val (.ref w_B_LESS_AMMONIA), .unset, .unset, .unset, .unset, .unset, .unset, .unset]) rfl ?_
                      show Steps p.tables e below (T50.setTop (mkF m 167 #[.val (.int p0), .val (.int p1), .val (.int ((p0 &&& (2147483647 : Int32)) % (9 : Int32))), .val (.ref w_B_LESS_AMMONIA), .unset, .unset, .unset, .unset, .unset, .unset, .unset] [])) _
                      refine X50.ldc2DoubleC hx hown (mvT hZ (hw _ (List.mem_of_getElem? (i := 28) rfl))) (g := (mkF m 167 #[.val (.int p0), .val (.int p1), .val (.int ((p0 &&& (2147483647 : Int32)) % (9 : Int32))), .val (.ref w_B_LESS_AMMONIA), .unset, .unset, .unset, .unset, .unset, .unset, .unset] [])) rfl (hb hby at_167) _ ?_
                      show Steps p.tables e below (T50.setTop (mkF m 170 #[.val (.int p0), .val (.int p1), .val (.int ((p0 &&& (2147483647 : Int32)) % (9 : Int32))), .val (.ref w_B_LESS_AMMONIA), .unset, .unset, .unset, .unset, .unset, .unset, .unset] [(.double (13848857802020142547 : UInt64))])) _
                      refine XS.dstore X50.here hx rfl (hb hby at_170) rfl (l' := #[.val (.int p0), .val (.int p1), .val (.int ((p0 &&& (2147483647 : Int32)) % (9 : Int32))), .val (.ref w_B_LESS_AMMONIA), .val (.double (13848857802020142547 : UInt64)), .second, .unset, .unset, .unset, .unset, .unset]) rfl ?_
                      show Steps p.tables e below (T50.setTop (mkF m 172 #[.val (.int p0), .val (.int p1), .val (.int ((p0 &&& (2147483647 : Int32)) % (9 : Int32))), .val (.ref w_B_LESS_AMMONIA), .val (.double (13848857802020142547 : UInt64)), .second, .unset, .unset, .unset, .unset, .unset] [])) _
                      refine XS.iconst X50.here hx rfl (hb hby at_172) ?_
                      show Steps p.tables e below (T50.setTop (mkF m 173 #[.val (.int p0), .val (.int p1), .val (.int ((p0 &&& (2147483647 : Int32)) % (9 : Int32))), .val (.ref w_B_LESS_AMMONIA), .val (.double (13848857802020142547 : UInt64)), .second, .unset, .unset, .unset, .unset, .unset] [(.int (1 : Int32))])) _
                      refine XS.istore X50.here hx rfl (hb hby at_173) rfl (l' := #[.val (.int p0), .val (.int p1), .val (.int ((p0 &&& (2147483647 : Int32)) % (9 : Int32))), .val (.ref w_B_LESS_AMMONIA), .val (.double (13848857802020142547 : UInt64)), .second, .val (.int (1 : Int32)), .unset, .unset, .unset, .unset]) rfl ?_
                      exact k
                    exact ⟨T50, _, w_B_LESS_AMMONIA, (13848857802020142547 : UInt64), (1 : Int32), X50, e50, N0, Or.inr (Or.inr (Or.inr (Or.inr (Or.inr (Or.inr (Or.inr (Or.inr (⟨hc9_2, hc27_8, hc47_14, hc67_20, hc85_26, hc105_32, hc124_38, hc145_44, rfl, rfl, rfl⟩)))))))), a52⟩
  have hu : Exa Z h0 u "com/example/peptools/peptools/spectra/IonType" ∧ Fld Z h0 u "com/example/peptools/peptools/spectra/IonType" "charge" "I" (.int c_) ∧ Fld Z h0 u "com/example/peptools/peptools/spectra/IonType" "neutralShift" "D" (.double sh) ∧ (c_ = 1 ∨ c_ = 2) ∧ Jvm.FP.Core.DFin sh := by
    rcases JU with ⟨_, rfl, rfl, rfl⟩ | ⟨_, _, rfl, rfl, rfl⟩ | ⟨_, _, _, rfl, rfl, rfl⟩ | ⟨_, _, _, _, rfl, rfl, rfl⟩ | ⟨_, _, _, _, _, rfl, rfl, rfl⟩ | ⟨_, _, _, _, _, _, rfl, rfl, rfl⟩ | ⟨_, _, _, _, _, _, _, rfl, rfl, rfl⟩ | ⟨_, _, _, _, _, _, _, _, rfl, rfl, rfl⟩ | ⟨_, _, _, _, _, _, _, _, rfl, rfl, rfl⟩
    · exact ⟨X_B, F_B_charge, F_B_neutralShift, Or.inl rfl, (Jvm.FP.Core.fin_bits _).mpr (by decide)⟩
    · exact ⟨X_Y, F_Y_charge, F_Y_neutralShift, Or.inl rfl, (Jvm.FP.Core.fin_bits _).mpr (by decide)⟩
    · exact ⟨X_A, F_A_charge, F_A_neutralShift, Or.inl rfl, (Jvm.FP.Core.fin_bits _).mpr (by decide)⟩
    · exact ⟨X_Y_LESS_WATER, F_Y_LESS_WATER_charge, F_Y_LESS_WATER_neutralShift, Or.inl rfl, (Jvm.FP.Core.fin_bits _).mpr (by decide)⟩
    · exact ⟨X_Y_LESS_AMMONIA, F_Y_LESS_AMMONIA_charge, F_Y_LESS_AMMONIA_neutralShift, Or.inl rfl, (Jvm.FP.Core.fin_bits _).mpr (by decide)⟩
    · exact ⟨X_B_DOUBLY_CHARGED, F_B_DOUBLY_CHARGED_charge, F_B_DOUBLY_CHARGED_neutralShift, Or.inr rfl, (Jvm.FP.Core.fin_bits _).mpr (by decide)⟩
    · exact ⟨X_Y_DOUBLY_CHARGED, F_Y_DOUBLY_CHARGED_charge, F_Y_DOUBLY_CHARGED_neutralShift, Or.inr rfl, (Jvm.FP.Core.fin_bits _).mpr (by decide)⟩
    · exact ⟨X_B_LESS_WATER, F_B_LESS_WATER_charge, F_B_LESS_WATER_neutralShift, Or.inl rfl, (Jvm.FP.Core.fin_bits _).mpr (by decide)⟩
    · exact ⟨X_B_LESS_AMMONIA, F_B_LESS_AMMONIA_charge, F_B_LESS_AMMONIA_neutralShift, Or.inl rfl, (Jvm.FP.Core.fin_bits _).mpr (by decide)⟩
  have a54 : ∀ t, Steps p.tables e below (T53.setTop (mkF m 205 #[.val (.int p0), .val (.int p1), .val (.int ((p0 &&& (2147483647 : Int32)) % (9 : Int32))), .val (.ref u), .val (.double sh), .second, .val (.int c_), .val (.double (FP.ddiv (FP.i2d p1) (4634204016564240384 : UInt64))), .second, .val (.double (FP.dsub (FP.dsub (FP.dmul (FP.ddiv (FP.i2d p1) (4634204016564240384 : UInt64)) (FP.i2d c_)) sh) (FP.dmul (FP.i2d c_) (4607215186990906156 : UInt64)))), .second] [(.double (FP.ddiv (FP.i2d p1) (4634204016564240384 : UInt64))), (.ref u)])) t → Steps p.tables e below (s₁.setTop (entryFrame m #[(.int p0), (.int p1)] maxLocals)) t := by
    intro t k
    refine a53 t ?_
    show Steps p.tables e below (T53.setTop (mkF m 175 #[.val (.int p0), .val (.int p1), .val (.int ((p0 &&& (2147483647 : Int32)) % (9 : Int32))), .val (.ref u), .val (.double sh), .second, .val (.int c_), .unset, .unset, .unset, .unset] [])) _
    refine XS.iloadN X53.here hx rfl (hb hby at_175) rfl ?_
    show Steps p.tables e below (T53.setTop (mkF m 176 #[.val (.int p0), .val (.int p1), .val (.int ((p0 &&& (2147483647 : Int32)) % (9 : Int32))), .val (.ref u), .val (.double sh), .second, .val (.int c_), .unset, .unset, .unset, .unset] [(.int p1)])) _
    refine XS.i2dS X53.here hx rfl (hb hby at_176) rfl rfl ?_
    show Steps p.tables e below (T53.setTop (mkF m 177 #[.val (.int p0), .val (.int p1), .val (.int ((p0 &&& (2147483647 : Int32)) % (9 : Int32))), .val (.ref u), .val (.double sh), .second, .val (.int c_), .unset, .unset, .unset, .unset] [(.double (FP.i2d p1))])) _
    refine X53.ldc2DoubleC hx hown (mvT hZ (hw _ (List.mem_of_getElem? (i := 4) rfl))) (g := (mkF m 177 #[.val (.int p0), .val (.int p1), .val (.int ((p0 &&& (2147483647 : Int32)) % (9 : Int32))), .val (.ref u), .val (.double sh), .second, .val (.int c_), .unset, .unset, .unset, .unset] [(.double (FP.i2d p1))])) rfl (hb hby at_177) _ ?_
    show Steps p.tables e below (T53.setTop (mkF m 180 #[.val (.int p0), .val (.int p1), .val (.int ((p0 &&& (2147483647 : Int32)) % (9 : Int32))), .val (.ref u), .val (.double sh), .second, .val (.int c_), .unset, .unset, .unset, .unset] [(.double (4634204016564240384 : UInt64)), (.double (FP.i2d p1))])) _
    refine XS.ddivS X53.here hx rfl (hb hby at_180) rfl (nn64 (own_mz p1).1) rfl ?_
    show Steps p.tables e below (T53.setTop (mkF m 181 #[.val (.int p0), .val (.int p1), .val (.int ((p0 &&& (2147483647 : Int32)) % (9 : Int32))), .val (.ref u), .val (.double sh), .second, .val (.int c_), .unset, .unset, .unset, .unset] [(.double (FP.ddiv (FP.i2d p1) (4634204016564240384 : UInt64)))])) _
    refine XS.dstore X53.here hx rfl (hb hby at_181) rfl (l' := #[.val (.int p0), .val (.int p1), .val (.int ((p0 &&& (2147483647 : Int32)) % (9 : Int32))), .val (.ref u), .val (.double sh), .second, .val (.int c_), .val (.double (FP.ddiv (FP.i2d p1) (4634204016564240384 : UInt64))), .second, .unset, .unset]) rfl ?_
    show Steps p.tables e below (T53.setTop (mkF m 183 #[.val (.int p0), .val (.int p1), .val (.int ((p0 &&& (2147483647 : Int32)) % (9 : Int32))), .val (.ref u), .val (.double sh), .second, .val (.int c_), .val (.double (FP.ddiv (FP.i2d p1) (4634204016564240384 : UInt64))), .second, .unset, .unset] [])) _
    refine XS.dload X53.here hx rfl (hb hby at_183) rfl ?_
    show Steps p.tables e below (T53.setTop (mkF m 185 #[.val (.int p0), .val (.int p1), .val (.int ((p0 &&& (2147483647 : Int32)) % (9 : Int32))), .val (.ref u), .val (.double sh), .second, .val (.int c_), .val (.double (FP.ddiv (FP.i2d p1) (4634204016564240384 : UInt64))), .second, .unset, .unset] [(.double (FP.ddiv (FP.i2d p1) (4634204016564240384 : UInt64)))])) _
    refine XS.iload X53.here hx rfl (hb hby at_185) rfl ?_
    show Steps p.tables e below (T53.setTop (mkF m 187 #[.val (.int p0), .val (.int p1), .val (.int ((p0 &&& (2147483647 : Int32)) % (9 : Int32))), .val (.ref u), .val (.double sh), .second, .val (.int c_), .val (.double (FP.ddiv (FP.i2d p1) (4634204016564240384 : UInt64))), .second, .unset, .unset] [(.int c_), (.double (FP.ddiv (FP.i2d p1) (4634204016564240384 : UInt64)))])) _
    refine XS.i2dS X53.here hx rfl (hb hby at_187) rfl rfl ?_
    show Steps p.tables e below (T53.setTop (mkF m 188 #[.val (.int p0), .val (.int p1), .val (.int ((p0 &&& (2147483647 : Int32)) % (9 : Int32))), .val (.ref u), .val (.double sh), .second, .val (.int c_), .val (.double (FP.ddiv (FP.i2d p1) (4634204016564240384 : UInt64))), .second, .unset, .unset] [(.double (FP.i2d c_)), (.double (FP.ddiv (FP.i2d p1) (4634204016564240384 : UInt64)))])) _
    refine XS.dmulS X53.here hx rfl (hb hby at_188) rfl (nn64 (own_n1 p1 c_ hu.2.2.2.1).1) rfl ?_
    show Steps p.tables e below (T53.setTop (mkF m 189 #[.val (.int p0), .val (.int p1), .val (.int ((p0 &&& (2147483647 : Int32)) % (9 : Int32))), .val (.ref u), .val (.double sh), .second, .val (.int c_), .val (.double (FP.ddiv (FP.i2d p1) (4634204016564240384 : UInt64))), .second, .unset, .unset] [(.double (FP.dmul (FP.ddiv (FP.i2d p1) (4634204016564240384 : UInt64)) (FP.i2d c_)))])) _
    refine XS.dload X53.here hx rfl (hb hby at_189) rfl ?_
    show Steps p.tables e below (T53.setTop (mkF m 191 #[.val (.int p0), .val (.int p1), .val (.int ((p0 &&& (2147483647 : Int32)) % (9 : Int32))), .val (.ref u), .val (.double sh), .second, .val (.int c_), .val (.double (FP.ddiv (FP.i2d p1) (4634204016564240384 : UInt64))), .second, .unset, .unset] [(.double sh), (.double (FP.dmul (FP.ddiv (FP.i2d p1) (4634204016564240384 : UInt64)) (FP.i2d c_)))])) _
    refine XS.dsubS X53.here hx rfl (hb hby at_191) rfl (own_n2 p1 c_ hu.2.2.2.1 hu.2.2.2.2) rfl ?_
    show Steps p.tables e below (T53.setTop (mkF m 192 #[.val (.int p0), .val (.int p1), .val (.int ((p0 &&& (2147483647 : Int32)) % (9 : Int32))), .val (.ref u), .val (.double sh), .second, .val (.int c_), .val (.double (FP.ddiv (FP.i2d p1) (4634204016564240384 : UInt64))), .second, .unset, .unset] [(.double (FP.dsub (FP.dmul (FP.ddiv (FP.i2d p1) (4634204016564240384 : UInt64)) (FP.i2d c_)) sh))])) _
    refine XS.iload X53.here hx rfl (hb hby at_192) rfl ?_
    show Steps p.tables e below (T53.setTop (mkF m 194 #[.val (.int p0), .val (.int p1), .val (.int ((p0 &&& (2147483647 : Int32)) % (9 : Int32))), .val (.ref u), .val (.double sh), .second, .val (.int c_), .val (.double (FP.ddiv (FP.i2d p1) (4634204016564240384 : UInt64))), .second, .unset, .unset] [(.int c_), (.double (FP.dsub (FP.dmul (FP.ddiv (FP.i2d p1) (4634204016564240384 : UInt64)) (FP.i2d c_)) sh))])) _
    refine XS.i2dS X53.here hx rfl (hb hby at_194) rfl rfl ?_
    show Steps p.tables e below (T53.setTop (mkF m 195 #[.val (.int p0), .val (.int p1), .val (.int ((p0 &&& (2147483647 : Int32)) % (9 : Int32))), .val (.ref u), .val (.double sh), .second, .val (.int c_), .val (.double (FP.ddiv (FP.i2d p1) (4634204016564240384 : UInt64))), .second, .unset, .unset] [(.double (FP.i2d c_)), (.double (FP.dsub (FP.dmul (FP.ddiv (FP.i2d p1) (4634204016564240384 : UInt64)) (FP.i2d c_)) sh))])) _
    refine X53.ldc2DoubleC hx hown (mvT hZ (hw _ (List.mem_of_getElem? (i := 5) rfl))) (g := (mkF m 195 #[.val (.int p0), .val (.int p1), .val (.int ((p0 &&& (2147483647 : Int32)) % (9 : Int32))), .val (.ref u), .val (.double sh), .second, .val (.int c_), .val (.double (FP.ddiv (FP.i2d p1) (4634204016564240384 : UInt64))), .second, .unset, .unset] [(.double (FP.i2d c_)), (.double (FP.dsub (FP.dmul (FP.ddiv (FP.i2d p1) (4634204016564240384 : UInt64)) (FP.i2d c_)) sh))])) rfl (hb hby at_195) _ ?_
    show Steps p.tables e below (T53.setTop (mkF m 198 #[.val (.int p0), .val (.int p1), .val (.int ((p0 &&& (2147483647 : Int32)) % (9 : Int32))), .val (.ref u), .val (.double sh), .second, .val (.int c_), .val (.double (FP.ddiv (FP.i2d p1) (4634204016564240384 : UInt64))), .second, .unset, .unset] [(.double (4607215186990906156 : UInt64)), (.double (FP.i2d c_)), (.double (FP.dsub (FP.dmul (FP.ddiv (FP.i2d p1) (4634204016564240384 : UInt64)) (FP.i2d c_)) sh))])) _
    refine XS.dmulS X53.here hx rfl (hb hby at_198) rfl (own_n3 c_) rfl ?_
    show Steps p.tables e below (T53.setTop (mkF m 199 #[.val (.int p0), .val (.int p1), .val (.int ((p0 &&& (2147483647 : Int32)) % (9 : Int32))), .val (.ref u), .val (.double sh), .second, .val (.int c_), .val (.double (FP.ddiv (FP.i2d p1) (4634204016564240384 : UInt64))), .second, .unset, .unset] [(.double (FP.dmul (FP.i2d c_) (4607215186990906156 : UInt64))), (.double (FP.dsub (FP.dmul (FP.ddiv (FP.i2d p1) (4634204016564240384 : UInt64)) (FP.i2d c_)) sh))])) _
    refine XS.dsubS X53.here hx rfl (hb hby at_199) rfl (own_n4 p1 c_ hu.2.2.2.1 hu.2.2.2.2) rfl ?_
    show Steps p.tables e below (T53.setTop (mkF m 200 #[.val (.int p0), .val (.int p1), .val (.int ((p0 &&& (2147483647 : Int32)) % (9 : Int32))), .val (.ref u), .val (.double sh), .second, .val (.int c_), .val (.double (FP.ddiv (FP.i2d p1) (4634204016564240384 : UInt64))), .second, .unset, .unset] [(.double (FP.dsub (FP.dsub (FP.dmul (FP.ddiv (FP.i2d p1) (4634204016564240384 : UInt64)) (FP.i2d c_)) sh) (FP.dmul (FP.i2d c_) (4607215186990906156 : UInt64))))])) _
    refine XS.dstore X53.here hx rfl (hb hby at_200) rfl (l' := #[.val (.int p0), .val (.int p1), .val (.int ((p0 &&& (2147483647 : Int32)) % (9 : Int32))), .val (.ref u), .val (.double sh), .second, .val (.int c_), .val (.double (FP.ddiv (FP.i2d p1) (4634204016564240384 : UInt64))), .second, .val (.double (FP.dsub (FP.dsub (FP.dmul (FP.ddiv (FP.i2d p1) (4634204016564240384 : UInt64)) (FP.i2d c_)) sh) (FP.dmul (FP.i2d c_) (4607215186990906156 : UInt64)))), .second]) rfl ?_
    show Steps p.tables e below (T53.setTop (mkF m 202 #[.val (.int p0), .val (.int p1), .val (.int ((p0 &&& (2147483647 : Int32)) % (9 : Int32))), .val (.ref u), .val (.double sh), .second, .val (.int c_), .val (.double (FP.ddiv (FP.i2d p1) (4634204016564240384 : UInt64))), .second, .val (.double (FP.dsub (FP.dsub (FP.dmul (FP.ddiv (FP.i2d p1) (4634204016564240384 : UInt64)) (FP.i2d c_)) sh) (FP.dmul (FP.i2d c_) (4607215186990906156 : UInt64)))), .second] [])) _
    refine XS.aloadN X53.here hx rfl (hb hby at_202) rfl rfl ?_
    show Steps p.tables e below (T53.setTop (mkF m 203 #[.val (.int p0), .val (.int p1), .val (.int ((p0 &&& (2147483647 : Int32)) % (9 : Int32))), .val (.ref u), .val (.double sh), .second, .val (.int c_), .val (.double (FP.ddiv (FP.i2d p1) (4634204016564240384 : UInt64))), .second, .val (.double (FP.dsub (FP.dsub (FP.dmul (FP.ddiv (FP.i2d p1) (4634204016564240384 : UInt64)) (FP.i2d c_)) sh) (FP.dmul (FP.i2d c_) (4607215186990906156 : UInt64)))), .second] [(.ref u)])) _
    refine XS.dload X53.here hx rfl (hb hby at_203) rfl ?_
    exact k
  obtain ⟨cq55, kq55, q55a, q55b, q55c⟩ := isOf hZ e53 hu.1
  obtain ⟨_, _, ⟨T55, L55, k55, n55⟩, -, X55, ⟨Lc55, hQ55, l55, y55, z55⟩, st55⟩ := X53.virtualBack hx (y := (⟨"com/example/peptools/peptools/spectra/IonType", "residueMassAt", "(D)D"⟩ : MethodName)) (z := (⟨"com/example/peptools/peptools/spectra/IonType", "residueMassAt", "(D)D"⟩ : MethodName)) hown (mvT hZ (hw _ (List.mem_of_getElem? (i := 6) rfl))) (mvT hZ (hw _ (List.mem_of_getElem? (i := 7) rfl))) (notFace_of_selects (args := #[]) (mvT hZ (hw _ (List.mem_of_getElem? (i := 9) rfl)))) (mvT hZ (hw _ (List.mem_of_getElem? (i := 9) rfl))) (mvT hZ (hw _ (List.mem_of_getElem? (i := 8) rfl))) (by decide) (backOf (W := 0) (rm1 l Z a0 hw [] u (FP.ddiv (FP.i2d p1) (4634204016564240384 : UInt64)) c_ sh h0 n0 Z0 hu.2.1 hu.2.2.1 (nn64 (own_n1 p1 c_ hu.2.2.2.1).1) (own_n2 p1 c_ hu.2.2.2.1 hu.2.2.2.2) (own_n3 c_) (own_n4 p1 c_ hu.2.2.2.1 hu.2.2.2.2)) hZ (hw _ (List.mem_of_getElem? (i := 10) rfl)) (hw _ (List.mem_of_getElem? (i := 2) rfl)) (by decide) (by decide)) q55a q55c (g := (mkF m 205 #[.val (.int p0), .val (.int p1), .val (.int ((p0 &&& (2147483647 : Int32)) % (9 : Int32))), .val (.ref u), .val (.double sh), .second, .val (.int c_), .val (.double (FP.ddiv (FP.i2d p1) (4634204016564240384 : UInt64))), .second, .val (.double (FP.dsub (FP.dsub (FP.dmul (FP.ddiv (FP.i2d p1) (4634204016564240384 : UInt64)) (FP.i2d c_)) sh) (FP.dmul (FP.i2d c_) (4607215186990906156 : UInt64)))), .second] [(.double (FP.ddiv (FP.i2d p1) (4634204016564240384 : UInt64))), (.ref u)])) rfl (by rw [hml]; rfl) (Steps.refl _) (argsL := [(.double (FP.ddiv (FP.i2d p1) (4634204016564240384 : UInt64)))]) (rest := []) (lenOf own_pd0 rfl) rfl (by show 2 * 0 + _ ≤ _; exact Nat.le_of_eq rfl) (hb hby at_205) (fun _ _ => ⟨rfl, e53, (by decide : 0 + 0 ≤ _), (by decide : 0 + 0 ≤ _)⟩)
  dsimp only [Pt.U, Pt.locs, Pt.cells, Pt.slots] at X55 l55 y55 z55 st55 hQ55
  subst l55 y55 z55
  obtain ⟨rfl, N55q, e55q⟩ := hQ55
  have N55 := Fr.app N53 N55q
  have a56 : ∀ t, Steps p.tables e below (T55.setTop (mkF m 208 #[.val (.int p0), .val (.int p1), .val (.int ((p0 &&& (2147483647 : Int32)) % (9 : Int32))), .val (.ref u), .val (.double sh), .second, .val (.int c_), .val (.double (FP.ddiv (FP.i2d p1) (4634204016564240384 : UInt64))), .second, .val (.double (FP.dsub (FP.dsub (FP.dmul (FP.ddiv (FP.i2d p1) (4634204016564240384 : UInt64)) (FP.i2d c_)) sh) (FP.dmul (FP.i2d c_) (4607215186990906156 : UInt64)))), .second] [(.double (FP.dsub (FP.dsub (FP.dmul (FP.ddiv (FP.i2d p1) (4634204016564240384 : UInt64)) (FP.i2d c_)) sh) (FP.dmul (FP.i2d c_) (4607215186990906156 : UInt64))))])) t → Steps p.tables e below (s₁.setTop (entryFrame m #[(.int p0), (.int p1)] maxLocals)) t := fun t k => a54 t (st55.trans k)
  have a57 : ∀ t, Steps p.tables e below (T55.setTop (mkF m 219 #[.val (.int p0), .val (.int p1), .val (.int ((p0 &&& (2147483647 : Int32)) % (9 : Int32))), .val (.ref u), .val (.double sh), .second, .val (.int c_), .val (.double (FP.ddiv (FP.i2d p1) (4634204016564240384 : UInt64))), .second, .val (.double (FP.dsub (FP.dsub (FP.dmul (FP.ddiv (FP.i2d p1) (4634204016564240384 : UInt64)) (FP.i2d c_)) sh) (FP.dmul (FP.i2d c_) (4607215186990906156 : UInt64)))), .second] [(.int (1 : Int32))])) t → Steps p.tables e below (s₁.setTop (entryFrame m #[(.int p0), (.int p1)] maxLocals)) t := by
    intro t k
    refine a56 t ?_
    show Steps p.tables e below (T55.setTop (mkF m 208 #[.val (.int p0), .val (.int p1), .val (.int ((p0 &&& (2147483647 : Int32)) % (9 : Int32))), .val (.ref u), .val (.double sh), .second, .val (.int c_), .val (.double (FP.ddiv (FP.i2d p1) (4634204016564240384 : UInt64))), .second, .val (.double (FP.dsub (FP.dsub (FP.dmul (FP.ddiv (FP.i2d p1) (4634204016564240384 : UInt64)) (FP.i2d c_)) sh) (FP.dmul (FP.i2d c_) (4607215186990906156 : UInt64)))), .second] [(.double (FP.dsub (FP.dsub (FP.dmul (FP.ddiv (FP.i2d p1) (4634204016564240384 : UInt64)) (FP.i2d c_)) sh) (FP.dmul (FP.i2d c_) (4607215186990906156 : UInt64))))])) _
    refine XS.dload X55.here hx rfl (hb hby at_208) rfl ?_
    show Steps p.tables e below (T55.setTop (mkF m 210 #[.val (.int p0), .val (.int p1), .val (.int ((p0 &&& (2147483647 : Int32)) % (9 : Int32))), .val (.ref u), .val (.double sh), .second, .val (.int c_), .val (.double (FP.ddiv (FP.i2d p1) (4634204016564240384 : UInt64))), .second, .val (.double (FP.dsub (FP.dsub (FP.dmul (FP.ddiv (FP.i2d p1) (4634204016564240384 : UInt64)) (FP.i2d c_)) sh) (FP.dmul (FP.i2d c_) (4607215186990906156 : UInt64)))), .second] [(.double (FP.dsub (FP.dsub (FP.dmul (FP.ddiv (FP.i2d p1) (4634204016564240384 : UInt64)) (FP.i2d c_)) sh) (FP.dmul (FP.i2d c_) (4607215186990906156 : UInt64)))), (.double (FP.dsub (FP.dsub (FP.dmul (FP.ddiv (FP.i2d p1) (4634204016564240384 : UInt64)) (FP.i2d c_)) sh) (FP.dmul (FP.i2d c_) (4607215186990906156 : UInt64))))])) _
    refine XS.dcmpS X55.here hx rfl (hb hby at_210) rfl rfl ?_
    show Steps p.tables e below (T55.setTop (mkF m 211 #[.val (.int p0), .val (.int p1), .val (.int ((p0 &&& (2147483647 : Int32)) % (9 : Int32))), .val (.ref u), .val (.double sh), .second, .val (.int c_), .val (.double (FP.ddiv (FP.i2d p1) (4634204016564240384 : UInt64))), .second, .val (.double (FP.dsub (FP.dsub (FP.dmul (FP.ddiv (FP.i2d p1) (4634204016564240384 : UInt64)) (FP.i2d c_)) sh) (FP.dmul (FP.i2d c_) (4607215186990906156 : UInt64)))), .second] [(.int (cmpValue (FP.dcmp (FP.dsub (FP.dsub (FP.dmul (FP.ddiv (FP.i2d p1) (4634204016564240384 : UInt64)) (FP.i2d c_)) sh) (FP.dmul (FP.i2d c_) (4607215186990906156 : UInt64))) (FP.dsub (FP.dsub (FP.dmul (FP.ddiv (FP.i2d p1) (4634204016564240384 : UInt64)) (FP.i2d c_)) sh) (FP.dmul (FP.i2d c_) (4607215186990906156 : UInt64)))) .l))])) _
    refine XS.ifNo X55.here hx rfl (hb hby at_211) rfl ((if0 _ _).trans (teq ((cv_eq _ _).mpr (Jvm.FP.Core.dcmp_self (nn_v (own_n4 p1 c_ hu.2.2.2.1 hu.2.2.2.2))))).2) ?_
    show Steps p.tables e below (T55.setTop (mkF m 214 #[.val (.int p0), .val (.int p1), .val (.int ((p0 &&& (2147483647 : Int32)) % (9 : Int32))), .val (.ref u), .val (.double sh), .second, .val (.int c_), .val (.double (FP.ddiv (FP.i2d p1) (4634204016564240384 : UInt64))), .second, .val (.double (FP.dsub (FP.dsub (FP.dmul (FP.ddiv (FP.i2d p1) (4634204016564240384 : UInt64)) (FP.i2d c_)) sh) (FP.dmul (FP.i2d c_) (4607215186990906156 : UInt64)))), .second] [])) _
    refine XS.iconst X55.here hx rfl (hb hby at_214) ?_
    show Steps p.tables e below (T55.setTop (mkF m 215 #[.val (.int p0), .val (.int p1), .val (.int ((p0 &&& (2147483647 : Int32)) % (9 : Int32))), .val (.ref u), .val (.double sh), .second, .val (.int c_), .val (.double (FP.ddiv (FP.i2d p1) (4634204016564240384 : UInt64))), .second, .val (.double (FP.dsub (FP.dsub (FP.dmul (FP.ddiv (FP.i2d p1) (4634204016564240384 : UInt64)) (FP.i2d c_)) sh) (FP.dmul (FP.i2d c_) (4607215186990906156 : UInt64)))), .second] [(.int (1 : Int32))])) _
    refine XS.goto X55.here hx rfl (pc0 := 215) (pc' := 219) rfl (hb hby at_215) (by decide) (by decide) ?_
    exact k
  obtain ⟨fs, hr, hrun, hended, hW, hsame⟩ := X55.leave (v := some (.int (1 : Int32))) (fun h => by rw [Bd.returns] at h; cases h)
  refine ⟨_, _, a57 _ ?_, hrun, hended, _, _, rfl, ?_, ⟨_, rfl⟩, hW, hsame.mono (by decide) (by decide)⟩
  · show Steps p.tables e below (T55.setTop (mkF m 219 #[.val (.int p0), .val (.int p1), .val (.int ((p0 &&& (2147483647 : Int32)) % (9 : Int32))), .val (.ref u), .val (.double sh), .second, .val (.int c_), .val (.double (FP.ddiv (FP.i2d p1) (4634204016564240384 : UInt64))), .second, .val (.double (FP.dsub (FP.dsub (FP.dmul (FP.ddiv (FP.i2d p1) (4634204016564240384 : UInt64)) (FP.i2d c_)) sh) (FP.dmul (FP.i2d c_) (4607215186990906156 : UInt64)))), .second] [(.int (1 : Int32))])) _
    exact retN X55 hx (t := .boolean) Bd.returns (by simp) (hb hby at_219) hr
  · show Q0 Z p0 p1 w_B w_Y w_A w_Y_LESS_WATER w_Y_LESS_AMMONIA w_B_DOUBLY_CHARGED w_Y_DOUBLY_CHARGED w_B_LESS_WATER w_B_LESS_AMMONIA h0 n0 _ T55.heap _
    rw [e55q]
    exact ⟨rfl, N55⟩
set_option maxRecDepth 65536 in
set_option maxHeartbeats 40000000 in
theorem comes_1 {Post : Tables → Env → Array Value → State → Outcome → State → Prop} (hpost : ∀ tb e args s v u, (limb_1_1.after args s (.returned v) u = true ∧ limb_1_2.after args s (.returned v) u = true ∧ True) → FrameEnd s (.returned v) u (Jvm.fieldLocs frame_1_writes args s ++ Jvm.arrayLocs frame_1_arrays args s ++ Jvm.staticLocs frame_1_statics s) 0 0 → Post tb e args s (.returned v) u) :
    ArmFor flags0 classFile x code maxLocals ret World_1 tables_1 room_1 Calls_1 rest_1 Pre_1 Post := by
  intro l hfl _ _ p e ha hc hk s m args below hf hA hF happ hP
  obtain ⟨hcalls, hrest, hpre⟩ := hP
  obtain ⟨-, -, -, hnamed, -, -, -, hat⟩ := (Spec.applies_iff hf).mp happ
  obtain ⟨hg, hn⟩ := and_e (Cond.before_iff.mp (show (Jvm.Cond.and given_1 narrow_1).before args s = true from hpre))
  obtain ⟨g1, g2⟩ := and_e hg
  obtain ⟨g3, g4⟩ := and_e g2
  obtain ⟨g5, g6⟩ := and_e hn
  obtain ⟨g7, g8⟩ := and_e g6
  obtain ⟨g9, g10⟩ := and_e g8
  obtain ⟨g11, g12⟩ := and_e g10
  obtain ⟨g13, g14⟩ := and_e g12
  obtain ⟨g15, g16⟩ := and_e g14
  obtain ⟨g17, g18⟩ := and_e g16
  obtain ⟨g19, g20⟩ := and_e g18
  obtain ⟨g21, g22⟩ := and_e g20
  obtain ⟨g23, g24⟩ := and_e g22
  obtain ⟨g25, g26⟩ := and_e g24
  obtain ⟨g27, g28⟩ := and_e g26
  obtain ⟨g29, g30⟩ := and_e g28
  obtain ⟨g31, g32⟩ := and_e g30
  obtain ⟨g33, g34⟩ := and_e g32
  obtain ⟨g35, g36⟩ := and_e g34
  obtain ⟨g37, g38⟩ := and_e g36
  obtain ⟨g39, g40⟩ := and_e g38
  obtain ⟨g41, g42⟩ := and_e g40
  obtain ⟨g43, g44⟩ := and_e g42
  obtain ⟨g45, g46⟩ := and_e g44
  obtain ⟨g47, g48⟩ := and_e g46
  obtain ⟨g49, g50⟩ := and_e g48
  obtain ⟨g51, g52⟩ := and_e g50
  obtain ⟨g53, g54⟩ := and_e g52
  obtain ⟨g55, g56⟩ := and_e g54
  obtain ⟨w0, w1, rfl⟩ : ∃ w0 w1 : Value, args = #[w0, w1] := by
    have hs : args.size = 2 := by simpa [Cond.value, given_1] using g1
    obtain ⟨L⟩ := args
    match L, hs with
    | [w0, w1], _ => exact ⟨w0, w1, rfl⟩
  have hw := fun d (hd : d ∈ tables_1) => atoms_spec (ws := Jvm.Cond.code x code maxLocals ret :: tables_1) hat d (List.mem_cons_of_mem _ hd)
  have hfit : Fit s := fun {y c} hc i hi => by
    obtain ⟨ha, rfl⟩ := Array.getElem?_eq_some_iff.mp hc
    have q := List.all_eq_true.mp ((Array.all_eq_true_iff_forall_mem.mp hF) _ (Array.getElem_mem ha)) i (List.mem_range.mpr hi)
    simpa [Array.getElem?_eq_getElem hi] using q
  obtain ⟨i0, ei0⟩ := is_v g3
  obtain rfl : w0 = (.int i0) := Option.some.inj ei0
  obtain ⟨i1, ei1⟩ := is_v g4
  obtain rfl : w1 = (.int i1) := Option.some.inj ei1
  obtain ⟨w_B, ev_B⟩ := exa_v g5
  have S_B := Sta.start ev_B (Or.inr ⟨(hw _ (List.mem_of_getElem? (i := 2) rfl)), (hw _ (List.mem_of_getElem? (i := 3) rfl))⟩)
  have X_B := Exa.start ev_B g5
  have F_B_charge := eqF_int ev_B g7
  have F_B_neutralShift := eqF_dbl (b := 0) ev_B g9 (by decide)
  obtain ⟨w_B_DOUBLY_CHARGED, ev_B_DOUBLY_CHARGED⟩ := exa_v g11
  have S_B_DOUBLY_CHARGED := Sta.start ev_B_DOUBLY_CHARGED (Or.inr ⟨(hw _ (List.mem_of_getElem? (i := 2) rfl)), (hw _ (List.mem_of_getElem? (i := 17) rfl))⟩)
  have X_B_DOUBLY_CHARGED := Exa.start ev_B_DOUBLY_CHARGED g11
  have F_B_DOUBLY_CHARGED_charge := eqF_int ev_B_DOUBLY_CHARGED g13
  have F_B_DOUBLY_CHARGED_neutralShift := eqF_dbl (b := 0) ev_B_DOUBLY_CHARGED g15 (by decide)
  obtain ⟨w_Y_LESS_AMMONIA, ev_Y_LESS_AMMONIA⟩ := exa_v g17
  have S_Y_LESS_AMMONIA := Sta.start ev_Y_LESS_AMMONIA (Or.inr ⟨(hw _ (List.mem_of_getElem? (i := 2) rfl)), (hw _ (List.mem_of_getElem? (i := 19) rfl))⟩)
  have X_Y_LESS_AMMONIA := Exa.start ev_Y_LESS_AMMONIA g17
  have F_Y_LESS_AMMONIA_charge := eqF_int ev_Y_LESS_AMMONIA g19
  have F_Y_LESS_AMMONIA_neutralShift := eqF_dbl (b := 4607038447727129632) ev_Y_LESS_AMMONIA g21 (by decide)
  obtain ⟨w_Y, ev_Y⟩ := exa_v g23
  have S_Y := Sta.start ev_Y (Or.inr ⟨(hw _ (List.mem_of_getElem? (i := 2) rfl)), (hw _ (List.mem_of_getElem? (i := 22) rfl))⟩)
  have X_Y := Exa.start ev_Y g23
  have F_Y_charge := eqF_int ev_Y g25
  have F_Y_neutralShift := eqF_dbl (b := 4625762741046049652) ev_Y g27 (by decide)
  obtain ⟨w_Y_DOUBLY_CHARGED, ev_Y_DOUBLY_CHARGED⟩ := exa_v g29
  have S_Y_DOUBLY_CHARGED := Sta.start ev_Y_DOUBLY_CHARGED (Or.inr ⟨(hw _ (List.mem_of_getElem? (i := 2) rfl)), (hw _ (List.mem_of_getElem? (i := 25) rfl))⟩)
  have X_Y_DOUBLY_CHARGED := Exa.start ev_Y_DOUBLY_CHARGED g29
  have F_Y_DOUBLY_CHARGED_charge := eqF_int ev_Y_DOUBLY_CHARGED g31
  have F_Y_DOUBLY_CHARGED_neutralShift := eqF_dbl (b := 4625762741046049652) ev_Y_DOUBLY_CHARGED g33 (by decide)
  obtain ⟨w_B_LESS_AMMONIA, ev_B_LESS_AMMONIA⟩ := exa_v g35
  have S_B_LESS_AMMONIA := Sta.start ev_B_LESS_AMMONIA (Or.inr ⟨(hw _ (List.mem_of_getElem? (i := 2) rfl)), (hw _ (List.mem_of_getElem? (i := 27) rfl))⟩)
  have X_B_LESS_AMMONIA := Exa.start ev_B_LESS_AMMONIA g35
  have F_B_LESS_AMMONIA_charge := eqF_int ev_B_LESS_AMMONIA g37
  have F_B_LESS_AMMONIA_neutralShift := eqF_dbl (b := 13848857802020142547) ev_B_LESS_AMMONIA g39 (by decide)
  obtain ⟨w_Y_LESS_WATER, ev_Y_LESS_WATER⟩ := exa_v g41
  have S_Y_LESS_WATER := Sta.start ev_Y_LESS_WATER (Or.inr ⟨(hw _ (List.mem_of_getElem? (i := 2) rfl)), (hw _ (List.mem_of_getElem? (i := 30) rfl))⟩)
  have X_Y_LESS_WATER := Exa.start ev_Y_LESS_WATER g41
  have F_Y_LESS_WATER_charge := eqF_int ev_Y_LESS_WATER g43
  have F_Y_LESS_WATER_neutralShift := eqF_dbl (b := 0) ev_Y_LESS_WATER g45 (by decide)
  obtain ⟨w_A, ev_A⟩ := exa_v g47
  have S_A := Sta.start ev_A (Or.inr ⟨(hw _ (List.mem_of_getElem? (i := 2) rfl)), (hw _ (List.mem_of_getElem? (i := 32) rfl))⟩)
  have X_A := Exa.start ev_A g47
  have F_A_charge := eqF_int ev_A g49
  have F_A_neutralShift := eqF_dbl (b := 13851945122584546498) ev_A g51 (by decide)
  obtain ⟨w_B_LESS_WATER, ev_B_LESS_WATER⟩ := exa_v g53
  have S_B_LESS_WATER := Sta.start ev_B_LESS_WATER (Or.inr ⟨(hw _ (List.mem_of_getElem? (i := 2) rfl)), (hw _ (List.mem_of_getElem? (i := 35) rfl))⟩)
  have X_B_LESS_WATER := Exa.start ev_B_LESS_WATER g53
  have F_B_LESS_WATER_charge := eqF_int ev_B_LESS_WATER g55
  have F_B_LESS_WATER_neutralShift := eqF_dbl (b := 13849134777900825460) ev_B_LESS_WATER g56 (by decide)
  obtain ⟨n, o, h1, h2, h3, _, L, rfl, ⟨rfl, N⟩, hq⟩ := rm0 l s _ hw tables_1 i0 i1 w_B w_Y w_A w_Y_LESS_WATER w_Y_LESS_AMMONIA w_B_DOUBLY_CHARGED w_Y_DOUBLY_CHARGED w_B_LESS_WATER w_B_LESS_AMMONIA s.heap s.heap.size (Nat.le_refl _) S_B X_B F_B_charge F_B_neutralShift S_Y X_Y F_Y_charge F_Y_neutralShift S_A X_A F_A_charge F_A_neutralShift S_Y_LESS_WATER X_Y_LESS_WATER F_Y_LESS_WATER_charge F_Y_LESS_WATER_neutralShift S_Y_LESS_AMMONIA X_Y_LESS_AMMONIA F_Y_LESS_AMMONIA_charge F_Y_LESS_AMMONIA_neutralShift S_B_DOUBLY_CHARGED X_B_DOUBLY_CHARGED F_B_DOUBLY_CHARGED_charge F_B_DOUBLY_CHARGED_neutralShift S_Y_DOUBLY_CHARGED X_Y_DOUBLY_CHARGED F_Y_DOUBLY_CHARGED_charge F_Y_DOUBLY_CHARGED_neutralShift S_B_LESS_WATER X_B_LESS_WATER F_B_LESS_WATER_charge F_B_LESS_WATER_neutralShift S_B_LESS_AMMONIA X_B_LESS_AMMONIA F_B_LESS_AMMONIA_charge F_B_LESS_AMMONIA_neutralShift p e ha hc hk s m _ below hf ((Spec.applies_iff_loose hf).mp happ).1 ⟨rfl, State.Warmed39.refl s, rfl⟩ trivial
  refine ⟨n, _, h1, h2, h3, hpost _ _ _ _ _ _ ⟨Cond.after_iff.mpr rfl, Cond.after_iff.mpr (eq_i res_at (Term.int_eval (1)) rfl), trivial⟩ ⟨hq.1, hq.2.1, (hq.2.2.sift fun y hy => Or.inr (N y hy)).mono (by decide) (by decide)⟩⟩
theorem main_1_1 : Claimed_1_1 := comes_1 fun _ _ _ _ _ _ h hF => ⟨h.1, hF⟩
theorem main_1_2 : Claimed_1_2 := comes_1 fun _ _ _ _ _ _ h hF => ⟨h.2.1, hF⟩
end Jvm.Pilot.@@N@@
namespace Jvm.Pilot.@@N@@
open Jvm Jvm.ClassFile Sem Op Lib Jvm.Free Jvm.Stand Jvm.Pilot.@@N@@.Jvm.D
/-! MADE BY PROGRAM (witnessworld.py) out of the Statement's table words and the real class files: 12 classes; the members and pool entries that the words name. The judged class is class 1, her method 1. -/
namespace start1
open Jvm.ClassFile
def u (s : String) : CpInfo := .utf8 (stringToUtf16 s)
/-- a pool by its gaps: so many unusable entries, then the entry; so many at the end -/
def gap : Nat → List CpInfo → List CpInfo
  | 0, r => r
  | n + 1, r => .unusable :: gap n r
def poolList (es : List (Nat × CpInfo)) (last : Nat) : List CpInfo := es.foldr (fun e r => gap e.1 (e.2 :: r)) (gap last [])
def pool (es : List (Nat × CpInfo)) (last : Nat) : Array CpInfo := ⟨poolList es last⟩
def fileOf (pool : Array CpInfo) (this : Nat) (attrs : Array Attribute := #[]) (ms : Array MethodInfo := #[]) (fl : Nat := 33) (sup : Nat := 0) (ifs : Array Nat := #[]) (fds : Array FieldInfo := #[]) : ClassFile where
  minorVersion := 0
  majorVersion := 65
  constantPool := pool
  accessFlags := fl
  thisClass := this
  superClass := sup
  interfaces := ifs
  fields := fds
  methods := ms
  attributes := attrs
def plain (name : String) (sup : Option ClassId) : Class where
  name := name
  kind := .ordinary
  loader := none
  accessFlags := 33
  super := sup
  interfaces := #[]
  cf := none
  fields := #[]
  methods := #[]
  instanceTypes := #[]
  staticTypes := #[]
  resolved := #[]
  callSites := []
  init := .initialized
  statics := none
  mirror := none

def pool0 : Array CpInfo := pool [(5, u "<init>"), (0, u "()V"), (1, .class_ 10), (1, u "java/lang/Object")] 113

def k0m0 : Method := { name := "<init>", desc := "()V", sig := { parameters := [], returnType := none }, accessFlags := 1, code := none }
/-- java/lang/Object -/
def k0 : Class := { plain "java/lang/Object" none with
  accessFlags := 33
  interfaces := #[]
  cf := some (fileOf pool0 8 #[] #[{ accessFlags := 1, nameIndex := 5, descriptorIndex := 6, attributes := #[] }] 33 0 #[] #[])
  fields := #[]
  methods := #[k0m0]
  instanceTypes := #[]
  staticTypes := #[]
  resolved := Array.replicate 124 none
  statics := none }

def pool1 : Array CpInfo := pool [(2, .class_ 4), (1, u "java/lang/Object"), (0, u "<init>"), (0, u "()V"), (0, .integer 2147483647), (0, .fieldref 9 10), (0, .class_ 11), (0, .nameAndType 12 13), (0, u "com/example/peptools/peptools/spectra/IonType"), (0, u "B"), (0, u "Lcom/example/peptools/peptools/spectra/IonType;"), (0, .fieldref 9 15), (0, .nameAndType 16 13), (0, u "Y"), (2, .double 4625762741046049652), (1, .fieldref 9 22), (0, .nameAndType 23 13), (0, u "A"), (0, .double 13851945122584546498), (1, .fieldref 9 27), (0, .nameAndType 28 13), (0, u "Y_LESS_WATER"), (0, .fieldref 9 30), (0, .nameAndType 31 13), (0, u "Y_LESS_AMMONIA"), (0, .double 4607038447727129632), (1, .fieldref 9 35), (0, .nameAndType 36 13), (0, u "B_DOUBLY_CHARGED"), (0, .fieldref 9 38), (0, .nameAndType 39 13), (0, u "Y_DOUBLY_CHARGED"), (0, .fieldref 9 41), (0, .nameAndType 42 13), (0, u "B_LESS_WATER"), (0, .double 13849134777900825460), (1, .fieldref 9 46), (0, .nameAndType 47 13), (0, u "B_LESS_AMMONIA"), (0, .double 13848857802020142547), (1, .double 4634204016564240384), (1, .double 4607215186990906156), (1, .methodref 9 55), (0, .nameAndType 56 57), (0, u "residueMassAt"), (0, u "(D)D"), (0, .class_ 59), (0, u "com/example/peptools/peptools/spectra/IonTypeResidueMassAtPinLaw"), (2, u "law"), (0, u "(II)Z")] 3

def k1m0 : Method := { name := "<init>", desc := "()V", sig := { parameters := [], returnType := none }, accessFlags := 1, code := none }
def k1c1 : Code := { maxStack := 6, maxLocals := 11, code := code, exceptionTable := #[], attributes := #[] }
def k1m1 : Method := { name := "law", desc := "(II)Z", sig := { parameters := [.int, .int], returnType := some .boolean }, accessFlags := 9, code := some k1c1 }
/-- com/example/peptools/peptools/spectra/IonTypeResidueMassAtPinLaw -/
def k1 : Class := { plain "com/example/peptools/peptools/spectra/IonTypeResidueMassAtPinLaw" (some 0) with
  accessFlags := 49
  interfaces := #[]
  cf := some (fileOf pool1 58 #[] #[{ accessFlags := 1, nameIndex := 5, descriptorIndex := 6, attributes := #[] }, { accessFlags := 9, nameIndex := 62, descriptorIndex := 63, attributes := #[] }] 49 2 #[] #[])
  fields := #[]
  methods := #[k1m0, k1m1]
  instanceTypes := #[]
  staticTypes := #[]
  resolved := Array.replicate 67 none
  statics := none }

def pool2 : Array CpInfo := pool [(1, .class_ 2), (0, u "java/lang/constant/Constable"), (0, .class_ 4), (0, u "java/lang/Object")] 6

/-- java/lang/constant/Constable -/
def k2 : Class := { plain "java/lang/constant/Constable" (some 0) with
  accessFlags := 1537
  interfaces := #[]
  cf := some (fileOf pool2 1 #[] #[] 1537 3 #[] #[])
  fields := #[]
  methods := #[]
  instanceTypes := #[]
  staticTypes := #[]
  resolved := Array.replicate 11 none
  statics := none }

def pool3 : Array CpInfo := pool [(1, .class_ 2), (0, u "java/lang/Comparable"), (0, .class_ 4), (0, u "java/lang/Object")] 7

/-- java/lang/Comparable -/
def k3 : Class := { plain "java/lang/Comparable" (some 0) with
  accessFlags := 1537
  interfaces := #[]
  cf := some (fileOf pool3 1 #[] #[] 1537 3 #[] #[])
  fields := #[]
  methods := #[]
  instanceTypes := #[]
  staticTypes := #[]
  resolved := Array.replicate 12 none
  statics := none }

def pool4 : Array CpInfo := pool [(1, .class_ 2), (0, u "java/io/Serializable"), (0, .class_ 4), (0, u "java/lang/Object")] 2

/-- java/io/Serializable -/
def k4 : Class := { plain "java/io/Serializable" (some 0) with
  accessFlags := 1537
  interfaces := #[]
  cf := some (fileOf pool4 1 #[] #[] 1537 3 #[] #[])
  fields := #[]
  methods := #[]
  instanceTypes := #[]
  staticTypes := #[]
  resolved := Array.replicate 7 none
  statics := none }

def pool5 : Array CpInfo := pool [(2, .class_ 4), (1, u "java/lang/Enum"), (0, u "name"), (0, u "Ljava/lang/String;"), (2, u "ordinal"), (0, u "I"), (1, .class_ 14), (1, u "java/lang/Object"), (4, u "hash"), (86, .class_ 108), (1, u "java/lang/Enum$EnumDesc"), (2, .class_ 112), (0, u "java/lang/constant/Constable"), (0, .class_ 114), (0, u "java/lang/Comparable"), (0, .class_ 116), (0, u "java/io/Serializable")] 87

/-- java/lang/Enum -/
def k5 : Class := { plain "java/lang/Enum" (some 0) with
  accessFlags := 1057
  interfaces := #[2, 3, 4]
  cf := some (fileOf pool5 2 #[.nestMembers #[106]] #[] 1057 12 #[111, 113, 115] #[{ accessFlags := 18, nameIndex := 5, descriptorIndex := 6, attributes := #[] }, { accessFlags := 18, nameIndex := 9, descriptorIndex := 10, attributes := #[] }, { accessFlags := 2, nameIndex := 19, descriptorIndex := 10, attributes := #[] }])
  fields := #[{ name := "name", type := (.object "java/lang/String"), accessFlags := 18, slot := 0, constantValue := 0 }, { name := "ordinal", type := .int, accessFlags := 18, slot := 1, constantValue := 0 }, { name := "hash", type := .int, accessFlags := 2, slot := 2, constantValue := 0 }]
  methods := #[]
  instanceTypes := #[(.object "java/lang/String"), .int, .int]
  staticTypes := #[]
  resolved := Array.replicate 204 none
  statics := none }

def pool6 : Array CpInfo := pool [(1, .class_ 2), (0, u "com/example/peptools/peptools/spectra/IonType"), (2, u "B"), (0, u "Lcom/example/peptools/peptools/spectra/IonType;"), (2, u "Y"), (2, u "A"), (2, u "Y_LESS_WATER"), (2, u "Y_LESS_AMMONIA"), (2, u "B_DOUBLY_CHARGED"), (2, u "Y_DOUBLY_CHARGED"), (2, u "B_LESS_WATER"), (2, u "B_LESS_AMMONIA"), (2, u "$VALUES"), (0, u "[Lcom/example/peptools/peptools/spectra/IonType;"), (6, .class_ 43), (1, u "java/lang/Enum"), (8, u "nTerminal"), (0, u "Z"), (0, .fieldref 1 55), (0, .nameAndType 56 57), (0, u "neutralShift"), (0, u "D"), (0, .fieldref 1 59), (0, .nameAndType 60 61), (0, u "charge"), (0, u "I"), (12, u "(D)D"), (2, .double 4607215186990906156), (39, u "residueMassAt")] 6

def k6c0 : Code := { maxStack := 6, maxLocals := 3, code := prog_58_method_7_code, exceptionTable := #[], attributes := #[] }
def k6m0 : Method := { name := "residueMassAt", desc := "(D)D", sig := { parameters := [.double], returnType := some .double }, accessFlags := 1, code := some k6c0 }
/-- com/example/peptools/peptools/spectra/IonType -/
def k6 : Class := { plain "com/example/peptools/peptools/spectra/IonType" (some 5) with
  accessFlags := 16433
  interfaces := #[]
  cf := some (fileOf pool6 1 #[] #[{ accessFlags := 1, nameIndex := 117, descriptorIndex := 74, attributes := #[] }] 16433 41 #[] #[{ accessFlags := 16409, nameIndex := 5, descriptorIndex := 6, attributes := #[] }, { accessFlags := 16409, nameIndex := 9, descriptorIndex := 6, attributes := #[] }, { accessFlags := 16409, nameIndex := 12, descriptorIndex := 6, attributes := #[] }, { accessFlags := 16409, nameIndex := 15, descriptorIndex := 6, attributes := #[] }, { accessFlags := 16409, nameIndex := 18, descriptorIndex := 6, attributes := #[] }, { accessFlags := 16409, nameIndex := 21, descriptorIndex := 6, attributes := #[] }, { accessFlags := 16409, nameIndex := 24, descriptorIndex := 6, attributes := #[] }, { accessFlags := 16409, nameIndex := 27, descriptorIndex := 6, attributes := #[] }, { accessFlags := 16409, nameIndex := 30, descriptorIndex := 6, attributes := #[] }, { accessFlags := 18, nameIndex := 52, descriptorIndex := 53, attributes := #[] }, { accessFlags := 18, nameIndex := 56, descriptorIndex := 57, attributes := #[] }, { accessFlags := 18, nameIndex := 60, descriptorIndex := 61, attributes := #[] }, { accessFlags := 4122, nameIndex := 33, descriptorIndex := 34, attributes := #[] }])
  fields := #[{ name := "B", type := (.object "com/example/peptools/peptools/spectra/IonType"), accessFlags := 16409, slot := 0, constantValue := 0 }, { name := "Y", type := (.object "com/example/peptools/peptools/spectra/IonType"), accessFlags := 16409, slot := 1, constantValue := 0 }, { name := "A", type := (.object "com/example/peptools/peptools/spectra/IonType"), accessFlags := 16409, slot := 2, constantValue := 0 }, { name := "Y_LESS_WATER", type := (.object "com/example/peptools/peptools/spectra/IonType"), accessFlags := 16409, slot := 3, constantValue := 0 }, { name := "Y_LESS_AMMONIA", type := (.object "com/example/peptools/peptools/spectra/IonType"), accessFlags := 16409, slot := 4, constantValue := 0 }, { name := "B_DOUBLY_CHARGED", type := (.object "com/example/peptools/peptools/spectra/IonType"), accessFlags := 16409, slot := 5, constantValue := 0 }, { name := "Y_DOUBLY_CHARGED", type := (.object "com/example/peptools/peptools/spectra/IonType"), accessFlags := 16409, slot := 6, constantValue := 0 }, { name := "B_LESS_WATER", type := (.object "com/example/peptools/peptools/spectra/IonType"), accessFlags := 16409, slot := 7, constantValue := 0 }, { name := "B_LESS_AMMONIA", type := (.object "com/example/peptools/peptools/spectra/IonType"), accessFlags := 16409, slot := 8, constantValue := 0 }, { name := "nTerminal", type := .boolean, accessFlags := 18, slot := 3, constantValue := 0 }, { name := "neutralShift", type := .double, accessFlags := 18, slot := 4, constantValue := 0 }, { name := "charge", type := .int, accessFlags := 18, slot := 5, constantValue := 0 }, { name := "$VALUES", type := (.array (.object "com/example/peptools/peptools/spectra/IonType")), accessFlags := 4122, slot := 9, constantValue := 0 }]
  methods := #[k6m0]
  instanceTypes := #[(.object "java/lang/String"), .int, .int, .boolean, .double, .int]
  staticTypes := #[(.object "com/example/peptools/peptools/spectra/IonType"), (.object "com/example/peptools/peptools/spectra/IonType"), (.object "com/example/peptools/peptools/spectra/IonType"), (.object "com/example/peptools/peptools/spectra/IonType"), (.object "com/example/peptools/peptools/spectra/IonType"), (.object "com/example/peptools/peptools/spectra/IonType"), (.object "com/example/peptools/peptools/spectra/IonType"), (.object "com/example/peptools/peptools/spectra/IonType"), (.object "com/example/peptools/peptools/spectra/IonType"), (.array (.object "com/example/peptools/peptools/spectra/IonType"))]
  resolved := Array.replicate 124 none
  statics := some 0 }

def pool7 : Array CpInfo := pool [(1, u "java/lang/Cloneable"), (0, .class_ 1), (0, u "java/lang/Object"), (0, .class_ 3)] 3

/-- java/lang/Cloneable -/
def k7 : Class := { plain "java/lang/Cloneable" (some 0) with
  accessFlags := 1537
  interfaces := #[]
  cf := some (fileOf pool7 2 #[] #[] 1537 4 #[] #[])
  fields := #[]
  methods := #[]
  instanceTypes := #[]
  staticTypes := #[]
  resolved := Array.replicate 8 none
  statics := none }

/-- the primitive byte -/
def k8 : Class := { plain "byte" none with kind := .primitive 'B', accessFlags := 0x411 }
/-- [B -/
def k9 : Class := { plain "[B" (some 0) with kind := .array 8 .byte, interfaces := #[7, 4], accessFlags := 1041 }

/-- the primitive int -/
def k10 : Class := { plain "int" none with kind := .primitive 'I', accessFlags := 0x411 }
/-- [I -/
def k11 : Class := { plain "[I" (some 0) with kind := .array 10 .int, interfaces := #[7, 4], accessFlags := 1041 }

def heap : Heap := #[{ cls := 6, slots := #[.ref 1, .ref 2, .ref 3, .ref 4, .ref 5, .ref 6, .ref 7, .ref 8, .ref 9, .null], vm := .statics 6 },
  { cls := 6, slots := #[.null, .int 0, .int 0, .int 0, .double 0, .int 1], vm := .none },
  { cls := 6, slots := #[.null, .int 1, .int 0, .int 0, .double 4625762741046049652, .int 1], vm := .none },
  { cls := 6, slots := #[.null, .int 2, .int 0, .int 0, .double 13851945122584546498, .int 1], vm := .none },
  { cls := 6, slots := #[.null, .int 3, .int 0, .int 0, .double 0, .int 1], vm := .none },
  { cls := 6, slots := #[.null, .int 4, .int 0, .int 0, .double 4607038447727129632, .int 1], vm := .none },
  { cls := 6, slots := #[.null, .int 5, .int 0, .int 0, .double 0, .int 2], vm := .none },
  { cls := 6, slots := #[.null, .int 6, .int 0, .int 0, .double 4625762741046049652, .int 2], vm := .none },
  { cls := 6, slots := #[.null, .int 7, .int 0, .int 0, .double 13849134777900825460, .int 1], vm := .none },
  { cls := 6, slots := #[.null, .int 8, .int 0, .int 0, .double 13848857802020142547, .int 1], vm := .none }]
def classes : Array Class := #[k0, k1, k2, k3, k4, k5, k6, k7, k8, k9, k10, k11]
def interned : List (Array UInt16 × Addr) := []
def slotsUsed : Nat := 64
def theMethod : MethodId := ⟨1, 1⟩
def args0 : Array Value := #[.int 7, .int 5]
def aboutOver (below : List Frame) : State where
  vm := { classes := classes, interned := interned.toArray }
  heap := heap
  slotsUsed := slotsUsed
  threads := #[{ frames := .invoking theMethod args0 :: below }]
def below0 : List Frame := [.native { method := ⟨0, 0⟩, args := #[] }]
def about1 : State := aboutOver below0
def p0 : Program := .bare "" "" ""
def e0 : Env := launch0.env 0 0 0
theorem w_frames : about1.frames = Frame.invoking theMethod args0 :: below0 := rfl
set_option maxRecDepth 65536 in
theorem w_args : argsFit about1.vm theMethod args0 = true := by decide +kernel
set_option maxRecDepth 65536 in
theorem w_heap : heapFits about1 = true := by decide +kernel
set_option maxRecDepth 65536 in
theorem w_runnable : about1.curStatus? = some .runnable := by decide +kernel
set_option maxRecDepth 65536 in
theorem w_alone : about1.alone = true := by decide +kernel
set_option maxRecDepth 65536 in
theorem w_named : about1.methodNamed? x = some theMethod := by decide +kernel
set_option maxRecDepth 65536 in
theorem w_hears : about1.hears theMethod below0 = true := by decide +kernel
set_option maxRecDepth 65536 in
theorem w_ripe : about1.ripe theMethod args0 below0 = true := by decide +kernel
theorem w_running : about1.status = .running := rfl
set_option maxRecDepth 65536 in
theorem w_room : about1.hasRoom e0.platform room_1 = true :=
  launch0.hasRoom_least _ room_1 (by decide +kernel) (by decide +kernel) (by decide +kernel) (by decide +kernel) (by decide +kernel) (by decide +kernel)
theorem allAtoms_all (ts : List Jvm.Cond) (a : Array Jvm.Value) (st : Jvm.State) : (allAtoms ts).before a st = ts.all (fun c => c.before a st) := by
  induction ts with
  | nil => rfl
  | cons c t ih =>
    show (Jvm.Cond.and c (allAtoms t)).before a st = _
    rw [Jvm.Cond.before_and, ih, List.all_cons]
def words1 : List Jvm.Cond := Jvm.Cond.code x code maxLocals ret :: tables_1
/-- a 'code' word, met by the world's own term for the bytes: nothing is compared byte by byte -/
theorem code_word {y : MethodName} {bytes : ByteArray} {mx : Nat} {rt : Option FieldType} {a : Array Value} {s : State} {m : MethodId} {meth : Method} {c : Code} (h1 : s.methodNamed? y = some m) (h2 : s.vm.method? m = some meth) (h3 : meth.code = some c) (h4 : c.code = bytes)
    (h5 : (c.maxLocals == mx && c.exceptionTable.isEmpty && decide (c.maxStack ≤ mostOperands) && decide (meth.sig.returnType = rt) && !meth.locks && decide (parseMethodDescriptor y.desc = some meth.sig)) = true) : (Jvm.Cond.code y bytes mx rt).before a s = true := by
  simp only [Bool.and_eq_true, beq_iff_eq, Bool.not_eq_true', decide_eq_true_eq] at h5
  obtain ⟨⟨⟨⟨⟨g1, g2⟩, g3⟩, g4⟩, g5⟩, g6⟩ := h5
  simp [Cond.before, Cond.holds, Cond.value, h1, h2, h3, h4, g1, g2, g3, g4, g5, g6]
def isCode : Jvm.Cond → Bool
  | .code _ _ _ _ => true
  | _ => false
theorem all_split {L : List Jvm.Cond} {P : Jvm.Cond → Bool} (h1 : L.all (fun c => isCode c || P c) = true) (h2 : ∀ c ∈ L.filter isCode, P c = true) : L.all P = true := by
  refine List.all_eq_true.mpr fun c hc => ?_
  have h := List.all_eq_true.mp h1 c hc
  rcases Bool.eq_false_or_eq_true (isCode c) with hi | hi
  · exact h2 c (List.mem_filter.mpr ⟨hc, hi⟩)
  · simpa [hi] using h
set_option maxRecDepth 65536 in
theorem w_c0 : (Jvm.Cond.code x code maxLocals ret).before args0 about1 = true := code_word (m := ⟨1, 1⟩) (meth := k1m1) (c := k1c1) (by decide +kernel) rfl rfl rfl (by decide +kernel)
set_option maxRecDepth 65536 in
theorem w_c1 : (Jvm.Cond.code ({ cls := "com/example/peptools/peptools/spectra/IonType", name := "residueMassAt", desc := "(D)D" } : Jvm.MethodName) prog_58_method_7_code (3 : Nat) (Option.some Jvm.ClassFile.FieldType.double)).before args0 about1 = true := code_word (m := ⟨6, 0⟩) (meth := k6m0) (c := k6c0) (by decide +kernel) rfl rfl rfl (by decide +kernel)
def codes1 : List Jvm.Cond := [Jvm.Cond.code x code maxLocals ret, Jvm.Cond.code ({ cls := "com/example/peptools/peptools/spectra/IonType", name := "residueMassAt", desc := "(D)D" } : Jvm.MethodName) prog_58_method_7_code (3 : Nat) (Option.some Jvm.ClassFile.FieldType.double)]
set_option maxRecDepth 65536 in
theorem codes_eq : words1.filter isCode = codes1 := rfl
theorem w_codes : ∀ c ∈ words1.filter isCode, c.before args0 about1 = true := by
  rw [codes_eq]
  intro c hc
  simp only [codes1, List.mem_cons, List.not_mem_nil, or_false] at hc
  rcases hc with rfl | rfl
  · exact w_c0
  · exact w_c1
set_option maxRecDepth 65536 in
theorem w_t1 : (words1.take 24).all (fun c => isCode c || c.before args0 about1) = true := by decide +kernel
set_option maxRecDepth 65536 in
theorem w_t2 : (words1.drop 24).all (fun c => isCode c || c.before args0 about1) = true := by decide +kernel
theorem w_tables : (allAtoms (Jvm.Cond.code x code maxLocals ret :: tables_1)).before args0 about1 = true := by
  rw [allAtoms_all]
  show words1.all (fun c => c.before args0 about1) = true
  refine all_split ?_ w_codes
  rw [← List.take_append_drop 24 words1, List.all_append, w_t1, w_t2]
  rfl
set_option maxRecDepth 65536 in
theorem w_case : (Jvm.Cond.and given_1 narrow_1).before args0 about1 = true := by decide +kernel
theorem w_applies : (headSpec (Jvm.Cond.code x code maxLocals ret :: tables_1) room_1).applies x e0.platform about1 = true :=
  (Spec.applies_iff w_frames).mpr ⟨w_running, w_runnable, w_alone, w_named, w_hears, w_ripe, w_room, w_tables⟩
theorem atStart : AtStart classFile x code maxLocals ret World_1 tables_1 room_1 Calls_1 rest_1 Pre_1 launch0 p0 e0 about1 theMethod args0 below0 :=
  ⟨lists_1, trivial, launch0.admits_env _ _ _, launch0.least_env, fairChoices_fair.cas, fairChoices_fair.clock, w_frames, w_args, w_heap, w_applies, trivial, trivial, w_case⟩
end start1
theorem witness_1 : WitnessClaimed_1 := ⟨start1.p0, start1.e0, start1.about1, start1.theMethod, start1.args0, start1.below0, start1.atStart⟩
end Jvm.Pilot.@@N@@
