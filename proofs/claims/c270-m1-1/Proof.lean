import JvmDerived
import JvmDerived.Pilot.@@N@@Statement
import JvmDerived.Pilot.@@N@@Code
set_option linter.unusedVariables false
set_option linter.unusedSimpArgs false
namespace Jvm.OwnFP
open Jvm.FP.Core
/-! own layer over the library's laws of doubles: values in units of the least double (zval), dyadic values, rounding bounds -/
abbrev zv (a : UInt64) : Int := zval b64 (val64 a)
theorem U_pos : (0 : Int) < (one64 : Int) := by have := one64_pos; omega
theorem signed_bd (s : Bool) (m : Nat) : -(m : Int) ≤ signed s m ∧ signed s m ≤ (m : Int) := by unfold signed; split <;> omega
theorem zv_bd (a : UInt64) : -(zmag b64 (val64 a) : Int) ≤ zv a ∧ zv a ≤ (zmag b64 (val64 a) : Int) := signed_bd _ _
theorem fin_between {a V W : UInt64} (hV : DFin V) (hW : DFin W) (hn : val64 a ≠ .nan) (h1 : zv W ≤ zv a) (h2 : zv a ≤ zv V) : DFin a := by
  cases hd : val64 a with
  | nan => exact absurd hd hn
  | fin s c q => exact ⟨s, c, q, hd⟩
  | inf s =>
    exfalso
    have a1 := hV.zval_lt; have a2 := hW.zval_lt
    have b1 := zv_bd V; have b2 := zv_bd W
    have e : zv a = signed s (b64.tails * 2 ^ (b64.exps - 2)) := by show zval b64 (val64 a) = _; rw [hd]; rfl
    generalize b64.tails * 2 ^ (b64.exps - 2) = TOP at a1 a2 e
    cases s
    · have : zv a = (TOP : Int) := e
      omega
    · have : zv a = -(TOP : Int) := e
      omega
theorem qmax_b64 : b64.qmax = 971 := by decide
theorem rep_exists (n : Int) (k : Nat) (hk : k ≤ 1074) (hn : n.natAbs < 2 ^ 53) : ∃ V, DFin V ∧ zv V * 2 ^ k = n * (one64 : Int) := by
  obtain ⟨c', q', h1, h2⟩ := round_exact (f := b64) good_b64 (decide (n < 0)) (c := n.natAbs) (q := -(k : Int)) hn (by rw [qmin_b64]; omega) (by rw [qmax_b64]; omega)
  have hf := round_fits good_b64 (.fin (decide (n < 0)) n.natAbs (-(k : Int)))
  have hv := val64_of64 hf
  rw [h1] at hv
  refine ⟨of64 (round b64 (.fin (decide (n < 0)) n.natAbs (-(k : Int)))), ⟨_, _, _, by rw [h1]; exact hv⟩, ?_⟩
  show zval b64 (val64 (of64 (round b64 (.fin (decide (n < 0)) n.natAbs (-(k : Int)))))) * 2 ^ k = _
  rw [h1, hv]
  show signed (decide (n < 0)) (inUnits c' q' b64.qmin) * 2 ^ k = _
  rw [h2]
  have e1 : inUnits n.natAbs (-(k : Int)) b64.qmin * 2 ^ k = n.natAbs * one64 := by
    unfold inUnits one64
    rw [qmin_b64, Nat.mul_assoc, ← Nat.pow_add]
    congr 2 <;> omega
  have e2 : signed (decide (n < 0)) (inUnits n.natAbs (-(k : Int)) b64.qmin) * ((2 ^ k : Nat) : Int) = signed (decide (n < 0)) n.natAbs * (one64 : Int) := by
    rw [← signed_mul, e1, signed_mul]
  have e3 : signed (decide (n < 0)) n.natAbs = n := by
    unfold signed
    by_cases h : n < 0
    · simp [h]; omega
    · simp [h]; omega
  rw [e3] at e2
  rw [← e2, Int.natCast_pow]; rfl
theorem rep_up (n : Int) (j : Nat) (hj : j ≤ 971) (hn : n.natAbs < 2 ^ 53) : ∃ V, DFin V ∧ zv V = n * 2 ^ j * (one64 : Int) := by
  obtain ⟨c', q', h1, h2⟩ := round_exact (f := b64) good_b64 (decide (n < 0)) (c := n.natAbs) (q := (j : Int)) hn (by rw [qmin_b64]; omega) (by rw [qmax_b64]; omega)
  have hf := round_fits good_b64 (.fin (decide (n < 0)) n.natAbs (j : Int))
  have hv := val64_of64 hf
  rw [h1] at hv
  refine ⟨of64 (round b64 (.fin (decide (n < 0)) n.natAbs (j : Int))), ⟨_, _, _, by rw [h1]; exact hv⟩, ?_⟩
  show zval b64 (val64 (of64 (round b64 (.fin (decide (n < 0)) n.natAbs (j : Int))))) = _
  rw [h1, hv]
  show signed (decide (n < 0)) (inUnits c' q' b64.qmin) = _
  rw [h2]
  have e1 : inUnits n.natAbs (j : Int) b64.qmin = n.natAbs * (2 ^ j * one64) := by
    unfold inUnits one64
    rw [qmin_b64, ← Nat.pow_add]
    congr 2 <;> omega
  have e3 : signed (decide (n < 0)) n.natAbs = n := by
    unfold signed
    by_cases h : n < 0
    · simp [h]; omega
    · simp [h]; omega
  rw [e1, signed_mul, e3, Int.natCast_mul, Int.natCast_pow, Int.mul_assoc]; rfl
/-- the double is finite and worth n / 2^k -/
def Dy (n : Int) (k : Nat) (a : UInt64) : Prop := DFin a ∧ zv a * 2 ^ k = n * (one64 : Int)
theorem two_pos (k : Nat) : (0 : Int) < 2 ^ k := Int.pow_pos (by decide)
theorem Dy.fin {n : Int} {k : Nat} {a : UInt64} (h : Dy n k a) : DFin a := h.1
theorem Dy.nn {n : Int} {k : Nat} {a : UInt64} (h : Dy n k a) : val64 a ≠ .nan := h.1.ne_nan
theorem dint_fin {i : Int} {a : UInt64} (h : DInt i a) : DFin a := by
  unfold DInt at h
  cases hd : val64 a with
  | nan => rw [hd] at h; exact h.elim
  | inf s => rw [hd] at h; exact h.elim
  | fin s c q => exact ⟨s, c, q, hd⟩
theorem Dy.of_int {i : Int} {a : UInt64} (h : DInt i a) : Dy i 0 a := ⟨dint_fin h, by rw [show zv a = i * (one64 : Int) from DInt_zval h]; simp⟩
theorem dy_i2d (a : Int32) : Dy a.toInt 0 (i2d a) := Dy.of_int (i2d_int a)
theorem dy_l2d {a : Int64} (h : a.toInt.natAbs ≤ 2 ^ 53) : Dy a.toInt 0 (l2d a) := Dy.of_int (l2d_int h)
theorem dy_zero : Dy 0 0 0 := ⟨⟨_, _, _, val64_zero⟩, by rw [show zv 0 = 0 from zval64_zero]; simp⟩
theorem dy_one : Dy 1 0 4607182418800017408 := Dy.of_int dint_one
theorem Dy.up {n : Int} {k : Nat} {a : UInt64} (h : Dy n k a) (j : Nat) : Dy (n * 2 ^ j) (k + j) a := ⟨h.1, by rw [Int.pow_add, ← Int.mul_assoc, h.2]; (generalize one64 = U; ac_rfl)⟩
theorem cancel {x y : Int} {k : Nat} (h : x * 2 ^ k = y * 2 ^ k) : x = y := Int.eq_of_mul_eq_mul_right (Int.ne_of_gt (two_pos k)) h
theorem Dy.eq {n : Int} {k : Nat} {a b : UInt64} (ha : Dy n k a) (hb : Dy n k b) : zv a = zv b := cancel (ha.2.trans hb.2.symm)
theorem val_dneg (a : UInt64) (h : val64 a ≠ .nan) : val64 (Jvm.FP.dneg a) = negate (val64 a) := by
  refine val64_neg_bits ?_
  have hx : (Jvm.FP.dneg a).toNat = a.toNat ^^^ 2 ^ 63 := by
    show (a ^^^ 0x8000000000000000).toNat = _
    rw [UInt64.toNat_xor]; rfl
  have hlt := a.toNat_lt
  by_cases hb : a.toNat < 2 ^ 63
  · right
    rw [hx, Nat.xor_comm]
    have := Nat.two_pow_add_eq_or_of_lt hb 1
    have e2 : (2 ^ 63 ^^^ a.toNat) = 2 ^ 63 + a.toNat := by
      rw [Nat.mul_one] at this
      rw [this]
      apply Nat.eq_of_testBit_eq; intro i
      simp only [Nat.testBit_xor, Nat.testBit_or, Nat.testBit_two_pow]
      by_cases q : 63 = i
      · subst q; simp [Nat.testBit_lt_two_pow hb]
      · simp [q]
    omega
  · left
    have hb' : a.toNat - 2 ^ 63 < 2 ^ 63 := by omega
    have := Nat.two_pow_add_eq_or_of_lt hb' 1
    rw [Nat.mul_one] at this
    have e0 : a.toNat = 2 ^ 63 ||| (a.toNat - 2 ^ 63) := by omega
    have e2 : a.toNat ^^^ 2 ^ 63 = a.toNat - 2 ^ 63 := by
      apply Nat.eq_of_testBit_eq; intro i
      rw [Nat.testBit_xor, Nat.testBit_two_pow]
      have t := congrArg (fun z => z.testBit i) e0
      simp only [Nat.testBit_or, Nat.testBit_two_pow] at t
      rw [t]
      by_cases q : 63 = i
      · subst q; simp [Nat.testBit_lt_two_pow hb']
      · simp [q]
    omega
theorem dneg_fin {a : UInt64} (h : DFin a) : DFin (Jvm.FP.dneg a) := by
  obtain ⟨s, c, q, e⟩ := h
  exact ⟨!s, c, q, by rw [val_dneg a (by rw [e]; exact nofun), e]; rfl⟩
theorem dneg_zv {a : UInt64} (h : val64 a ≠ .nan) : zv (Jvm.FP.dneg a) = -zv a := by
  show zval b64 (val64 (Jvm.FP.dneg a)) = _
  rw [val_dneg a h, zval_negate]
theorem dy_neg {n : Int} {k : Nat} {a : UInt64} (h : Dy n k a) : Dy (-n) k (Jvm.FP.dneg a) := ⟨dneg_fin h.1, by rw [dneg_zv h.nn, Int.neg_mul, h.2, Int.neg_mul]⟩
theorem cneg_fin {a : UInt64} (h : DFin a) : DFin (dneg a) := by
  obtain ⟨s, c, q, e⟩ := h
  exact ⟨!s, c, q, by rw [val64_dneg, e]; rfl⟩
theorem cneg_zv (a : UInt64) : zv (dneg a) = -zv a := by
  show zval b64 (val64 (dneg a)) = _
  rw [val64_dneg, zval_negate]
-- sums
theorem add_nn {a b : UInt64} (ha : DFin a) (hb : DFin b) : val64 (dadd a b) ≠ .nan := (notNaN_iff _).mp (dadd_out ha.notNaN hb)
theorem add_le {a b V : UInt64} (ha : DFin a) (hb : DFin b) (hV : val64 V ≠ .nan) (h : zv a + zv b ≤ zv V) : zv (dadd a b) ≤ zv V := by
  show zval b64 (val64 (dadd a b)) ≤ _
  rw [val64_dadd]
  exact sum_le good_b64 ha hb (val64_fits a) (val64_fits b) (val64_fits V) hV h
theorem add_ge {a b V : UInt64} (ha : DFin a) (hb : DFin b) (hV : val64 V ≠ .nan) (h : zv V ≤ zv a + zv b) : zv V ≤ zv (dadd a b) := by
  show _ ≤ zval b64 (val64 (dadd a b))
  rw [val64_dadd]
  exact sum_ge good_b64 ha hb (val64_fits a) (val64_fits b) (val64_fits V) hV h
theorem add_exact {a b V : UInt64} (ha : DFin a) (hb : DFin b) (hV : DFin V) (h : zv a + zv b = zv V) : DFin (dadd a b) ∧ zv (dadd a b) = zv V := by
  have h1 := add_le ha hb hV.ne_nan (Int.le_of_eq h)
  have h2 := add_ge ha hb hV.ne_nan (Int.le_of_eq h.symm)
  exact ⟨fin_between hV hV (add_nn ha hb) h2 h1, Int.le_antisymm h1 h2⟩
theorem dy_add {n m : Int} {k : Nat} {a b : UInt64} (ha : Dy n k a) (hb : Dy m k b) (hk : k ≤ 1074) (h : (n + m).natAbs < 2 ^ 53) : Dy (n + m) k (dadd a b) := by
  obtain ⟨V, hV, e⟩ := rep_exists (n + m) k hk h
  have q : zv a + zv b = zv V := cancel (k := k) (by rw [Int.add_mul, ha.2, hb.2, e, Int.add_mul])
  obtain ⟨h1, h2⟩ := add_exact ha.1 hb.1 hV q
  exact ⟨h1, by rw [h2]; exact e⟩
theorem dy_sub {n m : Int} {k : Nat} {a b : UInt64} (ha : Dy n k a) (hb : Dy m k b) (hk : k ≤ 1074) (h : (n - m).natAbs < 2 ^ 53) : Dy (n - m) k (dsub a b) := by
  rw [dsub_eq]
  have hb' : Dy (-m) k (dneg b) := ⟨cneg_fin hb.1, by rw [cneg_zv, Int.neg_mul, hb.2, Int.neg_mul]⟩
  have := dy_add ha hb' hk (by rw [← Int.sub_eq_add_neg]; exact h)
  rw [← Int.sub_eq_add_neg] at this; exact this
-- products
theorem mul_nn {a b : UInt64} (ha : DFin a) (hb : DFin b) : val64 (dmul a b) ≠ .nan := (notNaN_iff _).mp (dmul_out ha hb)
theorem mul_units {a b : UInt64} (ha : DFin a) (hb : DFin b) : ∃ s c q, exactProduct (val64 a) (val64 b) = .fin s c q ∧ 2 * b64.qmin ≤ q ∧ signed s (inUnits c q (2 * b64.qmin)) = zv a * zv b := by
  obtain ⟨s, c, q, ea⟩ := ha
  obtain ⟨t, d, r, eb⟩ := hb
  have fa := val64_fits a; have fb := val64_fits b
  rw [ea] at fa; rw [eb] at fb
  obtain ⟨h1, h2, h3⟩ := product_units fa fb
  refine ⟨_, _, _, by rw [ea, eb]; exact h1, h2, ?_⟩
  rw [h3, signed_xor]
  show _ = zval b64 (val64 a) * zval b64 (val64 b)
  rw [ea, eb]; rfl
theorem two_qmin : (b64.qmin - 2 * b64.qmin).toNat = (-b64.qmin).toNat := by congr 1 <;> omega
theorem mul_le {a b V : UInt64} (ha : DFin a) (hb : DFin b) (hV : val64 V ≠ .nan) (h : zv a * zv b ≤ zv V * (one64 : Int)) : zv (dmul a b) ≤ zv V := by
  obtain ⟨s, c, q, e1, e2, e3⟩ := mul_units ha hb
  show zval b64 (val64 (dmul a b)) ≤ zval b64 (val64 V)
  rw [val64_dmul, e1]
  refine zval_round_le good_b64 (val64_fits V) hV (e0 := 2 * b64.qmin) (by rw [qmin_b64]; decide) e2 ?_
  rw [e3, two_qmin, pow_qmin64]; exact h
theorem mul_ge {a b V : UInt64} (ha : DFin a) (hb : DFin b) (hV : val64 V ≠ .nan) (h : zv V * (one64 : Int) ≤ zv a * zv b) : zv V ≤ zv (dmul a b) := by
  obtain ⟨s, c, q, e1, e2, e3⟩ := mul_units ha hb
  show zval b64 (val64 V) ≤ zval b64 (val64 (dmul a b))
  rw [val64_dmul, e1]
  refine zval_round_ge good_b64 (val64_fits V) hV (e0 := 2 * b64.qmin) (by rw [qmin_b64]; decide) e2 ?_
  rw [e3, two_qmin, pow_qmin64]; exact h
theorem mul_exact {a b V : UInt64} (ha : DFin a) (hb : DFin b) (hV : DFin V) (h : zv a * zv b = zv V * (one64 : Int)) : DFin (dmul a b) ∧ zv (dmul a b) = zv V := by
  have h1 := mul_le ha hb hV.ne_nan (Int.le_of_eq h)
  have h2 := mul_ge ha hb hV.ne_nan (Int.le_of_eq h.symm)
  exact ⟨fin_between hV hV (mul_nn ha hb) h2 h1, Int.le_antisymm h1 h2⟩
theorem dy_mul {n m : Int} {k j : Nat} {a b : UInt64} (ha : Dy n k a) (hb : Dy m j b) (hk : k + j ≤ 1074) (h : (n * m).natAbs < 2 ^ 53) : Dy (n * m) (k + j) (dmul a b) := by
  obtain ⟨V, hV, e⟩ := rep_exists (n * m) (k + j) hk h
  have q : zv a * zv b = zv V * (one64 : Int) := cancel (k := k + j) (by
    have : zv a * zv b * 2 ^ (k + j) = (zv a * 2 ^ k) * (zv b * 2 ^ j) := by rw [Int.pow_add]; (generalize one64 = U; ac_rfl)
    rw [this, ha.2, hb.2, show zv V * (one64 : Int) * 2 ^ (k + j) = zv V * 2 ^ (k + j) * (one64 : Int) by (generalize one64 = U; ac_rfl), e]; (generalize one64 = U; ac_rfl))
  obtain ⟨h1, h2⟩ := mul_exact ha.1 hb.1 hV q
  exact ⟨h1, by rw [h2]; exact e⟩
-- quotients
theorem nz_of {b : UInt64} (hb : DFin b) (h : zv b ≠ 0) : ¬ DZero b := fun q => h q.zval
theorem div_nn {a b : UInt64} (ha : DFin a) (hb : DFin b) (h : zv b ≠ 0) : val64 (ddiv a b) ≠ .nan := (notNaN_iff _).mp (ddiv_out ha.notNaN hb (nz_of hb h))
theorem div_pows {q r e0 : Int} (hq : b64.qmin ≤ q) (hr : b64.qmin ≤ r) (h0 : e0 ≤ b64.qmin) (h1 : e0 ≤ q - r) :
    2 ^ (q - r - e0).toNat * 2 ^ (r - b64.qmin).toNat = 2 ^ (q - b64.qmin).toNat * one64 * 2 ^ (b64.qmin - e0).toNat := by
  unfold one64
  rw [← Nat.pow_add, ← Nat.pow_add, ← Nat.pow_add]
  rw [qmin_b64] at *
  congr 1 <;> omega
theorem div_val {a b : UInt64} {s t : Bool} {c d : Nat} {q r : Int} (ea : val64 a = .fin s c q) (eb : val64 b = .fin t d r) (hd : d ≠ 0) : val64 (ddiv a b) = roundRatio b64 (s != t) c d (q - r) := by
  rw [val64_ddiv, ea, eb]
  simp [quotient, hd]
theorem div_mag_le {a b V : UInt64} (ha : DFin a) (hb : DFin b) (hz : zmag b64 (val64 b) ≠ 0) (hV : val64 V ≠ .nan) (h : zmag b64 (val64 a) * one64 ≤ zmag b64 (val64 V) * zmag b64 (val64 b)) : zmag b64 (val64 (ddiv a b)) ≤ zmag b64 (val64 V) := by
  obtain ⟨s, c, q, ea⟩ := ha
  obtain ⟨t, d, r, eb⟩ := hb
  have fa := val64_fits a; have fb := val64_fits b
  rw [ea] at fa; rw [eb] at fb
  have za : zmag b64 (val64 a) = c * 2 ^ (q - b64.qmin).toNat := by rw [ea]; rfl
  have zb : zmag b64 (val64 b) = d * 2 ^ (r - b64.qmin).toNat := by rw [eb]; rfl
  have hd : d ≠ 0 := fun q => hz (by rw [zb, q, Nat.zero_mul])
  rw [div_val ea eb hd]
  have hp := div_pows (e0 := min b64.qmin (q - r)) fa.2.1 fb.2.1 (by omega) (by omega)
  refine zmag_roundRatio_le good_b64 (Nat.pos_of_ne_zero hd) (val64_fits V) hV (e0 := min b64.qmin (q - r)) (by omega) (by omega) ?_
  rw [za, zb] at h
  generalize zmag b64 (val64 V) = v at h ⊢
  unfold inUnits
  refine Nat.le_of_mul_le_mul_right (c := 2 ^ (r - b64.qmin).toNat) ?_ (Nat.two_pow_pos _)
  rw [Nat.mul_assoc, hp]
  have := Nat.mul_le_mul_right (2 ^ (b64.qmin - min b64.qmin (q - r)).toNat) h
  calc c * (2 ^ (q - b64.qmin).toNat * one64 * 2 ^ (b64.qmin - min b64.qmin (q - r)).toNat) = c * 2 ^ (q - b64.qmin).toNat * one64 * 2 ^ (b64.qmin - min b64.qmin (q - r)).toNat := by (generalize one64 = U; ac_rfl)
    _ ≤ _ := this
    _ = v * 2 ^ (b64.qmin - min b64.qmin (q - r)).toNat * d * 2 ^ (r - b64.qmin).toNat := by (generalize one64 = U; ac_rfl)
theorem div_mag_ge {a b V : UInt64} (ha : DFin a) (hb : DFin b) (hz : zmag b64 (val64 b) ≠ 0) (hV : val64 V ≠ .nan) (h : zmag b64 (val64 V) * zmag b64 (val64 b) ≤ zmag b64 (val64 a) * one64) : zmag b64 (val64 V) ≤ zmag b64 (val64 (ddiv a b)) := by
  obtain ⟨s, c, q, ea⟩ := ha
  obtain ⟨t, d, r, eb⟩ := hb
  have fa := val64_fits a; have fb := val64_fits b
  rw [ea] at fa; rw [eb] at fb
  have za : zmag b64 (val64 a) = c * 2 ^ (q - b64.qmin).toNat := by rw [ea]; rfl
  have zb : zmag b64 (val64 b) = d * 2 ^ (r - b64.qmin).toNat := by rw [eb]; rfl
  have hd : d ≠ 0 := fun q => hz (by rw [zb, q, Nat.zero_mul])
  rw [div_val ea eb hd]
  have hp := div_pows (e0 := min b64.qmin (q - r)) fa.2.1 fb.2.1 (by omega) (by omega)
  refine zmag_roundRatio_ge good_b64 (Nat.pos_of_ne_zero hd) (val64_fits V) (e0 := min b64.qmin (q - r)) (by omega) (by omega) ?_
  rw [za, zb] at h
  generalize zmag b64 (val64 V) = v at h ⊢
  unfold inUnits
  refine Nat.le_of_mul_le_mul_right (c := 2 ^ (r - b64.qmin).toNat) ?_ (Nat.two_pow_pos _)
  rw [Nat.mul_assoc c, hp]
  have := Nat.mul_le_mul_right (2 ^ (b64.qmin - min b64.qmin (q - r)).toNat) h
  calc v * 2 ^ (b64.qmin - min b64.qmin (q - r)).toNat * d * 2 ^ (r - b64.qmin).toNat = v * (d * 2 ^ (r - b64.qmin).toNat) * 2 ^ (b64.qmin - min b64.qmin (q - r)).toNat := by (generalize one64 = U; ac_rfl)
    _ ≤ _ := this
    _ = c * (2 ^ (q - b64.qmin).toNat * one64 * 2 ^ (b64.qmin - min b64.qmin (q - r)).toNat) := by (generalize one64 = U; ac_rfl)
theorem div_sgn {a b : UInt64} (ha : DFin a) (hb : DFin b) (hz : zmag b64 (val64 b) ≠ 0) : sgn (val64 (ddiv a b)) = (sgn (val64 a) != sgn (val64 b)) := by
  obtain ⟨s, c, q, ea⟩ := ha
  obtain ⟨t, d, r, eb⟩ := hb
  have zb : zmag b64 (val64 b) = d * 2 ^ (r - b64.qmin).toNat := by rw [eb]; rfl
  have hd : d ≠ 0 := fun q => hz (by rw [zb, q, Nat.zero_mul])
  rw [div_val ea eb hd, sgn_roundRatio, ea, eb]; rfl
theorem zv_cases (a : UInt64) : (sgn (val64 a) = false ∧ zv a = (zmag b64 (val64 a) : Int)) ∨ (sgn (val64 a) = true ∧ zv a = -(zmag b64 (val64 a) : Int)) := by
  show (_ ∧ signed _ _ = _) ∨ (_ ∧ signed _ _ = _)
  cases sgn (val64 a) <;> simp [signed]
theorem nat_mul_le {a b c d : Nat} (h : (a : Int) * (b : Int) ≤ (c : Int) * (d : Int)) : a * b ≤ c * d := by
  rw [← Int.natCast_mul, ← Int.natCast_mul] at h; exact Int.ofNat_le.mp h
theorem div_le {a b V : UInt64} (ha : DFin a) (hb : DFin b) (hp : 0 < zv b) (hV : val64 V ≠ .nan) (h : zv a * (one64 : Int) ≤ zv V * zv b) : zv (ddiv a b) ≤ zv V := by
  have ub := zv_bd b
  have hz : zmag b64 (val64 b) ≠ 0 := by omega
  have eb : sgn (val64 b) = false ∧ zv b = (zmag b64 (val64 b) : Int) := by rcases zv_cases b with q | q; exact q; omega
  have es := div_sgn ha hb hz
  rw [eb.1] at es
  have hU := U_pos
  rcases zv_cases a with ⟨sa, ea⟩ | ⟨sa, ea⟩ <;> rw [sa] at es
  · have er : zv (ddiv a b) = (zmag b64 (val64 (ddiv a b)) : Int) := by rcases zv_cases (ddiv a b) with q | q; exact q.2; rw [q.1] at es; cases es
    rcases zv_cases V with ⟨sv, ev⟩ | ⟨sv, ev⟩
    · have := div_mag_le ha hb hz hV (nat_mul_le (by rw [← ea, ← ev, ← eb.2]; exact h))
      omega
    · have h0 : 0 ≤ zv a * (one64 : Int) := Int.mul_nonneg (by omega) (by omega)
      have h1 : 0 ≤ zv V * zv b := Int.le_trans h0 h
      have h2 : zv V = 0 := by
        by_cases q : zv V < 0
        · have := Int.mul_neg_of_neg_of_pos q hp; omega
        · omega
      have h3 : zmag b64 (val64 V) = 0 := by omega
      rw [h2, Int.zero_mul] at h
      have h5 : zmag b64 (val64 a) * one64 ≤ zmag b64 (val64 V) * zmag b64 (val64 b) := nat_mul_le (by rw [← ea, h3]; simpa using h)
      have := div_mag_le ha hb hz hV h5
      omega
  · have er : zv (ddiv a b) = -(zmag b64 (val64 (ddiv a b)) : Int) := by rcases zv_cases (ddiv a b) with q | q; rw [q.1] at es; cases es; exact q.2
    rcases zv_cases V with ⟨sv, ev⟩ | ⟨sv, ev⟩
    · omega
    · have := div_mag_ge ha hb hz hV (nat_mul_le (by
        have : zv V * zv b = -((zmag b64 (val64 V) : Int) * (zmag b64 (val64 b) : Int)) := by rw [ev, eb.2, Int.neg_mul]
        have h6 : zv a * (one64 : Int) = -((zmag b64 (val64 a) : Int) * (one64 : Int)) := by rw [ea, Int.neg_mul]
        omega))
      omega
theorem div_ge {a b V : UInt64} (ha : DFin a) (hb : DFin b) (hp : 0 < zv b) (hV : val64 V ≠ .nan) (h : zv V * zv b ≤ zv a * (one64 : Int)) : zv V ≤ zv (ddiv a b) := by
  have ub := zv_bd b
  have hz : zmag b64 (val64 b) ≠ 0 := by omega
  have eb : sgn (val64 b) = false ∧ zv b = (zmag b64 (val64 b) : Int) := by rcases zv_cases b with q | q; exact q; omega
  have es := div_sgn ha hb hz
  rw [eb.1] at es
  have hU := U_pos
  rcases zv_cases a with ⟨sa, ea⟩ | ⟨sa, ea⟩ <;> rw [sa] at es
  · have er : zv (ddiv a b) = (zmag b64 (val64 (ddiv a b)) : Int) := by rcases zv_cases (ddiv a b) with q | q; exact q.2; rw [q.1] at es; cases es
    rcases zv_cases V with ⟨sv, ev⟩ | ⟨sv, ev⟩
    · have := div_mag_ge ha hb hz hV (nat_mul_le (by rw [← ea, ← ev, ← eb.2]; exact h))
      omega
    · omega
  · have er : zv (ddiv a b) = -(zmag b64 (val64 (ddiv a b)) : Int) := by rcases zv_cases (ddiv a b) with q | q; rw [q.1] at es; cases es; exact q.2
    rcases zv_cases V with ⟨sv, ev⟩ | ⟨sv, ev⟩
    · have h0 : zv a * (one64 : Int) ≤ 0 := Int.mul_nonpos_of_nonpos_of_nonneg (by omega) (by omega)
      have h1 : zv V * zv b ≤ 0 := Int.le_trans h h0
      have h2 : zv V = 0 := by
        by_cases q : 0 < zv V
        · have := Int.mul_pos q hp; omega
        · omega
      have h3 : zmag b64 (val64 V) = 0 := by omega
      rw [h2, Int.zero_mul] at h
      have h4 : (zmag b64 (val64 a) : Int) * (one64 : Int) = -(zv a * (one64 : Int)) := by rw [ea, Int.neg_mul, Int.neg_neg]
      have h5 : zmag b64 (val64 a) * one64 ≤ zmag b64 (val64 V) * zmag b64 (val64 b) := nat_mul_le (by rw [h4, h3]; simp; omega)
      have := div_mag_le ha hb hz hV h5
      omega
    · have := div_mag_le ha hb hz hV (nat_mul_le (by
        have : zv V * zv b = -((zmag b64 (val64 V) : Int) * (zmag b64 (val64 b) : Int)) := by rw [ev, eb.2, Int.neg_mul]
        have h6 : zv a * (one64 : Int) = -((zmag b64 (val64 a) : Int) * (one64 : Int)) := by rw [ea, Int.neg_mul]
        omega))
      omega
theorem Dy.pos {m : Int} {j : Nat} {b : UInt64} (hb : Dy m j b) (hm : 0 < m) : 0 < zv b := by
  have h1 : 0 < zv b * 2 ^ j := by rw [hb.2]; exact Int.mul_pos hm U_pos
  exact Int.pos_of_mul_pos_left h1 (two_pos j)
theorem div_le_dy {n m q : Int} {k j i : Nat} {a b : UInt64} (ha : Dy n k a) (hb : Dy m j b) (hm : 0 < m) (hi : i ≤ 1074) (hq : q.natAbs < 2 ^ 53) (h : n * 2 ^ j * 2 ^ i ≤ q * m * 2 ^ k) : zv (ddiv a b) * 2 ^ i ≤ q * (one64 : Int) := by
  obtain ⟨V, hV, e⟩ := rep_exists q i hi hq
  rw [← e]
  refine Int.mul_le_mul_of_nonneg_right (div_le ha.1 hb.1 (hb.pos hm) hV.ne_nan ?_) (Int.le_of_lt (two_pos i))
  have hU := U_pos
  refine Int.le_of_mul_le_mul_right (a := 2 ^ k * 2 ^ j * 2 ^ i) ?_ (Int.mul_pos (Int.mul_pos (two_pos k) (two_pos j)) (two_pos i))
  have e1 : zv a * (one64 : Int) * (2 ^ k * 2 ^ j * 2 ^ i) = n * 2 ^ j * 2 ^ i * ((one64 : Int) * (one64 : Int)) := by
    rw [show zv a * (one64 : Int) * (2 ^ k * 2 ^ j * 2 ^ i) = zv a * 2 ^ k * ((one64 : Int) * 2 ^ j * 2 ^ i) by (generalize one64 = U; ac_rfl), ha.2]; (generalize one64 = U; ac_rfl)
  have e2 : zv V * zv b * (2 ^ k * 2 ^ j * 2 ^ i) = q * m * 2 ^ k * ((one64 : Int) * (one64 : Int)) := by
    rw [show zv V * zv b * (2 ^ k * 2 ^ j * 2 ^ i) = (zv V * 2 ^ i) * (zv b * 2 ^ j) * 2 ^ k by (generalize one64 = U; ac_rfl), e, hb.2]; (generalize one64 = U; ac_rfl)
  rw [e1, e2]
  exact Int.mul_le_mul_of_nonneg_right h (Int.le_of_lt (Int.mul_pos hU hU))
theorem div_ge_dy {n m q : Int} {k j i : Nat} {a b : UInt64} (ha : Dy n k a) (hb : Dy m j b) (hm : 0 < m) (hi : i ≤ 1074) (hq : q.natAbs < 2 ^ 53) (h : q * m * 2 ^ k ≤ n * 2 ^ j * 2 ^ i) : q * (one64 : Int) ≤ zv (ddiv a b) * 2 ^ i := by
  obtain ⟨V, hV, e⟩ := rep_exists q i hi hq
  rw [← e]
  refine Int.mul_le_mul_of_nonneg_right (div_ge ha.1 hb.1 (hb.pos hm) hV.ne_nan ?_) (Int.le_of_lt (two_pos i))
  have hU := U_pos
  refine Int.le_of_mul_le_mul_right (a := 2 ^ k * 2 ^ j * 2 ^ i) ?_ (Int.mul_pos (Int.mul_pos (two_pos k) (two_pos j)) (two_pos i))
  have e1 : zv a * (one64 : Int) * (2 ^ k * 2 ^ j * 2 ^ i) = n * 2 ^ j * 2 ^ i * ((one64 : Int) * (one64 : Int)) := by
    rw [show zv a * (one64 : Int) * (2 ^ k * 2 ^ j * 2 ^ i) = zv a * 2 ^ k * ((one64 : Int) * 2 ^ j * 2 ^ i) by (generalize one64 = U; ac_rfl), ha.2]; (generalize one64 = U; ac_rfl)
  have e2 : zv V * zv b * (2 ^ k * 2 ^ j * 2 ^ i) = q * m * 2 ^ k * ((one64 : Int) * (one64 : Int)) := by
    rw [show zv V * zv b * (2 ^ k * 2 ^ j * 2 ^ i) = (zv V * 2 ^ i) * (zv b * 2 ^ j) * 2 ^ k by (generalize one64 = U; ac_rfl), e, hb.2]; (generalize one64 = U; ac_rfl)
  rw [e1, e2]
  exact Int.mul_le_mul_of_nonneg_right h (Int.le_of_lt (Int.mul_pos hU hU))
theorem dy_div {n m q : Int} {k j i : Nat} {a b : UInt64} (ha : Dy n k a) (hb : Dy m j b) (hm : 0 < m) (hi : i ≤ 1074) (hq : q.natAbs < 2 ^ 53) (h : n * 2 ^ j * 2 ^ i = q * m * 2 ^ k) : Dy q i (ddiv a b) := by
  have h1 := div_le_dy ha hb hm hi hq (Int.le_of_eq h)
  have h2 := div_ge_dy ha hb hm hi hq (Int.le_of_eq h.symm)
  have h3 := Int.le_antisymm h1 h2
  obtain ⟨V, hV, e⟩ := rep_exists q i hi hq
  have h4 : zv (ddiv a b) = zv V := cancel (h3.trans e.symm)
  exact ⟨fin_between hV hV (div_nn ha.1 hb.1 (Int.ne_of_gt (hb.pos hm))) (Int.le_of_eq h4.symm) (Int.le_of_eq h4), h3⟩
-- comparisons
theorem cmp_dy {n m : Int} {k j : Nat} {a b : UInt64} (ha : Dy n k a) (hb : Dy m j b) : Jvm.FP.dcmp a b = some (compare (n * 2 ^ j) (m * 2 ^ k)) := by
  show dcmp a b = _
  rw [dcmp_zval ha.nn hb.nn]
  congr 1
  have hU := U_pos
  have e1 : zv a * (2 ^ k * 2 ^ j) = n * 2 ^ j * (one64 : Int) := by rw [← Int.mul_assoc, ha.2]; (generalize one64 = U; ac_rfl)
  have e2 : zv b * (2 ^ k * 2 ^ j) = m * 2 ^ k * (one64 : Int) := by rw [show zv b * (2 ^ k * 2 ^ j) = zv b * 2 ^ j * 2 ^ k by (generalize one64 = U; ac_rfl), hb.2]; (generalize one64 = U; ac_rfl)
  rw [← compare_mul_pos (zv a) (zv b) (2 ^ k * 2 ^ j) (Int.mul_pos (two_pos k) (two_pos j)), e1, e2, compare_mul_pos _ _ _ hU]
theorem cmp_dy0 {n m : Int} {k : Nat} {a b : UInt64} (ha : Dy n k a) (hb : Dy m k b) : Jvm.FP.dcmp a b = some (compare n m) := by
  rw [cmp_dy ha hb, compare_mul_pos _ _ _ (two_pos k)]
theorem cmp_lt {a b : UInt64} (ha : val64 a ≠ .nan) (hb : val64 b ≠ .nan) (h : zv a < zv b) : Jvm.FP.dcmp a b = some .lt := dcmp_lt.mpr ⟨ha, hb, h⟩
theorem cmp_eq {a b : UInt64} (ha : val64 a ≠ .nan) (hb : val64 b ≠ .nan) (h : zv a = zv b) : Jvm.FP.dcmp a b = some .eq := dcmp_eq.mpr ⟨ha, hb, h⟩
theorem cmp_gt {a b : UInt64} (ha : val64 a ≠ .nan) (hb : val64 b ≠ .nan) (h : zv b < zv a) : Jvm.FP.dcmp a b = some .gt := dcmp_gt.mpr ⟨ha, hb, h⟩
open Jvm.Op in
theorem cv_lt_g (r : Option Ordering) : cmpValue r .g < 0 ↔ r = some .lt := by rcases r with _ | (_ | _ | _) <;> decide
open Jvm.Op in
theorem cv_lt_l (r : Option Ordering) : cmpValue r .l < 0 ↔ r = some .lt ∨ r = none := by rcases r with _ | (_ | _ | _) <;> decide
open Jvm.Op in
theorem cv_gt_g (r : Option Ordering) : 0 < cmpValue r .g ↔ r = some .gt ∨ r = none := by rcases r with _ | (_ | _ | _) <;> decide
open Jvm.Op in
theorem cv_gt_l (r : Option Ordering) : 0 < cmpValue r .l ↔ r = some .gt := by rcases r with _ | (_ | _ | _) <;> decide
open Jvm.Op in
theorem cv_eq (r : Option Ordering) (o : Jvm.ClassFile.CmpOp) : cmpValue r o = 0 ↔ r = some .eq := by cases o <;> rcases r with _ | (_ | _ | _) <;> decide
theorem nn64 {a : UInt64} (h : DFin a) : Jvm.Free.Fl.NoNaN64 a := Jvm.Free.Fl.val64_no.mpr h.ne_nan
theorem nnv {a : UInt64} (h : val64 a ≠ .nan) : Jvm.Free.Fl.NoNaN64 a := Jvm.Free.Fl.val64_no.mpr h
theorem nn_v {a : UInt64} (h : Jvm.Free.Fl.NoNaN64 a) : val64 a ≠ .nan := Jvm.Free.Fl.val64_no.mp h
end Jvm.OwnFP
namespace Jvm.OwnKit
open Jvm Jvm.ClassFile Sem Op Lib Jvm.Free Jvm.Stand Jvm.LawKit Jvm.RoadKit
theorem eqF_int {Z : State} {args : Array Value} {t : Term} {C n d : String} {x : Addr} {k : Int32} (ev : t.eval args Z none [] Z = some (.ref x)) (h : (Jvm.Cond.eq (Term.field t C n d) (Term.int k)).value args Z none Z [] = some true) : Fld Z Z.heap x C n d (.int k) := by
  obtain ⟨u, w, h1, h2, -, h4⟩ := cmp_v (Or.inl h)
  have e2 : (Term.int k).eval args Z none [] Z = some (.int k) := Term.int_eval k
  cases e2.symm.trans h2
  obtain ⟨z, rfl⟩ := h4
  have hz : z = k := by simpa [Cond.value, h1, e2] using h
  subst hz
  exact Fld.start (by rw [← fld_at ev]; exact h1)
theorem eqF_dbl {Z : State} {args : Array Value} {t : Term} {C n d : String} {x : Addr} {k : Int64} {b : UInt64} (ev : t.eval args Z none [] Z = some (.ref x)) (h : (Jvm.Cond.eq (Term.field t C n d) (Term.op1 Jvm.Unary.bitsD (Term.long k))).value args Z none Z [] = some true) (hb : k.toUInt64 = b) : Fld Z Z.heap x C n d (.double b) := by
  obtain ⟨u, w, h1, h2, -, h4⟩ := cmp_v (Or.inl h)
  have e2 : (Term.op1 Jvm.Unary.bitsD (Term.long k)).eval args Z none [] Z = some (.double k.toUInt64) := by simp [Term.eval, Jvm.Unary.apply]
  cases e2.symm.trans h2
  obtain ⟨z, rfl⟩ := h4
  have hz : z = k.toUInt64 := by simpa [Cond.value, h1, e2] using h
  subst hz; subst hb
  exact Fld.start (by rw [← fld_at ev]; exact h1)
theorem eqS_int {Z : State} {args : Array Value} {C n d : String} {k : Int32} (h : (Jvm.Cond.eq (Term.static C n d) (Term.int k)).value args Z none Z [] = some true) : (Term.static C n d).eval args Z none [] Z = some (.int k) := by
  obtain ⟨u, w, h1, h2, -, h4⟩ := cmp_v (Or.inl h)
  have e2 : (Term.int k).eval args Z none [] Z = some (.int k) := Term.int_eval k
  cases e2.symm.trans h2
  obtain ⟨z, rfl⟩ := h4
  have hz : z = k := by simpa [Cond.value, h1, e2] using h
  subst hz
  exact h1
theorem staKeep {Z : State} {h h' : Heap} {C n d : String} {v : Value} {ws : List Addr} (F : Sta Z h C n d v) (K : Keep h h' ws) (q : ∀ x ∈ ws, ∃ c : Cell, h[x]? = some c ∧ c.vm.isStatics = false) : Sta Z h' C n d v := by
  obtain ⟨cf, i, k, f, st, cell, h1, h2, h3, h4, h5, h6, h7⟩ := F
  refine ⟨cf, i, k, f, st, cell, h1, h2, h3, h4, K.2.1 st cell h5 fun hm => ?_, h6, h7⟩
  obtain ⟨c, e1, e2⟩ := q st hm
  cases h5.symm.trans e1
  rw [e2] at h6; cases h6
theorem exaSt {Z : State} {h : Heap} {a : Addr} {C : String} (F : Exa Z h a C) : ∃ c : Cell, h[a]? = some c ∧ c.vm.isStatics = false := by
  obtain ⟨c, _, h1, -, -, h4, -⟩ := F; exact ⟨c, h1, h4⟩
theorem arvSt {Z : State} {h : Heap} {a : Addr} {k : ClassId} {ty : FieldType} {z : Int32} {vs : List Value} {dv : Value} (F : Arv Z h a k ty z vs dv) : ∃ c : Cell, h[a]? = some c ∧ c.vm.isStatics = false := by
  obtain ⟨c, A, -⟩ := F; exact ⟨c, A.1, A.plain⟩
theorem narB0 : nar .boolean 0 = 0 := by decide
theorem narB1 : nar .boolean 1 = 1 := by decide
end Jvm.OwnKit
namespace Jvm.Pilot.@@N@@
open Jvm Jvm.ClassFile Sem Op Lib Jvm.Free Jvm.Stand Jvm.LawKit Jvm.RoadKit Bundle Jvm.OwnFP Jvm.OwnKit Jvm.Pilot.@@N@@.Jvm.D
theorem own_nz {a : Int32} (h : ¬ a = 0) : a.toInt ≠ 0 := fun q => h (Int32.toInt_inj.mp (by rw [q]; rfl))
theorem own_zv_nz {n : Int} {b : UInt64} (hb : Dy n 0 b) (h : n ≠ 0) : zv b ≠ 0 := by
  intro q
  have e := hb.2
  rw [q] at e
  have hU := U_pos
  rcases Int.mul_eq_zero.mp (show n * (Jvm.FP.Core.one64 : Int) = 0 by rw [← e]; simp) with h1 | h1
  · exact h h1
  · omega
theorem own_div_nn (a c : Int32) (hc : ¬ c = 0) : Jvm.Free.Fl.NoNaN64 (FP.ddiv (FP.i2d a) (FP.i2d c)) :=
  nnv (div_nn (dy_i2d a).1 (dy_i2d c).1 (own_zv_nz (dy_i2d c) (own_nz hc)))
theorem own_rng (x : Int32) : ((if x % 1000000 = 0 then 1 else x % 1000000) : Int32).toInt < 1000000 := by
  by_cases h : x % 1000000 = 0
  · rw [if_pos h]; decide
  · rw [if_neg h, Int32.toInt_mod]
    show x.toInt.tmod 1000000 < 1000000
    exact Int.tmod_lt_of_pos _ (by decide)
/-- the quotient of two whole numbers from 1 to 999999 against 1 -/
theorem own_q {a c : Int32} (ha : 0 < a.toInt) (hc : 0 < c.toInt) (hc2 : c.toInt < 1000000) (r : UInt64) (hr : r = FP.ddiv (FP.i2d a) (FP.i2d c)) :
    (0 < cmpValue (FP.dcmp r 4607182418800017408) .l ↔ c.toInt < a.toInt) ∧ (a = c → cmpValue (FP.dcmp r 4607182418800017408) .l = 0) := by
  subst hr
  have hA := dy_i2d a; have hC := dy_i2d c
  have hn := div_nn hA.1 hC.1 (Int.ne_of_gt (hC.pos hc))
  have e1 : zv 4607182418800017408 = (Jvm.FP.Core.one64 : Int) := by have := dy_one.2; simpa using this
  have hU := U_pos
  have le : a.toInt ≤ c.toInt → zv (FP.ddiv (FP.i2d a) (FP.i2d c)) ≤ zv 4607182418800017408 := fun h => by
    have := div_le_dy (q := 1) (i := 0) hA hC hc (by decide) (by decide) (by simpa using h)
    rw [e1]; simpa using this
  have ge : c.toInt ≤ a.toInt → zv 4607182418800017408 ≤ zv (FP.ddiv (FP.i2d a) (FP.i2d c)) := fun h => by
    have := div_ge_dy (q := 1) (i := 0) hA hC hc (by decide) (by decide) (by simpa using h)
    rw [e1]; simpa using this
  have gt : c.toInt < a.toInt → zv 4607182418800017408 < zv (FP.ddiv (FP.i2d a) (FP.i2d c)) := fun h => by
    have := div_ge_dy (q := 1048577) (i := 20) hA hC hc (by decide) (by decide) (by simp only [Int.pow_zero, Int.mul_one, show (2 : Int) ^ 20 = 1048576 by decide]; omega)
    simp only [show (2 : Int) ^ 20 = 1048576 by decide] at this
    have h' : (1048577 : Int) * (Jvm.FP.Core.one64 : Int) ≤ zv (FP.ddiv (FP.i2d a) (FP.i2d c)) * 1048576 := this
    rw [e1]; omega
  refine ⟨?_, fun h => ?_⟩
  · rw [cv_gt_l]
    constructor
    · intro h
      have := (Jvm.FP.Core.dcmp_gt.mp h).2.2
      by_cases q : c.toInt < a.toInt
      · exact q
      · exact absurd (le (by omega)) (Int.not_le.mpr this)
    · intro h
      exact cmp_gt hn dy_one.nn (gt h)
  · rw [cv_eq]
    subst h
    exact cmp_eq hn dy_one.nn (Int.le_antisymm (le (Int.le_refl _)) (ge (Int.le_refl _)))
theorem own_bool {x y : Int32} (hx : x = 0 ∨ x = 1) (hy : y = 0 ∨ y = 1) (h : x = 1 ↔ y = 1) : x = y := by
  rcases hx with rfl | rfl <;> rcases hy with rfl | rfl <;> simp_all
theorem ef_rm1 (m : MethodId) (x0 : Addr) (x1 : UInt64) (x2 : UInt64) : entryFrame m #[(.ref x0), (.double x1), (.double x2)] 5 = mkF m 0 #[.val (.ref x0), .val (.double x1), .second, .val (.double x2), .second] [] := by first | (simp [entryFrame, mkF, argsToLocals, Value.category]; done) | rfl
theorem d1_0 : decode prog_43_method_5_code 0 = .ok (.aload_n 0, 1) := by decide +kernel
theorem d1_1 : decode prog_43_method_5_code 1 = .ok (.getfield 38, 3) := by decide +kernel
theorem d1_4 : decode prog_43_method_5_code 4 = .ok (.ifCond .eq 9, 3) := by decide +kernel
theorem d1_13 : decode prog_43_method_5_code 13 = .ok (.dload_n 3, 1) := by decide +kernel
theorem d1_14 : decode prog_43_method_5_code 14 = .ok (.dload_n 1, 1) := by decide +kernel
theorem d1_15 : decode prog_43_method_5_code 15 = .ok (.ddiv, 1) := by decide +kernel
theorem d1_16 : decode prog_43_method_5_code 16 = .ok (.dreturn, 1) := by decide +kernel
theorem d1_7 : decode prog_43_method_5_code 7 = .ok (.dload_n 1, 1) := by decide +kernel
theorem d1_8 : decode prog_43_method_5_code 8 = .ok (.dload_n 3, 1) := by decide +kernel
theorem d1_9 : decode prog_43_method_5_code 9 = .ok (.ddiv, 1) := by decide +kernel
theorem d1_10 : decode prog_43_method_5_code 10 = .ok (.goto 6, 3) := by decide +kernel
theorem own_pn_org_latchwork_cli_Figure_Unit : plainName "org/latchwork/cli/Figure$Unit" = true := by first | (simp [plainName, overriddenIn]; done) | decide +kernel
def Q1 (Z : State) (a0_ : Addr) (d1 : UInt64) (d2 : UInt64) (hib : Int32) (h0 : Heap) (n0 : Nat) (v : Option Value) (h : Heap) (L : List Loc) : Prop := v = some (.double (if hib = 0 then FP.ddiv d2 d1 else FP.ddiv d1 d2)) ∧ Fr n0 L ∧ h = h0
set_option maxRecDepth 65536 in
set_option maxHeartbeats 40000000 in
theorem rm1 (l : Launch) (Z : State) (a0 : Array Value) (hw : ∀ d ∈ tables_1, d.before a0 Z = true) (ws : List Jvm.Cond) (a0_ : Addr) (d1 : UInt64) (d2 : UInt64) (hib : Int32) (h0 : Heap) (n0 : Nat) (Z0 : n0 ≤ h0.size) (F1 : Fld Z h0 a0_ "org/latchwork/cli/Figure$Unit" "higherIsBetter" "Z" (.int hib)) (n1 : ¬ hib = 0 → Jvm.Free.Fl.NoNaN64 (FP.ddiv d1 d2)) (n2 : hib = 0 → Jvm.Free.Fl.NoNaN64 (FP.ddiv d2 d1)) :
    MetFree l (⟨"org/latchwork/cli/Figure$Unit", "ratio", "(DD)D"⟩ : MethodName) (head1 (Jvm.Cond.code (⟨"org/latchwork/cli/Figure$Unit", "ratio", "(DD)D"⟩ : MethodName) prog_43_method_5_code 5 (some .double) :: ws) ({ frames := 0, cells := 0, slots := 0, locals := 0 } : Room)) (fun a U => a = #[(.ref a0_), (.double d1), (.double d2)] ∧ Z.Warmed39 U.vm ∧ U.heap = h0) (fun _ _ _ _ _ => True) (fun _ U o U' => ∃ v L, o = .returned v ∧ Q1 Z a0_ d1 d2 hib h0 n0 v U'.heap L ∧ FrameEnd U o U' L ({ frames := 0, cells := 0, slots := 0, locals := 0 } : Room).cells ({ frames := 0, cells := 0, slots := 0, locals := 0 } : Room).slots) := by
  refine MetFree.of_bodySF (plainFor_of_name own_pn_org_latchwork_cli_Figure_Unit) hisR ?_
  intro p e s m args below meth c s₁ Bd hml0 hP hK
  obtain ⟨rfl, hZ, hh⟩ := hP
  have hx := Bd.exec
  have hby := Bd.bytes
  have hml : c.maxLocals = 5 := hml0
  have hown : s.vm.findClass "org/latchwork/cli/Figure$Unit" = some m.cls := findClass_of_methodNamed Bd.named
  have hnm := (name_of_methodNamed Bd.named Bd.method).1
  have X0 : Stand p l e ({ frames := 0, cells := 0, slots := 0, locals := 0 } : Room) s m #[(.ref a0_), (.double d1), (.double d2)] below meth c s₁ [] 0 0 := Stand.of_body Bd
  have e0 : s₁.heap = h0 := by rw [← hh, Bd.state]; rfl
  have N0 := Fr.nil n0
  have pre0 : ∀ t, Steps p.tables e below (s₁.setTop (mkF m 0 #[.val (.ref a0_), .val (.double d1), .second, .val (.double d2), .second] [])) t → Steps p.tables e below (s₁.setTop (entryFrame m #[(.ref a0_), (.double d1), (.double d2)] 5)) t := fun t k => castTop (ef_rm1 m a0_ d1 d2) k
  have a1 : ∀ t, Steps p.tables e below (s₁.setTop (mkF m 1 #[.val (.ref a0_), .val (.double d1), .second, .val (.double d2), .second] [(.ref a0_)])) t → Steps p.tables e below (s₁.setTop (entryFrame m #[(.ref a0_), (.double d1), (.double d2)] 5)) t := by
    intro t k
    refine pre0 t ?_
    show Steps p.tables e below (s₁.setTop (mkF m 0 #[.val (.ref a0_), .val (.double d1), .second, .val (.double d2), .second] [])) _
    refine XS.aloadN X0.here hx rfl (hb hby d1_0) rfl rfl ?_
    exact k
  obtain ⟨T2, X2, e2, st2⟩ := getF X0 hx hZ hown (host := "") (Or.inl (hw _ (List.mem_of_getElem? (i := 10) rfl))) Via.refl e0 F1 (g := (mkF m 1 #[.val (.ref a0_), .val (.double d1), .second, .val (.double d2), .second] [(.ref a0_)])) rfl rfl (hb hby d1_1)
  have a3 : ∀ t, Steps p.tables e below (T2.setTop (mkF m 4 #[.val (.ref a0_), .val (.double d1), .second, .val (.double d2), .second] [(.int hib)])) t → Steps p.tables e below (s₁.setTop (entryFrame m #[(.ref a0_), (.double d1), (.double d2)] 5)) t := fun t k => a1 t (st2 t k)
  by_cases hc4_4 : hib = (0 : Int32)
  ·
    have a5 : ∀ t, Steps p.tables e below (T2.setTop (mkF m 16 #[.val (.ref a0_), .val (.double d1), .second, .val (.double d2), .second] [(.double (FP.ddiv d2 d1))])) t → Steps p.tables e below (s₁.setTop (entryFrame m #[(.ref a0_), (.double d1), (.double d2)] 5)) t := by
      intro t k
      refine a3 t ?_
      show Steps p.tables e below (T2.setTop (mkF m 4 #[.val (.ref a0_), .val (.double d1), .second, .val (.double d2), .second] [(.int hib)])) _
      refine XS.ifYes X2.here hx rfl (pc0 := 4) (pc' := 13) rfl (hb hby d1_4) rfl ((if0 _ _).trans (teq hc4_4).1) (by decide) (by decide) ?_
      show Steps p.tables e below (T2.setTop (mkF m 13 #[.val (.ref a0_), .val (.double d1), .second, .val (.double d2), .second] [])) _
      refine XS.dloadN X2.here hx rfl (hb hby d1_13) rfl ?_
      show Steps p.tables e below (T2.setTop (mkF m 14 #[.val (.ref a0_), .val (.double d1), .second, .val (.double d2), .second] [(.double d2)])) _
      refine XS.dloadN X2.here hx rfl (hb hby d1_14) rfl ?_
      show Steps p.tables e below (T2.setTop (mkF m 15 #[.val (.ref a0_), .val (.double d1), .second, .val (.double d2), .second] [(.double d1), (.double d2)])) _
      refine XS.ddivS X2.here hx rfl (hb hby d1_15) rfl (n2 hc4_4) rfl ?_
      exact k
    obtain ⟨fs, hr, hrun, hended, hW, hsame⟩ := X2.leave (v := some (.double (FP.ddiv d2 d1))) (fun h => by rw [Bd.returns] at h; cases h)
    refine ⟨_, _, a5 _ ?_, hrun, hended, _, _, rfl, ?_, ⟨_, rfl⟩, hW, hsame.mono (by decide) (by decide)⟩
    · show Steps p.tables e below (T2.setTop (mkF m 16 #[.val (.ref a0_), .val (.double d1), .second, .val (.double d2), .second] [(.double (FP.ddiv d2 d1))])) _
      exact retOut X2 hx Bd.returns rfl (Or.inr (Or.inr (Or.inl ⟨rfl, rfl, _, rfl⟩))) (hb hby d1_16) hr
    · show Q1 Z a0_ d1 d2 hib h0 n0 _ T2.heap _
      rw [e2]
      exact ⟨by rw [if_pos hc4_4], N0, rfl⟩
  ·
    have a6 : ∀ t, Steps p.tables e below (T2.setTop (mkF m 16 #[.val (.ref a0_), .val (.double d1), .second, .val (.double d2), .second] [(.double (FP.ddiv d1 d2))])) t → Steps p.tables e below (s₁.setTop (entryFrame m #[(.ref a0_), (.double d1), (.double d2)] 5)) t := by
      intro t k
      refine a3 t ?_
      show Steps p.tables e below (T2.setTop (mkF m 4 #[.val (.ref a0_), .val (.double d1), .second, .val (.double d2), .second] [(.int hib)])) _
      refine XS.ifNo X2.here hx rfl (hb hby d1_4) rfl ((if0 _ _).trans (feq hc4_4).1) ?_
      show Steps p.tables e below (T2.setTop (mkF m 7 #[.val (.ref a0_), .val (.double d1), .second, .val (.double d2), .second] [])) _
      refine XS.dloadN X2.here hx rfl (hb hby d1_7) rfl ?_
      show Steps p.tables e below (T2.setTop (mkF m 8 #[.val (.ref a0_), .val (.double d1), .second, .val (.double d2), .second] [(.double d1)])) _
      refine XS.dloadN X2.here hx rfl (hb hby d1_8) rfl ?_
      show Steps p.tables e below (T2.setTop (mkF m 9 #[.val (.ref a0_), .val (.double d1), .second, .val (.double d2), .second] [(.double d2), (.double d1)])) _
      refine XS.ddivS X2.here hx rfl (hb hby d1_9) rfl (n1 hc4_4) rfl ?_
      show Steps p.tables e below (T2.setTop (mkF m 10 #[.val (.ref a0_), .val (.double d1), .second, .val (.double d2), .second] [(.double (FP.ddiv d1 d2))])) _
      refine XS.goto X2.here hx rfl (pc0 := 10) (pc' := 16) rfl (hb hby d1_10) (by decide) (by decide) ?_
      exact k
    obtain ⟨fs, hr, hrun, hended, hW, hsame⟩ := X2.leave (v := some (.double (FP.ddiv d1 d2))) (fun h => by rw [Bd.returns] at h; cases h)
    refine ⟨_, _, a6 _ ?_, hrun, hended, _, _, rfl, ?_, ⟨_, rfl⟩, hW, hsame.mono (by decide) (by decide)⟩
    · show Steps p.tables e below (T2.setTop (mkF m 16 #[.val (.ref a0_), .val (.double d1), .second, .val (.double d2), .second] [(.double (FP.ddiv d1 d2))])) _
      exact retOut X2 hx Bd.returns rfl (Or.inr (Or.inr (Or.inl ⟨rfl, rfl, _, rfl⟩))) (hb hby d1_16) hr
    · show Q1 Z a0_ d1 d2 hib h0 n0 _ T2.heap _
      rw [e2]
      exact ⟨by rw [if_neg hc4_4], N0, rfl⟩
theorem ef_rm0 (m : MethodId) (x0 : Int32) (x1 : Int32) (x2 : Int32) : entryFrame m #[(.int x0), (.int x1), (.int x2)] maxLocals = mkF m 0 #[.val (.int x0), .val (.int x1), .val (.int x2), .unset, .unset, .unset, .unset, .unset, .unset, .unset, .unset, .unset, .unset, .unset, .unset, .unset, .unset] [] := by first | (simp [entryFrame, mkF, argsToLocals, Value.category, maxLocals]; done) | rfl
theorem own_pd0 : parseMethodDescriptor "(DD)D" = some ⟨[.double, .double], some .double⟩ := by decide +kernel
theorem own_pn_org_latchwork_cli_UnitRatioPinLaw : plainName "org/latchwork/cli/UnitRatioPinLaw" = true := by first | (simp [plainName, overriddenIn]; done) | decide +kernel
def Q0 (Z : State) (p0 : Int32) (p1 : Int32) (p2 : Int32) (w_OPS_PER_S : Addr) (w_ITEMS_PER_S : Addr) (w_WRITER_WAIT_MAX_MS : Addr) (w_ENTRIES_PER_S : Addr) (w_ROUNDS_PER_S : Addr) (h0 : Heap) (n0 : Nat) (v : Option Value) (h : Heap) (L : List Loc) : Prop := v = some (.int 1) ∧ Fr n0 L
set_option maxRecDepth 65536 in
set_option maxHeartbeats 40000000 in
theorem rm0 (l : Launch) (Z : State) (a0 : Array Value) (hw : ∀ d ∈ tables_1, d.before a0 Z = true) (ws : List Jvm.Cond) (p0 : Int32) (p1 : Int32) (p2 : Int32) (w_OPS_PER_S : Addr) (w_ITEMS_PER_S : Addr) (w_WRITER_WAIT_MAX_MS : Addr) (w_ENTRIES_PER_S : Addr) (w_ROUNDS_PER_S : Addr) (h0 : Heap) (n0 : Nat) (Z0 : n0 ≤ h0.size) (S_OPS_PER_S : Sta Z h0 "org/latchwork/cli/Figure$Unit" "OPS_PER_S" "Lorg/latchwork/cli/Figure$Unit;" (.ref w_OPS_PER_S)) (X_OPS_PER_S : Exa Z h0 w_OPS_PER_S "org/latchwork/cli/Figure$Unit") (F_OPS_PER_S_higherIsBetter : Fld Z h0 w_OPS_PER_S "org/latchwork/cli/Figure$Unit" "higherIsBetter" "Z" (.int 1)) (S_ITEMS_PER_S : Sta Z h0 "org/latchwork/cli/Figure$Unit" "ITEMS_PER_S" "Lorg/latchwork/cli/Figure$Unit;" (.ref w_ITEMS_PER_S)) (X_ITEMS_PER_S : Exa Z h0 w_ITEMS_PER_S "org/latchwork/cli/Figure$Unit") (F_ITEMS_PER_S_higherIsBetter : Fld Z h0 w_ITEMS_PER_S "org/latchwork/cli/Figure$Unit" "higherIsBetter" "Z" (.int 1)) (S_WRITER_WAIT_MAX_MS : Sta Z h0 "org/latchwork/cli/Figure$Unit" "WRITER_WAIT_MAX_MS" "Lorg/latchwork/cli/Figure$Unit;" (.ref w_WRITER_WAIT_MAX_MS)) (X_WRITER_WAIT_MAX_MS : Exa Z h0 w_WRITER_WAIT_MAX_MS "org/latchwork/cli/Figure$Unit") (F_WRITER_WAIT_MAX_MS_higherIsBetter : Fld Z h0 w_WRITER_WAIT_MAX_MS "org/latchwork/cli/Figure$Unit" "higherIsBetter" "Z" (.int 0)) (S_ENTRIES_PER_S : Sta Z h0 "org/latchwork/cli/Figure$Unit" "ENTRIES_PER_S" "Lorg/latchwork/cli/Figure$Unit;" (.ref w_ENTRIES_PER_S)) (X_ENTRIES_PER_S : Exa Z h0 w_ENTRIES_PER_S "org/latchwork/cli/Figure$Unit") (F_ENTRIES_PER_S_higherIsBetter : Fld Z h0 w_ENTRIES_PER_S "org/latchwork/cli/Figure$Unit" "higherIsBetter" "Z" (.int 1)) (S_ROUNDS_PER_S : Sta Z h0 "org/latchwork/cli/Figure$Unit" "ROUNDS_PER_S" "Lorg/latchwork/cli/Figure$Unit;" (.ref w_ROUNDS_PER_S)) (X_ROUNDS_PER_S : Exa Z h0 w_ROUNDS_PER_S "org/latchwork/cli/Figure$Unit") (F_ROUNDS_PER_S_higherIsBetter : Fld Z h0 w_ROUNDS_PER_S "org/latchwork/cli/Figure$Unit" "higherIsBetter" "Z" (.int 1)) :
    MetFree l x (head1 (Jvm.Cond.code x code maxLocals ret :: ws) room_1) (fun a U => a = #[(.int p0), (.int p1), (.int p2)] ∧ Z.Warmed39 U.vm ∧ U.heap = h0) (fun _ _ _ _ _ => True) (fun _ U o U' => ∃ v L, o = .returned v ∧ Q0 Z p0 p1 p2 w_OPS_PER_S w_ITEMS_PER_S w_WRITER_WAIT_MAX_MS w_ENTRIES_PER_S w_ROUNDS_PER_S h0 n0 v U'.heap L ∧ FrameEnd U o U' L room_1.cells room_1.slots) := by
  refine MetFree.of_bodySF (plainFor_of_name own_pn_org_latchwork_cli_UnitRatioPinLaw) hisR ?_
  intro p e s m args below meth c s₁ Bd hml0 hP hK
  obtain ⟨rfl, hZ, hh⟩ := hP
  have hx := Bd.exec
  have hby := Bd.bytes
  have hml : c.maxLocals = 17 := hml0
  have hown : s.vm.findClass "org/latchwork/cli/UnitRatioPinLaw" = some m.cls := findClass_of_methodNamed Bd.named
  have hnm := (name_of_methodNamed Bd.named Bd.method).1
  have X0 : Stand p l e room_1 s m #[(.int p0), (.int p1), (.int p2)] below meth c s₁ [] 0 0 := Stand.of_body Bd
  have e0 : s₁.heap = h0 := by rw [← hh, Bd.state]; rfl
  have N0 := Fr.nil n0
  have pre0 : ∀ t, Steps p.tables e below (s₁.setTop (mkF m 0 #[.val (.int p0), .val (.int p1), .val (.int p2), .unset, .unset, .unset, .unset, .unset, .unset, .unset, .unset, .unset, .unset, .unset, .unset, .unset, .unset] [])) t → Steps p.tables e below (s₁.setTop (entryFrame m #[(.int p0), (.int p1), (.int p2)] maxLocals)) t := fun t k => castTop (ef_rm0 m p0 p1 p2) k
  have a1 : ∀ t, Steps p.tables e below (s₁.setTop (mkF m 8 #[.val (.int p0), .val (.int p1), .val (.int p2), .val (.int ((p0 &&& (2147483647 : Int32)) % (5 : Int32))), .unset, .unset, .unset, .unset, .unset, .unset, .unset, .unset, .unset, .unset, .unset, .unset, .unset] [(.int ((p0 &&& (2147483647 : Int32)) % (5 : Int32)))])) t → Steps p.tables e below (s₁.setTop (entryFrame m #[(.int p0), (.int p1), (.int p2)] maxLocals)) t := by
    intro t k
    refine pre0 t ?_
    show Steps p.tables e below (s₁.setTop (mkF m 0 #[.val (.int p0), .val (.int p1), .val (.int p2), .unset, .unset, .unset, .unset, .unset, .unset, .unset, .unset, .unset, .unset, .unset, .unset, .unset, .unset] [])) _
    refine XS.iloadN X0.here hx rfl (hb hby at_0) rfl ?_
    show Steps p.tables e below (s₁.setTop (mkF m 1 #[.val (.int p0), .val (.int p1), .val (.int p2), .unset, .unset, .unset, .unset, .unset, .unset, .unset, .unset, .unset, .unset, .unset, .unset, .unset, .unset] [(.int p0)])) _
    refine X0.ldcInt hx hown (mvT hZ (hw _ (List.mem_of_getElem? (i := 0) rfl))) (g := (mkF m 1 #[.val (.int p0), .val (.int p1), .val (.int p2), .unset, .unset, .unset, .unset, .unset, .unset, .unset, .unset, .unset, .unset, .unset, .unset, .unset, .unset] [(.int p0)])) rfl (hb hby at_1) _ ?_
    show Steps p.tables e below (s₁.setTop (mkF m 3 #[.val (.int p0), .val (.int p1), .val (.int p2), .unset, .unset, .unset, .unset, .unset, .unset, .unset, .unset, .unset, .unset, .unset, .unset, .unset, .unset] [(.int (2147483647 : Int32)), (.int p0)])) _
    refine XS.iand X0.here hx rfl (hb hby at_3) rfl ?_
    show Steps p.tables e below (s₁.setTop (mkF m 4 #[.val (.int p0), .val (.int p1), .val (.int p2), .unset, .unset, .unset, .unset, .unset, .unset, .unset, .unset, .unset, .unset, .unset, .unset, .unset, .unset] [(.int (p0 &&& (2147483647 : Int32)))])) _
    refine XS.iconst X0.here hx rfl (hb hby at_4) ?_
    show Steps p.tables e below (s₁.setTop (mkF m 5 #[.val (.int p0), .val (.int p1), .val (.int p2), .unset, .unset, .unset, .unset, .unset, .unset, .unset, .unset, .unset, .unset, .unset, .unset, .unset, .unset] [(.int (5 : Int32)), (.int (p0 &&& (2147483647 : Int32)))])) _
    refine iremM X0 hx rfl (hb hby at_5) rfl (by decide) ?_
    show Steps p.tables e below (s₁.setTop (mkF m 6 #[.val (.int p0), .val (.int p1), .val (.int p2), .unset, .unset, .unset, .unset, .unset, .unset, .unset, .unset, .unset, .unset, .unset, .unset, .unset, .unset] [(.int ((p0 &&& (2147483647 : Int32)) % (5 : Int32)))])) _
    refine XS.istoreN X0.here hx rfl (hb hby at_6) rfl (l' := #[.val (.int p0), .val (.int p1), .val (.int p2), .val (.int ((p0 &&& (2147483647 : Int32)) % (5 : Int32))), .unset, .unset, .unset, .unset, .unset, .unset, .unset, .unset, .unset, .unset, .unset, .unset, .unset]) rfl ?_
    show Steps p.tables e below (s₁.setTop (mkF m 7 #[.val (.int p0), .val (.int p1), .val (.int p2), .val (.int ((p0 &&& (2147483647 : Int32)) % (5 : Int32))), .unset, .unset, .unset, .unset, .unset, .unset, .unset, .unset, .unset, .unset, .unset, .unset, .unset] [])) _
    refine XS.iloadN X0.here hx rfl (hb hby at_7) rfl ?_
    exact k
  obtain ⟨T29, LL29, u, hib, X29, e29, N29, JU, a29⟩ : ∃ (T29 : State) (LL29 : List Loc) (u : Addr) (hib : Int32), Stand p l e room_1 s m #[(.int p0), (.int p1), (.int p2)] below meth c T29 LL29 0 0 ∧ T29.heap = h0 ∧ Fr n0 LL29 ∧ (((((p0 &&& (2147483647 : Int32)) % (5 : Int32)) = (0 : Int32)) ∧ u = w_OPS_PER_S ∧ hib = (1 : Int32)) ∨ ((¬ (((p0 &&& (2147483647 : Int32)) % (5 : Int32)) = (0 : Int32))) ∧ (((p0 &&& (2147483647 : Int32)) % (5 : Int32)) = (1 : Int32)) ∧ u = w_ITEMS_PER_S ∧ hib = (1 : Int32)) ∨ ((¬ (((p0 &&& (2147483647 : Int32)) % (5 : Int32)) = (0 : Int32))) ∧ (¬ (((p0 &&& (2147483647 : Int32)) % (5 : Int32)) = (1 : Int32))) ∧ (((p0 &&& (2147483647 : Int32)) % (5 : Int32)) = (2 : Int32)) ∧ u = w_ROUNDS_PER_S ∧ hib = (1 : Int32)) ∨ ((¬ (((p0 &&& (2147483647 : Int32)) % (5 : Int32)) = (0 : Int32))) ∧ (¬ (((p0 &&& (2147483647 : Int32)) % (5 : Int32)) = (1 : Int32))) ∧ (¬ (((p0 &&& (2147483647 : Int32)) % (5 : Int32)) = (2 : Int32))) ∧ (((p0 &&& (2147483647 : Int32)) % (5 : Int32)) = (3 : Int32)) ∧ u = w_ENTRIES_PER_S ∧ hib = (1 : Int32)) ∨ ((¬ (((p0 &&& (2147483647 : Int32)) % (5 : Int32)) = (0 : Int32))) ∧ (¬ (((p0 &&& (2147483647 : Int32)) % (5 : Int32)) = (1 : Int32))) ∧ (¬ (((p0 &&& (2147483647 : Int32)) % (5 : Int32)) = (2 : Int32))) ∧ (¬ (((p0 &&& (2147483647 : Int32)) % (5 : Int32)) = (3 : Int32))) ∧ u = w_WRITER_WAIT_MAX_MS ∧ hib = (0 : Int32))) ∧ ∀ t, Steps p.tables e below (T29.setTop (mkF m 78 #[.val (.int p0), .val (.int p1), .val (.int p2), .val (.int ((p0 &&& (2147483647 : Int32)) % (5 : Int32))), .val (.ref u), .val (.int hib), .unset, .unset, .unset, .unset, .unset, .unset, .unset, .unset, .unset, .unset, .unset] [])) t → Steps p.tables e below (s₁.setTop (entryFrame m #[(.int p0), (.int p1), (.int p2)] maxLocals)) t := by
    by_cases hc8_2 : ((p0 &&& (2147483647 : Int32)) % (5 : Int32)) = (0 : Int32)
    ·
      have a3 : ∀ t, Steps p.tables e below (s₁.setTop (mkF m 11 #[.val (.int p0), .val (.int p1), .val (.int p2), .val (.int ((p0 &&& (2147483647 : Int32)) % (5 : Int32))), .unset, .unset, .unset, .unset, .unset, .unset, .unset, .unset, .unset, .unset, .unset, .unset, .unset] [])) t → Steps p.tables e below (s₁.setTop (entryFrame m #[(.int p0), (.int p1), (.int p2)] maxLocals)) t := by
        intro t k
        refine a1 t ?_
        show Steps p.tables e below (s₁.setTop (mkF m 8 #[.val (.int p0), .val (.int p1), .val (.int p2), .val (.int ((p0 &&& (2147483647 : Int32)) % (5 : Int32))), .unset, .unset, .unset, .unset, .unset, .unset, .unset, .unset, .unset, .unset, .unset, .unset, .unset] [(.int ((p0 &&& (2147483647 : Int32)) % (5 : Int32)))])) _
        refine XS.ifNo X0.here hx rfl (hb hby at_8) rfl ((if0 _ _).trans (teq hc8_2).2) ?_
        exact k
      obtain ⟨T4, X4, e4, st4⟩ := getS2 X0 hx hZ hown (host := "") (Or.inl (hw _ (List.mem_of_getElem? (i := 1) rfl))) Via.refl e0 S_OPS_PER_S (g := (mkF m 11 #[.val (.int p0), .val (.int p1), .val (.int p2), .val (.int ((p0 &&& (2147483647 : Int32)) % (5 : Int32))), .unset, .unset, .unset, .unset, .unset, .unset, .unset, .unset, .unset, .unset, .unset, .unset, .unset] [])) rfl (hb hby at_11)
      have a5 : ∀ t, Steps p.tables e below (T4.setTop (mkF m 14 #[.val (.int p0), .val (.int p1), .val (.int p2), .val (.int ((p0 &&& (2147483647 : Int32)) % (5 : Int32))), .unset, .unset, .unset, .unset, .unset, .unset, .unset, .unset, .unset, .unset, .unset, .unset, .unset] [(.ref w_OPS_PER_S)])) t → Steps p.tables e below (s₁.setTop (entryFrame m #[(.int p0), (.int p1), (.int p2)] maxLocals)) t := fun t k => a3 t (st4 t k)
      have a6 : ∀ t, Steps p.tables e below (T4.setTop (mkF m 78 #[.val (.int p0), .val (.int p1), .val (.int p2), .val (.int ((p0 &&& (2147483647 : Int32)) % (5 : Int32))), .val (.ref w_OPS_PER_S), .val (.int (1 : Int32)), .unset, .unset, .unset, .unset, .unset, .unset, .unset, .unset, .unset, .unset, .unset] [])) t → Steps p.tables e below (s₁.setTop (entryFrame m #[(.int p0), (.int p1), (.int p2)] maxLocals)) t := by
        intro t k
        refine a5 t ?_
        show Steps p.tables e below (T4.setTop (mkF m 14 #[.val (.int p0), .val (.int p1), .val (.int p2), .val (.int ((p0 &&& (2147483647 : Int32)) % (5 : Int32))), .unset, .unset, .unset, .unset, .unset, .unset, .unset, .unset, .unset, .unset, .unset, .unset, .unset] [(.ref w_OPS_PER_S)])) _
        refine XS.astore X4.here hx rfl (hb hby at_14) rfl rfl (l' := #[.val (.int p0), .val (.int p1), .val (.int p2), .val (.int ((p0 &&& (2147483647 : Int32)) % (5 : Int32))), .val (.ref w_OPS_PER_S), .unset, .unset, .unset, .unset, .unset, .unset, .unset, .unset, .unset, .unset, .unset, .unset]) rfl ?_
        show Steps p.tables e below (T4.setTop (mkF m 16 #[.val (.int p0), .val (.int p1), .val (.int p2), .val (.int ((p0 &&& (2147483647 : Int32)) % (5 : Int32))), .val (.ref w_OPS_PER_S), .unset, .unset, .unset, .unset, .unset, .unset, .unset, .unset, .unset, .unset, .unset, .unset] [])) _
        refine XS.iconst X4.here hx rfl (hb hby at_16) ?_
        show Steps p.tables e below (T4.setTop (mkF m 17 #[.val (.int p0), .val (.int p1), .val (.int p2), .val (.int ((p0 &&& (2147483647 : Int32)) % (5 : Int32))), .val (.ref w_OPS_PER_S), .unset, .unset, .unset, .unset, .unset, .unset, .unset, .unset, .unset, .unset, .unset, .unset] [(.int (1 : Int32))])) _
        refine XS.istore X4.here hx rfl (hb hby at_17) rfl (l' := #[.val (.int p0), .val (.int p1), .val (.int p2), .val (.int ((p0 &&& (2147483647 : Int32)) % (5 : Int32))), .val (.ref w_OPS_PER_S), .val (.int (1 : Int32)), .unset, .unset, .unset, .unset, .unset, .unset, .unset, .unset, .unset, .unset, .unset]) rfl ?_
        show Steps p.tables e below (T4.setTop (mkF m 19 #[.val (.int p0), .val (.int p1), .val (.int p2), .val (.int ((p0 &&& (2147483647 : Int32)) % (5 : Int32))), .val (.ref w_OPS_PER_S), .val (.int (1 : Int32)), .unset, .unset, .unset, .unset, .unset, .unset, .unset, .unset, .unset, .unset, .unset] [])) _
        refine XS.goto X4.here hx rfl (pc0 := 19) (pc' := 78) rfl (hb hby at_19) (by decide) (by decide) ?_
        exact k
      exact ⟨T4, _, w_OPS_PER_S, (1 : Int32), X4, e4, N0, Or.inl ⟨hc8_2, rfl, rfl⟩, a6⟩
    ·
      have a7 : ∀ t, Steps p.tables e below (s₁.setTop (mkF m 24 #[.val (.int p0), .val (.int p1), .val (.int p2), .val (.int ((p0 &&& (2147483647 : Int32)) % (5 : Int32))), .unset, .unset, .unset, .unset, .unset, .unset, .unset, .unset, .unset, .unset, .unset, .unset, .unset] [(.int (1 : Int32)), (.int ((p0 &&& (2147483647 : Int32)) % (5 : Int32)))])) t → Steps p.tables e below (s₁.setTop (entryFrame m #[(.int p0), (.int p1), (.int p2)] maxLocals)) t := by
        intro t k
        refine a1 t ?_
        show Steps p.tables e below (s₁.setTop (mkF m 8 #[.val (.int p0), .val (.int p1), .val (.int p2), .val (.int ((p0 &&& (2147483647 : Int32)) % (5 : Int32))), .unset, .unset, .unset, .unset, .unset, .unset, .unset, .unset, .unset, .unset, .unset, .unset, .unset] [(.int ((p0 &&& (2147483647 : Int32)) % (5 : Int32)))])) _
        refine XS.ifYes X0.here hx rfl (pc0 := 8) (pc' := 22) rfl (hb hby at_8) rfl ((if0 _ _).trans (feq hc8_2).2) (by decide) (by decide) ?_
        show Steps p.tables e below (s₁.setTop (mkF m 22 #[.val (.int p0), .val (.int p1), .val (.int p2), .val (.int ((p0 &&& (2147483647 : Int32)) % (5 : Int32))), .unset, .unset, .unset, .unset, .unset, .unset, .unset, .unset, .unset, .unset, .unset, .unset, .unset] [])) _
        refine XS.iloadN X0.here hx rfl (hb hby at_22) rfl ?_
        show Steps p.tables e below (s₁.setTop (mkF m 23 #[.val (.int p0), .val (.int p1), .val (.int p2), .val (.int ((p0 &&& (2147483647 : Int32)) % (5 : Int32))), .unset, .unset, .unset, .unset, .unset, .unset, .unset, .unset, .unset, .unset, .unset, .unset, .unset] [(.int ((p0 &&& (2147483647 : Int32)) % (5 : Int32)))])) _
        refine XS.iconst X0.here hx rfl (hb hby at_23) ?_
        exact k
      by_cases hc24_8 : ((p0 &&& (2147483647 : Int32)) % (5 : Int32)) = (1 : Int32)
      ·
        have a9 : ∀ t, Steps p.tables e below (s₁.setTop (mkF m 27 #[.val (.int p0), .val (.int p1), .val (.int p2), .val (.int ((p0 &&& (2147483647 : Int32)) % (5 : Int32))), .unset, .unset, .unset, .unset, .unset, .unset, .unset, .unset, .unset, .unset, .unset, .unset, .unset] [])) t → Steps p.tables e below (s₁.setTop (entryFrame m #[(.int p0), (.int p1), (.int p2)] maxLocals)) t := by
          intro t k
          refine a7 t ?_
          show Steps p.tables e below (s₁.setTop (mkF m 24 #[.val (.int p0), .val (.int p1), .val (.int p2), .val (.int ((p0 &&& (2147483647 : Int32)) % (5 : Int32))), .unset, .unset, .unset, .unset, .unset, .unset, .unset, .unset, .unset, .unset, .unset, .unset, .unset] [(.int (1 : Int32)), (.int ((p0 &&& (2147483647 : Int32)) % (5 : Int32)))])) _
          refine XS.icmpNo X0.here hx rfl (hb hby at_24) rfl (teq hc24_8).2 ?_
          exact k
        obtain ⟨T10, X10, e10, st10⟩ := getS2 X0 hx hZ hown (host := "") (Or.inl (hw _ (List.mem_of_getElem? (i := 12) rfl))) Via.refl e0 S_ITEMS_PER_S (g := (mkF m 27 #[.val (.int p0), .val (.int p1), .val (.int p2), .val (.int ((p0 &&& (2147483647 : Int32)) % (5 : Int32))), .unset, .unset, .unset, .unset, .unset, .unset, .unset, .unset, .unset, .unset, .unset, .unset, .unset] [])) rfl (hb hby at_27)
        have a11 : ∀ t, Steps p.tables e below (T10.setTop (mkF m 30 #[.val (.int p0), .val (.int p1), .val (.int p2), .val (.int ((p0 &&& (2147483647 : Int32)) % (5 : Int32))), .unset, .unset, .unset, .unset, .unset, .unset, .unset, .unset, .unset, .unset, .unset, .unset, .unset] [(.ref w_ITEMS_PER_S)])) t → Steps p.tables e below (s₁.setTop (entryFrame m #[(.int p0), (.int p1), (.int p2)] maxLocals)) t := fun t k => a9 t (st10 t k)
        have a12 : ∀ t, Steps p.tables e below (T10.setTop (mkF m 78 #[.val (.int p0), .val (.int p1), .val (.int p2), .val (.int ((p0 &&& (2147483647 : Int32)) % (5 : Int32))), .val (.ref w_ITEMS_PER_S), .val (.int (1 : Int32)), .unset, .unset, .unset, .unset, .unset, .unset, .unset, .unset, .unset, .unset, .unset] [])) t → Steps p.tables e below (s₁.setTop (entryFrame m #[(.int p0), (.int p1), (.int p2)] maxLocals)) t := by
          intro t k
          refine a11 t ?_
          show Steps p.tables e below (T10.setTop (mkF m 30 #[.val (.int p0), .val (.int p1), .val (.int p2), .val (.int ((p0 &&& (2147483647 : Int32)) % (5 : Int32))), .unset, .unset, .unset, .unset, .unset, .unset, .unset, .unset, .unset, .unset, .unset, .unset, .unset] [(.ref w_ITEMS_PER_S)])) _
          refine XS.astore X10.here hx rfl (hb hby at_30) rfl rfl (l' := #[.val (.int p0), .val (.int p1), .val (.int p2), .val (.int ((p0 &&& (2147483647 : Int32)) % (5 : Int32))), .val (.ref w_ITEMS_PER_S), .unset, .unset, .unset, .unset, .unset, .unset, .unset, .unset, .unset, .unset, .unset, .unset]) rfl ?_
          show Steps p.tables e below (T10.setTop (mkF m 32 #[.val (.int p0), .val (.int p1), .val (.int p2), .val (.int ((p0 &&& (2147483647 : Int32)) % (5 : Int32))), .val (.ref w_ITEMS_PER_S), .unset, .unset, .unset, .unset, .unset, .unset, .unset, .unset, .unset, .unset, .unset, .unset] [])) _
          refine XS.iconst X10.here hx rfl (hb hby at_32) ?_
          show Steps p.tables e below (T10.setTop (mkF m 33 #[.val (.int p0), .val (.int p1), .val (.int p2), .val (.int ((p0 &&& (2147483647 : Int32)) % (5 : Int32))), .val (.ref w_ITEMS_PER_S), .unset, .unset, .unset, .unset, .unset, .unset, .unset, .unset, .unset, .unset, .unset, .unset] [(.int (1 : Int32))])) _
          refine XS.istore X10.here hx rfl (hb hby at_33) rfl (l' := #[.val (.int p0), .val (.int p1), .val (.int p2), .val (.int ((p0 &&& (2147483647 : Int32)) % (5 : Int32))), .val (.ref w_ITEMS_PER_S), .val (.int (1 : Int32)), .unset, .unset, .unset, .unset, .unset, .unset, .unset, .unset, .unset, .unset, .unset]) rfl ?_
          show Steps p.tables e below (T10.setTop (mkF m 35 #[.val (.int p0), .val (.int p1), .val (.int p2), .val (.int ((p0 &&& (2147483647 : Int32)) % (5 : Int32))), .val (.ref w_ITEMS_PER_S), .val (.int (1 : Int32)), .unset, .unset, .unset, .unset, .unset, .unset, .unset, .unset, .unset, .unset, .unset] [])) _
          refine XS.goto X10.here hx rfl (pc0 := 35) (pc' := 78) rfl (hb hby at_35) (by decide) (by decide) ?_
          exact k
        exact ⟨T10, _, w_ITEMS_PER_S, (1 : Int32), X10, e10, N0, Or.inr (Or.inl ⟨hc8_2, hc24_8, rfl, rfl⟩), a12⟩
      ·
        have a13 : ∀ t, Steps p.tables e below (s₁.setTop (mkF m 40 #[.val (.int p0), .val (.int p1), .val (.int p2), .val (.int ((p0 &&& (2147483647 : Int32)) % (5 : Int32))), .unset, .unset, .unset, .unset, .unset, .unset, .unset, .unset, .unset, .unset, .unset, .unset, .unset] [(.int (2 : Int32)), (.int ((p0 &&& (2147483647 : Int32)) % (5 : Int32)))])) t → Steps p.tables e below (s₁.setTop (entryFrame m #[(.int p0), (.int p1), (.int p2)] maxLocals)) t := by
          intro t k
          refine a7 t ?_
          show Steps p.tables e below (s₁.setTop (mkF m 24 #[.val (.int p0), .val (.int p1), .val (.int p2), .val (.int ((p0 &&& (2147483647 : Int32)) % (5 : Int32))), .unset, .unset, .unset, .unset, .unset, .unset, .unset, .unset, .unset, .unset, .unset, .unset, .unset] [(.int (1 : Int32)), (.int ((p0 &&& (2147483647 : Int32)) % (5 : Int32)))])) _
          refine XS.icmpYes X0.here hx rfl (pc0 := 24) (pc' := 38) rfl (hb hby at_24) rfl (feq hc24_8).2 (by decide) (by decide) ?_
          show Steps p.tables e below (s₁.setTop (mkF m 38 #[.val (.int p0), .val (.int p1), .val (.int p2), .val (.int ((p0 &&& (2147483647 : Int32)) % (5 : Int32))), .unset, .unset, .unset, .unset, .unset, .unset, .unset, .unset, .unset, .unset, .unset, .unset, .unset] [])) _
          refine XS.iloadN X0.here hx rfl (hb hby at_38) rfl ?_
          show Steps p.tables e below (s₁.setTop (mkF m 39 #[.val (.int p0), .val (.int p1), .val (.int p2), .val (.int ((p0 &&& (2147483647 : Int32)) % (5 : Int32))), .unset, .unset, .unset, .unset, .unset, .unset, .unset, .unset, .unset, .unset, .unset, .unset, .unset] [(.int ((p0 &&& (2147483647 : Int32)) % (5 : Int32)))])) _
          refine XS.iconst X0.here hx rfl (hb hby at_39) ?_
          exact k
        by_cases hc40_14 : ((p0 &&& (2147483647 : Int32)) % (5 : Int32)) = (2 : Int32)
        ·
          have a15 : ∀ t, Steps p.tables e below (s₁.setTop (mkF m 43 #[.val (.int p0), .val (.int p1), .val (.int p2), .val (.int ((p0 &&& (2147483647 : Int32)) % (5 : Int32))), .unset, .unset, .unset, .unset, .unset, .unset, .unset, .unset, .unset, .unset, .unset, .unset, .unset] [])) t → Steps p.tables e below (s₁.setTop (entryFrame m #[(.int p0), (.int p1), (.int p2)] maxLocals)) t := by
            intro t k
            refine a13 t ?_
            show Steps p.tables e below (s₁.setTop (mkF m 40 #[.val (.int p0), .val (.int p1), .val (.int p2), .val (.int ((p0 &&& (2147483647 : Int32)) % (5 : Int32))), .unset, .unset, .unset, .unset, .unset, .unset, .unset, .unset, .unset, .unset, .unset, .unset, .unset] [(.int (2 : Int32)), (.int ((p0 &&& (2147483647 : Int32)) % (5 : Int32)))])) _
            refine XS.icmpNo X0.here hx rfl (hb hby at_40) rfl (teq hc40_14).2 ?_
            exact k
          obtain ⟨T16, X16, e16, st16⟩ := getS2 X0 hx hZ hown (host := "") (Or.inl (hw _ (List.mem_of_getElem? (i := 18) rfl))) Via.refl e0 S_ROUNDS_PER_S (g := (mkF m 43 #[.val (.int p0), .val (.int p1), .val (.int p2), .val (.int ((p0 &&& (2147483647 : Int32)) % (5 : Int32))), .unset, .unset, .unset, .unset, .unset, .unset, .unset, .unset, .unset, .unset, .unset, .unset, .unset] [])) rfl (hb hby at_43)
          have a17 : ∀ t, Steps p.tables e below (T16.setTop (mkF m 46 #[.val (.int p0), .val (.int p1), .val (.int p2), .val (.int ((p0 &&& (2147483647 : Int32)) % (5 : Int32))), .unset, .unset, .unset, .unset, .unset, .unset, .unset, .unset, .unset, .unset, .unset, .unset, .unset] [(.ref w_ROUNDS_PER_S)])) t → Steps p.tables e below (s₁.setTop (entryFrame m #[(.int p0), (.int p1), (.int p2)] maxLocals)) t := fun t k => a15 t (st16 t k)
          have a18 : ∀ t, Steps p.tables e below (T16.setTop (mkF m 78 #[.val (.int p0), .val (.int p1), .val (.int p2), .val (.int ((p0 &&& (2147483647 : Int32)) % (5 : Int32))), .val (.ref w_ROUNDS_PER_S), .val (.int (1 : Int32)), .unset, .unset, .unset, .unset, .unset, .unset, .unset, .unset, .unset, .unset, .unset] [])) t → Steps p.tables e below (s₁.setTop (entryFrame m #[(.int p0), (.int p1), (.int p2)] maxLocals)) t := by
            intro t k
            refine a17 t ?_
            show Steps p.tables e below (T16.setTop (mkF m 46 #[.val (.int p0), .val (.int p1), .val (.int p2), .val (.int ((p0 &&& (2147483647 : Int32)) % (5 : Int32))), .unset, .unset, .unset, .unset, .unset, .unset, .unset, .unset, .unset, .unset, .unset, .unset, .unset] [(.ref w_ROUNDS_PER_S)])) _
            refine XS.astore X16.here hx rfl (hb hby at_46) rfl rfl (l' := #[.val (.int p0), .val (.int p1), .val (.int p2), .val (.int ((p0 &&& (2147483647 : Int32)) % (5 : Int32))), .val (.ref w_ROUNDS_PER_S), .unset, .unset, .unset, .unset, .unset, .unset, .unset, .unset, .unset, .unset, .unset, .unset]) rfl ?_
            show Steps p.tables e below (T16.setTop (mkF m 48 #[.val (.int p0), .val (.int p1), .val (.int p2), .val (.int ((p0 &&& (2147483647 : Int32)) % (5 : Int32))), .val (.ref w_ROUNDS_PER_S), .unset, .unset, .unset, .unset, .unset, .unset, .unset, .unset, .unset, .unset, .unset, .unset] [])) _
            refine XS.iconst X16.here hx rfl (hb hby at_48) ?_
            show Steps p.tables e below (T16.setTop (mkF m 49 #[.val (.int p0), .val (.int p1), .val (.int p2), .val (.int ((p0 &&& (2147483647 : Int32)) % (5 : Int32))), .val (.ref w_ROUNDS_PER_S), .unset, .unset, .unset, .unset, .unset, .unset, .unset, .unset, .unset, .unset, .unset, .unset] [(.int (1 : Int32))])) _
            refine XS.istore X16.here hx rfl (hb hby at_49) rfl (l' := #[.val (.int p0), .val (.int p1), .val (.int p2), .val (.int ((p0 &&& (2147483647 : Int32)) % (5 : Int32))), .val (.ref w_ROUNDS_PER_S), .val (.int (1 : Int32)), .unset, .unset, .unset, .unset, .unset, .unset, .unset, .unset, .unset, .unset, .unset]) rfl ?_
            show Steps p.tables e below (T16.setTop (mkF m 51 #[.val (.int p0), .val (.int p1), .val (.int p2), .val (.int ((p0 &&& (2147483647 : Int32)) % (5 : Int32))), .val (.ref w_ROUNDS_PER_S), .val (.int (1 : Int32)), .unset, .unset, .unset, .unset, .unset, .unset, .unset, .unset, .unset, .unset, .unset] [])) _
            refine XS.goto X16.here hx rfl (pc0 := 51) (pc' := 78) rfl (hb hby at_51) (by decide) (by decide) ?_
            exact k
          exact ⟨T16, _, w_ROUNDS_PER_S, (1 : Int32), X16, e16, N0, Or.inr (Or.inr (Or.inl ⟨hc8_2, hc24_8, hc40_14, rfl, rfl⟩)), a18⟩
        ·
          have a19 : ∀ t, Steps p.tables e below (s₁.setTop (mkF m 56 #[.val (.int p0), .val (.int p1), .val (.int p2), .val (.int ((p0 &&& (2147483647 : Int32)) % (5 : Int32))), .unset, .unset, .unset, .unset, .unset, .unset, .unset, .unset, .unset, .unset, .unset, .unset, .unset] [(.int (3 : Int32)), (.int ((p0 &&& (2147483647 : Int32)) % (5 : Int32)))])) t → Steps p.tables e below (s₁.setTop (entryFrame m #[(.int p0), (.int p1), (.int p2)] maxLocals)) t := by
            intro t k
            refine a13 t ?_
            show Steps p.tables e below (s₁.setTop (mkF m 40 #[.val (.int p0), .val (.int p1), .val (.int p2), .val (.int ((p0 &&& (2147483647 : Int32)) % (5 : Int32))), .unset, .unset, .unset, .unset, .unset, .unset, .unset, .unset, .unset, .unset, .unset, .unset, .unset] [(.int (2 : Int32)), (.int ((p0 &&& (2147483647 : Int32)) % (5 : Int32)))])) _
            refine XS.icmpYes X0.here hx rfl (pc0 := 40) (pc' := 54) rfl (hb hby at_40) rfl (feq hc40_14).2 (by decide) (by decide) ?_
            show Steps p.tables e below (s₁.setTop (mkF m 54 #[.val (.int p0), .val (.int p1), .val (.int p2), .val (.int ((p0 &&& (2147483647 : Int32)) % (5 : Int32))), .unset, .unset, .unset, .unset, .unset, .unset, .unset, .unset, .unset, .unset, .unset, .unset, .unset] [])) _
            refine XS.iloadN X0.here hx rfl (hb hby at_54) rfl ?_
            show Steps p.tables e below (s₁.setTop (mkF m 55 #[.val (.int p0), .val (.int p1), .val (.int p2), .val (.int ((p0 &&& (2147483647 : Int32)) % (5 : Int32))), .unset, .unset, .unset, .unset, .unset, .unset, .unset, .unset, .unset, .unset, .unset, .unset, .unset] [(.int ((p0 &&& (2147483647 : Int32)) % (5 : Int32)))])) _
            refine XS.iconst X0.here hx rfl (hb hby at_55) ?_
            exact k
          by_cases hc56_20 : ((p0 &&& (2147483647 : Int32)) % (5 : Int32)) = (3 : Int32)
          ·
            have a21 : ∀ t, Steps p.tables e below (s₁.setTop (mkF m 59 #[.val (.int p0), .val (.int p1), .val (.int p2), .val (.int ((p0 &&& (2147483647 : Int32)) % (5 : Int32))), .unset, .unset, .unset, .unset, .unset, .unset, .unset, .unset, .unset, .unset, .unset, .unset, .unset] [])) t → Steps p.tables e below (s₁.setTop (entryFrame m #[(.int p0), (.int p1), (.int p2)] maxLocals)) t := by
              intro t k
              refine a19 t ?_
              show Steps p.tables e below (s₁.setTop (mkF m 56 #[.val (.int p0), .val (.int p1), .val (.int p2), .val (.int ((p0 &&& (2147483647 : Int32)) % (5 : Int32))), .unset, .unset, .unset, .unset, .unset, .unset, .unset, .unset, .unset, .unset, .unset, .unset, .unset] [(.int (3 : Int32)), (.int ((p0 &&& (2147483647 : Int32)) % (5 : Int32)))])) _
              refine XS.icmpNo X0.here hx rfl (hb hby at_56) rfl (teq hc56_20).2 ?_
              exact k
            obtain ⟨T22, X22, e22, st22⟩ := getS2 X0 hx hZ hown (host := "") (Or.inl (hw _ (List.mem_of_getElem? (i := 16) rfl))) Via.refl e0 S_ENTRIES_PER_S (g := (mkF m 59 #[.val (.int p0), .val (.int p1), .val (.int p2), .val (.int ((p0 &&& (2147483647 : Int32)) % (5 : Int32))), .unset, .unset, .unset, .unset, .unset, .unset, .unset, .unset, .unset, .unset, .unset, .unset, .unset] [])) rfl (hb hby at_59)
            have a23 : ∀ t, Steps p.tables e below (T22.setTop (mkF m 62 #[.val (.int p0), .val (.int p1), .val (.int p2), .val (.int ((p0 &&& (2147483647 : Int32)) % (5 : Int32))), .unset, .unset, .unset, .unset, .unset, .unset, .unset, .unset, .unset, .unset, .unset, .unset, .unset] [(.ref w_ENTRIES_PER_S)])) t → Steps p.tables e below (s₁.setTop (entryFrame m #[(.int p0), (.int p1), (.int p2)] maxLocals)) t := fun t k => a21 t (st22 t k)
            have a24 : ∀ t, Steps p.tables e below (T22.setTop (mkF m 78 #[.val (.int p0), .val (.int p1), .val (.int p2), .val (.int ((p0 &&& (2147483647 : Int32)) % (5 : Int32))), .val (.ref w_ENTRIES_PER_S), .val (.int (1 : Int32)), .unset, .unset, .unset, .unset, .unset, .unset, .unset, .unset, .unset, .unset, .unset] [])) t → Steps p.tables e below (s₁.setTop (entryFrame m #[(.int p0), (.int p1), (.int p2)] maxLocals)) t := by
              intro t k
              refine a23 t ?_
              show Steps p.tables e below (T22.setTop (mkF m 62 #[.val (.int p0), .val (.int p1), .val (.int p2), .val (.int ((p0 &&& (2147483647 : Int32)) % (5 : Int32))), .unset, .unset, .unset, .unset, .unset, .unset, .unset, .unset, .unset, .unset, .unset, .unset, .unset] [(.ref w_ENTRIES_PER_S)])) _
              refine XS.astore X22.here hx rfl (hb hby at_62) rfl rfl (l' := #[.val (.int p0), .val (.int p1), .val (.int p2), .val (.int ((p0 &&& (2147483647 : Int32)) % (5 : Int32))), .val (.ref w_ENTRIES_PER_S), .unset, .unset, .unset, .unset, .unset, .unset, .unset, .unset, .unset, .unset, .unset, .unset]) rfl ?_
              show Steps p.tables e below (T22.setTop (mkF m 64 #[.val (.int p0), .val (.int p1), .val (.int p2), .val (.int ((p0 &&& (2147483647 : Int32)) % (5 : Int32))), .val (.ref w_ENTRIES_PER_S), .unset, .unset, .unset, .unset, .unset, .unset, .unset, .unset, .unset, .unset, .unset, .unset] [])) _
              refine XS.iconst X22.here hx rfl (hb hby at_64) ?_
              show Steps p.tables e below (T22.setTop (mkF m 65 #[.val (.int p0), .val (.int p1), .val (.int p2), .val (.int ((p0 &&& (2147483647 : Int32)) % (5 : Int32))), .val (.ref w_ENTRIES_PER_S), .unset, .unset, .unset, .unset, .unset, .unset, .unset, .unset, .unset, .unset, .unset, .unset] [(.int (1 : Int32))])) _
              refine XS.istore X22.here hx rfl (hb hby at_65) rfl (l' := #[.val (.int p0), .val (.int p1), .val (.int p2), .val (.int ((p0 &&& (2147483647 : Int32)) % (5 : Int32))), .val (.ref w_ENTRIES_PER_S), .val (.int (1 : Int32)), .unset, .unset, .unset, .unset, .unset, .unset, .unset, .unset, .unset, .unset, .unset]) rfl ?_
              show Steps p.tables e below (T22.setTop (mkF m 67 #[.val (.int p0), .val (.int p1), .val (.int p2), .val (.int ((p0 &&& (2147483647 : Int32)) % (5 : Int32))), .val (.ref w_ENTRIES_PER_S), .val (.int (1 : Int32)), .unset, .unset, .unset, .unset, .unset, .unset, .unset, .unset, .unset, .unset, .unset] [])) _
              refine XS.goto X22.here hx rfl (pc0 := 67) (pc' := 78) rfl (hb hby at_67) (by decide) (by decide) ?_
              exact k
            exact ⟨T22, _, w_ENTRIES_PER_S, (1 : Int32), X22, e22, N0, Or.inr (Or.inr (Or.inr (Or.inl ⟨hc8_2, hc24_8, hc40_14, hc56_20, rfl, rfl⟩))), a24⟩
          ·
            have a25 : ∀ t, Steps p.tables e below (s₁.setTop (mkF m 70 #[.val (.int p0), .val (.int p1), .val (.int p2), .val (.int ((p0 &&& (2147483647 : Int32)) % (5 : Int32))), .unset, .unset, .unset, .unset, .unset, .unset, .unset, .unset, .unset, .unset, .unset, .unset, .unset] [])) t → Steps p.tables e below (s₁.setTop (entryFrame m #[(.int p0), (.int p1), (.int p2)] maxLocals)) t := by
              intro t k
              refine a19 t ?_
              show Steps p.tables e below (s₁.setTop (mkF m 56 #[.val (.int p0), .val (.int p1), .val (.int p2), .val (.int ((p0 &&& (2147483647 : Int32)) % (5 : Int32))), .unset, .unset, .unset, .unset, .unset, .unset, .unset, .unset, .unset, .unset, .unset, .unset, .unset] [(.int (3 : Int32)), (.int ((p0 &&& (2147483647 : Int32)) % (5 : Int32)))])) _
              refine XS.icmpYes X0.here hx rfl (pc0 := 56) (pc' := 70) rfl (hb hby at_56) rfl (feq hc56_20).2 (by decide) (by decide) ?_
              exact k
            obtain ⟨T26, X26, e26, st26⟩ := getS2 X0 hx hZ hown (host := "") (Or.inl (hw _ (List.mem_of_getElem? (i := 14) rfl))) Via.refl e0 S_WRITER_WAIT_MAX_MS (g := (mkF m 70 #[.val (.int p0), .val (.int p1), .val (.int p2), .val (.int ((p0 &&& (2147483647 : Int32)) % (5 : Int32))), .unset, .unset, .unset, .unset, .unset, .unset, .unset, .unset, .unset, .unset, .unset, .unset, .unset] [])) rfl (hb hby at_70)
            have a27 : ∀ t, Steps p.tables e below (T26.setTop (mkF m 73 #[.val (.int p0), .val (.int p1), .val (.int p2), .val (.int ((p0 &&& (2147483647 : Int32)) % (5 : Int32))), .unset, .unset, .unset, .unset, .unset, .unset, .unset, .unset, .unset, .unset, .unset, .unset, .unset] [(.ref w_WRITER_WAIT_MAX_MS)])) t → Steps p.tables e below (s₁.setTop (entryFrame m #[(.int p0), (.int p1), (.int p2)] maxLocals)) t := fun t k => a25 t (st26 t k)
            have a28 : ∀ t, Steps p.tables e below (T26.setTop (mkF m 78 #[.val (.int p0), .val (.int p1), .val (.int p2), .val (.int ((p0 &&& (2147483647 : Int32)) % (5 : Int32))), .val (.ref w_WRITER_WAIT_MAX_MS), .val (.int (0 : Int32)), .unset, .unset, .unset, .unset, .unset, .unset, .unset, .unset, .unset, .unset, .unset] [])) t → Steps p.tables e below (s₁.setTop (entryFrame m #[(.int p0), (.int p1), (.int p2)] maxLocals)) t := by
              intro t k
              refine a27 t ?_
              show Steps p.tables e below (T26.setTop (mkF m 73 #[.val (.int p0), .val (.int p1), .val (.int p2), .val (.int ((p0 &&& (2147483647 : Int32)) % (5 : Int32))), .unset, .unset, .unset, .unset, .unset, .unset, .unset, .unset, .unset, .unset, .unset, .unset, .unset] [(.ref w_WRITER_WAIT_MAX_MS)])) _
              refine XS.astore X26.here hx rfl (hb hby at_73) rfl rfl (l' := #[.val (.int p0), .val (.int p1), .val (.int p2), .val (.int ((p0 &&& (2147483647 : Int32)) % (5 : Int32))), .val (.ref w_WRITER_WAIT_MAX_MS), .unset, .unset, .unset, .unset, .unset, .unset, .unset, .unset, .unset, .unset, .unset, .unset]) rfl ?_
              show Steps p.tables e below (T26.setTop (mkF m 75 #[.val (.int p0), .val (.int p1), .val (.int p2), .val (.int ((p0 &&& (2147483647 : Int32)) % (5 : Int32))), .val (.ref w_WRITER_WAIT_MAX_MS), .unset, .unset, .unset, .unset, .unset, .unset, .unset, .unset, .unset, .unset, .unset, .unset] [])) _
              refine XS.iconst X26.here hx rfl (hb hby at_75) ?_
              show Steps p.tables e below (T26.setTop (mkF m 76 #[.val (.int p0), .val (.int p1), .val (.int p2), .val (.int ((p0 &&& (2147483647 : Int32)) % (5 : Int32))), .val (.ref w_WRITER_WAIT_MAX_MS), .unset, .unset, .unset, .unset, .unset, .unset, .unset, .unset, .unset, .unset, .unset, .unset] [(.int (0 : Int32))])) _
              refine XS.istore X26.here hx rfl (hb hby at_76) rfl (l' := #[.val (.int p0), .val (.int p1), .val (.int p2), .val (.int ((p0 &&& (2147483647 : Int32)) % (5 : Int32))), .val (.ref w_WRITER_WAIT_MAX_MS), .val (.int (0 : Int32)), .unset, .unset, .unset, .unset, .unset, .unset, .unset, .unset, .unset, .unset, .unset]) rfl ?_
              exact k
            exact ⟨T26, _, w_WRITER_WAIT_MAX_MS, (0 : Int32), X26, e26, N0, Or.inr (Or.inr (Or.inr (Or.inr (⟨hc8_2, hc24_8, hc40_14, hc56_20, rfl, rfl⟩)))), a28⟩
  have hu : Exa Z h0 u "org/latchwork/cli/Figure$Unit" ∧ Fld Z h0 u "org/latchwork/cli/Figure$Unit" "higherIsBetter" "Z" (.int hib) ∧ (hib = 0 ∨ hib = 1) := by
    rcases JU with ⟨_, rfl, rfl⟩ | ⟨_, _, rfl, rfl⟩ | ⟨_, _, _, rfl, rfl⟩ | ⟨_, _, _, _, rfl, rfl⟩ | ⟨_, _, _, _, rfl, rfl⟩
    · exact ⟨X_OPS_PER_S, F_OPS_PER_S_higherIsBetter, Or.inr rfl⟩
    · exact ⟨X_ITEMS_PER_S, F_ITEMS_PER_S_higherIsBetter, Or.inr rfl⟩
    · exact ⟨X_ROUNDS_PER_S, F_ROUNDS_PER_S_higherIsBetter, Or.inr rfl⟩
    · exact ⟨X_ENTRIES_PER_S, F_ENTRIES_PER_S_higherIsBetter, Or.inr rfl⟩
    · exact ⟨X_WRITER_WAIT_MAX_MS, F_WRITER_WAIT_MAX_MS_higherIsBetter, Or.inl rfl⟩
  have a30 : ∀ t, Steps p.tables e below (T29.setTop (mkF m 86 #[.val (.int p0), .val (.int p1), .val (.int p2), .val (.int ((p0 &&& (2147483647 : Int32)) % (5 : Int32))), .val (.ref u), .val (.int hib), .val (.int (p1 % (1000000 : Int32))), .unset, .unset, .unset, .unset, .unset, .unset, .unset, .unset, .unset, .unset] [(.int (p1 % (1000000 : Int32)))])) t → Steps p.tables e below (s₁.setTop (entryFrame m #[(.int p0), (.int p1), (.int p2)] maxLocals)) t := by
    intro t k
    refine a29 t ?_
    show Steps p.tables e below (T29.setTop (mkF m 78 #[.val (.int p0), .val (.int p1), .val (.int p2), .val (.int ((p0 &&& (2147483647 : Int32)) % (5 : Int32))), .val (.ref u), .val (.int hib), .unset, .unset, .unset, .unset, .unset, .unset, .unset, .unset, .unset, .unset, .unset] [])) _
    refine XS.iloadN X29.here hx rfl (hb hby at_78) rfl ?_
    show Steps p.tables e below (T29.setTop (mkF m 79 #[.val (.int p0), .val (.int p1), .val (.int p2), .val (.int ((p0 &&& (2147483647 : Int32)) % (5 : Int32))), .val (.ref u), .val (.int hib), .unset, .unset, .unset, .unset, .unset, .unset, .unset, .unset, .unset, .unset, .unset] [(.int p1)])) _
    refine X29.ldcInt hx hown (mvT hZ (hw _ (List.mem_of_getElem? (i := 4) rfl))) (g := (mkF m 79 #[.val (.int p0), .val (.int p1), .val (.int p2), .val (.int ((p0 &&& (2147483647 : Int32)) % (5 : Int32))), .val (.ref u), .val (.int hib), .unset, .unset, .unset, .unset, .unset, .unset, .unset, .unset, .unset, .unset, .unset] [(.int p1)])) rfl (hb hby at_79) _ ?_
    show Steps p.tables e below (T29.setTop (mkF m 81 #[.val (.int p0), .val (.int p1), .val (.int p2), .val (.int ((p0 &&& (2147483647 : Int32)) % (5 : Int32))), .val (.ref u), .val (.int hib), .unset, .unset, .unset, .unset, .unset, .unset, .unset, .unset, .unset, .unset, .unset] [(.int (1000000 : Int32)), (.int p1)])) _
    refine iremM X29 hx rfl (hb hby at_81) rfl (by decide) ?_
    show Steps p.tables e below (T29.setTop (mkF m 82 #[.val (.int p0), .val (.int p1), .val (.int p2), .val (.int ((p0 &&& (2147483647 : Int32)) % (5 : Int32))), .val (.ref u), .val (.int hib), .unset, .unset, .unset, .unset, .unset, .unset, .unset, .unset, .unset, .unset, .unset] [(.int (p1 % (1000000 : Int32)))])) _
    refine XS.istore X29.here hx rfl (hb hby at_82) rfl (l' := #[.val (.int p0), .val (.int p1), .val (.int p2), .val (.int ((p0 &&& (2147483647 : Int32)) % (5 : Int32))), .val (.ref u), .val (.int hib), .val (.int (p1 % (1000000 : Int32))), .unset, .unset, .unset, .unset, .unset, .unset, .unset, .unset, .unset, .unset]) rfl ?_
    show Steps p.tables e below (T29.setTop (mkF m 84 #[.val (.int p0), .val (.int p1), .val (.int p2), .val (.int ((p0 &&& (2147483647 : Int32)) % (5 : Int32))), .val (.ref u), .val (.int hib), .val (.int (p1 % (1000000 : Int32))), .unset, .unset, .unset, .unset, .unset, .unset, .unset, .unset, .unset, .unset] [])) _
    refine XS.iload X29.here hx rfl (hb hby at_84) rfl ?_
    exact k
  obtain ⟨a, JA, a34⟩ : ∃ (a : Int32), ((((p1 % (1000000 : Int32)) = (0 : Int32)) ∧ a = (1 : Int32)) ∨ ((¬ ((p1 % (1000000 : Int32)) = (0 : Int32))) ∧ a = (p1 % (1000000 : Int32)))) ∧ ∀ t, Steps p.tables e below (T29.setTop (mkF m 92 #[.val (.int p0), .val (.int p1), .val (.int p2), .val (.int ((p0 &&& (2147483647 : Int32)) % (5 : Int32))), .val (.ref u), .val (.int hib), .val (.int a), .unset, .unset, .unset, .unset, .unset, .unset, .unset, .unset, .unset, .unset] [])) t → Steps p.tables e below (s₁.setTop (entryFrame m #[(.int p0), (.int p1), (.int p2)] maxLocals)) t := by
    by_cases hc86_31 : (p1 % (1000000 : Int32)) = (0 : Int32)
    ·
      have a32 : ∀ t, Steps p.tables e below (T29.setTop (mkF m 92 #[.val (.int p0), .val (.int p1), .val (.int p2), .val (.int ((p0 &&& (2147483647 : Int32)) % (5 : Int32))), .val (.ref u), .val (.int hib), .val (.int (1 : Int32)), .unset, .unset, .unset, .unset, .unset, .unset, .unset, .unset, .unset, .unset] [])) t → Steps p.tables e below (s₁.setTop (entryFrame m #[(.int p0), (.int p1), (.int p2)] maxLocals)) t := by
        intro t k
        refine a30 t ?_
        show Steps p.tables e below (T29.setTop (mkF m 86 #[.val (.int p0), .val (.int p1), .val (.int p2), .val (.int ((p0 &&& (2147483647 : Int32)) % (5 : Int32))), .val (.ref u), .val (.int hib), .val (.int (p1 % (1000000 : Int32))), .unset, .unset, .unset, .unset, .unset, .unset, .unset, .unset, .unset, .unset] [(.int (p1 % (1000000 : Int32)))])) _
        refine XS.ifNo X29.here hx rfl (hb hby at_86) rfl ((if0 _ _).trans (teq hc86_31).2) ?_
        show Steps p.tables e below (T29.setTop (mkF m 89 #[.val (.int p0), .val (.int p1), .val (.int p2), .val (.int ((p0 &&& (2147483647 : Int32)) % (5 : Int32))), .val (.ref u), .val (.int hib), .val (.int (p1 % (1000000 : Int32))), .unset, .unset, .unset, .unset, .unset, .unset, .unset, .unset, .unset, .unset] [])) _
        refine XS.iconst X29.here hx rfl (hb hby at_89) ?_
        show Steps p.tables e below (T29.setTop (mkF m 90 #[.val (.int p0), .val (.int p1), .val (.int p2), .val (.int ((p0 &&& (2147483647 : Int32)) % (5 : Int32))), .val (.ref u), .val (.int hib), .val (.int (p1 % (1000000 : Int32))), .unset, .unset, .unset, .unset, .unset, .unset, .unset, .unset, .unset, .unset] [(.int (1 : Int32))])) _
        refine XS.istore X29.here hx rfl (hb hby at_90) rfl (l' := #[.val (.int p0), .val (.int p1), .val (.int p2), .val (.int ((p0 &&& (2147483647 : Int32)) % (5 : Int32))), .val (.ref u), .val (.int hib), .val (.int (1 : Int32)), .unset, .unset, .unset, .unset, .unset, .unset, .unset, .unset, .unset, .unset]) rfl ?_
        exact k
      exact ⟨(1 : Int32), Or.inl ⟨hc86_31, rfl⟩, a32⟩
    ·
      have a33 : ∀ t, Steps p.tables e below (T29.setTop (mkF m 92 #[.val (.int p0), .val (.int p1), .val (.int p2), .val (.int ((p0 &&& (2147483647 : Int32)) % (5 : Int32))), .val (.ref u), .val (.int hib), .val (.int (p1 % (1000000 : Int32))), .unset, .unset, .unset, .unset, .unset, .unset, .unset, .unset, .unset, .unset] [])) t → Steps p.tables e below (s₁.setTop (entryFrame m #[(.int p0), (.int p1), (.int p2)] maxLocals)) t := by
        intro t k
        refine a30 t ?_
        show Steps p.tables e below (T29.setTop (mkF m 86 #[.val (.int p0), .val (.int p1), .val (.int p2), .val (.int ((p0 &&& (2147483647 : Int32)) % (5 : Int32))), .val (.ref u), .val (.int hib), .val (.int (p1 % (1000000 : Int32))), .unset, .unset, .unset, .unset, .unset, .unset, .unset, .unset, .unset, .unset] [(.int (p1 % (1000000 : Int32)))])) _
        refine XS.ifYes X29.here hx rfl (pc0 := 86) (pc' := 92) rfl (hb hby at_86) rfl ((if0 _ _).trans (feq hc86_31).2) (by decide) (by decide) ?_
        exact k
      exact ⟨(p1 % (1000000 : Int32)), Or.inr (⟨hc86_31, rfl⟩), a33⟩
  have a35 : ∀ t, Steps p.tables e below (T29.setTop (mkF m 100 #[.val (.int p0), .val (.int p1), .val (.int p2), .val (.int ((p0 &&& (2147483647 : Int32)) % (5 : Int32))), .val (.ref u), .val (.int hib), .val (.int a), .val (.int (p2 % (1000000 : Int32))), .unset, .unset, .unset, .unset, .unset, .unset, .unset, .unset, .unset] [(.int (p2 % (1000000 : Int32)))])) t → Steps p.tables e below (s₁.setTop (entryFrame m #[(.int p0), (.int p1), (.int p2)] maxLocals)) t := by
    intro t k
    refine a34 t ?_
    show Steps p.tables e below (T29.setTop (mkF m 92 #[.val (.int p0), .val (.int p1), .val (.int p2), .val (.int ((p0 &&& (2147483647 : Int32)) % (5 : Int32))), .val (.ref u), .val (.int hib), .val (.int a), .unset, .unset, .unset, .unset, .unset, .unset, .unset, .unset, .unset, .unset] [])) _
    refine XS.iloadN X29.here hx rfl (hb hby at_92) rfl ?_
    show Steps p.tables e below (T29.setTop (mkF m 93 #[.val (.int p0), .val (.int p1), .val (.int p2), .val (.int ((p0 &&& (2147483647 : Int32)) % (5 : Int32))), .val (.ref u), .val (.int hib), .val (.int a), .unset, .unset, .unset, .unset, .unset, .unset, .unset, .unset, .unset, .unset] [(.int p2)])) _
    refine X29.ldcInt hx hown (mvT hZ (hw _ (List.mem_of_getElem? (i := 4) rfl))) (g := (mkF m 93 #[.val (.int p0), .val (.int p1), .val (.int p2), .val (.int ((p0 &&& (2147483647 : Int32)) % (5 : Int32))), .val (.ref u), .val (.int hib), .val (.int a), .unset, .unset, .unset, .unset, .unset, .unset, .unset, .unset, .unset, .unset] [(.int p2)])) rfl (hb hby at_93) _ ?_
    show Steps p.tables e below (T29.setTop (mkF m 95 #[.val (.int p0), .val (.int p1), .val (.int p2), .val (.int ((p0 &&& (2147483647 : Int32)) % (5 : Int32))), .val (.ref u), .val (.int hib), .val (.int a), .unset, .unset, .unset, .unset, .unset, .unset, .unset, .unset, .unset, .unset] [(.int (1000000 : Int32)), (.int p2)])) _
    refine iremM X29 hx rfl (hb hby at_95) rfl (by decide) ?_
    show Steps p.tables e below (T29.setTop (mkF m 96 #[.val (.int p0), .val (.int p1), .val (.int p2), .val (.int ((p0 &&& (2147483647 : Int32)) % (5 : Int32))), .val (.ref u), .val (.int hib), .val (.int a), .unset, .unset, .unset, .unset, .unset, .unset, .unset, .unset, .unset, .unset] [(.int (p2 % (1000000 : Int32)))])) _
    refine XS.istore X29.here hx rfl (hb hby at_96) rfl (l' := #[.val (.int p0), .val (.int p1), .val (.int p2), .val (.int ((p0 &&& (2147483647 : Int32)) % (5 : Int32))), .val (.ref u), .val (.int hib), .val (.int a), .val (.int (p2 % (1000000 : Int32))), .unset, .unset, .unset, .unset, .unset, .unset, .unset, .unset, .unset]) rfl ?_
    show Steps p.tables e below (T29.setTop (mkF m 98 #[.val (.int p0), .val (.int p1), .val (.int p2), .val (.int ((p0 &&& (2147483647 : Int32)) % (5 : Int32))), .val (.ref u), .val (.int hib), .val (.int a), .val (.int (p2 % (1000000 : Int32))), .unset, .unset, .unset, .unset, .unset, .unset, .unset, .unset, .unset] [])) _
    refine XS.iload X29.here hx rfl (hb hby at_98) rfl ?_
    exact k
  obtain ⟨c_, JC, a39⟩ : ∃ (c_ : Int32), ((((p2 % (1000000 : Int32)) = (0 : Int32)) ∧ c_ = (1 : Int32)) ∨ ((¬ ((p2 % (1000000 : Int32)) = (0 : Int32))) ∧ c_ = (p2 % (1000000 : Int32)))) ∧ ∀ t, Steps p.tables e below (T29.setTop (mkF m 106 #[.val (.int p0), .val (.int p1), .val (.int p2), .val (.int ((p0 &&& (2147483647 : Int32)) % (5 : Int32))), .val (.ref u), .val (.int hib), .val (.int a), .val (.int c_), .unset, .unset, .unset, .unset, .unset, .unset, .unset, .unset, .unset] [])) t → Steps p.tables e below (s₁.setTop (entryFrame m #[(.int p0), (.int p1), (.int p2)] maxLocals)) t := by
    by_cases hc100_36 : (p2 % (1000000 : Int32)) = (0 : Int32)
    ·
      have a37 : ∀ t, Steps p.tables e below (T29.setTop (mkF m 106 #[.val (.int p0), .val (.int p1), .val (.int p2), .val (.int ((p0 &&& (2147483647 : Int32)) % (5 : Int32))), .val (.ref u), .val (.int hib), .val (.int a), .val (.int (1 : Int32)), .unset, .unset, .unset, .unset, .unset, .unset, .unset, .unset, .unset] [])) t → Steps p.tables e below (s₁.setTop (entryFrame m #[(.int p0), (.int p1), (.int p2)] maxLocals)) t := by
        intro t k
        refine a35 t ?_
        show Steps p.tables e below (T29.setTop (mkF m 100 #[.val (.int p0), .val (.int p1), .val (.int p2), .val (.int ((p0 &&& (2147483647 : Int32)) % (5 : Int32))), .val (.ref u), .val (.int hib), .val (.int a), .val (.int (p2 % (1000000 : Int32))), .unset, .unset, .unset, .unset, .unset, .unset, .unset, .unset, .unset] [(.int (p2 % (1000000 : Int32)))])) _
        refine XS.ifNo X29.here hx rfl (hb hby at_100) rfl ((if0 _ _).trans (teq hc100_36).2) ?_
        show Steps p.tables e below (T29.setTop (mkF m 103 #[.val (.int p0), .val (.int p1), .val (.int p2), .val (.int ((p0 &&& (2147483647 : Int32)) % (5 : Int32))), .val (.ref u), .val (.int hib), .val (.int a), .val (.int (p2 % (1000000 : Int32))), .unset, .unset, .unset, .unset, .unset, .unset, .unset, .unset, .unset] [])) _
        refine XS.iconst X29.here hx rfl (hb hby at_103) ?_
        show Steps p.tables e below (T29.setTop (mkF m 104 #[.val (.int p0), .val (.int p1), .val (.int p2), .val (.int ((p0 &&& (2147483647 : Int32)) % (5 : Int32))), .val (.ref u), .val (.int hib), .val (.int a), .val (.int (p2 % (1000000 : Int32))), .unset, .unset, .unset, .unset, .unset, .unset, .unset, .unset, .unset] [(.int (1 : Int32))])) _
        refine XS.istore X29.here hx rfl (hb hby at_104) rfl (l' := #[.val (.int p0), .val (.int p1), .val (.int p2), .val (.int ((p0 &&& (2147483647 : Int32)) % (5 : Int32))), .val (.ref u), .val (.int hib), .val (.int a), .val (.int (1 : Int32)), .unset, .unset, .unset, .unset, .unset, .unset, .unset, .unset, .unset]) rfl ?_
        exact k
      exact ⟨(1 : Int32), Or.inl ⟨hc100_36, rfl⟩, a37⟩
    ·
      have a38 : ∀ t, Steps p.tables e below (T29.setTop (mkF m 106 #[.val (.int p0), .val (.int p1), .val (.int p2), .val (.int ((p0 &&& (2147483647 : Int32)) % (5 : Int32))), .val (.ref u), .val (.int hib), .val (.int a), .val (.int (p2 % (1000000 : Int32))), .unset, .unset, .unset, .unset, .unset, .unset, .unset, .unset, .unset] [])) t → Steps p.tables e below (s₁.setTop (entryFrame m #[(.int p0), (.int p1), (.int p2)] maxLocals)) t := by
        intro t k
        refine a35 t ?_
        show Steps p.tables e below (T29.setTop (mkF m 100 #[.val (.int p0), .val (.int p1), .val (.int p2), .val (.int ((p0 &&& (2147483647 : Int32)) % (5 : Int32))), .val (.ref u), .val (.int hib), .val (.int a), .val (.int (p2 % (1000000 : Int32))), .unset, .unset, .unset, .unset, .unset, .unset, .unset, .unset, .unset] [(.int (p2 % (1000000 : Int32)))])) _
        refine XS.ifYes X29.here hx rfl (pc0 := 100) (pc' := 106) rfl (hb hby at_100) rfl ((if0 _ _).trans (feq hc100_36).2) (by decide) (by decide) ?_
        exact k
      exact ⟨(p2 % (1000000 : Int32)), Or.inr (⟨hc100_36, rfl⟩), a38⟩
  have ja : a = if p1 % 1000000 = 0 then 1 else p1 % 1000000 := by rcases JA with ⟨h, rfl⟩ | ⟨h, rfl⟩; exact (if_pos h).symm; exact (if_neg h).symm
  have jc : c_ = if p2 % 1000000 = 0 then 1 else p2 % 1000000 := by rcases JC with ⟨h, rfl⟩ | ⟨h, rfl⟩; exact (if_pos h).symm; exact (if_neg h).symm
  have ra : a.toInt < 1000000 := ja ▸ own_rng p1
  have rc : c_.toInt < 1000000 := jc ▸ own_rng p2
  have na : ¬ a = 0 := by rcases JA with ⟨h, rfl⟩ | ⟨h, rfl⟩; decide; exact h
  have nc : ¬ c_ = 0 := by rcases JC with ⟨h, rfl⟩ | ⟨h, rfl⟩; decide; exact h
  have a40 : ∀ t, Steps p.tables e below (T29.setTop (mkF m 122 #[.val (.int p0), .val (.int p1), .val (.int p2), .val (.int ((p0 &&& (2147483647 : Int32)) % (5 : Int32))), .val (.ref u), .val (.int hib), .val (.int a), .val (.int c_), .val (.double (FP.i2d a)), .second, .val (.double (FP.i2d c_)), .second, .unset, .unset, .unset, .unset, .unset] [(.double (FP.i2d c_)), (.double (FP.i2d a)), (.ref u)])) t → Steps p.tables e below (s₁.setTop (entryFrame m #[(.int p0), (.int p1), (.int p2)] maxLocals)) t := by
    intro t k
    refine a39 t ?_
    show Steps p.tables e below (T29.setTop (mkF m 106 #[.val (.int p0), .val (.int p1), .val (.int p2), .val (.int ((p0 &&& (2147483647 : Int32)) % (5 : Int32))), .val (.ref u), .val (.int hib), .val (.int a), .val (.int c_), .unset, .unset, .unset, .unset, .unset, .unset, .unset, .unset, .unset] [])) _
    refine XS.iload X29.here hx rfl (hb hby at_106) rfl ?_
    show Steps p.tables e below (T29.setTop (mkF m 108 #[.val (.int p0), .val (.int p1), .val (.int p2), .val (.int ((p0 &&& (2147483647 : Int32)) % (5 : Int32))), .val (.ref u), .val (.int hib), .val (.int a), .val (.int c_), .unset, .unset, .unset, .unset, .unset, .unset, .unset, .unset, .unset] [(.int a)])) _
    refine XS.i2dS X29.here hx rfl (hb hby at_108) rfl rfl ?_
    show Steps p.tables e below (T29.setTop (mkF m 109 #[.val (.int p0), .val (.int p1), .val (.int p2), .val (.int ((p0 &&& (2147483647 : Int32)) % (5 : Int32))), .val (.ref u), .val (.int hib), .val (.int a), .val (.int c_), .unset, .unset, .unset, .unset, .unset, .unset, .unset, .unset, .unset] [(.double (FP.i2d a))])) _
    refine XS.dstore X29.here hx rfl (hb hby at_109) rfl (l' := #[.val (.int p0), .val (.int p1), .val (.int p2), .val (.int ((p0 &&& (2147483647 : Int32)) % (5 : Int32))), .val (.ref u), .val (.int hib), .val (.int a), .val (.int c_), .val (.double (FP.i2d a)), .second, .unset, .unset, .unset, .unset, .unset, .unset, .unset]) rfl ?_
    show Steps p.tables e below (T29.setTop (mkF m 111 #[.val (.int p0), .val (.int p1), .val (.int p2), .val (.int ((p0 &&& (2147483647 : Int32)) % (5 : Int32))), .val (.ref u), .val (.int hib), .val (.int a), .val (.int c_), .val (.double (FP.i2d a)), .second, .unset, .unset, .unset, .unset, .unset, .unset, .unset] [])) _
    refine XS.iload X29.here hx rfl (hb hby at_111) rfl ?_
    show Steps p.tables e below (T29.setTop (mkF m 113 #[.val (.int p0), .val (.int p1), .val (.int p2), .val (.int ((p0 &&& (2147483647 : Int32)) % (5 : Int32))), .val (.ref u), .val (.int hib), .val (.int a), .val (.int c_), .val (.double (FP.i2d a)), .second, .unset, .unset, .unset, .unset, .unset, .unset, .unset] [(.int c_)])) _
    refine XS.i2dS X29.here hx rfl (hb hby at_113) rfl rfl ?_
    show Steps p.tables e below (T29.setTop (mkF m 114 #[.val (.int p0), .val (.int p1), .val (.int p2), .val (.int ((p0 &&& (2147483647 : Int32)) % (5 : Int32))), .val (.ref u), .val (.int hib), .val (.int a), .val (.int c_), .val (.double (FP.i2d a)), .second, .unset, .unset, .unset, .unset, .unset, .unset, .unset] [(.double (FP.i2d c_))])) _
    refine XS.dstore X29.here hx rfl (hb hby at_114) rfl (l' := #[.val (.int p0), .val (.int p1), .val (.int p2), .val (.int ((p0 &&& (2147483647 : Int32)) % (5 : Int32))), .val (.ref u), .val (.int hib), .val (.int a), .val (.int c_), .val (.double (FP.i2d a)), .second, .val (.double (FP.i2d c_)), .second, .unset, .unset, .unset, .unset, .unset]) rfl ?_
    show Steps p.tables e below (T29.setTop (mkF m 116 #[.val (.int p0), .val (.int p1), .val (.int p2), .val (.int ((p0 &&& (2147483647 : Int32)) % (5 : Int32))), .val (.ref u), .val (.int hib), .val (.int a), .val (.int c_), .val (.double (FP.i2d a)), .second, .val (.double (FP.i2d c_)), .second, .unset, .unset, .unset, .unset, .unset] [])) _
    refine XS.aload X29.here hx rfl (hb hby at_116) rfl rfl ?_
    show Steps p.tables e below (T29.setTop (mkF m 118 #[.val (.int p0), .val (.int p1), .val (.int p2), .val (.int ((p0 &&& (2147483647 : Int32)) % (5 : Int32))), .val (.ref u), .val (.int hib), .val (.int a), .val (.int c_), .val (.double (FP.i2d a)), .second, .val (.double (FP.i2d c_)), .second, .unset, .unset, .unset, .unset, .unset] [(.ref u)])) _
    refine XS.dload X29.here hx rfl (hb hby at_118) rfl ?_
    show Steps p.tables e below (T29.setTop (mkF m 120 #[.val (.int p0), .val (.int p1), .val (.int p2), .val (.int ((p0 &&& (2147483647 : Int32)) % (5 : Int32))), .val (.ref u), .val (.int hib), .val (.int a), .val (.int c_), .val (.double (FP.i2d a)), .second, .val (.double (FP.i2d c_)), .second, .unset, .unset, .unset, .unset, .unset] [(.double (FP.i2d a)), (.ref u)])) _
    refine XS.dload X29.here hx rfl (hb hby at_120) rfl ?_
    exact k
  obtain ⟨cq41, kq41, q41a, q41b, q41c⟩ := isOf hZ e29 hu.1
  obtain ⟨_, _, ⟨T41, L41, k41, n41⟩, -, X41, ⟨Lc41, hQ41, l41, y41, z41⟩, st41⟩ := X29.virtualBack hx (y := (⟨"org/latchwork/cli/Figure$Unit", "ratio", "(DD)D"⟩ : MethodName)) (z := (⟨"org/latchwork/cli/Figure$Unit", "ratio", "(DD)D"⟩ : MethodName)) hown (mvT hZ (hw _ (List.mem_of_getElem? (i := 5) rfl))) (mvT hZ (hw _ (List.mem_of_getElem? (i := 6) rfl))) (notFace_of_selects (args := #[]) (mvT hZ (hw _ (List.mem_of_getElem? (i := 8) rfl)))) (mvT hZ (hw _ (List.mem_of_getElem? (i := 8) rfl))) (mvT hZ (hw _ (List.mem_of_getElem? (i := 7) rfl))) (by decide) (backOf (W := 0) (rm1 l Z a0 hw [] u (FP.i2d a) (FP.i2d c_) hib h0 n0 Z0 hu.2.1 (fun _ => own_div_nn a c_ nc) (fun _ => own_div_nn c_ a na)) hZ (hw _ (List.mem_of_getElem? (i := 9) rfl)) (hw _ (List.mem_of_getElem? (i := 2) rfl)) (by decide) (by decide)) q41a q41c (g := (mkF m 122 #[.val (.int p0), .val (.int p1), .val (.int p2), .val (.int ((p0 &&& (2147483647 : Int32)) % (5 : Int32))), .val (.ref u), .val (.int hib), .val (.int a), .val (.int c_), .val (.double (FP.i2d a)), .second, .val (.double (FP.i2d c_)), .second, .unset, .unset, .unset, .unset, .unset] [(.double (FP.i2d c_)), (.double (FP.i2d a)), (.ref u)])) rfl (by rw [hml]; rfl) (Steps.refl _) (argsL := [(.double (FP.i2d a)), (.double (FP.i2d c_))]) (rest := []) (lenOf own_pd0 rfl) rfl (by show 2 * 0 + _ ≤ _; exact Nat.le_of_eq rfl) (hb hby at_122) (fun _ _ => ⟨rfl, e29, (by decide : 0 + 0 ≤ _), (by decide : 0 + 0 ≤ _)⟩)
  dsimp only [Pt.U, Pt.locs, Pt.cells, Pt.slots] at X41 l41 y41 z41 st41 hQ41
  subst l41 y41 z41
  obtain ⟨rfl, N41q, e41q⟩ := hQ41
  have N41 := Fr.app N29 N41q
  have a42 : ∀ t, Steps p.tables e below (T41.setTop (mkF m 125 #[.val (.int p0), .val (.int p1), .val (.int p2), .val (.int ((p0 &&& (2147483647 : Int32)) % (5 : Int32))), .val (.ref u), .val (.int hib), .val (.int a), .val (.int c_), .val (.double (FP.i2d a)), .second, .val (.double (FP.i2d c_)), .second, .unset, .unset, .unset, .unset, .unset] [(.double (if hib = 0 then FP.ddiv (FP.i2d c_) (FP.i2d a) else FP.ddiv (FP.i2d a) (FP.i2d c_)))])) t → Steps p.tables e below (s₁.setTop (entryFrame m #[(.int p0), (.int p1), (.int p2)] maxLocals)) t := fun t k => a40 t (st41.trans k)
  obtain ⟨r, h_r⟩ : ∃ z, z = (if hib = 0 then FP.ddiv (FP.i2d c_) (FP.i2d a) else FP.ddiv (FP.i2d a) (FP.i2d c_)) := ⟨_, rfl⟩
  rw [← h_r] at a42
  have a43 : ∀ t, Steps p.tables e below (T41.setTop (mkF m 129 #[.val (.int p0), .val (.int p1), .val (.int p2), .val (.int ((p0 &&& (2147483647 : Int32)) % (5 : Int32))), .val (.ref u), .val (.int hib), .val (.int a), .val (.int c_), .val (.double (FP.i2d a)), .second, .val (.double (FP.i2d c_)), .second, .val (.double r), .second, .unset, .unset, .unset] [(.int hib)])) t → Steps p.tables e below (s₁.setTop (entryFrame m #[(.int p0), (.int p1), (.int p2)] maxLocals)) t := by
    intro t k
    refine a42 t ?_
    show Steps p.tables e below (T41.setTop (mkF m 125 #[.val (.int p0), .val (.int p1), .val (.int p2), .val (.int ((p0 &&& (2147483647 : Int32)) % (5 : Int32))), .val (.ref u), .val (.int hib), .val (.int a), .val (.int c_), .val (.double (FP.i2d a)), .second, .val (.double (FP.i2d c_)), .second, .unset, .unset, .unset, .unset, .unset] [(.double r)])) _
    refine XS.dstore X41.here hx rfl (hb hby at_125) rfl (l' := #[.val (.int p0), .val (.int p1), .val (.int p2), .val (.int ((p0 &&& (2147483647 : Int32)) % (5 : Int32))), .val (.ref u), .val (.int hib), .val (.int a), .val (.int c_), .val (.double (FP.i2d a)), .second, .val (.double (FP.i2d c_)), .second, .val (.double r), .second, .unset, .unset, .unset]) rfl ?_
    show Steps p.tables e below (T41.setTop (mkF m 127 #[.val (.int p0), .val (.int p1), .val (.int p2), .val (.int ((p0 &&& (2147483647 : Int32)) % (5 : Int32))), .val (.ref u), .val (.int hib), .val (.int a), .val (.int c_), .val (.double (FP.i2d a)), .second, .val (.double (FP.i2d c_)), .second, .val (.double r), .second, .unset, .unset, .unset] [])) _
    refine XS.iload X41.here hx rfl (hb hby at_127) rfl ?_
    exact k
  obtain ⟨ex, JE, a47⟩ : ∃ (ex : UInt64), (((hib = (0 : Int32)) ∧ ex = (FP.ddiv (FP.i2d c_) (FP.i2d a))) ∨ ((¬ (hib = (0 : Int32))) ∧ ex = (FP.ddiv (FP.i2d a) (FP.i2d c_)))) ∧ ∀ t, Steps p.tables e below (T41.setTop (mkF m 145 #[.val (.int p0), .val (.int p1), .val (.int p2), .val (.int ((p0 &&& (2147483647 : Int32)) % (5 : Int32))), .val (.ref u), .val (.int hib), .val (.int a), .val (.int c_), .val (.double (FP.i2d a)), .second, .val (.double (FP.i2d c_)), .second, .val (.double r), .second, .unset, .unset, .unset] [(.double ex)])) t → Steps p.tables e below (s₁.setTop (entryFrame m #[(.int p0), (.int p1), (.int p2)] maxLocals)) t := by
    by_cases hc129_44 : hib = (0 : Int32)
    ·
      have a45 : ∀ t, Steps p.tables e below (T41.setTop (mkF m 145 #[.val (.int p0), .val (.int p1), .val (.int p2), .val (.int ((p0 &&& (2147483647 : Int32)) % (5 : Int32))), .val (.ref u), .val (.int hib), .val (.int a), .val (.int c_), .val (.double (FP.i2d a)), .second, .val (.double (FP.i2d c_)), .second, .val (.double r), .second, .unset, .unset, .unset] [(.double (FP.ddiv (FP.i2d c_) (FP.i2d a)))])) t → Steps p.tables e below (s₁.setTop (entryFrame m #[(.int p0), (.int p1), (.int p2)] maxLocals)) t := by
        intro t k
        refine a43 t ?_
        show Steps p.tables e below (T41.setTop (mkF m 129 #[.val (.int p0), .val (.int p1), .val (.int p2), .val (.int ((p0 &&& (2147483647 : Int32)) % (5 : Int32))), .val (.ref u), .val (.int hib), .val (.int a), .val (.int c_), .val (.double (FP.i2d a)), .second, .val (.double (FP.i2d c_)), .second, .val (.double r), .second, .unset, .unset, .unset] [(.int hib)])) _
        refine XS.ifYes X41.here hx rfl (pc0 := 129) (pc' := 140) rfl (hb hby at_129) rfl ((if0 _ _).trans (teq hc129_44).1) (by decide) (by decide) ?_
        show Steps p.tables e below (T41.setTop (mkF m 140 #[.val (.int p0), .val (.int p1), .val (.int p2), .val (.int ((p0 &&& (2147483647 : Int32)) % (5 : Int32))), .val (.ref u), .val (.int hib), .val (.int a), .val (.int c_), .val (.double (FP.i2d a)), .second, .val (.double (FP.i2d c_)), .second, .val (.double r), .second, .unset, .unset, .unset] [])) _
        refine XS.dload X41.here hx rfl (hb hby at_140) rfl ?_
        show Steps p.tables e below (T41.setTop (mkF m 142 #[.val (.int p0), .val (.int p1), .val (.int p2), .val (.int ((p0 &&& (2147483647 : Int32)) % (5 : Int32))), .val (.ref u), .val (.int hib), .val (.int a), .val (.int c_), .val (.double (FP.i2d a)), .second, .val (.double (FP.i2d c_)), .second, .val (.double r), .second, .unset, .unset, .unset] [(.double (FP.i2d c_))])) _
        refine XS.dload X41.here hx rfl (hb hby at_142) rfl ?_
        show Steps p.tables e below (T41.setTop (mkF m 144 #[.val (.int p0), .val (.int p1), .val (.int p2), .val (.int ((p0 &&& (2147483647 : Int32)) % (5 : Int32))), .val (.ref u), .val (.int hib), .val (.int a), .val (.int c_), .val (.double (FP.i2d a)), .second, .val (.double (FP.i2d c_)), .second, .val (.double r), .second, .unset, .unset, .unset] [(.double (FP.i2d a)), (.double (FP.i2d c_))])) _
        refine XS.ddivS X41.here hx rfl (hb hby at_144) rfl (own_div_nn c_ a na) rfl ?_
        exact k
      exact ⟨(FP.ddiv (FP.i2d c_) (FP.i2d a)), Or.inl ⟨hc129_44, rfl⟩, a45⟩
    ·
      have a46 : ∀ t, Steps p.tables e below (T41.setTop (mkF m 145 #[.val (.int p0), .val (.int p1), .val (.int p2), .val (.int ((p0 &&& (2147483647 : Int32)) % (5 : Int32))), .val (.ref u), .val (.int hib), .val (.int a), .val (.int c_), .val (.double (FP.i2d a)), .second, .val (.double (FP.i2d c_)), .second, .val (.double r), .second, .unset, .unset, .unset] [(.double (FP.ddiv (FP.i2d a) (FP.i2d c_)))])) t → Steps p.tables e below (s₁.setTop (entryFrame m #[(.int p0), (.int p1), (.int p2)] maxLocals)) t := by
        intro t k
        refine a43 t ?_
        show Steps p.tables e below (T41.setTop (mkF m 129 #[.val (.int p0), .val (.int p1), .val (.int p2), .val (.int ((p0 &&& (2147483647 : Int32)) % (5 : Int32))), .val (.ref u), .val (.int hib), .val (.int a), .val (.int c_), .val (.double (FP.i2d a)), .second, .val (.double (FP.i2d c_)), .second, .val (.double r), .second, .unset, .unset, .unset] [(.int hib)])) _
        refine XS.ifNo X41.here hx rfl (hb hby at_129) rfl ((if0 _ _).trans (feq hc129_44).1) ?_
        show Steps p.tables e below (T41.setTop (mkF m 132 #[.val (.int p0), .val (.int p1), .val (.int p2), .val (.int ((p0 &&& (2147483647 : Int32)) % (5 : Int32))), .val (.ref u), .val (.int hib), .val (.int a), .val (.int c_), .val (.double (FP.i2d a)), .second, .val (.double (FP.i2d c_)), .second, .val (.double r), .second, .unset, .unset, .unset] [])) _
        refine XS.dload X41.here hx rfl (hb hby at_132) rfl ?_
        show Steps p.tables e below (T41.setTop (mkF m 134 #[.val (.int p0), .val (.int p1), .val (.int p2), .val (.int ((p0 &&& (2147483647 : Int32)) % (5 : Int32))), .val (.ref u), .val (.int hib), .val (.int a), .val (.int c_), .val (.double (FP.i2d a)), .second, .val (.double (FP.i2d c_)), .second, .val (.double r), .second, .unset, .unset, .unset] [(.double (FP.i2d a))])) _
        refine XS.dload X41.here hx rfl (hb hby at_134) rfl ?_
        show Steps p.tables e below (T41.setTop (mkF m 136 #[.val (.int p0), .val (.int p1), .val (.int p2), .val (.int ((p0 &&& (2147483647 : Int32)) % (5 : Int32))), .val (.ref u), .val (.int hib), .val (.int a), .val (.int c_), .val (.double (FP.i2d a)), .second, .val (.double (FP.i2d c_)), .second, .val (.double r), .second, .unset, .unset, .unset] [(.double (FP.i2d c_)), (.double (FP.i2d a))])) _
        refine XS.ddivS X41.here hx rfl (hb hby at_136) rfl (own_div_nn a c_ nc) rfl ?_
        show Steps p.tables e below (T41.setTop (mkF m 137 #[.val (.int p0), .val (.int p1), .val (.int p2), .val (.int ((p0 &&& (2147483647 : Int32)) % (5 : Int32))), .val (.ref u), .val (.int hib), .val (.int a), .val (.int c_), .val (.double (FP.i2d a)), .second, .val (.double (FP.i2d c_)), .second, .val (.double r), .second, .unset, .unset, .unset] [(.double (FP.ddiv (FP.i2d a) (FP.i2d c_)))])) _
        refine XS.goto X41.here hx rfl (pc0 := 137) (pc' := 145) rfl (hb hby at_137) (by decide) (by decide) ?_
        exact k
      exact ⟨(FP.ddiv (FP.i2d a) (FP.i2d c_)), Or.inr (⟨hc129_44, rfl⟩), a46⟩
  have er : r = ex := by rw [h_r]; rcases JE with ⟨h, rfl⟩ | ⟨h, rfl⟩; exact if_pos h; exact if_neg h
  have nr : Jvm.Free.Fl.NoNaN64 r := by rw [h_r]; split; exact own_div_nn c_ a na; exact own_div_nn a c_ nc
  have a48 : ∀ t, Steps p.tables e below (T41.setTop (mkF m 159 #[.val (.int p0), .val (.int p1), .val (.int p2), .val (.int ((p0 &&& (2147483647 : Int32)) % (5 : Int32))), .val (.ref u), .val (.int hib), .val (.int a), .val (.int c_), .val (.double (FP.i2d a)), .second, .val (.double (FP.i2d c_)), .second, .val (.double r), .second, .val (.double ex), .second, .unset] [(.int a)])) t → Steps p.tables e below (s₁.setTop (entryFrame m #[(.int p0), (.int p1), (.int p2)] maxLocals)) t := by
    intro t k
    refine a47 t ?_
    show Steps p.tables e below (T41.setTop (mkF m 145 #[.val (.int p0), .val (.int p1), .val (.int p2), .val (.int ((p0 &&& (2147483647 : Int32)) % (5 : Int32))), .val (.ref u), .val (.int hib), .val (.int a), .val (.int c_), .val (.double (FP.i2d a)), .second, .val (.double (FP.i2d c_)), .second, .val (.double r), .second, .unset, .unset, .unset] [(.double ex)])) _
    refine XS.dstore X41.here hx rfl (hb hby at_145) rfl (l' := #[.val (.int p0), .val (.int p1), .val (.int p2), .val (.int ((p0 &&& (2147483647 : Int32)) % (5 : Int32))), .val (.ref u), .val (.int hib), .val (.int a), .val (.int c_), .val (.double (FP.i2d a)), .second, .val (.double (FP.i2d c_)), .second, .val (.double r), .second, .val (.double ex), .second, .unset]) rfl ?_
    show Steps p.tables e below (T41.setTop (mkF m 147 #[.val (.int p0), .val (.int p1), .val (.int p2), .val (.int ((p0 &&& (2147483647 : Int32)) % (5 : Int32))), .val (.ref u), .val (.int hib), .val (.int a), .val (.int c_), .val (.double (FP.i2d a)), .second, .val (.double (FP.i2d c_)), .second, .val (.double r), .second, .val (.double ex), .second, .unset] [])) _
    refine XS.dload X41.here hx rfl (hb hby at_147) rfl ?_
    show Steps p.tables e below (T41.setTop (mkF m 149 #[.val (.int p0), .val (.int p1), .val (.int p2), .val (.int ((p0 &&& (2147483647 : Int32)) % (5 : Int32))), .val (.ref u), .val (.int hib), .val (.int a), .val (.int c_), .val (.double (FP.i2d a)), .second, .val (.double (FP.i2d c_)), .second, .val (.double r), .second, .val (.double ex), .second, .unset] [(.double r)])) _
    refine XS.dload X41.here hx rfl (hb hby at_149) rfl ?_
    show Steps p.tables e below (T41.setTop (mkF m 151 #[.val (.int p0), .val (.int p1), .val (.int p2), .val (.int ((p0 &&& (2147483647 : Int32)) % (5 : Int32))), .val (.ref u), .val (.int hib), .val (.int a), .val (.int c_), .val (.double (FP.i2d a)), .second, .val (.double (FP.i2d c_)), .second, .val (.double r), .second, .val (.double ex), .second, .unset] [(.double ex), (.double r)])) _
    refine XS.dcmpS X41.here hx rfl (hb hby at_151) rfl rfl ?_
    show Steps p.tables e below (T41.setTop (mkF m 152 #[.val (.int p0), .val (.int p1), .val (.int p2), .val (.int ((p0 &&& (2147483647 : Int32)) % (5 : Int32))), .val (.ref u), .val (.int hib), .val (.int a), .val (.int c_), .val (.double (FP.i2d a)), .second, .val (.double (FP.i2d c_)), .second, .val (.double r), .second, .val (.double ex), .second, .unset] [(.int (cmpValue (FP.dcmp r ex) .l))])) _
    refine XS.ifYes X41.here hx rfl (pc0 := 152) (pc' := 157) rfl (hb hby at_152) rfl ((if0 _ _).trans (teq ((cv_eq _ _).mpr (by rw [← er]; exact Jvm.FP.Core.dcmp_self (nn_v nr)))).1) (by decide) (by decide) ?_
    show Steps p.tables e below (T41.setTop (mkF m 157 #[.val (.int p0), .val (.int p1), .val (.int p2), .val (.int ((p0 &&& (2147483647 : Int32)) % (5 : Int32))), .val (.ref u), .val (.int hib), .val (.int a), .val (.int c_), .val (.double (FP.i2d a)), .second, .val (.double (FP.i2d c_)), .second, .val (.double r), .second, .val (.double ex), .second, .unset] [])) _
    refine XS.iload X41.here hx rfl (hb hby at_157) rfl ?_
    exact k
  by_cases hc159_49 : (0 : Int32) < a
  ·
    have a50 : ∀ t, Steps p.tables e below (T41.setTop (mkF m 164 #[.val (.int p0), .val (.int p1), .val (.int p2), .val (.int ((p0 &&& (2147483647 : Int32)) % (5 : Int32))), .val (.ref u), .val (.int hib), .val (.int a), .val (.int c_), .val (.double (FP.i2d a)), .second, .val (.double (FP.i2d c_)), .second, .val (.double r), .second, .val (.double ex), .second, .unset] [(.int c_)])) t → Steps p.tables e below (s₁.setTop (entryFrame m #[(.int p0), (.int p1), (.int p2)] maxLocals)) t := by
      intro t k
      refine a48 t ?_
      show Steps p.tables e below (T41.setTop (mkF m 159 #[.val (.int p0), .val (.int p1), .val (.int p2), .val (.int ((p0 &&& (2147483647 : Int32)) % (5 : Int32))), .val (.ref u), .val (.int hib), .val (.int a), .val (.int c_), .val (.double (FP.i2d a)), .second, .val (.double (FP.i2d c_)), .second, .val (.double r), .second, .val (.double ex), .second, .unset] [(.int a)])) _
      refine XS.ifNo X41.here hx rfl (hb hby at_159) rfl ((if0 _ _).trans (tlt hc159_49).2.2.2) ?_
      show Steps p.tables e below (T41.setTop (mkF m 162 #[.val (.int p0), .val (.int p1), .val (.int p2), .val (.int ((p0 &&& (2147483647 : Int32)) % (5 : Int32))), .val (.ref u), .val (.int hib), .val (.int a), .val (.int c_), .val (.double (FP.i2d a)), .second, .val (.double (FP.i2d c_)), .second, .val (.double r), .second, .val (.double ex), .second, .unset] [])) _
      refine XS.iload X41.here hx rfl (hb hby at_162) rfl ?_
      exact k
    by_cases hc164_51 : (0 : Int32) < c_
    ·
      have a52 : ∀ t, Steps p.tables e below (T41.setTop (mkF m 169 #[.val (.int p0), .val (.int p1), .val (.int p2), .val (.int ((p0 &&& (2147483647 : Int32)) % (5 : Int32))), .val (.ref u), .val (.int hib), .val (.int a), .val (.int c_), .val (.double (FP.i2d a)), .second, .val (.double (FP.i2d c_)), .second, .val (.double r), .second, .val (.double ex), .second, .unset] [(.int hib)])) t → Steps p.tables e below (s₁.setTop (entryFrame m #[(.int p0), (.int p1), (.int p2)] maxLocals)) t := by
        intro t k
        refine a50 t ?_
        show Steps p.tables e below (T41.setTop (mkF m 164 #[.val (.int p0), .val (.int p1), .val (.int p2), .val (.int ((p0 &&& (2147483647 : Int32)) % (5 : Int32))), .val (.ref u), .val (.int hib), .val (.int a), .val (.int c_), .val (.double (FP.i2d a)), .second, .val (.double (FP.i2d c_)), .second, .val (.double r), .second, .val (.double ex), .second, .unset] [(.int c_)])) _
        refine XS.ifNo X41.here hx rfl (hb hby at_164) rfl ((if0 _ _).trans (tlt hc164_51).2.2.2) ?_
        show Steps p.tables e below (T41.setTop (mkF m 167 #[.val (.int p0), .val (.int p1), .val (.int p2), .val (.int ((p0 &&& (2147483647 : Int32)) % (5 : Int32))), .val (.ref u), .val (.int hib), .val (.int a), .val (.int c_), .val (.double (FP.i2d a)), .second, .val (.double (FP.i2d c_)), .second, .val (.double r), .second, .val (.double ex), .second, .unset] [])) _
        refine XS.iload X41.here hx rfl (hb hby at_167) rfl ?_
        exact k
      obtain ⟨be, JB, a62⟩ : ∃ (be : Int32), (((hib = (0 : Int32)) ∧ (a < c_) ∧ be = (1 : Int32)) ∨ ((hib = (0 : Int32)) ∧ (¬ (a < c_)) ∧ be = (0 : Int32)) ∨ ((¬ (hib = (0 : Int32))) ∧ (c_ < a) ∧ be = (1 : Int32)) ∨ ((¬ (hib = (0 : Int32))) ∧ (¬ (c_ < a)) ∧ be = (0 : Int32))) ∧ ∀ t, Steps p.tables e below (T41.setTop (mkF m 199 #[.val (.int p0), .val (.int p1), .val (.int p2), .val (.int ((p0 &&& (2147483647 : Int32)) % (5 : Int32))), .val (.ref u), .val (.int hib), .val (.int a), .val (.int c_), .val (.double (FP.i2d a)), .second, .val (.double (FP.i2d c_)), .second, .val (.double r), .second, .val (.double ex), .second, .unset] [(.int be)])) t → Steps p.tables e below (s₁.setTop (entryFrame m #[(.int p0), (.int p1), (.int p2)] maxLocals)) t := by
        by_cases hc169_53 : hib = (0 : Int32)
        ·
          have a54 : ∀ t, Steps p.tables e below (T41.setTop (mkF m 191 #[.val (.int p0), .val (.int p1), .val (.int p2), .val (.int ((p0 &&& (2147483647 : Int32)) % (5 : Int32))), .val (.ref u), .val (.int hib), .val (.int a), .val (.int c_), .val (.double (FP.i2d a)), .second, .val (.double (FP.i2d c_)), .second, .val (.double r), .second, .val (.double ex), .second, .unset] [(.int c_), (.int a)])) t → Steps p.tables e below (s₁.setTop (entryFrame m #[(.int p0), (.int p1), (.int p2)] maxLocals)) t := by
            intro t k
            refine a52 t ?_
            show Steps p.tables e below (T41.setTop (mkF m 169 #[.val (.int p0), .val (.int p1), .val (.int p2), .val (.int ((p0 &&& (2147483647 : Int32)) % (5 : Int32))), .val (.ref u), .val (.int hib), .val (.int a), .val (.int c_), .val (.double (FP.i2d a)), .second, .val (.double (FP.i2d c_)), .second, .val (.double r), .second, .val (.double ex), .second, .unset] [(.int hib)])) _
            refine XS.ifYes X41.here hx rfl (pc0 := 169) (pc' := 187) rfl (hb hby at_169) rfl ((if0 _ _).trans (teq hc169_53).1) (by decide) (by decide) ?_
            show Steps p.tables e below (T41.setTop (mkF m 187 #[.val (.int p0), .val (.int p1), .val (.int p2), .val (.int ((p0 &&& (2147483647 : Int32)) % (5 : Int32))), .val (.ref u), .val (.int hib), .val (.int a), .val (.int c_), .val (.double (FP.i2d a)), .second, .val (.double (FP.i2d c_)), .second, .val (.double r), .second, .val (.double ex), .second, .unset] [])) _
            refine XS.iload X41.here hx rfl (hb hby at_187) rfl ?_
            show Steps p.tables e below (T41.setTop (mkF m 189 #[.val (.int p0), .val (.int p1), .val (.int p2), .val (.int ((p0 &&& (2147483647 : Int32)) % (5 : Int32))), .val (.ref u), .val (.int hib), .val (.int a), .val (.int c_), .val (.double (FP.i2d a)), .second, .val (.double (FP.i2d c_)), .second, .val (.double r), .second, .val (.double ex), .second, .unset] [(.int a)])) _
            refine XS.iload X41.here hx rfl (hb hby at_189) rfl ?_
            exact k
          by_cases hc191_55 : a < c_
          ·
            have a56 : ∀ t, Steps p.tables e below (T41.setTop (mkF m 199 #[.val (.int p0), .val (.int p1), .val (.int p2), .val (.int ((p0 &&& (2147483647 : Int32)) % (5 : Int32))), .val (.ref u), .val (.int hib), .val (.int a), .val (.int c_), .val (.double (FP.i2d a)), .second, .val (.double (FP.i2d c_)), .second, .val (.double r), .second, .val (.double ex), .second, .unset] [(.int (1 : Int32))])) t → Steps p.tables e below (s₁.setTop (entryFrame m #[(.int p0), (.int p1), (.int p2)] maxLocals)) t := by
              intro t k
              refine a54 t ?_
              show Steps p.tables e below (T41.setTop (mkF m 191 #[.val (.int p0), .val (.int p1), .val (.int p2), .val (.int ((p0 &&& (2147483647 : Int32)) % (5 : Int32))), .val (.ref u), .val (.int hib), .val (.int a), .val (.int c_), .val (.double (FP.i2d a)), .second, .val (.double (FP.i2d c_)), .second, .val (.double r), .second, .val (.double ex), .second, .unset] [(.int c_), (.int a)])) _
              refine XS.icmpNo X41.here hx rfl (hb hby at_191) rfl (tlt hc191_55).2.1 ?_
              show Steps p.tables e below (T41.setTop (mkF m 194 #[.val (.int p0), .val (.int p1), .val (.int p2), .val (.int ((p0 &&& (2147483647 : Int32)) % (5 : Int32))), .val (.ref u), .val (.int hib), .val (.int a), .val (.int c_), .val (.double (FP.i2d a)), .second, .val (.double (FP.i2d c_)), .second, .val (.double r), .second, .val (.double ex), .second, .unset] [])) _
              refine XS.iconst X41.here hx rfl (hb hby at_194) ?_
              show Steps p.tables e below (T41.setTop (mkF m 195 #[.val (.int p0), .val (.int p1), .val (.int p2), .val (.int ((p0 &&& (2147483647 : Int32)) % (5 : Int32))), .val (.ref u), .val (.int hib), .val (.int a), .val (.int c_), .val (.double (FP.i2d a)), .second, .val (.double (FP.i2d c_)), .second, .val (.double r), .second, .val (.double ex), .second, .unset] [(.int (1 : Int32))])) _
              refine XS.goto X41.here hx rfl (pc0 := 195) (pc' := 199) rfl (hb hby at_195) (by decide) (by decide) ?_
              exact k
            exact ⟨(1 : Int32), Or.inl ⟨hc169_53, hc191_55, rfl⟩, a56⟩
          ·
            have a57 : ∀ t, Steps p.tables e below (T41.setTop (mkF m 199 #[.val (.int p0), .val (.int p1), .val (.int p2), .val (.int ((p0 &&& (2147483647 : Int32)) % (5 : Int32))), .val (.ref u), .val (.int hib), .val (.int a), .val (.int c_), .val (.double (FP.i2d a)), .second, .val (.double (FP.i2d c_)), .second, .val (.double r), .second, .val (.double ex), .second, .unset] [(.int (0 : Int32))])) t → Steps p.tables e below (s₁.setTop (entryFrame m #[(.int p0), (.int p1), (.int p2)] maxLocals)) t := by
              intro t k
              refine a54 t ?_
              show Steps p.tables e below (T41.setTop (mkF m 191 #[.val (.int p0), .val (.int p1), .val (.int p2), .val (.int ((p0 &&& (2147483647 : Int32)) % (5 : Int32))), .val (.ref u), .val (.int hib), .val (.int a), .val (.int c_), .val (.double (FP.i2d a)), .second, .val (.double (FP.i2d c_)), .second, .val (.double r), .second, .val (.double ex), .second, .unset] [(.int c_), (.int a)])) _
              refine XS.icmpYes X41.here hx rfl (pc0 := 191) (pc' := 198) rfl (hb hby at_191) rfl (flt hc191_55).2.1 (by decide) (by decide) ?_
              show Steps p.tables e below (T41.setTop (mkF m 198 #[.val (.int p0), .val (.int p1), .val (.int p2), .val (.int ((p0 &&& (2147483647 : Int32)) % (5 : Int32))), .val (.ref u), .val (.int hib), .val (.int a), .val (.int c_), .val (.double (FP.i2d a)), .second, .val (.double (FP.i2d c_)), .second, .val (.double r), .second, .val (.double ex), .second, .unset] [])) _
              refine XS.iconst X41.here hx rfl (hb hby at_198) ?_
              exact k
            exact ⟨(0 : Int32), Or.inr (Or.inl ⟨hc169_53, hc191_55, rfl⟩), a57⟩
        ·
          have a58 : ∀ t, Steps p.tables e below (T41.setTop (mkF m 176 #[.val (.int p0), .val (.int p1), .val (.int p2), .val (.int ((p0 &&& (2147483647 : Int32)) % (5 : Int32))), .val (.ref u), .val (.int hib), .val (.int a), .val (.int c_), .val (.double (FP.i2d a)), .second, .val (.double (FP.i2d c_)), .second, .val (.double r), .second, .val (.double ex), .second, .unset] [(.int c_), (.int a)])) t → Steps p.tables e below (s₁.setTop (entryFrame m #[(.int p0), (.int p1), (.int p2)] maxLocals)) t := by
            intro t k
            refine a52 t ?_
            show Steps p.tables e below (T41.setTop (mkF m 169 #[.val (.int p0), .val (.int p1), .val (.int p2), .val (.int ((p0 &&& (2147483647 : Int32)) % (5 : Int32))), .val (.ref u), .val (.int hib), .val (.int a), .val (.int c_), .val (.double (FP.i2d a)), .second, .val (.double (FP.i2d c_)), .second, .val (.double r), .second, .val (.double ex), .second, .unset] [(.int hib)])) _
            refine XS.ifNo X41.here hx rfl (hb hby at_169) rfl ((if0 _ _).trans (feq hc169_53).1) ?_
            show Steps p.tables e below (T41.setTop (mkF m 172 #[.val (.int p0), .val (.int p1), .val (.int p2), .val (.int ((p0 &&& (2147483647 : Int32)) % (5 : Int32))), .val (.ref u), .val (.int hib), .val (.int a), .val (.int c_), .val (.double (FP.i2d a)), .second, .val (.double (FP.i2d c_)), .second, .val (.double r), .second, .val (.double ex), .second, .unset] [])) _
            refine XS.iload X41.here hx rfl (hb hby at_172) rfl ?_
            show Steps p.tables e below (T41.setTop (mkF m 174 #[.val (.int p0), .val (.int p1), .val (.int p2), .val (.int ((p0 &&& (2147483647 : Int32)) % (5 : Int32))), .val (.ref u), .val (.int hib), .val (.int a), .val (.int c_), .val (.double (FP.i2d a)), .second, .val (.double (FP.i2d c_)), .second, .val (.double r), .second, .val (.double ex), .second, .unset] [(.int a)])) _
            refine XS.iload X41.here hx rfl (hb hby at_174) rfl ?_
            exact k
          by_cases hc176_59 : c_ < a
          ·
            have a60 : ∀ t, Steps p.tables e below (T41.setTop (mkF m 199 #[.val (.int p0), .val (.int p1), .val (.int p2), .val (.int ((p0 &&& (2147483647 : Int32)) % (5 : Int32))), .val (.ref u), .val (.int hib), .val (.int a), .val (.int c_), .val (.double (FP.i2d a)), .second, .val (.double (FP.i2d c_)), .second, .val (.double r), .second, .val (.double ex), .second, .unset] [(.int (1 : Int32))])) t → Steps p.tables e below (s₁.setTop (entryFrame m #[(.int p0), (.int p1), (.int p2)] maxLocals)) t := by
              intro t k
              refine a58 t ?_
              show Steps p.tables e below (T41.setTop (mkF m 176 #[.val (.int p0), .val (.int p1), .val (.int p2), .val (.int ((p0 &&& (2147483647 : Int32)) % (5 : Int32))), .val (.ref u), .val (.int hib), .val (.int a), .val (.int c_), .val (.double (FP.i2d a)), .second, .val (.double (FP.i2d c_)), .second, .val (.double r), .second, .val (.double ex), .second, .unset] [(.int c_), (.int a)])) _
              refine XS.icmpNo X41.here hx rfl (hb hby at_176) rfl (tlt hc176_59).2.2.2 ?_
              show Steps p.tables e below (T41.setTop (mkF m 179 #[.val (.int p0), .val (.int p1), .val (.int p2), .val (.int ((p0 &&& (2147483647 : Int32)) % (5 : Int32))), .val (.ref u), .val (.int hib), .val (.int a), .val (.int c_), .val (.double (FP.i2d a)), .second, .val (.double (FP.i2d c_)), .second, .val (.double r), .second, .val (.double ex), .second, .unset] [])) _
              refine XS.iconst X41.here hx rfl (hb hby at_179) ?_
              show Steps p.tables e below (T41.setTop (mkF m 180 #[.val (.int p0), .val (.int p1), .val (.int p2), .val (.int ((p0 &&& (2147483647 : Int32)) % (5 : Int32))), .val (.ref u), .val (.int hib), .val (.int a), .val (.int c_), .val (.double (FP.i2d a)), .second, .val (.double (FP.i2d c_)), .second, .val (.double r), .second, .val (.double ex), .second, .unset] [(.int (1 : Int32))])) _
              refine XS.goto X41.here hx rfl (pc0 := 180) (pc' := 199) rfl (hb hby at_180) (by decide) (by decide) ?_
              exact k
            exact ⟨(1 : Int32), Or.inr (Or.inr (Or.inl ⟨hc169_53, hc176_59, rfl⟩)), a60⟩
          ·
            have a61 : ∀ t, Steps p.tables e below (T41.setTop (mkF m 199 #[.val (.int p0), .val (.int p1), .val (.int p2), .val (.int ((p0 &&& (2147483647 : Int32)) % (5 : Int32))), .val (.ref u), .val (.int hib), .val (.int a), .val (.int c_), .val (.double (FP.i2d a)), .second, .val (.double (FP.i2d c_)), .second, .val (.double r), .second, .val (.double ex), .second, .unset] [(.int (0 : Int32))])) t → Steps p.tables e below (s₁.setTop (entryFrame m #[(.int p0), (.int p1), (.int p2)] maxLocals)) t := by
              intro t k
              refine a58 t ?_
              show Steps p.tables e below (T41.setTop (mkF m 176 #[.val (.int p0), .val (.int p1), .val (.int p2), .val (.int ((p0 &&& (2147483647 : Int32)) % (5 : Int32))), .val (.ref u), .val (.int hib), .val (.int a), .val (.int c_), .val (.double (FP.i2d a)), .second, .val (.double (FP.i2d c_)), .second, .val (.double r), .second, .val (.double ex), .second, .unset] [(.int c_), (.int a)])) _
              refine XS.icmpYes X41.here hx rfl (pc0 := 176) (pc' := 183) rfl (hb hby at_176) rfl (flt hc176_59).2.2.2 (by decide) (by decide) ?_
              show Steps p.tables e below (T41.setTop (mkF m 183 #[.val (.int p0), .val (.int p1), .val (.int p2), .val (.int ((p0 &&& (2147483647 : Int32)) % (5 : Int32))), .val (.ref u), .val (.int hib), .val (.int a), .val (.int c_), .val (.double (FP.i2d a)), .second, .val (.double (FP.i2d c_)), .second, .val (.double r), .second, .val (.double ex), .second, .unset] [])) _
              refine XS.iconst X41.here hx rfl (hb hby at_183) ?_
              show Steps p.tables e below (T41.setTop (mkF m 184 #[.val (.int p0), .val (.int p1), .val (.int p2), .val (.int ((p0 &&& (2147483647 : Int32)) % (5 : Int32))), .val (.ref u), .val (.int hib), .val (.int a), .val (.int c_), .val (.double (FP.i2d a)), .second, .val (.double (FP.i2d c_)), .second, .val (.double r), .second, .val (.double ex), .second, .unset] [(.int (0 : Int32))])) _
              refine XS.goto X41.here hx rfl (pc0 := 184) (pc' := 199) rfl (hb hby at_184) (by decide) (by decide) ?_
              exact k
            exact ⟨(0 : Int32), Or.inr (Or.inr (Or.inr (⟨hc169_53, hc176_59, rfl⟩))), a61⟩
      have pa : 0 < a.toInt := by have := Int32.lt_iff_toInt_lt.mp hc159_49; exact this
      have pc_ : 0 < c_.toInt := by have := Int32.lt_iff_toInt_lt.mp hc164_51; exact this
      have hb01 : be = 0 ∨ be = 1 := by rcases JB with ⟨_, _, rfl⟩ | ⟨_, _, rfl⟩ | ⟨_, _, rfl⟩ | ⟨_, _, rfl⟩ <;> simp
      have hq : (0 < cmpValue (FP.dcmp r 4607182418800017408) .l ↔ be = 1) ∧ (a = c_ → cmpValue (FP.dcmp r 4607182418800017408) .l = 0) := by
        rcases hu.2.2 with hz | hz
        · have e := own_q pc_ pa ra r (by rw [h_r, if_pos hz])
          refine ⟨e.1.trans ?_, fun h => e.2 h.symm⟩
          rw [← Int32.lt_iff_toInt_lt]
          rcases JB with ⟨h1, h2, rfl⟩ | ⟨h1, h2, rfl⟩ | ⟨h1, h2, rfl⟩ | ⟨h1, h2, rfl⟩ <;> simp_all
        · have e := own_q pa pc_ rc r (by rw [h_r, if_neg (by rw [hz]; decide)])
          refine ⟨e.1.trans ?_, e.2⟩
          rw [← Int32.lt_iff_toInt_lt]
          rcases JB with ⟨h1, h2, rfl⟩ | ⟨h1, h2, rfl⟩ | ⟨h1, h2, rfl⟩ | ⟨h1, h2, rfl⟩ <;> simp_all
      have a63 : ∀ t, Steps p.tables e below (T41.setTop (mkF m 205 #[.val (.int p0), .val (.int p1), .val (.int p2), .val (.int ((p0 &&& (2147483647 : Int32)) % (5 : Int32))), .val (.ref u), .val (.int hib), .val (.int a), .val (.int c_), .val (.double (FP.i2d a)), .second, .val (.double (FP.i2d c_)), .second, .val (.double r), .second, .val (.double ex), .second, .val (.int be)] [(.int (cmpValue (FP.dcmp r (4607182418800017408 : UInt64)) .l))])) t → Steps p.tables e below (s₁.setTop (entryFrame m #[(.int p0), (.int p1), (.int p2)] maxLocals)) t := by
        intro t k
        refine a62 t ?_
        show Steps p.tables e below (T41.setTop (mkF m 199 #[.val (.int p0), .val (.int p1), .val (.int p2), .val (.int ((p0 &&& (2147483647 : Int32)) % (5 : Int32))), .val (.ref u), .val (.int hib), .val (.int a), .val (.int c_), .val (.double (FP.i2d a)), .second, .val (.double (FP.i2d c_)), .second, .val (.double r), .second, .val (.double ex), .second, .unset] [(.int be)])) _
        refine XS.istore X41.here hx rfl (hb hby at_199) rfl (l' := #[.val (.int p0), .val (.int p1), .val (.int p2), .val (.int ((p0 &&& (2147483647 : Int32)) % (5 : Int32))), .val (.ref u), .val (.int hib), .val (.int a), .val (.int c_), .val (.double (FP.i2d a)), .second, .val (.double (FP.i2d c_)), .second, .val (.double r), .second, .val (.double ex), .second, .val (.int be)]) rfl ?_
        show Steps p.tables e below (T41.setTop (mkF m 201 #[.val (.int p0), .val (.int p1), .val (.int p2), .val (.int ((p0 &&& (2147483647 : Int32)) % (5 : Int32))), .val (.ref u), .val (.int hib), .val (.int a), .val (.int c_), .val (.double (FP.i2d a)), .second, .val (.double (FP.i2d c_)), .second, .val (.double r), .second, .val (.double ex), .second, .val (.int be)] [])) _
        refine XS.dload X41.here hx rfl (hb hby at_201) rfl ?_
        show Steps p.tables e below (T41.setTop (mkF m 203 #[.val (.int p0), .val (.int p1), .val (.int p2), .val (.int ((p0 &&& (2147483647 : Int32)) % (5 : Int32))), .val (.ref u), .val (.int hib), .val (.int a), .val (.int c_), .val (.double (FP.i2d a)), .second, .val (.double (FP.i2d c_)), .second, .val (.double r), .second, .val (.double ex), .second, .val (.int be)] [(.double r)])) _
        refine XS.dconst1 X41.here hx rfl (hb hby at_203) (v := 4607182418800017408) rfl ?_
        show Steps p.tables e below (T41.setTop (mkF m 204 #[.val (.int p0), .val (.int p1), .val (.int p2), .val (.int ((p0 &&& (2147483647 : Int32)) % (5 : Int32))), .val (.ref u), .val (.int hib), .val (.int a), .val (.int c_), .val (.double (FP.i2d a)), .second, .val (.double (FP.i2d c_)), .second, .val (.double r), .second, .val (.double ex), .second, .val (.int be)] [(.double (4607182418800017408 : UInt64)), (.double r)])) _
        refine XS.dcmpS X41.here hx rfl (hb hby at_204) rfl rfl ?_
        exact k
      obtain ⟨gt1, JG, a67⟩ : ∃ (gt1 : Int32), ((((0 : Int32) < (cmpValue (FP.dcmp r (4607182418800017408 : UInt64)) .l)) ∧ gt1 = (1 : Int32)) ∨ ((¬ ((0 : Int32) < (cmpValue (FP.dcmp r (4607182418800017408 : UInt64)) .l))) ∧ gt1 = (0 : Int32))) ∧ ∀ t, Steps p.tables e below (T41.setTop (mkF m 213 #[.val (.int p0), .val (.int p1), .val (.int p2), .val (.int ((p0 &&& (2147483647 : Int32)) % (5 : Int32))), .val (.ref u), .val (.int hib), .val (.int a), .val (.int c_), .val (.double (FP.i2d a)), .second, .val (.double (FP.i2d c_)), .second, .val (.double r), .second, .val (.double ex), .second, .val (.int be)] [(.int gt1)])) t → Steps p.tables e below (s₁.setTop (entryFrame m #[(.int p0), (.int p1), (.int p2)] maxLocals)) t := by
        by_cases hc205_64 : (0 : Int32) < (cmpValue (FP.dcmp r (4607182418800017408 : UInt64)) .l)
        ·
          have a65 : ∀ t, Steps p.tables e below (T41.setTop (mkF m 213 #[.val (.int p0), .val (.int p1), .val (.int p2), .val (.int ((p0 &&& (2147483647 : Int32)) % (5 : Int32))), .val (.ref u), .val (.int hib), .val (.int a), .val (.int c_), .val (.double (FP.i2d a)), .second, .val (.double (FP.i2d c_)), .second, .val (.double r), .second, .val (.double ex), .second, .val (.int be)] [(.int (1 : Int32))])) t → Steps p.tables e below (s₁.setTop (entryFrame m #[(.int p0), (.int p1), (.int p2)] maxLocals)) t := by
            intro t k
            refine a63 t ?_
            show Steps p.tables e below (T41.setTop (mkF m 205 #[.val (.int p0), .val (.int p1), .val (.int p2), .val (.int ((p0 &&& (2147483647 : Int32)) % (5 : Int32))), .val (.ref u), .val (.int hib), .val (.int a), .val (.int c_), .val (.double (FP.i2d a)), .second, .val (.double (FP.i2d c_)), .second, .val (.double r), .second, .val (.double ex), .second, .val (.int be)] [(.int (cmpValue (FP.dcmp r (4607182418800017408 : UInt64)) .l))])) _
            refine XS.ifNo X41.here hx rfl (hb hby at_205) rfl ((if0 _ _).trans (tlt hc205_64).2.2.2) ?_
            show Steps p.tables e below (T41.setTop (mkF m 208 #[.val (.int p0), .val (.int p1), .val (.int p2), .val (.int ((p0 &&& (2147483647 : Int32)) % (5 : Int32))), .val (.ref u), .val (.int hib), .val (.int a), .val (.int c_), .val (.double (FP.i2d a)), .second, .val (.double (FP.i2d c_)), .second, .val (.double r), .second, .val (.double ex), .second, .val (.int be)] [])) _
            refine XS.iconst X41.here hx rfl (hb hby at_208) ?_
            show Steps p.tables e below (T41.setTop (mkF m 209 #[.val (.int p0), .val (.int p1), .val (.int p2), .val (.int ((p0 &&& (2147483647 : Int32)) % (5 : Int32))), .val (.ref u), .val (.int hib), .val (.int a), .val (.int c_), .val (.double (FP.i2d a)), .second, .val (.double (FP.i2d c_)), .second, .val (.double r), .second, .val (.double ex), .second, .val (.int be)] [(.int (1 : Int32))])) _
            refine XS.goto X41.here hx rfl (pc0 := 209) (pc' := 213) rfl (hb hby at_209) (by decide) (by decide) ?_
            exact k
          exact ⟨(1 : Int32), Or.inl ⟨hc205_64, rfl⟩, a65⟩
        ·
          have a66 : ∀ t, Steps p.tables e below (T41.setTop (mkF m 213 #[.val (.int p0), .val (.int p1), .val (.int p2), .val (.int ((p0 &&& (2147483647 : Int32)) % (5 : Int32))), .val (.ref u), .val (.int hib), .val (.int a), .val (.int c_), .val (.double (FP.i2d a)), .second, .val (.double (FP.i2d c_)), .second, .val (.double r), .second, .val (.double ex), .second, .val (.int be)] [(.int (0 : Int32))])) t → Steps p.tables e below (s₁.setTop (entryFrame m #[(.int p0), (.int p1), (.int p2)] maxLocals)) t := by
            intro t k
            refine a63 t ?_
            show Steps p.tables e below (T41.setTop (mkF m 205 #[.val (.int p0), .val (.int p1), .val (.int p2), .val (.int ((p0 &&& (2147483647 : Int32)) % (5 : Int32))), .val (.ref u), .val (.int hib), .val (.int a), .val (.int c_), .val (.double (FP.i2d a)), .second, .val (.double (FP.i2d c_)), .second, .val (.double r), .second, .val (.double ex), .second, .val (.int be)] [(.int (cmpValue (FP.dcmp r (4607182418800017408 : UInt64)) .l))])) _
            refine XS.ifYes X41.here hx rfl (pc0 := 205) (pc' := 212) rfl (hb hby at_205) rfl ((if0 _ _).trans (flt hc205_64).2.2.2) (by decide) (by decide) ?_
            show Steps p.tables e below (T41.setTop (mkF m 212 #[.val (.int p0), .val (.int p1), .val (.int p2), .val (.int ((p0 &&& (2147483647 : Int32)) % (5 : Int32))), .val (.ref u), .val (.int hib), .val (.int a), .val (.int c_), .val (.double (FP.i2d a)), .second, .val (.double (FP.i2d c_)), .second, .val (.double r), .second, .val (.double ex), .second, .val (.int be)] [])) _
            refine XS.iconst X41.here hx rfl (hb hby at_212) ?_
            exact k
          exact ⟨(0 : Int32), Or.inr (⟨hc205_64, rfl⟩), a66⟩
      have a68 : ∀ t, Steps p.tables e below (T41.setTop (mkF m 224 #[.val (.int p0), .val (.int p1), .val (.int p2), .val (.int ((p0 &&& (2147483647 : Int32)) % (5 : Int32))), .val (.ref u), .val (.int hib), .val (.int a), .val (.int c_), .val (.double (FP.i2d a)), .second, .val (.double (FP.i2d c_)), .second, .val (.double r), .second, .val (.double ex), .second, .val (.int be)] [(.int c_), (.int a)])) t → Steps p.tables e below (s₁.setTop (entryFrame m #[(.int p0), (.int p1), (.int p2)] maxLocals)) t := by
        intro t k
        refine a67 t ?_
        show Steps p.tables e below (T41.setTop (mkF m 213 #[.val (.int p0), .val (.int p1), .val (.int p2), .val (.int ((p0 &&& (2147483647 : Int32)) % (5 : Int32))), .val (.ref u), .val (.int hib), .val (.int a), .val (.int c_), .val (.double (FP.i2d a)), .second, .val (.double (FP.i2d c_)), .second, .val (.double r), .second, .val (.double ex), .second, .val (.int be)] [(.int gt1)])) _
        refine XS.iload X41.here hx rfl (hb hby at_213) rfl ?_
        show Steps p.tables e below (T41.setTop (mkF m 215 #[.val (.int p0), .val (.int p1), .val (.int p2), .val (.int ((p0 &&& (2147483647 : Int32)) % (5 : Int32))), .val (.ref u), .val (.int hib), .val (.int a), .val (.int c_), .val (.double (FP.i2d a)), .second, .val (.double (FP.i2d c_)), .second, .val (.double r), .second, .val (.double ex), .second, .val (.int be)] [(.int be), (.int gt1)])) _
        refine XS.icmpYes X41.here hx rfl (pc0 := 215) (pc' := 220) rfl (hb hby at_215) rfl (teq (own_bool (by rcases JG with ⟨_, rfl⟩ | ⟨_, rfl⟩ <;> simp) hb01 (by rcases JG with ⟨h, rfl⟩ | ⟨h, rfl⟩; simp [hq.1.mp h]; simp; exact fun q => h (hq.1.mpr q)))).1 (by decide) (by decide) ?_
        show Steps p.tables e below (T41.setTop (mkF m 220 #[.val (.int p0), .val (.int p1), .val (.int p2), .val (.int ((p0 &&& (2147483647 : Int32)) % (5 : Int32))), .val (.ref u), .val (.int hib), .val (.int a), .val (.int c_), .val (.double (FP.i2d a)), .second, .val (.double (FP.i2d c_)), .second, .val (.double r), .second, .val (.double ex), .second, .val (.int be)] [])) _
        refine XS.iload X41.here hx rfl (hb hby at_220) rfl ?_
        show Steps p.tables e below (T41.setTop (mkF m 222 #[.val (.int p0), .val (.int p1), .val (.int p2), .val (.int ((p0 &&& (2147483647 : Int32)) % (5 : Int32))), .val (.ref u), .val (.int hib), .val (.int a), .val (.int c_), .val (.double (FP.i2d a)), .second, .val (.double (FP.i2d c_)), .second, .val (.double r), .second, .val (.double ex), .second, .val (.int be)] [(.int a)])) _
        refine XS.iload X41.here hx rfl (hb hby at_222) rfl ?_
        exact k
      by_cases hc224_69 : a = c_
      ·
        have a70 : ∀ t, Steps p.tables e below (T41.setTop (mkF m 237 #[.val (.int p0), .val (.int p1), .val (.int p2), .val (.int ((p0 &&& (2147483647 : Int32)) % (5 : Int32))), .val (.ref u), .val (.int hib), .val (.int a), .val (.int c_), .val (.double (FP.i2d a)), .second, .val (.double (FP.i2d c_)), .second, .val (.double r), .second, .val (.double ex), .second, .val (.int be)] [(.int (1 : Int32))])) t → Steps p.tables e below (s₁.setTop (entryFrame m #[(.int p0), (.int p1), (.int p2)] maxLocals)) t := by
          intro t k
          refine a68 t ?_
          show Steps p.tables e below (T41.setTop (mkF m 224 #[.val (.int p0), .val (.int p1), .val (.int p2), .val (.int ((p0 &&& (2147483647 : Int32)) % (5 : Int32))), .val (.ref u), .val (.int hib), .val (.int a), .val (.int c_), .val (.double (FP.i2d a)), .second, .val (.double (FP.i2d c_)), .second, .val (.double r), .second, .val (.double ex), .second, .val (.int be)] [(.int c_), (.int a)])) _
          refine XS.icmpNo X41.here hx rfl (hb hby at_224) rfl (teq hc224_69).2 ?_
          show Steps p.tables e below (T41.setTop (mkF m 227 #[.val (.int p0), .val (.int p1), .val (.int p2), .val (.int ((p0 &&& (2147483647 : Int32)) % (5 : Int32))), .val (.ref u), .val (.int hib), .val (.int a), .val (.int c_), .val (.double (FP.i2d a)), .second, .val (.double (FP.i2d c_)), .second, .val (.double r), .second, .val (.double ex), .second, .val (.int be)] [])) _
          refine XS.dload X41.here hx rfl (hb hby at_227) rfl ?_
          show Steps p.tables e below (T41.setTop (mkF m 229 #[.val (.int p0), .val (.int p1), .val (.int p2), .val (.int ((p0 &&& (2147483647 : Int32)) % (5 : Int32))), .val (.ref u), .val (.int hib), .val (.int a), .val (.int c_), .val (.double (FP.i2d a)), .second, .val (.double (FP.i2d c_)), .second, .val (.double r), .second, .val (.double ex), .second, .val (.int be)] [(.double r)])) _
          refine XS.dconst1 X41.here hx rfl (hb hby at_229) (v := 4607182418800017408) rfl ?_
          show Steps p.tables e below (T41.setTop (mkF m 230 #[.val (.int p0), .val (.int p1), .val (.int p2), .val (.int ((p0 &&& (2147483647 : Int32)) % (5 : Int32))), .val (.ref u), .val (.int hib), .val (.int a), .val (.int c_), .val (.double (FP.i2d a)), .second, .val (.double (FP.i2d c_)), .second, .val (.double r), .second, .val (.double ex), .second, .val (.int be)] [(.double (4607182418800017408 : UInt64)), (.double r)])) _
          refine XS.dcmpS X41.here hx rfl (hb hby at_230) rfl rfl ?_
          show Steps p.tables e below (T41.setTop (mkF m 231 #[.val (.int p0), .val (.int p1), .val (.int p2), .val (.int ((p0 &&& (2147483647 : Int32)) % (5 : Int32))), .val (.ref u), .val (.int hib), .val (.int a), .val (.int c_), .val (.double (FP.i2d a)), .second, .val (.double (FP.i2d c_)), .second, .val (.double r), .second, .val (.double ex), .second, .val (.int be)] [(.int (cmpValue (FP.dcmp r (4607182418800017408 : UInt64)) .l))])) _
          refine XS.ifYes X41.here hx rfl (pc0 := 231) (pc' := 236) rfl (hb hby at_231) rfl ((if0 _ _).trans (teq (hq.2 hc224_69)).1) (by decide) (by decide) ?_
          show Steps p.tables e below (T41.setTop (mkF m 236 #[.val (.int p0), .val (.int p1), .val (.int p2), .val (.int ((p0 &&& (2147483647 : Int32)) % (5 : Int32))), .val (.ref u), .val (.int hib), .val (.int a), .val (.int c_), .val (.double (FP.i2d a)), .second, .val (.double (FP.i2d c_)), .second, .val (.double r), .second, .val (.double ex), .second, .val (.int be)] [])) _
          refine XS.iconst X41.here hx rfl (hb hby at_236) ?_
          exact k
        obtain ⟨fs, hr, hrun, hended, hW, hsame⟩ := X41.leave (v := some (.int (1 : Int32))) (fun h => by rw [Bd.returns] at h; cases h)
        refine ⟨_, _, a70 _ ?_, hrun, hended, _, _, rfl, ?_, ⟨_, rfl⟩, hW, hsame.mono (by decide) (by decide)⟩
        · show Steps p.tables e below (T41.setTop (mkF m 237 #[.val (.int p0), .val (.int p1), .val (.int p2), .val (.int ((p0 &&& (2147483647 : Int32)) % (5 : Int32))), .val (.ref u), .val (.int hib), .val (.int a), .val (.int c_), .val (.double (FP.i2d a)), .second, .val (.double (FP.i2d c_)), .second, .val (.double r), .second, .val (.double ex), .second, .val (.int be)] [(.int (1 : Int32))])) _
          exact retN X41 hx (t := .boolean) Bd.returns (by simp) (hb hby at_237) hr
        · show Q0 Z p0 p1 p2 w_OPS_PER_S w_ITEMS_PER_S w_WRITER_WAIT_MAX_MS w_ENTRIES_PER_S w_ROUNDS_PER_S h0 n0 _ T41.heap _
          rw [e41q]
          exact ⟨rfl, N41⟩
      ·
        have a71 : ∀ t, Steps p.tables e below (T41.setTop (mkF m 237 #[.val (.int p0), .val (.int p1), .val (.int p2), .val (.int ((p0 &&& (2147483647 : Int32)) % (5 : Int32))), .val (.ref u), .val (.int hib), .val (.int a), .val (.int c_), .val (.double (FP.i2d a)), .second, .val (.double (FP.i2d c_)), .second, .val (.double r), .second, .val (.double ex), .second, .val (.int be)] [(.int (1 : Int32))])) t → Steps p.tables e below (s₁.setTop (entryFrame m #[(.int p0), (.int p1), (.int p2)] maxLocals)) t := by
          intro t k
          refine a68 t ?_
          show Steps p.tables e below (T41.setTop (mkF m 224 #[.val (.int p0), .val (.int p1), .val (.int p2), .val (.int ((p0 &&& (2147483647 : Int32)) % (5 : Int32))), .val (.ref u), .val (.int hib), .val (.int a), .val (.int c_), .val (.double (FP.i2d a)), .second, .val (.double (FP.i2d c_)), .second, .val (.double r), .second, .val (.double ex), .second, .val (.int be)] [(.int c_), (.int a)])) _
          refine XS.icmpYes X41.here hx rfl (pc0 := 224) (pc' := 236) rfl (hb hby at_224) rfl (feq hc224_69).2 (by decide) (by decide) ?_
          show Steps p.tables e below (T41.setTop (mkF m 236 #[.val (.int p0), .val (.int p1), .val (.int p2), .val (.int ((p0 &&& (2147483647 : Int32)) % (5 : Int32))), .val (.ref u), .val (.int hib), .val (.int a), .val (.int c_), .val (.double (FP.i2d a)), .second, .val (.double (FP.i2d c_)), .second, .val (.double r), .second, .val (.double ex), .second, .val (.int be)] [])) _
          refine XS.iconst X41.here hx rfl (hb hby at_236) ?_
          exact k
        obtain ⟨fs, hr, hrun, hended, hW, hsame⟩ := X41.leave (v := some (.int (1 : Int32))) (fun h => by rw [Bd.returns] at h; cases h)
        refine ⟨_, _, a71 _ ?_, hrun, hended, _, _, rfl, ?_, ⟨_, rfl⟩, hW, hsame.mono (by decide) (by decide)⟩
        · show Steps p.tables e below (T41.setTop (mkF m 237 #[.val (.int p0), .val (.int p1), .val (.int p2), .val (.int ((p0 &&& (2147483647 : Int32)) % (5 : Int32))), .val (.ref u), .val (.int hib), .val (.int a), .val (.int c_), .val (.double (FP.i2d a)), .second, .val (.double (FP.i2d c_)), .second, .val (.double r), .second, .val (.double ex), .second, .val (.int be)] [(.int (1 : Int32))])) _
          exact retN X41 hx (t := .boolean) Bd.returns (by simp) (hb hby at_237) hr
        · show Q0 Z p0 p1 p2 w_OPS_PER_S w_ITEMS_PER_S w_WRITER_WAIT_MAX_MS w_ENTRIES_PER_S w_ROUNDS_PER_S h0 n0 _ T41.heap _
          rw [e41q]
          exact ⟨rfl, N41⟩
    ·
      have a72 : ∀ t, Steps p.tables e below (T41.setTop (mkF m 237 #[.val (.int p0), .val (.int p1), .val (.int p2), .val (.int ((p0 &&& (2147483647 : Int32)) % (5 : Int32))), .val (.ref u), .val (.int hib), .val (.int a), .val (.int c_), .val (.double (FP.i2d a)), .second, .val (.double (FP.i2d c_)), .second, .val (.double r), .second, .val (.double ex), .second, .unset] [(.int (1 : Int32))])) t → Steps p.tables e below (s₁.setTop (entryFrame m #[(.int p0), (.int p1), (.int p2)] maxLocals)) t := by
        intro t k
        refine a50 t ?_
        show Steps p.tables e below (T41.setTop (mkF m 164 #[.val (.int p0), .val (.int p1), .val (.int p2), .val (.int ((p0 &&& (2147483647 : Int32)) % (5 : Int32))), .val (.ref u), .val (.int hib), .val (.int a), .val (.int c_), .val (.double (FP.i2d a)), .second, .val (.double (FP.i2d c_)), .second, .val (.double r), .second, .val (.double ex), .second, .unset] [(.int c_)])) _
        refine XS.ifYes X41.here hx rfl (pc0 := 164) (pc' := 236) rfl (hb hby at_164) rfl ((if0 _ _).trans (flt hc164_51).2.2.2) (by decide) (by decide) ?_
        show Steps p.tables e below (T41.setTop (mkF m 236 #[.val (.int p0), .val (.int p1), .val (.int p2), .val (.int ((p0 &&& (2147483647 : Int32)) % (5 : Int32))), .val (.ref u), .val (.int hib), .val (.int a), .val (.int c_), .val (.double (FP.i2d a)), .second, .val (.double (FP.i2d c_)), .second, .val (.double r), .second, .val (.double ex), .second, .unset] [])) _
        refine XS.iconst X41.here hx rfl (hb hby at_236) ?_
        exact k
      obtain ⟨fs, hr, hrun, hended, hW, hsame⟩ := X41.leave (v := some (.int (1 : Int32))) (fun h => by rw [Bd.returns] at h; cases h)
      refine ⟨_, _, a72 _ ?_, hrun, hended, _, _, rfl, ?_, ⟨_, rfl⟩, hW, hsame.mono (by decide) (by decide)⟩
      · show Steps p.tables e below (T41.setTop (mkF m 237 #[.val (.int p0), .val (.int p1), .val (.int p2), .val (.int ((p0 &&& (2147483647 : Int32)) % (5 : Int32))), .val (.ref u), .val (.int hib), .val (.int a), .val (.int c_), .val (.double (FP.i2d a)), .second, .val (.double (FP.i2d c_)), .second, .val (.double r), .second, .val (.double ex), .second, .unset] [(.int (1 : Int32))])) _
        exact retN X41 hx (t := .boolean) Bd.returns (by simp) (hb hby at_237) hr
      · show Q0 Z p0 p1 p2 w_OPS_PER_S w_ITEMS_PER_S w_WRITER_WAIT_MAX_MS w_ENTRIES_PER_S w_ROUNDS_PER_S h0 n0 _ T41.heap _
        rw [e41q]
        exact ⟨rfl, N41⟩
  ·
    have a73 : ∀ t, Steps p.tables e below (T41.setTop (mkF m 237 #[.val (.int p0), .val (.int p1), .val (.int p2), .val (.int ((p0 &&& (2147483647 : Int32)) % (5 : Int32))), .val (.ref u), .val (.int hib), .val (.int a), .val (.int c_), .val (.double (FP.i2d a)), .second, .val (.double (FP.i2d c_)), .second, .val (.double r), .second, .val (.double ex), .second, .unset] [(.int (1 : Int32))])) t → Steps p.tables e below (s₁.setTop (entryFrame m #[(.int p0), (.int p1), (.int p2)] maxLocals)) t := by
      intro t k
      refine a48 t ?_
      show Steps p.tables e below (T41.setTop (mkF m 159 #[.val (.int p0), .val (.int p1), .val (.int p2), .val (.int ((p0 &&& (2147483647 : Int32)) % (5 : Int32))), .val (.ref u), .val (.int hib), .val (.int a), .val (.int c_), .val (.double (FP.i2d a)), .second, .val (.double (FP.i2d c_)), .second, .val (.double r), .second, .val (.double ex), .second, .unset] [(.int a)])) _
      refine XS.ifYes X41.here hx rfl (pc0 := 159) (pc' := 236) rfl (hb hby at_159) rfl ((if0 _ _).trans (flt hc159_49).2.2.2) (by decide) (by decide) ?_
      show Steps p.tables e below (T41.setTop (mkF m 236 #[.val (.int p0), .val (.int p1), .val (.int p2), .val (.int ((p0 &&& (2147483647 : Int32)) % (5 : Int32))), .val (.ref u), .val (.int hib), .val (.int a), .val (.int c_), .val (.double (FP.i2d a)), .second, .val (.double (FP.i2d c_)), .second, .val (.double r), .second, .val (.double ex), .second, .unset] [])) _
      refine XS.iconst X41.here hx rfl (hb hby at_236) ?_
      exact k
    obtain ⟨fs, hr, hrun, hended, hW, hsame⟩ := X41.leave (v := some (.int (1 : Int32))) (fun h => by rw [Bd.returns] at h; cases h)
    refine ⟨_, _, a73 _ ?_, hrun, hended, _, _, rfl, ?_, ⟨_, rfl⟩, hW, hsame.mono (by decide) (by decide)⟩
    · show Steps p.tables e below (T41.setTop (mkF m 237 #[.val (.int p0), .val (.int p1), .val (.int p2), .val (.int ((p0 &&& (2147483647 : Int32)) % (5 : Int32))), .val (.ref u), .val (.int hib), .val (.int a), .val (.int c_), .val (.double (FP.i2d a)), .second, .val (.double (FP.i2d c_)), .second, .val (.double r), .second, .val (.double ex), .second, .unset] [(.int (1 : Int32))])) _
      exact retN X41 hx (t := .boolean) Bd.returns (by simp) (hb hby at_237) hr
    · show Q0 Z p0 p1 p2 w_OPS_PER_S w_ITEMS_PER_S w_WRITER_WAIT_MAX_MS w_ENTRIES_PER_S w_ROUNDS_PER_S h0 n0 _ T41.heap _
      rw [e41q]
      exact ⟨rfl, N41⟩
set_option maxRecDepth 65536 in
set_option maxHeartbeats 40000000 in
theorem comes_1 {Post : Tables → Env → Array Value → State → Outcome → State → Prop} (hpost : ∀ tb e args s v u, (limb_1_1.after args s (.returned v) u = true ∧ limb_1_2.after args s (.returned v) u = true ∧ True) → FrameEnd s (.returned v) u (Jvm.fieldLocs frame_1_writes args s ++ Jvm.arrayLocs frame_1_arrays args s ++ Jvm.staticLocs frame_1_statics s) 0 0 → Post tb e args s (.returned v) u) :
    ArmFor flags0 classFile x code maxLocals ret World_1 tables_1 room_1 Calls_1 rest_1 Pre_1 Post := by
  intro l hfl _ _ p e ha hc hk s m args below hf hA hF happ hP
  obtain ⟨hcalls, hrest, hpre⟩ := hP
  obtain ⟨-, -, -, hnamed, -, -, -, hat⟩ := (Spec.applies_iff hf).mp happ
  obtain ⟨hg, hn⟩ := and_e (Cond.before_iff.mp (show (Jvm.Cond.and given_1 narrow_1).before args s = true from hpre))
  obtain ⟨g1, g2⟩ := and_e hg
  obtain ⟨g3, g4⟩ := and_e g2
  obtain ⟨g5, g6⟩ := and_e g4
  obtain ⟨g7, g8⟩ := and_e hn
  obtain ⟨g9, g10⟩ := and_e g8
  obtain ⟨g11, g12⟩ := and_e g10
  obtain ⟨g13, g14⟩ := and_e g12
  obtain ⟨g15, g16⟩ := and_e g14
  obtain ⟨g17, g18⟩ := and_e g16
  obtain ⟨g19, g20⟩ := and_e g18
  obtain ⟨g21, g22⟩ := and_e g20
  obtain ⟨g23, g24⟩ := and_e g22
  obtain ⟨w0, w1, w2, rfl⟩ : ∃ w0 w1 w2 : Value, args = #[w0, w1, w2] := by
    have hs : args.size = 3 := by simpa [Cond.value, given_1] using g1
    obtain ⟨L⟩ := args
    match L, hs with
    | [w0, w1, w2], _ => exact ⟨w0, w1, w2, rfl⟩
  have hw := fun d (hd : d ∈ tables_1) => atoms_spec (ws := Jvm.Cond.code x code maxLocals ret :: tables_1) hat d (List.mem_cons_of_mem _ hd)
  have hfit : Fit s := fun {y c} hc i hi => by
    obtain ⟨ha, rfl⟩ := Array.getElem?_eq_some_iff.mp hc
    have q := List.all_eq_true.mp ((Array.all_eq_true_iff_forall_mem.mp hF) _ (Array.getElem_mem ha)) i (List.mem_range.mpr hi)
    simpa [Array.getElem?_eq_getElem hi] using q
  obtain ⟨i0, ei0⟩ := is_v g3
  obtain rfl : w0 = (.int i0) := Option.some.inj ei0
  obtain ⟨i1, ei1⟩ := is_v g5
  obtain rfl : w1 = (.int i1) := Option.some.inj ei1
  obtain ⟨i2, ei2⟩ := is_v g6
  obtain rfl : w2 = (.int i2) := Option.some.inj ei2
  obtain ⟨w_OPS_PER_S, ev_OPS_PER_S⟩ := exa_v g7
  have S_OPS_PER_S := Sta.start ev_OPS_PER_S (Or.inr ⟨(hw _ (List.mem_of_getElem? (i := 2) rfl)), (hw _ (List.mem_of_getElem? (i := 3) rfl))⟩)
  have X_OPS_PER_S := Exa.start ev_OPS_PER_S g7
  have F_OPS_PER_S_higherIsBetter := eqF_int ev_OPS_PER_S g9
  obtain ⟨w_ITEMS_PER_S, ev_ITEMS_PER_S⟩ := exa_v g11
  have S_ITEMS_PER_S := Sta.start ev_ITEMS_PER_S (Or.inr ⟨(hw _ (List.mem_of_getElem? (i := 2) rfl)), (hw _ (List.mem_of_getElem? (i := 13) rfl))⟩)
  have X_ITEMS_PER_S := Exa.start ev_ITEMS_PER_S g11
  have F_ITEMS_PER_S_higherIsBetter := eqF_int ev_ITEMS_PER_S g13
  obtain ⟨w_WRITER_WAIT_MAX_MS, ev_WRITER_WAIT_MAX_MS⟩ := exa_v g15
  have S_WRITER_WAIT_MAX_MS := Sta.start ev_WRITER_WAIT_MAX_MS (Or.inr ⟨(hw _ (List.mem_of_getElem? (i := 2) rfl)), (hw _ (List.mem_of_getElem? (i := 15) rfl))⟩)
  have X_WRITER_WAIT_MAX_MS := Exa.start ev_WRITER_WAIT_MAX_MS g15
  have F_WRITER_WAIT_MAX_MS_higherIsBetter := eqF_int ev_WRITER_WAIT_MAX_MS g17
  obtain ⟨w_ENTRIES_PER_S, ev_ENTRIES_PER_S⟩ := exa_v g19
  have S_ENTRIES_PER_S := Sta.start ev_ENTRIES_PER_S (Or.inr ⟨(hw _ (List.mem_of_getElem? (i := 2) rfl)), (hw _ (List.mem_of_getElem? (i := 17) rfl))⟩)
  have X_ENTRIES_PER_S := Exa.start ev_ENTRIES_PER_S g19
  have F_ENTRIES_PER_S_higherIsBetter := eqF_int ev_ENTRIES_PER_S g21
  obtain ⟨w_ROUNDS_PER_S, ev_ROUNDS_PER_S⟩ := exa_v g23
  have S_ROUNDS_PER_S := Sta.start ev_ROUNDS_PER_S (Or.inr ⟨(hw _ (List.mem_of_getElem? (i := 2) rfl)), (hw _ (List.mem_of_getElem? (i := 19) rfl))⟩)
  have X_ROUNDS_PER_S := Exa.start ev_ROUNDS_PER_S g23
  have F_ROUNDS_PER_S_higherIsBetter := eqF_int ev_ROUNDS_PER_S g24
  obtain ⟨n, o, h1, h2, h3, _, L, rfl, ⟨rfl, N⟩, hq⟩ := rm0 l s _ hw tables_1 i0 i1 i2 w_OPS_PER_S w_ITEMS_PER_S w_WRITER_WAIT_MAX_MS w_ENTRIES_PER_S w_ROUNDS_PER_S s.heap s.heap.size (Nat.le_refl _) S_OPS_PER_S X_OPS_PER_S F_OPS_PER_S_higherIsBetter S_ITEMS_PER_S X_ITEMS_PER_S F_ITEMS_PER_S_higherIsBetter S_WRITER_WAIT_MAX_MS X_WRITER_WAIT_MAX_MS F_WRITER_WAIT_MAX_MS_higherIsBetter S_ENTRIES_PER_S X_ENTRIES_PER_S F_ENTRIES_PER_S_higherIsBetter S_ROUNDS_PER_S X_ROUNDS_PER_S F_ROUNDS_PER_S_higherIsBetter p e ha hc hk s m _ below hf ((Spec.applies_iff_loose hf).mp happ).1 ⟨rfl, State.Warmed39.refl s, rfl⟩ trivial
  refine ⟨n, _, h1, h2, h3, hpost _ _ _ _ _ _ ⟨Cond.after_iff.mpr rfl, Cond.after_iff.mpr (eq_i res_at (Term.int_eval (1)) rfl), trivial⟩ ⟨hq.1, hq.2.1, (hq.2.2.sift fun y hy => Or.inr (N y hy)).mono (by decide) (by decide)⟩⟩
theorem main_1_1 : Claimed_1_1 := comes_1 fun _ _ _ _ _ _ h hF => ⟨h.1, hF⟩
theorem main_1_2 : Claimed_1_2 := comes_1 fun _ _ _ _ _ _ h hF => ⟨h.2.1, hF⟩
end Jvm.Pilot.@@N@@
namespace Jvm.Pilot.@@N@@
open Jvm Jvm.ClassFile Sem Op Lib Jvm.Free Jvm.Stand Jvm.Pilot.@@N@@.Jvm.D
/-! MADE BY PROGRAM (witnessworld.py) out of the Statement's table words and the real class files: 12 classes; the members and pool entries that the words name. The judged class is class 1, her method 1. -/
namespace start1
open Jvm.ClassFile
def u (s : String) : CpInfo := .utf8 (stringToUtf16 s)
/-- a pool by its gaps: so many unusable entries, then the entry; so many at the end -/
def gap : Nat → List CpInfo → List CpInfo
  | 0, r => r
  | n + 1, r => .unusable :: gap n r
def poolList (es : List (Nat × CpInfo)) (last : Nat) : List CpInfo := es.foldr (fun e r => gap e.1 (e.2 :: r)) (gap last [])
def pool (es : List (Nat × CpInfo)) (last : Nat) : Array CpInfo := ⟨poolList es last⟩
def fileOf (pool : Array CpInfo) (this : Nat) (attrs : Array Attribute := #[]) (ms : Array MethodInfo := #[]) (fl : Nat := 33) (sup : Nat := 0) (ifs : Array Nat := #[]) (fds : Array FieldInfo := #[]) : ClassFile where
  minorVersion := 0
  majorVersion := 65
  constantPool := pool
  accessFlags := fl
  thisClass := this
  superClass := sup
  interfaces := ifs
  fields := fds
  methods := ms
  attributes := attrs
def plain (name : String) (sup : Option ClassId) : Class where
  name := name
  kind := .ordinary
  loader := none
  accessFlags := 33
  super := sup
  interfaces := #[]
  cf := none
  fields := #[]
  methods := #[]
  instanceTypes := #[]
  staticTypes := #[]
  resolved := #[]
  callSites := []
  init := .initialized
  statics := none
  mirror := none

def pool0 : Array CpInfo := pool [(5, u "<init>"), (0, u "()V"), (1, .class_ 10), (1, u "java/lang/Object")] 113

def k0m0 : Method := { name := "<init>", desc := "()V", sig := { parameters := [], returnType := none }, accessFlags := 1, code := none }
/-- java/lang/Object -/
def k0 : Class := { plain "java/lang/Object" none with
  accessFlags := 33
  interfaces := #[]
  cf := some (fileOf pool0 8 #[] #[{ accessFlags := 1, nameIndex := 5, descriptorIndex := 6, attributes := #[] }] 33 0 #[] #[])
  fields := #[]
  methods := #[k0m0]
  instanceTypes := #[]
  staticTypes := #[]
  resolved := Array.replicate 124 none
  statics := none }

def pool1 : Array CpInfo := pool [(2, .class_ 4), (1, u "java/lang/Object"), (0, u "<init>"), (0, u "()V"), (0, .integer 2147483647), (0, .fieldref 9 10), (0, .class_ 11), (0, .nameAndType 12 13), (0, u "org/latchwork/cli/Figure$Unit"), (0, u "OPS_PER_S"), (0, u "Lorg/latchwork/cli/Figure$Unit;"), (0, .fieldref 9 15), (0, .nameAndType 16 13), (0, u "ITEMS_PER_S"), (0, .fieldref 9 18), (0, .nameAndType 19 13), (0, u "ROUNDS_PER_S"), (0, .fieldref 9 21), (0, .nameAndType 22 13), (0, u "ENTRIES_PER_S"), (0, .fieldref 9 24), (0, .nameAndType 25 13), (0, u "WRITER_WAIT_MAX_MS"), (0, .integer 1000000), (0, .methodref 9 28), (0, .nameAndType 29 30), (0, u "ratio"), (0, u "(DD)D"), (0, .class_ 32), (0, u "org/latchwork/cli/UnitRatioPinLaw"), (2, u "law"), (0, u "(III)Z")] 7

def k1m0 : Method := { name := "<init>", desc := "()V", sig := { parameters := [], returnType := none }, accessFlags := 1, code := none }
def k1c1 : Code := { maxStack := 5, maxLocals := 17, code := code, exceptionTable := #[], attributes := #[] }
def k1m1 : Method := { name := "law", desc := "(III)Z", sig := { parameters := [.int, .int, .int], returnType := some .boolean }, accessFlags := 9, code := some k1c1 }
/-- org/latchwork/cli/UnitRatioPinLaw -/
def k1 : Class := { plain "org/latchwork/cli/UnitRatioPinLaw" (some 0) with
  accessFlags := 49
  interfaces := #[]
  cf := some (fileOf pool1 31 #[] #[{ accessFlags := 1, nameIndex := 5, descriptorIndex := 6, attributes := #[] }, { accessFlags := 9, nameIndex := 35, descriptorIndex := 36, attributes := #[] }] 49 2 #[] #[])
  fields := #[]
  methods := #[k1m0, k1m1]
  instanceTypes := #[]
  staticTypes := #[]
  resolved := Array.replicate 44 none
  statics := none }

def pool2 : Array CpInfo := pool [(1, .class_ 2), (0, u "java/lang/constant/Constable"), (0, .class_ 4), (0, u "java/lang/Object")] 6

/-- java/lang/constant/Constable -/
def k2 : Class := { plain "java/lang/constant/Constable" (some 0) with
  accessFlags := 1537
  interfaces := #[]
  cf := some (fileOf pool2 1 #[] #[] 1537 3 #[] #[])
  fields := #[]
  methods := #[]
  instanceTypes := #[]
  staticTypes := #[]
  resolved := Array.replicate 11 none
  statics := none }

def pool3 : Array CpInfo := pool [(1, .class_ 2), (0, u "java/lang/Comparable"), (0, .class_ 4), (0, u "java/lang/Object")] 7

/-- java/lang/Comparable -/
def k3 : Class := { plain "java/lang/Comparable" (some 0) with
  accessFlags := 1537
  interfaces := #[]
  cf := some (fileOf pool3 1 #[] #[] 1537 3 #[] #[])
  fields := #[]
  methods := #[]
  instanceTypes := #[]
  staticTypes := #[]
  resolved := Array.replicate 12 none
  statics := none }

def pool4 : Array CpInfo := pool [(1, .class_ 2), (0, u "java/io/Serializable"), (0, .class_ 4), (0, u "java/lang/Object")] 2

/-- java/io/Serializable -/
def k4 : Class := { plain "java/io/Serializable" (some 0) with
  accessFlags := 1537
  interfaces := #[]
  cf := some (fileOf pool4 1 #[] #[] 1537 3 #[] #[])
  fields := #[]
  methods := #[]
  instanceTypes := #[]
  staticTypes := #[]
  resolved := Array.replicate 7 none
  statics := none }

def pool5 : Array CpInfo := pool [(2, .class_ 4), (1, u "java/lang/Enum"), (0, u "name"), (0, u "Ljava/lang/String;"), (2, u "ordinal"), (0, u "I"), (1, .class_ 14), (1, u "java/lang/Object"), (4, u "hash"), (86, .class_ 108), (1, u "java/lang/Enum$EnumDesc"), (2, .class_ 112), (0, u "java/lang/constant/Constable"), (0, .class_ 114), (0, u "java/lang/Comparable"), (0, .class_ 116), (0, u "java/io/Serializable")] 87

/-- java/lang/Enum -/
def k5 : Class := { plain "java/lang/Enum" (some 0) with
  accessFlags := 1057
  interfaces := #[2, 3, 4]
  cf := some (fileOf pool5 2 #[.nestMembers #[106]] #[] 1057 12 #[111, 113, 115] #[{ accessFlags := 18, nameIndex := 5, descriptorIndex := 6, attributes := #[] }, { accessFlags := 18, nameIndex := 9, descriptorIndex := 10, attributes := #[] }, { accessFlags := 2, nameIndex := 19, descriptorIndex := 10, attributes := #[] }])
  fields := #[{ name := "name", type := (.object "java/lang/String"), accessFlags := 18, slot := 0, constantValue := 0 }, { name := "ordinal", type := .int, accessFlags := 18, slot := 1, constantValue := 0 }, { name := "hash", type := .int, accessFlags := 2, slot := 2, constantValue := 0 }]
  methods := #[]
  instanceTypes := #[(.object "java/lang/String"), .int, .int]
  staticTypes := #[]
  resolved := Array.replicate 204 none
  statics := none }

def pool6 : Array CpInfo := pool [(1, .class_ 2), (0, u "org/latchwork/cli/Figure$Unit"), (2, u "OPS_PER_S"), (0, u "Lorg/latchwork/cli/Figure$Unit;"), (2, u "ITEMS_PER_S"), (2, u "ROUNDS_PER_S"), (2, u "ENTRIES_PER_S"), (2, u "WRITER_WAIT_MAX_MS"), (2, u "$VALUES"), (0, u "[Lorg/latchwork/cli/Figure$Unit;"), (6, .class_ 31), (1, u "java/lang/Enum"), (6, .fieldref 1 39), (0, .nameAndType 40 41), (0, u "higherIsBetter"), (0, u "Z"), (36, u "ratio"), (0, u "(DD)D"), (7, .class_ 88), (0, u "org/latchwork/cli/Figure")] 2

def k6c0 : Code := { maxStack := 4, maxLocals := 5, code := prog_43_method_5_code, exceptionTable := #[], attributes := #[] }
def k6m0 : Method := { name := "ratio", desc := "(DD)D", sig := { parameters := [.double, .double], returnType := some .double }, accessFlags := 0, code := some k6c0 }
/-- org/latchwork/cli/Figure$Unit -/
def k6 : Class := { plain "org/latchwork/cli/Figure$Unit" (some 5) with
  accessFlags := 16432
  interfaces := #[]
  cf := some (fileOf pool6 1 #[.nestHost 87] #[{ accessFlags := 0, nameIndex := 78, descriptorIndex := 79, attributes := #[] }] 16432 29 #[] #[{ accessFlags := 16409, nameIndex := 5, descriptorIndex := 6, attributes := #[] }, { accessFlags := 16409, nameIndex := 9, descriptorIndex := 6, attributes := #[] }, { accessFlags := 16409, nameIndex := 12, descriptorIndex := 6, attributes := #[] }, { accessFlags := 16409, nameIndex := 15, descriptorIndex := 6, attributes := #[] }, { accessFlags := 16409, nameIndex := 18, descriptorIndex := 6, attributes := #[] }, { accessFlags := 18, nameIndex := 40, descriptorIndex := 41, attributes := #[] }, { accessFlags := 4122, nameIndex := 21, descriptorIndex := 22, attributes := #[] }])
  fields := #[{ name := "OPS_PER_S", type := (.object "org/latchwork/cli/Figure$Unit"), accessFlags := 16409, slot := 0, constantValue := 0 }, { name := "ITEMS_PER_S", type := (.object "org/latchwork/cli/Figure$Unit"), accessFlags := 16409, slot := 1, constantValue := 0 }, { name := "ROUNDS_PER_S", type := (.object "org/latchwork/cli/Figure$Unit"), accessFlags := 16409, slot := 2, constantValue := 0 }, { name := "ENTRIES_PER_S", type := (.object "org/latchwork/cli/Figure$Unit"), accessFlags := 16409, slot := 3, constantValue := 0 }, { name := "WRITER_WAIT_MAX_MS", type := (.object "org/latchwork/cli/Figure$Unit"), accessFlags := 16409, slot := 4, constantValue := 0 }, { name := "higherIsBetter", type := .boolean, accessFlags := 18, slot := 3, constantValue := 0 }, { name := "$VALUES", type := (.array (.object "org/latchwork/cli/Figure$Unit")), accessFlags := 4122, slot := 5, constantValue := 0 }]
  methods := #[k6m0]
  instanceTypes := #[(.object "java/lang/String"), .int, .int, .boolean]
  staticTypes := #[(.object "org/latchwork/cli/Figure$Unit"), (.object "org/latchwork/cli/Figure$Unit"), (.object "org/latchwork/cli/Figure$Unit"), (.object "org/latchwork/cli/Figure$Unit"), (.object "org/latchwork/cli/Figure$Unit"), (.array (.object "org/latchwork/cli/Figure$Unit"))]
  resolved := Array.replicate 91 none
  statics := some 0 }

def pool7 : Array CpInfo := pool [(1, u "java/lang/Cloneable"), (0, .class_ 1), (0, u "java/lang/Object"), (0, .class_ 3)] 3

/-- java/lang/Cloneable -/
def k7 : Class := { plain "java/lang/Cloneable" (some 0) with
  accessFlags := 1537
  interfaces := #[]
  cf := some (fileOf pool7 2 #[] #[] 1537 4 #[] #[])
  fields := #[]
  methods := #[]
  instanceTypes := #[]
  staticTypes := #[]
  resolved := Array.replicate 8 none
  statics := none }

/-- the primitive byte -/
def k8 : Class := { plain "byte" none with kind := .primitive 'B', accessFlags := 0x411 }
/-- [B -/
def k9 : Class := { plain "[B" (some 0) with kind := .array 8 .byte, interfaces := #[7, 4], accessFlags := 1041 }

/-- the primitive int -/
def k10 : Class := { plain "int" none with kind := .primitive 'I', accessFlags := 0x411 }
/-- [I -/
def k11 : Class := { plain "[I" (some 0) with kind := .array 10 .int, interfaces := #[7, 4], accessFlags := 1041 }

def heap : Heap := #[{ cls := 6, slots := #[.ref 1, .ref 2, .ref 5, .ref 4, .ref 3, .null], vm := .statics 6 },
  { cls := 6, slots := #[.null, .int 0, .int 0, .int 1], vm := .none },
  { cls := 6, slots := #[.null, .int 1, .int 0, .int 1], vm := .none },
  { cls := 6, slots := #[.null, .int 2, .int 0, .int 0], vm := .none },
  { cls := 6, slots := #[.null, .int 3, .int 0, .int 1], vm := .none },
  { cls := 6, slots := #[.null, .int 4, .int 0, .int 1], vm := .none }]
def classes : Array Class := #[k0, k1, k2, k3, k4, k5, k6, k7, k8, k9, k10, k11]
def interned : List (Array UInt16 × Addr) := []
def slotsUsed : Nat := 26
def theMethod : MethodId := ⟨1, 1⟩
def args0 : Array Value := #[.int 7, .int 5, .int 3]
def aboutOver (below : List Frame) : State where
  vm := { classes := classes, interned := interned.toArray }
  heap := heap
  slotsUsed := slotsUsed
  threads := #[{ frames := .invoking theMethod args0 :: below }]
def below0 : List Frame := [.native { method := ⟨0, 0⟩, args := #[] }]
def about1 : State := aboutOver below0
def p0 : Program := .bare "" "" ""
def e0 : Env := launch0.env 0 0 0
theorem w_frames : about1.frames = Frame.invoking theMethod args0 :: below0 := rfl
set_option maxRecDepth 65536 in
theorem w_args : argsFit about1.vm theMethod args0 = true := by decide +kernel
set_option maxRecDepth 65536 in
theorem w_heap : heapFits about1 = true := by decide +kernel
set_option maxRecDepth 65536 in
theorem w_runnable : about1.curStatus? = some .runnable := by decide +kernel
set_option maxRecDepth 65536 in
theorem w_alone : about1.alone = true := by decide +kernel
set_option maxRecDepth 65536 in
theorem w_named : about1.methodNamed? x = some theMethod := by decide +kernel
set_option maxRecDepth 65536 in
theorem w_hears : about1.hears theMethod below0 = true := by decide +kernel
set_option maxRecDepth 65536 in
theorem w_ripe : about1.ripe theMethod args0 below0 = true := by decide +kernel
theorem w_running : about1.status = .running := rfl
set_option maxRecDepth 65536 in
theorem w_room : about1.hasRoom e0.platform room_1 = true :=
  launch0.hasRoom_least _ room_1 (by decide +kernel) (by decide +kernel) (by decide +kernel) (by decide +kernel) (by decide +kernel) (by decide +kernel)
theorem allAtoms_all (ts : List Jvm.Cond) (a : Array Jvm.Value) (st : Jvm.State) : (allAtoms ts).before a st = ts.all (fun c => c.before a st) := by
  induction ts with
  | nil => rfl
  | cons c t ih =>
    show (Jvm.Cond.and c (allAtoms t)).before a st = _
    rw [Jvm.Cond.before_and, ih, List.all_cons]
def words1 : List Jvm.Cond := Jvm.Cond.code x code maxLocals ret :: tables_1
/-- a 'code' word, met by the world's own term for the bytes: nothing is compared byte by byte -/
theorem code_word {y : MethodName} {bytes : ByteArray} {mx : Nat} {rt : Option FieldType} {a : Array Value} {s : State} {m : MethodId} {meth : Method} {c : Code} (h1 : s.methodNamed? y = some m) (h2 : s.vm.method? m = some meth) (h3 : meth.code = some c) (h4 : c.code = bytes)
    (h5 : (c.maxLocals == mx && c.exceptionTable.isEmpty && decide (c.maxStack ≤ mostOperands) && decide (meth.sig.returnType = rt) && !meth.locks && decide (parseMethodDescriptor y.desc = some meth.sig)) = true) : (Jvm.Cond.code y bytes mx rt).before a s = true := by
  simp only [Bool.and_eq_true, beq_iff_eq, Bool.not_eq_true', decide_eq_true_eq] at h5
  obtain ⟨⟨⟨⟨⟨g1, g2⟩, g3⟩, g4⟩, g5⟩, g6⟩ := h5
  simp [Cond.before, Cond.holds, Cond.value, h1, h2, h3, h4, g1, g2, g3, g4, g5, g6]
def isCode : Jvm.Cond → Bool
  | .code _ _ _ _ => true
  | _ => false
theorem all_split {L : List Jvm.Cond} {P : Jvm.Cond → Bool} (h1 : L.all (fun c => isCode c || P c) = true) (h2 : ∀ c ∈ L.filter isCode, P c = true) : L.all P = true := by
  refine List.all_eq_true.mpr fun c hc => ?_
  have h := List.all_eq_true.mp h1 c hc
  rcases Bool.eq_false_or_eq_true (isCode c) with hi | hi
  · exact h2 c (List.mem_filter.mpr ⟨hc, hi⟩)
  · simpa [hi] using h
set_option maxRecDepth 65536 in
theorem w_c0 : (Jvm.Cond.code x code maxLocals ret).before args0 about1 = true := code_word (m := ⟨1, 1⟩) (meth := k1m1) (c := k1c1) (by decide +kernel) rfl rfl rfl (by decide +kernel)
set_option maxRecDepth 65536 in
theorem w_c1 : (Jvm.Cond.code ({ cls := "org/latchwork/cli/Figure$Unit", name := "ratio", desc := "(DD)D" } : Jvm.MethodName) prog_43_method_5_code (5 : Nat) (Option.some Jvm.ClassFile.FieldType.double)).before args0 about1 = true := code_word (m := ⟨6, 0⟩) (meth := k6m0) (c := k6c0) (by decide +kernel) rfl rfl rfl (by decide +kernel)
def codes1 : List Jvm.Cond := [Jvm.Cond.code x code maxLocals ret, Jvm.Cond.code ({ cls := "org/latchwork/cli/Figure$Unit", name := "ratio", desc := "(DD)D" } : Jvm.MethodName) prog_43_method_5_code (5 : Nat) (Option.some Jvm.ClassFile.FieldType.double)]
set_option maxRecDepth 65536 in
theorem codes_eq : words1.filter isCode = codes1 := rfl
theorem w_codes : ∀ c ∈ words1.filter isCode, c.before args0 about1 = true := by
  rw [codes_eq]
  intro c hc
  simp only [codes1, List.mem_cons, List.not_mem_nil, or_false] at hc
  rcases hc with rfl | rfl
  · exact w_c0
  · exact w_c1
set_option maxRecDepth 65536 in
theorem w_t1 : words1.all (fun c => isCode c || c.before args0 about1) = true := by decide +kernel
theorem w_tables : (allAtoms (Jvm.Cond.code x code maxLocals ret :: tables_1)).before args0 about1 = true := by
  rw [allAtoms_all]
  show words1.all (fun c => c.before args0 about1) = true
  refine all_split ?_ w_codes
  rw [w_t1]
set_option maxRecDepth 65536 in
theorem w_case : (Jvm.Cond.and given_1 narrow_1).before args0 about1 = true := by decide +kernel
theorem w_applies : (headSpec (Jvm.Cond.code x code maxLocals ret :: tables_1) room_1).applies x e0.platform about1 = true :=
  (Spec.applies_iff w_frames).mpr ⟨w_running, w_runnable, w_alone, w_named, w_hears, w_ripe, w_room, w_tables⟩
theorem atStart : AtStart classFile x code maxLocals ret World_1 tables_1 room_1 Calls_1 rest_1 Pre_1 launch0 p0 e0 about1 theMethod args0 below0 :=
  ⟨lists_1, trivial, launch0.admits_env _ _ _, launch0.least_env, fairChoices_fair.cas, fairChoices_fair.clock, w_frames, w_args, w_heap, w_applies, trivial, trivial, w_case⟩
end start1
theorem witness_1 : WitnessClaimed_1 := ⟨start1.p0, start1.e0, start1.about1, start1.theMethod, start1.args0, start1.below0, start1.atStart⟩
end Jvm.Pilot.@@N@@
