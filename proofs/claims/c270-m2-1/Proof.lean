import JvmDerived
import JvmDerived.Pilot.@@N@@Statement
import JvmDerived.Pilot.@@N@@Code
set_option linter.unusedVariables false
set_option linter.unusedSimpArgs false
namespace Jvm.OwnFP
open Jvm.FP.Core
/-! own layer over the library's laws of doubles: values in units of the least double (zval), dyadic values, rounding bounds -/
abbrev zv (a : UInt64) : Int := zval b64 (val64 a)
theorem U_pos : (0 : Int) < (one64 : Int) := by have := one64_pos; omega
theorem signed_bd (s : Bool) (m : Nat) : -(m : Int) ≤ signed s m ∧ signed s m ≤ (m : Int) := by unfold signed; split <;> omega
theorem zv_bd (a : UInt64) : -(zmag b64 (val64 a) : Int) ≤ zv a ∧ zv a ≤ (zmag b64 (val64 a) : Int) := signed_bd _ _
theorem fin_between {a V W : UInt64} (hV : DFin V) (hW : DFin W) (hn : val64 a ≠ .nan) (h1 : zv W ≤ zv a) (h2 : zv a ≤ zv V) : DFin a := by
  cases hd : val64 a with
  | nan => exact absurd hd hn
  | fin s c q => exact ⟨s, c, q, hd⟩
  | inf s =>
    exfalso
    have a1 := hV.zval_lt; have a2 := hW.zval_lt
    have b1 := zv_bd V; have b2 := zv_bd W
    have e : zv a = signed s (b64.tails * 2 ^ (b64.exps - 2)) := by show zval b64 (val64 a) = _; rw [hd]; rfl
    generalize b64.tails * 2 ^ (b64.exps - 2) = TOP at a1 a2 e
    cases s
    · have : zv a = (TOP : Int) := e
      omega
    · have : zv a = -(TOP : Int) := e
      omega
theorem qmax_b64 : b64.qmax = 971 := by decide
theorem rep_exists (n : Int) (k : Nat) (hk : k ≤ 1074) (hn : n.natAbs < 2 ^ 53) : ∃ V, DFin V ∧ zv V * 2 ^ k = n * (one64 : Int) := by
  obtain ⟨c', q', h1, h2⟩ := round_exact (f := b64) good_b64 (decide (n < 0)) (c := n.natAbs) (q := -(k : Int)) hn (by rw [qmin_b64]; omega) (by rw [qmax_b64]; omega)
  have hf := round_fits good_b64 (.fin (decide (n < 0)) n.natAbs (-(k : Int)))
  have hv := val64_of64 hf
  rw [h1] at hv
  refine ⟨of64 (round b64 (.fin (decide (n < 0)) n.natAbs (-(k : Int)))), ⟨_, _, _, by rw [h1]; exact hv⟩, ?_⟩
  show zval b64 (val64 (of64 (round b64 (.fin (decide (n < 0)) n.natAbs (-(k : Int)))))) * 2 ^ k = _
  rw [h1, hv]
  show signed (decide (n < 0)) (inUnits c' q' b64.qmin) * 2 ^ k = _
  rw [h2]
  have e1 : inUnits n.natAbs (-(k : Int)) b64.qmin * 2 ^ k = n.natAbs * one64 := by
    unfold inUnits one64
    rw [qmin_b64, Nat.mul_assoc, ← Nat.pow_add]
    congr 2 <;> omega
  have e2 : signed (decide (n < 0)) (inUnits n.natAbs (-(k : Int)) b64.qmin) * ((2 ^ k : Nat) : Int) = signed (decide (n < 0)) n.natAbs * (one64 : Int) := by
    rw [← signed_mul, e1, signed_mul]
  have e3 : signed (decide (n < 0)) n.natAbs = n := by
    unfold signed
    by_cases h : n < 0
    · simp [h]; omega
    · simp [h]; omega
  rw [e3] at e2
  rw [← e2, Int.natCast_pow]; rfl
theorem rep_up (n : Int) (j : Nat) (hj : j ≤ 971) (hn : n.natAbs < 2 ^ 53) : ∃ V, DFin V ∧ zv V = n * 2 ^ j * (one64 : Int) := by
  obtain ⟨c', q', h1, h2⟩ := round_exact (f := b64) good_b64 (decide (n < 0)) (c := n.natAbs) (q := (j : Int)) hn (by rw [qmin_b64]; omega) (by rw [qmax_b64]; omega)
  have hf := round_fits good_b64 (.fin (decide (n < 0)) n.natAbs (j : Int))
  have hv := val64_of64 hf
  rw [h1] at hv
  refine ⟨of64 (round b64 (.fin (decide (n < 0)) n.natAbs (j : Int))), ⟨_, _, _, by rw [h1]; exact hv⟩, ?_⟩
  show zval b64 (val64 (of64 (round b64 (.fin (decide (n < 0)) n.natAbs (j : Int))))) = _
  rw [h1, hv]
  show signed (decide (n < 0)) (inUnits c' q' b64.qmin) = _
  rw [h2]
  have e1 : inUnits n.natAbs (j : Int) b64.qmin = n.natAbs * (2 ^ j * one64) := by
    unfold inUnits one64
    rw [qmin_b64, ← Nat.pow_add]
    congr 2 <;> omega
  have e3 : signed (decide (n < 0)) n.natAbs = n := by
    unfold signed
    by_cases h : n < 0
    · simp [h]; omega
    · simp [h]; omega
  rw [e1, signed_mul, e3, Int.natCast_mul, Int.natCast_pow, Int.mul_assoc]; rfl
/-- the double is finite and worth n / 2^k -/
def Dy (n : Int) (k : Nat) (a : UInt64) : Prop := DFin a ∧ zv a * 2 ^ k = n * (one64 : Int)
theorem two_pos (k : Nat) : (0 : Int) < 2 ^ k := Int.pow_pos (by decide)
theorem Dy.fin {n : Int} {k : Nat} {a : UInt64} (h : Dy n k a) : DFin a := h.1
theorem Dy.nn {n : Int} {k : Nat} {a : UInt64} (h : Dy n k a) : val64 a ≠ .nan := h.1.ne_nan
theorem dint_fin {i : Int} {a : UInt64} (h : DInt i a) : DFin a := by
  unfold DInt at h
  cases hd : val64 a with
  | nan => rw [hd] at h; exact h.elim
  | inf s => rw [hd] at h; exact h.elim
  | fin s c q => exact ⟨s, c, q, hd⟩
theorem Dy.of_int {i : Int} {a : UInt64} (h : DInt i a) : Dy i 0 a := ⟨dint_fin h, by rw [show zv a = i * (one64 : Int) from DInt_zval h]; simp⟩
theorem dy_i2d (a : Int32) : Dy a.toInt 0 (i2d a) := Dy.of_int (i2d_int a)
theorem dy_l2d {a : Int64} (h : a.toInt.natAbs ≤ 2 ^ 53) : Dy a.toInt 0 (l2d a) := Dy.of_int (l2d_int h)
theorem dy_zero : Dy 0 0 0 := ⟨⟨_, _, _, val64_zero⟩, by rw [show zv 0 = 0 from zval64_zero]; simp⟩
theorem dy_one : Dy 1 0 4607182418800017408 := Dy.of_int dint_one
theorem Dy.up {n : Int} {k : Nat} {a : UInt64} (h : Dy n k a) (j : Nat) : Dy (n * 2 ^ j) (k + j) a := ⟨h.1, by rw [Int.pow_add, ← Int.mul_assoc, h.2]; (generalize one64 = U; ac_rfl)⟩
theorem cancel {x y : Int} {k : Nat} (h : x * 2 ^ k = y * 2 ^ k) : x = y := Int.eq_of_mul_eq_mul_right (Int.ne_of_gt (two_pos k)) h
theorem Dy.eq {n : Int} {k : Nat} {a b : UInt64} (ha : Dy n k a) (hb : Dy n k b) : zv a = zv b := cancel (ha.2.trans hb.2.symm)
theorem val_dneg (a : UInt64) (h : val64 a ≠ .nan) : val64 (Jvm.FP.dneg a) = negate (val64 a) := by
  refine val64_neg_bits ?_
  have hx : (Jvm.FP.dneg a).toNat = a.toNat ^^^ 2 ^ 63 := by
    show (a ^^^ 0x8000000000000000).toNat = _
    rw [UInt64.toNat_xor]; rfl
  have hlt := a.toNat_lt
  by_cases hb : a.toNat < 2 ^ 63
  · right
    rw [hx, Nat.xor_comm]
    have := Nat.two_pow_add_eq_or_of_lt hb 1
    have e2 : (2 ^ 63 ^^^ a.toNat) = 2 ^ 63 + a.toNat := by
      rw [Nat.mul_one] at this
      rw [this]
      apply Nat.eq_of_testBit_eq; intro i
      simp only [Nat.testBit_xor, Nat.testBit_or, Nat.testBit_two_pow]
      by_cases q : 63 = i
      · subst q; simp [Nat.testBit_lt_two_pow hb]
      · simp [q]
    omega
  · left
    have hb' : a.toNat - 2 ^ 63 < 2 ^ 63 := by omega
    have := Nat.two_pow_add_eq_or_of_lt hb' 1
    rw [Nat.mul_one] at this
    have e0 : a.toNat = 2 ^ 63 ||| (a.toNat - 2 ^ 63) := by omega
    have e2 : a.toNat ^^^ 2 ^ 63 = a.toNat - 2 ^ 63 := by
      apply Nat.eq_of_testBit_eq; intro i
      rw [Nat.testBit_xor, Nat.testBit_two_pow]
      have t := congrArg (fun z => z.testBit i) e0
      simp only [Nat.testBit_or, Nat.testBit_two_pow] at t
      rw [t]
      by_cases q : 63 = i
      · subst q; simp [Nat.testBit_lt_two_pow hb']
      · simp [q]
    omega
theorem dneg_fin {a : UInt64} (h : DFin a) : DFin (Jvm.FP.dneg a) := by
  obtain ⟨s, c, q, e⟩ := h
  exact ⟨!s, c, q, by rw [val_dneg a (by rw [e]; exact nofun), e]; rfl⟩
theorem dneg_zv {a : UInt64} (h : val64 a ≠ .nan) : zv (Jvm.FP.dneg a) = -zv a := by
  show zval b64 (val64 (Jvm.FP.dneg a)) = _
  rw [val_dneg a h, zval_negate]
theorem dy_neg {n : Int} {k : Nat} {a : UInt64} (h : Dy n k a) : Dy (-n) k (Jvm.FP.dneg a) := ⟨dneg_fin h.1, by rw [dneg_zv h.nn, Int.neg_mul, h.2, Int.neg_mul]⟩
theorem cneg_fin {a : UInt64} (h : DFin a) : DFin (dneg a) := by
  obtain ⟨s, c, q, e⟩ := h
  exact ⟨!s, c, q, by rw [val64_dneg, e]; rfl⟩
theorem cneg_zv (a : UInt64) : zv (dneg a) = -zv a := by
  show zval b64 (val64 (dneg a)) = _
  rw [val64_dneg, zval_negate]
-- sums
theorem add_nn {a b : UInt64} (ha : DFin a) (hb : DFin b) : val64 (dadd a b) ≠ .nan := (notNaN_iff _).mp (dadd_out ha.notNaN hb)
theorem add_le {a b V : UInt64} (ha : DFin a) (hb : DFin b) (hV : val64 V ≠ .nan) (h : zv a + zv b ≤ zv V) : zv (dadd a b) ≤ zv V := by
  show zval b64 (val64 (dadd a b)) ≤ _
  rw [val64_dadd]
  exact sum_le good_b64 ha hb (val64_fits a) (val64_fits b) (val64_fits V) hV h
theorem add_ge {a b V : UInt64} (ha : DFin a) (hb : DFin b) (hV : val64 V ≠ .nan) (h : zv V ≤ zv a + zv b) : zv V ≤ zv (dadd a b) := by
  show _ ≤ zval b64 (val64 (dadd a b))
  rw [val64_dadd]
  exact sum_ge good_b64 ha hb (val64_fits a) (val64_fits b) (val64_fits V) hV h
theorem add_exact {a b V : UInt64} (ha : DFin a) (hb : DFin b) (hV : DFin V) (h : zv a + zv b = zv V) : DFin (dadd a b) ∧ zv (dadd a b) = zv V := by
  have h1 := add_le ha hb hV.ne_nan (Int.le_of_eq h)
  have h2 := add_ge ha hb hV.ne_nan (Int.le_of_eq h.symm)
  exact ⟨fin_between hV hV (add_nn ha hb) h2 h1, Int.le_antisymm h1 h2⟩
theorem dy_add {n m : Int} {k : Nat} {a b : UInt64} (ha : Dy n k a) (hb : Dy m k b) (hk : k ≤ 1074) (h : (n + m).natAbs < 2 ^ 53) : Dy (n + m) k (dadd a b) := by
  obtain ⟨V, hV, e⟩ := rep_exists (n + m) k hk h
  have q : zv a + zv b = zv V := cancel (k := k) (by rw [Int.add_mul, ha.2, hb.2, e, Int.add_mul])
  obtain ⟨h1, h2⟩ := add_exact ha.1 hb.1 hV q
  exact ⟨h1, by rw [h2]; exact e⟩
theorem dy_sub {n m : Int} {k : Nat} {a b : UInt64} (ha : Dy n k a) (hb : Dy m k b) (hk : k ≤ 1074) (h : (n - m).natAbs < 2 ^ 53) : Dy (n - m) k (dsub a b) := by
  rw [dsub_eq]
  have hb' : Dy (-m) k (dneg b) := ⟨cneg_fin hb.1, by rw [cneg_zv, Int.neg_mul, hb.2, Int.neg_mul]⟩
  have := dy_add ha hb' hk (by rw [← Int.sub_eq_add_neg]; exact h)
  rw [← Int.sub_eq_add_neg] at this; exact this
-- products
theorem mul_nn {a b : UInt64} (ha : DFin a) (hb : DFin b) : val64 (dmul a b) ≠ .nan := (notNaN_iff _).mp (dmul_out ha hb)
theorem mul_units {a b : UInt64} (ha : DFin a) (hb : DFin b) : ∃ s c q, exactProduct (val64 a) (val64 b) = .fin s c q ∧ 2 * b64.qmin ≤ q ∧ signed s (inUnits c q (2 * b64.qmin)) = zv a * zv b := by
  obtain ⟨s, c, q, ea⟩ := ha
  obtain ⟨t, d, r, eb⟩ := hb
  have fa := val64_fits a; have fb := val64_fits b
  rw [ea] at fa; rw [eb] at fb
  obtain ⟨h1, h2, h3⟩ := product_units fa fb
  refine ⟨_, _, _, by rw [ea, eb]; exact h1, h2, ?_⟩
  rw [h3, signed_xor]
  show _ = zval b64 (val64 a) * zval b64 (val64 b)
  rw [ea, eb]; rfl
theorem two_qmin : (b64.qmin - 2 * b64.qmin).toNat = (-b64.qmin).toNat := by congr 1 <;> omega
theorem mul_le {a b V : UInt64} (ha : DFin a) (hb : DFin b) (hV : val64 V ≠ .nan) (h : zv a * zv b ≤ zv V * (one64 : Int)) : zv (dmul a b) ≤ zv V := by
  obtain ⟨s, c, q, e1, e2, e3⟩ := mul_units ha hb
  show zval b64 (val64 (dmul a b)) ≤ zval b64 (val64 V)
  rw [val64_dmul, e1]
  refine zval_round_le good_b64 (val64_fits V) hV (e0 := 2 * b64.qmin) (by rw [qmin_b64]; decide) e2 ?_
  rw [e3, two_qmin, pow_qmin64]; exact h
theorem mul_ge {a b V : UInt64} (ha : DFin a) (hb : DFin b) (hV : val64 V ≠ .nan) (h : zv V * (one64 : Int) ≤ zv a * zv b) : zv V ≤ zv (dmul a b) := by
  obtain ⟨s, c, q, e1, e2, e3⟩ := mul_units ha hb
  show zval b64 (val64 V) ≤ zval b64 (val64 (dmul a b))
  rw [val64_dmul, e1]
  refine zval_round_ge good_b64 (val64_fits V) hV (e0 := 2 * b64.qmin) (by rw [qmin_b64]; decide) e2 ?_
  rw [e3, two_qmin, pow_qmin64]; exact h
theorem mul_exact {a b V : UInt64} (ha : DFin a) (hb : DFin b) (hV : DFin V) (h : zv a * zv b = zv V * (one64 : Int)) : DFin (dmul a b) ∧ zv (dmul a b) = zv V := by
  have h1 := mul_le ha hb hV.ne_nan (Int.le_of_eq h)
  have h2 := mul_ge ha hb hV.ne_nan (Int.le_of_eq h.symm)
  exact ⟨fin_between hV hV (mul_nn ha hb) h2 h1, Int.le_antisymm h1 h2⟩
theorem dy_mul {n m : Int} {k j : Nat} {a b : UInt64} (ha : Dy n k a) (hb : Dy m j b) (hk : k + j ≤ 1074) (h : (n * m).natAbs < 2 ^ 53) : Dy (n * m) (k + j) (dmul a b) := by
  obtain ⟨V, hV, e⟩ := rep_exists (n * m) (k + j) hk h
  have q : zv a * zv b = zv V * (one64 : Int) := cancel (k := k + j) (by
    have : zv a * zv b * 2 ^ (k + j) = (zv a * 2 ^ k) * (zv b * 2 ^ j) := by rw [Int.pow_add]; (generalize one64 = U; ac_rfl)
    rw [this, ha.2, hb.2, show zv V * (one64 : Int) * 2 ^ (k + j) = zv V * 2 ^ (k + j) * (one64 : Int) by (generalize one64 = U; ac_rfl), e]; (generalize one64 = U; ac_rfl))
  obtain ⟨h1, h2⟩ := mul_exact ha.1 hb.1 hV q
  exact ⟨h1, by rw [h2]; exact e⟩
-- quotients
theorem nz_of {b : UInt64} (hb : DFin b) (h : zv b ≠ 0) : ¬ DZero b := fun q => h q.zval
theorem div_nn {a b : UInt64} (ha : DFin a) (hb : DFin b) (h : zv b ≠ 0) : val64 (ddiv a b) ≠ .nan := (notNaN_iff _).mp (ddiv_out ha.notNaN hb (nz_of hb h))
theorem div_pows {q r e0 : Int} (hq : b64.qmin ≤ q) (hr : b64.qmin ≤ r) (h0 : e0 ≤ b64.qmin) (h1 : e0 ≤ q - r) :
    2 ^ (q - r - e0).toNat * 2 ^ (r - b64.qmin).toNat = 2 ^ (q - b64.qmin).toNat * one64 * 2 ^ (b64.qmin - e0).toNat := by
  unfold one64
  rw [← Nat.pow_add, ← Nat.pow_add, ← Nat.pow_add]
  rw [qmin_b64] at *
  congr 1 <;> omega
theorem div_val {a b : UInt64} {s t : Bool} {c d : Nat} {q r : Int} (ea : val64 a = .fin s c q) (eb : val64 b = .fin t d r) (hd : d ≠ 0) : val64 (ddiv a b) = roundRatio b64 (s != t) c d (q - r) := by
  rw [val64_ddiv, ea, eb]
  simp [quotient, hd]
theorem div_mag_le {a b V : UInt64} (ha : DFin a) (hb : DFin b) (hz : zmag b64 (val64 b) ≠ 0) (hV : val64 V ≠ .nan) (h : zmag b64 (val64 a) * one64 ≤ zmag b64 (val64 V) * zmag b64 (val64 b)) : zmag b64 (val64 (ddiv a b)) ≤ zmag b64 (val64 V) := by
  obtain ⟨s, c, q, ea⟩ := ha
  obtain ⟨t, d, r, eb⟩ := hb
  have fa := val64_fits a; have fb := val64_fits b
  rw [ea] at fa; rw [eb] at fb
  have za : zmag b64 (val64 a) = c * 2 ^ (q - b64.qmin).toNat := by rw [ea]; rfl
  have zb : zmag b64 (val64 b) = d * 2 ^ (r - b64.qmin).toNat := by rw [eb]; rfl
  have hd : d ≠ 0 := fun q => hz (by rw [zb, q, Nat.zero_mul])
  rw [div_val ea eb hd]
  have hp := div_pows (e0 := min b64.qmin (q - r)) fa.2.1 fb.2.1 (by omega) (by omega)
  refine zmag_roundRatio_le good_b64 (Nat.pos_of_ne_zero hd) (val64_fits V) hV (e0 := min b64.qmin (q - r)) (by omega) (by omega) ?_
  rw [za, zb] at h
  generalize zmag b64 (val64 V) = v at h ⊢
  unfold inUnits
  refine Nat.le_of_mul_le_mul_right (c := 2 ^ (r - b64.qmin).toNat) ?_ (Nat.two_pow_pos _)
  rw [Nat.mul_assoc, hp]
  have := Nat.mul_le_mul_right (2 ^ (b64.qmin - min b64.qmin (q - r)).toNat) h
  calc c * (2 ^ (q - b64.qmin).toNat * one64 * 2 ^ (b64.qmin - min b64.qmin (q - r)).toNat) = c * 2 ^ (q - b64.qmin).toNat * one64 * 2 ^ (b64.qmin - min b64.qmin (q - r)).toNat := by (generalize one64 = U; ac_rfl)
    _ ≤ _ := this
    _ = v * 2 ^ (b64.qmin - min b64.qmin (q - r)).toNat * d * 2 ^ (r - b64.qmin).toNat := by (generalize one64 = U; ac_rfl)
theorem div_mag_ge {a b V : UInt64} (ha : DFin a) (hb : DFin b) (hz : zmag b64 (val64 b) ≠ 0) (hV : val64 V ≠ .nan) (h : zmag b64 (val64 V) * zmag b64 (val64 b) ≤ zmag b64 (val64 a) * one64) : zmag b64 (val64 V) ≤ zmag b64 (val64 (ddiv a b)) := by
  obtain ⟨s, c, q, ea⟩ := ha
  obtain ⟨t, d, r, eb⟩ := hb
  have fa := val64_fits a; have fb := val64_fits b
  rw [ea] at fa; rw [eb] at fb
  have za : zmag b64 (val64 a) = c * 2 ^ (q - b64.qmin).toNat := by rw [ea]; rfl
  have zb : zmag b64 (val64 b) = d * 2 ^ (r - b64.qmin).toNat := by rw [eb]; rfl
  have hd : d ≠ 0 := fun q => hz (by rw [zb, q, Nat.zero_mul])
  rw [div_val ea eb hd]
  have hp := div_pows (e0 := min b64.qmin (q - r)) fa.2.1 fb.2.1 (by omega) (by omega)
  refine zmag_roundRatio_ge good_b64 (Nat.pos_of_ne_zero hd) (val64_fits V) (e0 := min b64.qmin (q - r)) (by omega) (by omega) ?_
  rw [za, zb] at h
  generalize zmag b64 (val64 V) = v at h ⊢
  unfold inUnits
  refine Nat.le_of_mul_le_mul_right (c := 2 ^ (r - b64.qmin).toNat) ?_ (Nat.two_pow_pos _)
  rw [Nat.mul_assoc c, hp]
  have := Nat.mul_le_mul_right (2 ^ (b64.qmin - min b64.qmin (q - r)).toNat) h
  calc v * 2 ^ (b64.qmin - min b64.qmin (q - r)).toNat * d * 2 ^ (r - b64.qmin).toNat = v * (d * 2 ^ (r - b64.qmin).toNat) * 2 ^ (b64.qmin - min b64.qmin (q - r)).toNat := by (generalize one64 = U; ac_rfl)
    _ ≤ _ := this
    _ = c * (2 ^ (q - b64.qmin).toNat * one64 * 2 ^ (b64.qmin - min b64.qmin (q - r)).toNat) := by (generalize one64 = U; ac_rfl)
theorem div_sgn {a b : UInt64} (ha : DFin a) (hb : DFin b) (hz : zmag b64 (val64 b) ≠ 0) : sgn (val64 (ddiv a b)) = (sgn (val64 a) != sgn (val64 b)) := by
  obtain ⟨s, c, q, ea⟩ := ha
  obtain ⟨t, d, r, eb⟩ := hb
  have zb : zmag b64 (val64 b) = d * 2 ^ (r - b64.qmin).toNat := by rw [eb]; rfl
  have hd : d ≠ 0 := fun q => hz (by rw [zb, q, Nat.zero_mul])
  rw [div_val ea eb hd, sgn_roundRatio, ea, eb]; rfl
theorem zv_cases (a : UInt64) : (sgn (val64 a) = false ∧ zv a = (zmag b64 (val64 a) : Int)) ∨ (sgn (val64 a) = true ∧ zv a = -(zmag b64 (val64 a) : Int)) := by
  show (_ ∧ signed _ _ = _) ∨ (_ ∧ signed _ _ = _)
  cases sgn (val64 a) <;> simp [signed]
theorem nat_mul_le {a b c d : Nat} (h : (a : Int) * (b : Int) ≤ (c : Int) * (d : Int)) : a * b ≤ c * d := by
  rw [← Int.natCast_mul, ← Int.natCast_mul] at h; exact Int.ofNat_le.mp h
theorem div_le {a b V : UInt64} (ha : DFin a) (hb : DFin b) (hp : 0 < zv b) (hV : val64 V ≠ .nan) (h : zv a * (one64 : Int) ≤ zv V * zv b) : zv (ddiv a b) ≤ zv V := by
  have ub := zv_bd b
  have hz : zmag b64 (val64 b) ≠ 0 := by omega
  have eb : sgn (val64 b) = false ∧ zv b = (zmag b64 (val64 b) : Int) := by rcases zv_cases b with q | q; exact q; omega
  have es := div_sgn ha hb hz
  rw [eb.1] at es
  have hU := U_pos
  rcases zv_cases a with ⟨sa, ea⟩ | ⟨sa, ea⟩ <;> rw [sa] at es
  · have er : zv (ddiv a b) = (zmag b64 (val64 (ddiv a b)) : Int) := by rcases zv_cases (ddiv a b) with q | q; exact q.2; rw [q.1] at es; cases es
    rcases zv_cases V with ⟨sv, ev⟩ | ⟨sv, ev⟩
    · have := div_mag_le ha hb hz hV (nat_mul_le (by rw [← ea, ← ev, ← eb.2]; exact h))
      omega
    · have h0 : 0 ≤ zv a * (one64 : Int) := Int.mul_nonneg (by omega) (by omega)
      have h1 : 0 ≤ zv V * zv b := Int.le_trans h0 h
      have h2 : zv V = 0 := by
        by_cases q : zv V < 0
        · have := Int.mul_neg_of_neg_of_pos q hp; omega
        · omega
      have h3 : zmag b64 (val64 V) = 0 := by omega
      rw [h2, Int.zero_mul] at h
      have h5 : zmag b64 (val64 a) * one64 ≤ zmag b64 (val64 V) * zmag b64 (val64 b) := nat_mul_le (by rw [← ea, h3]; simpa using h)
      have := div_mag_le ha hb hz hV h5
      omega
  · have er : zv (ddiv a b) = -(zmag b64 (val64 (ddiv a b)) : Int) := by rcases zv_cases (ddiv a b) with q | q; rw [q.1] at es; cases es; exact q.2
    rcases zv_cases V with ⟨sv, ev⟩ | ⟨sv, ev⟩
    · omega
    · have := div_mag_ge ha hb hz hV (nat_mul_le (by
        have : zv V * zv b = -((zmag b64 (val64 V) : Int) * (zmag b64 (val64 b) : Int)) := by rw [ev, eb.2, Int.neg_mul]
        have h6 : zv a * (one64 : Int) = -((zmag b64 (val64 a) : Int) * (one64 : Int)) := by rw [ea, Int.neg_mul]
        omega))
      omega
theorem div_ge {a b V : UInt64} (ha : DFin a) (hb : DFin b) (hp : 0 < zv b) (hV : val64 V ≠ .nan) (h : zv V * zv b ≤ zv a * (one64 : Int)) : zv V ≤ zv (ddiv a b) := by
  have ub := zv_bd b
  have hz : zmag b64 (val64 b) ≠ 0 := by omega
  have eb : sgn (val64 b) = false ∧ zv b = (zmag b64 (val64 b) : Int) := by rcases zv_cases b with q | q; exact q; omega
  have es := div_sgn ha hb hz
  rw [eb.1] at es
  have hU := U_pos
  rcases zv_cases a with ⟨sa, ea⟩ | ⟨sa, ea⟩ <;> rw [sa] at es
  · have er : zv (ddiv a b) = (zmag b64 (val64 (ddiv a b)) : Int) := by rcases zv_cases (ddiv a b) with q | q; exact q.2; rw [q.1] at es; cases es
    rcases zv_cases V with ⟨sv, ev⟩ | ⟨sv, ev⟩
    · have := div_mag_ge ha hb hz hV (nat_mul_le (by rw [← ea, ← ev, ← eb.2]; exact h))
      omega
    · omega
  · have er : zv (ddiv a b) = -(zmag b64 (val64 (ddiv a b)) : Int) := by rcases zv_cases (ddiv a b) with q | q; rw [q.1] at es; cases es; exact q.2
    rcases zv_cases V with ⟨sv, ev⟩ | ⟨sv, ev⟩
    · have h0 : zv a * (one64 : Int) ≤ 0 := Int.mul_nonpos_of_nonpos_of_nonneg (by omega) (by omega)
      have h1 : zv V * zv b ≤ 0 := Int.le_trans h h0
      have h2 : zv V = 0 := by
        by_cases q : 0 < zv V
        · have := Int.mul_pos q hp; omega
        · omega
      have h3 : zmag b64 (val64 V) = 0 := by omega
      rw [h2, Int.zero_mul] at h
      have h4 : (zmag b64 (val64 a) : Int) * (one64 : Int) = -(zv a * (one64 : Int)) := by rw [ea, Int.neg_mul, Int.neg_neg]
      have h5 : zmag b64 (val64 a) * one64 ≤ zmag b64 (val64 V) * zmag b64 (val64 b) := nat_mul_le (by rw [h4, h3]; simp; omega)
      have := div_mag_le ha hb hz hV h5
      omega
    · have := div_mag_le ha hb hz hV (nat_mul_le (by
        have : zv V * zv b = -((zmag b64 (val64 V) : Int) * (zmag b64 (val64 b) : Int)) := by rw [ev, eb.2, Int.neg_mul]
        have h6 : zv a * (one64 : Int) = -((zmag b64 (val64 a) : Int) * (one64 : Int)) := by rw [ea, Int.neg_mul]
        omega))
      omega
theorem Dy.pos {m : Int} {j : Nat} {b : UInt64} (hb : Dy m j b) (hm : 0 < m) : 0 < zv b := by
  have h1 : 0 < zv b * 2 ^ j := by rw [hb.2]; exact Int.mul_pos hm U_pos
  exact Int.pos_of_mul_pos_left h1 (two_pos j)
theorem div_le_dy {n m q : Int} {k j i : Nat} {a b : UInt64} (ha : Dy n k a) (hb : Dy m j b) (hm : 0 < m) (hi : i ≤ 1074) (hq : q.natAbs < 2 ^ 53) (h : n * 2 ^ j * 2 ^ i ≤ q * m * 2 ^ k) : zv (ddiv a b) * 2 ^ i ≤ q * (one64 : Int) := by
  obtain ⟨V, hV, e⟩ := rep_exists q i hi hq
  rw [← e]
  refine Int.mul_le_mul_of_nonneg_right (div_le ha.1 hb.1 (hb.pos hm) hV.ne_nan ?_) (Int.le_of_lt (two_pos i))
  have hU := U_pos
  refine Int.le_of_mul_le_mul_right (a := 2 ^ k * 2 ^ j * 2 ^ i) ?_ (Int.mul_pos (Int.mul_pos (two_pos k) (two_pos j)) (two_pos i))
  have e1 : zv a * (one64 : Int) * (2 ^ k * 2 ^ j * 2 ^ i) = n * 2 ^ j * 2 ^ i * ((one64 : Int) * (one64 : Int)) := by
    rw [show zv a * (one64 : Int) * (2 ^ k * 2 ^ j * 2 ^ i) = zv a * 2 ^ k * ((one64 : Int) * 2 ^ j * 2 ^ i) by (generalize one64 = U; ac_rfl), ha.2]; (generalize one64 = U; ac_rfl)
  have e2 : zv V * zv b * (2 ^ k * 2 ^ j * 2 ^ i) = q * m * 2 ^ k * ((one64 : Int) * (one64 : Int)) := by
    rw [show zv V * zv b * (2 ^ k * 2 ^ j * 2 ^ i) = (zv V * 2 ^ i) * (zv b * 2 ^ j) * 2 ^ k by (generalize one64 = U; ac_rfl), e, hb.2]; (generalize one64 = U; ac_rfl)
  rw [e1, e2]
  exact Int.mul_le_mul_of_nonneg_right h (Int.le_of_lt (Int.mul_pos hU hU))
theorem div_ge_dy {n m q : Int} {k j i : Nat} {a b : UInt64} (ha : Dy n k a) (hb : Dy m j b) (hm : 0 < m) (hi : i ≤ 1074) (hq : q.natAbs < 2 ^ 53) (h : q * m * 2 ^ k ≤ n * 2 ^ j * 2 ^ i) : q * (one64 : Int) ≤ zv (ddiv a b) * 2 ^ i := by
  obtain ⟨V, hV, e⟩ := rep_exists q i hi hq
  rw [← e]
  refine Int.mul_le_mul_of_nonneg_right (div_ge ha.1 hb.1 (hb.pos hm) hV.ne_nan ?_) (Int.le_of_lt (two_pos i))
  have hU := U_pos
  refine Int.le_of_mul_le_mul_right (a := 2 ^ k * 2 ^ j * 2 ^ i) ?_ (Int.mul_pos (Int.mul_pos (two_pos k) (two_pos j)) (two_pos i))
  have e1 : zv a * (one64 : Int) * (2 ^ k * 2 ^ j * 2 ^ i) = n * 2 ^ j * 2 ^ i * ((one64 : Int) * (one64 : Int)) := by
    rw [show zv a * (one64 : Int) * (2 ^ k * 2 ^ j * 2 ^ i) = zv a * 2 ^ k * ((one64 : Int) * 2 ^ j * 2 ^ i) by (generalize one64 = U; ac_rfl), ha.2]; (generalize one64 = U; ac_rfl)
  have e2 : zv V * zv b * (2 ^ k * 2 ^ j * 2 ^ i) = q * m * 2 ^ k * ((one64 : Int) * (one64 : Int)) := by
    rw [show zv V * zv b * (2 ^ k * 2 ^ j * 2 ^ i) = (zv V * 2 ^ i) * (zv b * 2 ^ j) * 2 ^ k by (generalize one64 = U; ac_rfl), e, hb.2]; (generalize one64 = U; ac_rfl)
  rw [e1, e2]
  exact Int.mul_le_mul_of_nonneg_right h (Int.le_of_lt (Int.mul_pos hU hU))
theorem dy_div {n m q : Int} {k j i : Nat} {a b : UInt64} (ha : Dy n k a) (hb : Dy m j b) (hm : 0 < m) (hi : i ≤ 1074) (hq : q.natAbs < 2 ^ 53) (h : n * 2 ^ j * 2 ^ i = q * m * 2 ^ k) : Dy q i (ddiv a b) := by
  have h1 := div_le_dy ha hb hm hi hq (Int.le_of_eq h)
  have h2 := div_ge_dy ha hb hm hi hq (Int.le_of_eq h.symm)
  have h3 := Int.le_antisymm h1 h2
  obtain ⟨V, hV, e⟩ := rep_exists q i hi hq
  have h4 : zv (ddiv a b) = zv V := cancel (h3.trans e.symm)
  exact ⟨fin_between hV hV (div_nn ha.1 hb.1 (Int.ne_of_gt (hb.pos hm))) (Int.le_of_eq h4.symm) (Int.le_of_eq h4), h3⟩
-- comparisons
theorem cmp_dy {n m : Int} {k j : Nat} {a b : UInt64} (ha : Dy n k a) (hb : Dy m j b) : Jvm.FP.dcmp a b = some (compare (n * 2 ^ j) (m * 2 ^ k)) := by
  show dcmp a b = _
  rw [dcmp_zval ha.nn hb.nn]
  congr 1
  have hU := U_pos
  have e1 : zv a * (2 ^ k * 2 ^ j) = n * 2 ^ j * (one64 : Int) := by rw [← Int.mul_assoc, ha.2]; (generalize one64 = U; ac_rfl)
  have e2 : zv b * (2 ^ k * 2 ^ j) = m * 2 ^ k * (one64 : Int) := by rw [show zv b * (2 ^ k * 2 ^ j) = zv b * 2 ^ j * 2 ^ k by (generalize one64 = U; ac_rfl), hb.2]; (generalize one64 = U; ac_rfl)
  rw [← compare_mul_pos (zv a) (zv b) (2 ^ k * 2 ^ j) (Int.mul_pos (two_pos k) (two_pos j)), e1, e2, compare_mul_pos _ _ _ hU]
theorem cmp_dy0 {n m : Int} {k : Nat} {a b : UInt64} (ha : Dy n k a) (hb : Dy m k b) : Jvm.FP.dcmp a b = some (compare n m) := by
  rw [cmp_dy ha hb, compare_mul_pos _ _ _ (two_pos k)]
theorem cmp_lt {a b : UInt64} (ha : val64 a ≠ .nan) (hb : val64 b ≠ .nan) (h : zv a < zv b) : Jvm.FP.dcmp a b = some .lt := dcmp_lt.mpr ⟨ha, hb, h⟩
theorem cmp_eq {a b : UInt64} (ha : val64 a ≠ .nan) (hb : val64 b ≠ .nan) (h : zv a = zv b) : Jvm.FP.dcmp a b = some .eq := dcmp_eq.mpr ⟨ha, hb, h⟩
theorem cmp_gt {a b : UInt64} (ha : val64 a ≠ .nan) (hb : val64 b ≠ .nan) (h : zv b < zv a) : Jvm.FP.dcmp a b = some .gt := dcmp_gt.mpr ⟨ha, hb, h⟩
open Jvm.Op in
theorem cv_lt_g (r : Option Ordering) : cmpValue r .g < 0 ↔ r = some .lt := by rcases r with _ | (_ | _ | _) <;> decide
open Jvm.Op in
theorem cv_lt_l (r : Option Ordering) : cmpValue r .l < 0 ↔ r = some .lt ∨ r = none := by rcases r with _ | (_ | _ | _) <;> decide
open Jvm.Op in
theorem cv_gt_g (r : Option Ordering) : 0 < cmpValue r .g ↔ r = some .gt ∨ r = none := by rcases r with _ | (_ | _ | _) <;> decide
open Jvm.Op in
theorem cv_gt_l (r : Option Ordering) : 0 < cmpValue r .l ↔ r = some .gt := by rcases r with _ | (_ | _ | _) <;> decide
open Jvm.Op in
theorem cv_eq (r : Option Ordering) (o : Jvm.ClassFile.CmpOp) : cmpValue r o = 0 ↔ r = some .eq := by cases o <;> rcases r with _ | (_ | _ | _) <;> decide
theorem nn64 {a : UInt64} (h : DFin a) : Jvm.Free.Fl.NoNaN64 a := Jvm.Free.Fl.val64_no.mpr h.ne_nan
theorem nnv {a : UInt64} (h : val64 a ≠ .nan) : Jvm.Free.Fl.NoNaN64 a := Jvm.Free.Fl.val64_no.mpr h
theorem nn_v {a : UInt64} (h : Jvm.Free.Fl.NoNaN64 a) : val64 a ≠ .nan := Jvm.Free.Fl.val64_no.mp h
end Jvm.OwnFP
namespace Jvm.OwnKit
open Jvm Jvm.ClassFile Sem Op Lib Jvm.Free Jvm.Stand Jvm.LawKit Jvm.RoadKit
theorem eqF_int {Z : State} {args : Array Value} {t : Term} {C n d : String} {x : Addr} {k : Int32} (ev : t.eval args Z none [] Z = some (.ref x)) (h : (Jvm.Cond.eq (Term.field t C n d) (Term.int k)).value args Z none Z [] = some true) : Fld Z Z.heap x C n d (.int k) := by
  obtain ⟨u, w, h1, h2, -, h4⟩ := cmp_v (Or.inl h)
  have e2 : (Term.int k).eval args Z none [] Z = some (.int k) := Term.int_eval k
  cases e2.symm.trans h2
  obtain ⟨z, rfl⟩ := h4
  have hz : z = k := by simpa [Cond.value, h1, e2] using h
  subst hz
  exact Fld.start (by rw [← fld_at ev]; exact h1)
theorem eqF_dbl {Z : State} {args : Array Value} {t : Term} {C n d : String} {x : Addr} {k : Int64} {b : UInt64} (ev : t.eval args Z none [] Z = some (.ref x)) (h : (Jvm.Cond.eq (Term.field t C n d) (Term.op1 Jvm.Unary.bitsD (Term.long k))).value args Z none Z [] = some true) (hb : k.toUInt64 = b) : Fld Z Z.heap x C n d (.double b) := by
  obtain ⟨u, w, h1, h2, -, h4⟩ := cmp_v (Or.inl h)
  have e2 : (Term.op1 Jvm.Unary.bitsD (Term.long k)).eval args Z none [] Z = some (.double k.toUInt64) := by simp [Term.eval, Jvm.Unary.apply]
  cases e2.symm.trans h2
  obtain ⟨z, rfl⟩ := h4
  have hz : z = k.toUInt64 := by simpa [Cond.value, h1, e2] using h
  subst hz; subst hb
  exact Fld.start (by rw [← fld_at ev]; exact h1)
theorem eqS_int {Z : State} {args : Array Value} {C n d : String} {k : Int32} (h : (Jvm.Cond.eq (Term.static C n d) (Term.int k)).value args Z none Z [] = some true) : (Term.static C n d).eval args Z none [] Z = some (.int k) := by
  obtain ⟨u, w, h1, h2, -, h4⟩ := cmp_v (Or.inl h)
  have e2 : (Term.int k).eval args Z none [] Z = some (.int k) := Term.int_eval k
  cases e2.symm.trans h2
  obtain ⟨z, rfl⟩ := h4
  have hz : z = k := by simpa [Cond.value, h1, e2] using h
  subst hz
  exact h1
theorem staKeep {Z : State} {h h' : Heap} {C n d : String} {v : Value} {ws : List Addr} (F : Sta Z h C n d v) (K : Keep h h' ws) (q : ∀ x ∈ ws, ∃ c : Cell, h[x]? = some c ∧ c.vm.isStatics = false) : Sta Z h' C n d v := by
  obtain ⟨cf, i, k, f, st, cell, h1, h2, h3, h4, h5, h6, h7⟩ := F
  refine ⟨cf, i, k, f, st, cell, h1, h2, h3, h4, K.2.1 st cell h5 fun hm => ?_, h6, h7⟩
  obtain ⟨c, e1, e2⟩ := q st hm
  cases h5.symm.trans e1
  rw [e2] at h6; cases h6
theorem exaSt {Z : State} {h : Heap} {a : Addr} {C : String} (F : Exa Z h a C) : ∃ c : Cell, h[a]? = some c ∧ c.vm.isStatics = false := by
  obtain ⟨c, _, h1, -, -, h4, -⟩ := F; exact ⟨c, h1, h4⟩
theorem arvSt {Z : State} {h : Heap} {a : Addr} {k : ClassId} {ty : FieldType} {z : Int32} {vs : List Value} {dv : Value} (F : Arv Z h a k ty z vs dv) : ∃ c : Cell, h[a]? = some c ∧ c.vm.isStatics = false := by
  obtain ⟨c, A, -⟩ := F; exact ⟨c, A.1, A.plain⟩
theorem narB0 : nar .boolean 0 = 0 := by decide
theorem narB1 : nar .boolean 1 = 1 := by decide
end Jvm.OwnKit
namespace Jvm.OwnFP
open Jvm.FP.Core
/-! powers of two go through rounding where nothing is subnormal or too great -/
theorem rr_core {A B : Nat} (hA : 0 < A) (hB : 0 < B) : ∃ (c : Nat) (j : Int), 2 ^ 52 ≤ c ∧ c < 2 ^ 53 ∧ leading A B - 52 ≤ j ∧ j ≤ leading A B - 51 ∧
    ∀ (s : Bool) (e : Int), -1000 ≤ leading A B + e → leading A B + e ≤ 900 → roundRatio b64 s A B e = .fin s c (e + j) := by
  have hp : (b64.p : Int) = 53 := by decide
  have ht : b64.tails = 2 ^ 52 := by decide
  have hp2 : b64.p = 53 := by decide
  have hq : ∀ e : Int, -1000 ≤ leading A B + e → quantum b64 A B e = leading A B + e - 52 := fun e h => by
    unfold quantum; rw [qmin_b64, hp]; omega
  have hm : ∀ (s : Bool) (e : Int), -1000 ≤ leading A B + e → roundRatio b64 s A B e = settle b64 s (nearest (A * 2 ^ (52 - leading A B).toNat) (B * 2 ^ (leading A B - 52).toNat)) (leading A B + e - 52) := fun s e h => by
    unfold roundRatio
    rw [if_neg (by omega), hq e h]
    unfold roundAt unitsNum unitsDen
    rw [show e - (leading A B + e - 52) = 52 - leading A B by omega, show leading A B + e - 52 - e = leading A B - 52 by omega]
  have f0 := roundRatio_fits good_b64 false A hB (-leading A B)
  rw [hm false _ (by omega)] at f0
  generalize nearest (A * 2 ^ (52 - leading A B).toNat) (B * 2 ^ (leading A B - 52).toNat) = m at f0 hm
  by_cases k : m < 2 ^ 53
  · have k' : m < 2 ^ b64.p := by rw [hp2]; exact k
    unfold settle bound at f0
    rw [if_pos k', if_pos (by rw [qmax_b64]; omega)] at f0
    have hc : 2 ^ 52 ≤ m := by
      rcases f0.2.2.2 with q | q
      · rw [qmin_b64] at q; omega
      · rw [ht] at q; exact q
    refine ⟨m, leading A B - 52, hc, k, by omega, by omega, fun s e h1 h2 => ?_⟩
    rw [hm s e h1]
    unfold settle bound
    rw [if_pos k', if_pos (by rw [qmax_b64]; omega), show leading A B + e - 52 = e + (leading A B - 52) by omega]
  · have k' : ¬ m < 2 ^ b64.p := by rw [hp2]; exact k
    refine ⟨2 ^ 52, leading A B - 51, Nat.le_refl _, by decide, by omega, by omega, fun s e h1 h2 => ?_⟩
    rw [hm s e h1]
    unfold settle bound
    rw [if_neg k', if_pos (by rw [qmax_b64]; omega), ht, show leading A B + e - 52 + 1 = e + (leading A B - 51) by omega]
/-- a normal double, its sign and exponent told -/
def Nf (s : Bool) (c : Nat) (q : Int) (a : UInt64) : Prop := val64 a = .fin s c q ∧ 2 ^ 52 ≤ c ∧ c < 2 ^ 53
theorem Nf.fin {s : Bool} {c : Nat} {q : Int} {a : UInt64} (h : Nf s c q a) : DFin a := ⟨s, c, q, h.1⟩
theorem Nf.zv {s : Bool} {c : Nat} {q : Int} {a : UInt64} (h : Nf s c q a) : zv a = signed s (c * 2 ^ (q + 1074).toNat) := by
  show signed (sgn (val64 a)) (zmag b64 (val64 a)) = _
  rw [h.1]
  show signed s (c * 2 ^ (q - b64.qmin).toNat) = _
  rw [qmin_b64, show q - -1074 = q + 1074 by omega]
theorem Nf.pos {c : Nat} {q : Int} {a : UInt64} (h : Nf false c q a) : 0 < OwnFP.zv a := by
  rw [h.zv]
  have : 0 < c * 2 ^ (q + 1074).toNat := Nat.mul_pos (Nat.lt_of_lt_of_le (by decide) h.2.1) (Nat.two_pow_pos _)
  show (0 : Int) < ((c * 2 ^ (q + 1074).toNat : Nat) : Int)
  omega
theorem Nf.neg {c : Nat} {q : Int} {a : UInt64} (h : Nf true c q a) : OwnFP.zv a < 0 := by
  rw [h.zv]
  have : 0 < c * 2 ^ (q + 1074).toNat := Nat.mul_pos (Nat.lt_of_lt_of_le (by decide) h.2.1) (Nat.two_pow_pos _)
  show -((c * 2 ^ (q + 1074).toNat : Nat) : Int) < 0
  omega
theorem Nf.nz {s : Bool} {c : Nat} {q : Int} {a : UInt64} (h : Nf s c q a) : OwnFP.zv a ≠ 0 := by
  cases s
  · exact Int.ne_of_gt h.pos
  · exact Int.ne_of_lt h.neg
theorem Nf.twice {s : Bool} {c : Nat} {q : Int} {a b : UInt64} (ha : Nf s c q a) (hb : Nf s c (q + 1) b) (hq : -1074 ≤ q) : OwnFP.zv b = OwnFP.zv a * 2 := by
  rw [ha.zv, hb.zv, show (q + 1 + 1074).toNat = (q + 1074).toNat + 1 by omega, Nat.pow_succ, ← Nat.mul_assoc, signed_mul]; rfl
theorem lead_one {A : Nat} (hA : 0 < A) : leading A 1 = (A.log2 : Int) := by
  have h := Nat.log2_self_le (n := A) (by omega)
  have e : ((A.log2 : Int) - ((1 : Nat).log2 : Int)) = (A.log2 : Int) := by rw [show (1 : Nat).log2 = 0 by decide]; omega
  unfold leading
  simp only [e]
  rw [if_pos (by rw [Int.toNat_natCast, show (-(A.log2 : Int)).toNat = 0 by omega]; omega)]
theorem lead_nf {c d : Nat} (h1 : 2 ^ 52 ≤ c) (h2 : c < 2 ^ 53) (h3 : 2 ^ 52 ≤ d) (h4 : d < 2 ^ 53) : leading c d = 0 ∨ leading c d = -1 := by
  have l1 : c.log2 = 52 := (Nat.log2_eq_iff (by omega)).mpr ⟨h1, h2⟩
  have l2 : d.log2 = 52 := (Nat.log2_eq_iff (by omega)).mpr ⟨h3, h4⟩
  unfold leading
  rw [l1, l2]
  simp only [Int.sub_self]
  split
  · exact Or.inl rfl
  · exact Or.inr rfl
/-- a long other than zero as a double; twice the long is twice the double -/
theorem nf_l2d (a : Int64) (h0 : a.toInt ≠ 0) : ∃ c q, Nf (decide (a.toInt < 0)) c q (l2d a) ∧ -52 ≤ q ∧ q ≤ 12 ∧ ∀ b : Int64, b.toInt = 2 * a.toInt → Nf (decide (a.toInt < 0)) c (q + 1) (l2d b) := by
  have hA : 0 < a.toInt.natAbs := by omega
  have r := Jvm.RoadKit.rng64 a
  have hl : a.toInt.natAbs.log2 ≤ 63 := by
    have h := Nat.log2_self_le (n := a.toInt.natAbs) (by omega)
    by_cases q : a.toInt.natAbs.log2 ≤ 63
    · exact q
    · have : 2 ^ 64 ≤ 2 ^ a.toInt.natAbs.log2 := Nat.pow_le_pow_right (by decide) (by omega)
      omega
  obtain ⟨c, j, h1, h2, h3, h4, h5⟩ := rr_core hA (B := 1) (by decide)
  rw [lead_one hA] at h3 h4 h5
  refine ⟨c, j, ⟨?_, h1, h2⟩, by omega, by omega, fun b hb => ⟨?_, h1, h2⟩⟩
  · rw [val64_l2d]
    have := h5 (decide (a.toInt < 0)) 0 (by omega) (by omega)
    rw [show (0 : Int) + j = j by omega] at this
    exact this
  · rw [val64_l2d]
    have := h5 (decide (a.toInt < 0)) 1 (by omega) (by omega)
    rw [show (1 : Int) + j = j + 1 by omega] at this
    rw [← this]
    show roundRatio b64 (decide (b.toInt < 0)) b.toInt.natAbs 1 0 = _
    rw [hb, show decide (2 * a.toInt < 0) = decide (a.toInt < 0) by by_cases q : a.toInt < 0 <;> simp [q] <;> omega, show (2 * a.toInt).natAbs = 2 * a.toInt.natAbs by omega]
    refine roundRatio_congr (by decide) (by decide) ?_
    show 2 * a.toInt.natAbs * 1 * 2 ^ (0 : Nat) = a.toInt.natAbs * 1 * 2 ^ (1 : Nat)
    omega
/-- the quotient of two normal doubles: one significand for all exponents -/
theorem nf_div {c d : Nat} (h1 : 2 ^ 52 ≤ c) (h2 : c < 2 ^ 53) (h3 : 2 ^ 52 ≤ d) (h4 : d < 2 ^ 53) : ∃ (k : Nat) (j : Int), -53 ≤ j ∧ j ≤ -51 ∧
    ∀ (s t : Bool) (q r : Int) (a b : UInt64), Nf s c q a → Nf t d r b → -900 ≤ q - r → q - r ≤ 900 → Nf (s != t) k (q - r + j) (ddiv a b) := by
  obtain ⟨k, j, k1, k2, k3, k4, k5⟩ := rr_core (A := c) (B := d) (by omega) (by omega)
  have hL := lead_nf h1 h2 h3 h4
  refine ⟨k, j, by omega, by omega, fun s t q r a b ha hb g1 g2 => ⟨?_, k1, k2⟩⟩
  rw [div_val ha.1 hb.1 (by omega)]
  exact k5 _ _ (by omega) (by omega)
theorem nf_1e9 : Nf false 8388608000000000 (-23) 4741671816366391296 := ⟨by decide +kernel, by decide, by decide⟩
theorem nf_two : Dy 2 0 4611686018427387904 := by
  have := dy_i2d 2
  rw [show Jvm.FP.Core.i2d 2 = 4611686018427387904 by decide +kernel] at this; exact this
/-- count / (nanos / 1e9) -/
abbrev rate (a b : Int64) : UInt64 := Jvm.FP.ddiv (Jvm.FP.l2d a) (Jvm.FP.ddiv (Jvm.FP.l2d b) 4741671816366391296)
theorem nf_secs (b : Int64) (hb : b.toInt ≠ 0) : ∃ c q, Nf (decide (b.toInt < 0)) c q (ddiv (l2d b) 4741671816366391296) ∧ -100 ≤ q ∧ q ≤ 100 ∧ ∀ b2 : Int64, b2.toInt = 2 * b.toInt → Nf (decide (b.toInt < 0)) c (q + 1) (ddiv (l2d b2) 4741671816366391296) := by
  obtain ⟨c, q, hn, q1, q2, hd⟩ := nf_l2d b hb
  obtain ⟨k, j, j1, j2, hk⟩ := nf_div hn.2.1 hn.2.2 nf_1e9.2.1 nf_1e9.2.2
  refine ⟨k, q - -23 + j, ?_, by omega, by omega, fun b2 h2 => ?_⟩
  · have := hk _ _ _ _ _ _ hn nf_1e9 (by omega) (by omega)
    rw [Bool.bne_false] at this; exact this
  · have := hk _ _ _ _ _ _ (hd b2 h2) nf_1e9 (by omega) (by omega)
    rw [Bool.bne_false, show q + 1 - -23 + j = q - -23 + j + 1 by omega] at this; exact this
theorem secs_nn (b : Int64) : Jvm.Free.Fl.NoNaN64 (Jvm.FP.ddiv (Jvm.FP.l2d b) 4741671816366391296) := nnv (div_nn (l2d_fin b) nf_1e9.fin nf_1e9.nz)
theorem l2d_z : val64 (l2d 0) = .fin false 0 b64.qmin := by decide +kernel
theorem rate_zero {b : Int64} (hb : b.toInt ≠ 0) : DFin (rate 0 b) ∧ zv (rate 0 b) = 0 := by
  obtain ⟨c, q, hn, q1, q2, -⟩ := nf_secs b hb
  have e := div_val l2d_z hn.1 (by have := hn.2.1; omega)
  have : roundRatio b64 (false != decide (b.toInt < 0)) 0 c (b64.qmin - q) = .fin (false != decide (b.toInt < 0)) 0 b64.qmin := by unfold roundRatio; rw [if_pos rfl]
  rw [this] at e
  refine ⟨⟨_, _, _, e⟩, ?_⟩
  show signed (sgn (val64 (ddiv (l2d 0) (ddiv (l2d b) 4741671816366391296)))) (zmag b64 (val64 (ddiv (l2d 0) (ddiv (l2d b) 4741671816366391296)))) = 0
  rw [e]
  show signed _ (0 * _) = 0
  rw [Nat.zero_mul, signed_zero]
theorem rate_nf {a b : Int64} (ha : a.toInt ≠ 0) (hb : b.toInt ≠ 0) : ∃ c q, Nf (decide (a.toInt < 0) != decide (b.toInt < 0)) c q (rate a b) ∧ -500 ≤ q ∧ ∀ b2 : Int64, b2.toInt = 2 * b.toInt → Nf (decide (a.toInt < 0) != decide (b.toInt < 0)) c (q - 1) (rate a b2) := by
  obtain ⟨c, q, hn, q1, q2, -⟩ := nf_l2d a ha
  obtain ⟨d, r, hm, r1, r2, hd⟩ := nf_secs b hb
  obtain ⟨k, j, j1, j2, hk⟩ := nf_div hn.2.1 hn.2.2 hm.2.1 hm.2.2
  refine ⟨k, q - r + j, hk _ _ _ _ _ _ hn hm (by omega) (by omega), by omega, fun b2 h2 => ?_⟩
  have := hk _ _ _ _ _ _ hn (hd b2 h2) (by omega) (by omega)
  rw [show q - (r + 1) + j = q - r + j - 1 by omega] at this; exact this
theorem rate_fin (a : Int64) {b : Int64} (hb : b.toInt ≠ 0) : DFin (rate a b) := by
  by_cases h : a.toInt = 0
  · have : a = 0 := Int64.toInt_inj.mp h
    rw [this]; exact (rate_zero hb).1
  · obtain ⟨c, q, hn, -⟩ := rate_nf h hb; exact hn.fin
/-- twice the time is half the rate -/
theorem rate_half (a : Int64) {b b2 : Int64} (hb : b.toInt ≠ 0) (h2 : b2.toInt = 2 * b.toInt) : DFin (dmul (rate a b2) 4611686018427387904) ∧ zv (dmul (rate a b2) 4611686018427387904) = zv (rate a b) := by
  refine mul_exact (rate_fin a (by omega)) nf_two.1 (rate_fin a hb) ?_
  have e2 : zv 4611686018427387904 = 2 * (one64 : Int) := by have := nf_two.2; simpa using this
  rw [e2]
  by_cases h : a.toInt = 0
  · have : a = 0 := Int64.toInt_inj.mp h
    rw [this, (rate_zero hb).2, (rate_zero (b := b2) (by omega)).2, Int.zero_mul, Int.zero_mul]
  · obtain ⟨c, q, hn, q1, hd⟩ := rate_nf h hb
    have hh := hd b2 h2
    have t := Nf.twice hh (b := rate a b) (by rw [show q - 1 + 1 = q by omega]; exact hn) (by omega)
    rw [t, Int.mul_assoc]
theorem rate_pos {a b : Int64} (h : (0 < a.toInt ∧ 0 < b.toInt) ∨ (a.toInt < 0 ∧ b.toInt < 0)) : 0 < zv (rate a b) := by
  obtain ⟨c, q, hn, -⟩ := rate_nf (a := a) (b := b) (by omega) (by omega)
  have e : (decide (a.toInt < 0) != decide (b.toInt < 0)) = false := by
    rcases h with ⟨h1, h2⟩ | ⟨h1, h2⟩
    · rw [decide_eq_false (by omega), decide_eq_false (by omega)]; rfl
    · rw [decide_eq_true h1, decide_eq_true h2]; rfl
  rw [e] at hn; exact hn.pos
theorem rate_neg {a b : Int64} (h : (0 < a.toInt ∧ b.toInt < 0) ∨ (a.toInt < 0 ∧ 0 < b.toInt)) : zv (rate a b) < 0 := by
  obtain ⟨c, q, hn, -⟩ := rate_nf (a := a) (b := b) (by omega) (by omega)
  have e : (decide (a.toInt < 0) != decide (b.toInt < 0)) = true := by
    rcases h with ⟨h1, h2⟩ | ⟨h1, h2⟩
    · rw [decide_eq_false (by omega), decide_eq_true h2]; rfl
    · rw [decide_eq_true h1, decide_eq_false (by omega)]; rfl
  rw [e] at hn; exact hn.neg
/-- where the seconds are a power of two: the product with its reverse -/
theorem rate_exact (a : Int64) {b : Int64} {f : UInt64} (hb : 0 < b.toInt) (hs : ∃ i j : Nat, i ≤ 3 ∧ j ≤ 3 ∧ zv (ddiv (l2d b) 4741671816366391296) * 2 ^ i = 2 ^ j * (one64 : Int) ∧ zv f * 2 ^ j = 2 ^ i * (one64 : Int)) (hf : DFin f) : DFin (dmul (l2d a) f) ∧ zv (rate a b) = zv (dmul (l2d a) f) := by
  obtain ⟨i, j, hi, hj, e1, e2⟩ := hs
  have hU := U_pos
  obtain ⟨V, hV, hz⟩ : ∃ V, DFin V ∧ zv V * 2 ^ j = zv (l2d a) * 2 ^ i := by
    by_cases h : a.toInt = 0
    · have : a = 0 := Int64.toInt_inj.mp h
      have e : zv (l2d 0) = 0 := by
        show signed (sgn (val64 (l2d 0))) (zmag b64 (val64 (l2d 0))) = 0
        rw [l2d_z]; show signed false (0 * _) = 0; rw [Nat.zero_mul]; rfl
      exact ⟨l2d 0, l2d_fin 0, by rw [this, e, Int.zero_mul, Int.zero_mul]⟩
    · obtain ⟨c, q, hn, q1, q2, -⟩ := nf_l2d a h
      have hft : Jvm.FP.Core.fits b64 (.fin (decide (a.toInt < 0)) c (q + i - j)) := ⟨by rw [show b64.p = 53 by decide]; exact hn.2.2, by rw [qmin_b64]; omega, by rw [qmax_b64]; omega, Or.inr (by rw [show b64.tails = 2 ^ 52 by decide]; exact hn.2.1)⟩
      have hN : Nf (decide (a.toInt < 0)) c (q + i - j) (of64 (.fin (decide (a.toInt < 0)) c (q + i - j))) := ⟨val64_of64 hft, hn.2⟩
      refine ⟨_, hN.fin, ?_⟩
      rw [hN.zv, hn.zv]
      have e3 : ∀ k : Nat, ((2 : Int) ^ k) = ((2 ^ k : Nat) : Int) := fun k => by rw [Int.natCast_pow]; rfl
      rw [e3, e3, ← signed_mul, ← signed_mul, Nat.mul_assoc, Nat.mul_assoc, ← Nat.pow_add, ← Nat.pow_add]
      congr 3; omega
  have hS : DFin (ddiv (l2d b) 4741671816366391296) := by
    obtain ⟨c, q, hn, -⟩ := nf_secs b (by omega); exact hn.fin
  have hp : 0 < zv (ddiv (l2d b) 4741671816366391296) := by
    have : 0 < zv (ddiv (l2d b) 4741671816366391296) * 2 ^ i := by rw [e1]; exact Int.mul_pos (two_pos j) hU
    exact Int.pos_of_mul_pos_left this (two_pos i)
  have m1 : zv (l2d a) * zv f = zv V * (one64 : Int) := by
    refine cancel (k := j) ?_
    rw [Int.mul_assoc, e2, show zv V * (one64 : Int) * 2 ^ j = zv V * 2 ^ j * (one64 : Int) by (generalize one64 = U; ac_rfl), hz]; (generalize one64 = U; ac_rfl)
  have m2 : zv V * zv (ddiv (l2d b) 4741671816366391296) = zv (l2d a) * (one64 : Int) := by
    refine cancel (k := i) ?_
    rw [Int.mul_assoc, e1, ← Int.mul_assoc, hz]; (generalize one64 = U; ac_rfl)
  obtain ⟨h1, h2⟩ := mul_exact (l2d_fin a) hf hV m1
  refine ⟨h1, ?_⟩
  rw [h2]
  exact Int.le_antisymm (div_le (l2d_fin a) hS hp hV.ne_nan (Int.le_of_eq m2.symm)) (div_ge (l2d_fin a) hS hp hV.ne_nan (Int.le_of_eq m2))
end Jvm.OwnFP
namespace Jvm.Pilot.@@N@@
open Jvm Jvm.ClassFile Sem Op Lib Jvm.Free Jvm.Stand Jvm.LawKit Jvm.RoadKit Bundle Jvm.OwnFP Jvm.OwnKit Jvm.Pilot.@@N@@.Jvm.D
theorem own_1e9 : Dy 1000000000 0 4741671816366391296 := by
  have := dy_i2d 1000000000
  rw [show Jvm.FP.Core.i2d 1000000000 = 4741671816366391296 by decide +kernel] at this; exact this
theorem own_f1 : Dy 1 0 4607182418800017408 := by
  have := dy_i2d 1
  rw [show Jvm.FP.Core.i2d 1 = 4607182418800017408 by decide +kernel] at this; exact this
theorem own_f2 : Dy 2 0 4611686018427387904 := by
  have := dy_i2d 2
  rw [show Jvm.FP.Core.i2d 2 = 4611686018427387904 by decide +kernel] at this; exact this
theorem own_f4 : Dy 4 0 4616189618054758400 := by
  have := dy_i2d 4
  rw [show Jvm.FP.Core.i2d 4 = 4616189618054758400 by decide +kernel] at this; exact this
theorem own_f8 : Dy 8 0 4620693217682128896 := by
  have := dy_i2d 8
  rw [show Jvm.FP.Core.i2d 8 = 4620693217682128896 by decide +kernel] at this; exact this
theorem own_g2 : Dy 1 1 4602678819172646912 := by
  have := dy_div (q := 1) (i := 1) own_f1 own_f2 (by decide) (by decide) (by decide) (by decide)
  rw [show Jvm.FP.Core.ddiv 4607182418800017408 4611686018427387904 = 4602678819172646912 by decide +kernel] at this; exact this
theorem own_g4 : Dy 1 2 4598175219545276416 := by
  have := dy_div (q := 1) (i := 2) own_f1 own_f4 (by decide) (by decide) (by decide) (by decide)
  rw [show Jvm.FP.Core.ddiv 4607182418800017408 4616189618054758400 = 4598175219545276416 by decide +kernel] at this; exact this
theorem own_g8 : Dy 1 3 4593671619917905920 := by
  have := dy_div (q := 1) (i := 3) own_f1 own_f8 (by decide) (by decide) (by decide) (by decide)
  rw [show Jvm.FP.Core.ddiv 4607182418800017408 4620693217682128896 = 4593671619917905920 by decide +kernel] at this; exact this

def OwnRow (n : Int64) (f : UInt64) : Prop := 0 < n.toInt ∧ Jvm.FP.Core.DFin f ∧ ∃ i j : Nat, i ≤ 3 ∧ j ≤ 3 ∧ zv (Jvm.FP.Core.ddiv (Jvm.FP.Core.l2d n) 4741671816366391296) * 2 ^ i = 2 ^ j * (Jvm.FP.Core.one64 : Int) ∧ zv f * 2 ^ j = 2 ^ i * (Jvm.FP.Core.one64 : Int)
theorem own_row (n : Int64) (f : UInt64) (i j : Nat) (hn : 0 < n.toInt ∧ n.toInt ≤ 2 ^ 53) (hi : i ≤ 3) (hj : j ≤ 3) (e : n.toInt * 2 ^ 0 * 2 ^ i = 2 ^ j * 1000000000 * 2 ^ 0) (hb : ((2 : Int) ^ j).natAbs < 2 ^ 53) (hf : Dy (2 ^ i) j f) : OwnRow n f :=
  ⟨hn.1, hf.1, i, j, hi, hj, (dy_div (q := 2 ^ j) (i := i) (dy_l2d (a := n) (by omega)) own_1e9 (by decide) (by omega) hb e).2, hf.2⟩
theorem own_tab (md : Int32) (h : 0 ≤ md.toInt ∧ md.toInt < 7) : ∃ (n : Int64) (f : UInt64), ([(.long (125000000 : Int64)), (.long (250000000 : Int64)), (.long (500000000 : Int64)), (.long (1000000000 : Int64)), (.long (2000000000 : Int64)), (.long (4000000000 : Int64)), (.long (8000000000 : Int64))] : List Value).getD md.toNatClampNeg (.long (0 : Int64)) = .long n ∧ ([(.double (4620693217682128896 : UInt64)), (.double (4616189618054758400 : UInt64)), (.double (4611686018427387904 : UInt64)), (.double (4607182418800017408 : UInt64)), (.double (4602678819172646912 : UInt64)), (.double (4598175219545276416 : UInt64)), (.double (4593671619917905920 : UInt64))] : List Value).getD md.toNatClampNeg (.double (0 : UInt64)) = .double f ∧ OwnRow n f := by
  have q : md.toNatClampNeg = 0 ∨ md.toNatClampNeg = 1 ∨ md.toNatClampNeg = 2 ∨ md.toNatClampNeg = 3 ∨ md.toNatClampNeg = 4 ∨ md.toNatClampNeg = 5 ∨ md.toNatClampNeg = 6 := by unfold Int32.toNatClampNeg; omega
  rcases q with q | q | q | q | q | q | q <;> rw [q]
  · exact ⟨_, _, rfl, rfl, own_row _ _ 3 0 (by decide) (by decide) (by decide) (by decide) (by decide) own_f8⟩
  · exact ⟨_, _, rfl, rfl, own_row _ _ 2 0 (by decide) (by decide) (by decide) (by decide) (by decide) own_f4⟩
  · exact ⟨_, _, rfl, rfl, own_row _ _ 1 0 (by decide) (by decide) (by decide) (by decide) (by decide) own_f2⟩
  · exact ⟨_, _, rfl, rfl, own_row _ _ 0 0 (by decide) (by decide) (by decide) (by decide) (by decide) own_f1⟩
  · exact ⟨_, _, rfl, rfl, own_row _ _ 0 1 (by decide) (by decide) (by decide) (by decide) (by decide) own_g2⟩
  · exact ⟨_, _, rfl, rfl, own_row _ _ 0 2 (by decide) (by decide) (by decide) (by decide) (by decide) own_g4⟩
  · exact ⟨_, _, rfl, rfl, own_row _ _ 0 3 (by decide) (by decide) (by decide) (by decide) (by decide) own_g8⟩
theorem own_ui {u ui : Int32} (h : ui = ((u &&& (2147483647 : Int32)) % (5 : Int32))) : 0 ≤ ui.toInt ∧ ui.toInt < 5 := by
  have m := c_mask u 2147483647 31 (by decide) (by decide)
  have r := rng32 u
  have q := (c_irem (u &&& (2147483647 : Int32)) 5 5 (by decide)).1 (by rw [m]; omega)
  rw [h, q]; omega
theorem own_ib {j n : Int32} {k : Int} (hn : n.toInt = k) (h : 0 ≤ j.toInt ∧ j.toInt < k) : ¬ j < 0 ∧ j < n := by
  rw [Int32.lt_iff_toInt_lt, Int32.lt_iff_toInt_lt, hn]
  have e0 : (0 : Int32).toInt = 0 := by decide
  omega
theorem own_pick (w0 w1 w2 w3 w4 : Addr) (ui : Int32) (h : 0 ≤ ui.toInt ∧ ui.toInt < 5) : ∃ u : Addr, ([(.ref w0), (.ref w1), (.ref w2), (.ref w3), (.ref w4)] : List Value).getD ui.toNatClampNeg .null = .ref u := by
  have q : ui.toNatClampNeg = 0 ∨ ui.toNatClampNeg = 1 ∨ ui.toNatClampNeg = 2 ∨ ui.toNatClampNeg = 3 ∨ ui.toNatClampNeg = 4 := by unfold Int32.toNatClampNeg; omega
  rcases q with q | q | q | q | q <;> rw [q] <;> exact ⟨_, rfl⟩
theorem own_md {m md : Int32} (h : md = (m &&& (15 : Int32))) : 0 ≤ md.toInt := by
  have q := c_mask m 15 4 (by decide) (by decide)
  rw [h, q]; omega
theorem own_nzJ {a : Int64} (h : ¬ a = 0) : a.toInt ≠ 0 := fun q => h (Int64.toInt_inj.mp (by rw [q]; rfl))
theorem own_nn {nn q : Int64} (h : (q = 0 ∧ nn = 1) ∨ (¬ q = 0 ∧ nn = q)) : nn.toInt ≠ 0 := by
  rcases h with ⟨_, rfl⟩ | ⟨h, rfl⟩
  · decide
  · exact own_nzJ h
theorem own_hh {q hv hh : Int64} (h0 : hv = (q >>> ((1 : Int32) &&& 0x3f).toInt64)) (h : (hv = 0 ∧ hh = 1) ∨ (¬ hv = 0 ∧ hh = hv)) : hh.toInt ≠ 0 ∧ ((2 : Int64) * hh).toInt = 2 * hh.toInt := by
  have r := rng64 q
  have s := c_lshr q 1 1 (by decide)
  rw [← h0] at s
  have e : ((2 ^ 1 : Nat) : Int) = 2 := by decide
  rw [e] at s
  have hb : hh.toInt ≠ 0 ∧ -4611686018427387904 ≤ hh.toInt ∧ hh.toInt < 4611686018427387904 := by
    rcases h with ⟨_, rfl⟩ | ⟨h, rfl⟩
    · decide
    · exact ⟨own_nzJ h, by omega, by omega⟩
  refine ⟨hb.1, ?_⟩
  have m := c_lmul 2 hh; have m2 := rng64 ((2 : Int64) * hh); have e2 : (2 : Int64).toInt = 2 := by decide
  rw [e2] at m; omega
theorem own_rn (a : Int64) {b : Int64} (hb : b.toInt ≠ 0) : Jvm.Free.Fl.NoNaN64 (rate a b) := nn64 (rate_fin a hb)
theorem own_z (x : UInt64) (hx : Jvm.FP.Core.DFin x) (h : zv x = 0) : cmpValue (FP.dcmp x 0) .l = 0 := (cv_eq _ _).mpr (cmp_eq hx.ne_nan dy_zero.nn (by rw [h]; exact Jvm.FP.Core.zval64_zero.symm))
theorem own_p (x : UInt64) (hx : Jvm.FP.Core.DFin x) (h : 0 < zv x) : 0 < cmpValue (FP.dcmp x 0) .l := (cv_gt_l _).mpr (cmp_gt hx.ne_nan dy_zero.nn (by rw [show zv 0 = 0 from Jvm.FP.Core.zval64_zero]; exact h))
theorem own_n (x : UInt64) (hx : Jvm.FP.Core.DFin x) (h : zv x < 0) : cmpValue (FP.dcmp x 0) .g < 0 := (cv_lt_g _).mpr (cmp_lt hx.ne_nan dy_zero.nn (by rw [show zv 0 = 0 from Jvm.FP.Core.zval64_zero]; exact h))
theorem own_eqv {x y : UInt64} (hx : Jvm.FP.Core.DFin x) (hy : Jvm.FP.Core.DFin y) (h : zv x = zv y) : cmpValue (FP.dcmp x y) .l = 0 := (cv_eq _ _).mpr (cmp_eq hx.ne_nan hy.ne_nan h)
theorem own_sg (a b : Int64) : ((0 : Int64) < a ↔ 0 < a.toInt) ∧ (¬ (0 : Int64) < a ↔ a.toInt ≤ 0) := by
  rw [Int64.lt_iff_toInt_lt]
  have e0 : (0 : Int64).toInt = 0 := by decide
  omega
theorem ef_rmRec (m : MethodId) (x0 : Addr) : entryFrame m #[(.ref x0)] 1 = mkF m 0 #[.val (.ref x0)] [] := by first | (simp [entryFrame, mkF, argsToLocals, Value.category]; done) | rfl
theorem d3_0 : decode jdk_30_method_1_code 0 = .ok (.aload_n 0, 1) := by decide +kernel
theorem d3_1 : decode jdk_30_method_1_code 1 = .ok (.invokespecial 1, 3) := by decide +kernel
theorem d3_4 : decode jdk_30_method_1_code 4 = .ok (.return_, 1) := by decide +kernel
theorem own_pn_java_lang_Record : plainName "java/lang/Record" = true := by first | (simp [plainName, overriddenIn]; done) | decide +kernel
def QRec (Z : State) (a0_ : Addr) (h0 : Heap) (n0 : Nat) (v : Option Value) (h : Heap) (L : List Loc) : Prop := v = none ∧ Fr n0 L ∧ h = h0
set_option maxRecDepth 65536 in
set_option maxHeartbeats 40000000 in
theorem rmRec (l : Launch) (Z : State) (a0 : Array Value) (hw : ∀ d ∈ tables_1, d.before a0 Z = true) (ws : List Jvm.Cond) (a0_ : Addr) (h0 : Heap) (n0 : Nat) (Z0 : n0 ≤ h0.size) :
    MetFree l (⟨"java/lang/Record", "<init>", "()V"⟩ : MethodName) (head1 (Jvm.Cond.code (⟨"java/lang/Record", "<init>", "()V"⟩ : MethodName) jdk_30_method_1_code 1 none :: ws) ({ frames := 1, cells := 0, slots := 0, locals := 12 } : Room)) (fun a U => a = #[(.ref a0_)] ∧ Z.Warmed39 U.vm ∧ U.heap = h0) (fun _ _ _ _ _ => True) (fun _ U o U' => ∃ v L, o = .returned v ∧ QRec Z a0_ h0 n0 v U'.heap L ∧ FrameEnd U o U' L ({ frames := 1, cells := 0, slots := 0, locals := 12 } : Room).cells ({ frames := 1, cells := 0, slots := 0, locals := 12 } : Room).slots) := by
  refine MetFree.of_bodySF (plainFor_of_name own_pn_java_lang_Record) hisR ?_
  intro p e s m args below meth c s₁ Bd hml0 hP hK
  obtain ⟨rfl, hZ, hh⟩ := hP
  have hx := Bd.exec
  have hby := Bd.bytes
  have hml : c.maxLocals = 1 := hml0
  have hown : s.vm.findClass "java/lang/Record" = some m.cls := findClass_of_methodNamed Bd.named
  have hnm := (name_of_methodNamed Bd.named Bd.method).1
  have X0 : Stand p l e ({ frames := 1, cells := 0, slots := 0, locals := 12 } : Room) s m #[(.ref a0_)] below meth c s₁ [] 0 0 := Stand.of_body Bd
  have e0 : s₁.heap = h0 := by rw [← hh, Bd.state]; rfl
  have N0 := Fr.nil n0
  have pre0 : ∀ t, Steps p.tables e below (s₁.setTop (mkF m 0 #[.val (.ref a0_)] [])) t → Steps p.tables e below (s₁.setTop (entryFrame m #[(.ref a0_)] 1)) t := fun t k => castTop (ef_rmRec m a0_) k
  have a1 : ∀ t, Steps p.tables e below (s₁.setTop (mkF m 1 #[.val (.ref a0_)] [(.ref a0_)])) t → Steps p.tables e below (s₁.setTop (entryFrame m #[(.ref a0_)] 1)) t := by
    intro t k
    refine pre0 t ?_
    show Steps p.tables e below (s₁.setTop (mkF m 0 #[.val (.ref a0_)] [])) _
    refine XS.aloadN X0.here hx rfl (hb hby d3_0) rfl rfl ?_
    exact k
  obtain ⟨T2, X2, e2, st2⟩ := initO X0 hx hZ hown (hw _ (List.mem_of_getElem? (i := 45) rfl)) (hw _ (List.mem_of_getElem? (i := 46) rfl)) (hw _ (List.mem_of_getElem? (i := 47) rfl)) e0 (g := (mkF m 1 #[.val (.ref a0_)] [(.ref a0_)])) rfl (by rw [hml]; rfl) rfl (hb hby d3_1) (by decide) (W := 0) (by show 2 * 0 + _ ≤ _; exact Nat.le_of_eq rfl) (by decide)
  have a3 : ∀ t, Steps p.tables e below (T2.setTop (mkF m 4 #[.val (.ref a0_)] [])) t → Steps p.tables e below (s₁.setTop (entryFrame m #[(.ref a0_)] 1)) t := fun t k => a1 t (st2 t k)
  obtain ⟨fs, hr, hrun, hended, hW, hsame⟩ := X2.leave (v := none) (fun _ => rfl)
  refine ⟨_, _, a3 _ ?_, hrun, hended, _, _, rfl, ?_, ⟨_, rfl⟩, hW, hsame.mono (by decide) (by decide)⟩
  · show Steps p.tables e below (T2.setTop (mkF m 4 #[.val (.ref a0_)] [])) _
    exact X2.returnOut hx Bd.returns (hb hby d3_4) hr
  · show QRec Z a0_ h0 n0 _ T2.heap _
    rw [e2]
    exact ⟨rfl, N0, rfl⟩
theorem ef_rmFI (m : MethodId) (x0 : Addr) (x1 : Addr) (x2 : UInt64) : entryFrame m #[(.ref x0), (.ref x1), (.double x2)] 4 = mkF m 0 #[.val (.ref x0), .val (.ref x1), .val (.double x2), .second] [] := by first | (simp [entryFrame, mkF, argsToLocals, Value.category]; done) | rfl
theorem d2_0 : decode prog_42_method_1_code 0 = .ok (.aload_n 0, 1) := by decide +kernel
theorem d2_1 : decode prog_42_method_1_code 1 = .ok (.invokespecial 1, 3) := by decide +kernel
theorem own_pd0 : parseMethodDescriptor "()V" = some ⟨[], none⟩ := by decide +kernel
theorem d2_4 : decode prog_42_method_1_code 4 = .ok (.aload_n 0, 1) := by decide +kernel
theorem d2_5 : decode prog_42_method_1_code 5 = .ok (.aload_n 1, 1) := by decide +kernel
theorem d2_6 : decode prog_42_method_1_code 6 = .ok (.putfield 7, 3) := by decide +kernel
theorem d2_9 : decode prog_42_method_1_code 9 = .ok (.aload_n 0, 1) := by decide +kernel
theorem d2_10 : decode prog_42_method_1_code 10 = .ok (.dload_n 2, 1) := by decide +kernel
theorem d2_11 : decode prog_42_method_1_code 11 = .ok (.putfield 13, 3) := by decide +kernel
theorem d2_14 : decode prog_42_method_1_code 14 = .ok (.return_, 1) := by decide +kernel
theorem own_pn_org_latchwork_cli_Figure : plainName "org/latchwork/cli/Figure" = true := by first | (simp [plainName, overriddenIn]; done) | decide +kernel
def QrmFI (Z : State) (a0_ : Addr) (u1 : Addr) (d2 : UInt64) (h0 : Heap) (n0 : Nat) (v : Option Value) (h : Heap) (L : List Loc) : Prop := v = none ∧ Fr n0 L ∧ Keep h0 h [a0_] ∧ Fld Z h a0_ "org/latchwork/cli/Figure" "unit" "Lorg/latchwork/cli/Figure$Unit;" (.ref u1) ∧ Fld Z h a0_ "org/latchwork/cli/Figure" "value" "D" (.double d2)
set_option maxRecDepth 65536 in
set_option maxHeartbeats 40000000 in
theorem rmFI (l : Launch) (Z : State) (a0 : Array Value) (hw : ∀ d ∈ tables_1, d.before a0 Z = true) (ws : List Jvm.Cond) (a0_ : Addr) (u1 : Addr) (d2 : UInt64) (h0 : Heap) (n0 : Nat) (Z0 : n0 ≤ h0.size) (E0 : Exa Z h0 a0_ "org/latchwork/cli/Figure") (g0 : n0 ≤ a0_) (F0_unit : Fld Z h0 a0_ "org/latchwork/cli/Figure" "unit" "Lorg/latchwork/cli/Figure$Unit;" .null) (F0_value : Fld Z h0 a0_ "org/latchwork/cli/Figure" "value" "D" (.double 0)) :
    MetFree l (⟨"org/latchwork/cli/Figure", "<init>", "(Lorg/latchwork/cli/Figure$Unit;D)V"⟩ : MethodName) (head1 (Jvm.Cond.code (⟨"org/latchwork/cli/Figure", "<init>", "(Lorg/latchwork/cli/Figure$Unit;D)V"⟩ : MethodName) prog_42_method_1_code 4 none :: ws) ({ frames := 2, cells := 0, slots := 0, locals := 24 } : Room)) (fun a U => a = #[(.ref a0_), (.ref u1), (.double d2)] ∧ Z.Warmed39 U.vm ∧ U.heap = h0) (fun _ _ _ _ _ => True) (fun _ U o U' => ∃ v L, o = .returned v ∧ QrmFI Z a0_ u1 d2 h0 n0 v U'.heap L ∧ FrameEnd U o U' L ({ frames := 2, cells := 0, slots := 0, locals := 24 } : Room).cells ({ frames := 2, cells := 0, slots := 0, locals := 24 } : Room).slots) := by
  refine MetFree.of_bodySF (plainFor_of_name own_pn_org_latchwork_cli_Figure) hisR ?_
  intro p e s m args below meth c s₁ Bd hml0 hP hK
  obtain ⟨rfl, hZ, hh⟩ := hP
  have hx := Bd.exec
  have hby := Bd.bytes
  have hml : c.maxLocals = 4 := hml0
  have hown : s.vm.findClass "org/latchwork/cli/Figure" = some m.cls := findClass_of_methodNamed Bd.named
  have hnm := (name_of_methodNamed Bd.named Bd.method).1
  have X0 : Stand p l e ({ frames := 2, cells := 0, slots := 0, locals := 24 } : Room) s m #[(.ref a0_), (.ref u1), (.double d2)] below meth c s₁ [] 0 0 := Stand.of_body Bd
  have e0 : s₁.heap = h0 := by rw [← hh, Bd.state]; rfl
  have N0 := Fr.nil n0
  have pre0 : ∀ t, Steps p.tables e below (s₁.setTop (mkF m 0 #[.val (.ref a0_), .val (.ref u1), .val (.double d2), .second] [])) t → Steps p.tables e below (s₁.setTop (entryFrame m #[(.ref a0_), (.ref u1), (.double d2)] 4)) t := fun t k => castTop (ef_rmFI m a0_ u1 d2) k
  have a1 : ∀ t, Steps p.tables e below (s₁.setTop (mkF m 1 #[.val (.ref a0_), .val (.ref u1), .val (.double d2), .second] [(.ref a0_)])) t → Steps p.tables e below (s₁.setTop (entryFrame m #[(.ref a0_), (.ref u1), (.double d2)] 4)) t := by
    intro t k
    refine pre0 t ?_
    show Steps p.tables e below (s₁.setTop (mkF m 0 #[.val (.ref a0_), .val (.ref u1), .val (.double d2), .second] [])) _
    refine XS.aloadN X0.here hx rfl (hb hby d2_0) rfl rfl ?_
    exact k
  obtain ⟨_, _, ⟨T2, L2, k2, n2⟩, -, X2, ⟨Lc2, hQ2, l2, y2, z2⟩, st2⟩ := X0.specialBack hx (y := (⟨"java/lang/Record", "<init>", "()V"⟩ : MethodName)) rfl hown (mvT hZ (hw _ (List.mem_of_getElem? (i := 40) rfl))) (mvT hZ (hw _ (List.mem_of_getElem? (i := 41) rfl))) (mvT hZ (hw _ (List.mem_of_getElem? (i := 44) rfl))) (by decide) (backOf (W := 0) (rmRec l Z a0 hw [] a0_ h0 n0 Z0 ) hZ (hw _ (List.mem_of_getElem? (i := 44) rfl)) (hw _ (List.mem_of_getElem? (i := 43) rfl)) (by decide) (by decide)) (g := (mkF m 1 #[.val (.ref a0_), .val (.ref u1), .val (.double d2), .second] [(.ref a0_)])) rfl (by rw [hml]; rfl) (Steps.refl _) (a := a0_) (argsL := []) (rest := []) (lenOf own_pd0 rfl) rfl (by show 2 * 0 + _ ≤ _; exact Nat.le_of_eq rfl) (hb hby d2_1) (fun _ _ => ⟨rfl, e0, (by decide : 0 + 0 ≤ _), (by decide : 0 + 0 ≤ _)⟩)
  dsimp only [Pt.U, Pt.locs, Pt.cells, Pt.slots] at X2 l2 y2 z2 st2 hQ2
  subst l2 y2 z2
  obtain ⟨rfl, N2q, e2q⟩ := hQ2
  have N2 := Fr.app N0 N2q
  have a3 : ∀ t, Steps p.tables e below (T2.setTop (mkF m 4 #[.val (.ref a0_), .val (.ref u1), .val (.double d2), .second] [])) t → Steps p.tables e below (s₁.setTop (entryFrame m #[(.ref a0_), (.ref u1), (.double d2)] 4)) t := fun t k => a1 t (st2.trans k)
  have a4 : ∀ t, Steps p.tables e below (T2.setTop (mkF m 6 #[.val (.ref a0_), .val (.ref u1), .val (.double d2), .second] [(.ref u1), (.ref a0_)])) t → Steps p.tables e below (s₁.setTop (entryFrame m #[(.ref a0_), (.ref u1), (.double d2)] 4)) t := by
    intro t k
    refine a3 t ?_
    show Steps p.tables e below (T2.setTop (mkF m 4 #[.val (.ref a0_), .val (.ref u1), .val (.double d2), .second] [])) _
    refine XS.aloadN X2.here hx rfl (hb hby d2_4) rfl rfl ?_
    refine XS.aloadN X2.here hx rfl (hb hby d2_5) rfl rfl ?_
    exact k
  obtain ⟨T5, h5, X5, e5, W5, st5⟩ := putF X2 hx hZ hown (host := "") (Or.inl (hw _ (List.mem_of_getElem? (i := 48) rfl))) Via.refl e2q F0_unit E0 (Or.inr ⟨(hw _ (List.mem_of_getElem? (i := 49) rfl)), rfl, hnm⟩) (hw _ (List.mem_of_getElem? (i := 35) rfl)) (ty := (.object "org/latchwork/cli/Figure$Unit")) (by decide) rfl rfl (g := (mkF m 6 #[.val (.ref a0_), .val (.ref u1), .val (.double d2), .second] [(.ref u1), (.ref a0_)])) rfl rfl (hb hby d2_6)
  have Fw5 := Fld.same W5 F0_unit
  have N5 := Fr.snoc X5 N2 g0
  have K5 : Keep h0 h5 [a0_] := Keep.wr (Keep.refl h0 [a0_]) W5 (Or.inl (List.mem_of_getElem? (i := 0) rfl))
  have a6 : ∀ t, Steps p.tables e below (T5.setTop (mkF m 9 #[.val (.ref a0_), .val (.ref u1), .val (.double d2), .second] [])) t → Steps p.tables e below (s₁.setTop (entryFrame m #[(.ref a0_), (.ref u1), (.double d2)] 4)) t := fun t k => a4 t (st5 t k)
  have a7 : ∀ t, Steps p.tables e below (T5.setTop (mkF m 11 #[.val (.ref a0_), .val (.ref u1), .val (.double d2), .second] [(.double d2), (.ref a0_)])) t → Steps p.tables e below (s₁.setTop (entryFrame m #[(.ref a0_), (.ref u1), (.double d2)] 4)) t := by
    intro t k
    refine a6 t ?_
    show Steps p.tables e below (T5.setTop (mkF m 9 #[.val (.ref a0_), .val (.ref u1), .val (.double d2), .second] [])) _
    refine XS.aloadN X5.here hx rfl (hb hby d2_9) rfl rfl ?_
    refine XS.dloadN X5.here hx rfl (hb hby d2_10) rfl ?_
    exact k
  obtain ⟨T8, h8, X8, e8, W8, st8⟩ := putF X5 hx hZ hown (host := "") (Or.inl (hw _ (List.mem_of_getElem? (i := 50) rfl))) Via.refl e5 (Fld.other W5 F0_value (Or.inr (slot_ne (Or.inr (hw _ (List.mem_of_getElem? (i := 51) rfl))) (Or.inr (hw _ (List.mem_of_getElem? (i := 49) rfl))) (by decide) (t := .double) (t' := (.object "org/latchwork/cli/Figure$Unit")) (by decide) (by decide)))) (Exa.wr W5 E0) (Or.inr ⟨(hw _ (List.mem_of_getElem? (i := 51) rfl)), rfl, hnm⟩) (hw _ (List.mem_of_getElem? (i := 35) rfl)) (ty := .double) (by decide) rfl rfl (g := (mkF m 11 #[.val (.ref a0_), .val (.ref u1), .val (.double d2), .second] [(.double d2), (.ref a0_)])) rfl rfl (hb hby d2_11)
  have Fw8 := Fld.same W8 (Fld.other W5 F0_value (Or.inr (slot_ne (Or.inr (hw _ (List.mem_of_getElem? (i := 51) rfl))) (Or.inr (hw _ (List.mem_of_getElem? (i := 49) rfl))) (by decide) (t := .double) (t' := (.object "org/latchwork/cli/Figure$Unit")) (by decide) (by decide))))
  have N8 := Fr.snoc X8 N5 g0
  have K8 : Keep h0 h8 [a0_] := Keep.wr K5 W8 (Or.inl (List.mem_of_getElem? (i := 0) rfl))
  have a9 : ∀ t, Steps p.tables e below (T8.setTop (mkF m 14 #[.val (.ref a0_), .val (.ref u1), .val (.double d2), .second] [])) t → Steps p.tables e below (s₁.setTop (entryFrame m #[(.ref a0_), (.ref u1), (.double d2)] 4)) t := fun t k => a7 t (st8 t k)
  obtain ⟨fs, hr, hrun, hended, hW, hsame⟩ := X8.leave (v := none) (fun _ => rfl)
  refine ⟨_, _, a9 _ ?_, hrun, hended, _, _, rfl, ?_, ⟨_, rfl⟩, hW, hsame.mono (by decide) (by decide)⟩
  · show Steps p.tables e below (T8.setTop (mkF m 14 #[.val (.ref a0_), .val (.ref u1), .val (.double d2), .second] [])) _
    exact X8.returnOut hx Bd.returns (hb hby d2_14) hr
  · show QrmFI Z a0_ u1 d2 h0 n0 _ T8.heap _
    rw [e8]
    exact ⟨rfl, N8, K8, (Fld.other W8 Fw5 (Or.inr (slot_ne (Or.inr (hw _ (List.mem_of_getElem? (i := 49) rfl))) (Or.inr (hw _ (List.mem_of_getElem? (i := 51) rfl))) (by decide) (t := (.object "org/latchwork/cli/Figure$Unit")) (t' := .double) (by decide) (by decide)))), Fw8⟩
theorem ef_rmRate (m : MethodId) (x0 : Addr) (x1 : Int64) (x2 : Int64) : entryFrame m #[(.ref x0), (.long x1), (.long x2)] 5 = mkF m 0 #[.val (.ref x0), .val (.long x1), .second, .val (.long x2), .second] [] := by first | (simp [entryFrame, mkF, argsToLocals, Value.category]; done) | rfl
theorem d1_0 : decode prog_42_method_2_code 0 = .ok (.new 8, 3) := by decide +kernel
theorem d1_3 : decode prog_42_method_2_code 3 = .ok (.dup, 1) := by decide +kernel
theorem d1_4 : decode prog_42_method_2_code 4 = .ok (.aload_n 0, 1) := by decide +kernel
theorem d1_5 : decode prog_42_method_2_code 5 = .ok (.lload_n 1, 1) := by decide +kernel
theorem d1_6 : decode prog_42_method_2_code 6 = .ok (.l2d, 1) := by decide +kernel
theorem d1_7 : decode prog_42_method_2_code 7 = .ok (.lload_n 3, 1) := by decide +kernel
theorem d1_8 : decode prog_42_method_2_code 8 = .ok (.l2d, 1) := by decide +kernel
theorem d1_9 : decode prog_42_method_2_code 9 = .ok (.ldc2_w 17, 3) := by decide +kernel
theorem d1_12 : decode prog_42_method_2_code 12 = .ok (.ddiv, 1) := by decide +kernel
theorem d1_13 : decode prog_42_method_2_code 13 = .ok (.ddiv, 1) := by decide +kernel
theorem d1_14 : decode prog_42_method_2_code 14 = .ok (.invokespecial 19, 3) := by decide +kernel
theorem own_pd1 : parseMethodDescriptor "(Lorg/latchwork/cli/Figure$Unit;D)V" = some ⟨[(.object "org/latchwork/cli/Figure$Unit"), .double], none⟩ := by decide +kernel
theorem d1_17 : decode prog_42_method_2_code 17 = .ok (.areturn, 1) := by decide +kernel
def QRate (Z : State) (u0 : Addr) (q1 : Int64) (q3 : Int64) (h0 : Heap) (n0 : Nat) (v : Option Value) (h : Heap) (L : List Loc) : Prop := ∃ b : Addr, v = some (.ref b) ∧ Fr n0 L ∧ Keep h0 h [] ∧ Exa Z h b "org/latchwork/cli/Figure" ∧ Fld Z h b "org/latchwork/cli/Figure" "unit" "Lorg/latchwork/cli/Figure$Unit;" (.ref u0) ∧ Fld Z h b "org/latchwork/cli/Figure" "value" "D" (.double (FP.ddiv (FP.l2d q1) (FP.ddiv (FP.l2d q3) (4741671816366391296 : UInt64))))
set_option maxRecDepth 65536 in
set_option maxHeartbeats 40000000 in
theorem rmRate (l : Launch) (Z : State) (a0 : Array Value) (hw : ∀ d ∈ tables_1, d.before a0 Z = true) (ws : List Jvm.Cond) (u0 : Addr) (q1 : Int64) (q3 : Int64) (h0 : Heap) (n0 : Nat) (Z0 : n0 ≤ h0.size) (hr : Jvm.Free.Fl.NoNaN64 (FP.ddiv (FP.l2d q1) (FP.ddiv (FP.l2d q3) (4741671816366391296 : UInt64)))) :
    MetFree l (⟨"org/latchwork/cli/Figure", "rate", "(Lorg/latchwork/cli/Figure$Unit;JJ)Lorg/latchwork/cli/Figure;"⟩ : MethodName) (head1 (Jvm.Cond.code (⟨"org/latchwork/cli/Figure", "rate", "(Lorg/latchwork/cli/Figure$Unit;JJ)Lorg/latchwork/cli/Figure;"⟩ : MethodName) prog_42_method_2_code 5 (some (.object "org/latchwork/cli/Figure")) :: ws) ({ frames := 3, cells := 1, slots := 2, locals := 40 } : Room)) (fun a U => a = #[(.ref u0), (.long q1), (.long q3)] ∧ Z.Warmed39 U.vm ∧ U.heap = h0) (fun _ _ _ _ _ => True) (fun _ U o U' => ∃ v L, o = .returned v ∧ QRate Z u0 q1 q3 h0 n0 v U'.heap L ∧ FrameEnd U o U' L ({ frames := 3, cells := 1, slots := 2, locals := 40 } : Room).cells ({ frames := 3, cells := 1, slots := 2, locals := 40 } : Room).slots) := by
  refine MetFree.of_bodySF (plainFor_of_name own_pn_org_latchwork_cli_Figure) hisR ?_
  intro p e s m args below meth c s₁ Bd hml0 hP hK
  obtain ⟨rfl, hZ, hh⟩ := hP
  have hx := Bd.exec
  have hby := Bd.bytes
  have hml : c.maxLocals = 5 := hml0
  have hown : s.vm.findClass "org/latchwork/cli/Figure" = some m.cls := findClass_of_methodNamed Bd.named
  have hnm := (name_of_methodNamed Bd.named Bd.method).1
  have X0 : Stand p l e ({ frames := 3, cells := 1, slots := 2, locals := 40 } : Room) s m #[(.ref u0), (.long q1), (.long q3)] below meth c s₁ [] 0 0 := Stand.of_body Bd
  have e0 : s₁.heap = h0 := by rw [← hh, Bd.state]; rfl
  have N0 := Fr.nil n0
  have pre0 : ∀ t, Steps p.tables e below (s₁.setTop (mkF m 0 #[.val (.ref u0), .val (.long q1), .second, .val (.long q3), .second] [])) t → Steps p.tables e below (s₁.setTop (entryFrame m #[(.ref u0), (.long q1), (.long q3)] 5)) t := fun t k => castTop (ef_rmRate m u0 q1 q3) k
  obtain ⟨T1, h1, X1, e1, E1, A1, D1, -, st1⟩ := newO X0 hx hZ hown (hw _ (List.mem_of_getElem? (i := 34) rfl)) (hw _ (List.mem_of_getElem? (i := 35) rfl)) (hw _ (List.mem_of_getElem? (i := 32) rfl)) e0 (g := (mkF m 0 #[.val (.ref u0), .val (.long q1), .second, .val (.long q3), .second] [])) rfl (hb hby d1_0) (by decide) (by decide)
  obtain ⟨b1, g1⟩ : ∃ z, z = h0.size := ⟨_, rfl⟩
  rw [← g1] at A1 D1 st1
  have g_b1 : n0 ≤ b1 := Nat.le_trans Z0 (Nat.le_of_eq g1.symm)
  have sz_b1 : h0.size ≤ b1 := Nat.le_trans ((Keep.refl h0 [])).1 (Nat.le_of_eq g1.symm)
  have K1 : Keep h0 h1 [] := Keep.ext (Keep.refl h0 []) E1
  have F_unit_b1 : Fld Z h1 b1 "org/latchwork/cli/Figure" "unit" "Lorg/latchwork/cli/Figure$Unit;" .null := D1 (Or.inr (hw _ (List.mem_of_getElem? (i := 49) rfl))) (ty := (.object "org/latchwork/cli/Figure$Unit")) (by decide)
  have F_value_b1 : Fld Z h1 b1 "org/latchwork/cli/Figure" "value" "D" (.double (0 : UInt64)) := D1 (Or.inr (hw _ (List.mem_of_getElem? (i := 51) rfl))) (ty := .double) (by decide)
  have a2 : ∀ t, Steps p.tables e below (T1.setTop (mkF m 3 #[.val (.ref u0), .val (.long q1), .second, .val (.long q3), .second] [(.ref b1)])) t → Steps p.tables e below (s₁.setTop (entryFrame m #[(.ref u0), (.long q1), (.long q3)] 5)) t := fun t k => pre0 t (st1 t k)
  have a3 : ∀ t, Steps p.tables e below (T1.setTop (mkF m 14 #[.val (.ref u0), .val (.long q1), .second, .val (.long q3), .second] [(.double (FP.ddiv (FP.l2d q1) (FP.ddiv (FP.l2d q3) (4741671816366391296 : UInt64)))), (.ref u0), (.ref b1), (.ref b1)])) t → Steps p.tables e below (s₁.setTop (entryFrame m #[(.ref u0), (.long q1), (.long q3)] 5)) t := by
    intro t k
    refine a2 t ?_
    show Steps p.tables e below (T1.setTop (mkF m 3 #[.val (.ref u0), .val (.long q1), .second, .val (.long q3), .second] [(.ref b1)])) _
    refine XS.dup X1.here hx rfl (hb hby d1_3) rfl rfl ?_
    refine XS.aloadN X1.here hx rfl (hb hby d1_4) rfl rfl ?_
    refine XS.lloadN X1.here hx rfl (hb hby d1_5) rfl ?_
    refine XS.l2dS X1.here hx rfl (hb hby d1_6) rfl rfl ?_
    refine XS.lloadN X1.here hx rfl (hb hby d1_7) rfl ?_
    refine XS.l2dS X1.here hx rfl (hb hby d1_8) rfl rfl ?_
    refine X1.ldc2DoubleC hx hown (mvT hZ (hw _ (List.mem_of_getElem? (i := 36) rfl))) (g := (mkF m 9 #[.val (.ref u0), .val (.long q1), .second, .val (.long q3), .second] [(.double (FP.l2d q3)), (.double (FP.l2d q1)), (.ref u0), (.ref b1), (.ref b1)])) rfl (hb hby d1_9) _ ?_
    refine XS.ddivS X1.here hx rfl (hb hby d1_12) rfl (secs_nn q3) rfl ?_
    refine XS.ddivS X1.here hx rfl (hb hby d1_13) rfl hr rfl ?_
    exact k
  obtain ⟨_, _, ⟨T4, L4, k4, n4⟩, -, X4, ⟨Lc4, hQ4, l4, y4, z4⟩, st4⟩ := X1.specialBack hx (y := (⟨"org/latchwork/cli/Figure", "<init>", "(Lorg/latchwork/cli/Figure$Unit;D)V"⟩ : MethodName)) rfl hown (mvT hZ (hw _ (List.mem_of_getElem? (i := 37) rfl))) (mvT hZ (hw _ (List.mem_of_getElem? (i := 38) rfl))) (mvT hZ (hw _ (List.mem_of_getElem? (i := 39) rfl))) (by decide) (backOf (W := 1) (rmFI l Z a0 hw [] b1 u0 (FP.ddiv (FP.l2d q1) (FP.ddiv (FP.l2d q3) (4741671816366391296 : UInt64)))  h1 n0 (Nat.le_trans Z0 E1.1) A1 g_b1 F_unit_b1 F_value_b1 ) hZ (hw _ (List.mem_of_getElem? (i := 39) rfl)) (hw _ (List.mem_of_getElem? (i := 32) rfl)) (by decide) (by decide)) (g := (mkF m 14 #[.val (.ref u0), .val (.long q1), .second, .val (.long q3), .second] [(.double (FP.ddiv (FP.l2d q1) (FP.ddiv (FP.l2d q3) (4741671816366391296 : UInt64)))), (.ref u0), (.ref b1), (.ref b1)])) rfl (by rw [hml]; rfl) (Steps.refl _) (a := b1) (argsL := [(.ref u0), (.double (FP.ddiv (FP.l2d q1) (FP.ddiv (FP.l2d q3) (4741671816366391296 : UInt64))))]) (rest := [(.ref b1)]) (lenOf own_pd1 rfl) rfl (by show 2 * 0 + _ ≤ _; exact Nat.le_of_eq rfl) (hb hby d1_14) (fun _ _ => ⟨rfl, e1, (by decide : 1 + 0 ≤ _), (by decide : 2 + 0 ≤ _)⟩)
  dsimp only [Pt.U, Pt.locs, Pt.cells, Pt.slots] at X4 l4 y4 z4 st4 hQ4
  subst l4 y4 z4
  obtain ⟨rfl, N4q, K4q, G4_0, G4_1⟩ := hQ4
  have N4 := Fr.app N0 N4q
  have KK4 : Keep h0 T4.heap [] := Keep.trans K1 K4q (allS (Or.inr sz_b1) all0)
  have a5 : ∀ t, Steps p.tables e below (T4.setTop (mkF m 17 #[.val (.ref u0), .val (.long q1), .second, .val (.long q3), .second] [(.ref b1)])) t → Steps p.tables e below (s₁.setTop (entryFrame m #[(.ref u0), (.long q1), (.long q3)] 5)) t := fun t k => a3 t (st4.trans k)
  obtain ⟨fs, hr, hrun, hended, hW, hsame⟩ := X4.leave (v := some (.ref b1)) (fun h => by rw [Bd.returns] at h; cases h)
  refine ⟨_, _, a5 _ ?_, hrun, hended, _, _, rfl, ?_, ⟨_, rfl⟩, hW, hsame.mono (by decide) (by decide)⟩
  · show Steps p.tables e below (T4.setTop (mkF m 17 #[.val (.ref u0), .val (.long q1), .second, .val (.long q3), .second] [(.ref b1)])) _
    exact retOut X4 hx Bd.returns rfl (Or.inr (Or.inr (Or.inr (Or.inr ⟨rfl, rfl, rfl⟩)))) (hb hby d1_17) hr
  · show QRate Z u0 q1 q3 h0 n0 _ T4.heap _
    exact ⟨_, rfl, N4, KK4, (A1.keep K4q), G4_0, G4_1⟩
theorem ef_rmU (m : MethodId) (x0 : Addr) : entryFrame m #[(.ref x0)] 1 = mkF m 0 #[.val (.ref x0)] [] := by first | (simp [entryFrame, mkF, argsToLocals, Value.category]; done) | rfl
theorem d5_0 : decode prog_42_method_6_code 0 = .ok (.aload_n 0, 1) := by decide +kernel
theorem d5_1 : decode prog_42_method_6_code 1 = .ok (.getfield 7, 3) := by decide +kernel
theorem d5_4 : decode prog_42_method_6_code 4 = .ok (.areturn, 1) := by decide +kernel
def QrmU (Z : State) (a0_ : Addr) (x1 : Addr) (h0 : Heap) (n0 : Nat) (v : Option Value) (h : Heap) (L : List Loc) : Prop := v = some (.ref x1) ∧ Fr n0 L ∧ h = h0
set_option maxRecDepth 65536 in
set_option maxHeartbeats 40000000 in
theorem rmU (l : Launch) (Z : State) (a0 : Array Value) (hw : ∀ d ∈ tables_1, d.before a0 Z = true) (ws : List Jvm.Cond) (a0_ : Addr) (x1 : Addr) (h0 : Heap) (n0 : Nat) (Z0 : n0 ≤ h0.size) (F1 : Fld Z h0 a0_ "org/latchwork/cli/Figure" "unit" "Lorg/latchwork/cli/Figure$Unit;" (.ref x1)) :
    MetFree l (⟨"org/latchwork/cli/Figure", "unit", "()Lorg/latchwork/cli/Figure$Unit;"⟩ : MethodName) (head1 (Jvm.Cond.code (⟨"org/latchwork/cli/Figure", "unit", "()Lorg/latchwork/cli/Figure$Unit;"⟩ : MethodName) prog_42_method_6_code 1 (some (.object "org/latchwork/cli/Figure$Unit")) :: ws) ({ frames := 0, cells := 0, slots := 0, locals := 0 } : Room)) (fun a U => a = #[(.ref a0_)] ∧ Z.Warmed39 U.vm ∧ U.heap = h0) (fun _ _ _ _ _ => True) (fun _ U o U' => ∃ v L, o = .returned v ∧ QrmU Z a0_ x1 h0 n0 v U'.heap L ∧ FrameEnd U o U' L ({ frames := 0, cells := 0, slots := 0, locals := 0 } : Room).cells ({ frames := 0, cells := 0, slots := 0, locals := 0 } : Room).slots) := by
  refine MetFree.of_bodySF (plainFor_of_name own_pn_org_latchwork_cli_Figure) hisR ?_
  intro p e s m args below meth c s₁ Bd hml0 hP hK
  obtain ⟨rfl, hZ, hh⟩ := hP
  have hx := Bd.exec
  have hby := Bd.bytes
  have hml : c.maxLocals = 1 := hml0
  have hown : s.vm.findClass "org/latchwork/cli/Figure" = some m.cls := findClass_of_methodNamed Bd.named
  have hnm := (name_of_methodNamed Bd.named Bd.method).1
  have X0 : Stand p l e ({ frames := 0, cells := 0, slots := 0, locals := 0 } : Room) s m #[(.ref a0_)] below meth c s₁ [] 0 0 := Stand.of_body Bd
  have e0 : s₁.heap = h0 := by rw [← hh, Bd.state]; rfl
  have N0 := Fr.nil n0
  have pre0 : ∀ t, Steps p.tables e below (s₁.setTop (mkF m 0 #[.val (.ref a0_)] [])) t → Steps p.tables e below (s₁.setTop (entryFrame m #[(.ref a0_)] 1)) t := fun t k => castTop (ef_rmU m a0_) k
  have a1 : ∀ t, Steps p.tables e below (s₁.setTop (mkF m 1 #[.val (.ref a0_)] [(.ref a0_)])) t → Steps p.tables e below (s₁.setTop (entryFrame m #[(.ref a0_)] 1)) t := by
    intro t k
    refine pre0 t ?_
    show Steps p.tables e below (s₁.setTop (mkF m 0 #[.val (.ref a0_)] [])) _
    refine XS.aloadN X0.here hx rfl (hb hby d5_0) rfl rfl ?_
    exact k
  obtain ⟨T2, X2, e2, st2⟩ := getF X0 hx hZ hown (host := "") (Or.inl (hw _ (List.mem_of_getElem? (i := 48) rfl))) Via.refl e0 F1 (g := (mkF m 1 #[.val (.ref a0_)] [(.ref a0_)])) rfl rfl (hb hby d5_1)
  have a3 : ∀ t, Steps p.tables e below (T2.setTop (mkF m 4 #[.val (.ref a0_)] [(.ref x1)])) t → Steps p.tables e below (s₁.setTop (entryFrame m #[(.ref a0_)] 1)) t := fun t k => a1 t (st2 t k)
  obtain ⟨fs, hr, hrun, hended, hW, hsame⟩ := X2.leave (v := some (.ref x1)) (fun h => by rw [Bd.returns] at h; cases h)
  refine ⟨_, _, a3 _ ?_, hrun, hended, _, _, rfl, ?_, ⟨_, rfl⟩, hW, hsame.mono (by decide) (by decide)⟩
  · show Steps p.tables e below (T2.setTop (mkF m 4 #[.val (.ref a0_)] [(.ref x1)])) _
    exact retOut X2 hx Bd.returns rfl (Or.inr (Or.inr (Or.inr (Or.inr ⟨rfl, rfl, rfl⟩)))) (hb hby d5_4) hr
  · show QrmU Z a0_ x1 h0 n0 _ T2.heap _
    rw [e2]
    exact ⟨rfl, N0, rfl⟩
theorem ef_rmVal (m : MethodId) (x0 : Addr) : entryFrame m #[(.ref x0)] 1 = mkF m 0 #[.val (.ref x0)] [] := by first | (simp [entryFrame, mkF, argsToLocals, Value.category]; done) | rfl
theorem d6_0 : decode prog_42_method_7_code 0 = .ok (.aload_n 0, 1) := by decide +kernel
theorem d6_1 : decode prog_42_method_7_code 1 = .ok (.getfield 13, 3) := by decide +kernel
theorem d6_4 : decode prog_42_method_7_code 4 = .ok (.dreturn, 1) := by decide +kernel
def QrmVal (Z : State) (a0_ : Addr) (x1 : UInt64) (h0 : Heap) (n0 : Nat) (v : Option Value) (h : Heap) (L : List Loc) : Prop := v = some (.double x1) ∧ Fr n0 L ∧ h = h0
set_option maxRecDepth 65536 in
set_option maxHeartbeats 40000000 in
theorem rmVal (l : Launch) (Z : State) (a0 : Array Value) (hw : ∀ d ∈ tables_1, d.before a0 Z = true) (ws : List Jvm.Cond) (a0_ : Addr) (x1 : UInt64) (h0 : Heap) (n0 : Nat) (Z0 : n0 ≤ h0.size) (F1 : Fld Z h0 a0_ "org/latchwork/cli/Figure" "value" "D" (.double x1)) :
    MetFree l (⟨"org/latchwork/cli/Figure", "value", "()D"⟩ : MethodName) (head1 (Jvm.Cond.code (⟨"org/latchwork/cli/Figure", "value", "()D"⟩ : MethodName) prog_42_method_7_code 1 (some .double) :: ws) ({ frames := 0, cells := 0, slots := 0, locals := 0 } : Room)) (fun a U => a = #[(.ref a0_)] ∧ Z.Warmed39 U.vm ∧ U.heap = h0) (fun _ _ _ _ _ => True) (fun _ U o U' => ∃ v L, o = .returned v ∧ QrmVal Z a0_ x1 h0 n0 v U'.heap L ∧ FrameEnd U o U' L ({ frames := 0, cells := 0, slots := 0, locals := 0 } : Room).cells ({ frames := 0, cells := 0, slots := 0, locals := 0 } : Room).slots) := by
  refine MetFree.of_bodySF (plainFor_of_name own_pn_org_latchwork_cli_Figure) hisR ?_
  intro p e s m args below meth c s₁ Bd hml0 hP hK
  obtain ⟨rfl, hZ, hh⟩ := hP
  have hx := Bd.exec
  have hby := Bd.bytes
  have hml : c.maxLocals = 1 := hml0
  have hown : s.vm.findClass "org/latchwork/cli/Figure" = some m.cls := findClass_of_methodNamed Bd.named
  have hnm := (name_of_methodNamed Bd.named Bd.method).1
  have X0 : Stand p l e ({ frames := 0, cells := 0, slots := 0, locals := 0 } : Room) s m #[(.ref a0_)] below meth c s₁ [] 0 0 := Stand.of_body Bd
  have e0 : s₁.heap = h0 := by rw [← hh, Bd.state]; rfl
  have N0 := Fr.nil n0
  have pre0 : ∀ t, Steps p.tables e below (s₁.setTop (mkF m 0 #[.val (.ref a0_)] [])) t → Steps p.tables e below (s₁.setTop (entryFrame m #[(.ref a0_)] 1)) t := fun t k => castTop (ef_rmVal m a0_) k
  have a1 : ∀ t, Steps p.tables e below (s₁.setTop (mkF m 1 #[.val (.ref a0_)] [(.ref a0_)])) t → Steps p.tables e below (s₁.setTop (entryFrame m #[(.ref a0_)] 1)) t := by
    intro t k
    refine pre0 t ?_
    show Steps p.tables e below (s₁.setTop (mkF m 0 #[.val (.ref a0_)] [])) _
    refine XS.aloadN X0.here hx rfl (hb hby d6_0) rfl rfl ?_
    exact k
  obtain ⟨T2, X2, e2, st2⟩ := getF X0 hx hZ hown (host := "") (Or.inl (hw _ (List.mem_of_getElem? (i := 50) rfl))) Via.refl e0 F1 (g := (mkF m 1 #[.val (.ref a0_)] [(.ref a0_)])) rfl rfl (hb hby d6_1)
  have a3 : ∀ t, Steps p.tables e below (T2.setTop (mkF m 4 #[.val (.ref a0_)] [(.double x1)])) t → Steps p.tables e below (s₁.setTop (entryFrame m #[(.ref a0_)] 1)) t := fun t k => a1 t (st2 t k)
  obtain ⟨fs, hr, hrun, hended, hW, hsame⟩ := X2.leave (v := some (.double x1)) (fun h => by rw [Bd.returns] at h; cases h)
  refine ⟨_, _, a3 _ ?_, hrun, hended, _, _, rfl, ?_, ⟨_, rfl⟩, hW, hsame.mono (by decide) (by decide)⟩
  · show Steps p.tables e below (T2.setTop (mkF m 4 #[.val (.ref a0_)] [(.double x1)])) _
    exact retOut X2 hx Bd.returns rfl (Or.inr (Or.inr (Or.inl ⟨rfl, rfl, _, rfl⟩))) (hb hby d6_4) hr
  · show QrmVal Z a0_ x1 h0 n0 _ T2.heap _
    rw [e2]
    exact ⟨rfl, N0, rfl⟩
theorem ef_rm0 (m : MethodId) (x0 : Int32) (x1 : Int32) (x2 : Int64) (x3 : Int64) : entryFrame m #[(.int x0), (.int x1), (.long x2), (.long x3)] maxLocals = mkF m 0 #[.val (.int x0), .val (.int x1), .val (.long x2), .second, .val (.long x3), .second, .unset, .unset, .unset, .unset, .unset, .unset, .unset, .unset, .unset, .unset, .unset, .unset, .unset] [] := by first | (simp [entryFrame, mkF, argsToLocals, Value.category, maxLocals]; done) | rfl
theorem own_pd2 : parseMethodDescriptor "(Lorg/latchwork/cli/Figure$Unit;JJ)Lorg/latchwork/cli/Figure;" = some ⟨[(.object "org/latchwork/cli/Figure$Unit"), .long, .long], some (.object "org/latchwork/cli/Figure")⟩ := by decide +kernel
theorem own_pd3 : parseMethodDescriptor "()Lorg/latchwork/cli/Figure$Unit;" = some ⟨[], some (.object "org/latchwork/cli/Figure$Unit")⟩ := by decide +kernel
theorem own_pd4 : parseMethodDescriptor "()D" = some ⟨[], some .double⟩ := by decide +kernel
theorem own_pn_org_latchwork_cli_FigureRatePinLaw : plainName "org/latchwork/cli/FigureRatePinLaw" = true := by first | (simp [plainName, overriddenIn]; done) | decide +kernel
def Q0 (Z : State) (p0 : Int32) (p1 : Int32) (q2 : Int64) (q3 : Int64) (w_OPS_PER_S : Addr) (w_ITEMS_PER_S : Addr) (w_ROUNDS_PER_S : Addr) (w_ENTRIES_PER_S : Addr) (w_WRITER_WAIT_MAX_MS : Addr) (h0 : Heap) (n0 : Nat) (v : Option Value) (h : Heap) (L : List Loc) : Prop := v = some (.int 1) ∧ Fr n0 L
set_option maxRecDepth 65536 in
set_option maxHeartbeats 40000000 in
theorem rm0 (l : Launch) (Z : State) (a0 : Array Value) (hw : ∀ d ∈ tables_1, d.before a0 Z = true) (ws : List Jvm.Cond) (p0 : Int32) (p1 : Int32) (q2 : Int64) (q3 : Int64) (w_OPS_PER_S : Addr) (w_ITEMS_PER_S : Addr) (w_ROUNDS_PER_S : Addr) (w_ENTRIES_PER_S : Addr) (w_WRITER_WAIT_MAX_MS : Addr) (h0 : Heap) (n0 : Nat) (Z0 : n0 ≤ h0.size) (S_OPS_PER_S : Sta Z h0 "org/latchwork/cli/Figure$Unit" "OPS_PER_S" "Lorg/latchwork/cli/Figure$Unit;" (.ref w_OPS_PER_S)) (S_ITEMS_PER_S : Sta Z h0 "org/latchwork/cli/Figure$Unit" "ITEMS_PER_S" "Lorg/latchwork/cli/Figure$Unit;" (.ref w_ITEMS_PER_S)) (S_ROUNDS_PER_S : Sta Z h0 "org/latchwork/cli/Figure$Unit" "ROUNDS_PER_S" "Lorg/latchwork/cli/Figure$Unit;" (.ref w_ROUNDS_PER_S)) (S_ENTRIES_PER_S : Sta Z h0 "org/latchwork/cli/Figure$Unit" "ENTRIES_PER_S" "Lorg/latchwork/cli/Figure$Unit;" (.ref w_ENTRIES_PER_S)) (S_WRITER_WAIT_MAX_MS : Sta Z h0 "org/latchwork/cli/Figure$Unit" "WRITER_WAIT_MAX_MS" "Lorg/latchwork/cli/Figure$Unit;" (.ref w_WRITER_WAIT_MAX_MS)) (X_OPS_PER_S : Exa Z h0 w_OPS_PER_S "org/latchwork/cli/Figure$Unit") (X_ITEMS_PER_S : Exa Z h0 w_ITEMS_PER_S "org/latchwork/cli/Figure$Unit") (X_ROUNDS_PER_S : Exa Z h0 w_ROUNDS_PER_S "org/latchwork/cli/Figure$Unit") (X_ENTRIES_PER_S : Exa Z h0 w_ENTRIES_PER_S "org/latchwork/cli/Figure$Unit") (X_WRITER_WAIT_MAX_MS : Exa Z h0 w_WRITER_WAIT_MAX_MS "org/latchwork/cli/Figure$Unit") :
    MetFree l x (head1 (Jvm.Cond.code x code maxLocals ret :: ws) room_1) (fun a U => a = #[(.int p0), (.int p1), (.long q2), (.long q3)] ∧ Z.Warmed39 U.vm ∧ U.heap = h0) (fun _ _ _ _ _ => True) (fun _ U o U' => ∃ v L, o = .returned v ∧ Q0 Z p0 p1 q2 q3 w_OPS_PER_S w_ITEMS_PER_S w_ROUNDS_PER_S w_ENTRIES_PER_S w_WRITER_WAIT_MAX_MS h0 n0 v U'.heap L ∧ FrameEnd U o U' L room_1.cells room_1.slots) := by
  refine MetFree.of_bodySF (plainFor_of_name own_pn_org_latchwork_cli_FigureRatePinLaw) hisR ?_
  intro p e s m args below meth c s₁ Bd hml0 hP hK
  obtain ⟨rfl, hZ, hh⟩ := hP
  have hx := Bd.exec
  have hby := Bd.bytes
  have hml : c.maxLocals = 19 := hml0
  have hown : s.vm.findClass "org/latchwork/cli/FigureRatePinLaw" = some m.cls := findClass_of_methodNamed Bd.named
  have hnm := (name_of_methodNamed Bd.named Bd.method).1
  have X0 : Stand p l e room_1 s m #[(.int p0), (.int p1), (.long q2), (.long q3)] below meth c s₁ [] 0 0 := Stand.of_body Bd
  have e0 : s₁.heap = h0 := by rw [← hh, Bd.state]; rfl
  have N0 := Fr.nil n0
  have pre0 : ∀ t, Steps p.tables e below (s₁.setTop (mkF m 0 #[.val (.int p0), .val (.int p1), .val (.long q2), .second, .val (.long q3), .second, .unset, .unset, .unset, .unset, .unset, .unset, .unset, .unset, .unset, .unset, .unset, .unset, .unset] [])) t → Steps p.tables e below (s₁.setTop (entryFrame m #[(.int p0), (.int p1), (.long q2), (.long q3)] maxLocals)) t := fun t k => castTop (ef_rm0 m p0 p1 q2 q3) k
  have a1 : ∀ t, Steps p.tables e below (s₁.setTop (mkF m 1 #[.val (.int p0), .val (.int p1), .val (.long q2), .second, .val (.long q3), .second, .unset, .unset, .unset, .unset, .unset, .unset, .unset, .unset, .unset, .unset, .unset, .unset, .unset] [(.int (5 : Int32))])) t → Steps p.tables e below (s₁.setTop (entryFrame m #[(.int p0), (.int p1), (.long q2), (.long q3)] maxLocals)) t := by
    intro t k
    refine pre0 t ?_
    show Steps p.tables e below (s₁.setTop (mkF m 0 #[.val (.int p0), .val (.int p1), .val (.long q2), .second, .val (.long q3), .second, .unset, .unset, .unset, .unset, .unset, .unset, .unset, .unset, .unset, .unset, .unset, .unset, .unset] [])) _
    refine XS.iconst X0.here hx rfl (hb hby at_0) ?_
    exact k
  obtain ⟨T2, h2, kk2, X2, e2, E2, A2, O2, st2⟩ := newR X0 hx hZ hown (hw _ (List.mem_of_getElem? (i := 0) rfl)) (hw _ (List.mem_of_getElem? (i := 1) rfl)) e0 (g := (mkF m 1 #[.val (.int p0), .val (.int p1), .val (.long q2), .second, .val (.long q3), .second, .unset, .unset, .unset, .unset, .unset, .unset, .unset, .unset, .unset, .unset, .unset, .unset, .unset] [(.int (5 : Int32))])) rfl (hb hby at_1) rfl (by decide) (cap := 5) (by decide) (by decide) (by decide) (by decide)
  obtain ⟨b2, g2⟩ : ∃ z, z = h0.size := ⟨_, rfl⟩
  rw [← g2] at A2 st2
  have g_b2 : n0 ≤ b2 := Nat.le_trans Z0 (Nat.le_of_eq g2.symm)
  have sz_b2 : h0.size ≤ b2 := Nat.le_trans ((Keep.refl h0 [])).1 (Nat.le_of_eq g2.symm)
  have V_b2 : Arv Z h2 b2 kk2 (.object "org/latchwork/cli/Figure$Unit") (5 : Int32) [.null, .null, .null, .null, .null] .null := (Arv.new A2 (by decide)).pad (pad_rep [] .null 5)
  have K2 : Keep h0 h2 [] := Keep.ext (Keep.refl h0 []) E2
  have a3 : ∀ t, Steps p.tables e below (T2.setTop (mkF m 4 #[.val (.int p0), .val (.int p1), .val (.long q2), .second, .val (.long q3), .second, .unset, .unset, .unset, .unset, .unset, .unset, .unset, .unset, .unset, .unset, .unset, .unset, .unset] [(.ref b2)])) t → Steps p.tables e below (s₁.setTop (entryFrame m #[(.int p0), (.int p1), (.long q2), (.long q3)] maxLocals)) t := fun t k => a1 t (st2 t k)
  have a4 : ∀ t, Steps p.tables e below (T2.setTop (mkF m 6 #[.val (.int p0), .val (.int p1), .val (.long q2), .second, .val (.long q3), .second, .unset, .unset, .unset, .unset, .unset, .unset, .unset, .unset, .unset, .unset, .unset, .unset, .unset] [(.int (0 : Int32)), (.ref b2), (.ref b2)])) t → Steps p.tables e below (s₁.setTop (entryFrame m #[(.int p0), (.int p1), (.long q2), (.long q3)] maxLocals)) t := by
    intro t k
    refine a3 t ?_
    show Steps p.tables e below (T2.setTop (mkF m 4 #[.val (.int p0), .val (.int p1), .val (.long q2), .second, .val (.long q3), .second, .unset, .unset, .unset, .unset, .unset, .unset, .unset, .unset, .unset, .unset, .unset, .unset, .unset] [(.ref b2)])) _
    refine XS.dup X2.here hx rfl (hb hby at_4) rfl rfl ?_
    refine XS.iconst X2.here hx rfl (hb hby at_5) ?_
    exact k
  obtain ⟨T5, X5, e5, st5⟩ := getS2 X2 hx hZ hown (host := "") (Or.inl (hw _ (List.mem_of_getElem? (i := 2) rfl))) Via.refl e2 (S_OPS_PER_S.ext E2) (g := (mkF m 6 #[.val (.int p0), .val (.int p1), .val (.long q2), .second, .val (.long q3), .second, .unset, .unset, .unset, .unset, .unset, .unset, .unset, .unset, .unset, .unset, .unset, .unset, .unset] [(.int (0 : Int32)), (.ref b2), (.ref b2)])) rfl (hb hby at_6)
  have a6 : ∀ t, Steps p.tables e below (T5.setTop (mkF m 9 #[.val (.int p0), .val (.int p1), .val (.long q2), .second, .val (.long q3), .second, .unset, .unset, .unset, .unset, .unset, .unset, .unset, .unset, .unset, .unset, .unset, .unset, .unset] [(.ref w_OPS_PER_S), (.int (0 : Int32)), (.ref b2), (.ref b2)])) t → Steps p.tables e below (s₁.setTop (entryFrame m #[(.int p0), (.int p1), (.long q2), (.long q3)] maxLocals)) t := fun t k => a4 t (st5 t k)
  obtain ⟨cl7, Ar7, qc7, Sz7, Nn7, Hs7, Gs7⟩ := id V_b2
  have hin7 : ¬ ((0 : Int32) < 0 ∨ cl7.slots.size ≤ ((0 : Int32)).toNatClampNeg) := inb_of Sz7 ⟨by decide, by decide⟩
  obtain ⟨T8, h8, X8, e8, W8, st8⟩ := stR X5 hx hZ e5 Ar7 (j := (0 : Int32)) hin7 rfl (Sto.ofV Ar7 qc7 O2 (Ins.self (X_OPS_PER_S.ext E2))) (g := (mkF m 9 #[.val (.int p0), .val (.int p1), .val (.long q2), .second, .val (.long q3), .second, .unset, .unset, .unset, .unset, .unset, .unset, .unset, .unset, .unset, .unset, .unset, .unset, .unset] [(.ref w_OPS_PER_S), (.int (0 : Int32)), (.ref b2), (.ref b2)])) rfl rfl (hb hby at_9)
  have V8 : Arv Z h8 b2 kk2 (.object "org/latchwork/cli/Figure$Unit") (5 : Int32) [(.ref w_OPS_PER_S), .null, .null, .null, .null] .null := Arv.set Ar7 qc7 Sz7 Nn7 Hs7 Gs7 rfl W8 0 rfl (Nat.le_of_ble_eq_true rfl)
  have N8 := Fr.snoc X8 N0 g_b2
  have K8 : Keep h0 h8 [] := Keep.wr K2 W8 (Or.inr sz_b2)
  have a9 : ∀ t, Steps p.tables e below (T8.setTop (mkF m 10 #[.val (.int p0), .val (.int p1), .val (.long q2), .second, .val (.long q3), .second, .unset, .unset, .unset, .unset, .unset, .unset, .unset, .unset, .unset, .unset, .unset, .unset, .unset] [(.ref b2)])) t → Steps p.tables e below (s₁.setTop (entryFrame m #[(.int p0), (.int p1), (.long q2), (.long q3)] maxLocals)) t := fun t k => a6 t (st8 t k)
  have a10 : ∀ t, Steps p.tables e below (T8.setTop (mkF m 12 #[.val (.int p0), .val (.int p1), .val (.long q2), .second, .val (.long q3), .second, .unset, .unset, .unset, .unset, .unset, .unset, .unset, .unset, .unset, .unset, .unset, .unset, .unset] [(.int (1 : Int32)), (.ref b2), (.ref b2)])) t → Steps p.tables e below (s₁.setTop (entryFrame m #[(.int p0), (.int p1), (.long q2), (.long q3)] maxLocals)) t := by
    intro t k
    refine a9 t ?_
    show Steps p.tables e below (T8.setTop (mkF m 10 #[.val (.int p0), .val (.int p1), .val (.long q2), .second, .val (.long q3), .second, .unset, .unset, .unset, .unset, .unset, .unset, .unset, .unset, .unset, .unset, .unset, .unset, .unset] [(.ref b2)])) _
    refine XS.dup X8.here hx rfl (hb hby at_10) rfl rfl ?_
    refine XS.iconst X8.here hx rfl (hb hby at_11) ?_
    exact k
  obtain ⟨T11, X11, e11, st11⟩ := getS2 X8 hx hZ hown (host := "") (Or.inl (hw _ (List.mem_of_getElem? (i := 6) rfl))) Via.refl e8 (Sta.wr W8 (S_ITEMS_PER_S.ext E2)) (g := (mkF m 12 #[.val (.int p0), .val (.int p1), .val (.long q2), .second, .val (.long q3), .second, .unset, .unset, .unset, .unset, .unset, .unset, .unset, .unset, .unset, .unset, .unset, .unset, .unset] [(.int (1 : Int32)), (.ref b2), (.ref b2)])) rfl (hb hby at_12)
  have a12 : ∀ t, Steps p.tables e below (T11.setTop (mkF m 15 #[.val (.int p0), .val (.int p1), .val (.long q2), .second, .val (.long q3), .second, .unset, .unset, .unset, .unset, .unset, .unset, .unset, .unset, .unset, .unset, .unset, .unset, .unset] [(.ref w_ITEMS_PER_S), (.int (1 : Int32)), (.ref b2), (.ref b2)])) t → Steps p.tables e below (s₁.setTop (entryFrame m #[(.int p0), (.int p1), (.long q2), (.long q3)] maxLocals)) t := fun t k => a10 t (st11 t k)
  obtain ⟨cl13, Ar13, qc13, Sz13, Nn13, Hs13, Gs13⟩ := id V8
  have hin13 : ¬ ((1 : Int32) < 0 ∨ cl13.slots.size ≤ ((1 : Int32)).toNatClampNeg) := inb_of Sz13 ⟨by decide, by decide⟩
  obtain ⟨T14, h14, X14, e14, W14, st14⟩ := stR X11 hx hZ e11 Ar13 (j := (1 : Int32)) hin13 rfl (Sto.ofV Ar13 qc13 O2 (Ins.self (Exa.wr W8 (X_ITEMS_PER_S.ext E2)))) (g := (mkF m 15 #[.val (.int p0), .val (.int p1), .val (.long q2), .second, .val (.long q3), .second, .unset, .unset, .unset, .unset, .unset, .unset, .unset, .unset, .unset, .unset, .unset, .unset, .unset] [(.ref w_ITEMS_PER_S), (.int (1 : Int32)), (.ref b2), (.ref b2)])) rfl rfl (hb hby at_15)
  have V14 : Arv Z h14 b2 kk2 (.object "org/latchwork/cli/Figure$Unit") (5 : Int32) [(.ref w_OPS_PER_S), (.ref w_ITEMS_PER_S), .null, .null, .null] .null := Arv.set Ar13 qc13 Sz13 Nn13 Hs13 Gs13 rfl W14 1 rfl (Nat.le_of_ble_eq_true rfl)
  have N14 := Fr.snoc X14 N8 g_b2
  have K14 : Keep h0 h14 [] := Keep.wr K8 W14 (Or.inr sz_b2)
  have a15 : ∀ t, Steps p.tables e below (T14.setTop (mkF m 16 #[.val (.int p0), .val (.int p1), .val (.long q2), .second, .val (.long q3), .second, .unset, .unset, .unset, .unset, .unset, .unset, .unset, .unset, .unset, .unset, .unset, .unset, .unset] [(.ref b2)])) t → Steps p.tables e below (s₁.setTop (entryFrame m #[(.int p0), (.int p1), (.long q2), (.long q3)] maxLocals)) t := fun t k => a12 t (st14 t k)
  have a16 : ∀ t, Steps p.tables e below (T14.setTop (mkF m 18 #[.val (.int p0), .val (.int p1), .val (.long q2), .second, .val (.long q3), .second, .unset, .unset, .unset, .unset, .unset, .unset, .unset, .unset, .unset, .unset, .unset, .unset, .unset] [(.int (2 : Int32)), (.ref b2), (.ref b2)])) t → Steps p.tables e below (s₁.setTop (entryFrame m #[(.int p0), (.int p1), (.long q2), (.long q3)] maxLocals)) t := by
    intro t k
    refine a15 t ?_
    show Steps p.tables e below (T14.setTop (mkF m 16 #[.val (.int p0), .val (.int p1), .val (.long q2), .second, .val (.long q3), .second, .unset, .unset, .unset, .unset, .unset, .unset, .unset, .unset, .unset, .unset, .unset, .unset, .unset] [(.ref b2)])) _
    refine XS.dup X14.here hx rfl (hb hby at_16) rfl rfl ?_
    refine XS.iconst X14.here hx rfl (hb hby at_17) ?_
    exact k
  obtain ⟨T17, X17, e17, st17⟩ := getS2 X14 hx hZ hown (host := "") (Or.inl (hw _ (List.mem_of_getElem? (i := 8) rfl))) Via.refl e14 (Sta.wr W14 (Sta.wr W8 (S_ROUNDS_PER_S.ext E2))) (g := (mkF m 18 #[.val (.int p0), .val (.int p1), .val (.long q2), .second, .val (.long q3), .second, .unset, .unset, .unset, .unset, .unset, .unset, .unset, .unset, .unset, .unset, .unset, .unset, .unset] [(.int (2 : Int32)), (.ref b2), (.ref b2)])) rfl (hb hby at_18)
  have a18 : ∀ t, Steps p.tables e below (T17.setTop (mkF m 21 #[.val (.int p0), .val (.int p1), .val (.long q2), .second, .val (.long q3), .second, .unset, .unset, .unset, .unset, .unset, .unset, .unset, .unset, .unset, .unset, .unset, .unset, .unset] [(.ref w_ROUNDS_PER_S), (.int (2 : Int32)), (.ref b2), (.ref b2)])) t → Steps p.tables e below (s₁.setTop (entryFrame m #[(.int p0), (.int p1), (.long q2), (.long q3)] maxLocals)) t := fun t k => a16 t (st17 t k)
  obtain ⟨cl19, Ar19, qc19, Sz19, Nn19, Hs19, Gs19⟩ := id V14
  have hin19 : ¬ ((2 : Int32) < 0 ∨ cl19.slots.size ≤ ((2 : Int32)).toNatClampNeg) := inb_of Sz19 ⟨by decide, by decide⟩
  obtain ⟨T20, h20, X20, e20, W20, st20⟩ := stR X17 hx hZ e17 Ar19 (j := (2 : Int32)) hin19 rfl (Sto.ofV Ar19 qc19 O2 (Ins.self (Exa.wr W14 (Exa.wr W8 (X_ROUNDS_PER_S.ext E2))))) (g := (mkF m 21 #[.val (.int p0), .val (.int p1), .val (.long q2), .second, .val (.long q3), .second, .unset, .unset, .unset, .unset, .unset, .unset, .unset, .unset, .unset, .unset, .unset, .unset, .unset] [(.ref w_ROUNDS_PER_S), (.int (2 : Int32)), (.ref b2), (.ref b2)])) rfl rfl (hb hby at_21)
  have V20 : Arv Z h20 b2 kk2 (.object "org/latchwork/cli/Figure$Unit") (5 : Int32) [(.ref w_OPS_PER_S), (.ref w_ITEMS_PER_S), (.ref w_ROUNDS_PER_S), .null, .null] .null := Arv.set Ar19 qc19 Sz19 Nn19 Hs19 Gs19 rfl W20 2 rfl (Nat.le_of_ble_eq_true rfl)
  have N20 := Fr.snoc X20 N14 g_b2
  have K20 : Keep h0 h20 [] := Keep.wr K14 W20 (Or.inr sz_b2)
  have a21 : ∀ t, Steps p.tables e below (T20.setTop (mkF m 22 #[.val (.int p0), .val (.int p1), .val (.long q2), .second, .val (.long q3), .second, .unset, .unset, .unset, .unset, .unset, .unset, .unset, .unset, .unset, .unset, .unset, .unset, .unset] [(.ref b2)])) t → Steps p.tables e below (s₁.setTop (entryFrame m #[(.int p0), (.int p1), (.long q2), (.long q3)] maxLocals)) t := fun t k => a18 t (st20 t k)
  have a22 : ∀ t, Steps p.tables e below (T20.setTop (mkF m 24 #[.val (.int p0), .val (.int p1), .val (.long q2), .second, .val (.long q3), .second, .unset, .unset, .unset, .unset, .unset, .unset, .unset, .unset, .unset, .unset, .unset, .unset, .unset] [(.int (3 : Int32)), (.ref b2), (.ref b2)])) t → Steps p.tables e below (s₁.setTop (entryFrame m #[(.int p0), (.int p1), (.long q2), (.long q3)] maxLocals)) t := by
    intro t k
    refine a21 t ?_
    show Steps p.tables e below (T20.setTop (mkF m 22 #[.val (.int p0), .val (.int p1), .val (.long q2), .second, .val (.long q3), .second, .unset, .unset, .unset, .unset, .unset, .unset, .unset, .unset, .unset, .unset, .unset, .unset, .unset] [(.ref b2)])) _
    refine XS.dup X20.here hx rfl (hb hby at_22) rfl rfl ?_
    refine XS.iconst X20.here hx rfl (hb hby at_23) ?_
    exact k
  obtain ⟨T23, X23, e23, st23⟩ := getS2 X20 hx hZ hown (host := "") (Or.inl (hw _ (List.mem_of_getElem? (i := 10) rfl))) Via.refl e20 (Sta.wr W20 (Sta.wr W14 (Sta.wr W8 (S_ENTRIES_PER_S.ext E2)))) (g := (mkF m 24 #[.val (.int p0), .val (.int p1), .val (.long q2), .second, .val (.long q3), .second, .unset, .unset, .unset, .unset, .unset, .unset, .unset, .unset, .unset, .unset, .unset, .unset, .unset] [(.int (3 : Int32)), (.ref b2), (.ref b2)])) rfl (hb hby at_24)
  have a24 : ∀ t, Steps p.tables e below (T23.setTop (mkF m 27 #[.val (.int p0), .val (.int p1), .val (.long q2), .second, .val (.long q3), .second, .unset, .unset, .unset, .unset, .unset, .unset, .unset, .unset, .unset, .unset, .unset, .unset, .unset] [(.ref w_ENTRIES_PER_S), (.int (3 : Int32)), (.ref b2), (.ref b2)])) t → Steps p.tables e below (s₁.setTop (entryFrame m #[(.int p0), (.int p1), (.long q2), (.long q3)] maxLocals)) t := fun t k => a22 t (st23 t k)
  obtain ⟨cl25, Ar25, qc25, Sz25, Nn25, Hs25, Gs25⟩ := id V20
  have hin25 : ¬ ((3 : Int32) < 0 ∨ cl25.slots.size ≤ ((3 : Int32)).toNatClampNeg) := inb_of Sz25 ⟨by decide, by decide⟩
  obtain ⟨T26, h26, X26, e26, W26, st26⟩ := stR X23 hx hZ e23 Ar25 (j := (3 : Int32)) hin25 rfl (Sto.ofV Ar25 qc25 O2 (Ins.self (Exa.wr W20 (Exa.wr W14 (Exa.wr W8 (X_ENTRIES_PER_S.ext E2)))))) (g := (mkF m 27 #[.val (.int p0), .val (.int p1), .val (.long q2), .second, .val (.long q3), .second, .unset, .unset, .unset, .unset, .unset, .unset, .unset, .unset, .unset, .unset, .unset, .unset, .unset] [(.ref w_ENTRIES_PER_S), (.int (3 : Int32)), (.ref b2), (.ref b2)])) rfl rfl (hb hby at_27)
  have V26 : Arv Z h26 b2 kk2 (.object "org/latchwork/cli/Figure$Unit") (5 : Int32) [(.ref w_OPS_PER_S), (.ref w_ITEMS_PER_S), (.ref w_ROUNDS_PER_S), (.ref w_ENTRIES_PER_S), .null] .null := Arv.set Ar25 qc25 Sz25 Nn25 Hs25 Gs25 rfl W26 3 rfl (Nat.le_of_ble_eq_true rfl)
  have N26 := Fr.snoc X26 N20 g_b2
  have K26 : Keep h0 h26 [] := Keep.wr K20 W26 (Or.inr sz_b2)
  have a27 : ∀ t, Steps p.tables e below (T26.setTop (mkF m 28 #[.val (.int p0), .val (.int p1), .val (.long q2), .second, .val (.long q3), .second, .unset, .unset, .unset, .unset, .unset, .unset, .unset, .unset, .unset, .unset, .unset, .unset, .unset] [(.ref b2)])) t → Steps p.tables e below (s₁.setTop (entryFrame m #[(.int p0), (.int p1), (.long q2), (.long q3)] maxLocals)) t := fun t k => a24 t (st26 t k)
  have a28 : ∀ t, Steps p.tables e below (T26.setTop (mkF m 30 #[.val (.int p0), .val (.int p1), .val (.long q2), .second, .val (.long q3), .second, .unset, .unset, .unset, .unset, .unset, .unset, .unset, .unset, .unset, .unset, .unset, .unset, .unset] [(.int (4 : Int32)), (.ref b2), (.ref b2)])) t → Steps p.tables e below (s₁.setTop (entryFrame m #[(.int p0), (.int p1), (.long q2), (.long q3)] maxLocals)) t := by
    intro t k
    refine a27 t ?_
    show Steps p.tables e below (T26.setTop (mkF m 28 #[.val (.int p0), .val (.int p1), .val (.long q2), .second, .val (.long q3), .second, .unset, .unset, .unset, .unset, .unset, .unset, .unset, .unset, .unset, .unset, .unset, .unset, .unset] [(.ref b2)])) _
    refine XS.dup X26.here hx rfl (hb hby at_28) rfl rfl ?_
    refine XS.iconst X26.here hx rfl (hb hby at_29) ?_
    exact k
  obtain ⟨T29, X29, e29, st29⟩ := getS2 X26 hx hZ hown (host := "") (Or.inl (hw _ (List.mem_of_getElem? (i := 12) rfl))) Via.refl e26 (Sta.wr W26 (Sta.wr W20 (Sta.wr W14 (Sta.wr W8 (S_WRITER_WAIT_MAX_MS.ext E2))))) (g := (mkF m 30 #[.val (.int p0), .val (.int p1), .val (.long q2), .second, .val (.long q3), .second, .unset, .unset, .unset, .unset, .unset, .unset, .unset, .unset, .unset, .unset, .unset, .unset, .unset] [(.int (4 : Int32)), (.ref b2), (.ref b2)])) rfl (hb hby at_30)
  have a30 : ∀ t, Steps p.tables e below (T29.setTop (mkF m 33 #[.val (.int p0), .val (.int p1), .val (.long q2), .second, .val (.long q3), .second, .unset, .unset, .unset, .unset, .unset, .unset, .unset, .unset, .unset, .unset, .unset, .unset, .unset] [(.ref w_WRITER_WAIT_MAX_MS), (.int (4 : Int32)), (.ref b2), (.ref b2)])) t → Steps p.tables e below (s₁.setTop (entryFrame m #[(.int p0), (.int p1), (.long q2), (.long q3)] maxLocals)) t := fun t k => a28 t (st29 t k)
  obtain ⟨cl31, Ar31, qc31, Sz31, Nn31, Hs31, Gs31⟩ := id V26
  have hin31 : ¬ ((4 : Int32) < 0 ∨ cl31.slots.size ≤ ((4 : Int32)).toNatClampNeg) := inb_of Sz31 ⟨by decide, by decide⟩
  obtain ⟨T32, h32, X32, e32, W32, st32⟩ := stR X29 hx hZ e29 Ar31 (j := (4 : Int32)) hin31 rfl (Sto.ofV Ar31 qc31 O2 (Ins.self (Exa.wr W26 (Exa.wr W20 (Exa.wr W14 (Exa.wr W8 (X_WRITER_WAIT_MAX_MS.ext E2))))))) (g := (mkF m 33 #[.val (.int p0), .val (.int p1), .val (.long q2), .second, .val (.long q3), .second, .unset, .unset, .unset, .unset, .unset, .unset, .unset, .unset, .unset, .unset, .unset, .unset, .unset] [(.ref w_WRITER_WAIT_MAX_MS), (.int (4 : Int32)), (.ref b2), (.ref b2)])) rfl rfl (hb hby at_33)
  have V32 : Arv Z h32 b2 kk2 (.object "org/latchwork/cli/Figure$Unit") (5 : Int32) [(.ref w_OPS_PER_S), (.ref w_ITEMS_PER_S), (.ref w_ROUNDS_PER_S), (.ref w_ENTRIES_PER_S), (.ref w_WRITER_WAIT_MAX_MS)] .null := Arv.set Ar31 qc31 Sz31 Nn31 Hs31 Gs31 rfl W32 4 rfl (Nat.le_of_ble_eq_true rfl)
  have N32 := Fr.snoc X32 N26 g_b2
  have K32 : Keep h0 h32 [] := Keep.wr K26 W32 (Or.inr sz_b2)
  have a33 : ∀ t, Steps p.tables e below (T32.setTop (mkF m 34 #[.val (.int p0), .val (.int p1), .val (.long q2), .second, .val (.long q3), .second, .unset, .unset, .unset, .unset, .unset, .unset, .unset, .unset, .unset, .unset, .unset, .unset, .unset] [(.ref b2)])) t → Steps p.tables e below (s₁.setTop (entryFrame m #[(.int p0), (.int p1), (.long q2), (.long q3)] maxLocals)) t := fun t k => a30 t (st32 t k)
  have a34 : ∀ t, Steps p.tables e below (T32.setTop (mkF m 44 #[.val (.int p0), .val (.int p1), .val (.long q2), .second, .val (.long q3), .second, .val (.ref b2), .unset, .unset, .unset, .unset, .unset, .unset, .unset, .unset, .unset, .unset, .unset, .unset] [(.int ((p0 &&& (2147483647 : Int32)) % (5 : Int32))), (.ref b2)])) t → Steps p.tables e below (s₁.setTop (entryFrame m #[(.int p0), (.int p1), (.long q2), (.long q3)] maxLocals)) t := by
    intro t k
    refine a33 t ?_
    show Steps p.tables e below (T32.setTop (mkF m 34 #[.val (.int p0), .val (.int p1), .val (.long q2), .second, .val (.long q3), .second, .unset, .unset, .unset, .unset, .unset, .unset, .unset, .unset, .unset, .unset, .unset, .unset, .unset] [(.ref b2)])) _
    refine XS.astore X32.here hx rfl (hb hby at_34) rfl rfl (l' := #[.val (.int p0), .val (.int p1), .val (.long q2), .second, .val (.long q3), .second, .val (.ref b2), .unset, .unset, .unset, .unset, .unset, .unset, .unset, .unset, .unset, .unset, .unset, .unset]) rfl ?_
    refine XS.aload X32.here hx rfl (hb hby at_36) rfl rfl ?_
    refine XS.iloadN X32.here hx rfl (hb hby at_38) rfl ?_
    refine X32.ldcInt hx hown (mvT hZ (hw _ (List.mem_of_getElem? (i := 14) rfl))) (g := (mkF m 39 #[.val (.int p0), .val (.int p1), .val (.long q2), .second, .val (.long q3), .second, .val (.ref b2), .unset, .unset, .unset, .unset, .unset, .unset, .unset, .unset, .unset, .unset, .unset, .unset] [(.int p0), (.ref b2)])) rfl (hb hby at_39) _ ?_
    refine XS.iand X32.here hx rfl (hb hby at_41) rfl ?_
    refine XS.iconst X32.here hx rfl (hb hby at_42) ?_
    refine iremM X32 hx rfl (hb hby at_43) rfl (by decide) ?_
    exact k
  obtain ⟨ui, h_ui⟩ : ∃ z : Int32, z = ((p0 &&& (2147483647 : Int32)) % (5 : Int32)) := ⟨_, rfl⟩
  rw [← h_ui] at a34
  have hui := own_ui h_ui
  obtain ⟨un, hun⟩ := own_pick w_OPS_PER_S w_ITEMS_PER_S w_ROUNDS_PER_S w_ENTRIES_PER_S w_WRITER_WAIT_MAX_MS ui hui
  obtain ⟨cl35, Ar35, qc35, Sz35, Nn35, Hs35, Gs35⟩ := id V32
  have hin35 : ¬ (ui < 0 ∨ cl35.slots.size ≤ (ui).toNatClampNeg) := inb_of Sz35 (own_ib (by decide) hui)
  have hat35 := Hs35.at hin35 (v := (.ref un)) hun
  have a36 : ∀ t, Steps p.tables e below (T32.setTop (mkF m 51 #[.val (.int p0), .val (.int p1), .val (.long q2), .second, .val (.long q3), .second, .val (.ref b2), .val (.ref un), .unset, .unset, .unset, .unset, .unset, .unset, .unset, .unset, .unset, .unset, .unset] [(.int (p1 &&& (15 : Int32)))])) t → Steps p.tables e below (s₁.setTop (entryFrame m #[(.int p0), (.int p1), (.long q2), (.long q3)] maxLocals)) t := by
    intro t k
    refine a34 t ?_
    show Steps p.tables e below (T32.setTop (mkF m 44 #[.val (.int p0), .val (.int p1), .val (.long q2), .second, .val (.long q3), .second, .val (.ref b2), .unset, .unset, .unset, .unset, .unset, .unset, .unset, .unset, .unset, .unset, .unset, .unset] [(.int ui), (.ref b2)])) _
    refine X32.aaload hx (j := ui) (v := (.ref un)) (by rw [e32]; exact Ar35.1) (State.isArrayOf_alike hZ.alike Ar35.2.1) rfl Ar35.2.2 hin35 hat35 (g := (mkF m 44 #[.val (.int p0), .val (.int p1), .val (.long q2), .second, .val (.long q3), .second, .val (.ref b2), .unset, .unset, .unset, .unset, .unset, .unset, .unset, .unset, .unset, .unset, .unset, .unset] [(.int ui), (.ref b2)])) rfl rfl (hb hby at_44) _ ?_
    refine XS.astore X32.here hx rfl (hb hby at_45) rfl rfl (l' := #[.val (.int p0), .val (.int p1), .val (.long q2), .second, .val (.long q3), .second, .val (.ref b2), .val (.ref un), .unset, .unset, .unset, .unset, .unset, .unset, .unset, .unset, .unset, .unset, .unset]) rfl ?_
    refine XS.iloadN X32.here hx rfl (hb hby at_47) rfl ?_
    refine XS.bipush X32.here hx rfl (hb hby at_48) ?_
    refine XS.iand X32.here hx rfl (hb hby at_50) rfl ?_
    exact k
  obtain ⟨md, h_md⟩ : ∃ z : Int32, z = (p1 &&& (15 : Int32)) := ⟨_, rfl⟩
  rw [← h_md] at a36
  have a37 : ∀ t, Steps p.tables e below (T32.setTop (mkF m 57 #[.val (.int p0), .val (.int p1), .val (.long q2), .second, .val (.long q3), .second, .val (.ref b2), .val (.ref un), .val (.int md), .unset, .unset, .unset, .unset, .unset, .unset, .unset, .unset, .unset, .unset] [(.int (7 : Int32)), (.int md)])) t → Steps p.tables e below (s₁.setTop (entryFrame m #[(.int p0), (.int p1), (.long q2), (.long q3)] maxLocals)) t := by
    intro t k
    refine a36 t ?_
    show Steps p.tables e below (T32.setTop (mkF m 51 #[.val (.int p0), .val (.int p1), .val (.long q2), .second, .val (.long q3), .second, .val (.ref b2), .val (.ref un), .unset, .unset, .unset, .unset, .unset, .unset, .unset, .unset, .unset, .unset, .unset] [(.int md)])) _
    refine XS.istore X32.here hx rfl (hb hby at_51) rfl (l' := #[.val (.int p0), .val (.int p1), .val (.long q2), .second, .val (.long q3), .second, .val (.ref b2), .val (.ref un), .val (.int md), .unset, .unset, .unset, .unset, .unset, .unset, .unset, .unset, .unset, .unset]) rfl ?_
    refine XS.iload X32.here hx rfl (hb hby at_53) rfl ?_
    refine XS.bipush X32.here hx rfl (hb hby at_55) ?_
    exact k
  by_cases hc57_38 : md < (7 : Int32)
  ·
    have a39 : ∀ t, Steps p.tables e below (T32.setTop (mkF m 62 #[.val (.int p0), .val (.int p1), .val (.long q2), .second, .val (.long q3), .second, .val (.ref b2), .val (.ref un), .val (.int md), .unset, .unset, .unset, .unset, .unset, .unset, .unset, .unset, .unset, .unset] [(.int (7 : Int32))])) t → Steps p.tables e below (s₁.setTop (entryFrame m #[(.int p0), (.int p1), (.long q2), (.long q3)] maxLocals)) t := by
      intro t k
      refine a37 t ?_
      show Steps p.tables e below (T32.setTop (mkF m 57 #[.val (.int p0), .val (.int p1), .val (.long q2), .second, .val (.long q3), .second, .val (.ref b2), .val (.ref un), .val (.int md), .unset, .unset, .unset, .unset, .unset, .unset, .unset, .unset, .unset, .unset] [(.int (7 : Int32)), (.int md)])) _
      refine XS.icmpNo X32.here hx rfl (hb hby at_57) rfl (tlt hc57_38).2.1 ?_
      refine XS.bipush X32.here hx rfl (hb hby at_60) ?_
      exact k
    obtain ⟨T40, h40, kk40, X40, e40, E40, A40, st40⟩ := newP X32 hx hZ (hw _ (List.mem_of_getElem? (i := 15) rfl)) e32 (g := (mkF m 62 #[.val (.int p0), .val (.int p1), .val (.long q2), .second, .val (.long q3), .second, .val (.ref b2), .val (.ref un), .val (.int md), .unset, .unset, .unset, .unset, .unset, .unset, .unset, .unset, .unset, .unset] [(.int (7 : Int32))])) rfl (hb hby at_62) rfl (by decide) (cap := 7) (by decide) (by decide) (by decide) (by decide)
    obtain ⟨b40, g40⟩ : ∃ z, z = h32.size := ⟨_, rfl⟩
    rw [← g40] at A40 st40
    have g_b40 : n0 ≤ b40 := Nat.le_trans (Nat.le_trans (Nat.le_trans (Nat.le_trans (Nat.le_trans (Nat.le_trans (Nat.le_trans Z0 E2.1) (Keep.of_wr W8).1) (Keep.of_wr W14).1) (Keep.of_wr W20).1) (Keep.of_wr W26).1) (Keep.of_wr W32).1) (Nat.le_of_eq g40.symm)
    have sz_b40 : h0.size ≤ b40 := Nat.le_trans (K32).1 (Nat.le_of_eq g40.symm)
    have V_b40 : Arv Z h40 b40 kk40 .long (7 : Int32) [(.long (0 : Int64)), (.long (0 : Int64)), (.long (0 : Int64)), (.long (0 : Int64)), (.long (0 : Int64)), (.long (0 : Int64)), (.long (0 : Int64))] (.long (0 : Int64)) := (Arv.new A40 (by decide)).pad (pad_rep [] (.long (0 : Int64)) 7)
    have K40 : Keep h0 h40 [] := Keep.ext K32 E40
    have a41 : ∀ t, Steps p.tables e below (T40.setTop (mkF m 64 #[.val (.int p0), .val (.int p1), .val (.long q2), .second, .val (.long q3), .second, .val (.ref b2), .val (.ref un), .val (.int md), .unset, .unset, .unset, .unset, .unset, .unset, .unset, .unset, .unset, .unset] [(.ref b40)])) t → Steps p.tables e below (s₁.setTop (entryFrame m #[(.int p0), (.int p1), (.long q2), (.long q3)] maxLocals)) t := fun t k => a39 t (st40 t k)
    have a42 : ∀ t, Steps p.tables e below (T40.setTop (mkF m 69 #[.val (.int p0), .val (.int p1), .val (.long q2), .second, .val (.long q3), .second, .val (.ref b2), .val (.ref un), .val (.int md), .unset, .unset, .unset, .unset, .unset, .unset, .unset, .unset, .unset, .unset] [(.long (125000000 : Int64)), (.int (0 : Int32)), (.ref b40), (.ref b40)])) t → Steps p.tables e below (s₁.setTop (entryFrame m #[(.int p0), (.int p1), (.long q2), (.long q3)] maxLocals)) t := by
      intro t k
      refine a41 t ?_
      show Steps p.tables e below (T40.setTop (mkF m 64 #[.val (.int p0), .val (.int p1), .val (.long q2), .second, .val (.long q3), .second, .val (.ref b2), .val (.ref un), .val (.int md), .unset, .unset, .unset, .unset, .unset, .unset, .unset, .unset, .unset, .unset] [(.ref b40)])) _
      refine XS.dup X40.here hx rfl (hb hby at_64) rfl rfl ?_
      refine XS.iconst X40.here hx rfl (hb hby at_65) ?_
      refine X40.ldc2Long hx hown (mvT hZ (hw _ (List.mem_of_getElem? (i := 16) rfl))) (g := (mkF m 66 #[.val (.int p0), .val (.int p1), .val (.long q2), .second, .val (.long q3), .second, .val (.ref b2), .val (.ref un), .val (.int md), .unset, .unset, .unset, .unset, .unset, .unset, .unset, .unset, .unset, .unset] [(.int (0 : Int32)), (.ref b40), (.ref b40)])) rfl (hb hby at_66) _ ?_
      exact k
    obtain ⟨cl43, Ar43, qc43, Sz43, Nn43, Hs43, Gs43⟩ := id V_b40
    have hin43 : ¬ ((0 : Int32) < 0 ∨ cl43.slots.size ≤ ((0 : Int32)).toNatClampNeg) := inb_of Sz43 ⟨by decide, by decide⟩
    obtain ⟨T44, h44, X44, e44, W44, st44⟩ := stJ X40 hx hZ e40 Ar43 (j := (0 : Int32)) hin43 (g := (mkF m 69 #[.val (.int p0), .val (.int p1), .val (.long q2), .second, .val (.long q3), .second, .val (.ref b2), .val (.ref un), .val (.int md), .unset, .unset, .unset, .unset, .unset, .unset, .unset, .unset, .unset, .unset] [(.long (125000000 : Int64)), (.int (0 : Int32)), (.ref b40), (.ref b40)])) rfl rfl (hb hby at_69)
    have V44 : Arv Z h44 b40 kk40 .long (7 : Int32) [(.long (125000000 : Int64)), (.long (0 : Int64)), (.long (0 : Int64)), (.long (0 : Int64)), (.long (0 : Int64)), (.long (0 : Int64)), (.long (0 : Int64))] (.long (0 : Int64)) := Arv.set Ar43 qc43 Sz43 Nn43 Hs43 Gs43 rfl W44 0 rfl (Nat.le_of_ble_eq_true rfl)
    have N44 := Fr.snoc X44 N32 g_b40
    have K44 : Keep h0 h44 [] := Keep.wr K40 W44 (Or.inr sz_b40)
    have a45 : ∀ t, Steps p.tables e below (T44.setTop (mkF m 70 #[.val (.int p0), .val (.int p1), .val (.long q2), .second, .val (.long q3), .second, .val (.ref b2), .val (.ref un), .val (.int md), .unset, .unset, .unset, .unset, .unset, .unset, .unset, .unset, .unset, .unset] [(.ref b40)])) t → Steps p.tables e below (s₁.setTop (entryFrame m #[(.int p0), (.int p1), (.long q2), (.long q3)] maxLocals)) t := fun t k => a42 t (st44 t k)
    have a46 : ∀ t, Steps p.tables e below (T44.setTop (mkF m 75 #[.val (.int p0), .val (.int p1), .val (.long q2), .second, .val (.long q3), .second, .val (.ref b2), .val (.ref un), .val (.int md), .unset, .unset, .unset, .unset, .unset, .unset, .unset, .unset, .unset, .unset] [(.long (250000000 : Int64)), (.int (1 : Int32)), (.ref b40), (.ref b40)])) t → Steps p.tables e below (s₁.setTop (entryFrame m #[(.int p0), (.int p1), (.long q2), (.long q3)] maxLocals)) t := by
      intro t k
      refine a45 t ?_
      show Steps p.tables e below (T44.setTop (mkF m 70 #[.val (.int p0), .val (.int p1), .val (.long q2), .second, .val (.long q3), .second, .val (.ref b2), .val (.ref un), .val (.int md), .unset, .unset, .unset, .unset, .unset, .unset, .unset, .unset, .unset, .unset] [(.ref b40)])) _
      refine XS.dup X44.here hx rfl (hb hby at_70) rfl rfl ?_
      refine XS.iconst X44.here hx rfl (hb hby at_71) ?_
      refine X44.ldc2Long hx hown (mvT hZ (hw _ (List.mem_of_getElem? (i := 17) rfl))) (g := (mkF m 72 #[.val (.int p0), .val (.int p1), .val (.long q2), .second, .val (.long q3), .second, .val (.ref b2), .val (.ref un), .val (.int md), .unset, .unset, .unset, .unset, .unset, .unset, .unset, .unset, .unset, .unset] [(.int (1 : Int32)), (.ref b40), (.ref b40)])) rfl (hb hby at_72) _ ?_
      exact k
    obtain ⟨cl47, Ar47, qc47, Sz47, Nn47, Hs47, Gs47⟩ := id V44
    have hin47 : ¬ ((1 : Int32) < 0 ∨ cl47.slots.size ≤ ((1 : Int32)).toNatClampNeg) := inb_of Sz47 ⟨by decide, by decide⟩
    obtain ⟨T48, h48, X48, e48, W48, st48⟩ := stJ X44 hx hZ e44 Ar47 (j := (1 : Int32)) hin47 (g := (mkF m 75 #[.val (.int p0), .val (.int p1), .val (.long q2), .second, .val (.long q3), .second, .val (.ref b2), .val (.ref un), .val (.int md), .unset, .unset, .unset, .unset, .unset, .unset, .unset, .unset, .unset, .unset] [(.long (250000000 : Int64)), (.int (1 : Int32)), (.ref b40), (.ref b40)])) rfl rfl (hb hby at_75)
    have V48 : Arv Z h48 b40 kk40 .long (7 : Int32) [(.long (125000000 : Int64)), (.long (250000000 : Int64)), (.long (0 : Int64)), (.long (0 : Int64)), (.long (0 : Int64)), (.long (0 : Int64)), (.long (0 : Int64))] (.long (0 : Int64)) := Arv.set Ar47 qc47 Sz47 Nn47 Hs47 Gs47 rfl W48 1 rfl (Nat.le_of_ble_eq_true rfl)
    have N48 := Fr.snoc X48 N44 g_b40
    have K48 : Keep h0 h48 [] := Keep.wr K44 W48 (Or.inr sz_b40)
    have a49 : ∀ t, Steps p.tables e below (T48.setTop (mkF m 76 #[.val (.int p0), .val (.int p1), .val (.long q2), .second, .val (.long q3), .second, .val (.ref b2), .val (.ref un), .val (.int md), .unset, .unset, .unset, .unset, .unset, .unset, .unset, .unset, .unset, .unset] [(.ref b40)])) t → Steps p.tables e below (s₁.setTop (entryFrame m #[(.int p0), (.int p1), (.long q2), (.long q3)] maxLocals)) t := fun t k => a46 t (st48 t k)
    have a50 : ∀ t, Steps p.tables e below (T48.setTop (mkF m 81 #[.val (.int p0), .val (.int p1), .val (.long q2), .second, .val (.long q3), .second, .val (.ref b2), .val (.ref un), .val (.int md), .unset, .unset, .unset, .unset, .unset, .unset, .unset, .unset, .unset, .unset] [(.long (500000000 : Int64)), (.int (2 : Int32)), (.ref b40), (.ref b40)])) t → Steps p.tables e below (s₁.setTop (entryFrame m #[(.int p0), (.int p1), (.long q2), (.long q3)] maxLocals)) t := by
      intro t k
      refine a49 t ?_
      show Steps p.tables e below (T48.setTop (mkF m 76 #[.val (.int p0), .val (.int p1), .val (.long q2), .second, .val (.long q3), .second, .val (.ref b2), .val (.ref un), .val (.int md), .unset, .unset, .unset, .unset, .unset, .unset, .unset, .unset, .unset, .unset] [(.ref b40)])) _
      refine XS.dup X48.here hx rfl (hb hby at_76) rfl rfl ?_
      refine XS.iconst X48.here hx rfl (hb hby at_77) ?_
      refine X48.ldc2Long hx hown (mvT hZ (hw _ (List.mem_of_getElem? (i := 18) rfl))) (g := (mkF m 78 #[.val (.int p0), .val (.int p1), .val (.long q2), .second, .val (.long q3), .second, .val (.ref b2), .val (.ref un), .val (.int md), .unset, .unset, .unset, .unset, .unset, .unset, .unset, .unset, .unset, .unset] [(.int (2 : Int32)), (.ref b40), (.ref b40)])) rfl (hb hby at_78) _ ?_
      exact k
    obtain ⟨cl51, Ar51, qc51, Sz51, Nn51, Hs51, Gs51⟩ := id V48
    have hin51 : ¬ ((2 : Int32) < 0 ∨ cl51.slots.size ≤ ((2 : Int32)).toNatClampNeg) := inb_of Sz51 ⟨by decide, by decide⟩
    obtain ⟨T52, h52, X52, e52, W52, st52⟩ := stJ X48 hx hZ e48 Ar51 (j := (2 : Int32)) hin51 (g := (mkF m 81 #[.val (.int p0), .val (.int p1), .val (.long q2), .second, .val (.long q3), .second, .val (.ref b2), .val (.ref un), .val (.int md), .unset, .unset, .unset, .unset, .unset, .unset, .unset, .unset, .unset, .unset] [(.long (500000000 : Int64)), (.int (2 : Int32)), (.ref b40), (.ref b40)])) rfl rfl (hb hby at_81)
    have V52 : Arv Z h52 b40 kk40 .long (7 : Int32) [(.long (125000000 : Int64)), (.long (250000000 : Int64)), (.long (500000000 : Int64)), (.long (0 : Int64)), (.long (0 : Int64)), (.long (0 : Int64)), (.long (0 : Int64))] (.long (0 : Int64)) := Arv.set Ar51 qc51 Sz51 Nn51 Hs51 Gs51 rfl W52 2 rfl (Nat.le_of_ble_eq_true rfl)
    have N52 := Fr.snoc X52 N48 g_b40
    have K52 : Keep h0 h52 [] := Keep.wr K48 W52 (Or.inr sz_b40)
    have a53 : ∀ t, Steps p.tables e below (T52.setTop (mkF m 82 #[.val (.int p0), .val (.int p1), .val (.long q2), .second, .val (.long q3), .second, .val (.ref b2), .val (.ref un), .val (.int md), .unset, .unset, .unset, .unset, .unset, .unset, .unset, .unset, .unset, .unset] [(.ref b40)])) t → Steps p.tables e below (s₁.setTop (entryFrame m #[(.int p0), (.int p1), (.long q2), (.long q3)] maxLocals)) t := fun t k => a50 t (st52 t k)
    have a54 : ∀ t, Steps p.tables e below (T52.setTop (mkF m 87 #[.val (.int p0), .val (.int p1), .val (.long q2), .second, .val (.long q3), .second, .val (.ref b2), .val (.ref un), .val (.int md), .unset, .unset, .unset, .unset, .unset, .unset, .unset, .unset, .unset, .unset] [(.long (1000000000 : Int64)), (.int (3 : Int32)), (.ref b40), (.ref b40)])) t → Steps p.tables e below (s₁.setTop (entryFrame m #[(.int p0), (.int p1), (.long q2), (.long q3)] maxLocals)) t := by
      intro t k
      refine a53 t ?_
      show Steps p.tables e below (T52.setTop (mkF m 82 #[.val (.int p0), .val (.int p1), .val (.long q2), .second, .val (.long q3), .second, .val (.ref b2), .val (.ref un), .val (.int md), .unset, .unset, .unset, .unset, .unset, .unset, .unset, .unset, .unset, .unset] [(.ref b40)])) _
      refine XS.dup X52.here hx rfl (hb hby at_82) rfl rfl ?_
      refine XS.iconst X52.here hx rfl (hb hby at_83) ?_
      refine X52.ldc2Long hx hown (mvT hZ (hw _ (List.mem_of_getElem? (i := 19) rfl))) (g := (mkF m 84 #[.val (.int p0), .val (.int p1), .val (.long q2), .second, .val (.long q3), .second, .val (.ref b2), .val (.ref un), .val (.int md), .unset, .unset, .unset, .unset, .unset, .unset, .unset, .unset, .unset, .unset] [(.int (3 : Int32)), (.ref b40), (.ref b40)])) rfl (hb hby at_84) _ ?_
      exact k
    obtain ⟨cl55, Ar55, qc55, Sz55, Nn55, Hs55, Gs55⟩ := id V52
    have hin55 : ¬ ((3 : Int32) < 0 ∨ cl55.slots.size ≤ ((3 : Int32)).toNatClampNeg) := inb_of Sz55 ⟨by decide, by decide⟩
    obtain ⟨T56, h56, X56, e56, W56, st56⟩ := stJ X52 hx hZ e52 Ar55 (j := (3 : Int32)) hin55 (g := (mkF m 87 #[.val (.int p0), .val (.int p1), .val (.long q2), .second, .val (.long q3), .second, .val (.ref b2), .val (.ref un), .val (.int md), .unset, .unset, .unset, .unset, .unset, .unset, .unset, .unset, .unset, .unset] [(.long (1000000000 : Int64)), (.int (3 : Int32)), (.ref b40), (.ref b40)])) rfl rfl (hb hby at_87)
    have V56 : Arv Z h56 b40 kk40 .long (7 : Int32) [(.long (125000000 : Int64)), (.long (250000000 : Int64)), (.long (500000000 : Int64)), (.long (1000000000 : Int64)), (.long (0 : Int64)), (.long (0 : Int64)), (.long (0 : Int64))] (.long (0 : Int64)) := Arv.set Ar55 qc55 Sz55 Nn55 Hs55 Gs55 rfl W56 3 rfl (Nat.le_of_ble_eq_true rfl)
    have N56 := Fr.snoc X56 N52 g_b40
    have K56 : Keep h0 h56 [] := Keep.wr K52 W56 (Or.inr sz_b40)
    have a57 : ∀ t, Steps p.tables e below (T56.setTop (mkF m 88 #[.val (.int p0), .val (.int p1), .val (.long q2), .second, .val (.long q3), .second, .val (.ref b2), .val (.ref un), .val (.int md), .unset, .unset, .unset, .unset, .unset, .unset, .unset, .unset, .unset, .unset] [(.ref b40)])) t → Steps p.tables e below (s₁.setTop (entryFrame m #[(.int p0), (.int p1), (.long q2), (.long q3)] maxLocals)) t := fun t k => a54 t (st56 t k)
    have a58 : ∀ t, Steps p.tables e below (T56.setTop (mkF m 93 #[.val (.int p0), .val (.int p1), .val (.long q2), .second, .val (.long q3), .second, .val (.ref b2), .val (.ref un), .val (.int md), .unset, .unset, .unset, .unset, .unset, .unset, .unset, .unset, .unset, .unset] [(.long (2000000000 : Int64)), (.int (4 : Int32)), (.ref b40), (.ref b40)])) t → Steps p.tables e below (s₁.setTop (entryFrame m #[(.int p0), (.int p1), (.long q2), (.long q3)] maxLocals)) t := by
      intro t k
      refine a57 t ?_
      show Steps p.tables e below (T56.setTop (mkF m 88 #[.val (.int p0), .val (.int p1), .val (.long q2), .second, .val (.long q3), .second, .val (.ref b2), .val (.ref un), .val (.int md), .unset, .unset, .unset, .unset, .unset, .unset, .unset, .unset, .unset, .unset] [(.ref b40)])) _
      refine XS.dup X56.here hx rfl (hb hby at_88) rfl rfl ?_
      refine XS.iconst X56.here hx rfl (hb hby at_89) ?_
      refine X56.ldc2Long hx hown (mvT hZ (hw _ (List.mem_of_getElem? (i := 20) rfl))) (g := (mkF m 90 #[.val (.int p0), .val (.int p1), .val (.long q2), .second, .val (.long q3), .second, .val (.ref b2), .val (.ref un), .val (.int md), .unset, .unset, .unset, .unset, .unset, .unset, .unset, .unset, .unset, .unset] [(.int (4 : Int32)), (.ref b40), (.ref b40)])) rfl (hb hby at_90) _ ?_
      exact k
    obtain ⟨cl59, Ar59, qc59, Sz59, Nn59, Hs59, Gs59⟩ := id V56
    have hin59 : ¬ ((4 : Int32) < 0 ∨ cl59.slots.size ≤ ((4 : Int32)).toNatClampNeg) := inb_of Sz59 ⟨by decide, by decide⟩
    obtain ⟨T60, h60, X60, e60, W60, st60⟩ := stJ X56 hx hZ e56 Ar59 (j := (4 : Int32)) hin59 (g := (mkF m 93 #[.val (.int p0), .val (.int p1), .val (.long q2), .second, .val (.long q3), .second, .val (.ref b2), .val (.ref un), .val (.int md), .unset, .unset, .unset, .unset, .unset, .unset, .unset, .unset, .unset, .unset] [(.long (2000000000 : Int64)), (.int (4 : Int32)), (.ref b40), (.ref b40)])) rfl rfl (hb hby at_93)
    have V60 : Arv Z h60 b40 kk40 .long (7 : Int32) [(.long (125000000 : Int64)), (.long (250000000 : Int64)), (.long (500000000 : Int64)), (.long (1000000000 : Int64)), (.long (2000000000 : Int64)), (.long (0 : Int64)), (.long (0 : Int64))] (.long (0 : Int64)) := Arv.set Ar59 qc59 Sz59 Nn59 Hs59 Gs59 rfl W60 4 rfl (Nat.le_of_ble_eq_true rfl)
    have N60 := Fr.snoc X60 N56 g_b40
    have K60 : Keep h0 h60 [] := Keep.wr K56 W60 (Or.inr sz_b40)
    have a61 : ∀ t, Steps p.tables e below (T60.setTop (mkF m 94 #[.val (.int p0), .val (.int p1), .val (.long q2), .second, .val (.long q3), .second, .val (.ref b2), .val (.ref un), .val (.int md), .unset, .unset, .unset, .unset, .unset, .unset, .unset, .unset, .unset, .unset] [(.ref b40)])) t → Steps p.tables e below (s₁.setTop (entryFrame m #[(.int p0), (.int p1), (.long q2), (.long q3)] maxLocals)) t := fun t k => a58 t (st60 t k)
    have a62 : ∀ t, Steps p.tables e below (T60.setTop (mkF m 99 #[.val (.int p0), .val (.int p1), .val (.long q2), .second, .val (.long q3), .second, .val (.ref b2), .val (.ref un), .val (.int md), .unset, .unset, .unset, .unset, .unset, .unset, .unset, .unset, .unset, .unset] [(.long (4000000000 : Int64)), (.int (5 : Int32)), (.ref b40), (.ref b40)])) t → Steps p.tables e below (s₁.setTop (entryFrame m #[(.int p0), (.int p1), (.long q2), (.long q3)] maxLocals)) t := by
      intro t k
      refine a61 t ?_
      show Steps p.tables e below (T60.setTop (mkF m 94 #[.val (.int p0), .val (.int p1), .val (.long q2), .second, .val (.long q3), .second, .val (.ref b2), .val (.ref un), .val (.int md), .unset, .unset, .unset, .unset, .unset, .unset, .unset, .unset, .unset, .unset] [(.ref b40)])) _
      refine XS.dup X60.here hx rfl (hb hby at_94) rfl rfl ?_
      refine XS.iconst X60.here hx rfl (hb hby at_95) ?_
      refine X60.ldc2Long hx hown (mvT hZ (hw _ (List.mem_of_getElem? (i := 21) rfl))) (g := (mkF m 96 #[.val (.int p0), .val (.int p1), .val (.long q2), .second, .val (.long q3), .second, .val (.ref b2), .val (.ref un), .val (.int md), .unset, .unset, .unset, .unset, .unset, .unset, .unset, .unset, .unset, .unset] [(.int (5 : Int32)), (.ref b40), (.ref b40)])) rfl (hb hby at_96) _ ?_
      exact k
    obtain ⟨cl63, Ar63, qc63, Sz63, Nn63, Hs63, Gs63⟩ := id V60
    have hin63 : ¬ ((5 : Int32) < 0 ∨ cl63.slots.size ≤ ((5 : Int32)).toNatClampNeg) := inb_of Sz63 ⟨by decide, by decide⟩
    obtain ⟨T64, h64, X64, e64, W64, st64⟩ := stJ X60 hx hZ e60 Ar63 (j := (5 : Int32)) hin63 (g := (mkF m 99 #[.val (.int p0), .val (.int p1), .val (.long q2), .second, .val (.long q3), .second, .val (.ref b2), .val (.ref un), .val (.int md), .unset, .unset, .unset, .unset, .unset, .unset, .unset, .unset, .unset, .unset] [(.long (4000000000 : Int64)), (.int (5 : Int32)), (.ref b40), (.ref b40)])) rfl rfl (hb hby at_99)
    have V64 : Arv Z h64 b40 kk40 .long (7 : Int32) [(.long (125000000 : Int64)), (.long (250000000 : Int64)), (.long (500000000 : Int64)), (.long (1000000000 : Int64)), (.long (2000000000 : Int64)), (.long (4000000000 : Int64)), (.long (0 : Int64))] (.long (0 : Int64)) := Arv.set Ar63 qc63 Sz63 Nn63 Hs63 Gs63 rfl W64 5 rfl (Nat.le_of_ble_eq_true rfl)
    have N64 := Fr.snoc X64 N60 g_b40
    have K64 : Keep h0 h64 [] := Keep.wr K60 W64 (Or.inr sz_b40)
    have a65 : ∀ t, Steps p.tables e below (T64.setTop (mkF m 100 #[.val (.int p0), .val (.int p1), .val (.long q2), .second, .val (.long q3), .second, .val (.ref b2), .val (.ref un), .val (.int md), .unset, .unset, .unset, .unset, .unset, .unset, .unset, .unset, .unset, .unset] [(.ref b40)])) t → Steps p.tables e below (s₁.setTop (entryFrame m #[(.int p0), (.int p1), (.long q2), (.long q3)] maxLocals)) t := fun t k => a62 t (st64 t k)
    have a66 : ∀ t, Steps p.tables e below (T64.setTop (mkF m 106 #[.val (.int p0), .val (.int p1), .val (.long q2), .second, .val (.long q3), .second, .val (.ref b2), .val (.ref un), .val (.int md), .unset, .unset, .unset, .unset, .unset, .unset, .unset, .unset, .unset, .unset] [(.long (8000000000 : Int64)), (.int (6 : Int32)), (.ref b40), (.ref b40)])) t → Steps p.tables e below (s₁.setTop (entryFrame m #[(.int p0), (.int p1), (.long q2), (.long q3)] maxLocals)) t := by
      intro t k
      refine a65 t ?_
      show Steps p.tables e below (T64.setTop (mkF m 100 #[.val (.int p0), .val (.int p1), .val (.long q2), .second, .val (.long q3), .second, .val (.ref b2), .val (.ref un), .val (.int md), .unset, .unset, .unset, .unset, .unset, .unset, .unset, .unset, .unset, .unset] [(.ref b40)])) _
      refine XS.dup X64.here hx rfl (hb hby at_100) rfl rfl ?_
      refine XS.bipush X64.here hx rfl (hb hby at_101) ?_
      refine X64.ldc2Long hx hown (mvT hZ (hw _ (List.mem_of_getElem? (i := 22) rfl))) (g := (mkF m 103 #[.val (.int p0), .val (.int p1), .val (.long q2), .second, .val (.long q3), .second, .val (.ref b2), .val (.ref un), .val (.int md), .unset, .unset, .unset, .unset, .unset, .unset, .unset, .unset, .unset, .unset] [(.int (6 : Int32)), (.ref b40), (.ref b40)])) rfl (hb hby at_103) _ ?_
      exact k
    obtain ⟨cl67, Ar67, qc67, Sz67, Nn67, Hs67, Gs67⟩ := id V64
    have hin67 : ¬ ((6 : Int32) < 0 ∨ cl67.slots.size ≤ ((6 : Int32)).toNatClampNeg) := inb_of Sz67 ⟨by decide, by decide⟩
    obtain ⟨T68, h68, X68, e68, W68, st68⟩ := stJ X64 hx hZ e64 Ar67 (j := (6 : Int32)) hin67 (g := (mkF m 106 #[.val (.int p0), .val (.int p1), .val (.long q2), .second, .val (.long q3), .second, .val (.ref b2), .val (.ref un), .val (.int md), .unset, .unset, .unset, .unset, .unset, .unset, .unset, .unset, .unset, .unset] [(.long (8000000000 : Int64)), (.int (6 : Int32)), (.ref b40), (.ref b40)])) rfl rfl (hb hby at_106)
    have V68 : Arv Z h68 b40 kk40 .long (7 : Int32) [(.long (125000000 : Int64)), (.long (250000000 : Int64)), (.long (500000000 : Int64)), (.long (1000000000 : Int64)), (.long (2000000000 : Int64)), (.long (4000000000 : Int64)), (.long (8000000000 : Int64))] (.long (0 : Int64)) := Arv.set Ar67 qc67 Sz67 Nn67 Hs67 Gs67 rfl W68 6 rfl (Nat.le_of_ble_eq_true rfl)
    have N68 := Fr.snoc X68 N64 g_b40
    have K68 : Keep h0 h68 [] := Keep.wr K64 W68 (Or.inr sz_b40)
    have a69 : ∀ t, Steps p.tables e below (T68.setTop (mkF m 107 #[.val (.int p0), .val (.int p1), .val (.long q2), .second, .val (.long q3), .second, .val (.ref b2), .val (.ref un), .val (.int md), .unset, .unset, .unset, .unset, .unset, .unset, .unset, .unset, .unset, .unset] [(.ref b40)])) t → Steps p.tables e below (s₁.setTop (entryFrame m #[(.int p0), (.int p1), (.long q2), (.long q3)] maxLocals)) t := fun t k => a66 t (st68 t k)
    have a70 : ∀ t, Steps p.tables e below (T68.setTop (mkF m 111 #[.val (.int p0), .val (.int p1), .val (.long q2), .second, .val (.long q3), .second, .val (.ref b2), .val (.ref un), .val (.int md), .val (.ref b40), .unset, .unset, .unset, .unset, .unset, .unset, .unset, .unset, .unset] [(.int (7 : Int32))])) t → Steps p.tables e below (s₁.setTop (entryFrame m #[(.int p0), (.int p1), (.long q2), (.long q3)] maxLocals)) t := by
      intro t k
      refine a69 t ?_
      show Steps p.tables e below (T68.setTop (mkF m 107 #[.val (.int p0), .val (.int p1), .val (.long q2), .second, .val (.long q3), .second, .val (.ref b2), .val (.ref un), .val (.int md), .unset, .unset, .unset, .unset, .unset, .unset, .unset, .unset, .unset, .unset] [(.ref b40)])) _
      refine XS.astore X68.here hx rfl (hb hby at_107) rfl rfl (l' := #[.val (.int p0), .val (.int p1), .val (.long q2), .second, .val (.long q3), .second, .val (.ref b2), .val (.ref un), .val (.int md), .val (.ref b40), .unset, .unset, .unset, .unset, .unset, .unset, .unset, .unset, .unset]) rfl ?_
      refine XS.bipush X68.here hx rfl (hb hby at_109) ?_
      exact k
    obtain ⟨T71, h71, kk71, X71, e71, E71, A71, st71⟩ := newP X68 hx hZ (hw _ (List.mem_of_getElem? (i := 23) rfl)) e68 (g := (mkF m 111 #[.val (.int p0), .val (.int p1), .val (.long q2), .second, .val (.long q3), .second, .val (.ref b2), .val (.ref un), .val (.int md), .val (.ref b40), .unset, .unset, .unset, .unset, .unset, .unset, .unset, .unset, .unset] [(.int (7 : Int32))])) rfl (hb hby at_111) rfl (by decide) (cap := 7) (by decide) (by decide) (by decide) (by decide)
    obtain ⟨b71, g71⟩ : ∃ z, z = h68.size := ⟨_, rfl⟩
    rw [← g71] at A71 st71
    have g_b71 : n0 ≤ b71 := Nat.le_trans (Nat.le_trans (Nat.le_trans (Nat.le_trans (Nat.le_trans (Nat.le_trans (Nat.le_trans (Nat.le_trans (Nat.le_trans (Nat.le_trans (Nat.le_trans (Nat.le_trans (Nat.le_trans (Nat.le_trans (Nat.le_trans Z0 E2.1) (Keep.of_wr W8).1) (Keep.of_wr W14).1) (Keep.of_wr W20).1) (Keep.of_wr W26).1) (Keep.of_wr W32).1) E40.1) (Keep.of_wr W44).1) (Keep.of_wr W48).1) (Keep.of_wr W52).1) (Keep.of_wr W56).1) (Keep.of_wr W60).1) (Keep.of_wr W64).1) (Keep.of_wr W68).1) (Nat.le_of_eq g71.symm)
    have sz_b71 : h0.size ≤ b71 := Nat.le_trans (K68).1 (Nat.le_of_eq g71.symm)
    have V_b71 : Arv Z h71 b71 kk71 .double (7 : Int32) [(.double (0 : UInt64)), (.double (0 : UInt64)), (.double (0 : UInt64)), (.double (0 : UInt64)), (.double (0 : UInt64)), (.double (0 : UInt64)), (.double (0 : UInt64))] (.double (0 : UInt64)) := (Arv.new A71 (by decide)).pad (pad_rep [] (.double (0 : UInt64)) 7)
    have K71 : Keep h0 h71 [] := Keep.ext K68 E71
    have a72 : ∀ t, Steps p.tables e below (T71.setTop (mkF m 113 #[.val (.int p0), .val (.int p1), .val (.long q2), .second, .val (.long q3), .second, .val (.ref b2), .val (.ref un), .val (.int md), .val (.ref b40), .unset, .unset, .unset, .unset, .unset, .unset, .unset, .unset, .unset] [(.ref b71)])) t → Steps p.tables e below (s₁.setTop (entryFrame m #[(.int p0), (.int p1), (.long q2), (.long q3)] maxLocals)) t := fun t k => a70 t (st71 t k)
    have a73 : ∀ t, Steps p.tables e below (T71.setTop (mkF m 118 #[.val (.int p0), .val (.int p1), .val (.long q2), .second, .val (.long q3), .second, .val (.ref b2), .val (.ref un), .val (.int md), .val (.ref b40), .unset, .unset, .unset, .unset, .unset, .unset, .unset, .unset, .unset] [(.double (4620693217682128896 : UInt64)), (.int (0 : Int32)), (.ref b71), (.ref b71)])) t → Steps p.tables e below (s₁.setTop (entryFrame m #[(.int p0), (.int p1), (.long q2), (.long q3)] maxLocals)) t := by
      intro t k
      refine a72 t ?_
      show Steps p.tables e below (T71.setTop (mkF m 113 #[.val (.int p0), .val (.int p1), .val (.long q2), .second, .val (.long q3), .second, .val (.ref b2), .val (.ref un), .val (.int md), .val (.ref b40), .unset, .unset, .unset, .unset, .unset, .unset, .unset, .unset, .unset] [(.ref b71)])) _
      refine XS.dup X71.here hx rfl (hb hby at_113) rfl rfl ?_
      refine XS.iconst X71.here hx rfl (hb hby at_114) ?_
      refine X71.ldc2DoubleC hx hown (mvT hZ (hw _ (List.mem_of_getElem? (i := 24) rfl))) (g := (mkF m 115 #[.val (.int p0), .val (.int p1), .val (.long q2), .second, .val (.long q3), .second, .val (.ref b2), .val (.ref un), .val (.int md), .val (.ref b40), .unset, .unset, .unset, .unset, .unset, .unset, .unset, .unset, .unset] [(.int (0 : Int32)), (.ref b71), (.ref b71)])) rfl (hb hby at_115) _ ?_
      exact k
    obtain ⟨cl74, Ar74, qc74, Sz74, Nn74, Hs74, Gs74⟩ := id V_b71
    have hin74 : ¬ ((0 : Int32) < 0 ∨ cl74.slots.size ≤ ((0 : Int32)).toNatClampNeg) := inb_of Sz74 ⟨by decide, by decide⟩
    obtain ⟨T75, h75, X75, e75, W75, st75⟩ := stD X71 hx hZ e71 Ar74 (j := (0 : Int32)) hin74 (g := (mkF m 118 #[.val (.int p0), .val (.int p1), .val (.long q2), .second, .val (.long q3), .second, .val (.ref b2), .val (.ref un), .val (.int md), .val (.ref b40), .unset, .unset, .unset, .unset, .unset, .unset, .unset, .unset, .unset] [(.double (4620693217682128896 : UInt64)), (.int (0 : Int32)), (.ref b71), (.ref b71)])) rfl rfl (hb hby at_118)
    have V75 : Arv Z h75 b71 kk71 .double (7 : Int32) [(.double (4620693217682128896 : UInt64)), (.double (0 : UInt64)), (.double (0 : UInt64)), (.double (0 : UInt64)), (.double (0 : UInt64)), (.double (0 : UInt64)), (.double (0 : UInt64))] (.double (0 : UInt64)) := Arv.set Ar74 qc74 Sz74 Nn74 Hs74 Gs74 rfl W75 0 rfl (Nat.le_of_ble_eq_true rfl)
    have N75 := Fr.snoc X75 N68 g_b71
    have K75 : Keep h0 h75 [] := Keep.wr K71 W75 (Or.inr sz_b71)
    have a76 : ∀ t, Steps p.tables e below (T75.setTop (mkF m 119 #[.val (.int p0), .val (.int p1), .val (.long q2), .second, .val (.long q3), .second, .val (.ref b2), .val (.ref un), .val (.int md), .val (.ref b40), .unset, .unset, .unset, .unset, .unset, .unset, .unset, .unset, .unset] [(.ref b71)])) t → Steps p.tables e below (s₁.setTop (entryFrame m #[(.int p0), (.int p1), (.long q2), (.long q3)] maxLocals)) t := fun t k => a73 t (st75 t k)
    have a77 : ∀ t, Steps p.tables e below (T75.setTop (mkF m 124 #[.val (.int p0), .val (.int p1), .val (.long q2), .second, .val (.long q3), .second, .val (.ref b2), .val (.ref un), .val (.int md), .val (.ref b40), .unset, .unset, .unset, .unset, .unset, .unset, .unset, .unset, .unset] [(.double (4616189618054758400 : UInt64)), (.int (1 : Int32)), (.ref b71), (.ref b71)])) t → Steps p.tables e below (s₁.setTop (entryFrame m #[(.int p0), (.int p1), (.long q2), (.long q3)] maxLocals)) t := by
      intro t k
      refine a76 t ?_
      show Steps p.tables e below (T75.setTop (mkF m 119 #[.val (.int p0), .val (.int p1), .val (.long q2), .second, .val (.long q3), .second, .val (.ref b2), .val (.ref un), .val (.int md), .val (.ref b40), .unset, .unset, .unset, .unset, .unset, .unset, .unset, .unset, .unset] [(.ref b71)])) _
      refine XS.dup X75.here hx rfl (hb hby at_119) rfl rfl ?_
      refine XS.iconst X75.here hx rfl (hb hby at_120) ?_
      refine X75.ldc2DoubleC hx hown (mvT hZ (hw _ (List.mem_of_getElem? (i := 25) rfl))) (g := (mkF m 121 #[.val (.int p0), .val (.int p1), .val (.long q2), .second, .val (.long q3), .second, .val (.ref b2), .val (.ref un), .val (.int md), .val (.ref b40), .unset, .unset, .unset, .unset, .unset, .unset, .unset, .unset, .unset] [(.int (1 : Int32)), (.ref b71), (.ref b71)])) rfl (hb hby at_121) _ ?_
      exact k
    obtain ⟨cl78, Ar78, qc78, Sz78, Nn78, Hs78, Gs78⟩ := id V75
    have hin78 : ¬ ((1 : Int32) < 0 ∨ cl78.slots.size ≤ ((1 : Int32)).toNatClampNeg) := inb_of Sz78 ⟨by decide, by decide⟩
    obtain ⟨T79, h79, X79, e79, W79, st79⟩ := stD X75 hx hZ e75 Ar78 (j := (1 : Int32)) hin78 (g := (mkF m 124 #[.val (.int p0), .val (.int p1), .val (.long q2), .second, .val (.long q3), .second, .val (.ref b2), .val (.ref un), .val (.int md), .val (.ref b40), .unset, .unset, .unset, .unset, .unset, .unset, .unset, .unset, .unset] [(.double (4616189618054758400 : UInt64)), (.int (1 : Int32)), (.ref b71), (.ref b71)])) rfl rfl (hb hby at_124)
    have V79 : Arv Z h79 b71 kk71 .double (7 : Int32) [(.double (4620693217682128896 : UInt64)), (.double (4616189618054758400 : UInt64)), (.double (0 : UInt64)), (.double (0 : UInt64)), (.double (0 : UInt64)), (.double (0 : UInt64)), (.double (0 : UInt64))] (.double (0 : UInt64)) := Arv.set Ar78 qc78 Sz78 Nn78 Hs78 Gs78 rfl W79 1 rfl (Nat.le_of_ble_eq_true rfl)
    have N79 := Fr.snoc X79 N75 g_b71
    have K79 : Keep h0 h79 [] := Keep.wr K75 W79 (Or.inr sz_b71)
    have a80 : ∀ t, Steps p.tables e below (T79.setTop (mkF m 125 #[.val (.int p0), .val (.int p1), .val (.long q2), .second, .val (.long q3), .second, .val (.ref b2), .val (.ref un), .val (.int md), .val (.ref b40), .unset, .unset, .unset, .unset, .unset, .unset, .unset, .unset, .unset] [(.ref b71)])) t → Steps p.tables e below (s₁.setTop (entryFrame m #[(.int p0), (.int p1), (.long q2), (.long q3)] maxLocals)) t := fun t k => a77 t (st79 t k)
    have a81 : ∀ t, Steps p.tables e below (T79.setTop (mkF m 130 #[.val (.int p0), .val (.int p1), .val (.long q2), .second, .val (.long q3), .second, .val (.ref b2), .val (.ref un), .val (.int md), .val (.ref b40), .unset, .unset, .unset, .unset, .unset, .unset, .unset, .unset, .unset] [(.double (4611686018427387904 : UInt64)), (.int (2 : Int32)), (.ref b71), (.ref b71)])) t → Steps p.tables e below (s₁.setTop (entryFrame m #[(.int p0), (.int p1), (.long q2), (.long q3)] maxLocals)) t := by
      intro t k
      refine a80 t ?_
      show Steps p.tables e below (T79.setTop (mkF m 125 #[.val (.int p0), .val (.int p1), .val (.long q2), .second, .val (.long q3), .second, .val (.ref b2), .val (.ref un), .val (.int md), .val (.ref b40), .unset, .unset, .unset, .unset, .unset, .unset, .unset, .unset, .unset] [(.ref b71)])) _
      refine XS.dup X79.here hx rfl (hb hby at_125) rfl rfl ?_
      refine XS.iconst X79.here hx rfl (hb hby at_126) ?_
      refine X79.ldc2DoubleC hx hown (mvT hZ (hw _ (List.mem_of_getElem? (i := 26) rfl))) (g := (mkF m 127 #[.val (.int p0), .val (.int p1), .val (.long q2), .second, .val (.long q3), .second, .val (.ref b2), .val (.ref un), .val (.int md), .val (.ref b40), .unset, .unset, .unset, .unset, .unset, .unset, .unset, .unset, .unset] [(.int (2 : Int32)), (.ref b71), (.ref b71)])) rfl (hb hby at_127) _ ?_
      exact k
    obtain ⟨cl82, Ar82, qc82, Sz82, Nn82, Hs82, Gs82⟩ := id V79
    have hin82 : ¬ ((2 : Int32) < 0 ∨ cl82.slots.size ≤ ((2 : Int32)).toNatClampNeg) := inb_of Sz82 ⟨by decide, by decide⟩
    obtain ⟨T83, h83, X83, e83, W83, st83⟩ := stD X79 hx hZ e79 Ar82 (j := (2 : Int32)) hin82 (g := (mkF m 130 #[.val (.int p0), .val (.int p1), .val (.long q2), .second, .val (.long q3), .second, .val (.ref b2), .val (.ref un), .val (.int md), .val (.ref b40), .unset, .unset, .unset, .unset, .unset, .unset, .unset, .unset, .unset] [(.double (4611686018427387904 : UInt64)), (.int (2 : Int32)), (.ref b71), (.ref b71)])) rfl rfl (hb hby at_130)
    have V83 : Arv Z h83 b71 kk71 .double (7 : Int32) [(.double (4620693217682128896 : UInt64)), (.double (4616189618054758400 : UInt64)), (.double (4611686018427387904 : UInt64)), (.double (0 : UInt64)), (.double (0 : UInt64)), (.double (0 : UInt64)), (.double (0 : UInt64))] (.double (0 : UInt64)) := Arv.set Ar82 qc82 Sz82 Nn82 Hs82 Gs82 rfl W83 2 rfl (Nat.le_of_ble_eq_true rfl)
    have N83 := Fr.snoc X83 N79 g_b71
    have K83 : Keep h0 h83 [] := Keep.wr K79 W83 (Or.inr sz_b71)
    have a84 : ∀ t, Steps p.tables e below (T83.setTop (mkF m 131 #[.val (.int p0), .val (.int p1), .val (.long q2), .second, .val (.long q3), .second, .val (.ref b2), .val (.ref un), .val (.int md), .val (.ref b40), .unset, .unset, .unset, .unset, .unset, .unset, .unset, .unset, .unset] [(.ref b71)])) t → Steps p.tables e below (s₁.setTop (entryFrame m #[(.int p0), (.int p1), (.long q2), (.long q3)] maxLocals)) t := fun t k => a81 t (st83 t k)
    have a85 : ∀ t, Steps p.tables e below (T83.setTop (mkF m 134 #[.val (.int p0), .val (.int p1), .val (.long q2), .second, .val (.long q3), .second, .val (.ref b2), .val (.ref un), .val (.int md), .val (.ref b40), .unset, .unset, .unset, .unset, .unset, .unset, .unset, .unset, .unset] [(.double (4607182418800017408 : UInt64)), (.int (3 : Int32)), (.ref b71), (.ref b71)])) t → Steps p.tables e below (s₁.setTop (entryFrame m #[(.int p0), (.int p1), (.long q2), (.long q3)] maxLocals)) t := by
      intro t k
      refine a84 t ?_
      show Steps p.tables e below (T83.setTop (mkF m 131 #[.val (.int p0), .val (.int p1), .val (.long q2), .second, .val (.long q3), .second, .val (.ref b2), .val (.ref un), .val (.int md), .val (.ref b40), .unset, .unset, .unset, .unset, .unset, .unset, .unset, .unset, .unset] [(.ref b71)])) _
      refine XS.dup X83.here hx rfl (hb hby at_131) rfl rfl ?_
      refine XS.iconst X83.here hx rfl (hb hby at_132) ?_
      refine XS.dconst1 X83.here hx rfl (hb hby at_133) (v := 4607182418800017408) rfl ?_
      exact k
    obtain ⟨cl86, Ar86, qc86, Sz86, Nn86, Hs86, Gs86⟩ := id V83
    have hin86 : ¬ ((3 : Int32) < 0 ∨ cl86.slots.size ≤ ((3 : Int32)).toNatClampNeg) := inb_of Sz86 ⟨by decide, by decide⟩
    obtain ⟨T87, h87, X87, e87, W87, st87⟩ := stD X83 hx hZ e83 Ar86 (j := (3 : Int32)) hin86 (g := (mkF m 134 #[.val (.int p0), .val (.int p1), .val (.long q2), .second, .val (.long q3), .second, .val (.ref b2), .val (.ref un), .val (.int md), .val (.ref b40), .unset, .unset, .unset, .unset, .unset, .unset, .unset, .unset, .unset] [(.double (4607182418800017408 : UInt64)), (.int (3 : Int32)), (.ref b71), (.ref b71)])) rfl rfl (hb hby at_134)
    have V87 : Arv Z h87 b71 kk71 .double (7 : Int32) [(.double (4620693217682128896 : UInt64)), (.double (4616189618054758400 : UInt64)), (.double (4611686018427387904 : UInt64)), (.double (4607182418800017408 : UInt64)), (.double (0 : UInt64)), (.double (0 : UInt64)), (.double (0 : UInt64))] (.double (0 : UInt64)) := Arv.set Ar86 qc86 Sz86 Nn86 Hs86 Gs86 rfl W87 3 rfl (Nat.le_of_ble_eq_true rfl)
    have N87 := Fr.snoc X87 N83 g_b71
    have K87 : Keep h0 h87 [] := Keep.wr K83 W87 (Or.inr sz_b71)
    have a88 : ∀ t, Steps p.tables e below (T87.setTop (mkF m 135 #[.val (.int p0), .val (.int p1), .val (.long q2), .second, .val (.long q3), .second, .val (.ref b2), .val (.ref un), .val (.int md), .val (.ref b40), .unset, .unset, .unset, .unset, .unset, .unset, .unset, .unset, .unset] [(.ref b71)])) t → Steps p.tables e below (s₁.setTop (entryFrame m #[(.int p0), (.int p1), (.long q2), (.long q3)] maxLocals)) t := fun t k => a85 t (st87 t k)
    have a89 : ∀ t, Steps p.tables e below (T87.setTop (mkF m 140 #[.val (.int p0), .val (.int p1), .val (.long q2), .second, .val (.long q3), .second, .val (.ref b2), .val (.ref un), .val (.int md), .val (.ref b40), .unset, .unset, .unset, .unset, .unset, .unset, .unset, .unset, .unset] [(.double (4602678819172646912 : UInt64)), (.int (4 : Int32)), (.ref b71), (.ref b71)])) t → Steps p.tables e below (s₁.setTop (entryFrame m #[(.int p0), (.int p1), (.long q2), (.long q3)] maxLocals)) t := by
      intro t k
      refine a88 t ?_
      show Steps p.tables e below (T87.setTop (mkF m 135 #[.val (.int p0), .val (.int p1), .val (.long q2), .second, .val (.long q3), .second, .val (.ref b2), .val (.ref un), .val (.int md), .val (.ref b40), .unset, .unset, .unset, .unset, .unset, .unset, .unset, .unset, .unset] [(.ref b71)])) _
      refine XS.dup X87.here hx rfl (hb hby at_135) rfl rfl ?_
      refine XS.iconst X87.here hx rfl (hb hby at_136) ?_
      refine X87.ldc2DoubleC hx hown (mvT hZ (hw _ (List.mem_of_getElem? (i := 27) rfl))) (g := (mkF m 137 #[.val (.int p0), .val (.int p1), .val (.long q2), .second, .val (.long q3), .second, .val (.ref b2), .val (.ref un), .val (.int md), .val (.ref b40), .unset, .unset, .unset, .unset, .unset, .unset, .unset, .unset, .unset] [(.int (4 : Int32)), (.ref b71), (.ref b71)])) rfl (hb hby at_137) _ ?_
      exact k
    obtain ⟨cl90, Ar90, qc90, Sz90, Nn90, Hs90, Gs90⟩ := id V87
    have hin90 : ¬ ((4 : Int32) < 0 ∨ cl90.slots.size ≤ ((4 : Int32)).toNatClampNeg) := inb_of Sz90 ⟨by decide, by decide⟩
    obtain ⟨T91, h91, X91, e91, W91, st91⟩ := stD X87 hx hZ e87 Ar90 (j := (4 : Int32)) hin90 (g := (mkF m 140 #[.val (.int p0), .val (.int p1), .val (.long q2), .second, .val (.long q3), .second, .val (.ref b2), .val (.ref un), .val (.int md), .val (.ref b40), .unset, .unset, .unset, .unset, .unset, .unset, .unset, .unset, .unset] [(.double (4602678819172646912 : UInt64)), (.int (4 : Int32)), (.ref b71), (.ref b71)])) rfl rfl (hb hby at_140)
    have V91 : Arv Z h91 b71 kk71 .double (7 : Int32) [(.double (4620693217682128896 : UInt64)), (.double (4616189618054758400 : UInt64)), (.double (4611686018427387904 : UInt64)), (.double (4607182418800017408 : UInt64)), (.double (4602678819172646912 : UInt64)), (.double (0 : UInt64)), (.double (0 : UInt64))] (.double (0 : UInt64)) := Arv.set Ar90 qc90 Sz90 Nn90 Hs90 Gs90 rfl W91 4 rfl (Nat.le_of_ble_eq_true rfl)
    have N91 := Fr.snoc X91 N87 g_b71
    have K91 : Keep h0 h91 [] := Keep.wr K87 W91 (Or.inr sz_b71)
    have a92 : ∀ t, Steps p.tables e below (T91.setTop (mkF m 141 #[.val (.int p0), .val (.int p1), .val (.long q2), .second, .val (.long q3), .second, .val (.ref b2), .val (.ref un), .val (.int md), .val (.ref b40), .unset, .unset, .unset, .unset, .unset, .unset, .unset, .unset, .unset] [(.ref b71)])) t → Steps p.tables e below (s₁.setTop (entryFrame m #[(.int p0), (.int p1), (.long q2), (.long q3)] maxLocals)) t := fun t k => a89 t (st91 t k)
    have a93 : ∀ t, Steps p.tables e below (T91.setTop (mkF m 146 #[.val (.int p0), .val (.int p1), .val (.long q2), .second, .val (.long q3), .second, .val (.ref b2), .val (.ref un), .val (.int md), .val (.ref b40), .unset, .unset, .unset, .unset, .unset, .unset, .unset, .unset, .unset] [(.double (4598175219545276416 : UInt64)), (.int (5 : Int32)), (.ref b71), (.ref b71)])) t → Steps p.tables e below (s₁.setTop (entryFrame m #[(.int p0), (.int p1), (.long q2), (.long q3)] maxLocals)) t := by
      intro t k
      refine a92 t ?_
      show Steps p.tables e below (T91.setTop (mkF m 141 #[.val (.int p0), .val (.int p1), .val (.long q2), .second, .val (.long q3), .second, .val (.ref b2), .val (.ref un), .val (.int md), .val (.ref b40), .unset, .unset, .unset, .unset, .unset, .unset, .unset, .unset, .unset] [(.ref b71)])) _
      refine XS.dup X91.here hx rfl (hb hby at_141) rfl rfl ?_
      refine XS.iconst X91.here hx rfl (hb hby at_142) ?_
      refine X91.ldc2DoubleC hx hown (mvT hZ (hw _ (List.mem_of_getElem? (i := 28) rfl))) (g := (mkF m 143 #[.val (.int p0), .val (.int p1), .val (.long q2), .second, .val (.long q3), .second, .val (.ref b2), .val (.ref un), .val (.int md), .val (.ref b40), .unset, .unset, .unset, .unset, .unset, .unset, .unset, .unset, .unset] [(.int (5 : Int32)), (.ref b71), (.ref b71)])) rfl (hb hby at_143) _ ?_
      exact k
    obtain ⟨cl94, Ar94, qc94, Sz94, Nn94, Hs94, Gs94⟩ := id V91
    have hin94 : ¬ ((5 : Int32) < 0 ∨ cl94.slots.size ≤ ((5 : Int32)).toNatClampNeg) := inb_of Sz94 ⟨by decide, by decide⟩
    obtain ⟨T95, h95, X95, e95, W95, st95⟩ := stD X91 hx hZ e91 Ar94 (j := (5 : Int32)) hin94 (g := (mkF m 146 #[.val (.int p0), .val (.int p1), .val (.long q2), .second, .val (.long q3), .second, .val (.ref b2), .val (.ref un), .val (.int md), .val (.ref b40), .unset, .unset, .unset, .unset, .unset, .unset, .unset, .unset, .unset] [(.double (4598175219545276416 : UInt64)), (.int (5 : Int32)), (.ref b71), (.ref b71)])) rfl rfl (hb hby at_146)
    have V95 : Arv Z h95 b71 kk71 .double (7 : Int32) [(.double (4620693217682128896 : UInt64)), (.double (4616189618054758400 : UInt64)), (.double (4611686018427387904 : UInt64)), (.double (4607182418800017408 : UInt64)), (.double (4602678819172646912 : UInt64)), (.double (4598175219545276416 : UInt64)), (.double (0 : UInt64))] (.double (0 : UInt64)) := Arv.set Ar94 qc94 Sz94 Nn94 Hs94 Gs94 rfl W95 5 rfl (Nat.le_of_ble_eq_true rfl)
    have N95 := Fr.snoc X95 N91 g_b71
    have K95 : Keep h0 h95 [] := Keep.wr K91 W95 (Or.inr sz_b71)
    have a96 : ∀ t, Steps p.tables e below (T95.setTop (mkF m 147 #[.val (.int p0), .val (.int p1), .val (.long q2), .second, .val (.long q3), .second, .val (.ref b2), .val (.ref un), .val (.int md), .val (.ref b40), .unset, .unset, .unset, .unset, .unset, .unset, .unset, .unset, .unset] [(.ref b71)])) t → Steps p.tables e below (s₁.setTop (entryFrame m #[(.int p0), (.int p1), (.long q2), (.long q3)] maxLocals)) t := fun t k => a93 t (st95 t k)
    have a97 : ∀ t, Steps p.tables e below (T95.setTop (mkF m 153 #[.val (.int p0), .val (.int p1), .val (.long q2), .second, .val (.long q3), .second, .val (.ref b2), .val (.ref un), .val (.int md), .val (.ref b40), .unset, .unset, .unset, .unset, .unset, .unset, .unset, .unset, .unset] [(.double (4593671619917905920 : UInt64)), (.int (6 : Int32)), (.ref b71), (.ref b71)])) t → Steps p.tables e below (s₁.setTop (entryFrame m #[(.int p0), (.int p1), (.long q2), (.long q3)] maxLocals)) t := by
      intro t k
      refine a96 t ?_
      show Steps p.tables e below (T95.setTop (mkF m 147 #[.val (.int p0), .val (.int p1), .val (.long q2), .second, .val (.long q3), .second, .val (.ref b2), .val (.ref un), .val (.int md), .val (.ref b40), .unset, .unset, .unset, .unset, .unset, .unset, .unset, .unset, .unset] [(.ref b71)])) _
      refine XS.dup X95.here hx rfl (hb hby at_147) rfl rfl ?_
      refine XS.bipush X95.here hx rfl (hb hby at_148) ?_
      refine X95.ldc2DoubleC hx hown (mvT hZ (hw _ (List.mem_of_getElem? (i := 29) rfl))) (g := (mkF m 150 #[.val (.int p0), .val (.int p1), .val (.long q2), .second, .val (.long q3), .second, .val (.ref b2), .val (.ref un), .val (.int md), .val (.ref b40), .unset, .unset, .unset, .unset, .unset, .unset, .unset, .unset, .unset] [(.int (6 : Int32)), (.ref b71), (.ref b71)])) rfl (hb hby at_150) _ ?_
      exact k
    obtain ⟨cl98, Ar98, qc98, Sz98, Nn98, Hs98, Gs98⟩ := id V95
    have hin98 : ¬ ((6 : Int32) < 0 ∨ cl98.slots.size ≤ ((6 : Int32)).toNatClampNeg) := inb_of Sz98 ⟨by decide, by decide⟩
    obtain ⟨T99, h99, X99, e99, W99, st99⟩ := stD X95 hx hZ e95 Ar98 (j := (6 : Int32)) hin98 (g := (mkF m 153 #[.val (.int p0), .val (.int p1), .val (.long q2), .second, .val (.long q3), .second, .val (.ref b2), .val (.ref un), .val (.int md), .val (.ref b40), .unset, .unset, .unset, .unset, .unset, .unset, .unset, .unset, .unset] [(.double (4593671619917905920 : UInt64)), (.int (6 : Int32)), (.ref b71), (.ref b71)])) rfl rfl (hb hby at_153)
    have V99 : Arv Z h99 b71 kk71 .double (7 : Int32) [(.double (4620693217682128896 : UInt64)), (.double (4616189618054758400 : UInt64)), (.double (4611686018427387904 : UInt64)), (.double (4607182418800017408 : UInt64)), (.double (4602678819172646912 : UInt64)), (.double (4598175219545276416 : UInt64)), (.double (4593671619917905920 : UInt64))] (.double (0 : UInt64)) := Arv.set Ar98 qc98 Sz98 Nn98 Hs98 Gs98 rfl W99 6 rfl (Nat.le_of_ble_eq_true rfl)
    have N99 := Fr.snoc X99 N95 g_b71
    have K99 : Keep h0 h99 [] := Keep.wr K95 W99 (Or.inr sz_b71)
    have a100 : ∀ t, Steps p.tables e below (T99.setTop (mkF m 154 #[.val (.int p0), .val (.int p1), .val (.long q2), .second, .val (.long q3), .second, .val (.ref b2), .val (.ref un), .val (.int md), .val (.ref b40), .unset, .unset, .unset, .unset, .unset, .unset, .unset, .unset, .unset] [(.ref b71)])) t → Steps p.tables e below (s₁.setTop (entryFrame m #[(.int p0), (.int p1), (.long q2), (.long q3)] maxLocals)) t := fun t k => a97 t (st99 t k)
    have q7 := hc57_38
    rw [Int32.lt_iff_toInt_lt, show (7 : Int32).toInt = 7 by decide] at q7
    have hmd7 : 0 ≤ md.toInt ∧ md.toInt < 7 := ⟨own_md h_md, q7⟩
    obtain ⟨nsv, fv, hns, hfv, hrow⟩ := own_tab md hmd7
    have hex := rate_exact q2 hrow.1 hrow.2.2 hrow.2.1
    have a101 : ∀ t, Steps p.tables e below (T99.setTop (mkF m 163 #[.val (.int p0), .val (.int p1), .val (.long q2), .second, .val (.long q3), .second, .val (.ref b2), .val (.ref un), .val (.int md), .val (.ref b40), .val (.ref b71), .unset, .unset, .unset, .unset, .unset, .unset, .unset, .unset] [(.int md), (.ref b40), (.long q2), (.ref un)])) t → Steps p.tables e below (s₁.setTop (entryFrame m #[(.int p0), (.int p1), (.long q2), (.long q3)] maxLocals)) t := by
      intro t k
      refine a100 t ?_
      show Steps p.tables e below (T99.setTop (mkF m 154 #[.val (.int p0), .val (.int p1), .val (.long q2), .second, .val (.long q3), .second, .val (.ref b2), .val (.ref un), .val (.int md), .val (.ref b40), .unset, .unset, .unset, .unset, .unset, .unset, .unset, .unset, .unset] [(.ref b71)])) _
      refine XS.astore X99.here hx rfl (hb hby at_154) rfl rfl (l' := #[.val (.int p0), .val (.int p1), .val (.long q2), .second, .val (.long q3), .second, .val (.ref b2), .val (.ref un), .val (.int md), .val (.ref b40), .val (.ref b71), .unset, .unset, .unset, .unset, .unset, .unset, .unset, .unset]) rfl ?_
      refine XS.aload X99.here hx rfl (hb hby at_156) rfl rfl ?_
      refine XS.lloadN X99.here hx rfl (hb hby at_158) rfl ?_
      refine XS.aload X99.here hx rfl (hb hby at_159) rfl rfl ?_
      refine XS.iload X99.here hx rfl (hb hby at_161) rfl ?_
      exact k
    obtain ⟨cl102, Ar102, qc102, Sz102, Nn102, Hs102, Gs102⟩ := id (Arv.other (Arv.other (Arv.other (Arv.other (Arv.other (Arv.other (Arv.other (V68.ext E71) W75 (Nat.ne_of_lt (Nat.lt_of_lt_of_le V68.lt (Nat.le_of_eq g71.symm)))) W79 (Nat.ne_of_lt (Nat.lt_of_lt_of_le V68.lt (Nat.le_of_eq g71.symm)))) W83 (Nat.ne_of_lt (Nat.lt_of_lt_of_le V68.lt (Nat.le_of_eq g71.symm)))) W87 (Nat.ne_of_lt (Nat.lt_of_lt_of_le V68.lt (Nat.le_of_eq g71.symm)))) W91 (Nat.ne_of_lt (Nat.lt_of_lt_of_le V68.lt (Nat.le_of_eq g71.symm)))) W95 (Nat.ne_of_lt (Nat.lt_of_lt_of_le V68.lt (Nat.le_of_eq g71.symm)))) W99 (Nat.ne_of_lt (Nat.lt_of_lt_of_le V68.lt (Nat.le_of_eq g71.symm))))
    have hin102 : ¬ (md < 0 ∨ cl102.slots.size ≤ (md).toNatClampNeg) := inb_of Sz102 (own_ib (by decide) hmd7)
    have hat102 := Hs102.at hin102 (v := (.long nsv)) hns
    have a103 : ∀ t, Steps p.tables e below (T99.setTop (mkF m 164 #[.val (.int p0), .val (.int p1), .val (.long q2), .second, .val (.long q3), .second, .val (.ref b2), .val (.ref un), .val (.int md), .val (.ref b40), .val (.ref b71), .unset, .unset, .unset, .unset, .unset, .unset, .unset, .unset] [(.long nsv), (.long q2), (.ref un)])) t → Steps p.tables e below (s₁.setTop (entryFrame m #[(.int p0), (.int p1), (.long q2), (.long q3)] maxLocals)) t := by
      intro t k
      refine a101 t ?_
      show Steps p.tables e below (T99.setTop (mkF m 163 #[.val (.int p0), .val (.int p1), .val (.long q2), .second, .val (.long q3), .second, .val (.ref b2), .val (.ref un), .val (.int md), .val (.ref b40), .val (.ref b71), .unset, .unset, .unset, .unset, .unset, .unset, .unset, .unset] [(.int md), (.ref b40), (.long q2), (.ref un)])) _
      refine X99.laload hx (j := md) (v := (.long nsv)) (by rw [e99]; exact Ar102.1) (State.isArrayOf_alike hZ.alike Ar102.2.1) Ar102.2.2 hin102 hat102 (g := (mkF m 163 #[.val (.int p0), .val (.int p1), .val (.long q2), .second, .val (.long q3), .second, .val (.ref b2), .val (.ref un), .val (.int md), .val (.ref b40), .val (.ref b71), .unset, .unset, .unset, .unset, .unset, .unset, .unset, .unset] [(.int md), (.ref b40), (.long q2), (.ref un)])) rfl rfl (hb hby at_163) _ ?_
      exact k
    obtain ⟨_, _, ⟨T104, L104, k104, n104⟩, -, X104, ⟨Lc104, hQ104, l104, y104, z104⟩, st104⟩ := Jvm.LawKit.callS X99 hx (y := (⟨"org/latchwork/cli/Figure", "rate", "(Lorg/latchwork/cli/Figure$Unit;JJ)Lorg/latchwork/cli/Figure;"⟩ : MethodName)) hown (mvT hZ (hw _ (List.mem_of_getElem? (i := 30) rfl))) (mvT hZ (hw _ (List.mem_of_getElem? (i := 31) rfl))) (mvT hZ (hw _ (List.mem_of_getElem? (i := 32) rfl))) (mvT hZ (hw _ (List.mem_of_getElem? (i := 33) rfl))) (by decide) (backOf (W := 0) (rmRate l Z a0 hw [] un q2 nsv h99 n0 (Nat.le_trans (Nat.le_trans (Nat.le_trans (Nat.le_trans (Nat.le_trans (Nat.le_trans (Nat.le_trans (Nat.le_trans (Nat.le_trans (Nat.le_trans (Nat.le_trans (Nat.le_trans (Nat.le_trans (Nat.le_trans (Nat.le_trans (Nat.le_trans (Nat.le_trans (Nat.le_trans (Nat.le_trans (Nat.le_trans (Nat.le_trans (Nat.le_trans Z0 E2.1) (Keep.of_wr W8).1) (Keep.of_wr W14).1) (Keep.of_wr W20).1) (Keep.of_wr W26).1) (Keep.of_wr W32).1) E40.1) (Keep.of_wr W44).1) (Keep.of_wr W48).1) (Keep.of_wr W52).1) (Keep.of_wr W56).1) (Keep.of_wr W60).1) (Keep.of_wr W64).1) (Keep.of_wr W68).1) E71.1) (Keep.of_wr W75).1) (Keep.of_wr W79).1) (Keep.of_wr W83).1) (Keep.of_wr W87).1) (Keep.of_wr W91).1) (Keep.of_wr W95).1) (Keep.of_wr W99).1) (own_rn q2 (Int.ne_of_gt hrow.1))) hZ (hw _ (List.mem_of_getElem? (i := 33) rfl)) (hw _ (List.mem_of_getElem? (i := 32) rfl)) (by decide) (by decide)) (g := (mkF m 164 #[.val (.int p0), .val (.int p1), .val (.long q2), .second, .val (.long q3), .second, .val (.ref b2), .val (.ref un), .val (.int md), .val (.ref b40), .val (.ref b71), .unset, .unset, .unset, .unset, .unset, .unset, .unset, .unset] [(.long nsv), (.long q2), (.ref un)])) rfl (by rw [hml]; rfl) (argsL := [(.ref un), (.long q2), (.long nsv)]) (rest := []) (lenOf own_pd2 rfl) rfl (by show 2 * 0 + _ ≤ _; exact Nat.le_of_eq rfl) (hb hby at_164) (fun _ _ => ⟨rfl, e99, (by decide : 3 + 1 ≤ _), (by decide : 19 + 2 ≤ _)⟩)
    dsimp only [Pt.U, Pt.locs, Pt.cells, Pt.slots] at X104 l104 y104 z104 st104 hQ104
    subst l104 y104 z104
    obtain ⟨f104, rfl, N104q, K104q, XF104, FU104, FV104⟩ := hQ104
    have N104 := Fr.app N99 N104q
    have KK104 : Keep h0 T104.heap [] := Keep.trans K99 K104q all0
    have a105 : ∀ t, Steps p.tables e below (T104.setTop (mkF m 167 #[.val (.int p0), .val (.int p1), .val (.long q2), .second, .val (.long q3), .second, .val (.ref b2), .val (.ref un), .val (.int md), .val (.ref b40), .val (.ref b71), .unset, .unset, .unset, .unset, .unset, .unset, .unset, .unset] [(.ref f104)])) t → Steps p.tables e below (s₁.setTop (entryFrame m #[(.int p0), (.int p1), (.long q2), (.long q3)] maxLocals)) t := fun t k => a103 t (st104 t k)
    have a106 : ∀ t, Steps p.tables e below (T104.setTop (mkF m 171 #[.val (.int p0), .val (.int p1), .val (.long q2), .second, .val (.long q3), .second, .val (.ref b2), .val (.ref un), .val (.int md), .val (.ref b40), .val (.ref b71), .val (.ref f104), .unset, .unset, .unset, .unset, .unset, .unset, .unset] [(.ref f104)])) t → Steps p.tables e below (s₁.setTop (entryFrame m #[(.int p0), (.int p1), (.long q2), (.long q3)] maxLocals)) t := by
      intro t k
      refine a105 t ?_
      show Steps p.tables e below (T104.setTop (mkF m 167 #[.val (.int p0), .val (.int p1), .val (.long q2), .second, .val (.long q3), .second, .val (.ref b2), .val (.ref un), .val (.int md), .val (.ref b40), .val (.ref b71), .unset, .unset, .unset, .unset, .unset, .unset, .unset, .unset] [(.ref f104)])) _
      refine XS.astore X104.here hx rfl (hb hby at_167) rfl rfl (l' := #[.val (.int p0), .val (.int p1), .val (.long q2), .second, .val (.long q3), .second, .val (.ref b2), .val (.ref un), .val (.int md), .val (.ref b40), .val (.ref b71), .val (.ref f104), .unset, .unset, .unset, .unset, .unset, .unset, .unset]) rfl ?_
      refine XS.aload X104.here hx rfl (hb hby at_169) rfl rfl ?_
      exact k
    obtain ⟨cq107, kq107, q107a, q107b, q107c⟩ := isOf hZ rfl XF104
    obtain ⟨_, _, ⟨T107, L107, k107, n107⟩, -, X107, ⟨Lc107, hQ107, l107, y107, z107⟩, st107⟩ := X104.virtualBack hx (y := (⟨"org/latchwork/cli/Figure", "unit", "()Lorg/latchwork/cli/Figure$Unit;"⟩ : MethodName)) (z := (⟨"org/latchwork/cli/Figure", "unit", "()Lorg/latchwork/cli/Figure$Unit;"⟩ : MethodName)) hown (mvT hZ (hw _ (List.mem_of_getElem? (i := 52) rfl))) (mvT hZ (hw _ (List.mem_of_getElem? (i := 53) rfl))) (notFace_of_selects (args := #[]) (mvT hZ (hw _ (List.mem_of_getElem? (i := 55) rfl)))) (mvT hZ (hw _ (List.mem_of_getElem? (i := 55) rfl))) (mvT hZ (hw _ (List.mem_of_getElem? (i := 54) rfl))) (by decide) (backOf (W := 0) (rmU l Z a0 hw [] f104 un T104.heap n0 (Nat.le_trans (Nat.le_trans (Nat.le_trans (Nat.le_trans (Nat.le_trans (Nat.le_trans (Nat.le_trans (Nat.le_trans (Nat.le_trans (Nat.le_trans (Nat.le_trans (Nat.le_trans (Nat.le_trans (Nat.le_trans (Nat.le_trans (Nat.le_trans (Nat.le_trans (Nat.le_trans (Nat.le_trans (Nat.le_trans (Nat.le_trans (Nat.le_trans (Nat.le_trans Z0 E2.1) (Keep.of_wr W8).1) (Keep.of_wr W14).1) (Keep.of_wr W20).1) (Keep.of_wr W26).1) (Keep.of_wr W32).1) E40.1) (Keep.of_wr W44).1) (Keep.of_wr W48).1) (Keep.of_wr W52).1) (Keep.of_wr W56).1) (Keep.of_wr W60).1) (Keep.of_wr W64).1) (Keep.of_wr W68).1) E71.1) (Keep.of_wr W75).1) (Keep.of_wr W79).1) (Keep.of_wr W83).1) (Keep.of_wr W87).1) (Keep.of_wr W91).1) (Keep.of_wr W95).1) (Keep.of_wr W99).1) K104q.1) FU104) hZ (hw _ (List.mem_of_getElem? (i := 56) rfl)) (hw _ (List.mem_of_getElem? (i := 32) rfl)) (by decide) (by decide)) q107a q107c (g := (mkF m 171 #[.val (.int p0), .val (.int p1), .val (.long q2), .second, .val (.long q3), .second, .val (.ref b2), .val (.ref un), .val (.int md), .val (.ref b40), .val (.ref b71), .val (.ref f104), .unset, .unset, .unset, .unset, .unset, .unset, .unset] [(.ref f104)])) rfl (by rw [hml]; rfl) (Steps.refl _) (argsL := []) (rest := []) (lenOf own_pd3 rfl) rfl (by show 2 * 0 + _ ≤ _; exact Nat.le_of_eq rfl) (hb hby at_171) (fun _ _ => ⟨rfl, rfl, (by decide : 4 + 0 ≤ _), (by decide : 21 + 0 ≤ _)⟩)
    dsimp only [Pt.U, Pt.locs, Pt.cells, Pt.slots] at X107 l107 y107 z107 st107 hQ107
    subst l107 y107 z107
    obtain ⟨rfl, N107q, e107q⟩ := hQ107
    have N107 := Fr.app N104 N107q
    have a108 : ∀ t, Steps p.tables e below (T107.setTop (mkF m 174 #[.val (.int p0), .val (.int p1), .val (.long q2), .second, .val (.long q3), .second, .val (.ref b2), .val (.ref un), .val (.int md), .val (.ref b40), .val (.ref b71), .val (.ref f104), .unset, .unset, .unset, .unset, .unset, .unset, .unset] [(.ref un)])) t → Steps p.tables e below (s₁.setTop (entryFrame m #[(.int p0), (.int p1), (.long q2), (.long q3)] maxLocals)) t := fun t k => a106 t (st107.trans k)
    have a109 : ∀ t, Steps p.tables e below (T107.setTop (mkF m 181 #[.val (.int p0), .val (.int p1), .val (.long q2), .second, .val (.long q3), .second, .val (.ref b2), .val (.ref un), .val (.int md), .val (.ref b40), .val (.ref b71), .val (.ref f104), .unset, .unset, .unset, .unset, .unset, .unset, .unset] [(.ref f104)])) t → Steps p.tables e below (s₁.setTop (entryFrame m #[(.int p0), (.int p1), (.long q2), (.long q3)] maxLocals)) t := by
      intro t k
      refine a108 t ?_
      show Steps p.tables e below (T107.setTop (mkF m 174 #[.val (.int p0), .val (.int p1), .val (.long q2), .second, .val (.long q3), .second, .val (.ref b2), .val (.ref un), .val (.int md), .val (.ref b40), .val (.ref b71), .val (.ref f104), .unset, .unset, .unset, .unset, .unset, .unset, .unset] [(.ref un)])) _
      refine XS.aload X107.here hx rfl (hb hby at_174) rfl rfl ?_
      refine Jvm.RoadKit.acmp (g := (mkF m 176 #[.val (.int p0), .val (.int p1), .val (.long q2), .second, .val (.long q3), .second, .val (.ref b2), .val (.ref un), .val (.int md), .val (.ref b40), .val (.ref b71), .val (.ref f104), .unset, .unset, .unset, .unset, .unset, .unset, .unset] [(.ref un), (.ref un)])) X107 hx rfl rfl rfl (pc0 := 176) (pc' := 179) (same := true) rfl (hb hby at_176) rfl (decide_eq_true rfl) (by decide) (by decide) ?_
      refine XS.aload X107.here hx rfl (hb hby at_179) rfl rfl ?_
      exact k
    obtain ⟨cq110, kq110, q110a, q110b, q110c⟩ := isOf hZ e107q XF104
    obtain ⟨_, _, ⟨T110, L110, k110, n110⟩, -, X110, ⟨Lc110, hQ110, l110, y110, z110⟩, st110⟩ := X107.virtualBack hx (y := (⟨"org/latchwork/cli/Figure", "value", "()D"⟩ : MethodName)) (z := (⟨"org/latchwork/cli/Figure", "value", "()D"⟩ : MethodName)) hown (mvT hZ (hw _ (List.mem_of_getElem? (i := 57) rfl))) (mvT hZ (hw _ (List.mem_of_getElem? (i := 58) rfl))) (notFace_of_selects (args := #[]) (mvT hZ (hw _ (List.mem_of_getElem? (i := 60) rfl)))) (mvT hZ (hw _ (List.mem_of_getElem? (i := 60) rfl))) (mvT hZ (hw _ (List.mem_of_getElem? (i := 59) rfl))) (by decide) (backOf (W := 0) (rmVal l Z a0 hw [] f104 (FP.ddiv (FP.l2d q2) (FP.ddiv (FP.l2d nsv) (4741671816366391296 : UInt64))) T104.heap n0 (Nat.le_trans (Nat.le_trans (Nat.le_trans (Nat.le_trans (Nat.le_trans (Nat.le_trans (Nat.le_trans (Nat.le_trans (Nat.le_trans (Nat.le_trans (Nat.le_trans (Nat.le_trans (Nat.le_trans (Nat.le_trans (Nat.le_trans (Nat.le_trans (Nat.le_trans (Nat.le_trans (Nat.le_trans (Nat.le_trans (Nat.le_trans (Nat.le_trans (Nat.le_trans Z0 E2.1) (Keep.of_wr W8).1) (Keep.of_wr W14).1) (Keep.of_wr W20).1) (Keep.of_wr W26).1) (Keep.of_wr W32).1) E40.1) (Keep.of_wr W44).1) (Keep.of_wr W48).1) (Keep.of_wr W52).1) (Keep.of_wr W56).1) (Keep.of_wr W60).1) (Keep.of_wr W64).1) (Keep.of_wr W68).1) E71.1) (Keep.of_wr W75).1) (Keep.of_wr W79).1) (Keep.of_wr W83).1) (Keep.of_wr W87).1) (Keep.of_wr W91).1) (Keep.of_wr W95).1) (Keep.of_wr W99).1) K104q.1) FV104) hZ (hw _ (List.mem_of_getElem? (i := 61) rfl)) (hw _ (List.mem_of_getElem? (i := 32) rfl)) (by decide) (by decide)) q110a q110c (g := (mkF m 181 #[.val (.int p0), .val (.int p1), .val (.long q2), .second, .val (.long q3), .second, .val (.ref b2), .val (.ref un), .val (.int md), .val (.ref b40), .val (.ref b71), .val (.ref f104), .unset, .unset, .unset, .unset, .unset, .unset, .unset] [(.ref f104)])) rfl (by rw [hml]; rfl) (Steps.refl _) (argsL := []) (rest := []) (lenOf own_pd4 rfl) rfl (by show 2 * 0 + _ ≤ _; exact Nat.le_of_eq rfl) (hb hby at_181) (fun _ _ => ⟨rfl, e107q, (by decide : 4 + 0 ≤ _), (by decide : 21 + 0 ≤ _)⟩)
    dsimp only [Pt.U, Pt.locs, Pt.cells, Pt.slots] at X110 l110 y110 z110 st110 hQ110
    subst l110 y110 z110
    obtain ⟨rfl, N110q, e110q⟩ := hQ110
    have N110 := Fr.app N107 N110q
    have a111 : ∀ t, Steps p.tables e below (T110.setTop (mkF m 184 #[.val (.int p0), .val (.int p1), .val (.long q2), .second, .val (.long q3), .second, .val (.ref b2), .val (.ref un), .val (.int md), .val (.ref b40), .val (.ref b71), .val (.ref f104), .unset, .unset, .unset, .unset, .unset, .unset, .unset] [(.double (FP.ddiv (FP.l2d q2) (FP.ddiv (FP.l2d nsv) (4741671816366391296 : UInt64))))])) t → Steps p.tables e below (s₁.setTop (entryFrame m #[(.int p0), (.int p1), (.long q2), (.long q3)] maxLocals)) t := fun t k => a109 t (st110.trans k)
    have a112 : ∀ t, Steps p.tables e below (T110.setTop (mkF m 190 #[.val (.int p0), .val (.int p1), .val (.long q2), .second, .val (.long q3), .second, .val (.ref b2), .val (.ref un), .val (.int md), .val (.ref b40), .val (.ref b71), .val (.ref f104), .unset, .unset, .unset, .unset, .unset, .unset, .unset] [(.int md), (.ref b71), (.double (FP.l2d q2)), (.double (FP.ddiv (FP.l2d q2) (FP.ddiv (FP.l2d nsv) (4741671816366391296 : UInt64))))])) t → Steps p.tables e below (s₁.setTop (entryFrame m #[(.int p0), (.int p1), (.long q2), (.long q3)] maxLocals)) t := by
      intro t k
      refine a111 t ?_
      show Steps p.tables e below (T110.setTop (mkF m 184 #[.val (.int p0), .val (.int p1), .val (.long q2), .second, .val (.long q3), .second, .val (.ref b2), .val (.ref un), .val (.int md), .val (.ref b40), .val (.ref b71), .val (.ref f104), .unset, .unset, .unset, .unset, .unset, .unset, .unset] [(.double (FP.ddiv (FP.l2d q2) (FP.ddiv (FP.l2d nsv) (4741671816366391296 : UInt64))))])) _
      refine XS.lloadN X110.here hx rfl (hb hby at_184) rfl ?_
      refine XS.l2dS X110.here hx rfl (hb hby at_185) rfl rfl ?_
      refine XS.aload X110.here hx rfl (hb hby at_186) rfl rfl ?_
      refine XS.iload X110.here hx rfl (hb hby at_188) rfl ?_
      exact k
    obtain ⟨cl113, Ar113, qc113, Sz113, Nn113, Hs113, Gs113⟩ := id (V99.keep K104q nin0)
    have hin113 : ¬ (md < 0 ∨ cl113.slots.size ≤ (md).toNatClampNeg) := inb_of Sz113 (own_ib (by decide) hmd7)
    have hat113 := Hs113.at hin113 (v := (.double fv)) hfv
    have a114 : ∀ t, Steps p.tables e below (T110.setTop (mkF m 201 #[.val (.int p0), .val (.int p1), .val (.long q2), .second, .val (.long q3), .second, .val (.ref b2), .val (.ref un), .val (.int md), .val (.ref b40), .val (.ref b71), .val (.ref f104), .unset, .unset, .unset, .unset, .unset, .unset, .unset] [(.int (1 : Int32))])) t → Steps p.tables e below (s₁.setTop (entryFrame m #[(.int p0), (.int p1), (.long q2), (.long q3)] maxLocals)) t := by
      intro t k
      refine a112 t ?_
      show Steps p.tables e below (T110.setTop (mkF m 190 #[.val (.int p0), .val (.int p1), .val (.long q2), .second, .val (.long q3), .second, .val (.ref b2), .val (.ref un), .val (.int md), .val (.ref b40), .val (.ref b71), .val (.ref f104), .unset, .unset, .unset, .unset, .unset, .unset, .unset] [(.int md), (.ref b71), (.double (FP.l2d q2)), (.double (FP.ddiv (FP.l2d q2) (FP.ddiv (FP.l2d nsv) (4741671816366391296 : UInt64))))])) _
      refine X110.daload hx (j := md) (v := (.double fv)) (by rw [e110q]; exact Ar113.1) (State.isArrayOf_alike hZ.alike Ar113.2.1) Ar113.2.2 hin113 hat113 (g := (mkF m 190 #[.val (.int p0), .val (.int p1), .val (.long q2), .second, .val (.long q3), .second, .val (.ref b2), .val (.ref un), .val (.int md), .val (.ref b40), .val (.ref b71), .val (.ref f104), .unset, .unset, .unset, .unset, .unset, .unset, .unset] [(.int md), (.ref b71), (.double (FP.l2d q2)), (.double (FP.ddiv (FP.l2d q2) (FP.ddiv (FP.l2d nsv) (4741671816366391296 : UInt64))))])) rfl rfl (hb hby at_190) _ ?_
      refine XS.dmulS X110.here hx rfl (hb hby at_191) rfl (nn64 hex.1) rfl ?_
      refine XS.dcmpS X110.here hx rfl (hb hby at_192) rfl rfl ?_
      refine XS.ifNo X110.here hx rfl (hb hby at_193) rfl ((if0 _ _).trans (teq (own_eqv (rate_fin q2 (Int.ne_of_gt hrow.1)) hex.1 hex.2)).2) ?_
      refine XS.iconst X110.here hx rfl (hb hby at_196) ?_
      refine XS.goto X110.here hx rfl (pc0 := 197) (pc' := 201) rfl (hb hby at_197) (by decide) (by decide) ?_
      exact k
    obtain ⟨fs, hr, hrun, hended, hW, hsame⟩ := X110.leave (v := some (.int (1 : Int32))) (fun h => by rw [Bd.returns] at h; cases h)
    refine ⟨_, _, a114 _ ?_, hrun, hended, _, _, rfl, ?_, ⟨_, rfl⟩, hW, hsame.mono (by decide) (by decide)⟩
    · show Steps p.tables e below (T110.setTop (mkF m 201 #[.val (.int p0), .val (.int p1), .val (.long q2), .second, .val (.long q3), .second, .val (.ref b2), .val (.ref un), .val (.int md), .val (.ref b40), .val (.ref b71), .val (.ref f104), .unset, .unset, .unset, .unset, .unset, .unset, .unset] [(.int (1 : Int32))])) _
      exact retN X110 hx (t := .boolean) Bd.returns (by simp) (hb hby at_201) hr
    · show Q0 Z p0 p1 q2 q3 w_OPS_PER_S w_ITEMS_PER_S w_ROUNDS_PER_S w_ENTRIES_PER_S w_WRITER_WAIT_MAX_MS h0 n0 _ T110.heap _
      rw [e110q]
      exact ⟨rfl, N110⟩
  ·
    have a115 : ∀ t, Steps p.tables e below (T32.setTop (mkF m 206 #[.val (.int p0), .val (.int p1), .val (.long q2), .second, .val (.long q3), .second, .val (.ref b2), .val (.ref un), .val (.int md), .unset, .unset, .unset, .unset, .unset, .unset, .unset, .unset, .unset, .unset] [(.int (lcmpW q3 (0 : Int64)))])) t → Steps p.tables e below (s₁.setTop (entryFrame m #[(.int p0), (.int p1), (.long q2), (.long q3)] maxLocals)) t := by
      intro t k
      refine a37 t ?_
      show Steps p.tables e below (T32.setTop (mkF m 57 #[.val (.int p0), .val (.int p1), .val (.long q2), .second, .val (.long q3), .second, .val (.ref b2), .val (.ref un), .val (.int md), .unset, .unset, .unset, .unset, .unset, .unset, .unset, .unset, .unset, .unset] [(.int (7 : Int32)), (.int md)])) _
      refine XS.icmpYes X32.here hx rfl (pc0 := 57) (pc' := 202) rfl (hb hby at_57) rfl (flt hc57_38).2.1 (by decide) (by decide) ?_
      refine XS.lload X32.here hx rfl (hb hby at_202) rfl ?_
      refine XS.lconst X32.here hx rfl (hb hby at_204) ?_
      refine XS.lcmp X32.here hx rfl (hb hby at_205) rfl ?_
      exact k
    obtain ⟨nn, JN, a119⟩ : ∃ (nn : Int64), (((q3 = (0 : Int64)) ∧ nn = (1 : Int64)) ∨ ((¬ (q3 = (0 : Int64))) ∧ nn = q3)) ∧ ∀ t, Steps p.tables e below (T32.setTop (mkF m 215 #[.val (.int p0), .val (.int p1), .val (.long q2), .second, .val (.long q3), .second, .val (.ref b2), .val (.ref un), .val (.int md), .unset, .unset, .unset, .unset, .unset, .unset, .unset, .unset, .unset, .unset] [(.long nn)])) t → Steps p.tables e below (s₁.setTop (entryFrame m #[(.int p0), (.int p1), (.long q2), (.long q3)] maxLocals)) t := by
      by_cases hc206_116 : q3 = (0 : Int64)
      ·
        have a117 : ∀ t, Steps p.tables e below (T32.setTop (mkF m 215 #[.val (.int p0), .val (.int p1), .val (.long q2), .second, .val (.long q3), .second, .val (.ref b2), .val (.ref un), .val (.int md), .unset, .unset, .unset, .unset, .unset, .unset, .unset, .unset, .unset, .unset] [(.long (1 : Int64))])) t → Steps p.tables e below (s₁.setTop (entryFrame m #[(.int p0), (.int p1), (.long q2), (.long q3)] maxLocals)) t := by
          intro t k
          refine a115 t ?_
          show Steps p.tables e below (T32.setTop (mkF m 206 #[.val (.int p0), .val (.int p1), .val (.long q2), .second, .val (.long q3), .second, .val (.ref b2), .val (.ref un), .val (.int md), .unset, .unset, .unset, .unset, .unset, .unset, .unset, .unset, .unset, .unset] [(.int (lcmpW q3 (0 : Int64)))])) _
          refine XS.ifNo X32.here hx rfl (hb hby at_206) rfl ((if0 _ _).trans (teq ((lw_eq q3 (0 : Int64)).mpr hc206_116)).2) ?_
          refine XS.lconst X32.here hx rfl (hb hby at_209) ?_
          refine XS.goto X32.here hx rfl (pc0 := 210) (pc' := 215) rfl (hb hby at_210) (by decide) (by decide) ?_
          exact k
        exact ⟨(1 : Int64), Or.inl ⟨hc206_116, rfl⟩, a117⟩
      ·
        have a118 : ∀ t, Steps p.tables e below (T32.setTop (mkF m 215 #[.val (.int p0), .val (.int p1), .val (.long q2), .second, .val (.long q3), .second, .val (.ref b2), .val (.ref un), .val (.int md), .unset, .unset, .unset, .unset, .unset, .unset, .unset, .unset, .unset, .unset] [(.long q3)])) t → Steps p.tables e below (s₁.setTop (entryFrame m #[(.int p0), (.int p1), (.long q2), (.long q3)] maxLocals)) t := by
          intro t k
          refine a115 t ?_
          show Steps p.tables e below (T32.setTop (mkF m 206 #[.val (.int p0), .val (.int p1), .val (.long q2), .second, .val (.long q3), .second, .val (.ref b2), .val (.ref un), .val (.int md), .unset, .unset, .unset, .unset, .unset, .unset, .unset, .unset, .unset, .unset] [(.int (lcmpW q3 (0 : Int64)))])) _
          refine XS.ifYes X32.here hx rfl (pc0 := 206) (pc' := 213) rfl (hb hby at_206) rfl ((if0 _ _).trans (feq (fun q => hc206_116 ((lw_eq q3 (0 : Int64)).mp q))).2) (by decide) (by decide) ?_
          refine XS.lload X32.here hx rfl (hb hby at_213) rfl ?_
          exact k
        exact ⟨q3, Or.inr (⟨hc206_116, rfl⟩), a118⟩
    have hnn := own_nn JN
    have a120 : ∀ t, Steps p.tables e below (T32.setTop (mkF m 222 #[.val (.int p0), .val (.int p1), .val (.long q2), .second, .val (.long q3), .second, .val (.ref b2), .val (.ref un), .val (.int md), .val (.long nn), .second, .unset, .unset, .unset, .unset, .unset, .unset, .unset, .unset] [(.long nn), (.long q2), (.ref un)])) t → Steps p.tables e below (s₁.setTop (entryFrame m #[(.int p0), (.int p1), (.long q2), (.long q3)] maxLocals)) t := by
      intro t k
      refine a119 t ?_
      show Steps p.tables e below (T32.setTop (mkF m 215 #[.val (.int p0), .val (.int p1), .val (.long q2), .second, .val (.long q3), .second, .val (.ref b2), .val (.ref un), .val (.int md), .unset, .unset, .unset, .unset, .unset, .unset, .unset, .unset, .unset, .unset] [(.long nn)])) _
      refine XS.lstore X32.here hx rfl (hb hby at_215) rfl (l' := #[.val (.int p0), .val (.int p1), .val (.long q2), .second, .val (.long q3), .second, .val (.ref b2), .val (.ref un), .val (.int md), .val (.long nn), .second, .unset, .unset, .unset, .unset, .unset, .unset, .unset, .unset]) rfl ?_
      refine XS.aload X32.here hx rfl (hb hby at_217) rfl rfl ?_
      refine XS.lloadN X32.here hx rfl (hb hby at_219) rfl ?_
      refine XS.lload X32.here hx rfl (hb hby at_220) rfl ?_
      exact k
    obtain ⟨_, _, ⟨T121, L121, k121, n121⟩, -, X121, ⟨Lc121, hQ121, l121, y121, z121⟩, st121⟩ := Jvm.LawKit.callS X32 hx (y := (⟨"org/latchwork/cli/Figure", "rate", "(Lorg/latchwork/cli/Figure$Unit;JJ)Lorg/latchwork/cli/Figure;"⟩ : MethodName)) hown (mvT hZ (hw _ (List.mem_of_getElem? (i := 30) rfl))) (mvT hZ (hw _ (List.mem_of_getElem? (i := 31) rfl))) (mvT hZ (hw _ (List.mem_of_getElem? (i := 32) rfl))) (mvT hZ (hw _ (List.mem_of_getElem? (i := 33) rfl))) (by decide) (backOf (W := 0) (rmRate l Z a0 hw [] un q2 nn h32 n0 (Nat.le_trans (Nat.le_trans (Nat.le_trans (Nat.le_trans (Nat.le_trans (Nat.le_trans Z0 E2.1) (Keep.of_wr W8).1) (Keep.of_wr W14).1) (Keep.of_wr W20).1) (Keep.of_wr W26).1) (Keep.of_wr W32).1) (own_rn q2 hnn)) hZ (hw _ (List.mem_of_getElem? (i := 33) rfl)) (hw _ (List.mem_of_getElem? (i := 32) rfl)) (by decide) (by decide)) (g := (mkF m 222 #[.val (.int p0), .val (.int p1), .val (.long q2), .second, .val (.long q3), .second, .val (.ref b2), .val (.ref un), .val (.int md), .val (.long nn), .second, .unset, .unset, .unset, .unset, .unset, .unset, .unset, .unset] [(.long nn), (.long q2), (.ref un)])) rfl (by rw [hml]; rfl) (argsL := [(.ref un), (.long q2), (.long nn)]) (rest := []) (lenOf own_pd2 rfl) rfl (by show 2 * 0 + _ ≤ _; exact Nat.le_of_eq rfl) (hb hby at_222) (fun _ _ => ⟨rfl, e32, (by decide : 1 + 1 ≤ _), (by decide : 5 + 2 ≤ _)⟩)
    dsimp only [Pt.U, Pt.locs, Pt.cells, Pt.slots] at X121 l121 y121 z121 st121 hQ121
    subst l121 y121 z121
    obtain ⟨f121, rfl, N121q, K121q, XF121, FU121, FV121⟩ := hQ121
    have N121 := Fr.app N32 N121q
    have KK121 : Keep h0 T121.heap [] := Keep.trans K32 K121q all0
    have a122 : ∀ t, Steps p.tables e below (T121.setTop (mkF m 225 #[.val (.int p0), .val (.int p1), .val (.long q2), .second, .val (.long q3), .second, .val (.ref b2), .val (.ref un), .val (.int md), .val (.long nn), .second, .unset, .unset, .unset, .unset, .unset, .unset, .unset, .unset] [(.ref f121)])) t → Steps p.tables e below (s₁.setTop (entryFrame m #[(.int p0), (.int p1), (.long q2), (.long q3)] maxLocals)) t := fun t k => a120 t (st121 t k)
    have a123 : ∀ t, Steps p.tables e below (T121.setTop (mkF m 229 #[.val (.int p0), .val (.int p1), .val (.long q2), .second, .val (.long q3), .second, .val (.ref b2), .val (.ref un), .val (.int md), .val (.long nn), .second, .val (.ref f121), .unset, .unset, .unset, .unset, .unset, .unset, .unset] [(.ref f121)])) t → Steps p.tables e below (s₁.setTop (entryFrame m #[(.int p0), (.int p1), (.long q2), (.long q3)] maxLocals)) t := by
      intro t k
      refine a122 t ?_
      show Steps p.tables e below (T121.setTop (mkF m 225 #[.val (.int p0), .val (.int p1), .val (.long q2), .second, .val (.long q3), .second, .val (.ref b2), .val (.ref un), .val (.int md), .val (.long nn), .second, .unset, .unset, .unset, .unset, .unset, .unset, .unset, .unset] [(.ref f121)])) _
      refine XS.astore X121.here hx rfl (hb hby at_225) rfl rfl (l' := #[.val (.int p0), .val (.int p1), .val (.long q2), .second, .val (.long q3), .second, .val (.ref b2), .val (.ref un), .val (.int md), .val (.long nn), .second, .val (.ref f121), .unset, .unset, .unset, .unset, .unset, .unset, .unset]) rfl ?_
      refine XS.aload X121.here hx rfl (hb hby at_227) rfl rfl ?_
      exact k
    obtain ⟨cq124, kq124, q124a, q124b, q124c⟩ := isOf hZ rfl XF121
    obtain ⟨_, _, ⟨T124, L124, k124, n124⟩, -, X124, ⟨Lc124, hQ124, l124, y124, z124⟩, st124⟩ := X121.virtualBack hx (y := (⟨"org/latchwork/cli/Figure", "unit", "()Lorg/latchwork/cli/Figure$Unit;"⟩ : MethodName)) (z := (⟨"org/latchwork/cli/Figure", "unit", "()Lorg/latchwork/cli/Figure$Unit;"⟩ : MethodName)) hown (mvT hZ (hw _ (List.mem_of_getElem? (i := 52) rfl))) (mvT hZ (hw _ (List.mem_of_getElem? (i := 53) rfl))) (notFace_of_selects (args := #[]) (mvT hZ (hw _ (List.mem_of_getElem? (i := 55) rfl)))) (mvT hZ (hw _ (List.mem_of_getElem? (i := 55) rfl))) (mvT hZ (hw _ (List.mem_of_getElem? (i := 54) rfl))) (by decide) (backOf (W := 0) (rmU l Z a0 hw [] f121 un T121.heap n0 (Nat.le_trans (Nat.le_trans (Nat.le_trans (Nat.le_trans (Nat.le_trans (Nat.le_trans (Nat.le_trans Z0 E2.1) (Keep.of_wr W8).1) (Keep.of_wr W14).1) (Keep.of_wr W20).1) (Keep.of_wr W26).1) (Keep.of_wr W32).1) K121q.1) FU121) hZ (hw _ (List.mem_of_getElem? (i := 56) rfl)) (hw _ (List.mem_of_getElem? (i := 32) rfl)) (by decide) (by decide)) q124a q124c (g := (mkF m 229 #[.val (.int p0), .val (.int p1), .val (.long q2), .second, .val (.long q3), .second, .val (.ref b2), .val (.ref un), .val (.int md), .val (.long nn), .second, .val (.ref f121), .unset, .unset, .unset, .unset, .unset, .unset, .unset] [(.ref f121)])) rfl (by rw [hml]; rfl) (Steps.refl _) (argsL := []) (rest := []) (lenOf own_pd3 rfl) rfl (by show 2 * 0 + _ ≤ _; exact Nat.le_of_eq rfl) (hb hby at_229) (fun _ _ => ⟨rfl, rfl, (by decide : 2 + 0 ≤ _), (by decide : 7 + 0 ≤ _)⟩)
    dsimp only [Pt.U, Pt.locs, Pt.cells, Pt.slots] at X124 l124 y124 z124 st124 hQ124
    subst l124 y124 z124
    obtain ⟨rfl, N124q, e124q⟩ := hQ124
    have N124 := Fr.app N121 N124q
    have a125 : ∀ t, Steps p.tables e below (T124.setTop (mkF m 232 #[.val (.int p0), .val (.int p1), .val (.long q2), .second, .val (.long q3), .second, .val (.ref b2), .val (.ref un), .val (.int md), .val (.long nn), .second, .val (.ref f121), .unset, .unset, .unset, .unset, .unset, .unset, .unset] [(.ref un)])) t → Steps p.tables e below (s₁.setTop (entryFrame m #[(.int p0), (.int p1), (.long q2), (.long q3)] maxLocals)) t := fun t k => a123 t (st124.trans k)
    have a126 : ∀ t, Steps p.tables e below (T124.setTop (mkF m 241 #[.val (.int p0), .val (.int p1), .val (.long q2), .second, .val (.long q3), .second, .val (.ref b2), .val (.ref un), .val (.int md), .val (.long nn), .second, .val (.ref f121), .unset, .unset, .unset, .unset, .unset, .unset, .unset] [(.ref f121)])) t → Steps p.tables e below (s₁.setTop (entryFrame m #[(.int p0), (.int p1), (.long q2), (.long q3)] maxLocals)) t := by
      intro t k
      refine a125 t ?_
      show Steps p.tables e below (T124.setTop (mkF m 232 #[.val (.int p0), .val (.int p1), .val (.long q2), .second, .val (.long q3), .second, .val (.ref b2), .val (.ref un), .val (.int md), .val (.long nn), .second, .val (.ref f121), .unset, .unset, .unset, .unset, .unset, .unset, .unset] [(.ref un)])) _
      refine XS.aload X124.here hx rfl (hb hby at_232) rfl rfl ?_
      refine Jvm.RoadKit.acmp (g := (mkF m 234 #[.val (.int p0), .val (.int p1), .val (.long q2), .second, .val (.long q3), .second, .val (.ref b2), .val (.ref un), .val (.int md), .val (.long nn), .second, .val (.ref f121), .unset, .unset, .unset, .unset, .unset, .unset, .unset] [(.ref un), (.ref un)])) X124 hx rfl rfl rfl (pc0 := 234) (pc' := 239) (same := true) rfl (hb hby at_234) rfl (decide_eq_true rfl) (by decide) (by decide) ?_
      refine XS.aload X124.here hx rfl (hb hby at_239) rfl rfl ?_
      exact k
    obtain ⟨cq127, kq127, q127a, q127b, q127c⟩ := isOf hZ e124q XF121
    obtain ⟨_, _, ⟨T127, L127, k127, n127⟩, -, X127, ⟨Lc127, hQ127, l127, y127, z127⟩, st127⟩ := X124.virtualBack hx (y := (⟨"org/latchwork/cli/Figure", "value", "()D"⟩ : MethodName)) (z := (⟨"org/latchwork/cli/Figure", "value", "()D"⟩ : MethodName)) hown (mvT hZ (hw _ (List.mem_of_getElem? (i := 57) rfl))) (mvT hZ (hw _ (List.mem_of_getElem? (i := 58) rfl))) (notFace_of_selects (args := #[]) (mvT hZ (hw _ (List.mem_of_getElem? (i := 60) rfl)))) (mvT hZ (hw _ (List.mem_of_getElem? (i := 60) rfl))) (mvT hZ (hw _ (List.mem_of_getElem? (i := 59) rfl))) (by decide) (backOf (W := 0) (rmVal l Z a0 hw [] f121 (FP.ddiv (FP.l2d q2) (FP.ddiv (FP.l2d nn) (4741671816366391296 : UInt64))) T121.heap n0 (Nat.le_trans (Nat.le_trans (Nat.le_trans (Nat.le_trans (Nat.le_trans (Nat.le_trans (Nat.le_trans Z0 E2.1) (Keep.of_wr W8).1) (Keep.of_wr W14).1) (Keep.of_wr W20).1) (Keep.of_wr W26).1) (Keep.of_wr W32).1) K121q.1) FV121) hZ (hw _ (List.mem_of_getElem? (i := 61) rfl)) (hw _ (List.mem_of_getElem? (i := 32) rfl)) (by decide) (by decide)) q127a q127c (g := (mkF m 241 #[.val (.int p0), .val (.int p1), .val (.long q2), .second, .val (.long q3), .second, .val (.ref b2), .val (.ref un), .val (.int md), .val (.long nn), .second, .val (.ref f121), .unset, .unset, .unset, .unset, .unset, .unset, .unset] [(.ref f121)])) rfl (by rw [hml]; rfl) (Steps.refl _) (argsL := []) (rest := []) (lenOf own_pd4 rfl) rfl (by show 2 * 0 + _ ≤ _; exact Nat.le_of_eq rfl) (hb hby at_241) (fun _ _ => ⟨rfl, e124q, (by decide : 2 + 0 ≤ _), (by decide : 7 + 0 ≤ _)⟩)
    dsimp only [Pt.U, Pt.locs, Pt.cells, Pt.slots] at X127 l127 y127 z127 st127 hQ127
    subst l127 y127 z127
    obtain ⟨rfl, N127q, e127q⟩ := hQ127
    have N127 := Fr.app N124 N127q
    have a128 : ∀ t, Steps p.tables e below (T127.setTop (mkF m 244 #[.val (.int p0), .val (.int p1), .val (.long q2), .second, .val (.long q3), .second, .val (.ref b2), .val (.ref un), .val (.int md), .val (.long nn), .second, .val (.ref f121), .unset, .unset, .unset, .unset, .unset, .unset, .unset] [(.double (FP.ddiv (FP.l2d q2) (FP.ddiv (FP.l2d nn) (4741671816366391296 : UInt64))))])) t → Steps p.tables e below (s₁.setTop (entryFrame m #[(.int p0), (.int p1), (.long q2), (.long q3)] maxLocals)) t := fun t k => a126 t (st127.trans k)
    have a129 : ∀ t, Steps p.tables e below (T127.setTop (mkF m 249 #[.val (.int p0), .val (.int p1), .val (.long q2), .second, .val (.long q3), .second, .val (.ref b2), .val (.ref un), .val (.int md), .val (.long nn), .second, .val (.ref f121), .val (.double (FP.ddiv (FP.l2d q2) (FP.ddiv (FP.l2d nn) (4741671816366391296 : UInt64)))), .second, .unset, .unset, .unset, .unset, .unset] [(.int (lcmpW q2 (0 : Int64)))])) t → Steps p.tables e below (s₁.setTop (entryFrame m #[(.int p0), (.int p1), (.long q2), (.long q3)] maxLocals)) t := by
      intro t k
      refine a128 t ?_
      show Steps p.tables e below (T127.setTop (mkF m 244 #[.val (.int p0), .val (.int p1), .val (.long q2), .second, .val (.long q3), .second, .val (.ref b2), .val (.ref un), .val (.int md), .val (.long nn), .second, .val (.ref f121), .unset, .unset, .unset, .unset, .unset, .unset, .unset] [(.double (FP.ddiv (FP.l2d q2) (FP.ddiv (FP.l2d nn) (4741671816366391296 : UInt64))))])) _
      refine XS.dstore X127.here hx rfl (hb hby at_244) rfl (l' := #[.val (.int p0), .val (.int p1), .val (.long q2), .second, .val (.long q3), .second, .val (.ref b2), .val (.ref un), .val (.int md), .val (.long nn), .second, .val (.ref f121), .val (.double (FP.ddiv (FP.l2d q2) (FP.ddiv (FP.l2d nn) (4741671816366391296 : UInt64)))), .second, .unset, .unset, .unset, .unset, .unset]) rfl ?_
      refine XS.lloadN X127.here hx rfl (hb hby at_246) rfl ?_
      refine XS.lconst X127.here hx rfl (hb hby at_247) ?_
      refine XS.lcmp X127.here hx rfl (hb hby at_248) rfl ?_
      exact k
    obtain ⟨J142, a142⟩ : (True) ∧ ∀ t, Steps p.tables e below (T127.setTop (mkF m 326 #[.val (.int p0), .val (.int p1), .val (.long q2), .second, .val (.long q3), .second, .val (.ref b2), .val (.ref un), .val (.int md), .val (.long nn), .second, .val (.ref f121), .val (.double (FP.ddiv (FP.l2d q2) (FP.ddiv (FP.l2d nn) (4741671816366391296 : UInt64)))), .second, .val (.int (1 : Int32)), .unset, .unset, .unset, .unset] [])) t → Steps p.tables e below (s₁.setTop (entryFrame m #[(.int p0), (.int p1), (.long q2), (.long q3)] maxLocals)) t := by
      by_cases hc249_130 : q2 = (0 : Int64)
      ·
        have a131 : ∀ t, Steps p.tables e below (T127.setTop (mkF m 326 #[.val (.int p0), .val (.int p1), .val (.long q2), .second, .val (.long q3), .second, .val (.ref b2), .val (.ref un), .val (.int md), .val (.long nn), .second, .val (.ref f121), .val (.double (FP.ddiv (FP.l2d q2) (FP.ddiv (FP.l2d nn) (4741671816366391296 : UInt64)))), .second, .val (.int (1 : Int32)), .unset, .unset, .unset, .unset] [])) t → Steps p.tables e below (s₁.setTop (entryFrame m #[(.int p0), (.int p1), (.long q2), (.long q3)] maxLocals)) t := by
          intro t k
          refine a129 t ?_
          show Steps p.tables e below (T127.setTop (mkF m 249 #[.val (.int p0), .val (.int p1), .val (.long q2), .second, .val (.long q3), .second, .val (.ref b2), .val (.ref un), .val (.int md), .val (.long nn), .second, .val (.ref f121), .val (.double (FP.ddiv (FP.l2d q2) (FP.ddiv (FP.l2d nn) (4741671816366391296 : UInt64)))), .second, .unset, .unset, .unset, .unset, .unset] [(.int (lcmpW q2 (0 : Int64)))])) _
          refine XS.ifNo X127.here hx rfl (hb hby at_249) rfl ((if0 _ _).trans (teq ((lw_eq q2 (0 : Int64)).mpr hc249_130)).2) ?_
          refine XS.dload X127.here hx rfl (hb hby at_252) rfl ?_
          refine XS.dconst0 X127.here hx rfl (hb hby at_254) (v := 0) rfl ?_
          refine XS.dcmpS X127.here hx rfl (hb hby at_255) rfl rfl ?_
          refine XS.ifNo X127.here hx rfl (hb hby at_256) rfl ((if0 _ _).trans (teq (own_z _ (rate_fin q2 hnn) (by rw [show q2 = 0 from hc249_130]; exact (rate_zero hnn).2))).2) ?_
          refine XS.iconst X127.here hx rfl (hb hby at_259) ?_
          refine XS.goto X127.here hx rfl (pc0 := 260) (pc' := 264) rfl (hb hby at_260) (by decide) (by decide) ?_
          refine XS.istore X127.here hx rfl (hb hby at_264) rfl (l' := #[.val (.int p0), .val (.int p1), .val (.long q2), .second, .val (.long q3), .second, .val (.ref b2), .val (.ref un), .val (.int md), .val (.long nn), .second, .val (.ref f121), .val (.double (FP.ddiv (FP.l2d q2) (FP.ddiv (FP.l2d nn) (4741671816366391296 : UInt64)))), .second, .val (.int (1 : Int32)), .unset, .unset, .unset, .unset]) rfl ?_
          refine XS.goto X127.here hx rfl (pc0 := 266) (pc' := 326) rfl (hb hby at_266) (by decide) (by decide) ?_
          exact k
        exact ⟨trivial, a131⟩
      ·
        have a132 : ∀ t, Steps p.tables e below (T127.setTop (mkF m 272 #[.val (.int p0), .val (.int p1), .val (.long q2), .second, .val (.long q3), .second, .val (.ref b2), .val (.ref un), .val (.int md), .val (.long nn), .second, .val (.ref f121), .val (.double (FP.ddiv (FP.l2d q2) (FP.ddiv (FP.l2d nn) (4741671816366391296 : UInt64)))), .second, .unset, .unset, .unset, .unset, .unset] [(.int (lcmpW q2 (0 : Int64)))])) t → Steps p.tables e below (s₁.setTop (entryFrame m #[(.int p0), (.int p1), (.long q2), (.long q3)] maxLocals)) t := by
          intro t k
          refine a129 t ?_
          show Steps p.tables e below (T127.setTop (mkF m 249 #[.val (.int p0), .val (.int p1), .val (.long q2), .second, .val (.long q3), .second, .val (.ref b2), .val (.ref un), .val (.int md), .val (.long nn), .second, .val (.ref f121), .val (.double (FP.ddiv (FP.l2d q2) (FP.ddiv (FP.l2d nn) (4741671816366391296 : UInt64)))), .second, .unset, .unset, .unset, .unset, .unset] [(.int (lcmpW q2 (0 : Int64)))])) _
          refine XS.ifYes X127.here hx rfl (pc0 := 249) (pc' := 269) rfl (hb hby at_249) rfl ((if0 _ _).trans (feq (fun q => hc249_130 ((lw_eq q2 (0 : Int64)).mp q))).2) (by decide) (by decide) ?_
          refine XS.lloadN X127.here hx rfl (hb hby at_269) rfl ?_
          refine XS.lconst X127.here hx rfl (hb hby at_270) ?_
          refine XS.lcmp X127.here hx rfl (hb hby at_271) rfl ?_
          exact k
        by_cases hc272_133 : (0 : Int64) < q2
        ·
          have a134 : ∀ t, Steps p.tables e below (T127.setTop (mkF m 284 #[.val (.int p0), .val (.int p1), .val (.long q2), .second, .val (.long q3), .second, .val (.ref b2), .val (.ref un), .val (.int md), .val (.long nn), .second, .val (.ref f121), .val (.double (FP.ddiv (FP.l2d q2) (FP.ddiv (FP.l2d nn) (4741671816366391296 : UInt64)))), .second, .unset, .unset, .unset, .unset, .unset] [(.int (lcmpW nn (0 : Int64))), (.int (1 : Int32))])) t → Steps p.tables e below (s₁.setTop (entryFrame m #[(.int p0), (.int p1), (.long q2), (.long q3)] maxLocals)) t := by
            intro t k
            refine a132 t ?_
            show Steps p.tables e below (T127.setTop (mkF m 272 #[.val (.int p0), .val (.int p1), .val (.long q2), .second, .val (.long q3), .second, .val (.ref b2), .val (.ref un), .val (.int md), .val (.long nn), .second, .val (.ref f121), .val (.double (FP.ddiv (FP.l2d q2) (FP.ddiv (FP.l2d nn) (4741671816366391296 : UInt64)))), .second, .unset, .unset, .unset, .unset, .unset] [(.int (lcmpW q2 (0 : Int64)))])) _
            refine XS.ifNo X127.here hx rfl (hb hby at_272) rfl ((if0 _ _).trans (tlt ((lw_gt q2 (0 : Int64)).mpr hc272_133)).2.2.2) ?_
            refine XS.iconst X127.here hx rfl (hb hby at_275) ?_
            refine XS.goto X127.here hx rfl (pc0 := 276) (pc' := 280) rfl (hb hby at_276) (by decide) (by decide) ?_
            refine XS.lload X127.here hx rfl (hb hby at_280) rfl ?_
            refine XS.lconst X127.here hx rfl (hb hby at_282) ?_
            refine XS.lcmp X127.here hx rfl (hb hby at_283) rfl ?_
            exact k
          by_cases hc284_135 : (0 : Int64) < nn
          ·
            have a136 : ∀ t, Steps p.tables e below (T127.setTop (mkF m 326 #[.val (.int p0), .val (.int p1), .val (.long q2), .second, .val (.long q3), .second, .val (.ref b2), .val (.ref un), .val (.int md), .val (.long nn), .second, .val (.ref f121), .val (.double (FP.ddiv (FP.l2d q2) (FP.ddiv (FP.l2d nn) (4741671816366391296 : UInt64)))), .second, .val (.int (1 : Int32)), .unset, .unset, .unset, .unset] [])) t → Steps p.tables e below (s₁.setTop (entryFrame m #[(.int p0), (.int p1), (.long q2), (.long q3)] maxLocals)) t := by
              intro t k
              refine a134 t ?_
              show Steps p.tables e below (T127.setTop (mkF m 284 #[.val (.int p0), .val (.int p1), .val (.long q2), .second, .val (.long q3), .second, .val (.ref b2), .val (.ref un), .val (.int md), .val (.long nn), .second, .val (.ref f121), .val (.double (FP.ddiv (FP.l2d q2) (FP.ddiv (FP.l2d nn) (4741671816366391296 : UInt64)))), .second, .unset, .unset, .unset, .unset, .unset] [(.int (lcmpW nn (0 : Int64))), (.int (1 : Int32))])) _
              refine XS.ifNo X127.here hx rfl (hb hby at_284) rfl ((if0 _ _).trans (tlt ((lw_gt nn (0 : Int64)).mpr hc284_135)).2.2.2) ?_
              refine XS.iconst X127.here hx rfl (hb hby at_287) ?_
              refine XS.goto X127.here hx rfl (pc0 := 288) (pc' := 292) rfl (hb hby at_288) (by decide) (by decide) ?_
              refine XS.icmpNo X127.here hx rfl (hb hby at_292) rfl (teq (by decide)).2 ?_
              refine XS.dload X127.here hx rfl (hb hby at_295) rfl ?_
              refine XS.dconst0 X127.here hx rfl (hb hby at_297) (v := 0) rfl ?_
              refine XS.dcmpS X127.here hx rfl (hb hby at_298) rfl rfl ?_
              refine XS.ifNo X127.here hx rfl (hb hby at_299) rfl ((if0 _ _).trans (tlt (own_p _ (rate_fin q2 hnn) (rate_pos (by have k0 := own_nzJ hc249_130; have k1 := (own_sg q2 q2).1.mp hc272_133; have k2 := (own_sg nn nn).1.mp hc284_135; omega)))).2.2.2) ?_
              refine XS.iconst X127.here hx rfl (hb hby at_302) ?_
              refine XS.goto X127.here hx rfl (pc0 := 303) (pc' := 307) rfl (hb hby at_303) (by decide) (by decide) ?_
              refine XS.istore X127.here hx rfl (hb hby at_307) rfl (l' := #[.val (.int p0), .val (.int p1), .val (.long q2), .second, .val (.long q3), .second, .val (.ref b2), .val (.ref un), .val (.int md), .val (.long nn), .second, .val (.ref f121), .val (.double (FP.ddiv (FP.l2d q2) (FP.ddiv (FP.l2d nn) (4741671816366391296 : UInt64)))), .second, .val (.int (1 : Int32)), .unset, .unset, .unset, .unset]) rfl ?_
              refine XS.goto X127.here hx rfl (pc0 := 309) (pc' := 326) rfl (hb hby at_309) (by decide) (by decide) ?_
              exact k
            exact ⟨trivial, a136⟩
          ·
            have a137 : ∀ t, Steps p.tables e below (T127.setTop (mkF m 326 #[.val (.int p0), .val (.int p1), .val (.long q2), .second, .val (.long q3), .second, .val (.ref b2), .val (.ref un), .val (.int md), .val (.long nn), .second, .val (.ref f121), .val (.double (FP.ddiv (FP.l2d q2) (FP.ddiv (FP.l2d nn) (4741671816366391296 : UInt64)))), .second, .val (.int (1 : Int32)), .unset, .unset, .unset, .unset] [])) t → Steps p.tables e below (s₁.setTop (entryFrame m #[(.int p0), (.int p1), (.long q2), (.long q3)] maxLocals)) t := by
              intro t k
              refine a134 t ?_
              show Steps p.tables e below (T127.setTop (mkF m 284 #[.val (.int p0), .val (.int p1), .val (.long q2), .second, .val (.long q3), .second, .val (.ref b2), .val (.ref un), .val (.int md), .val (.long nn), .second, .val (.ref f121), .val (.double (FP.ddiv (FP.l2d q2) (FP.ddiv (FP.l2d nn) (4741671816366391296 : UInt64)))), .second, .unset, .unset, .unset, .unset, .unset] [(.int (lcmpW nn (0 : Int64))), (.int (1 : Int32))])) _
              refine XS.ifYes X127.here hx rfl (pc0 := 284) (pc' := 291) rfl (hb hby at_284) rfl ((if0 _ _).trans (flt (fun q => hc284_135 ((lw_gt nn (0 : Int64)).mp q))).2.2.2) (by decide) (by decide) ?_
              refine XS.iconst X127.here hx rfl (hb hby at_291) ?_
              refine XS.icmpYes X127.here hx rfl (pc0 := 292) (pc' := 312) rfl (hb hby at_292) rfl (feq (by decide)).2 (by decide) (by decide) ?_
              refine XS.dload X127.here hx rfl (hb hby at_312) rfl ?_
              refine XS.dconst0 X127.here hx rfl (hb hby at_314) (v := 0) rfl ?_
              refine XS.dcmpS X127.here hx rfl (hb hby at_315) rfl rfl ?_
              refine XS.ifNo X127.here hx rfl (hb hby at_316) rfl ((if0 _ _).trans (tlt (own_n _ (rate_fin q2 hnn) (rate_neg (by have k0 := own_nzJ hc249_130; have k1 := (own_sg q2 q2).1.mp hc272_133; have k2 := (own_sg nn nn).2.mp hc284_135; omega)))).2.1) ?_
              refine XS.iconst X127.here hx rfl (hb hby at_319) ?_
              refine XS.goto X127.here hx rfl (pc0 := 320) (pc' := 324) rfl (hb hby at_320) (by decide) (by decide) ?_
              refine XS.istore X127.here hx rfl (hb hby at_324) rfl (l' := #[.val (.int p0), .val (.int p1), .val (.long q2), .second, .val (.long q3), .second, .val (.ref b2), .val (.ref un), .val (.int md), .val (.long nn), .second, .val (.ref f121), .val (.double (FP.ddiv (FP.l2d q2) (FP.ddiv (FP.l2d nn) (4741671816366391296 : UInt64)))), .second, .val (.int (1 : Int32)), .unset, .unset, .unset, .unset]) rfl ?_
              exact k
            exact ⟨trivial, a137⟩
        ·
          have a138 : ∀ t, Steps p.tables e below (T127.setTop (mkF m 284 #[.val (.int p0), .val (.int p1), .val (.long q2), .second, .val (.long q3), .second, .val (.ref b2), .val (.ref un), .val (.int md), .val (.long nn), .second, .val (.ref f121), .val (.double (FP.ddiv (FP.l2d q2) (FP.ddiv (FP.l2d nn) (4741671816366391296 : UInt64)))), .second, .unset, .unset, .unset, .unset, .unset] [(.int (lcmpW nn (0 : Int64))), (.int (0 : Int32))])) t → Steps p.tables e below (s₁.setTop (entryFrame m #[(.int p0), (.int p1), (.long q2), (.long q3)] maxLocals)) t := by
            intro t k
            refine a132 t ?_
            show Steps p.tables e below (T127.setTop (mkF m 272 #[.val (.int p0), .val (.int p1), .val (.long q2), .second, .val (.long q3), .second, .val (.ref b2), .val (.ref un), .val (.int md), .val (.long nn), .second, .val (.ref f121), .val (.double (FP.ddiv (FP.l2d q2) (FP.ddiv (FP.l2d nn) (4741671816366391296 : UInt64)))), .second, .unset, .unset, .unset, .unset, .unset] [(.int (lcmpW q2 (0 : Int64)))])) _
            refine XS.ifYes X127.here hx rfl (pc0 := 272) (pc' := 279) rfl (hb hby at_272) rfl ((if0 _ _).trans (flt (fun q => hc272_133 ((lw_gt q2 (0 : Int64)).mp q))).2.2.2) (by decide) (by decide) ?_
            refine XS.iconst X127.here hx rfl (hb hby at_279) ?_
            refine XS.lload X127.here hx rfl (hb hby at_280) rfl ?_
            refine XS.lconst X127.here hx rfl (hb hby at_282) ?_
            refine XS.lcmp X127.here hx rfl (hb hby at_283) rfl ?_
            exact k
          by_cases hc284_139 : (0 : Int64) < nn
          ·
            have a140 : ∀ t, Steps p.tables e below (T127.setTop (mkF m 326 #[.val (.int p0), .val (.int p1), .val (.long q2), .second, .val (.long q3), .second, .val (.ref b2), .val (.ref un), .val (.int md), .val (.long nn), .second, .val (.ref f121), .val (.double (FP.ddiv (FP.l2d q2) (FP.ddiv (FP.l2d nn) (4741671816366391296 : UInt64)))), .second, .val (.int (1 : Int32)), .unset, .unset, .unset, .unset] [])) t → Steps p.tables e below (s₁.setTop (entryFrame m #[(.int p0), (.int p1), (.long q2), (.long q3)] maxLocals)) t := by
              intro t k
              refine a138 t ?_
              show Steps p.tables e below (T127.setTop (mkF m 284 #[.val (.int p0), .val (.int p1), .val (.long q2), .second, .val (.long q3), .second, .val (.ref b2), .val (.ref un), .val (.int md), .val (.long nn), .second, .val (.ref f121), .val (.double (FP.ddiv (FP.l2d q2) (FP.ddiv (FP.l2d nn) (4741671816366391296 : UInt64)))), .second, .unset, .unset, .unset, .unset, .unset] [(.int (lcmpW nn (0 : Int64))), (.int (0 : Int32))])) _
              refine XS.ifNo X127.here hx rfl (hb hby at_284) rfl ((if0 _ _).trans (tlt ((lw_gt nn (0 : Int64)).mpr hc284_139)).2.2.2) ?_
              refine XS.iconst X127.here hx rfl (hb hby at_287) ?_
              refine XS.goto X127.here hx rfl (pc0 := 288) (pc' := 292) rfl (hb hby at_288) (by decide) (by decide) ?_
              refine XS.icmpYes X127.here hx rfl (pc0 := 292) (pc' := 312) rfl (hb hby at_292) rfl (feq (by decide)).2 (by decide) (by decide) ?_
              refine XS.dload X127.here hx rfl (hb hby at_312) rfl ?_
              refine XS.dconst0 X127.here hx rfl (hb hby at_314) (v := 0) rfl ?_
              refine XS.dcmpS X127.here hx rfl (hb hby at_315) rfl rfl ?_
              refine XS.ifNo X127.here hx rfl (hb hby at_316) rfl ((if0 _ _).trans (tlt (own_n _ (rate_fin q2 hnn) (rate_neg (by have k0 := own_nzJ hc249_130; have k1 := (own_sg q2 q2).2.mp hc272_133; have k2 := (own_sg nn nn).1.mp hc284_139; omega)))).2.1) ?_
              refine XS.iconst X127.here hx rfl (hb hby at_319) ?_
              refine XS.goto X127.here hx rfl (pc0 := 320) (pc' := 324) rfl (hb hby at_320) (by decide) (by decide) ?_
              refine XS.istore X127.here hx rfl (hb hby at_324) rfl (l' := #[.val (.int p0), .val (.int p1), .val (.long q2), .second, .val (.long q3), .second, .val (.ref b2), .val (.ref un), .val (.int md), .val (.long nn), .second, .val (.ref f121), .val (.double (FP.ddiv (FP.l2d q2) (FP.ddiv (FP.l2d nn) (4741671816366391296 : UInt64)))), .second, .val (.int (1 : Int32)), .unset, .unset, .unset, .unset]) rfl ?_
              exact k
            exact ⟨trivial, a140⟩
          ·
            have a141 : ∀ t, Steps p.tables e below (T127.setTop (mkF m 326 #[.val (.int p0), .val (.int p1), .val (.long q2), .second, .val (.long q3), .second, .val (.ref b2), .val (.ref un), .val (.int md), .val (.long nn), .second, .val (.ref f121), .val (.double (FP.ddiv (FP.l2d q2) (FP.ddiv (FP.l2d nn) (4741671816366391296 : UInt64)))), .second, .val (.int (1 : Int32)), .unset, .unset, .unset, .unset] [])) t → Steps p.tables e below (s₁.setTop (entryFrame m #[(.int p0), (.int p1), (.long q2), (.long q3)] maxLocals)) t := by
              intro t k
              refine a138 t ?_
              show Steps p.tables e below (T127.setTop (mkF m 284 #[.val (.int p0), .val (.int p1), .val (.long q2), .second, .val (.long q3), .second, .val (.ref b2), .val (.ref un), .val (.int md), .val (.long nn), .second, .val (.ref f121), .val (.double (FP.ddiv (FP.l2d q2) (FP.ddiv (FP.l2d nn) (4741671816366391296 : UInt64)))), .second, .unset, .unset, .unset, .unset, .unset] [(.int (lcmpW nn (0 : Int64))), (.int (0 : Int32))])) _
              refine XS.ifYes X127.here hx rfl (pc0 := 284) (pc' := 291) rfl (hb hby at_284) rfl ((if0 _ _).trans (flt (fun q => hc284_139 ((lw_gt nn (0 : Int64)).mp q))).2.2.2) (by decide) (by decide) ?_
              refine XS.iconst X127.here hx rfl (hb hby at_291) ?_
              refine XS.icmpNo X127.here hx rfl (hb hby at_292) rfl (teq (by decide)).2 ?_
              refine XS.dload X127.here hx rfl (hb hby at_295) rfl ?_
              refine XS.dconst0 X127.here hx rfl (hb hby at_297) (v := 0) rfl ?_
              refine XS.dcmpS X127.here hx rfl (hb hby at_298) rfl rfl ?_
              refine XS.ifNo X127.here hx rfl (hb hby at_299) rfl ((if0 _ _).trans (tlt (own_p _ (rate_fin q2 hnn) (rate_pos (by have k0 := own_nzJ hc249_130; have k1 := (own_sg q2 q2).2.mp hc272_133; have k2 := (own_sg nn nn).2.mp hc284_139; omega)))).2.2.2) ?_
              refine XS.iconst X127.here hx rfl (hb hby at_302) ?_
              refine XS.goto X127.here hx rfl (pc0 := 303) (pc' := 307) rfl (hb hby at_303) (by decide) (by decide) ?_
              refine XS.istore X127.here hx rfl (hb hby at_307) rfl (l' := #[.val (.int p0), .val (.int p1), .val (.long q2), .second, .val (.long q3), .second, .val (.ref b2), .val (.ref un), .val (.int md), .val (.long nn), .second, .val (.ref f121), .val (.double (FP.ddiv (FP.l2d q2) (FP.ddiv (FP.l2d nn) (4741671816366391296 : UInt64)))), .second, .val (.int (1 : Int32)), .unset, .unset, .unset, .unset]) rfl ?_
              refine XS.goto X127.here hx rfl (pc0 := 309) (pc' := 326) rfl (hb hby at_309) (by decide) (by decide) ?_
              exact k
            exact ⟨trivial, a141⟩
    have a143 : ∀ t, Steps p.tables e below (T127.setTop (mkF m 337 #[.val (.int p0), .val (.int p1), .val (.long q2), .second, .val (.long q3), .second, .val (.ref b2), .val (.ref un), .val (.int md), .val (.long nn), .second, .val (.ref f121), .val (.double (FP.ddiv (FP.l2d q2) (FP.ddiv (FP.l2d nn) (4741671816366391296 : UInt64)))), .second, .val (.int (1 : Int32)), .unset, .unset, .unset, .unset] [(.long (q3 >>> ((1 : Int32) &&& 0x3f).toInt64))])) t → Steps p.tables e below (s₁.setTop (entryFrame m #[(.int p0), (.int p1), (.long q2), (.long q3)] maxLocals)) t := by
      intro t k
      refine a142 t ?_
      show Steps p.tables e below (T127.setTop (mkF m 326 #[.val (.int p0), .val (.int p1), .val (.long q2), .second, .val (.long q3), .second, .val (.ref b2), .val (.ref un), .val (.int md), .val (.long nn), .second, .val (.ref f121), .val (.double (FP.ddiv (FP.l2d q2) (FP.ddiv (FP.l2d nn) (4741671816366391296 : UInt64)))), .second, .val (.int (1 : Int32)), .unset, .unset, .unset, .unset] [])) _
      refine XS.iload X127.here hx rfl (hb hby at_326) rfl ?_
      refine XS.ifYes X127.here hx rfl (pc0 := 328) (pc' := 333) rfl (hb hby at_328) rfl ((if0 _ _).trans (feq (by decide)).2) (by decide) (by decide) ?_
      refine XS.lload X127.here hx rfl (hb hby at_333) rfl ?_
      refine XS.iconst X127.here hx rfl (hb hby at_335) ?_
      refine XS.lshr X127.here hx rfl (hb hby at_336) rfl ?_
      exact k
    obtain ⟨hv, h_hv⟩ : ∃ z : Int64, z = (q3 >>> ((1 : Int32) &&& 0x3f).toInt64) := ⟨_, rfl⟩
    rw [← h_hv] at a143
    have a144 : ∀ t, Steps p.tables e below (T127.setTop (mkF m 343 #[.val (.int p0), .val (.int p1), .val (.long q2), .second, .val (.long q3), .second, .val (.ref b2), .val (.ref un), .val (.int md), .val (.long nn), .second, .val (.ref f121), .val (.double (FP.ddiv (FP.l2d q2) (FP.ddiv (FP.l2d nn) (4741671816366391296 : UInt64)))), .second, .val (.int (1 : Int32)), .val (.long hv), .second, .unset, .unset] [(.int (lcmpW hv (0 : Int64)))])) t → Steps p.tables e below (s₁.setTop (entryFrame m #[(.int p0), (.int p1), (.long q2), (.long q3)] maxLocals)) t := by
      intro t k
      refine a143 t ?_
      show Steps p.tables e below (T127.setTop (mkF m 337 #[.val (.int p0), .val (.int p1), .val (.long q2), .second, .val (.long q3), .second, .val (.ref b2), .val (.ref un), .val (.int md), .val (.long nn), .second, .val (.ref f121), .val (.double (FP.ddiv (FP.l2d q2) (FP.ddiv (FP.l2d nn) (4741671816366391296 : UInt64)))), .second, .val (.int (1 : Int32)), .unset, .unset, .unset, .unset] [(.long hv)])) _
      refine XS.lstore X127.here hx rfl (hb hby at_337) rfl (l' := #[.val (.int p0), .val (.int p1), .val (.long q2), .second, .val (.long q3), .second, .val (.ref b2), .val (.ref un), .val (.int md), .val (.long nn), .second, .val (.ref f121), .val (.double (FP.ddiv (FP.l2d q2) (FP.ddiv (FP.l2d nn) (4741671816366391296 : UInt64)))), .second, .val (.int (1 : Int32)), .val (.long hv), .second, .unset, .unset]) rfl ?_
      refine XS.lload X127.here hx rfl (hb hby at_339) rfl ?_
      refine XS.lconst X127.here hx rfl (hb hby at_341) ?_
      refine XS.lcmp X127.here hx rfl (hb hby at_342) rfl ?_
      exact k
    obtain ⟨hh, JH, a148⟩ : ∃ (hh : Int64), (((hv = (0 : Int64)) ∧ hh = (1 : Int64)) ∨ ((¬ (hv = (0 : Int64))) ∧ hh = hv)) ∧ ∀ t, Steps p.tables e below (T127.setTop (mkF m 349 #[.val (.int p0), .val (.int p1), .val (.long q2), .second, .val (.long q3), .second, .val (.ref b2), .val (.ref un), .val (.int md), .val (.long nn), .second, .val (.ref f121), .val (.double (FP.ddiv (FP.l2d q2) (FP.ddiv (FP.l2d nn) (4741671816366391296 : UInt64)))), .second, .val (.int (1 : Int32)), .val (.long hh), .second, .unset, .unset] [])) t → Steps p.tables e below (s₁.setTop (entryFrame m #[(.int p0), (.int p1), (.long q2), (.long q3)] maxLocals)) t := by
      by_cases hc343_145 : hv = (0 : Int64)
      ·
        have a146 : ∀ t, Steps p.tables e below (T127.setTop (mkF m 349 #[.val (.int p0), .val (.int p1), .val (.long q2), .second, .val (.long q3), .second, .val (.ref b2), .val (.ref un), .val (.int md), .val (.long nn), .second, .val (.ref f121), .val (.double (FP.ddiv (FP.l2d q2) (FP.ddiv (FP.l2d nn) (4741671816366391296 : UInt64)))), .second, .val (.int (1 : Int32)), .val (.long (1 : Int64)), .second, .unset, .unset] [])) t → Steps p.tables e below (s₁.setTop (entryFrame m #[(.int p0), (.int p1), (.long q2), (.long q3)] maxLocals)) t := by
          intro t k
          refine a144 t ?_
          show Steps p.tables e below (T127.setTop (mkF m 343 #[.val (.int p0), .val (.int p1), .val (.long q2), .second, .val (.long q3), .second, .val (.ref b2), .val (.ref un), .val (.int md), .val (.long nn), .second, .val (.ref f121), .val (.double (FP.ddiv (FP.l2d q2) (FP.ddiv (FP.l2d nn) (4741671816366391296 : UInt64)))), .second, .val (.int (1 : Int32)), .val (.long hv), .second, .unset, .unset] [(.int (lcmpW hv (0 : Int64)))])) _
          refine XS.ifNo X127.here hx rfl (hb hby at_343) rfl ((if0 _ _).trans (teq ((lw_eq hv (0 : Int64)).mpr hc343_145)).2) ?_
          refine XS.lconst X127.here hx rfl (hb hby at_346) ?_
          refine XS.lstore X127.here hx rfl (hb hby at_347) rfl (l' := #[.val (.int p0), .val (.int p1), .val (.long q2), .second, .val (.long q3), .second, .val (.ref b2), .val (.ref un), .val (.int md), .val (.long nn), .second, .val (.ref f121), .val (.double (FP.ddiv (FP.l2d q2) (FP.ddiv (FP.l2d nn) (4741671816366391296 : UInt64)))), .second, .val (.int (1 : Int32)), .val (.long (1 : Int64)), .second, .unset, .unset]) rfl ?_
          exact k
        exact ⟨(1 : Int64), Or.inl ⟨hc343_145, rfl⟩, a146⟩
      ·
        have a147 : ∀ t, Steps p.tables e below (T127.setTop (mkF m 349 #[.val (.int p0), .val (.int p1), .val (.long q2), .second, .val (.long q3), .second, .val (.ref b2), .val (.ref un), .val (.int md), .val (.long nn), .second, .val (.ref f121), .val (.double (FP.ddiv (FP.l2d q2) (FP.ddiv (FP.l2d nn) (4741671816366391296 : UInt64)))), .second, .val (.int (1 : Int32)), .val (.long hv), .second, .unset, .unset] [])) t → Steps p.tables e below (s₁.setTop (entryFrame m #[(.int p0), (.int p1), (.long q2), (.long q3)] maxLocals)) t := by
          intro t k
          refine a144 t ?_
          show Steps p.tables e below (T127.setTop (mkF m 343 #[.val (.int p0), .val (.int p1), .val (.long q2), .second, .val (.long q3), .second, .val (.ref b2), .val (.ref un), .val (.int md), .val (.long nn), .second, .val (.ref f121), .val (.double (FP.ddiv (FP.l2d q2) (FP.ddiv (FP.l2d nn) (4741671816366391296 : UInt64)))), .second, .val (.int (1 : Int32)), .val (.long hv), .second, .unset, .unset] [(.int (lcmpW hv (0 : Int64)))])) _
          refine XS.ifYes X127.here hx rfl (pc0 := 343) (pc' := 349) rfl (hb hby at_343) rfl ((if0 _ _).trans (feq (fun q => hc343_145 ((lw_eq hv (0 : Int64)).mp q))).2) (by decide) (by decide) ?_
          exact k
        exact ⟨hv, Or.inr (⟨hc343_145, rfl⟩), a147⟩
    have hhh := own_hh h_hv JH
    have hhalf := rate_half q2 hhh.1 hhh.2
    have a149 : ∀ t, Steps p.tables e below (T127.setTop (mkF m 354 #[.val (.int p0), .val (.int p1), .val (.long q2), .second, .val (.long q3), .second, .val (.ref b2), .val (.ref un), .val (.int md), .val (.long nn), .second, .val (.ref f121), .val (.double (FP.ddiv (FP.l2d q2) (FP.ddiv (FP.l2d nn) (4741671816366391296 : UInt64)))), .second, .val (.int (1 : Int32)), .val (.long hh), .second, .unset, .unset] [(.long hh), (.long q2), (.ref un)])) t → Steps p.tables e below (s₁.setTop (entryFrame m #[(.int p0), (.int p1), (.long q2), (.long q3)] maxLocals)) t := by
      intro t k
      refine a148 t ?_
      show Steps p.tables e below (T127.setTop (mkF m 349 #[.val (.int p0), .val (.int p1), .val (.long q2), .second, .val (.long q3), .second, .val (.ref b2), .val (.ref un), .val (.int md), .val (.long nn), .second, .val (.ref f121), .val (.double (FP.ddiv (FP.l2d q2) (FP.ddiv (FP.l2d nn) (4741671816366391296 : UInt64)))), .second, .val (.int (1 : Int32)), .val (.long hh), .second, .unset, .unset] [])) _
      refine XS.aload X127.here hx rfl (hb hby at_349) rfl rfl ?_
      refine XS.lloadN X127.here hx rfl (hb hby at_351) rfl ?_
      refine XS.lload X127.here hx rfl (hb hby at_352) rfl ?_
      exact k
    obtain ⟨_, _, ⟨T150, L150, k150, n150⟩, -, X150, ⟨Lc150, hQ150, l150, y150, z150⟩, st150⟩ := Jvm.LawKit.callS X127 hx (y := (⟨"org/latchwork/cli/Figure", "rate", "(Lorg/latchwork/cli/Figure$Unit;JJ)Lorg/latchwork/cli/Figure;"⟩ : MethodName)) hown (mvT hZ (hw _ (List.mem_of_getElem? (i := 30) rfl))) (mvT hZ (hw _ (List.mem_of_getElem? (i := 31) rfl))) (mvT hZ (hw _ (List.mem_of_getElem? (i := 32) rfl))) (mvT hZ (hw _ (List.mem_of_getElem? (i := 33) rfl))) (by decide) (backOf (W := 0) (rmRate l Z a0 hw [] un q2 hh T121.heap n0 (Nat.le_trans (Nat.le_trans (Nat.le_trans (Nat.le_trans (Nat.le_trans (Nat.le_trans (Nat.le_trans Z0 E2.1) (Keep.of_wr W8).1) (Keep.of_wr W14).1) (Keep.of_wr W20).1) (Keep.of_wr W26).1) (Keep.of_wr W32).1) K121q.1) (own_rn q2 hhh.1)) hZ (hw _ (List.mem_of_getElem? (i := 33) rfl)) (hw _ (List.mem_of_getElem? (i := 32) rfl)) (by decide) (by decide)) (g := (mkF m 354 #[.val (.int p0), .val (.int p1), .val (.long q2), .second, .val (.long q3), .second, .val (.ref b2), .val (.ref un), .val (.int md), .val (.long nn), .second, .val (.ref f121), .val (.double (FP.ddiv (FP.l2d q2) (FP.ddiv (FP.l2d nn) (4741671816366391296 : UInt64)))), .second, .val (.int (1 : Int32)), .val (.long hh), .second, .unset, .unset] [(.long hh), (.long q2), (.ref un)])) rfl (by rw [hml]; rfl) (argsL := [(.ref un), (.long q2), (.long hh)]) (rest := []) (lenOf own_pd2 rfl) rfl (by show 2 * 0 + _ ≤ _; exact Nat.le_of_eq rfl) (hb hby at_354) (fun _ _ => ⟨rfl, e127q, (by decide : 2 + 1 ≤ _), (by decide : 7 + 2 ≤ _)⟩)
    dsimp only [Pt.U, Pt.locs, Pt.cells, Pt.slots] at X150 l150 y150 z150 st150 hQ150
    subst l150 y150 z150
    obtain ⟨f150, rfl, N150q, K150q, XF150, FU150, FV150⟩ := hQ150
    have N150 := Fr.app N127 N150q
    have KK150 : Keep h0 T150.heap [] := Keep.trans KK121 K150q all0
    have a151 : ∀ t, Steps p.tables e below (T150.setTop (mkF m 357 #[.val (.int p0), .val (.int p1), .val (.long q2), .second, .val (.long q3), .second, .val (.ref b2), .val (.ref un), .val (.int md), .val (.long nn), .second, .val (.ref f121), .val (.double (FP.ddiv (FP.l2d q2) (FP.ddiv (FP.l2d nn) (4741671816366391296 : UInt64)))), .second, .val (.int (1 : Int32)), .val (.long hh), .second, .unset, .unset] [(.ref f150)])) t → Steps p.tables e below (s₁.setTop (entryFrame m #[(.int p0), (.int p1), (.long q2), (.long q3)] maxLocals)) t := fun t k => a149 t (st150 t k)
    have a152 : ∀ t, Steps p.tables e below (T150.setTop (mkF m 368 #[.val (.int p0), .val (.int p1), .val (.long q2), .second, .val (.long q3), .second, .val (.ref b2), .val (.ref un), .val (.int md), .val (.long nn), .second, .val (.ref f121), .val (.double (FP.ddiv (FP.l2d q2) (FP.ddiv (FP.l2d nn) (4741671816366391296 : UInt64)))), .second, .val (.int (1 : Int32)), .val (.long hh), .second, .val (.ref f150), .unset] [(.long ((2 : Int64) * hh)), (.long q2), (.ref un)])) t → Steps p.tables e below (s₁.setTop (entryFrame m #[(.int p0), (.int p1), (.long q2), (.long q3)] maxLocals)) t := by
      intro t k
      refine a151 t ?_
      show Steps p.tables e below (T150.setTop (mkF m 357 #[.val (.int p0), .val (.int p1), .val (.long q2), .second, .val (.long q3), .second, .val (.ref b2), .val (.ref un), .val (.int md), .val (.long nn), .second, .val (.ref f121), .val (.double (FP.ddiv (FP.l2d q2) (FP.ddiv (FP.l2d nn) (4741671816366391296 : UInt64)))), .second, .val (.int (1 : Int32)), .val (.long hh), .second, .unset, .unset] [(.ref f150)])) _
      refine XS.astore X150.here hx rfl (hb hby at_357) rfl rfl (l' := #[.val (.int p0), .val (.int p1), .val (.long q2), .second, .val (.long q3), .second, .val (.ref b2), .val (.ref un), .val (.int md), .val (.long nn), .second, .val (.ref f121), .val (.double (FP.ddiv (FP.l2d q2) (FP.ddiv (FP.l2d nn) (4741671816366391296 : UInt64)))), .second, .val (.int (1 : Int32)), .val (.long hh), .second, .val (.ref f150), .unset]) rfl ?_
      refine XS.aload X150.here hx rfl (hb hby at_359) rfl rfl ?_
      refine XS.lloadN X150.here hx rfl (hb hby at_361) rfl ?_
      refine X150.ldc2Long hx hown (mvT hZ (hw _ (List.mem_of_getElem? (i := 62) rfl))) (g := (mkF m 362 #[.val (.int p0), .val (.int p1), .val (.long q2), .second, .val (.long q3), .second, .val (.ref b2), .val (.ref un), .val (.int md), .val (.long nn), .second, .val (.ref f121), .val (.double (FP.ddiv (FP.l2d q2) (FP.ddiv (FP.l2d nn) (4741671816366391296 : UInt64)))), .second, .val (.int (1 : Int32)), .val (.long hh), .second, .val (.ref f150), .unset] [(.long q2), (.ref un)])) rfl (hb hby at_362) _ ?_
      refine XS.lload X150.here hx rfl (hb hby at_365) rfl ?_
      refine XS.lmul X150.here hx rfl (hb hby at_367) rfl ?_
      exact k
    obtain ⟨_, _, ⟨T153, L153, k153, n153⟩, -, X153, ⟨Lc153, hQ153, l153, y153, z153⟩, st153⟩ := Jvm.LawKit.callS X150 hx (y := (⟨"org/latchwork/cli/Figure", "rate", "(Lorg/latchwork/cli/Figure$Unit;JJ)Lorg/latchwork/cli/Figure;"⟩ : MethodName)) hown (mvT hZ (hw _ (List.mem_of_getElem? (i := 30) rfl))) (mvT hZ (hw _ (List.mem_of_getElem? (i := 31) rfl))) (mvT hZ (hw _ (List.mem_of_getElem? (i := 32) rfl))) (mvT hZ (hw _ (List.mem_of_getElem? (i := 33) rfl))) (by decide) (backOf (W := 0) (rmRate l Z a0 hw [] un q2 ((2 : Int64) * hh) T150.heap n0 (Nat.le_trans (Nat.le_trans (Nat.le_trans (Nat.le_trans (Nat.le_trans (Nat.le_trans (Nat.le_trans (Nat.le_trans Z0 E2.1) (Keep.of_wr W8).1) (Keep.of_wr W14).1) (Keep.of_wr W20).1) (Keep.of_wr W26).1) (Keep.of_wr W32).1) K121q.1) K150q.1) (own_rn q2 (by rw [hhh.2]; have := hhh.1; omega))) hZ (hw _ (List.mem_of_getElem? (i := 33) rfl)) (hw _ (List.mem_of_getElem? (i := 32) rfl)) (by decide) (by decide)) (g := (mkF m 368 #[.val (.int p0), .val (.int p1), .val (.long q2), .second, .val (.long q3), .second, .val (.ref b2), .val (.ref un), .val (.int md), .val (.long nn), .second, .val (.ref f121), .val (.double (FP.ddiv (FP.l2d q2) (FP.ddiv (FP.l2d nn) (4741671816366391296 : UInt64)))), .second, .val (.int (1 : Int32)), .val (.long hh), .second, .val (.ref f150), .unset] [(.long ((2 : Int64) * hh)), (.long q2), (.ref un)])) rfl (by rw [hml]; rfl) (argsL := [(.ref un), (.long q2), (.long ((2 : Int64) * hh))]) (rest := []) (lenOf own_pd2 rfl) rfl (by show 2 * 0 + _ ≤ _; exact Nat.le_of_eq rfl) (hb hby at_368) (fun _ _ => ⟨rfl, rfl, (by decide : 3 + 1 ≤ _), (by decide : 9 + 2 ≤ _)⟩)
    dsimp only [Pt.U, Pt.locs, Pt.cells, Pt.slots] at X153 l153 y153 z153 st153 hQ153
    subst l153 y153 z153
    obtain ⟨f153, rfl, N153q, K153q, XF153, FU153, FV153⟩ := hQ153
    have N153 := Fr.app N150 N153q
    have KK153 : Keep h0 T153.heap [] := Keep.trans KK150 K153q all0
    have a154 : ∀ t, Steps p.tables e below (T153.setTop (mkF m 371 #[.val (.int p0), .val (.int p1), .val (.long q2), .second, .val (.long q3), .second, .val (.ref b2), .val (.ref un), .val (.int md), .val (.long nn), .second, .val (.ref f121), .val (.double (FP.ddiv (FP.l2d q2) (FP.ddiv (FP.l2d nn) (4741671816366391296 : UInt64)))), .second, .val (.int (1 : Int32)), .val (.long hh), .second, .val (.ref f150), .unset] [(.ref f153)])) t → Steps p.tables e below (s₁.setTop (entryFrame m #[(.int p0), (.int p1), (.long q2), (.long q3)] maxLocals)) t := fun t k => a152 t (st153 t k)
    have a155 : ∀ t, Steps p.tables e below (T153.setTop (mkF m 375 #[.val (.int p0), .val (.int p1), .val (.long q2), .second, .val (.long q3), .second, .val (.ref b2), .val (.ref un), .val (.int md), .val (.long nn), .second, .val (.ref f121), .val (.double (FP.ddiv (FP.l2d q2) (FP.ddiv (FP.l2d nn) (4741671816366391296 : UInt64)))), .second, .val (.int (1 : Int32)), .val (.long hh), .second, .val (.ref f150), .val (.ref f153)] [(.ref f150)])) t → Steps p.tables e below (s₁.setTop (entryFrame m #[(.int p0), (.int p1), (.long q2), (.long q3)] maxLocals)) t := by
      intro t k
      refine a154 t ?_
      show Steps p.tables e below (T153.setTop (mkF m 371 #[.val (.int p0), .val (.int p1), .val (.long q2), .second, .val (.long q3), .second, .val (.ref b2), .val (.ref un), .val (.int md), .val (.long nn), .second, .val (.ref f121), .val (.double (FP.ddiv (FP.l2d q2) (FP.ddiv (FP.l2d nn) (4741671816366391296 : UInt64)))), .second, .val (.int (1 : Int32)), .val (.long hh), .second, .val (.ref f150), .unset] [(.ref f153)])) _
      refine XS.astore X153.here hx rfl (hb hby at_371) rfl rfl (l' := #[.val (.int p0), .val (.int p1), .val (.long q2), .second, .val (.long q3), .second, .val (.ref b2), .val (.ref un), .val (.int md), .val (.long nn), .second, .val (.ref f121), .val (.double (FP.ddiv (FP.l2d q2) (FP.ddiv (FP.l2d nn) (4741671816366391296 : UInt64)))), .second, .val (.int (1 : Int32)), .val (.long hh), .second, .val (.ref f150), .val (.ref f153)]) rfl ?_
      refine XS.aload X153.here hx rfl (hb hby at_373) rfl rfl ?_
      exact k
    obtain ⟨cq156, kq156, q156a, q156b, q156c⟩ := isOf hZ rfl (XF150.keep K153q)
    obtain ⟨_, _, ⟨T156, L156, k156, n156⟩, -, X156, ⟨Lc156, hQ156, l156, y156, z156⟩, st156⟩ := X153.virtualBack hx (y := (⟨"org/latchwork/cli/Figure", "unit", "()Lorg/latchwork/cli/Figure$Unit;"⟩ : MethodName)) (z := (⟨"org/latchwork/cli/Figure", "unit", "()Lorg/latchwork/cli/Figure$Unit;"⟩ : MethodName)) hown (mvT hZ (hw _ (List.mem_of_getElem? (i := 52) rfl))) (mvT hZ (hw _ (List.mem_of_getElem? (i := 53) rfl))) (notFace_of_selects (args := #[]) (mvT hZ (hw _ (List.mem_of_getElem? (i := 55) rfl)))) (mvT hZ (hw _ (List.mem_of_getElem? (i := 55) rfl))) (mvT hZ (hw _ (List.mem_of_getElem? (i := 54) rfl))) (by decide) (backOf (W := 0) (rmU l Z a0 hw [] f150 un T153.heap n0 (Nat.le_trans (Nat.le_trans (Nat.le_trans (Nat.le_trans (Nat.le_trans (Nat.le_trans (Nat.le_trans (Nat.le_trans (Nat.le_trans Z0 E2.1) (Keep.of_wr W8).1) (Keep.of_wr W14).1) (Keep.of_wr W20).1) (Keep.of_wr W26).1) (Keep.of_wr W32).1) K121q.1) K150q.1) K153q.1) (FU150.keep K153q nin0)) hZ (hw _ (List.mem_of_getElem? (i := 56) rfl)) (hw _ (List.mem_of_getElem? (i := 32) rfl)) (by decide) (by decide)) q156a q156c (g := (mkF m 375 #[.val (.int p0), .val (.int p1), .val (.long q2), .second, .val (.long q3), .second, .val (.ref b2), .val (.ref un), .val (.int md), .val (.long nn), .second, .val (.ref f121), .val (.double (FP.ddiv (FP.l2d q2) (FP.ddiv (FP.l2d nn) (4741671816366391296 : UInt64)))), .second, .val (.int (1 : Int32)), .val (.long hh), .second, .val (.ref f150), .val (.ref f153)] [(.ref f150)])) rfl (by rw [hml]; rfl) (Steps.refl _) (argsL := []) (rest := []) (lenOf own_pd3 rfl) rfl (by show 2 * 0 + _ ≤ _; exact Nat.le_of_eq rfl) (hb hby at_375) (fun _ _ => ⟨rfl, rfl, (by decide : 4 + 0 ≤ _), (by decide : 11 + 0 ≤ _)⟩)
    dsimp only [Pt.U, Pt.locs, Pt.cells, Pt.slots] at X156 l156 y156 z156 st156 hQ156
    subst l156 y156 z156
    obtain ⟨rfl, N156q, e156q⟩ := hQ156
    have N156 := Fr.app N153 N156q
    have a157 : ∀ t, Steps p.tables e below (T156.setTop (mkF m 378 #[.val (.int p0), .val (.int p1), .val (.long q2), .second, .val (.long q3), .second, .val (.ref b2), .val (.ref un), .val (.int md), .val (.long nn), .second, .val (.ref f121), .val (.double (FP.ddiv (FP.l2d q2) (FP.ddiv (FP.l2d nn) (4741671816366391296 : UInt64)))), .second, .val (.int (1 : Int32)), .val (.long hh), .second, .val (.ref f150), .val (.ref f153)] [(.ref un)])) t → Steps p.tables e below (s₁.setTop (entryFrame m #[(.int p0), (.int p1), (.long q2), (.long q3)] maxLocals)) t := fun t k => a155 t (st156.trans k)
    have a158 : ∀ t, Steps p.tables e below (T156.setTop (mkF m 385 #[.val (.int p0), .val (.int p1), .val (.long q2), .second, .val (.long q3), .second, .val (.ref b2), .val (.ref un), .val (.int md), .val (.long nn), .second, .val (.ref f121), .val (.double (FP.ddiv (FP.l2d q2) (FP.ddiv (FP.l2d nn) (4741671816366391296 : UInt64)))), .second, .val (.int (1 : Int32)), .val (.long hh), .second, .val (.ref f150), .val (.ref f153)] [(.ref f153)])) t → Steps p.tables e below (s₁.setTop (entryFrame m #[(.int p0), (.int p1), (.long q2), (.long q3)] maxLocals)) t := by
      intro t k
      refine a157 t ?_
      show Steps p.tables e below (T156.setTop (mkF m 378 #[.val (.int p0), .val (.int p1), .val (.long q2), .second, .val (.long q3), .second, .val (.ref b2), .val (.ref un), .val (.int md), .val (.long nn), .second, .val (.ref f121), .val (.double (FP.ddiv (FP.l2d q2) (FP.ddiv (FP.l2d nn) (4741671816366391296 : UInt64)))), .second, .val (.int (1 : Int32)), .val (.long hh), .second, .val (.ref f150), .val (.ref f153)] [(.ref un)])) _
      refine XS.aload X156.here hx rfl (hb hby at_378) rfl rfl ?_
      refine Jvm.RoadKit.acmp (g := (mkF m 380 #[.val (.int p0), .val (.int p1), .val (.long q2), .second, .val (.long q3), .second, .val (.ref b2), .val (.ref un), .val (.int md), .val (.long nn), .second, .val (.ref f121), .val (.double (FP.ddiv (FP.l2d q2) (FP.ddiv (FP.l2d nn) (4741671816366391296 : UInt64)))), .second, .val (.int (1 : Int32)), .val (.long hh), .second, .val (.ref f150), .val (.ref f153)] [(.ref un), (.ref un)])) X156 hx rfl rfl rfl (pc0 := 380) (pc' := 383) (same := true) rfl (hb hby at_380) rfl (decide_eq_true rfl) (by decide) (by decide) ?_
      refine XS.aload X156.here hx rfl (hb hby at_383) rfl rfl ?_
      exact k
    obtain ⟨cq159, kq159, q159a, q159b, q159c⟩ := isOf hZ e156q XF153
    obtain ⟨_, _, ⟨T159, L159, k159, n159⟩, -, X159, ⟨Lc159, hQ159, l159, y159, z159⟩, st159⟩ := X156.virtualBack hx (y := (⟨"org/latchwork/cli/Figure", "unit", "()Lorg/latchwork/cli/Figure$Unit;"⟩ : MethodName)) (z := (⟨"org/latchwork/cli/Figure", "unit", "()Lorg/latchwork/cli/Figure$Unit;"⟩ : MethodName)) hown (mvT hZ (hw _ (List.mem_of_getElem? (i := 52) rfl))) (mvT hZ (hw _ (List.mem_of_getElem? (i := 53) rfl))) (notFace_of_selects (args := #[]) (mvT hZ (hw _ (List.mem_of_getElem? (i := 55) rfl)))) (mvT hZ (hw _ (List.mem_of_getElem? (i := 55) rfl))) (mvT hZ (hw _ (List.mem_of_getElem? (i := 54) rfl))) (by decide) (backOf (W := 0) (rmU l Z a0 hw [] f153 un T153.heap n0 (Nat.le_trans (Nat.le_trans (Nat.le_trans (Nat.le_trans (Nat.le_trans (Nat.le_trans (Nat.le_trans (Nat.le_trans (Nat.le_trans Z0 E2.1) (Keep.of_wr W8).1) (Keep.of_wr W14).1) (Keep.of_wr W20).1) (Keep.of_wr W26).1) (Keep.of_wr W32).1) K121q.1) K150q.1) K153q.1) FU153) hZ (hw _ (List.mem_of_getElem? (i := 56) rfl)) (hw _ (List.mem_of_getElem? (i := 32) rfl)) (by decide) (by decide)) q159a q159c (g := (mkF m 385 #[.val (.int p0), .val (.int p1), .val (.long q2), .second, .val (.long q3), .second, .val (.ref b2), .val (.ref un), .val (.int md), .val (.long nn), .second, .val (.ref f121), .val (.double (FP.ddiv (FP.l2d q2) (FP.ddiv (FP.l2d nn) (4741671816366391296 : UInt64)))), .second, .val (.int (1 : Int32)), .val (.long hh), .second, .val (.ref f150), .val (.ref f153)] [(.ref f153)])) rfl (by rw [hml]; rfl) (Steps.refl _) (argsL := []) (rest := []) (lenOf own_pd3 rfl) rfl (by show 2 * 0 + _ ≤ _; exact Nat.le_of_eq rfl) (hb hby at_385) (fun _ _ => ⟨rfl, e156q, (by decide : 4 + 0 ≤ _), (by decide : 11 + 0 ≤ _)⟩)
    dsimp only [Pt.U, Pt.locs, Pt.cells, Pt.slots] at X159 l159 y159 z159 st159 hQ159
    subst l159 y159 z159
    obtain ⟨rfl, N159q, e159q⟩ := hQ159
    have N159 := Fr.app N156 N159q
    have a160 : ∀ t, Steps p.tables e below (T159.setTop (mkF m 388 #[.val (.int p0), .val (.int p1), .val (.long q2), .second, .val (.long q3), .second, .val (.ref b2), .val (.ref un), .val (.int md), .val (.long nn), .second, .val (.ref f121), .val (.double (FP.ddiv (FP.l2d q2) (FP.ddiv (FP.l2d nn) (4741671816366391296 : UInt64)))), .second, .val (.int (1 : Int32)), .val (.long hh), .second, .val (.ref f150), .val (.ref f153)] [(.ref un)])) t → Steps p.tables e below (s₁.setTop (entryFrame m #[(.int p0), (.int p1), (.long q2), (.long q3)] maxLocals)) t := fun t k => a158 t (st159.trans k)
    have a161 : ∀ t, Steps p.tables e below (T159.setTop (mkF m 395 #[.val (.int p0), .val (.int p1), .val (.long q2), .second, .val (.long q3), .second, .val (.ref b2), .val (.ref un), .val (.int md), .val (.long nn), .second, .val (.ref f121), .val (.double (FP.ddiv (FP.l2d q2) (FP.ddiv (FP.l2d nn) (4741671816366391296 : UInt64)))), .second, .val (.int (1 : Int32)), .val (.long hh), .second, .val (.ref f150), .val (.ref f153)] [(.ref f153)])) t → Steps p.tables e below (s₁.setTop (entryFrame m #[(.int p0), (.int p1), (.long q2), (.long q3)] maxLocals)) t := by
      intro t k
      refine a160 t ?_
      show Steps p.tables e below (T159.setTop (mkF m 388 #[.val (.int p0), .val (.int p1), .val (.long q2), .second, .val (.long q3), .second, .val (.ref b2), .val (.ref un), .val (.int md), .val (.long nn), .second, .val (.ref f121), .val (.double (FP.ddiv (FP.l2d q2) (FP.ddiv (FP.l2d nn) (4741671816366391296 : UInt64)))), .second, .val (.int (1 : Int32)), .val (.long hh), .second, .val (.ref f150), .val (.ref f153)] [(.ref un)])) _
      refine XS.aload X159.here hx rfl (hb hby at_388) rfl rfl ?_
      refine Jvm.RoadKit.acmp (g := (mkF m 390 #[.val (.int p0), .val (.int p1), .val (.long q2), .second, .val (.long q3), .second, .val (.ref b2), .val (.ref un), .val (.int md), .val (.long nn), .second, .val (.ref f121), .val (.double (FP.ddiv (FP.l2d q2) (FP.ddiv (FP.l2d nn) (4741671816366391296 : UInt64)))), .second, .val (.int (1 : Int32)), .val (.long hh), .second, .val (.ref f150), .val (.ref f153)] [(.ref un), (.ref un)])) X159 hx rfl rfl rfl (pc0 := 390) (pc' := 393) (same := true) rfl (hb hby at_390) rfl (decide_eq_true rfl) (by decide) (by decide) ?_
      refine XS.aload X159.here hx rfl (hb hby at_393) rfl rfl ?_
      exact k
    obtain ⟨cq162, kq162, q162a, q162b, q162c⟩ := isOf hZ e159q XF153
    obtain ⟨_, _, ⟨T162, L162, k162, n162⟩, -, X162, ⟨Lc162, hQ162, l162, y162, z162⟩, st162⟩ := X159.virtualBack hx (y := (⟨"org/latchwork/cli/Figure", "value", "()D"⟩ : MethodName)) (z := (⟨"org/latchwork/cli/Figure", "value", "()D"⟩ : MethodName)) hown (mvT hZ (hw _ (List.mem_of_getElem? (i := 57) rfl))) (mvT hZ (hw _ (List.mem_of_getElem? (i := 58) rfl))) (notFace_of_selects (args := #[]) (mvT hZ (hw _ (List.mem_of_getElem? (i := 60) rfl)))) (mvT hZ (hw _ (List.mem_of_getElem? (i := 60) rfl))) (mvT hZ (hw _ (List.mem_of_getElem? (i := 59) rfl))) (by decide) (backOf (W := 0) (rmVal l Z a0 hw [] f153 (FP.ddiv (FP.l2d q2) (FP.ddiv (FP.l2d ((2 : Int64) * hh)) (4741671816366391296 : UInt64))) T153.heap n0 (Nat.le_trans (Nat.le_trans (Nat.le_trans (Nat.le_trans (Nat.le_trans (Nat.le_trans (Nat.le_trans (Nat.le_trans (Nat.le_trans Z0 E2.1) (Keep.of_wr W8).1) (Keep.of_wr W14).1) (Keep.of_wr W20).1) (Keep.of_wr W26).1) (Keep.of_wr W32).1) K121q.1) K150q.1) K153q.1) FV153) hZ (hw _ (List.mem_of_getElem? (i := 61) rfl)) (hw _ (List.mem_of_getElem? (i := 32) rfl)) (by decide) (by decide)) q162a q162c (g := (mkF m 395 #[.val (.int p0), .val (.int p1), .val (.long q2), .second, .val (.long q3), .second, .val (.ref b2), .val (.ref un), .val (.int md), .val (.long nn), .second, .val (.ref f121), .val (.double (FP.ddiv (FP.l2d q2) (FP.ddiv (FP.l2d nn) (4741671816366391296 : UInt64)))), .second, .val (.int (1 : Int32)), .val (.long hh), .second, .val (.ref f150), .val (.ref f153)] [(.ref f153)])) rfl (by rw [hml]; rfl) (Steps.refl _) (argsL := []) (rest := []) (lenOf own_pd4 rfl) rfl (by show 2 * 0 + _ ≤ _; exact Nat.le_of_eq rfl) (hb hby at_395) (fun _ _ => ⟨rfl, e159q, (by decide : 4 + 0 ≤ _), (by decide : 11 + 0 ≤ _)⟩)
    dsimp only [Pt.U, Pt.locs, Pt.cells, Pt.slots] at X162 l162 y162 z162 st162 hQ162
    subst l162 y162 z162
    obtain ⟨rfl, N162q, e162q⟩ := hQ162
    have N162 := Fr.app N159 N162q
    have a163 : ∀ t, Steps p.tables e below (T162.setTop (mkF m 398 #[.val (.int p0), .val (.int p1), .val (.long q2), .second, .val (.long q3), .second, .val (.ref b2), .val (.ref un), .val (.int md), .val (.long nn), .second, .val (.ref f121), .val (.double (FP.ddiv (FP.l2d q2) (FP.ddiv (FP.l2d nn) (4741671816366391296 : UInt64)))), .second, .val (.int (1 : Int32)), .val (.long hh), .second, .val (.ref f150), .val (.ref f153)] [(.double (FP.ddiv (FP.l2d q2) (FP.ddiv (FP.l2d ((2 : Int64) * hh)) (4741671816366391296 : UInt64))))])) t → Steps p.tables e below (s₁.setTop (entryFrame m #[(.int p0), (.int p1), (.long q2), (.long q3)] maxLocals)) t := fun t k => a161 t (st162.trans k)
    have a164 : ∀ t, Steps p.tables e below (T162.setTop (mkF m 404 #[.val (.int p0), .val (.int p1), .val (.long q2), .second, .val (.long q3), .second, .val (.ref b2), .val (.ref un), .val (.int md), .val (.long nn), .second, .val (.ref f121), .val (.double (FP.ddiv (FP.l2d q2) (FP.ddiv (FP.l2d nn) (4741671816366391296 : UInt64)))), .second, .val (.int (1 : Int32)), .val (.long hh), .second, .val (.ref f150), .val (.ref f153)] [(.ref f150), (.double (FP.dmul (FP.ddiv (FP.l2d q2) (FP.ddiv (FP.l2d ((2 : Int64) * hh)) (4741671816366391296 : UInt64))) (4611686018427387904 : UInt64)))])) t → Steps p.tables e below (s₁.setTop (entryFrame m #[(.int p0), (.int p1), (.long q2), (.long q3)] maxLocals)) t := by
      intro t k
      refine a163 t ?_
      show Steps p.tables e below (T162.setTop (mkF m 398 #[.val (.int p0), .val (.int p1), .val (.long q2), .second, .val (.long q3), .second, .val (.ref b2), .val (.ref un), .val (.int md), .val (.long nn), .second, .val (.ref f121), .val (.double (FP.ddiv (FP.l2d q2) (FP.ddiv (FP.l2d nn) (4741671816366391296 : UInt64)))), .second, .val (.int (1 : Int32)), .val (.long hh), .second, .val (.ref f150), .val (.ref f153)] [(.double (FP.ddiv (FP.l2d q2) (FP.ddiv (FP.l2d ((2 : Int64) * hh)) (4741671816366391296 : UInt64))))])) _
      refine X162.ldc2DoubleC hx hown (mvT hZ (hw _ (List.mem_of_getElem? (i := 26) rfl))) (g := (mkF m 398 #[.val (.int p0), .val (.int p1), .val (.long q2), .second, .val (.long q3), .second, .val (.ref b2), .val (.ref un), .val (.int md), .val (.long nn), .second, .val (.ref f121), .val (.double (FP.ddiv (FP.l2d q2) (FP.ddiv (FP.l2d nn) (4741671816366391296 : UInt64)))), .second, .val (.int (1 : Int32)), .val (.long hh), .second, .val (.ref f150), .val (.ref f153)] [(.double (FP.ddiv (FP.l2d q2) (FP.ddiv (FP.l2d ((2 : Int64) * hh)) (4741671816366391296 : UInt64))))])) rfl (hb hby at_398) _ ?_
      refine XS.dmulS X162.here hx rfl (hb hby at_401) rfl (nn64 hhalf.1) rfl ?_
      refine XS.aload X162.here hx rfl (hb hby at_402) rfl rfl ?_
      exact k
    obtain ⟨cq165, kq165, q165a, q165b, q165c⟩ := isOf hZ e162q (XF150.keep K153q)
    obtain ⟨_, _, ⟨T165, L165, k165, n165⟩, -, X165, ⟨Lc165, hQ165, l165, y165, z165⟩, st165⟩ := X162.virtualBack hx (y := (⟨"org/latchwork/cli/Figure", "value", "()D"⟩ : MethodName)) (z := (⟨"org/latchwork/cli/Figure", "value", "()D"⟩ : MethodName)) hown (mvT hZ (hw _ (List.mem_of_getElem? (i := 57) rfl))) (mvT hZ (hw _ (List.mem_of_getElem? (i := 58) rfl))) (notFace_of_selects (args := #[]) (mvT hZ (hw _ (List.mem_of_getElem? (i := 60) rfl)))) (mvT hZ (hw _ (List.mem_of_getElem? (i := 60) rfl))) (mvT hZ (hw _ (List.mem_of_getElem? (i := 59) rfl))) (by decide) (backOf (W := 2) (rmVal l Z a0 hw [] f150 (FP.ddiv (FP.l2d q2) (FP.ddiv (FP.l2d hh) (4741671816366391296 : UInt64))) T153.heap n0 (Nat.le_trans (Nat.le_trans (Nat.le_trans (Nat.le_trans (Nat.le_trans (Nat.le_trans (Nat.le_trans (Nat.le_trans (Nat.le_trans Z0 E2.1) (Keep.of_wr W8).1) (Keep.of_wr W14).1) (Keep.of_wr W20).1) (Keep.of_wr W26).1) (Keep.of_wr W32).1) K121q.1) K150q.1) K153q.1) (FV150.keep K153q nin0)) hZ (hw _ (List.mem_of_getElem? (i := 61) rfl)) (hw _ (List.mem_of_getElem? (i := 32) rfl)) (by decide) (by decide)) q165a q165c (g := (mkF m 404 #[.val (.int p0), .val (.int p1), .val (.long q2), .second, .val (.long q3), .second, .val (.ref b2), .val (.ref un), .val (.int md), .val (.long nn), .second, .val (.ref f121), .val (.double (FP.ddiv (FP.l2d q2) (FP.ddiv (FP.l2d nn) (4741671816366391296 : UInt64)))), .second, .val (.int (1 : Int32)), .val (.long hh), .second, .val (.ref f150), .val (.ref f153)] [(.ref f150), (.double (FP.dmul (FP.ddiv (FP.l2d q2) (FP.ddiv (FP.l2d ((2 : Int64) * hh)) (4741671816366391296 : UInt64))) (4611686018427387904 : UInt64)))])) rfl (by rw [hml]; rfl) (Steps.refl _) (argsL := []) (rest := [(.double (FP.dmul (FP.ddiv (FP.l2d q2) (FP.ddiv (FP.l2d ((2 : Int64) * hh)) (4741671816366391296 : UInt64))) (4611686018427387904 : UInt64)))]) (lenOf own_pd4 rfl) rfl (by show 2 * 0 + _ ≤ _; exact Nat.le_of_eq rfl) (hb hby at_404) (fun _ _ => ⟨rfl, e162q, (by decide : 4 + 0 ≤ _), (by decide : 11 + 0 ≤ _)⟩)
    dsimp only [Pt.U, Pt.locs, Pt.cells, Pt.slots] at X165 l165 y165 z165 st165 hQ165
    subst l165 y165 z165
    obtain ⟨rfl, N165q, e165q⟩ := hQ165
    have N165 := Fr.app N162 N165q
    have a166 : ∀ t, Steps p.tables e below (T165.setTop (mkF m 407 #[.val (.int p0), .val (.int p1), .val (.long q2), .second, .val (.long q3), .second, .val (.ref b2), .val (.ref un), .val (.int md), .val (.long nn), .second, .val (.ref f121), .val (.double (FP.ddiv (FP.l2d q2) (FP.ddiv (FP.l2d nn) (4741671816366391296 : UInt64)))), .second, .val (.int (1 : Int32)), .val (.long hh), .second, .val (.ref f150), .val (.ref f153)] [(.double (FP.ddiv (FP.l2d q2) (FP.ddiv (FP.l2d hh) (4741671816366391296 : UInt64)))), (.double (FP.dmul (FP.ddiv (FP.l2d q2) (FP.ddiv (FP.l2d ((2 : Int64) * hh)) (4741671816366391296 : UInt64))) (4611686018427387904 : UInt64)))])) t → Steps p.tables e below (s₁.setTop (entryFrame m #[(.int p0), (.int p1), (.long q2), (.long q3)] maxLocals)) t := fun t k => a164 t (st165.trans k)
    have a167 : ∀ t, Steps p.tables e below (T165.setTop (mkF m 416 #[.val (.int p0), .val (.int p1), .val (.long q2), .second, .val (.long q3), .second, .val (.ref b2), .val (.ref un), .val (.int md), .val (.long nn), .second, .val (.ref f121), .val (.double (FP.ddiv (FP.l2d q2) (FP.ddiv (FP.l2d nn) (4741671816366391296 : UInt64)))), .second, .val (.int (1 : Int32)), .val (.long hh), .second, .val (.ref f150), .val (.ref f153)] [(.int (1 : Int32))])) t → Steps p.tables e below (s₁.setTop (entryFrame m #[(.int p0), (.int p1), (.long q2), (.long q3)] maxLocals)) t := by
      intro t k
      refine a166 t ?_
      show Steps p.tables e below (T165.setTop (mkF m 407 #[.val (.int p0), .val (.int p1), .val (.long q2), .second, .val (.long q3), .second, .val (.ref b2), .val (.ref un), .val (.int md), .val (.long nn), .second, .val (.ref f121), .val (.double (FP.ddiv (FP.l2d q2) (FP.ddiv (FP.l2d nn) (4741671816366391296 : UInt64)))), .second, .val (.int (1 : Int32)), .val (.long hh), .second, .val (.ref f150), .val (.ref f153)] [(.double (FP.ddiv (FP.l2d q2) (FP.ddiv (FP.l2d hh) (4741671816366391296 : UInt64)))), (.double (FP.dmul (FP.ddiv (FP.l2d q2) (FP.ddiv (FP.l2d ((2 : Int64) * hh)) (4741671816366391296 : UInt64))) (4611686018427387904 : UInt64)))])) _
      refine XS.dcmpS X165.here hx rfl (hb hby at_407) rfl rfl ?_
      refine XS.ifNo X165.here hx rfl (hb hby at_408) rfl ((if0 _ _).trans (teq (own_eqv hhalf.1 (rate_fin q2 hhh.1) hhalf.2)).2) ?_
      refine XS.iconst X165.here hx rfl (hb hby at_411) ?_
      refine XS.goto X165.here hx rfl (pc0 := 412) (pc' := 416) rfl (hb hby at_412) (by decide) (by decide) ?_
      exact k
    obtain ⟨fs, hr, hrun, hended, hW, hsame⟩ := X165.leave (v := some (.int (1 : Int32))) (fun h => by rw [Bd.returns] at h; cases h)
    refine ⟨_, _, a167 _ ?_, hrun, hended, _, _, rfl, ?_, ⟨_, rfl⟩, hW, hsame.mono (by decide) (by decide)⟩
    · show Steps p.tables e below (T165.setTop (mkF m 416 #[.val (.int p0), .val (.int p1), .val (.long q2), .second, .val (.long q3), .second, .val (.ref b2), .val (.ref un), .val (.int md), .val (.long nn), .second, .val (.ref f121), .val (.double (FP.ddiv (FP.l2d q2) (FP.ddiv (FP.l2d nn) (4741671816366391296 : UInt64)))), .second, .val (.int (1 : Int32)), .val (.long hh), .second, .val (.ref f150), .val (.ref f153)] [(.int (1 : Int32))])) _
      exact retN X165 hx (t := .boolean) Bd.returns (by simp) (hb hby at_416) hr
    · show Q0 Z p0 p1 q2 q3 w_OPS_PER_S w_ITEMS_PER_S w_ROUNDS_PER_S w_ENTRIES_PER_S w_WRITER_WAIT_MAX_MS h0 n0 _ T165.heap _
      rw [e165q]
      exact ⟨rfl, N165⟩
set_option maxRecDepth 65536 in
set_option maxHeartbeats 40000000 in
theorem comes_1 {Post : Tables → Env → Array Value → State → Outcome → State → Prop} (hpost : ∀ tb e args s v u, (limb_1_1.after args s (.returned v) u = true ∧ limb_1_2.after args s (.returned v) u = true ∧ True) → FrameEnd s (.returned v) u (Jvm.fieldLocs frame_1_writes args s ++ Jvm.arrayLocs frame_1_arrays args s ++ Jvm.staticLocs frame_1_statics s) 16 128 → Post tb e args s (.returned v) u) :
    ArmFor flags0 classFile x code maxLocals ret World_1 tables_1 room_1 Calls_1 rest_1 Pre_1 Post := by
  intro l hfl _ _ p e ha hc hk s m args below hf hA hF happ hP
  obtain ⟨hcalls, hrest, hpre⟩ := hP
  obtain ⟨-, -, -, hnamed, -, -, -, hat⟩ := (Spec.applies_iff hf).mp happ
  obtain ⟨hg, hn⟩ := and_e (Cond.before_iff.mp (show (Jvm.Cond.and given_1 narrow_1).before args s = true from hpre))
  obtain ⟨g1, g2⟩ := and_e hg
  obtain ⟨g3, g4⟩ := and_e g2
  obtain ⟨g5, g6⟩ := and_e g4
  obtain ⟨g7, g8⟩ := and_e g6
  obtain ⟨g9, g10⟩ := and_e hn
  obtain ⟨g11, g12⟩ := and_e g10
  obtain ⟨g13, g14⟩ := and_e g12
  obtain ⟨g15, g16⟩ := and_e g14
  obtain ⟨w0, w1, w2, w3, rfl⟩ : ∃ w0 w1 w2 w3 : Value, args = #[w0, w1, w2, w3] := by
    have hs : args.size = 4 := by simpa [Cond.value, given_1] using g1
    obtain ⟨L⟩ := args
    match L, hs with
    | [w0, w1, w2, w3], _ => exact ⟨w0, w1, w2, w3, rfl⟩
  have hw := fun d (hd : d ∈ tables_1) => atoms_spec (ws := Jvm.Cond.code x code maxLocals ret :: tables_1) hat d (List.mem_cons_of_mem _ hd)
  have hfit : Fit s := fun {y c} hc i hi => by
    obtain ⟨ha, rfl⟩ := Array.getElem?_eq_some_iff.mp hc
    have q := List.all_eq_true.mp ((Array.all_eq_true_iff_forall_mem.mp hF) _ (Array.getElem_mem ha)) i (List.mem_range.mpr hi)
    simpa [Array.getElem?_eq_getElem hi] using q
  obtain ⟨i0, ei0⟩ := is_v g3
  obtain rfl : w0 = (.int i0) := Option.some.inj ei0
  obtain ⟨i1, ei1⟩ := is_v g5
  obtain rfl : w1 = (.int i1) := Option.some.inj ei1
  obtain ⟨i2, ei2⟩ := isL_v g7
  obtain rfl : w2 = (.long i2) := Option.some.inj ei2
  obtain ⟨i3, ei3⟩ := isL_v g8
  obtain rfl : w3 = (.long i3) := Option.some.inj ei3
  obtain ⟨w_OPS_PER_S, ev_OPS_PER_S⟩ := exa_v g9
  have S_OPS_PER_S := Sta.start ev_OPS_PER_S (Or.inr ⟨(hw _ (List.mem_of_getElem? (i := 3) rfl)), (hw _ (List.mem_of_getElem? (i := 4) rfl))⟩)
  have X_OPS_PER_S := Exa.start ev_OPS_PER_S g9
  obtain ⟨w_ITEMS_PER_S, ev_ITEMS_PER_S⟩ := exa_v g11
  have S_ITEMS_PER_S := Sta.start ev_ITEMS_PER_S (Or.inr ⟨(hw _ (List.mem_of_getElem? (i := 3) rfl)), (hw _ (List.mem_of_getElem? (i := 7) rfl))⟩)
  have X_ITEMS_PER_S := Exa.start ev_ITEMS_PER_S g11
  obtain ⟨w_ROUNDS_PER_S, ev_ROUNDS_PER_S⟩ := exa_v g13
  have S_ROUNDS_PER_S := Sta.start ev_ROUNDS_PER_S (Or.inr ⟨(hw _ (List.mem_of_getElem? (i := 3) rfl)), (hw _ (List.mem_of_getElem? (i := 9) rfl))⟩)
  have X_ROUNDS_PER_S := Exa.start ev_ROUNDS_PER_S g13
  obtain ⟨w_ENTRIES_PER_S, ev_ENTRIES_PER_S⟩ := exa_v g15
  have S_ENTRIES_PER_S := Sta.start ev_ENTRIES_PER_S (Or.inr ⟨(hw _ (List.mem_of_getElem? (i := 3) rfl)), (hw _ (List.mem_of_getElem? (i := 11) rfl))⟩)
  have X_ENTRIES_PER_S := Exa.start ev_ENTRIES_PER_S g15
  obtain ⟨w_WRITER_WAIT_MAX_MS, ev_WRITER_WAIT_MAX_MS⟩ := exa_v g16
  have S_WRITER_WAIT_MAX_MS := Sta.start ev_WRITER_WAIT_MAX_MS (Or.inr ⟨(hw _ (List.mem_of_getElem? (i := 3) rfl)), (hw _ (List.mem_of_getElem? (i := 13) rfl))⟩)
  have X_WRITER_WAIT_MAX_MS := Exa.start ev_WRITER_WAIT_MAX_MS g16
  obtain ⟨n, o, h1, h2, h3, _, L, rfl, ⟨rfl, N⟩, hq⟩ := rm0 l s _ hw tables_1 i0 i1 i2 i3 w_OPS_PER_S w_ITEMS_PER_S w_ROUNDS_PER_S w_ENTRIES_PER_S w_WRITER_WAIT_MAX_MS s.heap s.heap.size (Nat.le_refl _) S_OPS_PER_S S_ITEMS_PER_S S_ROUNDS_PER_S S_ENTRIES_PER_S S_WRITER_WAIT_MAX_MS X_OPS_PER_S X_ITEMS_PER_S X_ROUNDS_PER_S X_ENTRIES_PER_S X_WRITER_WAIT_MAX_MS p e ha hc hk s m _ below hf ((Spec.applies_iff_loose hf).mp happ).1 ⟨rfl, State.Warmed39.refl s, rfl⟩ trivial
  refine ⟨n, _, h1, h2, h3, hpost _ _ _ _ _ _ ⟨Cond.after_iff.mpr rfl, Cond.after_iff.mpr (eq_i res_at (Term.int_eval (1)) rfl), trivial⟩ ⟨hq.1, hq.2.1, (hq.2.2.sift fun y hy => Or.inr (N y hy)).mono (by decide) (by decide)⟩⟩
theorem main_1_1 : Claimed_1_1 := comes_1 fun _ _ _ _ _ _ h hF => ⟨h.1, hF⟩
theorem main_1_2 : Claimed_1_2 := comes_1 fun _ _ _ _ _ _ h hF => ⟨h.2.1, hF⟩
end Jvm.Pilot.@@N@@
namespace Jvm.Pilot.@@N@@
open Jvm Jvm.ClassFile Sem Op Lib Jvm.Free Jvm.Stand Jvm.Pilot.@@N@@.Jvm.D
/-! MADE BY PROGRAM (witnessworld.py) out of the Statement's table words and the real class files: 19 classes; the members and pool entries that the words name. The judged class is class 1, her method 1. -/
namespace start1
open Jvm.ClassFile
def u (s : String) : CpInfo := .utf8 (stringToUtf16 s)
/-- a pool by its gaps: so many unusable entries, then the entry; so many at the end -/
def gap : Nat → List CpInfo → List CpInfo
  | 0, r => r
  | n + 1, r => .unusable :: gap n r
def poolList (es : List (Nat × CpInfo)) (last : Nat) : List CpInfo := es.foldr (fun e r => gap e.1 (e.2 :: r)) (gap last [])
def pool (es : List (Nat × CpInfo)) (last : Nat) : Array CpInfo := ⟨poolList es last⟩
def fileOf (pool : Array CpInfo) (this : Nat) (attrs : Array Attribute := #[]) (ms : Array MethodInfo := #[]) (fl : Nat := 33) (sup : Nat := 0) (ifs : Array Nat := #[]) (fds : Array FieldInfo := #[]) : ClassFile where
  minorVersion := 0
  majorVersion := 65
  constantPool := pool
  accessFlags := fl
  thisClass := this
  superClass := sup
  interfaces := ifs
  fields := fds
  methods := ms
  attributes := attrs
def plain (name : String) (sup : Option ClassId) : Class where
  name := name
  kind := .ordinary
  loader := none
  accessFlags := 33
  super := sup
  interfaces := #[]
  cf := none
  fields := #[]
  methods := #[]
  instanceTypes := #[]
  staticTypes := #[]
  resolved := #[]
  callSites := []
  init := .initialized
  statics := none
  mirror := none

def pool0 : Array CpInfo := pool [(5, u "<init>"), (0, u "()V"), (1, .class_ 10), (1, u "java/lang/Object")] 113

def k0c0 : Code := { maxStack := 0, maxLocals := 1, code := object_method_1_code, exceptionTable := #[], attributes := #[] }
def k0m0 : Method := { name := "<init>", desc := "()V", sig := { parameters := [], returnType := none }, accessFlags := 1, code := some k0c0 }
/-- java/lang/Object -/
def k0 : Class := { plain "java/lang/Object" none with
  accessFlags := 33
  interfaces := #[]
  cf := some (fileOf pool0 8 #[] #[{ accessFlags := 1, nameIndex := 5, descriptorIndex := 6, attributes := #[] }] 33 0 #[] #[])
  fields := #[]
  methods := #[k0m0]
  instanceTypes := #[]
  staticTypes := #[]
  resolved := Array.replicate 124 none
  statics := none }

def pool1 : Array CpInfo := pool [(2, .class_ 4), (1, u "java/lang/Object"), (0, u "<init>"), (0, u "()V"), (0, .class_ 8), (0, u "org/latchwork/cli/Figure$Unit"), (0, .fieldref 7 10), (0, .nameAndType 11 12), (0, u "OPS_PER_S"), (0, u "Lorg/latchwork/cli/Figure$Unit;"), (0, .fieldref 7 14), (0, .nameAndType 15 12), (0, u "ITEMS_PER_S"), (0, .fieldref 7 17), (0, .nameAndType 18 12), (0, u "ROUNDS_PER_S"), (0, .fieldref 7 20), (0, .nameAndType 21 12), (0, u "ENTRIES_PER_S"), (0, .fieldref 7 23), (0, .nameAndType 24 12), (0, u "WRITER_WAIT_MAX_MS"), (0, .integer 2147483647), (0, .long 125000000), (1, .long 250000000), (1, .long 500000000), (1, .long 1000000000), (1, .long 2000000000), (1, .long 4000000000), (1, .long 8000000000), (1, .double 4620693217682128896), (1, .double 4616189618054758400), (1, .double 4611686018427387904), (1, .double 4602678819172646912), (1, .double 4598175219545276416), (1, .double 4593671619917905920), (1, .methodref 53 54), (0, .class_ 55), (0, .nameAndType 56 57), (0, u "org/latchwork/cli/Figure"), (0, u "rate"), (0, u "(Lorg/latchwork/cli/Figure$Unit;JJ)Lorg/latchwork/cli/Figure;"), (0, .methodref 53 59), (0, .nameAndType 60 61), (0, u "unit"), (0, u "()Lorg/latchwork/cli/Figure$Unit;"), (0, .methodref 53 63), (0, .nameAndType 64 65), (0, u "value"), (0, u "()D"), (0, .long 2), (1, .class_ 69), (0, u "org/latchwork/cli/FigureRatePinLaw"), (2, u "law"), (0, u "(IIJJ)Z")] 11

def k1m0 : Method := { name := "<init>", desc := "()V", sig := { parameters := [], returnType := none }, accessFlags := 2, code := none }
def k1c1 : Code := { maxStack := 7, maxLocals := 19, code := code, exceptionTable := #[], attributes := #[] }
def k1m1 : Method := { name := "law", desc := "(IIJJ)Z", sig := { parameters := [.int, .int, .long, .long], returnType := some .boolean }, accessFlags := 9, code := some k1c1 }
/-- org/latchwork/cli/FigureRatePinLaw -/
def k1 : Class := { plain "org/latchwork/cli/FigureRatePinLaw" (some 0) with
  accessFlags := 49
  interfaces := #[]
  cf := some (fileOf pool1 68 #[] #[{ accessFlags := 2, nameIndex := 5, descriptorIndex := 6, attributes := #[] }, { accessFlags := 9, nameIndex := 72, descriptorIndex := 73, attributes := #[] }] 49 2 #[] #[])
  fields := #[]
  methods := #[k1m0, k1m1]
  instanceTypes := #[]
  staticTypes := #[]
  resolved := Array.replicate 85 none
  statics := none }

def pool2 : Array CpInfo := pool [(1, .class_ 2), (0, u "java/lang/constant/Constable"), (0, .class_ 4), (0, u "java/lang/Object")] 6

/-- java/lang/constant/Constable -/
def k2 : Class := { plain "java/lang/constant/Constable" (some 0) with
  accessFlags := 1537
  interfaces := #[]
  cf := some (fileOf pool2 1 #[] #[] 1537 3 #[] #[])
  fields := #[]
  methods := #[]
  instanceTypes := #[]
  staticTypes := #[]
  resolved := Array.replicate 11 none
  statics := none }

def pool3 : Array CpInfo := pool [(1, .class_ 2), (0, u "java/lang/Comparable"), (0, .class_ 4), (0, u "java/lang/Object")] 7

/-- java/lang/Comparable -/
def k3 : Class := { plain "java/lang/Comparable" (some 0) with
  accessFlags := 1537
  interfaces := #[]
  cf := some (fileOf pool3 1 #[] #[] 1537 3 #[] #[])
  fields := #[]
  methods := #[]
  instanceTypes := #[]
  staticTypes := #[]
  resolved := Array.replicate 12 none
  statics := none }

def pool4 : Array CpInfo := pool [(1, .class_ 2), (0, u "java/io/Serializable"), (0, .class_ 4), (0, u "java/lang/Object")] 2

/-- java/io/Serializable -/
def k4 : Class := { plain "java/io/Serializable" (some 0) with
  accessFlags := 1537
  interfaces := #[]
  cf := some (fileOf pool4 1 #[] #[] 1537 3 #[] #[])
  fields := #[]
  methods := #[]
  instanceTypes := #[]
  staticTypes := #[]
  resolved := Array.replicate 7 none
  statics := none }

def pool5 : Array CpInfo := pool [(2, .class_ 4), (1, u "java/lang/Enum"), (0, u "name"), (0, u "Ljava/lang/String;"), (2, u "ordinal"), (0, u "I"), (1, .class_ 14), (1, u "java/lang/Object"), (4, u "hash"), (86, .class_ 108), (1, u "java/lang/Enum$EnumDesc"), (2, .class_ 112), (0, u "java/lang/constant/Constable"), (0, .class_ 114), (0, u "java/lang/Comparable"), (0, .class_ 116), (0, u "java/io/Serializable")] 87

/-- java/lang/Enum -/
def k5 : Class := { plain "java/lang/Enum" (some 0) with
  accessFlags := 1057
  interfaces := #[2, 3, 4]
  cf := some (fileOf pool5 2 #[.nestMembers #[106]] #[] 1057 12 #[111, 113, 115] #[{ accessFlags := 18, nameIndex := 5, descriptorIndex := 6, attributes := #[] }, { accessFlags := 18, nameIndex := 9, descriptorIndex := 10, attributes := #[] }, { accessFlags := 2, nameIndex := 19, descriptorIndex := 10, attributes := #[] }])
  fields := #[{ name := "name", type := (.object "java/lang/String"), accessFlags := 18, slot := 0, constantValue := 0 }, { name := "ordinal", type := .int, accessFlags := 18, slot := 1, constantValue := 0 }, { name := "hash", type := .int, accessFlags := 2, slot := 2, constantValue := 0 }]
  methods := #[]
  instanceTypes := #[(.object "java/lang/String"), .int, .int]
  staticTypes := #[]
  resolved := Array.replicate 204 none
  statics := none }

def pool6 : Array CpInfo := pool [(1, .class_ 2), (0, u "org/latchwork/cli/Figure$Unit"), (2, u "OPS_PER_S"), (0, u "Lorg/latchwork/cli/Figure$Unit;"), (2, u "ITEMS_PER_S"), (2, u "ROUNDS_PER_S"), (2, u "ENTRIES_PER_S"), (2, u "WRITER_WAIT_MAX_MS"), (2, u "$VALUES"), (0, u "[Lorg/latchwork/cli/Figure$Unit;"), (6, .class_ 31), (1, u "java/lang/Enum"), (8, u "higherIsBetter"), (0, u "Z"), (45, .class_ 88), (0, u "org/latchwork/cli/Figure")] 2

/-- org/latchwork/cli/Figure$Unit -/
def k6 : Class := { plain "org/latchwork/cli/Figure$Unit" (some 5) with
  accessFlags := 16432
  interfaces := #[]
  cf := some (fileOf pool6 1 #[.nestHost 87] #[] 16432 29 #[] #[{ accessFlags := 16409, nameIndex := 5, descriptorIndex := 6, attributes := #[] }, { accessFlags := 16409, nameIndex := 9, descriptorIndex := 6, attributes := #[] }, { accessFlags := 16409, nameIndex := 12, descriptorIndex := 6, attributes := #[] }, { accessFlags := 16409, nameIndex := 15, descriptorIndex := 6, attributes := #[] }, { accessFlags := 16409, nameIndex := 18, descriptorIndex := 6, attributes := #[] }, { accessFlags := 18, nameIndex := 40, descriptorIndex := 41, attributes := #[] }, { accessFlags := 4122, nameIndex := 21, descriptorIndex := 22, attributes := #[] }])
  fields := #[{ name := "OPS_PER_S", type := (.object "org/latchwork/cli/Figure$Unit"), accessFlags := 16409, slot := 0, constantValue := 0 }, { name := "ITEMS_PER_S", type := (.object "org/latchwork/cli/Figure$Unit"), accessFlags := 16409, slot := 1, constantValue := 0 }, { name := "ROUNDS_PER_S", type := (.object "org/latchwork/cli/Figure$Unit"), accessFlags := 16409, slot := 2, constantValue := 0 }, { name := "ENTRIES_PER_S", type := (.object "org/latchwork/cli/Figure$Unit"), accessFlags := 16409, slot := 3, constantValue := 0 }, { name := "WRITER_WAIT_MAX_MS", type := (.object "org/latchwork/cli/Figure$Unit"), accessFlags := 16409, slot := 4, constantValue := 0 }, { name := "higherIsBetter", type := .boolean, accessFlags := 18, slot := 3, constantValue := 0 }, { name := "$VALUES", type := (.array (.object "org/latchwork/cli/Figure$Unit")), accessFlags := 4122, slot := 5, constantValue := 0 }]
  methods := #[]
  instanceTypes := #[(.object "java/lang/String"), .int, .int, .boolean]
  staticTypes := #[(.object "org/latchwork/cli/Figure$Unit"), (.object "org/latchwork/cli/Figure$Unit"), (.object "org/latchwork/cli/Figure$Unit"), (.object "org/latchwork/cli/Figure$Unit"), (.object "org/latchwork/cli/Figure$Unit"), (.array (.object "org/latchwork/cli/Figure$Unit"))]
  resolved := Array.replicate 91 none
  statics := some 0 }

def pool7 : Array CpInfo := pool [(1, .methodref 2 3), (0, .class_ 4), (0, .nameAndType 5 6), (0, u "java/lang/Object"), (0, u "<init>"), (0, u "()V"), (0, .class_ 8), (0, u "java/lang/Record")] 13

def k7c0 : Code := { maxStack := 1, maxLocals := 1, code := jdk_30_method_1_code, exceptionTable := #[], attributes := #[] }
def k7m0 : Method := { name := "<init>", desc := "()V", sig := { parameters := [], returnType := none }, accessFlags := 4, code := some k7c0 }
/-- java/lang/Record -/
def k7 : Class := { plain "java/lang/Record" (some 0) with
  accessFlags := 1057
  interfaces := #[]
  cf := some (fileOf pool7 7 #[] #[{ accessFlags := 4, nameIndex := 5, descriptorIndex := 6, attributes := #[] }] 1057 2 #[] #[])
  fields := #[]
  methods := #[k7m0]
  instanceTypes := #[]
  staticTypes := #[]
  resolved := Array.replicate 22 none
  statics := none }

def pool8 : Array CpInfo := pool [(1, .methodref 2 3), (0, .class_ 4), (0, .nameAndType 5 6), (0, u "java/lang/Record"), (0, u "<init>"), (0, u "()V"), (0, .fieldref 8 9), (0, .class_ 10), (0, .nameAndType 11 12), (0, u "org/latchwork/cli/Figure"), (0, u "unit"), (0, u "Lorg/latchwork/cli/Figure$Unit;"), (0, .fieldref 8 14), (0, .nameAndType 15 16), (0, u "value"), (0, u "D"), (0, .double 4741671816366391296), (1, .methodref 8 20), (0, .nameAndType 5 21), (0, u "(Lorg/latchwork/cli/Figure$Unit;D)V"), (15, u "rate"), (0, u "(Lorg/latchwork/cli/Figure$Unit;JJ)Lorg/latchwork/cli/Figure;"), (3, u "()Lorg/latchwork/cli/Figure$Unit;"), (0, u "()D"), (3, .class_ 48), (0, u "org/latchwork/cli/Figure$Unit")] 20

def k8c0 : Code := { maxStack := 3, maxLocals := 4, code := prog_42_method_1_code, exceptionTable := #[], attributes := #[] }
def k8m0 : Method := { name := "<init>", desc := "(Lorg/latchwork/cli/Figure$Unit;D)V", sig := { parameters := [(.object "org/latchwork/cli/Figure$Unit"), .double], returnType := none }, accessFlags := 0, code := some k8c0 }
def k8c1 : Code := { maxStack := 9, maxLocals := 5, code := prog_42_method_2_code, exceptionTable := #[], attributes := #[] }
def k8m1 : Method := { name := "rate", desc := "(Lorg/latchwork/cli/Figure$Unit;JJ)Lorg/latchwork/cli/Figure;", sig := { parameters := [(.object "org/latchwork/cli/Figure$Unit"), .long, .long], returnType := some (.object "org/latchwork/cli/Figure") }, accessFlags := 8, code := some k8c1 }
def k8c2 : Code := { maxStack := 1, maxLocals := 1, code := prog_42_method_6_code, exceptionTable := #[], attributes := #[] }
def k8m2 : Method := { name := "unit", desc := "()Lorg/latchwork/cli/Figure$Unit;", sig := { parameters := [], returnType := some (.object "org/latchwork/cli/Figure$Unit") }, accessFlags := 1, code := some k8c2 }
def k8c3 : Code := { maxStack := 2, maxLocals := 1, code := prog_42_method_7_code, exceptionTable := #[], attributes := #[] }
def k8m3 : Method := { name := "value", desc := "()D", sig := { parameters := [], returnType := some .double }, accessFlags := 1, code := some k8c3 }
/-- org/latchwork/cli/Figure -/
def k8 : Class := { plain "org/latchwork/cli/Figure" (some 7) with
  accessFlags := 48
  interfaces := #[]
  cf := some (fileOf pool8 8 #[.nestMembers #[47]] #[{ accessFlags := 0, nameIndex := 5, descriptorIndex := 21, attributes := #[] }, { accessFlags := 8, nameIndex := 37, descriptorIndex := 38, attributes := #[] }, { accessFlags := 1, nameIndex := 11, descriptorIndex := 42, attributes := #[] }, { accessFlags := 1, nameIndex := 15, descriptorIndex := 43, attributes := #[] }] 48 2 #[] #[{ accessFlags := 18, nameIndex := 11, descriptorIndex := 12, attributes := #[] }, { accessFlags := 18, nameIndex := 15, descriptorIndex := 16, attributes := #[] }])
  fields := #[{ name := "unit", type := (.object "org/latchwork/cli/Figure$Unit"), accessFlags := 18, slot := 0, constantValue := 0 }, { name := "value", type := .double, accessFlags := 18, slot := 1, constantValue := 0 }]
  methods := #[k8m0, k8m1, k8m2, k8m3]
  instanceTypes := #[(.object "org/latchwork/cli/Figure$Unit"), .double]
  staticTypes := #[]
  resolved := Array.replicate 69 none
  statics := none }

def pool9 : Array CpInfo := pool [(1, u "java/lang/Cloneable"), (0, .class_ 1), (0, u "java/lang/Object"), (0, .class_ 3)] 3

/-- java/lang/Cloneable -/
def k9 : Class := { plain "java/lang/Cloneable" (some 0) with
  accessFlags := 1537
  interfaces := #[]
  cf := some (fileOf pool9 2 #[] #[] 1537 4 #[] #[])
  fields := #[]
  methods := #[]
  instanceTypes := #[]
  staticTypes := #[]
  resolved := Array.replicate 8 none
  statics := none }

/-- the primitive byte -/
def k10 : Class := { plain "byte" none with kind := .primitive 'B', accessFlags := 0x411 }
/-- [B -/
def k11 : Class := { plain "[B" (some 0) with kind := .array 10 .byte, interfaces := #[9, 4], accessFlags := 1041 }

/-- the primitive double -/
def k12 : Class := { plain "double" none with kind := .primitive 'D', accessFlags := 0x411 }
/-- [D -/
def k13 : Class := { plain "[D" (some 0) with kind := .array 12 .double, interfaces := #[9, 4], accessFlags := 1041 }

/-- the primitive int -/
def k14 : Class := { plain "int" none with kind := .primitive 'I', accessFlags := 0x411 }
/-- [I -/
def k15 : Class := { plain "[I" (some 0) with kind := .array 14 .int, interfaces := #[9, 4], accessFlags := 1041 }

/-- the primitive long -/
def k16 : Class := { plain "long" none with kind := .primitive 'J', accessFlags := 0x411 }
/-- [J -/
def k17 : Class := { plain "[J" (some 0) with kind := .array 16 .long, interfaces := #[9, 4], accessFlags := 1041 }

/-- [Lorg/latchwork/cli/Figure$Unit; -/
def k18 : Class := { plain "[Lorg/latchwork/cli/Figure$Unit;" (some 0) with kind := .array 6 (.object "org/latchwork/cli/Figure$Unit"), interfaces := #[9, 4], accessFlags := 1041 }

def heap : Heap := #[{ cls := 6, slots := #[.ref 1, .ref 2, .ref 3, .ref 4, .ref 5, .null], vm := .statics 6 },
  { cls := 6, slots := #[.null, .int 0, .int 0, .int 0], vm := .none },
  { cls := 6, slots := #[.null, .int 1, .int 0, .int 0], vm := .none },
  { cls := 6, slots := #[.null, .int 2, .int 0, .int 0], vm := .none },
  { cls := 6, slots := #[.null, .int 3, .int 0, .int 0], vm := .none },
  { cls := 6, slots := #[.null, .int 4, .int 0, .int 0], vm := .none }]
def classes : Array Class := #[k0, k1, k2, k3, k4, k5, k6, k7, k8, k9, k10, k11, k12, k13, k14, k15, k16, k17, k18]
def interned : List (Array UInt16 × Addr) := []
def slotsUsed : Nat := 26
def theMethod : MethodId := ⟨1, 1⟩
def args0 : Array Value := #[.int 7, .int 5, .long 3, .long 4]
def aboutOver (below : List Frame) : State where
  vm := { classes := classes, interned := interned.toArray }
  heap := heap
  slotsUsed := slotsUsed
  threads := #[{ frames := .invoking theMethod args0 :: below }]
def below0 : List Frame := [.native { method := ⟨0, 0⟩, args := #[] }]
def about1 : State := aboutOver below0
def p0 : Program := .bare "" "" ""
def e0 : Env := launch0.env 0 0 0
theorem w_frames : about1.frames = Frame.invoking theMethod args0 :: below0 := rfl
set_option maxRecDepth 65536 in
theorem w_args : argsFit about1.vm theMethod args0 = true := by decide +kernel
set_option maxRecDepth 65536 in
theorem w_heap : heapFits about1 = true := by decide +kernel
set_option maxRecDepth 65536 in
theorem w_runnable : about1.curStatus? = some .runnable := by decide +kernel
set_option maxRecDepth 65536 in
theorem w_alone : about1.alone = true := by decide +kernel
set_option maxRecDepth 65536 in
theorem w_named : about1.methodNamed? x = some theMethod := by decide +kernel
set_option maxRecDepth 65536 in
theorem w_hears : about1.hears theMethod below0 = true := by decide +kernel
set_option maxRecDepth 65536 in
theorem w_ripe : about1.ripe theMethod args0 below0 = true := by decide +kernel
theorem w_running : about1.status = .running := rfl
set_option maxRecDepth 65536 in
theorem w_room : about1.hasRoom e0.platform room_1 = true :=
  launch0.hasRoom_least _ room_1 (by decide +kernel) (by decide +kernel) (by decide +kernel) (by decide +kernel) (by decide +kernel) (by decide +kernel)
theorem allAtoms_all (ts : List Jvm.Cond) (a : Array Jvm.Value) (st : Jvm.State) : (allAtoms ts).before a st = ts.all (fun c => c.before a st) := by
  induction ts with
  | nil => rfl
  | cons c t ih =>
    show (Jvm.Cond.and c (allAtoms t)).before a st = _
    rw [Jvm.Cond.before_and, ih, List.all_cons]
def words1 : List Jvm.Cond := Jvm.Cond.code x code maxLocals ret :: tables_1
/-- a 'code' word, met by the world's own term for the bytes: nothing is compared byte by byte -/
theorem code_word {y : MethodName} {bytes : ByteArray} {mx : Nat} {rt : Option FieldType} {a : Array Value} {s : State} {m : MethodId} {meth : Method} {c : Code} (h1 : s.methodNamed? y = some m) (h2 : s.vm.method? m = some meth) (h3 : meth.code = some c) (h4 : c.code = bytes)
    (h5 : (c.maxLocals == mx && c.exceptionTable.isEmpty && decide (c.maxStack ≤ mostOperands) && decide (meth.sig.returnType = rt) && !meth.locks && decide (parseMethodDescriptor y.desc = some meth.sig)) = true) : (Jvm.Cond.code y bytes mx rt).before a s = true := by
  simp only [Bool.and_eq_true, beq_iff_eq, Bool.not_eq_true', decide_eq_true_eq] at h5
  obtain ⟨⟨⟨⟨⟨g1, g2⟩, g3⟩, g4⟩, g5⟩, g6⟩ := h5
  simp [Cond.before, Cond.holds, Cond.value, h1, h2, h3, h4, g1, g2, g3, g4, g5, g6]
def isCode : Jvm.Cond → Bool
  | .code _ _ _ _ => true
  | _ => false
theorem all_split {L : List Jvm.Cond} {P : Jvm.Cond → Bool} (h1 : L.all (fun c => isCode c || P c) = true) (h2 : ∀ c ∈ L.filter isCode, P c = true) : L.all P = true := by
  refine List.all_eq_true.mpr fun c hc => ?_
  have h := List.all_eq_true.mp h1 c hc
  rcases Bool.eq_false_or_eq_true (isCode c) with hi | hi
  · exact h2 c (List.mem_filter.mpr ⟨hc, hi⟩)
  · simpa [hi] using h
set_option maxRecDepth 65536 in
theorem w_c0 : (Jvm.Cond.code x code maxLocals ret).before args0 about1 = true := code_word (m := ⟨1, 1⟩) (meth := k1m1) (c := k1c1) (by decide +kernel) rfl rfl rfl (by decide +kernel)
set_option maxRecDepth 65536 in
theorem w_c1 : (Jvm.Cond.code ({ cls := "org/latchwork/cli/Figure", name := "rate", desc := "(Lorg/latchwork/cli/Figure$Unit;JJ)Lorg/latchwork/cli/Figure;" } : Jvm.MethodName) prog_42_method_2_code (5 : Nat) (Option.some (Jvm.ClassFile.FieldType.object "org/latchwork/cli/Figure"))).before args0 about1 = true := code_word (m := ⟨8, 1⟩) (meth := k8m1) (c := k8c1) (by decide +kernel) rfl rfl rfl (by decide +kernel)
set_option maxRecDepth 65536 in
theorem w_c2 : (Jvm.Cond.code ({ cls := "org/latchwork/cli/Figure", name := "<init>", desc := "(Lorg/latchwork/cli/Figure$Unit;D)V" } : Jvm.MethodName) prog_42_method_1_code (4 : Nat) (Option.none : Option Jvm.ClassFile.FieldType)).before args0 about1 = true := code_word (m := ⟨8, 0⟩) (meth := k8m0) (c := k8c0) (by decide +kernel) rfl rfl rfl (by decide +kernel)
set_option maxRecDepth 65536 in
theorem w_c3 : (Jvm.Cond.code ({ cls := "java/lang/Record", name := "<init>", desc := "()V" } : Jvm.MethodName) jdk_30_method_1_code (1 : Nat) (Option.none : Option Jvm.ClassFile.FieldType)).before args0 about1 = true := code_word (m := ⟨7, 0⟩) (meth := k7m0) (c := k7c0) (by decide +kernel) rfl rfl rfl (by decide +kernel)
set_option maxRecDepth 65536 in
theorem w_c4 : (Jvm.Cond.code ({ cls := "java/lang/Object", name := "<init>", desc := "()V" } : Jvm.MethodName) object_method_1_code (1 : Nat) (Option.none : Option Jvm.ClassFile.FieldType)).before args0 about1 = true := code_word (m := ⟨0, 0⟩) (meth := k0m0) (c := k0c0) (by decide +kernel) rfl rfl rfl (by decide +kernel)
set_option maxRecDepth 65536 in
theorem w_c5 : (Jvm.Cond.code ({ cls := "org/latchwork/cli/Figure", name := "unit", desc := "()Lorg/latchwork/cli/Figure$Unit;" } : Jvm.MethodName) prog_42_method_6_code (1 : Nat) (Option.some (Jvm.ClassFile.FieldType.object "org/latchwork/cli/Figure$Unit"))).before args0 about1 = true := code_word (m := ⟨8, 2⟩) (meth := k8m2) (c := k8c2) (by decide +kernel) rfl rfl rfl (by decide +kernel)
set_option maxRecDepth 65536 in
theorem w_c6 : (Jvm.Cond.code ({ cls := "org/latchwork/cli/Figure", name := "value", desc := "()D" } : Jvm.MethodName) prog_42_method_7_code (1 : Nat) (Option.some Jvm.ClassFile.FieldType.double)).before args0 about1 = true := code_word (m := ⟨8, 3⟩) (meth := k8m3) (c := k8c3) (by decide +kernel) rfl rfl rfl (by decide +kernel)
def codes1 : List Jvm.Cond := [Jvm.Cond.code x code maxLocals ret, Jvm.Cond.code ({ cls := "org/latchwork/cli/Figure", name := "rate", desc := "(Lorg/latchwork/cli/Figure$Unit;JJ)Lorg/latchwork/cli/Figure;" } : Jvm.MethodName) prog_42_method_2_code (5 : Nat) (Option.some (Jvm.ClassFile.FieldType.object "org/latchwork/cli/Figure")), Jvm.Cond.code ({ cls := "org/latchwork/cli/Figure", name := "<init>", desc := "(Lorg/latchwork/cli/Figure$Unit;D)V" } : Jvm.MethodName) prog_42_method_1_code (4 : Nat) (Option.none : Option Jvm.ClassFile.FieldType), Jvm.Cond.code ({ cls := "java/lang/Record", name := "<init>", desc := "()V" } : Jvm.MethodName) jdk_30_method_1_code (1 : Nat) (Option.none : Option Jvm.ClassFile.FieldType), Jvm.Cond.code ({ cls := "java/lang/Object", name := "<init>", desc := "()V" } : Jvm.MethodName) object_method_1_code (1 : Nat) (Option.none : Option Jvm.ClassFile.FieldType), Jvm.Cond.code ({ cls := "org/latchwork/cli/Figure", name := "unit", desc := "()Lorg/latchwork/cli/Figure$Unit;" } : Jvm.MethodName) prog_42_method_6_code (1 : Nat) (Option.some (Jvm.ClassFile.FieldType.object "org/latchwork/cli/Figure$Unit")), Jvm.Cond.code ({ cls := "org/latchwork/cli/Figure", name := "value", desc := "()D" } : Jvm.MethodName) prog_42_method_7_code (1 : Nat) (Option.some Jvm.ClassFile.FieldType.double)]
set_option maxRecDepth 65536 in
theorem codes_eq : words1.filter isCode = codes1 := rfl
theorem w_codes : ∀ c ∈ words1.filter isCode, c.before args0 about1 = true := by
  rw [codes_eq]
  intro c hc
  simp only [codes1, List.mem_cons, List.not_mem_nil, or_false] at hc
  rcases hc with rfl | rfl | rfl | rfl | rfl | rfl | rfl
  · exact w_c0
  · exact w_c1
  · exact w_c2
  · exact w_c3
  · exact w_c4
  · exact w_c5
  · exact w_c6
set_option maxRecDepth 65536 in
theorem w_t1 : (words1.take 24).all (fun c => isCode c || c.before args0 about1) = true := by decide +kernel
set_option maxRecDepth 65536 in
theorem w_t2 : ((words1.drop 24).take 24).all (fun c => isCode c || c.before args0 about1) = true := by decide +kernel
set_option maxRecDepth 65536 in
theorem w_t3 : ((words1.drop 24).drop 24).all (fun c => isCode c || c.before args0 about1) = true := by decide +kernel
theorem w_tables : (allAtoms (Jvm.Cond.code x code maxLocals ret :: tables_1)).before args0 about1 = true := by
  rw [allAtoms_all]
  show words1.all (fun c => c.before args0 about1) = true
  refine all_split ?_ w_codes
  rw [← List.take_append_drop 24 words1, List.all_append, w_t1, ← List.take_append_drop 24 (words1.drop 24), List.all_append, w_t2, w_t3]
  rfl
set_option maxRecDepth 65536 in
theorem w_case : (Jvm.Cond.and given_1 narrow_1).before args0 about1 = true := by decide +kernel
theorem w_applies : (headSpec (Jvm.Cond.code x code maxLocals ret :: tables_1) room_1).applies x e0.platform about1 = true :=
  (Spec.applies_iff w_frames).mpr ⟨w_running, w_runnable, w_alone, w_named, w_hears, w_ripe, w_room, w_tables⟩
theorem atStart : AtStart classFile x code maxLocals ret World_1 tables_1 room_1 Calls_1 rest_1 Pre_1 launch0 p0 e0 about1 theMethod args0 below0 :=
  ⟨lists_1, trivial, launch0.admits_env _ _ _, launch0.least_env, fairChoices_fair.cas, fairChoices_fair.clock, w_frames, w_args, w_heap, w_applies, trivial, trivial, w_case⟩
end start1
theorem witness_1 : WitnessClaimed_1 := ⟨start1.p0, start1.e0, start1.about1, start1.theMethod, start1.args0, start1.below0, start1.atStart⟩
end Jvm.Pilot.@@N@@
