import JvmDerived
import JvmDerived.Pilot.@@N@@Statement
import JvmDerived.Pilot.@@N@@Code
set_option linter.unusedVariables false
set_option linter.unusedSimpArgs false
namespace Jvm.OwnFP
open Jvm.FP.Core
/-! own layer over the library's laws of doubles: values in units of the least double (zval), dyadic values, rounding bounds -/
abbrev zv (a : UInt64) : Int := zval b64 (val64 a)
theorem U_pos : (0 : Int) < (one64 : Int) := by have := one64_pos; omega
theorem signed_bd (s : Bool) (m : Nat) : -(m : Int) ≤ signed s m ∧ signed s m ≤ (m : Int) := by unfold signed; split <;> omega
theorem zv_bd (a : UInt64) : -(zmag b64 (val64 a) : Int) ≤ zv a ∧ zv a ≤ (zmag b64 (val64 a) : Int) := signed_bd _ _
theorem fin_between {a V W : UInt64} (hV : DFin V) (hW : DFin W) (hn : val64 a ≠ .nan) (h1 : zv W ≤ zv a) (h2 : zv a ≤ zv V) : DFin a := by
  cases hd : val64 a with
  | nan => exact absurd hd hn
  | fin s c q => exact ⟨s, c, q, hd⟩
  | inf s =>
    exfalso
    have a1 := hV.zval_lt; have a2 := hW.zval_lt
    have b1 := zv_bd V; have b2 := zv_bd W
    have e : zv a = signed s (b64.tails * 2 ^ (b64.exps - 2)) := by show zval b64 (val64 a) = _; rw [hd]; rfl
    generalize b64.tails * 2 ^ (b64.exps - 2) = TOP at a1 a2 e
    cases s
    · have : zv a = (TOP : Int) := e
      omega
    · have : zv a = -(TOP : Int) := e
      omega
theorem qmax_b64 : b64.qmax = 971 := by decide
theorem rep_exists (n : Int) (k : Nat) (hk : k ≤ 1074) (hn : n.natAbs < 2 ^ 53) : ∃ V, DFin V ∧ zv V * 2 ^ k = n * (one64 : Int) := by
  obtain ⟨c', q', h1, h2⟩ := round_exact (f := b64) good_b64 (decide (n < 0)) (c := n.natAbs) (q := -(k : Int)) hn (by rw [qmin_b64]; omega) (by rw [qmax_b64]; omega)
  have hf := round_fits good_b64 (.fin (decide (n < 0)) n.natAbs (-(k : Int)))
  have hv := val64_of64 hf
  rw [h1] at hv
  refine ⟨of64 (round b64 (.fin (decide (n < 0)) n.natAbs (-(k : Int)))), ⟨_, _, _, by rw [h1]; exact hv⟩, ?_⟩
  show zval b64 (val64 (of64 (round b64 (.fin (decide (n < 0)) n.natAbs (-(k : Int)))))) * 2 ^ k = _
  rw [h1, hv]
  show signed (decide (n < 0)) (inUnits c' q' b64.qmin) * 2 ^ k = _
  rw [h2]
  have e1 : inUnits n.natAbs (-(k : Int)) b64.qmin * 2 ^ k = n.natAbs * one64 := by
    unfold inUnits one64
    rw [qmin_b64, Nat.mul_assoc, ← Nat.pow_add]
    congr 2 <;> omega
  have e2 : signed (decide (n < 0)) (inUnits n.natAbs (-(k : Int)) b64.qmin) * ((2 ^ k : Nat) : Int) = signed (decide (n < 0)) n.natAbs * (one64 : Int) := by
    rw [← signed_mul, e1, signed_mul]
  have e3 : signed (decide (n < 0)) n.natAbs = n := by
    unfold signed
    by_cases h : n < 0
    · simp [h]; omega
    · simp [h]; omega
  rw [e3] at e2
  rw [← e2, Int.natCast_pow]; rfl
theorem rep_up (n : Int) (j : Nat) (hj : j ≤ 971) (hn : n.natAbs < 2 ^ 53) : ∃ V, DFin V ∧ zv V = n * 2 ^ j * (one64 : Int) := by
  obtain ⟨c', q', h1, h2⟩ := round_exact (f := b64) good_b64 (decide (n < 0)) (c := n.natAbs) (q := (j : Int)) hn (by rw [qmin_b64]; omega) (by rw [qmax_b64]; omega)
  have hf := round_fits good_b64 (.fin (decide (n < 0)) n.natAbs (j : Int))
  have hv := val64_of64 hf
  rw [h1] at hv
  refine ⟨of64 (round b64 (.fin (decide (n < 0)) n.natAbs (j : Int))), ⟨_, _, _, by rw [h1]; exact hv⟩, ?_⟩
  show zval b64 (val64 (of64 (round b64 (.fin (decide (n < 0)) n.natAbs (j : Int))))) = _
  rw [h1, hv]
  show signed (decide (n < 0)) (inUnits c' q' b64.qmin) = _
  rw [h2]
  have e1 : inUnits n.natAbs (j : Int) b64.qmin = n.natAbs * (2 ^ j * one64) := by
    unfold inUnits one64
    rw [qmin_b64, ← Nat.pow_add]
    congr 2 <;> omega
  have e3 : signed (decide (n < 0)) n.natAbs = n := by
    unfold signed
    by_cases h : n < 0
    · simp [h]; omega
    · simp [h]; omega
  rw [e1, signed_mul, e3, Int.natCast_mul, Int.natCast_pow, Int.mul_assoc]; rfl
/-- the double is finite and worth n / 2^k -/
def Dy (n : Int) (k : Nat) (a : UInt64) : Prop := DFin a ∧ zv a * 2 ^ k = n * (one64 : Int)
theorem two_pos (k : Nat) : (0 : Int) < 2 ^ k := Int.pow_pos (by decide)
theorem Dy.fin {n : Int} {k : Nat} {a : UInt64} (h : Dy n k a) : DFin a := h.1
theorem Dy.nn {n : Int} {k : Nat} {a : UInt64} (h : Dy n k a) : val64 a ≠ .nan := h.1.ne_nan
theorem dint_fin {i : Int} {a : UInt64} (h : DInt i a) : DFin a := by
  unfold DInt at h
  cases hd : val64 a with
  | nan => rw [hd] at h; exact h.elim
  | inf s => rw [hd] at h; exact h.elim
  | fin s c q => exact ⟨s, c, q, hd⟩
theorem Dy.of_int {i : Int} {a : UInt64} (h : DInt i a) : Dy i 0 a := ⟨dint_fin h, by rw [show zv a = i * (one64 : Int) from DInt_zval h]; simp⟩
theorem dy_i2d (a : Int32) : Dy a.toInt 0 (i2d a) := Dy.of_int (i2d_int a)
theorem dy_l2d {a : Int64} (h : a.toInt.natAbs ≤ 2 ^ 53) : Dy a.toInt 0 (l2d a) := Dy.of_int (l2d_int h)
theorem dy_zero : Dy 0 0 0 := ⟨⟨_, _, _, val64_zero⟩, by rw [show zv 0 = 0 from zval64_zero]; simp⟩
theorem dy_one : Dy 1 0 4607182418800017408 := Dy.of_int dint_one
theorem Dy.up {n : Int} {k : Nat} {a : UInt64} (h : Dy n k a) (j : Nat) : Dy (n * 2 ^ j) (k + j) a := ⟨h.1, by rw [Int.pow_add, ← Int.mul_assoc, h.2]; (generalize one64 = U; ac_rfl)⟩
theorem cancel {x y : Int} {k : Nat} (h : x * 2 ^ k = y * 2 ^ k) : x = y := Int.eq_of_mul_eq_mul_right (Int.ne_of_gt (two_pos k)) h
theorem Dy.eq {n : Int} {k : Nat} {a b : UInt64} (ha : Dy n k a) (hb : Dy n k b) : zv a = zv b := cancel (ha.2.trans hb.2.symm)
theorem val_dneg (a : UInt64) (h : val64 a ≠ .nan) : val64 (Jvm.FP.dneg a) = negate (val64 a) := by
  refine val64_neg_bits ?_
  have hx : (Jvm.FP.dneg a).toNat = a.toNat ^^^ 2 ^ 63 := by
    show (a ^^^ 0x8000000000000000).toNat = _
    rw [UInt64.toNat_xor]; rfl
  have hlt := a.toNat_lt
  by_cases hb : a.toNat < 2 ^ 63
  · right
    rw [hx, Nat.xor_comm]
    have := Nat.two_pow_add_eq_or_of_lt hb 1
    have e2 : (2 ^ 63 ^^^ a.toNat) = 2 ^ 63 + a.toNat := by
      rw [Nat.mul_one] at this
      rw [this]
      apply Nat.eq_of_testBit_eq; intro i
      simp only [Nat.testBit_xor, Nat.testBit_or, Nat.testBit_two_pow]
      by_cases q : 63 = i
      · subst q; simp [Nat.testBit_lt_two_pow hb]
      · simp [q]
    omega
  · left
    have hb' : a.toNat - 2 ^ 63 < 2 ^ 63 := by omega
    have := Nat.two_pow_add_eq_or_of_lt hb' 1
    rw [Nat.mul_one] at this
    have e0 : a.toNat = 2 ^ 63 ||| (a.toNat - 2 ^ 63) := by omega
    have e2 : a.toNat ^^^ 2 ^ 63 = a.toNat - 2 ^ 63 := by
      apply Nat.eq_of_testBit_eq; intro i
      rw [Nat.testBit_xor, Nat.testBit_two_pow]
      have t := congrArg (fun z => z.testBit i) e0
      simp only [Nat.testBit_or, Nat.testBit_two_pow] at t
      rw [t]
      by_cases q : 63 = i
      · subst q; simp [Nat.testBit_lt_two_pow hb']
      · simp [q]
    omega
theorem dneg_fin {a : UInt64} (h : DFin a) : DFin (Jvm.FP.dneg a) := by
  obtain ⟨s, c, q, e⟩ := h
  exact ⟨!s, c, q, by rw [val_dneg a (by rw [e]; exact nofun), e]; rfl⟩
theorem dneg_zv {a : UInt64} (h : val64 a ≠ .nan) : zv (Jvm.FP.dneg a) = -zv a := by
  show zval b64 (val64 (Jvm.FP.dneg a)) = _
  rw [val_dneg a h, zval_negate]
theorem dy_neg {n : Int} {k : Nat} {a : UInt64} (h : Dy n k a) : Dy (-n) k (Jvm.FP.dneg a) := ⟨dneg_fin h.1, by rw [dneg_zv h.nn, Int.neg_mul, h.2, Int.neg_mul]⟩
theorem cneg_fin {a : UInt64} (h : DFin a) : DFin (dneg a) := by
  obtain ⟨s, c, q, e⟩ := h
  exact ⟨!s, c, q, by rw [val64_dneg, e]; rfl⟩
theorem cneg_zv (a : UInt64) : zv (dneg a) = -zv a := by
  show zval b64 (val64 (dneg a)) = _
  rw [val64_dneg, zval_negate]
-- sums
theorem add_nn {a b : UInt64} (ha : DFin a) (hb : DFin b) : val64 (dadd a b) ≠ .nan := (notNaN_iff _).mp (dadd_out ha.notNaN hb)
theorem add_le {a b V : UInt64} (ha : DFin a) (hb : DFin b) (hV : val64 V ≠ .nan) (h : zv a + zv b ≤ zv V) : zv (dadd a b) ≤ zv V := by
  show zval b64 (val64 (dadd a b)) ≤ _
  rw [val64_dadd]
  exact sum_le good_b64 ha hb (val64_fits a) (val64_fits b) (val64_fits V) hV h
theorem add_ge {a b V : UInt64} (ha : DFin a) (hb : DFin b) (hV : val64 V ≠ .nan) (h : zv V ≤ zv a + zv b) : zv V ≤ zv (dadd a b) := by
  show _ ≤ zval b64 (val64 (dadd a b))
  rw [val64_dadd]
  exact sum_ge good_b64 ha hb (val64_fits a) (val64_fits b) (val64_fits V) hV h
theorem add_exact {a b V : UInt64} (ha : DFin a) (hb : DFin b) (hV : DFin V) (h : zv a + zv b = zv V) : DFin (dadd a b) ∧ zv (dadd a b) = zv V := by
  have h1 := add_le ha hb hV.ne_nan (Int.le_of_eq h)
  have h2 := add_ge ha hb hV.ne_nan (Int.le_of_eq h.symm)
  exact ⟨fin_between hV hV (add_nn ha hb) h2 h1, Int.le_antisymm h1 h2⟩
theorem dy_add {n m : Int} {k : Nat} {a b : UInt64} (ha : Dy n k a) (hb : Dy m k b) (hk : k ≤ 1074) (h : (n + m).natAbs < 2 ^ 53) : Dy (n + m) k (dadd a b) := by
  obtain ⟨V, hV, e⟩ := rep_exists (n + m) k hk h
  have q : zv a + zv b = zv V := cancel (k := k) (by rw [Int.add_mul, ha.2, hb.2, e, Int.add_mul])
  obtain ⟨h1, h2⟩ := add_exact ha.1 hb.1 hV q
  exact ⟨h1, by rw [h2]; exact e⟩
theorem dy_sub {n m : Int} {k : Nat} {a b : UInt64} (ha : Dy n k a) (hb : Dy m k b) (hk : k ≤ 1074) (h : (n - m).natAbs < 2 ^ 53) : Dy (n - m) k (dsub a b) := by
  rw [dsub_eq]
  have hb' : Dy (-m) k (dneg b) := ⟨cneg_fin hb.1, by rw [cneg_zv, Int.neg_mul, hb.2, Int.neg_mul]⟩
  have := dy_add ha hb' hk (by rw [← Int.sub_eq_add_neg]; exact h)
  rw [← Int.sub_eq_add_neg] at this; exact this
-- products
theorem mul_nn {a b : UInt64} (ha : DFin a) (hb : DFin b) : val64 (dmul a b) ≠ .nan := (notNaN_iff _).mp (dmul_out ha hb)
theorem mul_units {a b : UInt64} (ha : DFin a) (hb : DFin b) : ∃ s c q, exactProduct (val64 a) (val64 b) = .fin s c q ∧ 2 * b64.qmin ≤ q ∧ signed s (inUnits c q (2 * b64.qmin)) = zv a * zv b := by
  obtain ⟨s, c, q, ea⟩ := ha
  obtain ⟨t, d, r, eb⟩ := hb
  have fa := val64_fits a; have fb := val64_fits b
  rw [ea] at fa; rw [eb] at fb
  obtain ⟨h1, h2, h3⟩ := product_units fa fb
  refine ⟨_, _, _, by rw [ea, eb]; exact h1, h2, ?_⟩
  rw [h3, signed_xor]
  show _ = zval b64 (val64 a) * zval b64 (val64 b)
  rw [ea, eb]; rfl
theorem two_qmin : (b64.qmin - 2 * b64.qmin).toNat = (-b64.qmin).toNat := by congr 1 <;> omega
theorem mul_le {a b V : UInt64} (ha : DFin a) (hb : DFin b) (hV : val64 V ≠ .nan) (h : zv a * zv b ≤ zv V * (one64 : Int)) : zv (dmul a b) ≤ zv V := by
  obtain ⟨s, c, q, e1, e2, e3⟩ := mul_units ha hb
  show zval b64 (val64 (dmul a b)) ≤ zval b64 (val64 V)
  rw [val64_dmul, e1]
  refine zval_round_le good_b64 (val64_fits V) hV (e0 := 2 * b64.qmin) (by rw [qmin_b64]; decide) e2 ?_
  rw [e3, two_qmin, pow_qmin64]; exact h
theorem mul_ge {a b V : UInt64} (ha : DFin a) (hb : DFin b) (hV : val64 V ≠ .nan) (h : zv V * (one64 : Int) ≤ zv a * zv b) : zv V ≤ zv (dmul a b) := by
  obtain ⟨s, c, q, e1, e2, e3⟩ := mul_units ha hb
  show zval b64 (val64 V) ≤ zval b64 (val64 (dmul a b))
  rw [val64_dmul, e1]
  refine zval_round_ge good_b64 (val64_fits V) hV (e0 := 2 * b64.qmin) (by rw [qmin_b64]; decide) e2 ?_
  rw [e3, two_qmin, pow_qmin64]; exact h
theorem mul_exact {a b V : UInt64} (ha : DFin a) (hb : DFin b) (hV : DFin V) (h : zv a * zv b = zv V * (one64 : Int)) : DFin (dmul a b) ∧ zv (dmul a b) = zv V := by
  have h1 := mul_le ha hb hV.ne_nan (Int.le_of_eq h)
  have h2 := mul_ge ha hb hV.ne_nan (Int.le_of_eq h.symm)
  exact ⟨fin_between hV hV (mul_nn ha hb) h2 h1, Int.le_antisymm h1 h2⟩
theorem dy_mul {n m : Int} {k j : Nat} {a b : UInt64} (ha : Dy n k a) (hb : Dy m j b) (hk : k + j ≤ 1074) (h : (n * m).natAbs < 2 ^ 53) : Dy (n * m) (k + j) (dmul a b) := by
  obtain ⟨V, hV, e⟩ := rep_exists (n * m) (k + j) hk h
  have q : zv a * zv b = zv V * (one64 : Int) := cancel (k := k + j) (by
    have : zv a * zv b * 2 ^ (k + j) = (zv a * 2 ^ k) * (zv b * 2 ^ j) := by rw [Int.pow_add]; (generalize one64 = U; ac_rfl)
    rw [this, ha.2, hb.2, show zv V * (one64 : Int) * 2 ^ (k + j) = zv V * 2 ^ (k + j) * (one64 : Int) by (generalize one64 = U; ac_rfl), e]; (generalize one64 = U; ac_rfl))
  obtain ⟨h1, h2⟩ := mul_exact ha.1 hb.1 hV q
  exact ⟨h1, by rw [h2]; exact e⟩
-- quotients
theorem nz_of {b : UInt64} (hb : DFin b) (h : zv b ≠ 0) : ¬ DZero b := fun q => h q.zval
theorem div_nn {a b : UInt64} (ha : DFin a) (hb : DFin b) (h : zv b ≠ 0) : val64 (ddiv a b) ≠ .nan := (notNaN_iff _).mp (ddiv_out ha.notNaN hb (nz_of hb h))
theorem div_pows {q r e0 : Int} (hq : b64.qmin ≤ q) (hr : b64.qmin ≤ r) (h0 : e0 ≤ b64.qmin) (h1 : e0 ≤ q - r) :
    2 ^ (q - r - e0).toNat * 2 ^ (r - b64.qmin).toNat = 2 ^ (q - b64.qmin).toNat * one64 * 2 ^ (b64.qmin - e0).toNat := by
  unfold one64
  rw [← Nat.pow_add, ← Nat.pow_add, ← Nat.pow_add]
  rw [qmin_b64] at *
  congr 1 <;> omega
theorem div_val {a b : UInt64} {s t : Bool} {c d : Nat} {q r : Int} (ea : val64 a = .fin s c q) (eb : val64 b = .fin t d r) (hd : d ≠ 0) : val64 (ddiv a b) = roundRatio b64 (s != t) c d (q - r) := by
  rw [val64_ddiv, ea, eb]
  simp [quotient, hd]
theorem div_mag_le {a b V : UInt64} (ha : DFin a) (hb : DFin b) (hz : zmag b64 (val64 b) ≠ 0) (hV : val64 V ≠ .nan) (h : zmag b64 (val64 a) * one64 ≤ zmag b64 (val64 V) * zmag b64 (val64 b)) : zmag b64 (val64 (ddiv a b)) ≤ zmag b64 (val64 V) := by
  obtain ⟨s, c, q, ea⟩ := ha
  obtain ⟨t, d, r, eb⟩ := hb
  have fa := val64_fits a; have fb := val64_fits b
  rw [ea] at fa; rw [eb] at fb
  have za : zmag b64 (val64 a) = c * 2 ^ (q - b64.qmin).toNat := by rw [ea]; rfl
  have zb : zmag b64 (val64 b) = d * 2 ^ (r - b64.qmin).toNat := by rw [eb]; rfl
  have hd : d ≠ 0 := fun q => hz (by rw [zb, q, Nat.zero_mul])
  rw [div_val ea eb hd]
  have hp := div_pows (e0 := min b64.qmin (q - r)) fa.2.1 fb.2.1 (by omega) (by omega)
  refine zmag_roundRatio_le good_b64 (Nat.pos_of_ne_zero hd) (val64_fits V) hV (e0 := min b64.qmin (q - r)) (by omega) (by omega) ?_
  rw [za, zb] at h
  generalize zmag b64 (val64 V) = v at h ⊢
  unfold inUnits
  refine Nat.le_of_mul_le_mul_right (c := 2 ^ (r - b64.qmin).toNat) ?_ (Nat.two_pow_pos _)
  rw [Nat.mul_assoc, hp]
  have := Nat.mul_le_mul_right (2 ^ (b64.qmin - min b64.qmin (q - r)).toNat) h
  calc c * (2 ^ (q - b64.qmin).toNat * one64 * 2 ^ (b64.qmin - min b64.qmin (q - r)).toNat) = c * 2 ^ (q - b64.qmin).toNat * one64 * 2 ^ (b64.qmin - min b64.qmin (q - r)).toNat := by (generalize one64 = U; ac_rfl)
    _ ≤ _ := this
    _ = v * 2 ^ (b64.qmin - min b64.qmin (q - r)).toNat * d * 2 ^ (r - b64.qmin).toNat := by (generalize one64 = U; ac_rfl)
theorem div_mag_ge {a b V : UInt64} (ha : DFin a) (hb : DFin b) (hz : zmag b64 (val64 b) ≠ 0) (hV : val64 V ≠ .nan) (h : zmag b64 (val64 V) * zmag b64 (val64 b) ≤ zmag b64 (val64 a) * one64) : zmag b64 (val64 V) ≤ zmag b64 (val64 (ddiv a b)) := by
  obtain ⟨s, c, q, ea⟩ := ha
  obtain ⟨t, d, r, eb⟩ := hb
  have fa := val64_fits a; have fb := val64_fits b
  rw [ea] at fa; rw [eb] at fb
  have za : zmag b64 (val64 a) = c * 2 ^ (q - b64.qmin).toNat := by rw [ea]; rfl
  have zb : zmag b64 (val64 b) = d * 2 ^ (r - b64.qmin).toNat := by rw [eb]; rfl
  have hd : d ≠ 0 := fun q => hz (by rw [zb, q, Nat.zero_mul])
  rw [div_val ea eb hd]
  have hp := div_pows (e0 := min b64.qmin (q - r)) fa.2.1 fb.2.1 (by omega) (by omega)
  refine zmag_roundRatio_ge good_b64 (Nat.pos_of_ne_zero hd) (val64_fits V) (e0 := min b64.qmin (q - r)) (by omega) (by omega) ?_
  rw [za, zb] at h
  generalize zmag b64 (val64 V) = v at h ⊢
  unfold inUnits
  refine Nat.le_of_mul_le_mul_right (c := 2 ^ (r - b64.qmin).toNat) ?_ (Nat.two_pow_pos _)
  rw [Nat.mul_assoc c, hp]
  have := Nat.mul_le_mul_right (2 ^ (b64.qmin - min b64.qmin (q - r)).toNat) h
  calc v * 2 ^ (b64.qmin - min b64.qmin (q - r)).toNat * d * 2 ^ (r - b64.qmin).toNat = v * (d * 2 ^ (r - b64.qmin).toNat) * 2 ^ (b64.qmin - min b64.qmin (q - r)).toNat := by (generalize one64 = U; ac_rfl)
    _ ≤ _ := this
    _ = c * (2 ^ (q - b64.qmin).toNat * one64 * 2 ^ (b64.qmin - min b64.qmin (q - r)).toNat) := by (generalize one64 = U; ac_rfl)
theorem div_sgn {a b : UInt64} (ha : DFin a) (hb : DFin b) (hz : zmag b64 (val64 b) ≠ 0) : sgn (val64 (ddiv a b)) = (sgn (val64 a) != sgn (val64 b)) := by
  obtain ⟨s, c, q, ea⟩ := ha
  obtain ⟨t, d, r, eb⟩ := hb
  have zb : zmag b64 (val64 b) = d * 2 ^ (r - b64.qmin).toNat := by rw [eb]; rfl
  have hd : d ≠ 0 := fun q => hz (by rw [zb, q, Nat.zero_mul])
  rw [div_val ea eb hd, sgn_roundRatio, ea, eb]; rfl
theorem zv_cases (a : UInt64) : (sgn (val64 a) = false ∧ zv a = (zmag b64 (val64 a) : Int)) ∨ (sgn (val64 a) = true ∧ zv a = -(zmag b64 (val64 a) : Int)) := by
  show (_ ∧ signed _ _ = _) ∨ (_ ∧ signed _ _ = _)
  cases sgn (val64 a) <;> simp [signed]
theorem nat_mul_le {a b c d : Nat} (h : (a : Int) * (b : Int) ≤ (c : Int) * (d : Int)) : a * b ≤ c * d := by
  rw [← Int.natCast_mul, ← Int.natCast_mul] at h; exact Int.ofNat_le.mp h
theorem div_le {a b V : UInt64} (ha : DFin a) (hb : DFin b) (hp : 0 < zv b) (hV : val64 V ≠ .nan) (h : zv a * (one64 : Int) ≤ zv V * zv b) : zv (ddiv a b) ≤ zv V := by
  have ub := zv_bd b
  have hz : zmag b64 (val64 b) ≠ 0 := by omega
  have eb : sgn (val64 b) = false ∧ zv b = (zmag b64 (val64 b) : Int) := by rcases zv_cases b with q | q; exact q; omega
  have es := div_sgn ha hb hz
  rw [eb.1] at es
  have hU := U_pos
  rcases zv_cases a with ⟨sa, ea⟩ | ⟨sa, ea⟩ <;> rw [sa] at es
  · have er : zv (ddiv a b) = (zmag b64 (val64 (ddiv a b)) : Int) := by rcases zv_cases (ddiv a b) with q | q; exact q.2; rw [q.1] at es; cases es
    rcases zv_cases V with ⟨sv, ev⟩ | ⟨sv, ev⟩
    · have := div_mag_le ha hb hz hV (nat_mul_le (by rw [← ea, ← ev, ← eb.2]; exact h))
      omega
    · have h0 : 0 ≤ zv a * (one64 : Int) := Int.mul_nonneg (by omega) (by omega)
      have h1 : 0 ≤ zv V * zv b := Int.le_trans h0 h
      have h2 : zv V = 0 := by
        by_cases q : zv V < 0
        · have := Int.mul_neg_of_neg_of_pos q hp; omega
        · omega
      have h3 : zmag b64 (val64 V) = 0 := by omega
      rw [h2, Int.zero_mul] at h
      have h5 : zmag b64 (val64 a) * one64 ≤ zmag b64 (val64 V) * zmag b64 (val64 b) := nat_mul_le (by rw [← ea, h3]; simpa using h)
      have := div_mag_le ha hb hz hV h5
      omega
  · have er : zv (ddiv a b) = -(zmag b64 (val64 (ddiv a b)) : Int) := by rcases zv_cases (ddiv a b) with q | q; rw [q.1] at es; cases es; exact q.2
    rcases zv_cases V with ⟨sv, ev⟩ | ⟨sv, ev⟩
    · omega
    · have := div_mag_ge ha hb hz hV (nat_mul_le (by
        have : zv V * zv b = -((zmag b64 (val64 V) : Int) * (zmag b64 (val64 b) : Int)) := by rw [ev, eb.2, Int.neg_mul]
        have h6 : zv a * (one64 : Int) = -((zmag b64 (val64 a) : Int) * (one64 : Int)) := by rw [ea, Int.neg_mul]
        omega))
      omega
theorem div_ge {a b V : UInt64} (ha : DFin a) (hb : DFin b) (hp : 0 < zv b) (hV : val64 V ≠ .nan) (h : zv V * zv b ≤ zv a * (one64 : Int)) : zv V ≤ zv (ddiv a b) := by
  have ub := zv_bd b
  have hz : zmag b64 (val64 b) ≠ 0 := by omega
  have eb : sgn (val64 b) = false ∧ zv b = (zmag b64 (val64 b) : Int) := by rcases zv_cases b with q | q; exact q; omega
  have es := div_sgn ha hb hz
  rw [eb.1] at es
  have hU := U_pos
  rcases zv_cases a with ⟨sa, ea⟩ | ⟨sa, ea⟩ <;> rw [sa] at es
  · have er : zv (ddiv a b) = (zmag b64 (val64 (ddiv a b)) : Int) := by rcases zv_cases (ddiv a b) with q | q; exact q.2; rw [q.1] at es; cases es
    rcases zv_cases V with ⟨sv, ev⟩ | ⟨sv, ev⟩
    · have := div_mag_ge ha hb hz hV (nat_mul_le (by rw [← ea, ← ev, ← eb.2]; exact h))
      omega
    · omega
  · have er : zv (ddiv a b) = -(zmag b64 (val64 (ddiv a b)) : Int) := by rcases zv_cases (ddiv a b) with q | q; rw [q.1] at es; cases es; exact q.2
    rcases zv_cases V with ⟨sv, ev⟩ | ⟨sv, ev⟩
    · have h0 : zv a * (one64 : Int) ≤ 0 := Int.mul_nonpos_of_nonpos_of_nonneg (by omega) (by omega)
      have h1 : zv V * zv b ≤ 0 := Int.le_trans h h0
      have h2 : zv V = 0 := by
        by_cases q : 0 < zv V
        · have := Int.mul_pos q hp; omega
        · omega
      have h3 : zmag b64 (val64 V) = 0 := by omega
      rw [h2, Int.zero_mul] at h
      have h4 : (zmag b64 (val64 a) : Int) * (one64 : Int) = -(zv a * (one64 : Int)) := by rw [ea, Int.neg_mul, Int.neg_neg]
      have h5 : zmag b64 (val64 a) * one64 ≤ zmag b64 (val64 V) * zmag b64 (val64 b) := nat_mul_le (by rw [h4, h3]; simp; omega)
      have := div_mag_le ha hb hz hV h5
      omega
    · have := div_mag_le ha hb hz hV (nat_mul_le (by
        have : zv V * zv b = -((zmag b64 (val64 V) : Int) * (zmag b64 (val64 b) : Int)) := by rw [ev, eb.2, Int.neg_mul]
        have h6 : zv a * (one64 : Int) = -((zmag b64 (val64 a) : Int) * (one64 : Int)) := by rw [ea, Int.neg_mul]
        omega))
      omega
theorem Dy.pos {m : Int} {j : Nat} {b : UInt64} (hb : Dy m j b) (hm : 0 < m) : 0 < zv b := by
  have h1 : 0 < zv b * 2 ^ j := by rw [hb.2]; exact Int.mul_pos hm U_pos
  exact Int.pos_of_mul_pos_left h1 (two_pos j)
theorem div_le_dy {n m q : Int} {k j i : Nat} {a b : UInt64} (ha : Dy n k a) (hb : Dy m j b) (hm : 0 < m) (hi : i ≤ 1074) (hq : q.natAbs < 2 ^ 53) (h : n * 2 ^ j * 2 ^ i ≤ q * m * 2 ^ k) : zv (ddiv a b) * 2 ^ i ≤ q * (one64 : Int) := by
  obtain ⟨V, hV, e⟩ := rep_exists q i hi hq
  rw [← e]
  refine Int.mul_le_mul_of_nonneg_right (div_le ha.1 hb.1 (hb.pos hm) hV.ne_nan ?_) (Int.le_of_lt (two_pos i))
  have hU := U_pos
  refine Int.le_of_mul_le_mul_right (a := 2 ^ k * 2 ^ j * 2 ^ i) ?_ (Int.mul_pos (Int.mul_pos (two_pos k) (two_pos j)) (two_pos i))
  have e1 : zv a * (one64 : Int) * (2 ^ k * 2 ^ j * 2 ^ i) = n * 2 ^ j * 2 ^ i * ((one64 : Int) * (one64 : Int)) := by
    rw [show zv a * (one64 : Int) * (2 ^ k * 2 ^ j * 2 ^ i) = zv a * 2 ^ k * ((one64 : Int) * 2 ^ j * 2 ^ i) by (generalize one64 = U; ac_rfl), ha.2]; (generalize one64 = U; ac_rfl)
  have e2 : zv V * zv b * (2 ^ k * 2 ^ j * 2 ^ i) = q * m * 2 ^ k * ((one64 : Int) * (one64 : Int)) := by
    rw [show zv V * zv b * (2 ^ k * 2 ^ j * 2 ^ i) = (zv V * 2 ^ i) * (zv b * 2 ^ j) * 2 ^ k by (generalize one64 = U; ac_rfl), e, hb.2]; (generalize one64 = U; ac_rfl)
  rw [e1, e2]
  exact Int.mul_le_mul_of_nonneg_right h (Int.le_of_lt (Int.mul_pos hU hU))
theorem div_ge_dy {n m q : Int} {k j i : Nat} {a b : UInt64} (ha : Dy n k a) (hb : Dy m j b) (hm : 0 < m) (hi : i ≤ 1074) (hq : q.natAbs < 2 ^ 53) (h : q * m * 2 ^ k ≤ n * 2 ^ j * 2 ^ i) : q * (one64 : Int) ≤ zv (ddiv a b) * 2 ^ i := by
  obtain ⟨V, hV, e⟩ := rep_exists q i hi hq
  rw [← e]
  refine Int.mul_le_mul_of_nonneg_right (div_ge ha.1 hb.1 (hb.pos hm) hV.ne_nan ?_) (Int.le_of_lt (two_pos i))
  have hU := U_pos
  refine Int.le_of_mul_le_mul_right (a := 2 ^ k * 2 ^ j * 2 ^ i) ?_ (Int.mul_pos (Int.mul_pos (two_pos k) (two_pos j)) (two_pos i))
  have e1 : zv a * (one64 : Int) * (2 ^ k * 2 ^ j * 2 ^ i) = n * 2 ^ j * 2 ^ i * ((one64 : Int) * (one64 : Int)) := by
    rw [show zv a * (one64 : Int) * (2 ^ k * 2 ^ j * 2 ^ i) = zv a * 2 ^ k * ((one64 : Int) * 2 ^ j * 2 ^ i) by (generalize one64 = U; ac_rfl), ha.2]; (generalize one64 = U; ac_rfl)
  have e2 : zv V * zv b * (2 ^ k * 2 ^ j * 2 ^ i) = q * m * 2 ^ k * ((one64 : Int) * (one64 : Int)) := by
    rw [show zv V * zv b * (2 ^ k * 2 ^ j * 2 ^ i) = (zv V * 2 ^ i) * (zv b * 2 ^ j) * 2 ^ k by (generalize one64 = U; ac_rfl), e, hb.2]; (generalize one64 = U; ac_rfl)
  rw [e1, e2]
  exact Int.mul_le_mul_of_nonneg_right h (Int.le_of_lt (Int.mul_pos hU hU))
theorem dy_div {n m q : Int} {k j i : Nat} {a b : UInt64} (ha : Dy n k a) (hb : Dy m j b) (hm : 0 < m) (hi : i ≤ 1074) (hq : q.natAbs < 2 ^ 53) (h : n * 2 ^ j * 2 ^ i = q * m * 2 ^ k) : Dy q i (ddiv a b) := by
  have h1 := div_le_dy ha hb hm hi hq (Int.le_of_eq h)
  have h2 := div_ge_dy ha hb hm hi hq (Int.le_of_eq h.symm)
  have h3 := Int.le_antisymm h1 h2
  obtain ⟨V, hV, e⟩ := rep_exists q i hi hq
  have h4 : zv (ddiv a b) = zv V := cancel (h3.trans e.symm)
  exact ⟨fin_between hV hV (div_nn ha.1 hb.1 (Int.ne_of_gt (hb.pos hm))) (Int.le_of_eq h4.symm) (Int.le_of_eq h4), h3⟩
-- comparisons
theorem cmp_dy {n m : Int} {k j : Nat} {a b : UInt64} (ha : Dy n k a) (hb : Dy m j b) : Jvm.FP.dcmp a b = some (compare (n * 2 ^ j) (m * 2 ^ k)) := by
  show dcmp a b = _
  rw [dcmp_zval ha.nn hb.nn]
  congr 1
  have hU := U_pos
  have e1 : zv a * (2 ^ k * 2 ^ j) = n * 2 ^ j * (one64 : Int) := by rw [← Int.mul_assoc, ha.2]; (generalize one64 = U; ac_rfl)
  have e2 : zv b * (2 ^ k * 2 ^ j) = m * 2 ^ k * (one64 : Int) := by rw [show zv b * (2 ^ k * 2 ^ j) = zv b * 2 ^ j * 2 ^ k by (generalize one64 = U; ac_rfl), hb.2]; (generalize one64 = U; ac_rfl)
  rw [← compare_mul_pos (zv a) (zv b) (2 ^ k * 2 ^ j) (Int.mul_pos (two_pos k) (two_pos j)), e1, e2, compare_mul_pos _ _ _ hU]
theorem cmp_dy0 {n m : Int} {k : Nat} {a b : UInt64} (ha : Dy n k a) (hb : Dy m k b) : Jvm.FP.dcmp a b = some (compare n m) := by
  rw [cmp_dy ha hb, compare_mul_pos _ _ _ (two_pos k)]
theorem cmp_lt {a b : UInt64} (ha : val64 a ≠ .nan) (hb : val64 b ≠ .nan) (h : zv a < zv b) : Jvm.FP.dcmp a b = some .lt := dcmp_lt.mpr ⟨ha, hb, h⟩
theorem cmp_eq {a b : UInt64} (ha : val64 a ≠ .nan) (hb : val64 b ≠ .nan) (h : zv a = zv b) : Jvm.FP.dcmp a b = some .eq := dcmp_eq.mpr ⟨ha, hb, h⟩
theorem cmp_gt {a b : UInt64} (ha : val64 a ≠ .nan) (hb : val64 b ≠ .nan) (h : zv b < zv a) : Jvm.FP.dcmp a b = some .gt := dcmp_gt.mpr ⟨ha, hb, h⟩
open Jvm.Op in
theorem cv_lt_g (r : Option Ordering) : cmpValue r .g < 0 ↔ r = some .lt := by rcases r with _ | (_ | _ | _) <;> decide
open Jvm.Op in
theorem cv_lt_l (r : Option Ordering) : cmpValue r .l < 0 ↔ r = some .lt ∨ r = none := by rcases r with _ | (_ | _ | _) <;> decide
open Jvm.Op in
theorem cv_gt_g (r : Option Ordering) : 0 < cmpValue r .g ↔ r = some .gt ∨ r = none := by rcases r with _ | (_ | _ | _) <;> decide
open Jvm.Op in
theorem cv_gt_l (r : Option Ordering) : 0 < cmpValue r .l ↔ r = some .gt := by rcases r with _ | (_ | _ | _) <;> decide
open Jvm.Op in
theorem cv_eq (r : Option Ordering) (o : Jvm.ClassFile.CmpOp) : cmpValue r o = 0 ↔ r = some .eq := by cases o <;> rcases r with _ | (_ | _ | _) <;> decide
theorem nn64 {a : UInt64} (h : DFin a) : Jvm.Free.Fl.NoNaN64 a := Jvm.Free.Fl.val64_no.mpr h.ne_nan
theorem nnv {a : UInt64} (h : val64 a ≠ .nan) : Jvm.Free.Fl.NoNaN64 a := Jvm.Free.Fl.val64_no.mpr h
theorem nn_v {a : UInt64} (h : Jvm.Free.Fl.NoNaN64 a) : val64 a ≠ .nan := Jvm.Free.Fl.val64_no.mp h
end Jvm.OwnFP
namespace Jvm.OwnKit
open Jvm Jvm.ClassFile Sem Op Lib Jvm.Free Jvm.Stand Jvm.LawKit Jvm.RoadKit
theorem eqF_int {Z : State} {args : Array Value} {t : Term} {C n d : String} {x : Addr} {k : Int32} (ev : t.eval args Z none [] Z = some (.ref x)) (h : (Jvm.Cond.eq (Term.field t C n d) (Term.int k)).value args Z none Z [] = some true) : Fld Z Z.heap x C n d (.int k) := by
  obtain ⟨u, w, h1, h2, -, h4⟩ := cmp_v (Or.inl h)
  have e2 : (Term.int k).eval args Z none [] Z = some (.int k) := Term.int_eval k
  cases e2.symm.trans h2
  obtain ⟨z, rfl⟩ := h4
  have hz : z = k := by simpa [Cond.value, h1, e2] using h
  subst hz
  exact Fld.start (by rw [← fld_at ev]; exact h1)
theorem eqF_dbl {Z : State} {args : Array Value} {t : Term} {C n d : String} {x : Addr} {k : Int64} {b : UInt64} (ev : t.eval args Z none [] Z = some (.ref x)) (h : (Jvm.Cond.eq (Term.field t C n d) (Term.op1 Jvm.Unary.bitsD (Term.long k))).value args Z none Z [] = some true) (hb : k.toUInt64 = b) : Fld Z Z.heap x C n d (.double b) := by
  obtain ⟨u, w, h1, h2, -, h4⟩ := cmp_v (Or.inl h)
  have e2 : (Term.op1 Jvm.Unary.bitsD (Term.long k)).eval args Z none [] Z = some (.double k.toUInt64) := by simp [Term.eval, Jvm.Unary.apply]
  cases e2.symm.trans h2
  obtain ⟨z, rfl⟩ := h4
  have hz : z = k.toUInt64 := by simpa [Cond.value, h1, e2] using h
  subst hz; subst hb
  exact Fld.start (by rw [← fld_at ev]; exact h1)
theorem eqS_int {Z : State} {args : Array Value} {C n d : String} {k : Int32} (h : (Jvm.Cond.eq (Term.static C n d) (Term.int k)).value args Z none Z [] = some true) : (Term.static C n d).eval args Z none [] Z = some (.int k) := by
  obtain ⟨u, w, h1, h2, -, h4⟩ := cmp_v (Or.inl h)
  have e2 : (Term.int k).eval args Z none [] Z = some (.int k) := Term.int_eval k
  cases e2.symm.trans h2
  obtain ⟨z, rfl⟩ := h4
  have hz : z = k := by simpa [Cond.value, h1, e2] using h
  subst hz
  exact h1
theorem staKeep {Z : State} {h h' : Heap} {C n d : String} {v : Value} {ws : List Addr} (F : Sta Z h C n d v) (K : Keep h h' ws) (q : ∀ x ∈ ws, ∃ c : Cell, h[x]? = some c ∧ c.vm.isStatics = false) : Sta Z h' C n d v := by
  obtain ⟨cf, i, k, f, st, cell, h1, h2, h3, h4, h5, h6, h7⟩ := F
  refine ⟨cf, i, k, f, st, cell, h1, h2, h3, h4, K.2.1 st cell h5 fun hm => ?_, h6, h7⟩
  obtain ⟨c, e1, e2⟩ := q st hm
  cases h5.symm.trans e1
  rw [e2] at h6; cases h6
theorem exaSt {Z : State} {h : Heap} {a : Addr} {C : String} (F : Exa Z h a C) : ∃ c : Cell, h[a]? = some c ∧ c.vm.isStatics = false := by
  obtain ⟨c, _, h1, -, -, h4, -⟩ := F; exact ⟨c, h1, h4⟩
theorem arvSt {Z : State} {h : Heap} {a : Addr} {k : ClassId} {ty : FieldType} {z : Int32} {vs : List Value} {dv : Value} (F : Arv Z h a k ty z vs dv) : ∃ c : Cell, h[a]? = some c ∧ c.vm.isStatics = false := by
  obtain ⟨c, A, -⟩ := F; exact ⟨c, A.1, A.plain⟩
theorem narB0 : nar .boolean 0 = 0 := by decide
theorem narB1 : nar .boolean 1 = 1 := by decide
end Jvm.OwnKit
namespace Jvm.Pilot.@@N@@
open Jvm Jvm.ClassFile Sem Op Lib Jvm.Free Jvm.Stand Jvm.LawKit Jvm.RoadKit Bundle Jvm.OwnFP Jvm.OwnKit Jvm.Pilot.@@N@@.Jvm.D
theorem own_2 : Dy 2 0 4611686018427387904 := by
  have := dy_i2d 2
  rw [show Jvm.FP.Core.i2d 2 = 4611686018427387904 by decide +kernel] at this; exact this
theorem own_sum (lo hi : Int32) : Dy (lo.toInt + hi.toInt) 0 (FP.dadd (FP.i2d lo) (FP.i2d hi)) := by
  have r1 := rng32 lo; have r2 := rng32 hi; exact dy_add (dy_i2d lo) (dy_i2d hi) (by decide) (by omega)
theorem own_avg (lo hi : Int32) : Dy (lo.toInt + hi.toInt) 1 (FP.ddiv (FP.dadd (FP.i2d lo) (FP.i2d hi)) 4611686018427387904) := by
  have r1 := rng32 lo; have r2 := rng32 hi
  exact dy_div (own_sum lo hi) own_2 (by decide) (by decide) (by omega) (by simp only [Int.pow_zero, Int.mul_one, Int.pow_one])
theorem own_d1 (lo hi : Int32) : Dy (hi.toInt - lo.toInt) 0 (FP.dsub (FP.i2d hi) (FP.i2d lo)) := by
  have r1 := rng32 lo; have r2 := rng32 hi; exact dy_sub (dy_i2d hi) (dy_i2d lo) (by decide) (by omega)
theorem own_d2 (lo hi : Int32) : Dy (hi.toInt - lo.toInt) 1 (FP.ddiv (FP.dsub (FP.i2d hi) (FP.i2d lo)) 4611686018427387904) := by
  have r1 := rng32 lo; have r2 := rng32 hi
  exact dy_div (own_d1 lo hi) own_2 (by decide) (by decide) (by omega) (by simp only [Int.pow_zero, Int.mul_one, Int.pow_one])
theorem own_mid (lo hi : Int32) : Dy (lo.toInt + hi.toInt) 1 (FP.dadd (FP.i2d lo) (FP.ddiv (FP.dsub (FP.i2d hi) (FP.i2d lo)) 4611686018427387904)) := by
  have r1 := rng32 lo; have r2 := rng32 hi
  have h1 := (dy_i2d lo).up 1
  have := dy_add h1 (own_d2 lo hi) (by decide) (by rw [Int.pow_one]; omega)
  rw [show lo.toInt * 2 ^ 1 + (hi.toInt - lo.toInt) = lo.toInt + hi.toInt by rw [Int.pow_one]; omega] at this
  exact this
theorem own_le (lo hi : Int32) (h : lo.toInt ≤ hi.toInt) : ¬ ((0 : Int32) < cmpValue (FP.dcmp (FP.i2d lo) (FP.i2d hi)) .g) := by
  rw [cv_gt_g, cmp_dy0 (dy_i2d lo) (dy_i2d hi)]
  rintro (q | q)
  · rw [Option.some.injEq, Jvm.FP.Core.compare_gt_iff] at q; omega
  · cases q
theorem own_not_gt {a b : Int} {x y : UInt64} (hx : Dy a 0 x) (hy : Dy b 1 y) (h : 2 * a ≤ b) : ¬ ((0 : Int32) < cmpValue (FP.dcmp x y) .g) := by
  rw [cv_gt_g, cmp_dy hx hy]
  rintro (q | q)
  · rw [Option.some.injEq, Jvm.FP.Core.compare_gt_iff] at q; simp only [Int.pow_zero, Int.mul_one, Int.pow_one] at q; omega
  · cases q
theorem own_not_gt' {a b : Int} {x y : UInt64} (hx : Dy b 1 x) (hy : Dy a 0 y) (h : b ≤ 2 * a) : ¬ ((0 : Int32) < cmpValue (FP.dcmp x y) .g) := by
  rw [cv_gt_g, cmp_dy hx hy]
  rintro (q | q)
  · rw [Option.some.injEq, Jvm.FP.Core.compare_gt_iff] at q; simp only [Int.pow_zero, Int.mul_one, Int.pow_one] at q; omega
  · cases q
theorem own_eqv (lo hi : Int32) : cmpValue (FP.dcmp (FP.i2d lo) (FP.i2d hi)) .l = 0 ↔ lo.toInt = hi.toInt := by
  rw [cv_eq, cmp_dy0 (dy_i2d lo) (dy_i2d hi), Option.some.injEq, Jvm.FP.Core.compare_eq_iff]
theorem own_max (lo hi : Int32) (h : lo.toInt < hi.toInt) : Native.java_lang_Math.nans.pick64 true (FP.i2d lo) (FP.dadd (FP.i2d lo) (FP.ddiv (FP.dsub (FP.i2d hi) (FP.i2d lo)) 4611686018427387904)) = FP.dadd (FP.i2d lo) (FP.ddiv (FP.dsub (FP.i2d hi) (FP.i2d lo)) 4611686018427387904) := by
  have q : FP.dcmp (FP.i2d lo) (FP.dadd (FP.i2d lo) (FP.ddiv (FP.dsub (FP.i2d hi) (FP.i2d lo)) 4611686018427387904)) = some .lt := by
    rw [cmp_dy (dy_i2d lo) (own_mid lo hi), Option.some.injEq, Jvm.FP.Core.compare_lt_iff]; simp only [Int.pow_zero, Int.mul_one, Int.pow_one]; omega
  unfold Native.java_lang_Math.nans.pick64
  rw [q]; rfl
theorem own_min (lo hi : Int32) (h : lo.toInt < hi.toInt) : Native.java_lang_Math.nans.pick64 false (FP.i2d hi) (FP.dadd (FP.i2d lo) (FP.ddiv (FP.dsub (FP.i2d hi) (FP.i2d lo)) 4611686018427387904)) = FP.dadd (FP.i2d lo) (FP.ddiv (FP.dsub (FP.i2d hi) (FP.i2d lo)) 4611686018427387904) := by
  have q : FP.dcmp (FP.i2d hi) (FP.dadd (FP.i2d lo) (FP.ddiv (FP.dsub (FP.i2d hi) (FP.i2d lo)) 4611686018427387904)) = some .gt := by
    rw [cmp_dy (dy_i2d hi) (own_mid lo hi), Option.some.injEq, Jvm.FP.Core.compare_gt_iff]; simp only [Int.pow_zero, Int.mul_one, Int.pow_one]; omega
  unfold Native.java_lang_Math.nans.pick64
  rw [q]; rfl

theorem own_mm (a b : Int32) : (if b < a then b else a).toInt ≤ (if a < b then b else a).toInt := by
  by_cases h1 : a < b
  · have h2 : ¬ b < a := fun q => absurd (Int32.lt_trans h1 q) Int32.lt_irrefl
    rw [if_pos h1, if_neg h2]; exact Int.le_of_lt (Int32.lt_iff_toInt_lt.mp h1)
  · rw [if_neg h1]
    by_cases h2 : b < a
    · rw [if_pos h2]; exact Int.le_of_lt (Int32.lt_iff_toInt_lt.mp h2)
    · rw [if_neg h2]; exact Int.le_refl _
theorem own_nonneg (x : Int64) : ¬ (x &&& (9223372036854775807 : Int64)) < 0 := by
  have m := c_maskL x 9223372036854775807 63 (by decide) (by decide)
  have e0 : (0 : Int64).toInt = 0 := by decide
  rw [Int64.lt_iff_toInt_lt, m, e0]; omega
theorem ef_rmMin (m : MethodId) (x0 : Int32) (x1 : Int32) : entryFrame m #[(.int x0), (.int x1)] 2 = mkF m 0 #[.val (.int x0), .val (.int x1)] [] := by first | (simp [entryFrame, mkF, argsToLocals, Value.category]; done) | rfl
theorem d1_0 : decode jdk_29_method_69_code 0 = .ok (.iload_n 0, 1) := by decide +kernel
theorem d1_1 : decode jdk_29_method_69_code 1 = .ok (.iload_n 1, 1) := by decide +kernel
theorem d1_2 : decode jdk_29_method_69_code 2 = .ok (.if_icmp .gt 7, 3) := by decide +kernel
theorem d1_9 : decode jdk_29_method_69_code 9 = .ok (.iload_n 1, 1) := by decide +kernel
theorem d1_10 : decode jdk_29_method_69_code 10 = .ok (.ireturn, 1) := by decide +kernel
theorem d1_5 : decode jdk_29_method_69_code 5 = .ok (.iload_n 0, 1) := by decide +kernel
theorem d1_6 : decode jdk_29_method_69_code 6 = .ok (.goto 4, 3) := by decide +kernel
def QrmMin (Z : State) (p0 : Int32) (p1 : Int32) (h0 : Heap) (n0 : Nat) (v : Option Value) (h : Heap) (L : List Loc) : Prop := v = some (.int (if p1 < p0 then p1 else p0)) ∧ Fr n0 L ∧ h = h0
set_option maxRecDepth 65536 in
set_option maxHeartbeats 40000000 in
theorem rmMin (l : Launch) (Z : State) (a0 : Array Value) (hw : ∀ d ∈ tables_1, d.before a0 Z = true) (ws : List Jvm.Cond) (p0 : Int32) (p1 : Int32) (h0 : Heap) (n0 : Nat) (Z0 : n0 ≤ h0.size) :
    MetFree l (⟨"java/lang/Math", "min", "(II)I"⟩ : MethodName) (head1 (Jvm.Cond.code (⟨"java/lang/Math", "min", "(II)I"⟩ : MethodName) jdk_29_method_69_code 2 (some .int) :: ws) ({ frames := 0, cells := 0, slots := 0, locals := 0 } : Room)) (fun a U => a = #[(.int p0), (.int p1)] ∧ Z.Warmed39 U.vm ∧ U.heap = h0) (fun _ _ _ _ _ => True) (fun _ U o U' => ∃ v L, o = .returned v ∧ QrmMin Z p0 p1 h0 n0 v U'.heap L ∧ FrameEnd U o U' L ({ frames := 0, cells := 0, slots := 0, locals := 0 } : Room).cells ({ frames := 0, cells := 0, slots := 0, locals := 0 } : Room).slots) := by
  refine MetFree.of_bodySF (Jvm.Free.JP.mathPlain rfl (by decide +kernel)) hisR ?_
  intro p e s m args below meth c s₁ Bd hml0 hP hK
  obtain ⟨rfl, hZ, hh⟩ := hP
  have hx := Bd.exec
  have hby := Bd.bytes
  have hml : c.maxLocals = 2 := hml0
  have hown : s.vm.findClass "java/lang/Math" = some m.cls := findClass_of_methodNamed Bd.named
  have hnm := (name_of_methodNamed Bd.named Bd.method).1
  have X0 : Stand p l e ({ frames := 0, cells := 0, slots := 0, locals := 0 } : Room) s m #[(.int p0), (.int p1)] below meth c s₁ [] 0 0 := Stand.of_body Bd
  have e0 : s₁.heap = h0 := by rw [← hh, Bd.state]; rfl
  have N0 := Fr.nil n0
  have pre0 : ∀ t, Steps p.tables e below (s₁.setTop (mkF m 0 #[.val (.int p0), .val (.int p1)] [])) t → Steps p.tables e below (s₁.setTop (entryFrame m #[(.int p0), (.int p1)] 2)) t := fun t k => castTop (ef_rmMin m p0 p1) k
  have a1 : ∀ t, Steps p.tables e below (s₁.setTop (mkF m 2 #[.val (.int p0), .val (.int p1)] [(.int p1), (.int p0)])) t → Steps p.tables e below (s₁.setTop (entryFrame m #[(.int p0), (.int p1)] 2)) t := by
    intro t k
    refine pre0 t ?_
    show Steps p.tables e below (s₁.setTop (mkF m 0 #[.val (.int p0), .val (.int p1)] [])) _
    refine XS.iloadN X0.here hx rfl (hb hby d1_0) rfl ?_
    show Steps p.tables e below (s₁.setTop (mkF m 1 #[.val (.int p0), .val (.int p1)] [(.int p0)])) _
    refine XS.iloadN X0.here hx rfl (hb hby d1_1) rfl ?_
    exact k
  by_cases hc2_2 : p1 < p0
  ·
    have a3 : ∀ t, Steps p.tables e below (s₁.setTop (mkF m 10 #[.val (.int p0), .val (.int p1)] [(.int p1)])) t → Steps p.tables e below (s₁.setTop (entryFrame m #[(.int p0), (.int p1)] 2)) t := by
      intro t k
      refine a1 t ?_
      show Steps p.tables e below (s₁.setTop (mkF m 2 #[.val (.int p0), .val (.int p1)] [(.int p1), (.int p0)])) _
      refine XS.icmpYes X0.here hx rfl (pc0 := 2) (pc' := 9) rfl (hb hby d1_2) rfl (tlt hc2_2).2.2.1 (by decide) (by decide) ?_
      show Steps p.tables e below (s₁.setTop (mkF m 9 #[.val (.int p0), .val (.int p1)] [])) _
      refine XS.iloadN X0.here hx rfl (hb hby d1_9) rfl ?_
      exact k
    obtain ⟨fs, hr, hrun, hended, hW, hsame⟩ := X0.leave (v := some (.int p1)) (fun h => by rw [Bd.returns] at h; cases h)
    refine ⟨_, _, a3 _ ?_, hrun, hended, _, _, rfl, ?_, ⟨_, rfl⟩, hW, hsame.mono (by decide) (by decide)⟩
    · show Steps p.tables e below (s₁.setTop (mkF m 10 #[.val (.int p0), .val (.int p1)] [(.int p1)])) _
      exact retOut X0 hx Bd.returns rfl (Or.inl ⟨rfl, Or.inl rfl, _, rfl⟩) (hb hby d1_10) hr
    · show QrmMin Z p0 p1 h0 n0 _ s₁.heap _
      rw [e0]
      exact ⟨by rw [if_pos hc2_2], N0, rfl⟩
  ·
    have a4 : ∀ t, Steps p.tables e below (s₁.setTop (mkF m 10 #[.val (.int p0), .val (.int p1)] [(.int p0)])) t → Steps p.tables e below (s₁.setTop (entryFrame m #[(.int p0), (.int p1)] 2)) t := by
      intro t k
      refine a1 t ?_
      show Steps p.tables e below (s₁.setTop (mkF m 2 #[.val (.int p0), .val (.int p1)] [(.int p1), (.int p0)])) _
      refine XS.icmpNo X0.here hx rfl (hb hby d1_2) rfl (flt hc2_2).2.2.1 ?_
      show Steps p.tables e below (s₁.setTop (mkF m 5 #[.val (.int p0), .val (.int p1)] [])) _
      refine XS.iloadN X0.here hx rfl (hb hby d1_5) rfl ?_
      show Steps p.tables e below (s₁.setTop (mkF m 6 #[.val (.int p0), .val (.int p1)] [(.int p0)])) _
      refine XS.goto X0.here hx rfl (pc0 := 6) (pc' := 10) rfl (hb hby d1_6) (by decide) (by decide) ?_
      exact k
    obtain ⟨fs, hr, hrun, hended, hW, hsame⟩ := X0.leave (v := some (.int p0)) (fun h => by rw [Bd.returns] at h; cases h)
    refine ⟨_, _, a4 _ ?_, hrun, hended, _, _, rfl, ?_, ⟨_, rfl⟩, hW, hsame.mono (by decide) (by decide)⟩
    · show Steps p.tables e below (s₁.setTop (mkF m 10 #[.val (.int p0), .val (.int p1)] [(.int p0)])) _
      exact retOut X0 hx Bd.returns rfl (Or.inl ⟨rfl, Or.inl rfl, _, rfl⟩) (hb hby d1_10) hr
    · show QrmMin Z p0 p1 h0 n0 _ s₁.heap _
      rw [e0]
      exact ⟨by rw [if_neg hc2_2], N0, rfl⟩
theorem ef_rmMax (m : MethodId) (x0 : Int32) (x1 : Int32) : entryFrame m #[(.int x0), (.int x1)] 2 = mkF m 0 #[.val (.int x0), .val (.int x1)] [] := by first | (simp [entryFrame, mkF, argsToLocals, Value.category]; done) | rfl
theorem d2_0 : decode jdk_29_method_65_code 0 = .ok (.iload_n 0, 1) := by decide +kernel
theorem d2_1 : decode jdk_29_method_65_code 1 = .ok (.iload_n 1, 1) := by decide +kernel
theorem d2_2 : decode jdk_29_method_65_code 2 = .ok (.if_icmp .lt 7, 3) := by decide +kernel
theorem d2_9 : decode jdk_29_method_65_code 9 = .ok (.iload_n 1, 1) := by decide +kernel
theorem d2_10 : decode jdk_29_method_65_code 10 = .ok (.ireturn, 1) := by decide +kernel
theorem d2_5 : decode jdk_29_method_65_code 5 = .ok (.iload_n 0, 1) := by decide +kernel
theorem d2_6 : decode jdk_29_method_65_code 6 = .ok (.goto 4, 3) := by decide +kernel
def QrmMax (Z : State) (p0 : Int32) (p1 : Int32) (h0 : Heap) (n0 : Nat) (v : Option Value) (h : Heap) (L : List Loc) : Prop := v = some (.int (if p0 < p1 then p1 else p0)) ∧ Fr n0 L ∧ h = h0
set_option maxRecDepth 65536 in
set_option maxHeartbeats 40000000 in
theorem rmMax (l : Launch) (Z : State) (a0 : Array Value) (hw : ∀ d ∈ tables_1, d.before a0 Z = true) (ws : List Jvm.Cond) (p0 : Int32) (p1 : Int32) (h0 : Heap) (n0 : Nat) (Z0 : n0 ≤ h0.size) :
    MetFree l (⟨"java/lang/Math", "max", "(II)I"⟩ : MethodName) (head1 (Jvm.Cond.code (⟨"java/lang/Math", "max", "(II)I"⟩ : MethodName) jdk_29_method_65_code 2 (some .int) :: ws) ({ frames := 0, cells := 0, slots := 0, locals := 0 } : Room)) (fun a U => a = #[(.int p0), (.int p1)] ∧ Z.Warmed39 U.vm ∧ U.heap = h0) (fun _ _ _ _ _ => True) (fun _ U o U' => ∃ v L, o = .returned v ∧ QrmMax Z p0 p1 h0 n0 v U'.heap L ∧ FrameEnd U o U' L ({ frames := 0, cells := 0, slots := 0, locals := 0 } : Room).cells ({ frames := 0, cells := 0, slots := 0, locals := 0 } : Room).slots) := by
  refine MetFree.of_bodySF (Jvm.Free.JP.mathPlain rfl (by decide +kernel)) hisR ?_
  intro p e s m args below meth c s₁ Bd hml0 hP hK
  obtain ⟨rfl, hZ, hh⟩ := hP
  have hx := Bd.exec
  have hby := Bd.bytes
  have hml : c.maxLocals = 2 := hml0
  have hown : s.vm.findClass "java/lang/Math" = some m.cls := findClass_of_methodNamed Bd.named
  have hnm := (name_of_methodNamed Bd.named Bd.method).1
  have X0 : Stand p l e ({ frames := 0, cells := 0, slots := 0, locals := 0 } : Room) s m #[(.int p0), (.int p1)] below meth c s₁ [] 0 0 := Stand.of_body Bd
  have e0 : s₁.heap = h0 := by rw [← hh, Bd.state]; rfl
  have N0 := Fr.nil n0
  have pre0 : ∀ t, Steps p.tables e below (s₁.setTop (mkF m 0 #[.val (.int p0), .val (.int p1)] [])) t → Steps p.tables e below (s₁.setTop (entryFrame m #[(.int p0), (.int p1)] 2)) t := fun t k => castTop (ef_rmMax m p0 p1) k
  have a1 : ∀ t, Steps p.tables e below (s₁.setTop (mkF m 2 #[.val (.int p0), .val (.int p1)] [(.int p1), (.int p0)])) t → Steps p.tables e below (s₁.setTop (entryFrame m #[(.int p0), (.int p1)] 2)) t := by
    intro t k
    refine pre0 t ?_
    show Steps p.tables e below (s₁.setTop (mkF m 0 #[.val (.int p0), .val (.int p1)] [])) _
    refine XS.iloadN X0.here hx rfl (hb hby d2_0) rfl ?_
    show Steps p.tables e below (s₁.setTop (mkF m 1 #[.val (.int p0), .val (.int p1)] [(.int p0)])) _
    refine XS.iloadN X0.here hx rfl (hb hby d2_1) rfl ?_
    exact k
  by_cases hc2_2 : p0 < p1
  ·
    have a3 : ∀ t, Steps p.tables e below (s₁.setTop (mkF m 10 #[.val (.int p0), .val (.int p1)] [(.int p1)])) t → Steps p.tables e below (s₁.setTop (entryFrame m #[(.int p0), (.int p1)] 2)) t := by
      intro t k
      refine a1 t ?_
      show Steps p.tables e below (s₁.setTop (mkF m 2 #[.val (.int p0), .val (.int p1)] [(.int p1), (.int p0)])) _
      refine XS.icmpYes X0.here hx rfl (pc0 := 2) (pc' := 9) rfl (hb hby d2_2) rfl (tlt hc2_2).1 (by decide) (by decide) ?_
      show Steps p.tables e below (s₁.setTop (mkF m 9 #[.val (.int p0), .val (.int p1)] [])) _
      refine XS.iloadN X0.here hx rfl (hb hby d2_9) rfl ?_
      exact k
    obtain ⟨fs, hr, hrun, hended, hW, hsame⟩ := X0.leave (v := some (.int p1)) (fun h => by rw [Bd.returns] at h; cases h)
    refine ⟨_, _, a3 _ ?_, hrun, hended, _, _, rfl, ?_, ⟨_, rfl⟩, hW, hsame.mono (by decide) (by decide)⟩
    · show Steps p.tables e below (s₁.setTop (mkF m 10 #[.val (.int p0), .val (.int p1)] [(.int p1)])) _
      exact retOut X0 hx Bd.returns rfl (Or.inl ⟨rfl, Or.inl rfl, _, rfl⟩) (hb hby d2_10) hr
    · show QrmMax Z p0 p1 h0 n0 _ s₁.heap _
      rw [e0]
      exact ⟨by rw [if_pos hc2_2], N0, rfl⟩
  ·
    have a4 : ∀ t, Steps p.tables e below (s₁.setTop (mkF m 10 #[.val (.int p0), .val (.int p1)] [(.int p0)])) t → Steps p.tables e below (s₁.setTop (entryFrame m #[(.int p0), (.int p1)] 2)) t := by
      intro t k
      refine a1 t ?_
      show Steps p.tables e below (s₁.setTop (mkF m 2 #[.val (.int p0), .val (.int p1)] [(.int p1), (.int p0)])) _
      refine XS.icmpNo X0.here hx rfl (hb hby d2_2) rfl (flt hc2_2).1 ?_
      show Steps p.tables e below (s₁.setTop (mkF m 5 #[.val (.int p0), .val (.int p1)] [])) _
      refine XS.iloadN X0.here hx rfl (hb hby d2_5) rfl ?_
      show Steps p.tables e below (s₁.setTop (mkF m 6 #[.val (.int p0), .val (.int p1)] [(.int p0)])) _
      refine XS.goto X0.here hx rfl (pc0 := 6) (pc' := 10) rfl (hb hby d2_6) (by decide) (by decide) ?_
      exact k
    obtain ⟨fs, hr, hrun, hended, hW, hsame⟩ := X0.leave (v := some (.int p0)) (fun h => by rw [Bd.returns] at h; cases h)
    refine ⟨_, _, a4 _ ?_, hrun, hended, _, _, rfl, ?_, ⟨_, rfl⟩, hW, hsame.mono (by decide) (by decide)⟩
    · show Steps p.tables e below (s₁.setTop (mkF m 10 #[.val (.int p0), .val (.int p1)] [(.int p0)])) _
      exact retOut X0 hx Bd.returns rfl (Or.inl ⟨rfl, Or.inl rfl, _, rfl⟩) (hb hby d2_10) hr
    · show QrmMax Z p0 p1 h0 n0 _ s₁.heap _
      rw [e0]
      exact ⟨by rw [if_neg hc2_2], N0, rfl⟩
theorem ef_rmRec (m : MethodId) (x0 : Addr) : entryFrame m #[(.ref x0)] 1 = mkF m 0 #[.val (.ref x0)] [] := by first | (simp [entryFrame, mkF, argsToLocals, Value.category]; done) | rfl
theorem d4_0 : decode jdk_30_method_1_code 0 = .ok (.aload_n 0, 1) := by decide +kernel
theorem d4_1 : decode jdk_30_method_1_code 1 = .ok (.invokespecial 1, 3) := by decide +kernel
theorem d4_4 : decode jdk_30_method_1_code 4 = .ok (.return_, 1) := by decide +kernel
theorem own_pn_java_lang_Record : plainName "java/lang/Record" = true := by first | (simp [plainName, overriddenIn]; done) | decide +kernel
def QRec (Z : State) (a0_ : Addr) (h0 : Heap) (n0 : Nat) (v : Option Value) (h : Heap) (L : List Loc) : Prop := v = none ∧ Fr n0 L ∧ h = h0
set_option maxRecDepth 65536 in
set_option maxHeartbeats 40000000 in
theorem rmRec (l : Launch) (Z : State) (a0 : Array Value) (hw : ∀ d ∈ tables_1, d.before a0 Z = true) (ws : List Jvm.Cond) (a0_ : Addr) (h0 : Heap) (n0 : Nat) (Z0 : n0 ≤ h0.size) :
    MetFree l (⟨"java/lang/Record", "<init>", "()V"⟩ : MethodName) (head1 (Jvm.Cond.code (⟨"java/lang/Record", "<init>", "()V"⟩ : MethodName) jdk_30_method_1_code 1 none :: ws) ({ frames := 1, cells := 0, slots := 0, locals := 12 } : Room)) (fun a U => a = #[(.ref a0_)] ∧ Z.Warmed39 U.vm ∧ U.heap = h0) (fun _ _ _ _ _ => True) (fun _ U o U' => ∃ v L, o = .returned v ∧ QRec Z a0_ h0 n0 v U'.heap L ∧ FrameEnd U o U' L ({ frames := 1, cells := 0, slots := 0, locals := 12 } : Room).cells ({ frames := 1, cells := 0, slots := 0, locals := 12 } : Room).slots) := by
  refine MetFree.of_bodySF (plainFor_of_name own_pn_java_lang_Record) hisR ?_
  intro p e s m args below meth c s₁ Bd hml0 hP hK
  obtain ⟨rfl, hZ, hh⟩ := hP
  have hx := Bd.exec
  have hby := Bd.bytes
  have hml : c.maxLocals = 1 := hml0
  have hown : s.vm.findClass "java/lang/Record" = some m.cls := findClass_of_methodNamed Bd.named
  have hnm := (name_of_methodNamed Bd.named Bd.method).1
  have X0 : Stand p l e ({ frames := 1, cells := 0, slots := 0, locals := 12 } : Room) s m #[(.ref a0_)] below meth c s₁ [] 0 0 := Stand.of_body Bd
  have e0 : s₁.heap = h0 := by rw [← hh, Bd.state]; rfl
  have N0 := Fr.nil n0
  have pre0 : ∀ t, Steps p.tables e below (s₁.setTop (mkF m 0 #[.val (.ref a0_)] [])) t → Steps p.tables e below (s₁.setTop (entryFrame m #[(.ref a0_)] 1)) t := fun t k => castTop (ef_rmRec m a0_) k
  have a1 : ∀ t, Steps p.tables e below (s₁.setTop (mkF m 1 #[.val (.ref a0_)] [(.ref a0_)])) t → Steps p.tables e below (s₁.setTop (entryFrame m #[(.ref a0_)] 1)) t := by
    intro t k
    refine pre0 t ?_
    show Steps p.tables e below (s₁.setTop (mkF m 0 #[.val (.ref a0_)] [])) _
    refine XS.aloadN X0.here hx rfl (hb hby d4_0) rfl rfl ?_
    exact k
  obtain ⟨T2, X2, e2, st2⟩ := initO X0 hx hZ hown (hw _ (List.mem_of_getElem? (i := 19) rfl)) (hw _ (List.mem_of_getElem? (i := 20) rfl)) (hw _ (List.mem_of_getElem? (i := 21) rfl)) e0 (g := (mkF m 1 #[.val (.ref a0_)] [(.ref a0_)])) rfl (by rw [hml]; rfl) rfl (hb hby d4_1) (by decide) (W := 0) (by show 2 * 0 + _ ≤ _; exact Nat.le_of_eq rfl) (by decide)
  have a3 : ∀ t, Steps p.tables e below (T2.setTop (mkF m 4 #[.val (.ref a0_)] [])) t → Steps p.tables e below (s₁.setTop (entryFrame m #[(.ref a0_)] 1)) t := fun t k => a1 t (st2 t k)
  obtain ⟨fs, hr, hrun, hended, hW, hsame⟩ := X2.leave (v := none) (fun _ => rfl)
  refine ⟨_, _, a3 _ ?_, hrun, hended, _, _, rfl, ?_, ⟨_, rfl⟩, hW, hsame.mono (by decide) (by decide)⟩
  · show Steps p.tables e below (T2.setTop (mkF m 4 #[.val (.ref a0_)] [])) _
    exact X2.returnOut hx Bd.returns (hb hby d4_4) hr
  · show QRec Z a0_ h0 n0 _ T2.heap _
    rw [e2]
    exact ⟨rfl, N0, rfl⟩
theorem ef_rm1 (m : MethodId) (x0 : Addr) (x1 : UInt64) (x2 : UInt64) : entryFrame m #[(.ref x0), (.double x1), (.double x2)] 5 = mkF m 0 #[.val (.ref x0), .val (.double x1), .second, .val (.double x2), .second] [] := by first | (simp [entryFrame, mkF, argsToLocals, Value.category]; done) | rfl
theorem d3_0 : decode prog_6_method_1_code 0 = .ok (.aload_n 0, 1) := by decide +kernel
theorem d3_1 : decode prog_6_method_1_code 1 = .ok (.invokespecial 1, 3) := by decide +kernel
theorem own_pd0 : parseMethodDescriptor "()V" = some ⟨[], none⟩ := by decide +kernel
theorem d3_4 : decode prog_6_method_1_code 4 = .ok (.dload_n 1, 1) := by decide +kernel
theorem d3_5 : decode prog_6_method_1_code 5 = .ok (.dload_n 3, 1) := by decide +kernel
theorem d3_6 : decode prog_6_method_1_code 6 = .ok (.dcmp .g, 1) := by decide +kernel
theorem d3_7 : decode prog_6_method_1_code 7 = .ok (.ifCond .le 18, 3) := by decide +kernel
theorem d3_25 : decode prog_6_method_1_code 25 = .ok (.aload_n 0, 1) := by decide +kernel
theorem d3_26 : decode prog_6_method_1_code 26 = .ok (.dload_n 1, 1) := by decide +kernel
theorem d3_27 : decode prog_6_method_1_code 27 = .ok (.putfield 16, 3) := by decide +kernel
theorem d3_30 : decode prog_6_method_1_code 30 = .ok (.aload_n 0, 1) := by decide +kernel
theorem d3_31 : decode prog_6_method_1_code 31 = .ok (.dload_n 3, 1) := by decide +kernel
theorem d3_32 : decode prog_6_method_1_code 32 = .ok (.putfield 22, 3) := by decide +kernel
theorem d3_35 : decode prog_6_method_1_code 35 = .ok (.return_, 1) := by decide +kernel
theorem own_pn_com_example_pinched_bounds_pinchedbounds_Interval : plainName "com/example/pinched_bounds/pinchedbounds/Interval" = true := by first | (simp [plainName, overriddenIn]; done) | decide +kernel
def Qrm1 (Z : State) (a0_ : Addr) (d1 : UInt64) (d2 : UInt64) (h0 : Heap) (n0 : Nat) (v : Option Value) (h : Heap) (L : List Loc) : Prop := v = none ∧ Fr n0 L ∧ Keep h0 h [a0_] ∧ Fld Z h a0_ "com/example/pinched_bounds/pinchedbounds/Interval" "lower" "D" (.double d1) ∧ Fld Z h a0_ "com/example/pinched_bounds/pinchedbounds/Interval" "upper" "D" (.double d2)
set_option maxRecDepth 65536 in
set_option maxHeartbeats 40000000 in
theorem rm1 (l : Launch) (Z : State) (a0 : Array Value) (hw : ∀ d ∈ tables_1, d.before a0 Z = true) (ws : List Jvm.Cond) (a0_ : Addr) (d1 : UInt64) (d2 : UInt64) (h0 : Heap) (n0 : Nat) (Z0 : n0 ≤ h0.size) (E0 : Exa Z h0 a0_ "com/example/pinched_bounds/pinchedbounds/Interval") (g0 : n0 ≤ a0_) (F0_lower : Fld Z h0 a0_ "com/example/pinched_bounds/pinchedbounds/Interval" "lower" "D" (.double 0)) (F0_upper : Fld Z h0 a0_ "com/example/pinched_bounds/pinchedbounds/Interval" "upper" "D" (.double 0)) (hord : ¬ ((0 : Int32) < cmpValue (FP.dcmp d1 d2) .g)) :
    MetFree l (⟨"com/example/pinched_bounds/pinchedbounds/Interval", "<init>", "(DD)V"⟩ : MethodName) (head1 (Jvm.Cond.code (⟨"com/example/pinched_bounds/pinchedbounds/Interval", "<init>", "(DD)V"⟩ : MethodName) prog_6_method_1_code 5 none :: ws) ({ frames := 2, cells := 0, slots := 0, locals := 24 } : Room)) (fun a U => a = #[(.ref a0_), (.double d1), (.double d2)] ∧ Z.Warmed39 U.vm ∧ U.heap = h0) (fun _ _ _ _ _ => True) (fun _ U o U' => ∃ v L, o = .returned v ∧ Qrm1 Z a0_ d1 d2 h0 n0 v U'.heap L ∧ FrameEnd U o U' L ({ frames := 2, cells := 0, slots := 0, locals := 24 } : Room).cells ({ frames := 2, cells := 0, slots := 0, locals := 24 } : Room).slots) := by
  refine MetFree.of_bodySF (plainFor_of_name own_pn_com_example_pinched_bounds_pinchedbounds_Interval) hisR ?_
  intro p e s m args below meth c s₁ Bd hml0 hP hK
  obtain ⟨rfl, hZ, hh⟩ := hP
  have hx := Bd.exec
  have hby := Bd.bytes
  have hml : c.maxLocals = 5 := hml0
  have hown : s.vm.findClass "com/example/pinched_bounds/pinchedbounds/Interval" = some m.cls := findClass_of_methodNamed Bd.named
  have hnm := (name_of_methodNamed Bd.named Bd.method).1
  have X0 : Stand p l e ({ frames := 2, cells := 0, slots := 0, locals := 24 } : Room) s m #[(.ref a0_), (.double d1), (.double d2)] below meth c s₁ [] 0 0 := Stand.of_body Bd
  have e0 : s₁.heap = h0 := by rw [← hh, Bd.state]; rfl
  have N0 := Fr.nil n0
  have pre0 : ∀ t, Steps p.tables e below (s₁.setTop (mkF m 0 #[.val (.ref a0_), .val (.double d1), .second, .val (.double d2), .second] [])) t → Steps p.tables e below (s₁.setTop (entryFrame m #[(.ref a0_), (.double d1), (.double d2)] 5)) t := fun t k => castTop (ef_rm1 m a0_ d1 d2) k
  have a1 : ∀ t, Steps p.tables e below (s₁.setTop (mkF m 1 #[.val (.ref a0_), .val (.double d1), .second, .val (.double d2), .second] [(.ref a0_)])) t → Steps p.tables e below (s₁.setTop (entryFrame m #[(.ref a0_), (.double d1), (.double d2)] 5)) t := by
    intro t k
    refine pre0 t ?_
    show Steps p.tables e below (s₁.setTop (mkF m 0 #[.val (.ref a0_), .val (.double d1), .second, .val (.double d2), .second] [])) _
    refine XS.aloadN X0.here hx rfl (hb hby d3_0) rfl rfl ?_
    exact k
  obtain ⟨_, _, ⟨T2, L2, k2, n2⟩, -, X2, ⟨Lc2, hQ2, l2, y2, z2⟩, st2⟩ := X0.specialBack hx (y := (⟨"java/lang/Record", "<init>", "()V"⟩ : MethodName)) rfl hown (mvT hZ (hw _ (List.mem_of_getElem? (i := 14) rfl))) (mvT hZ (hw _ (List.mem_of_getElem? (i := 15) rfl))) (mvT hZ (hw _ (List.mem_of_getElem? (i := 18) rfl))) (by decide) (backOf (W := 0) (rmRec l Z a0 hw [] a0_ h0 n0 Z0 ) hZ (hw _ (List.mem_of_getElem? (i := 18) rfl)) (hw _ (List.mem_of_getElem? (i := 17) rfl)) (by decide) (by decide)) (g := (mkF m 1 #[.val (.ref a0_), .val (.double d1), .second, .val (.double d2), .second] [(.ref a0_)])) rfl (by rw [hml]; rfl) (Steps.refl _) (a := a0_) (argsL := []) (rest := []) (lenOf own_pd0 rfl) rfl (by show 2 * 0 + _ ≤ _; exact Nat.le_of_eq rfl) (hb hby d3_1) (fun _ _ => ⟨rfl, e0, (by decide : 0 + 0 ≤ _), (by decide : 0 + 0 ≤ _)⟩)
  dsimp only [Pt.U, Pt.locs, Pt.cells, Pt.slots] at X2 l2 y2 z2 st2 hQ2
  subst l2 y2 z2
  obtain ⟨rfl, N2q, e2q⟩ := hQ2
  have N2 := Fr.app N0 N2q
  have a3 : ∀ t, Steps p.tables e below (T2.setTop (mkF m 4 #[.val (.ref a0_), .val (.double d1), .second, .val (.double d2), .second] [])) t → Steps p.tables e below (s₁.setTop (entryFrame m #[(.ref a0_), (.double d1), (.double d2)] 5)) t := fun t k => a1 t (st2.trans k)
  have a4 : ∀ t, Steps p.tables e below (T2.setTop (mkF m 27 #[.val (.ref a0_), .val (.double d1), .second, .val (.double d2), .second] [(.double d1), (.ref a0_)])) t → Steps p.tables e below (s₁.setTop (entryFrame m #[(.ref a0_), (.double d1), (.double d2)] 5)) t := by
    intro t k
    refine a3 t ?_
    show Steps p.tables e below (T2.setTop (mkF m 4 #[.val (.ref a0_), .val (.double d1), .second, .val (.double d2), .second] [])) _
    refine XS.dloadN X2.here hx rfl (hb hby d3_4) rfl ?_
    show Steps p.tables e below (T2.setTop (mkF m 5 #[.val (.ref a0_), .val (.double d1), .second, .val (.double d2), .second] [(.double d1)])) _
    refine XS.dloadN X2.here hx rfl (hb hby d3_5) rfl ?_
    show Steps p.tables e below (T2.setTop (mkF m 6 #[.val (.ref a0_), .val (.double d1), .second, .val (.double d2), .second] [(.double d2), (.double d1)])) _
    refine XS.dcmpS X2.here hx rfl (hb hby d3_6) rfl rfl ?_
    show Steps p.tables e below (T2.setTop (mkF m 7 #[.val (.ref a0_), .val (.double d1), .second, .val (.double d2), .second] [(.int (cmpValue (FP.dcmp d1 d2) .g))])) _
    refine XS.ifYes X2.here hx rfl (pc0 := 7) (pc' := 25) rfl (hb hby d3_7) rfl ((if0 _ _).trans (flt hord).2.2.2) (by decide) (by decide) ?_
    show Steps p.tables e below (T2.setTop (mkF m 25 #[.val (.ref a0_), .val (.double d1), .second, .val (.double d2), .second] [])) _
    refine XS.aloadN X2.here hx rfl (hb hby d3_25) rfl rfl ?_
    show Steps p.tables e below (T2.setTop (mkF m 26 #[.val (.ref a0_), .val (.double d1), .second, .val (.double d2), .second] [(.ref a0_)])) _
    refine XS.dloadN X2.here hx rfl (hb hby d3_26) rfl ?_
    exact k
  obtain ⟨T5, h5, X5, e5, W5, st5⟩ := putF X2 hx hZ hown (host := "") (Or.inl (hw _ (List.mem_of_getElem? (i := 22) rfl))) Via.refl e2q F0_lower E0 (Or.inr ⟨(hw _ (List.mem_of_getElem? (i := 23) rfl)), rfl, hnm⟩) (hw _ (List.mem_of_getElem? (i := 9) rfl)) (ty := .double) (by decide) rfl rfl (g := (mkF m 27 #[.val (.ref a0_), .val (.double d1), .second, .val (.double d2), .second] [(.double d1), (.ref a0_)])) rfl rfl (hb hby d3_27)
  have Fw5 := Fld.same W5 F0_lower
  have N5 := Fr.snoc X5 N2 g0
  have K5 : Keep h0 h5 [a0_] := Keep.wr (Keep.refl h0 [a0_]) W5 (Or.inl (List.mem_of_getElem? (i := 0) rfl))
  have a6 : ∀ t, Steps p.tables e below (T5.setTop (mkF m 30 #[.val (.ref a0_), .val (.double d1), .second, .val (.double d2), .second] [])) t → Steps p.tables e below (s₁.setTop (entryFrame m #[(.ref a0_), (.double d1), (.double d2)] 5)) t := fun t k => a4 t (st5 t k)
  have a7 : ∀ t, Steps p.tables e below (T5.setTop (mkF m 32 #[.val (.ref a0_), .val (.double d1), .second, .val (.double d2), .second] [(.double d2), (.ref a0_)])) t → Steps p.tables e below (s₁.setTop (entryFrame m #[(.ref a0_), (.double d1), (.double d2)] 5)) t := by
    intro t k
    refine a6 t ?_
    show Steps p.tables e below (T5.setTop (mkF m 30 #[.val (.ref a0_), .val (.double d1), .second, .val (.double d2), .second] [])) _
    refine XS.aloadN X5.here hx rfl (hb hby d3_30) rfl rfl ?_
    show Steps p.tables e below (T5.setTop (mkF m 31 #[.val (.ref a0_), .val (.double d1), .second, .val (.double d2), .second] [(.ref a0_)])) _
    refine XS.dloadN X5.here hx rfl (hb hby d3_31) rfl ?_
    exact k
  obtain ⟨T8, h8, X8, e8, W8, st8⟩ := putF X5 hx hZ hown (host := "") (Or.inl (hw _ (List.mem_of_getElem? (i := 24) rfl))) Via.refl e5 (Fld.other W5 F0_upper (Or.inr (slot_ne (Or.inr (hw _ (List.mem_of_getElem? (i := 25) rfl))) (Or.inr (hw _ (List.mem_of_getElem? (i := 23) rfl))) (by decide) (t := .double) (t' := .double) (by decide) (by decide)))) (Exa.wr W5 E0) (Or.inr ⟨(hw _ (List.mem_of_getElem? (i := 25) rfl)), rfl, hnm⟩) (hw _ (List.mem_of_getElem? (i := 9) rfl)) (ty := .double) (by decide) rfl rfl (g := (mkF m 32 #[.val (.ref a0_), .val (.double d1), .second, .val (.double d2), .second] [(.double d2), (.ref a0_)])) rfl rfl (hb hby d3_32)
  have Fw8 := Fld.same W8 (Fld.other W5 F0_upper (Or.inr (slot_ne (Or.inr (hw _ (List.mem_of_getElem? (i := 25) rfl))) (Or.inr (hw _ (List.mem_of_getElem? (i := 23) rfl))) (by decide) (t := .double) (t' := .double) (by decide) (by decide))))
  have N8 := Fr.snoc X8 N5 g0
  have K8 : Keep h0 h8 [a0_] := Keep.wr K5 W8 (Or.inl (List.mem_of_getElem? (i := 0) rfl))
  have a9 : ∀ t, Steps p.tables e below (T8.setTop (mkF m 35 #[.val (.ref a0_), .val (.double d1), .second, .val (.double d2), .second] [])) t → Steps p.tables e below (s₁.setTop (entryFrame m #[(.ref a0_), (.double d1), (.double d2)] 5)) t := fun t k => a7 t (st8 t k)
  obtain ⟨fs, hr, hrun, hended, hW, hsame⟩ := X8.leave (v := none) (fun _ => rfl)
  refine ⟨_, _, a9 _ ?_, hrun, hended, _, _, rfl, ?_, ⟨_, rfl⟩, hW, hsame.mono (by decide) (by decide)⟩
  · show Steps p.tables e below (T8.setTop (mkF m 35 #[.val (.ref a0_), .val (.double d1), .second, .val (.double d2), .second] [])) _
    exact X8.returnOut hx Bd.returns (hb hby d3_35) hr
  · show Qrm1 Z a0_ d1 d2 h0 n0 _ T8.heap _
    rw [e8]
    exact ⟨rfl, N8, K8, (Fld.other W8 Fw5 (Or.inr (slot_ne (Or.inr (hw _ (List.mem_of_getElem? (i := 23) rfl))) (Or.inr (hw _ (List.mem_of_getElem? (i := 25) rfl))) (by decide) (t := .double) (t' := .double) (by decide) (by decide)))), Fw8⟩
theorem ef_rmV (m : MethodId) (x0 : Addr) : entryFrame m #[(.ref x0)] 3 = mkF m 0 #[.val (.ref x0), .unset, .unset] [] := by first | (simp [entryFrame, mkF, argsToLocals, Value.category]; done) | rfl
theorem d7_0 : decode prog_6_method_3_code 0 = .ok (.aload_n 0, 1) := by decide +kernel
theorem d7_1 : decode prog_6_method_3_code 1 = .ok (.getfield 16, 3) := by decide +kernel
theorem d7_4 : decode prog_6_method_3_code 4 = .ok (.aload_n 0, 1) := by decide +kernel
theorem d7_5 : decode prog_6_method_3_code 5 = .ok (.getfield 22, 3) := by decide +kernel
theorem d7_8 : decode prog_6_method_3_code 8 = .ok (.dcmp .l, 1) := by decide +kernel
theorem d7_9 : decode prog_6_method_3_code 9 = .ok (.ifCond .ne 11, 3) := by decide +kernel
theorem d7_12 : decode prog_6_method_3_code 12 = .ok (.aload_n 0, 1) := by decide +kernel
theorem d7_13 : decode prog_6_method_3_code 13 = .ok (.getfield 16, 3) := by decide +kernel
theorem d7_16 : decode prog_6_method_3_code 16 = .ok (.dstore_n 1, 1) := by decide +kernel
theorem d7_17 : decode prog_6_method_3_code 17 = .ok (.goto 36, 3) := by decide +kernel
theorem d7_53 : decode prog_6_method_3_code 53 = .ok (.dload_n 1, 1) := by decide +kernel
theorem d7_54 : decode prog_6_method_3_code 54 = .ok (.dreturn, 1) := by decide +kernel
theorem d7_20 : decode prog_6_method_3_code 20 = .ok (.aload_n 0, 1) := by decide +kernel
theorem d7_21 : decode prog_6_method_3_code 21 = .ok (.getfield 22, 3) := by decide +kernel
theorem d7_24 : decode prog_6_method_3_code 24 = .ok (.aload_n 0, 1) := by decide +kernel
theorem d7_25 : decode prog_6_method_3_code 25 = .ok (.getfield 16, 3) := by decide +kernel
theorem d7_28 : decode prog_6_method_3_code 28 = .ok (.aload_n 0, 1) := by decide +kernel
theorem d7_29 : decode prog_6_method_3_code 29 = .ok (.getfield 16, 3) := by decide +kernel
theorem d7_32 : decode prog_6_method_3_code 32 = .ok (.aload_n 0, 1) := by decide +kernel
theorem d7_33 : decode prog_6_method_3_code 33 = .ok (.getfield 22, 3) := by decide +kernel
theorem d7_36 : decode prog_6_method_3_code 36 = .ok (.aload_n 0, 1) := by decide +kernel
theorem d7_37 : decode prog_6_method_3_code 37 = .ok (.getfield 16, 3) := by decide +kernel
theorem d7_40 : decode prog_6_method_3_code 40 = .ok (.dsub, 1) := by decide +kernel
theorem d7_41 : decode prog_6_method_3_code 41 = .ok (.ldc2_w 28, 3) := by decide +kernel
theorem d7_44 : decode prog_6_method_3_code 44 = .ok (.ddiv, 1) := by decide +kernel
theorem d7_45 : decode prog_6_method_3_code 45 = .ok (.dadd, 1) := by decide +kernel
theorem d7_46 : decode prog_6_method_3_code 46 = .ok (.invokestatic 30, 3) := by decide +kernel
theorem own_pd1 : parseMethodDescriptor "(DD)D" = some ⟨[.double, .double], some .double⟩ := by decide +kernel
theorem d7_49 : decode prog_6_method_3_code 49 = .ok (.invokestatic 36, 3) := by decide +kernel
theorem d7_52 : decode prog_6_method_3_code 52 = .ok (.dstore_n 1, 1) := by decide +kernel
def QV (Z : State) (a0_ : Addr) (lo hi : Int32) (h0 : Heap) (n0 : Nat) (v : Option Value) (h : Heap) (L : List Loc) : Prop := ∃ r, v = some (.double r) ∧ Dy (lo.toInt + hi.toInt) 1 r ∧ Fr n0 L ∧ h = h0
set_option maxRecDepth 65536 in
set_option maxHeartbeats 40000000 in
theorem rmV (l : Launch) (Z : State) (a0 : Array Value) (hw : ∀ d ∈ tables_1, d.before a0 Z = true) (ws : List Jvm.Cond) (a0_ : Addr) (lo hi : Int32) (h0 : Heap) (n0 : Nat) (Z0 : n0 ≤ h0.size) (F1 : Fld Z h0 a0_ "com/example/pinched_bounds/pinchedbounds/Interval" "lower" "D" (.double (FP.i2d lo))) (F2 : Fld Z h0 a0_ "com/example/pinched_bounds/pinchedbounds/Interval" "upper" "D" (.double (FP.i2d hi))) (hle : lo.toInt ≤ hi.toInt) :
    MetFree l (⟨"com/example/pinched_bounds/pinchedbounds/Interval", "value", "()D"⟩ : MethodName) (head1 (Jvm.Cond.code (⟨"com/example/pinched_bounds/pinchedbounds/Interval", "value", "()D"⟩ : MethodName) prog_6_method_3_code 3 (some .double) :: ws) ({ frames := 1, cells := 0, slots := 0, locals := 17 } : Room)) (fun a U => a = #[(.ref a0_)] ∧ Z.Warmed39 U.vm ∧ U.heap = h0) (fun _ _ _ _ _ => True) (fun _ U o U' => ∃ v L, o = .returned v ∧ QV Z a0_ lo hi h0 n0 v U'.heap L ∧ FrameEnd U o U' L ({ frames := 1, cells := 0, slots := 0, locals := 17 } : Room).cells ({ frames := 1, cells := 0, slots := 0, locals := 17 } : Room).slots) := by
  refine MetFree.of_bodySF (plainFor_of_name own_pn_com_example_pinched_bounds_pinchedbounds_Interval) hisR ?_
  intro p e s m args below meth c s₁ Bd hml0 hP hK
  obtain ⟨rfl, hZ, hh⟩ := hP
  have hx := Bd.exec
  have hby := Bd.bytes
  have hml : c.maxLocals = 3 := hml0
  have hown : s.vm.findClass "com/example/pinched_bounds/pinchedbounds/Interval" = some m.cls := findClass_of_methodNamed Bd.named
  have hnm := (name_of_methodNamed Bd.named Bd.method).1
  have X0 : Stand p l e ({ frames := 1, cells := 0, slots := 0, locals := 17 } : Room) s m #[(.ref a0_)] below meth c s₁ [] 0 0 := Stand.of_body Bd
  have e0 : s₁.heap = h0 := by rw [← hh, Bd.state]; rfl
  have N0 := Fr.nil n0
  have pre0 : ∀ t, Steps p.tables e below (s₁.setTop (mkF m 0 #[.val (.ref a0_), .unset, .unset] [])) t → Steps p.tables e below (s₁.setTop (entryFrame m #[(.ref a0_)] 3)) t := fun t k => castTop (ef_rmV m a0_) k
  have a1 : ∀ t, Steps p.tables e below (s₁.setTop (mkF m 1 #[.val (.ref a0_), .unset, .unset] [(.ref a0_)])) t → Steps p.tables e below (s₁.setTop (entryFrame m #[(.ref a0_)] 3)) t := by
    intro t k
    refine pre0 t ?_
    show Steps p.tables e below (s₁.setTop (mkF m 0 #[.val (.ref a0_), .unset, .unset] [])) _
    refine XS.aloadN X0.here hx rfl (hb hby d7_0) rfl rfl ?_
    exact k
  obtain ⟨T2, X2, e2, st2⟩ := getF X0 hx hZ hown (host := "") (Or.inl (hw _ (List.mem_of_getElem? (i := 22) rfl))) Via.refl e0 F1 (g := (mkF m 1 #[.val (.ref a0_), .unset, .unset] [(.ref a0_)])) rfl rfl (hb hby d7_1)
  have a3 : ∀ t, Steps p.tables e below (T2.setTop (mkF m 4 #[.val (.ref a0_), .unset, .unset] [(.double (FP.i2d lo))])) t → Steps p.tables e below (s₁.setTop (entryFrame m #[(.ref a0_)] 3)) t := fun t k => a1 t (st2 t k)
  have a4 : ∀ t, Steps p.tables e below (T2.setTop (mkF m 5 #[.val (.ref a0_), .unset, .unset] [(.ref a0_), (.double (FP.i2d lo))])) t → Steps p.tables e below (s₁.setTop (entryFrame m #[(.ref a0_)] 3)) t := by
    intro t k
    refine a3 t ?_
    show Steps p.tables e below (T2.setTop (mkF m 4 #[.val (.ref a0_), .unset, .unset] [(.double (FP.i2d lo))])) _
    refine XS.aloadN X2.here hx rfl (hb hby d7_4) rfl rfl ?_
    exact k
  obtain ⟨T5, X5, e5, st5⟩ := getF X2 hx hZ hown (host := "") (Or.inl (hw _ (List.mem_of_getElem? (i := 24) rfl))) Via.refl e2 F2 (g := (mkF m 5 #[.val (.ref a0_), .unset, .unset] [(.ref a0_), (.double (FP.i2d lo))])) rfl rfl (hb hby d7_5)
  have a6 : ∀ t, Steps p.tables e below (T5.setTop (mkF m 8 #[.val (.ref a0_), .unset, .unset] [(.double (FP.i2d hi)), (.double (FP.i2d lo))])) t → Steps p.tables e below (s₁.setTop (entryFrame m #[(.ref a0_)] 3)) t := fun t k => a4 t (st5 t k)
  have a7 : ∀ t, Steps p.tables e below (T5.setTop (mkF m 9 #[.val (.ref a0_), .unset, .unset] [(.int (cmpValue (FP.dcmp (FP.i2d lo) (FP.i2d hi)) .l))])) t → Steps p.tables e below (s₁.setTop (entryFrame m #[(.ref a0_)] 3)) t := by
    intro t k
    refine a6 t ?_
    show Steps p.tables e below (T5.setTop (mkF m 8 #[.val (.ref a0_), .unset, .unset] [(.double (FP.i2d hi)), (.double (FP.i2d lo))])) _
    refine XS.dcmpS X5.here hx rfl (hb hby d7_8) rfl rfl ?_
    exact k
  by_cases hc9_8 : (cmpValue (FP.dcmp (FP.i2d lo) (FP.i2d hi)) .l) = (0 : Int32)
  ·
    have a9 : ∀ t, Steps p.tables e below (T5.setTop (mkF m 13 #[.val (.ref a0_), .unset, .unset] [(.ref a0_)])) t → Steps p.tables e below (s₁.setTop (entryFrame m #[(.ref a0_)] 3)) t := by
      intro t k
      refine a7 t ?_
      show Steps p.tables e below (T5.setTop (mkF m 9 #[.val (.ref a0_), .unset, .unset] [(.int (cmpValue (FP.dcmp (FP.i2d lo) (FP.i2d hi)) .l))])) _
      refine XS.ifNo X5.here hx rfl (hb hby d7_9) rfl ((if0 _ _).trans (teq hc9_8).2) ?_
      show Steps p.tables e below (T5.setTop (mkF m 12 #[.val (.ref a0_), .unset, .unset] [])) _
      refine XS.aloadN X5.here hx rfl (hb hby d7_12) rfl rfl ?_
      exact k
    obtain ⟨T10, X10, e10, st10⟩ := getF X5 hx hZ hown (host := "") (Or.inl (hw _ (List.mem_of_getElem? (i := 22) rfl))) Via.refl e5 F1 (g := (mkF m 13 #[.val (.ref a0_), .unset, .unset] [(.ref a0_)])) rfl rfl (hb hby d7_13)
    have a11 : ∀ t, Steps p.tables e below (T10.setTop (mkF m 16 #[.val (.ref a0_), .unset, .unset] [(.double (FP.i2d lo))])) t → Steps p.tables e below (s₁.setTop (entryFrame m #[(.ref a0_)] 3)) t := fun t k => a9 t (st10 t k)
    have a12 : ∀ t, Steps p.tables e below (T10.setTop (mkF m 54 #[.val (.ref a0_), .val (.double (FP.i2d lo)), .second] [(.double (FP.i2d lo))])) t → Steps p.tables e below (s₁.setTop (entryFrame m #[(.ref a0_)] 3)) t := by
      intro t k
      refine a11 t ?_
      show Steps p.tables e below (T10.setTop (mkF m 16 #[.val (.ref a0_), .unset, .unset] [(.double (FP.i2d lo))])) _
      refine XS.dstoreN X10.here hx rfl (hb hby d7_16) rfl (l' := #[.val (.ref a0_), .val (.double (FP.i2d lo)), .second]) rfl ?_
      show Steps p.tables e below (T10.setTop (mkF m 17 #[.val (.ref a0_), .val (.double (FP.i2d lo)), .second] [])) _
      refine XS.goto X10.here hx rfl (pc0 := 17) (pc' := 53) rfl (hb hby d7_17) (by decide) (by decide) ?_
      show Steps p.tables e below (T10.setTop (mkF m 53 #[.val (.ref a0_), .val (.double (FP.i2d lo)), .second] [])) _
      refine XS.dloadN X10.here hx rfl (hb hby d7_53) rfl ?_
      exact k
    obtain ⟨fs, hr, hrun, hended, hW, hsame⟩ := X10.leave (v := some (.double (FP.i2d lo))) (fun h => by rw [Bd.returns] at h; cases h)
    refine ⟨_, _, a12 _ ?_, hrun, hended, _, _, rfl, ?_, ⟨_, rfl⟩, hW, hsame.mono (by decide) (by decide)⟩
    · show Steps p.tables e below (T10.setTop (mkF m 54 #[.val (.ref a0_), .val (.double (FP.i2d lo)), .second] [(.double (FP.i2d lo))])) _
      exact retOut X10 hx Bd.returns rfl (Or.inr (Or.inr (Or.inl ⟨rfl, rfl, _, rfl⟩))) (hb hby d7_54) hr
    · show QV Z a0_ lo hi h0 n0 _ T10.heap _
      rw [e10]
      refine ⟨_, rfl, ?_, N0, rfl⟩
      have e := (own_eqv lo hi).mp hc9_8
      have := (dy_i2d lo).up 1
      rw [show lo.toInt * 2 ^ 1 = lo.toInt + hi.toInt by rw [Int.pow_one]; omega] at this
      exact this
  ·
    have a13 : ∀ t, Steps p.tables e below (T5.setTop (mkF m 21 #[.val (.ref a0_), .unset, .unset] [(.ref a0_)])) t → Steps p.tables e below (s₁.setTop (entryFrame m #[(.ref a0_)] 3)) t := by
      intro t k
      refine a7 t ?_
      show Steps p.tables e below (T5.setTop (mkF m 9 #[.val (.ref a0_), .unset, .unset] [(.int (cmpValue (FP.dcmp (FP.i2d lo) (FP.i2d hi)) .l))])) _
      refine XS.ifYes X5.here hx rfl (pc0 := 9) (pc' := 20) rfl (hb hby d7_9) rfl ((if0 _ _).trans (feq hc9_8).2) (by decide) (by decide) ?_
      show Steps p.tables e below (T5.setTop (mkF m 20 #[.val (.ref a0_), .unset, .unset] [])) _
      refine XS.aloadN X5.here hx rfl (hb hby d7_20) rfl rfl ?_
      exact k
    obtain ⟨T14, X14, e14, st14⟩ := getF X5 hx hZ hown (host := "") (Or.inl (hw _ (List.mem_of_getElem? (i := 24) rfl))) Via.refl e5 F2 (g := (mkF m 21 #[.val (.ref a0_), .unset, .unset] [(.ref a0_)])) rfl rfl (hb hby d7_21)
    have a15 : ∀ t, Steps p.tables e below (T14.setTop (mkF m 24 #[.val (.ref a0_), .unset, .unset] [(.double (FP.i2d hi))])) t → Steps p.tables e below (s₁.setTop (entryFrame m #[(.ref a0_)] 3)) t := fun t k => a13 t (st14 t k)
    have a16 : ∀ t, Steps p.tables e below (T14.setTop (mkF m 25 #[.val (.ref a0_), .unset, .unset] [(.ref a0_), (.double (FP.i2d hi))])) t → Steps p.tables e below (s₁.setTop (entryFrame m #[(.ref a0_)] 3)) t := by
      intro t k
      refine a15 t ?_
      show Steps p.tables e below (T14.setTop (mkF m 24 #[.val (.ref a0_), .unset, .unset] [(.double (FP.i2d hi))])) _
      refine XS.aloadN X14.here hx rfl (hb hby d7_24) rfl rfl ?_
      exact k
    obtain ⟨T17, X17, e17, st17⟩ := getF X14 hx hZ hown (host := "") (Or.inl (hw _ (List.mem_of_getElem? (i := 22) rfl))) Via.refl e14 F1 (g := (mkF m 25 #[.val (.ref a0_), .unset, .unset] [(.ref a0_), (.double (FP.i2d hi))])) rfl rfl (hb hby d7_25)
    have a18 : ∀ t, Steps p.tables e below (T17.setTop (mkF m 28 #[.val (.ref a0_), .unset, .unset] [(.double (FP.i2d lo)), (.double (FP.i2d hi))])) t → Steps p.tables e below (s₁.setTop (entryFrame m #[(.ref a0_)] 3)) t := fun t k => a16 t (st17 t k)
    have a19 : ∀ t, Steps p.tables e below (T17.setTop (mkF m 29 #[.val (.ref a0_), .unset, .unset] [(.ref a0_), (.double (FP.i2d lo)), (.double (FP.i2d hi))])) t → Steps p.tables e below (s₁.setTop (entryFrame m #[(.ref a0_)] 3)) t := by
      intro t k
      refine a18 t ?_
      show Steps p.tables e below (T17.setTop (mkF m 28 #[.val (.ref a0_), .unset, .unset] [(.double (FP.i2d lo)), (.double (FP.i2d hi))])) _
      refine XS.aloadN X17.here hx rfl (hb hby d7_28) rfl rfl ?_
      exact k
    obtain ⟨T20, X20, e20, st20⟩ := getF X17 hx hZ hown (host := "") (Or.inl (hw _ (List.mem_of_getElem? (i := 22) rfl))) Via.refl e17 F1 (g := (mkF m 29 #[.val (.ref a0_), .unset, .unset] [(.ref a0_), (.double (FP.i2d lo)), (.double (FP.i2d hi))])) rfl rfl (hb hby d7_29)
    have a21 : ∀ t, Steps p.tables e below (T20.setTop (mkF m 32 #[.val (.ref a0_), .unset, .unset] [(.double (FP.i2d lo)), (.double (FP.i2d lo)), (.double (FP.i2d hi))])) t → Steps p.tables e below (s₁.setTop (entryFrame m #[(.ref a0_)] 3)) t := fun t k => a19 t (st20 t k)
    have a22 : ∀ t, Steps p.tables e below (T20.setTop (mkF m 33 #[.val (.ref a0_), .unset, .unset] [(.ref a0_), (.double (FP.i2d lo)), (.double (FP.i2d lo)), (.double (FP.i2d hi))])) t → Steps p.tables e below (s₁.setTop (entryFrame m #[(.ref a0_)] 3)) t := by
      intro t k
      refine a21 t ?_
      show Steps p.tables e below (T20.setTop (mkF m 32 #[.val (.ref a0_), .unset, .unset] [(.double (FP.i2d lo)), (.double (FP.i2d lo)), (.double (FP.i2d hi))])) _
      refine XS.aloadN X20.here hx rfl (hb hby d7_32) rfl rfl ?_
      exact k
    obtain ⟨T23, X23, e23, st23⟩ := getF X20 hx hZ hown (host := "") (Or.inl (hw _ (List.mem_of_getElem? (i := 24) rfl))) Via.refl e20 F2 (g := (mkF m 33 #[.val (.ref a0_), .unset, .unset] [(.ref a0_), (.double (FP.i2d lo)), (.double (FP.i2d lo)), (.double (FP.i2d hi))])) rfl rfl (hb hby d7_33)
    have a24 : ∀ t, Steps p.tables e below (T23.setTop (mkF m 36 #[.val (.ref a0_), .unset, .unset] [(.double (FP.i2d hi)), (.double (FP.i2d lo)), (.double (FP.i2d lo)), (.double (FP.i2d hi))])) t → Steps p.tables e below (s₁.setTop (entryFrame m #[(.ref a0_)] 3)) t := fun t k => a22 t (st23 t k)
    have a25 : ∀ t, Steps p.tables e below (T23.setTop (mkF m 37 #[.val (.ref a0_), .unset, .unset] [(.ref a0_), (.double (FP.i2d hi)), (.double (FP.i2d lo)), (.double (FP.i2d lo)), (.double (FP.i2d hi))])) t → Steps p.tables e below (s₁.setTop (entryFrame m #[(.ref a0_)] 3)) t := by
      intro t k
      refine a24 t ?_
      show Steps p.tables e below (T23.setTop (mkF m 36 #[.val (.ref a0_), .unset, .unset] [(.double (FP.i2d hi)), (.double (FP.i2d lo)), (.double (FP.i2d lo)), (.double (FP.i2d hi))])) _
      refine XS.aloadN X23.here hx rfl (hb hby d7_36) rfl rfl ?_
      exact k
    obtain ⟨T26, X26, e26, st26⟩ := getF X23 hx hZ hown (host := "") (Or.inl (hw _ (List.mem_of_getElem? (i := 22) rfl))) Via.refl e23 F1 (g := (mkF m 37 #[.val (.ref a0_), .unset, .unset] [(.ref a0_), (.double (FP.i2d hi)), (.double (FP.i2d lo)), (.double (FP.i2d lo)), (.double (FP.i2d hi))])) rfl rfl (hb hby d7_37)
    have a27 : ∀ t, Steps p.tables e below (T26.setTop (mkF m 40 #[.val (.ref a0_), .unset, .unset] [(.double (FP.i2d lo)), (.double (FP.i2d hi)), (.double (FP.i2d lo)), (.double (FP.i2d lo)), (.double (FP.i2d hi))])) t → Steps p.tables e below (s₁.setTop (entryFrame m #[(.ref a0_)] 3)) t := fun t k => a25 t (st26 t k)
    have a28 : ∀ t, Steps p.tables e below (T26.setTop (mkF m 46 #[.val (.ref a0_), .unset, .unset] [(.double (FP.dadd (FP.i2d lo) (FP.ddiv (FP.dsub (FP.i2d hi) (FP.i2d lo)) (4611686018427387904 : UInt64)))), (.double (FP.i2d lo)), (.double (FP.i2d hi))])) t → Steps p.tables e below (s₁.setTop (entryFrame m #[(.ref a0_)] 3)) t := by
      intro t k
      refine a27 t ?_
      show Steps p.tables e below (T26.setTop (mkF m 40 #[.val (.ref a0_), .unset, .unset] [(.double (FP.i2d lo)), (.double (FP.i2d hi)), (.double (FP.i2d lo)), (.double (FP.i2d lo)), (.double (FP.i2d hi))])) _
      refine XS.dsubS X26.here hx rfl (hb hby d7_40) rfl (nn64 (own_d1 lo hi).1) rfl ?_
      show Steps p.tables e below (T26.setTop (mkF m 41 #[.val (.ref a0_), .unset, .unset] [(.double (FP.dsub (FP.i2d hi) (FP.i2d lo))), (.double (FP.i2d lo)), (.double (FP.i2d lo)), (.double (FP.i2d hi))])) _
      refine X26.ldc2DoubleC hx hown (mvT hZ (hw _ (List.mem_of_getElem? (i := 37) rfl))) (g := (mkF m 41 #[.val (.ref a0_), .unset, .unset] [(.double (FP.dsub (FP.i2d hi) (FP.i2d lo))), (.double (FP.i2d lo)), (.double (FP.i2d lo)), (.double (FP.i2d hi))])) rfl (hb hby d7_41) _ ?_
      show Steps p.tables e below (T26.setTop (mkF m 44 #[.val (.ref a0_), .unset, .unset] [(.double (4611686018427387904 : UInt64)), (.double (FP.dsub (FP.i2d hi) (FP.i2d lo))), (.double (FP.i2d lo)), (.double (FP.i2d lo)), (.double (FP.i2d hi))])) _
      refine XS.ddivS X26.here hx rfl (hb hby d7_44) rfl (nn64 (own_d2 lo hi).1) rfl ?_
      show Steps p.tables e below (T26.setTop (mkF m 45 #[.val (.ref a0_), .unset, .unset] [(.double (FP.ddiv (FP.dsub (FP.i2d hi) (FP.i2d lo)) (4611686018427387904 : UInt64))), (.double (FP.i2d lo)), (.double (FP.i2d lo)), (.double (FP.i2d hi))])) _
      refine XS.daddS X26.here hx rfl (hb hby d7_45) rfl (nn64 (own_mid lo hi).1) rfl ?_
      exact k
    obtain ⟨T29, X29, e29, st29⟩ := natS X26 hx hZ (y := (⟨"java/lang/Math", "max", "(DD)D"⟩ : MethodName)) hown (hw _ (List.mem_of_getElem? (i := 38) rfl)) (hw _ (List.mem_of_getElem? (i := 39) rfl)) (hw _ (List.mem_of_getElem? (i := 2) rfl)) (hw _ (List.mem_of_getElem? (i := 40) rfl)) (by decide) e26 (W := 2) (F := fun a' => a' = #[.double (FP.i2d lo), .double (FP.dadd (FP.i2d lo) (FP.ddiv (FP.dsub (FP.i2d hi) (FP.i2d lo)) (4611686018427387904 : UInt64)))] ∧ Jvm.Free.Fl.NoNaN64 (FP.i2d lo) ∧ Jvm.Free.Fl.NoNaN64 (FP.dadd (FP.i2d lo) (FP.ddiv (FP.dsub (FP.i2d hi) (FP.i2d lo)) (4611686018427387904 : UInt64)))) (val := (.double (Native.java_lang_Math.nans.pick64 true (FP.i2d lo) (FP.dadd (FP.i2d lo) (FP.ddiv (FP.dsub (FP.i2d hi) (FP.i2d lo)) (4611686018427387904 : UInt64)))))) (val' := (.double (FP.dadd (FP.i2d lo) (FP.ddiv (FP.dsub (FP.i2d hi) (FP.i2d lo)) (4611686018427387904 : UInt64))))) (fun hc_ => Jvm.Free.Fl.Abs.maxD_pays (FP.i2d lo) (FP.dadd (FP.i2d lo) (FP.ddiv (FP.dsub (FP.i2d hi) (FP.i2d lo)) (4611686018427387904 : UInt64))) hc_ (by decide) (by decide)) (g := (mkF m 46 #[.val (.ref a0_), .unset, .unset] [(.double (FP.dadd (FP.i2d lo) (FP.ddiv (FP.dsub (FP.i2d hi) (FP.i2d lo)) (4611686018427387904 : UInt64)))), (.double (FP.i2d lo)), (.double (FP.i2d hi))])) rfl (by rw [hml]; rfl) (argsL := [(.double (FP.i2d lo)), (.double (FP.dadd (FP.i2d lo) (FP.ddiv (FP.dsub (FP.i2d hi) (FP.i2d lo)) (4611686018427387904 : UInt64))))]) (rest := [(.double (FP.i2d hi))]) (lenOf own_pd1 rfl) rfl (by show 2 * 0 + _ ≤ _; exact Nat.le_of_eq rfl) (hb hby d7_46) (by decide) (by decide) ⟨rfl, (nn64 (dy_i2d lo).1), (nn64 (own_mid lo hi).1)⟩ (congrArg Value.double (own_max lo hi (Int.lt_iff_le_and_ne.mpr ⟨hle, (fun q => hc9_8 ((own_eqv lo hi).mpr q))⟩)))
    have a30 : ∀ t, Steps p.tables e below (T29.setTop (mkF m 49 #[.val (.ref a0_), .unset, .unset] [(.double (FP.dadd (FP.i2d lo) (FP.ddiv (FP.dsub (FP.i2d hi) (FP.i2d lo)) (4611686018427387904 : UInt64)))), (.double (FP.i2d hi))])) t → Steps p.tables e below (s₁.setTop (entryFrame m #[(.ref a0_)] 3)) t := fun t k => a28 t (st29 t k)
    obtain ⟨T31, X31, e31, st31⟩ := natS X29 hx hZ (y := (⟨"java/lang/Math", "min", "(DD)D"⟩ : MethodName)) hown (hw _ (List.mem_of_getElem? (i := 41) rfl)) (hw _ (List.mem_of_getElem? (i := 42) rfl)) (hw _ (List.mem_of_getElem? (i := 2) rfl)) (hw _ (List.mem_of_getElem? (i := 43) rfl)) (by decide) e29 (W := 0) (F := fun a' => a' = #[.double (FP.i2d hi), .double (FP.dadd (FP.i2d lo) (FP.ddiv (FP.dsub (FP.i2d hi) (FP.i2d lo)) (4611686018427387904 : UInt64)))] ∧ Jvm.Free.Fl.NoNaN64 (FP.i2d hi) ∧ Jvm.Free.Fl.NoNaN64 (FP.dadd (FP.i2d lo) (FP.ddiv (FP.dsub (FP.i2d hi) (FP.i2d lo)) (4611686018427387904 : UInt64)))) (val := (.double (Native.java_lang_Math.nans.pick64 false (FP.i2d hi) (FP.dadd (FP.i2d lo) (FP.ddiv (FP.dsub (FP.i2d hi) (FP.i2d lo)) (4611686018427387904 : UInt64)))))) (val' := (.double (FP.dadd (FP.i2d lo) (FP.ddiv (FP.dsub (FP.i2d hi) (FP.i2d lo)) (4611686018427387904 : UInt64))))) (fun hc_ => Jvm.Free.Fl.Abs.minD_pays (FP.i2d hi) (FP.dadd (FP.i2d lo) (FP.ddiv (FP.dsub (FP.i2d hi) (FP.i2d lo)) (4611686018427387904 : UInt64))) hc_ (by decide) (by decide)) (g := (mkF m 49 #[.val (.ref a0_), .unset, .unset] [(.double (FP.dadd (FP.i2d lo) (FP.ddiv (FP.dsub (FP.i2d hi) (FP.i2d lo)) (4611686018427387904 : UInt64)))), (.double (FP.i2d hi))])) rfl (by rw [hml]; rfl) (argsL := [(.double (FP.i2d hi)), (.double (FP.dadd (FP.i2d lo) (FP.ddiv (FP.dsub (FP.i2d hi) (FP.i2d lo)) (4611686018427387904 : UInt64))))]) (rest := []) (lenOf own_pd1 rfl) rfl (by show 2 * 0 + _ ≤ _; exact Nat.le_of_eq rfl) (hb hby d7_49) (by decide) (by decide) ⟨rfl, (nn64 (dy_i2d hi).1), (nn64 (own_mid lo hi).1)⟩ (congrArg Value.double (own_min lo hi (Int.lt_iff_le_and_ne.mpr ⟨hle, (fun q => hc9_8 ((own_eqv lo hi).mpr q))⟩)))
    have a32 : ∀ t, Steps p.tables e below (T31.setTop (mkF m 52 #[.val (.ref a0_), .unset, .unset] [(.double (FP.dadd (FP.i2d lo) (FP.ddiv (FP.dsub (FP.i2d hi) (FP.i2d lo)) (4611686018427387904 : UInt64))))])) t → Steps p.tables e below (s₁.setTop (entryFrame m #[(.ref a0_)] 3)) t := fun t k => a30 t (st31 t k)
    have a33 : ∀ t, Steps p.tables e below (T31.setTop (mkF m 54 #[.val (.ref a0_), .val (.double (FP.dadd (FP.i2d lo) (FP.ddiv (FP.dsub (FP.i2d hi) (FP.i2d lo)) (4611686018427387904 : UInt64)))), .second] [(.double (FP.dadd (FP.i2d lo) (FP.ddiv (FP.dsub (FP.i2d hi) (FP.i2d lo)) (4611686018427387904 : UInt64))))])) t → Steps p.tables e below (s₁.setTop (entryFrame m #[(.ref a0_)] 3)) t := by
      intro t k
      refine a32 t ?_
      show Steps p.tables e below (T31.setTop (mkF m 52 #[.val (.ref a0_), .unset, .unset] [(.double (FP.dadd (FP.i2d lo) (FP.ddiv (FP.dsub (FP.i2d hi) (FP.i2d lo)) (4611686018427387904 : UInt64))))])) _
      refine XS.dstoreN X31.here hx rfl (hb hby d7_52) rfl (l' := #[.val (.ref a0_), .val (.double (FP.dadd (FP.i2d lo) (FP.ddiv (FP.dsub (FP.i2d hi) (FP.i2d lo)) (4611686018427387904 : UInt64)))), .second]) rfl ?_
      show Steps p.tables e below (T31.setTop (mkF m 53 #[.val (.ref a0_), .val (.double (FP.dadd (FP.i2d lo) (FP.ddiv (FP.dsub (FP.i2d hi) (FP.i2d lo)) (4611686018427387904 : UInt64)))), .second] [])) _
      refine XS.dloadN X31.here hx rfl (hb hby d7_53) rfl ?_
      exact k
    obtain ⟨fs, hr, hrun, hended, hW, hsame⟩ := X31.leave (v := some (.double (FP.dadd (FP.i2d lo) (FP.ddiv (FP.dsub (FP.i2d hi) (FP.i2d lo)) (4611686018427387904 : UInt64))))) (fun h => by rw [Bd.returns] at h; cases h)
    refine ⟨_, _, a33 _ ?_, hrun, hended, _, _, rfl, ?_, ⟨_, rfl⟩, hW, hsame.mono (by decide) (by decide)⟩
    · show Steps p.tables e below (T31.setTop (mkF m 54 #[.val (.ref a0_), .val (.double (FP.dadd (FP.i2d lo) (FP.ddiv (FP.dsub (FP.i2d hi) (FP.i2d lo)) (4611686018427387904 : UInt64)))), .second] [(.double (FP.dadd (FP.i2d lo) (FP.ddiv (FP.dsub (FP.i2d hi) (FP.i2d lo)) (4611686018427387904 : UInt64))))])) _
      exact retOut X31 hx Bd.returns rfl (Or.inr (Or.inr (Or.inl ⟨rfl, rfl, _, rfl⟩))) (hb hby d7_54) hr
    · show QV Z a0_ lo hi h0 n0 _ T31.heap _
      rw [e31]
      exact ⟨_, rfl, own_mid lo hi, N0, rfl⟩
theorem ef_rmN1 (m : MethodId) (x0 : Addr) : entryFrame m #[(.ref x0)] 1 = mkF m 0 #[.val (.ref x0)] [] := by first | (simp [entryFrame, mkF, argsToLocals, Value.category]; done) | rfl
theorem d11_0 : decode jdk_31_method_10_code 0 = .ok (.aload_n 0, 1) := by decide +kernel
theorem d11_1 : decode jdk_31_method_10_code 1 = .ok (.ifnonnull 11, 3) := by decide +kernel
theorem d11_12 : decode jdk_31_method_10_code 12 = .ok (.aload_n 0, 1) := by decide +kernel
theorem d11_13 : decode jdk_31_method_10_code 13 = .ok (.areturn, 1) := by decide +kernel
theorem own_pn_java_util_Objects : plainName "java/util/Objects" = true := by first | (simp [plainName, overriddenIn]; done) | decide +kernel
def QN1 (Z : State) (a0_ : Addr) (h0 : Heap) (n0 : Nat) (v : Option Value) (h : Heap) (L : List Loc) : Prop := v = some (.ref a0_) ∧ Fr n0 L ∧ h = h0
set_option maxRecDepth 65536 in
set_option maxHeartbeats 40000000 in
theorem rmN1 (l : Launch) (Z : State) (a0 : Array Value) (hw : ∀ d ∈ tables_1, d.before a0 Z = true) (ws : List Jvm.Cond) (a0_ : Addr) (h0 : Heap) (n0 : Nat) (Z0 : n0 ≤ h0.size) :
    MetFree l (⟨"java/util/Objects", "requireNonNull", "(Ljava/lang/Object;)Ljava/lang/Object;"⟩ : MethodName) (head1 (Jvm.Cond.code (⟨"java/util/Objects", "requireNonNull", "(Ljava/lang/Object;)Ljava/lang/Object;"⟩ : MethodName) jdk_31_method_10_code 1 (some (.object "java/lang/Object")) :: ws) ({ frames := 0, cells := 0, slots := 0, locals := 0 } : Room)) (fun a U => a = #[(.ref a0_)] ∧ Z.Warmed39 U.vm ∧ U.heap = h0) (fun _ _ _ _ _ => True) (fun _ U o U' => ∃ v L, o = .returned v ∧ QN1 Z a0_ h0 n0 v U'.heap L ∧ FrameEnd U o U' L ({ frames := 0, cells := 0, slots := 0, locals := 0 } : Room).cells ({ frames := 0, cells := 0, slots := 0, locals := 0 } : Room).slots) := by
  refine MetFree.of_bodySF (plainFor_of_name own_pn_java_util_Objects) hisR ?_
  intro p e s m args below meth c s₁ Bd hml0 hP hK
  obtain ⟨rfl, hZ, hh⟩ := hP
  have hx := Bd.exec
  have hby := Bd.bytes
  have hml : c.maxLocals = 1 := hml0
  have hown : s.vm.findClass "java/util/Objects" = some m.cls := findClass_of_methodNamed Bd.named
  have hnm := (name_of_methodNamed Bd.named Bd.method).1
  have X0 : Stand p l e ({ frames := 0, cells := 0, slots := 0, locals := 0 } : Room) s m #[(.ref a0_)] below meth c s₁ [] 0 0 := Stand.of_body Bd
  have e0 : s₁.heap = h0 := by rw [← hh, Bd.state]; rfl
  have N0 := Fr.nil n0
  have pre0 : ∀ t, Steps p.tables e below (s₁.setTop (mkF m 0 #[.val (.ref a0_)] [])) t → Steps p.tables e below (s₁.setTop (entryFrame m #[(.ref a0_)] 1)) t := fun t k => castTop (ef_rmN1 m a0_) k
  have a1 : ∀ t, Steps p.tables e below (s₁.setTop (mkF m 13 #[.val (.ref a0_)] [(.ref a0_)])) t → Steps p.tables e below (s₁.setTop (entryFrame m #[(.ref a0_)] 1)) t := by
    intro t k
    refine pre0 t ?_
    show Steps p.tables e below (s₁.setTop (mkF m 0 #[.val (.ref a0_)] [])) _
    refine XS.aloadN X0.here hx rfl (hb hby d11_0) rfl rfl ?_
    show Steps p.tables e below (s₁.setTop (mkF m 1 #[.val (.ref a0_)] [(.ref a0_)])) _
    refine XS.ifnonnullYes X0.here hx rfl (pc0 := 1) (pc' := 12) rfl (hb hby d11_1) rfl (by decide) (by decide) ?_
    show Steps p.tables e below (s₁.setTop (mkF m 12 #[.val (.ref a0_)] [])) _
    refine XS.aloadN X0.here hx rfl (hb hby d11_12) rfl rfl ?_
    exact k
  obtain ⟨fs, hr, hrun, hended, hW, hsame⟩ := X0.leave (v := some (.ref a0_)) (fun h => by rw [Bd.returns] at h; cases h)
  refine ⟨_, _, a1 _ ?_, hrun, hended, _, _, rfl, ?_, ⟨_, rfl⟩, hW, hsame.mono (by decide) (by decide)⟩
  · show Steps p.tables e below (s₁.setTop (mkF m 13 #[.val (.ref a0_)] [(.ref a0_)])) _
    exact retOut X0 hx Bd.returns rfl (Or.inr (Or.inr (Or.inr (Or.inr ⟨rfl, rfl, rfl⟩)))) (hb hby d11_13) hr
  · show QN1 Z a0_ h0 n0 _ s₁.heap _
    rw [e0]
    exact ⟨rfl, N0, rfl⟩
theorem ef_rmN2 (m : MethodId) (x0 : Addr) (x1 : Addr) : entryFrame m #[(.ref x0), (.ref x1)] 2 = mkF m 0 #[.val (.ref x0), .val (.ref x1)] [] := by first | (simp [entryFrame, mkF, argsToLocals, Value.category]; done) | rfl
theorem d15_0 : decode jdk_31_method_11_code 0 = .ok (.aload_n 0, 1) := by decide +kernel
theorem d15_1 : decode jdk_31_method_11_code 1 = .ok (.ifnonnull 12, 3) := by decide +kernel
theorem d15_13 : decode jdk_31_method_11_code 13 = .ok (.aload_n 0, 1) := by decide +kernel
theorem d15_14 : decode jdk_31_method_11_code 14 = .ok (.areturn, 1) := by decide +kernel
def QN2 (Z : State) (a0_ : Addr) (a1_ : Addr) (h0 : Heap) (n0 : Nat) (v : Option Value) (h : Heap) (L : List Loc) : Prop := v = some (.ref a0_) ∧ Fr n0 L ∧ h = h0
set_option maxRecDepth 65536 in
set_option maxHeartbeats 40000000 in
theorem rmN2 (l : Launch) (Z : State) (a0 : Array Value) (hw : ∀ d ∈ tables_1, d.before a0 Z = true) (ws : List Jvm.Cond) (a0_ : Addr) (a1_ : Addr) (h0 : Heap) (n0 : Nat) (Z0 : n0 ≤ h0.size) :
    MetFree l (⟨"java/util/Objects", "requireNonNull", "(Ljava/lang/Object;Ljava/lang/String;)Ljava/lang/Object;"⟩ : MethodName) (head1 (Jvm.Cond.code (⟨"java/util/Objects", "requireNonNull", "(Ljava/lang/Object;Ljava/lang/String;)Ljava/lang/Object;"⟩ : MethodName) jdk_31_method_11_code 2 (some (.object "java/lang/Object")) :: ws) ({ frames := 0, cells := 0, slots := 0, locals := 0 } : Room)) (fun a U => a = #[(.ref a0_), (.ref a1_)] ∧ Z.Warmed39 U.vm ∧ U.heap = h0) (fun _ _ _ _ _ => True) (fun _ U o U' => ∃ v L, o = .returned v ∧ QN2 Z a0_ a1_ h0 n0 v U'.heap L ∧ FrameEnd U o U' L ({ frames := 0, cells := 0, slots := 0, locals := 0 } : Room).cells ({ frames := 0, cells := 0, slots := 0, locals := 0 } : Room).slots) := by
  refine MetFree.of_bodySF (plainFor_of_name own_pn_java_util_Objects) hisR ?_
  intro p e s m args below meth c s₁ Bd hml0 hP hK
  obtain ⟨rfl, hZ, hh⟩ := hP
  have hx := Bd.exec
  have hby := Bd.bytes
  have hml : c.maxLocals = 2 := hml0
  have hown : s.vm.findClass "java/util/Objects" = some m.cls := findClass_of_methodNamed Bd.named
  have hnm := (name_of_methodNamed Bd.named Bd.method).1
  have X0 : Stand p l e ({ frames := 0, cells := 0, slots := 0, locals := 0 } : Room) s m #[(.ref a0_), (.ref a1_)] below meth c s₁ [] 0 0 := Stand.of_body Bd
  have e0 : s₁.heap = h0 := by rw [← hh, Bd.state]; rfl
  have N0 := Fr.nil n0
  have pre0 : ∀ t, Steps p.tables e below (s₁.setTop (mkF m 0 #[.val (.ref a0_), .val (.ref a1_)] [])) t → Steps p.tables e below (s₁.setTop (entryFrame m #[(.ref a0_), (.ref a1_)] 2)) t := fun t k => castTop (ef_rmN2 m a0_ a1_) k
  have a1 : ∀ t, Steps p.tables e below (s₁.setTop (mkF m 14 #[.val (.ref a0_), .val (.ref a1_)] [(.ref a0_)])) t → Steps p.tables e below (s₁.setTop (entryFrame m #[(.ref a0_), (.ref a1_)] 2)) t := by
    intro t k
    refine pre0 t ?_
    show Steps p.tables e below (s₁.setTop (mkF m 0 #[.val (.ref a0_), .val (.ref a1_)] [])) _
    refine XS.aloadN X0.here hx rfl (hb hby d15_0) rfl rfl ?_
    show Steps p.tables e below (s₁.setTop (mkF m 1 #[.val (.ref a0_), .val (.ref a1_)] [(.ref a0_)])) _
    refine XS.ifnonnullYes X0.here hx rfl (pc0 := 1) (pc' := 13) rfl (hb hby d15_1) rfl (by decide) (by decide) ?_
    show Steps p.tables e below (s₁.setTop (mkF m 13 #[.val (.ref a0_), .val (.ref a1_)] [])) _
    refine XS.aloadN X0.here hx rfl (hb hby d15_13) rfl rfl ?_
    exact k
  obtain ⟨fs, hr, hrun, hended, hW, hsame⟩ := X0.leave (v := some (.ref a0_)) (fun h => by rw [Bd.returns] at h; cases h)
  refine ⟨_, _, a1 _ ?_, hrun, hended, _, _, rfl, ?_, ⟨_, rfl⟩, hW, hsame.mono (by decide) (by decide)⟩
  · show Steps p.tables e below (s₁.setTop (mkF m 14 #[.val (.ref a0_), .val (.ref a1_)] [(.ref a0_)])) _
    exact retOut X0 hx Bd.returns rfl (Or.inr (Or.inr (Or.inr (Or.inr ⟨rfl, rfl, rfl⟩)))) (hb hby d15_14) hr
  · show QN2 Z a0_ a1_ h0 n0 _ s₁.heap _
    rw [e0]
    exact ⟨rfl, N0, rfl⟩
theorem ef_rmOI (m : MethodId) (x0 : Addr) (x1 : Addr) : entryFrame m #[(.ref x0), (.ref x1)] 2 = mkF m 0 #[.val (.ref x0), .val (.ref x1)] [] := by first | (simp [entryFrame, mkF, argsToLocals, Value.category]; done) | rfl
theorem d12_0 : decode jdk_32_method_2_code 0 = .ok (.aload_n 0, 1) := by decide +kernel
theorem d12_1 : decode jdk_32_method_2_code 1 = .ok (.invokespecial 7, 3) := by decide +kernel
theorem d12_4 : decode jdk_32_method_2_code 4 = .ok (.aload_n 0, 1) := by decide +kernel
theorem d12_5 : decode jdk_32_method_2_code 5 = .ok (.aload_n 1, 1) := by decide +kernel
theorem d12_6 : decode jdk_32_method_2_code 6 = .ok (.putfield 13, 3) := by decide +kernel
theorem d12_9 : decode jdk_32_method_2_code 9 = .ok (.return_, 1) := by decide +kernel
theorem own_pn_java_util_Optional : plainName "java/util/Optional" = true := by first | (simp [plainName, overriddenIn]; done) | decide +kernel
def QrmOI (Z : State) (a0_ : Addr) (a1_ : Addr) (h0 : Heap) (n0 : Nat) (v : Option Value) (h : Heap) (L : List Loc) : Prop := v = none ∧ Fr n0 L ∧ Keep h0 h [a0_] ∧ Fld Z h a0_ "java/util/Optional" "value" "Ljava/lang/Object;" (.ref a1_)
set_option maxRecDepth 65536 in
set_option maxHeartbeats 40000000 in
theorem rmOI (l : Launch) (Z : State) (a0 : Array Value) (hw : ∀ d ∈ tables_1, d.before a0 Z = true) (ws : List Jvm.Cond) (a0_ : Addr) (a1_ : Addr) (h0 : Heap) (n0 : Nat) (Z0 : n0 ≤ h0.size) (E0 : Exa Z h0 a0_ "java/util/Optional") (g0 : n0 ≤ a0_) (F0_value : Fld Z h0 a0_ "java/util/Optional" "value" "Ljava/lang/Object;" .null) :
    MetFree l (⟨"java/util/Optional", "<init>", "(Ljava/lang/Object;)V"⟩ : MethodName) (head1 (Jvm.Cond.code (⟨"java/util/Optional", "<init>", "(Ljava/lang/Object;)V"⟩ : MethodName) jdk_32_method_2_code 2 none :: ws) ({ frames := 1, cells := 0, slots := 0, locals := 12 } : Room)) (fun a U => a = #[(.ref a0_), (.ref a1_)] ∧ Z.Warmed39 U.vm ∧ U.heap = h0) (fun _ _ _ _ _ => True) (fun _ U o U' => ∃ v L, o = .returned v ∧ QrmOI Z a0_ a1_ h0 n0 v U'.heap L ∧ FrameEnd U o U' L ({ frames := 1, cells := 0, slots := 0, locals := 12 } : Room).cells ({ frames := 1, cells := 0, slots := 0, locals := 12 } : Room).slots) := by
  refine MetFree.of_bodySF (plainFor_of_name own_pn_java_util_Optional) hisR ?_
  intro p e s m args below meth c s₁ Bd hml0 hP hK
  obtain ⟨rfl, hZ, hh⟩ := hP
  have hx := Bd.exec
  have hby := Bd.bytes
  have hml : c.maxLocals = 2 := hml0
  have hown : s.vm.findClass "java/util/Optional" = some m.cls := findClass_of_methodNamed Bd.named
  have hnm := (name_of_methodNamed Bd.named Bd.method).1
  have X0 : Stand p l e ({ frames := 1, cells := 0, slots := 0, locals := 12 } : Room) s m #[(.ref a0_), (.ref a1_)] below meth c s₁ [] 0 0 := Stand.of_body Bd
  have e0 : s₁.heap = h0 := by rw [← hh, Bd.state]; rfl
  have N0 := Fr.nil n0
  have pre0 : ∀ t, Steps p.tables e below (s₁.setTop (mkF m 0 #[.val (.ref a0_), .val (.ref a1_)] [])) t → Steps p.tables e below (s₁.setTop (entryFrame m #[(.ref a0_), (.ref a1_)] 2)) t := fun t k => castTop (ef_rmOI m a0_ a1_) k
  have a1 : ∀ t, Steps p.tables e below (s₁.setTop (mkF m 1 #[.val (.ref a0_), .val (.ref a1_)] [(.ref a0_)])) t → Steps p.tables e below (s₁.setTop (entryFrame m #[(.ref a0_), (.ref a1_)] 2)) t := by
    intro t k
    refine pre0 t ?_
    show Steps p.tables e below (s₁.setTop (mkF m 0 #[.val (.ref a0_), .val (.ref a1_)] [])) _
    refine XS.aloadN X0.here hx rfl (hb hby d12_0) rfl rfl ?_
    exact k
  obtain ⟨T2, X2, e2, st2⟩ := initO X0 hx hZ hown (hw _ (List.mem_of_getElem? (i := 58) rfl)) (hw _ (List.mem_of_getElem? (i := 20) rfl)) (hw _ (List.mem_of_getElem? (i := 21) rfl)) e0 (g := (mkF m 1 #[.val (.ref a0_), .val (.ref a1_)] [(.ref a0_)])) rfl (by rw [hml]; rfl) rfl (hb hby d12_1) (by decide) (W := 0) (by show 2 * 0 + _ ≤ _; exact Nat.le_of_eq rfl) (by decide)
  have a3 : ∀ t, Steps p.tables e below (T2.setTop (mkF m 4 #[.val (.ref a0_), .val (.ref a1_)] [])) t → Steps p.tables e below (s₁.setTop (entryFrame m #[(.ref a0_), (.ref a1_)] 2)) t := fun t k => a1 t (st2 t k)
  have a4 : ∀ t, Steps p.tables e below (T2.setTop (mkF m 6 #[.val (.ref a0_), .val (.ref a1_)] [(.ref a1_), (.ref a0_)])) t → Steps p.tables e below (s₁.setTop (entryFrame m #[(.ref a0_), (.ref a1_)] 2)) t := by
    intro t k
    refine a3 t ?_
    show Steps p.tables e below (T2.setTop (mkF m 4 #[.val (.ref a0_), .val (.ref a1_)] [])) _
    refine XS.aloadN X2.here hx rfl (hb hby d12_4) rfl rfl ?_
    show Steps p.tables e below (T2.setTop (mkF m 5 #[.val (.ref a0_), .val (.ref a1_)] [(.ref a0_)])) _
    refine XS.aloadN X2.here hx rfl (hb hby d12_5) rfl rfl ?_
    exact k
  obtain ⟨T5, h5, X5, e5, W5, st5⟩ := putF X2 hx hZ hown (host := "") (Or.inl (hw _ (List.mem_of_getElem? (i := 59) rfl))) Via.refl e2 F0_value E0 (Or.inr ⟨(hw _ (List.mem_of_getElem? (i := 60) rfl)), rfl, hnm⟩) (hw _ (List.mem_of_getElem? (i := 49) rfl)) (ty := (.object "java/lang/Object")) (by decide) rfl rfl (g := (mkF m 6 #[.val (.ref a0_), .val (.ref a1_)] [(.ref a1_), (.ref a0_)])) rfl rfl (hb hby d12_6)
  have Fw5 := Fld.same W5 F0_value
  have N5 := Fr.snoc X5 N0 g0
  have K5 : Keep h0 h5 [a0_] := Keep.wr (Keep.refl h0 [a0_]) W5 (Or.inl (List.mem_of_getElem? (i := 0) rfl))
  have a6 : ∀ t, Steps p.tables e below (T5.setTop (mkF m 9 #[.val (.ref a0_), .val (.ref a1_)] [])) t → Steps p.tables e below (s₁.setTop (entryFrame m #[(.ref a0_), (.ref a1_)] 2)) t := fun t k => a4 t (st5 t k)
  obtain ⟨fs, hr, hrun, hended, hW, hsame⟩ := X5.leave (v := none) (fun _ => rfl)
  refine ⟨_, _, a6 _ ?_, hrun, hended, _, _, rfl, ?_, ⟨_, rfl⟩, hW, hsame.mono (by decide) (by decide)⟩
  · show Steps p.tables e below (T5.setTop (mkF m 9 #[.val (.ref a0_), .val (.ref a1_)] [])) _
    exact X5.returnOut hx Bd.returns (hb hby d12_9) hr
  · show QrmOI Z a0_ a1_ h0 n0 _ T5.heap _
    rw [e5]
    exact ⟨rfl, N5, K5, Fw5⟩
theorem ef_rmOf (m : MethodId) (x0 : Addr) : entryFrame m #[(.ref x0)] 1 = mkF m 0 #[.val (.ref x0)] [] := by first | (simp [entryFrame, mkF, argsToLocals, Value.category]; done) | rfl
theorem d10_0 : decode jdk_32_method_3_code 0 = .ok (.new 2, 3) := by decide +kernel
theorem d10_3 : decode jdk_32_method_3_code 3 = .ok (.dup, 1) := by decide +kernel
theorem d10_4 : decode jdk_32_method_3_code 4 = .ok (.aload_n 0, 1) := by decide +kernel
theorem d10_5 : decode jdk_32_method_3_code 5 = .ok (.invokestatic 17, 3) := by decide +kernel
theorem own_pd2 : parseMethodDescriptor "(Ljava/lang/Object;)Ljava/lang/Object;" = some ⟨[(.object "java/lang/Object")], some (.object "java/lang/Object")⟩ := by decide +kernel
theorem d10_8 : decode jdk_32_method_3_code 8 = .ok (.invokespecial 23, 3) := by decide +kernel
theorem own_pd3 : parseMethodDescriptor "(Ljava/lang/Object;)V" = some ⟨[(.object "java/lang/Object")], none⟩ := by decide +kernel
theorem d10_11 : decode jdk_32_method_3_code 11 = .ok (.areturn, 1) := by decide +kernel
def QOf (Z : State) (a0_ : Addr) (h0 : Heap) (n0 : Nat) (v : Option Value) (h : Heap) (L : List Loc) : Prop := ∃ b : Addr, v = some (.ref b) ∧ Fr n0 L ∧ Keep h0 h [] ∧ Exa Z h b "java/util/Optional" ∧ Fld Z h b "java/util/Optional" "value" "Ljava/lang/Object;" (.ref a0_)
set_option maxRecDepth 65536 in
set_option maxHeartbeats 40000000 in
theorem rmOf (l : Launch) (Z : State) (a0 : Array Value) (hw : ∀ d ∈ tables_1, d.before a0 Z = true) (ws : List Jvm.Cond) (a0_ : Addr) (h0 : Heap) (n0 : Nat) (Z0 : n0 ≤ h0.size) :
    MetFree l (⟨"java/util/Optional", "of", "(Ljava/lang/Object;)Ljava/util/Optional;"⟩ : MethodName) (head1 (Jvm.Cond.code (⟨"java/util/Optional", "of", "(Ljava/lang/Object;)Ljava/util/Optional;"⟩ : MethodName) jdk_32_method_3_code 1 (some (.object "java/util/Optional")) :: ws) ({ frames := 2, cells := 1, slots := 1, locals := 30 } : Room)) (fun a U => a = #[(.ref a0_)] ∧ Z.Warmed39 U.vm ∧ U.heap = h0) (fun _ _ _ _ _ => True) (fun _ U o U' => ∃ v L, o = .returned v ∧ QOf Z a0_ h0 n0 v U'.heap L ∧ FrameEnd U o U' L ({ frames := 2, cells := 1, slots := 1, locals := 30 } : Room).cells ({ frames := 2, cells := 1, slots := 1, locals := 30 } : Room).slots) := by
  refine MetFree.of_bodySF (plainFor_of_name own_pn_java_util_Optional) hisR ?_
  intro p e s m args below meth c s₁ Bd hml0 hP hK
  obtain ⟨rfl, hZ, hh⟩ := hP
  have hx := Bd.exec
  have hby := Bd.bytes
  have hml : c.maxLocals = 1 := hml0
  have hown : s.vm.findClass "java/util/Optional" = some m.cls := findClass_of_methodNamed Bd.named
  have hnm := (name_of_methodNamed Bd.named Bd.method).1
  have X0 : Stand p l e ({ frames := 2, cells := 1, slots := 1, locals := 30 } : Room) s m #[(.ref a0_)] below meth c s₁ [] 0 0 := Stand.of_body Bd
  have e0 : s₁.heap = h0 := by rw [← hh, Bd.state]; rfl
  have N0 := Fr.nil n0
  have pre0 : ∀ t, Steps p.tables e below (s₁.setTop (mkF m 0 #[.val (.ref a0_)] [])) t → Steps p.tables e below (s₁.setTop (entryFrame m #[(.ref a0_)] 1)) t := fun t k => castTop (ef_rmOf m a0_) k
  obtain ⟨T1, h1, X1, e1, E1, A1, D1, -, st1⟩ := newO X0 hx hZ hown (hw _ (List.mem_of_getElem? (i := 48) rfl)) (hw _ (List.mem_of_getElem? (i := 49) rfl)) (hw _ (List.mem_of_getElem? (i := 46) rfl)) e0 (g := (mkF m 0 #[.val (.ref a0_)] [])) rfl (hb hby d10_0) (by decide) (by decide)
  obtain ⟨b1, g1⟩ : ∃ z, z = h0.size := ⟨_, rfl⟩
  rw [← g1] at A1 D1 st1
  have g_b1 : n0 ≤ b1 := Nat.le_trans Z0 (Nat.le_of_eq g1.symm)
  have sz_b1 : h0.size ≤ b1 := Nat.le_trans ((Keep.refl h0 [])).1 (Nat.le_of_eq g1.symm)
  have K1 : Keep h0 h1 [] := Keep.ext (Keep.refl h0 []) E1
  have F_value_b1 : Fld Z h1 b1 "java/util/Optional" "value" "Ljava/lang/Object;" .null := D1 (Or.inr (hw _ (List.mem_of_getElem? (i := 60) rfl))) (ty := (.object "java/lang/Object")) (by decide)
  have a2 : ∀ t, Steps p.tables e below (T1.setTop (mkF m 3 #[.val (.ref a0_)] [(.ref b1)])) t → Steps p.tables e below (s₁.setTop (entryFrame m #[(.ref a0_)] 1)) t := fun t k => pre0 t (st1 t k)
  have a3 : ∀ t, Steps p.tables e below (T1.setTop (mkF m 5 #[.val (.ref a0_)] [(.ref a0_), (.ref b1), (.ref b1)])) t → Steps p.tables e below (s₁.setTop (entryFrame m #[(.ref a0_)] 1)) t := by
    intro t k
    refine a2 t ?_
    show Steps p.tables e below (T1.setTop (mkF m 3 #[.val (.ref a0_)] [(.ref b1)])) _
    refine XS.dup X1.here hx rfl (hb hby d10_3) rfl rfl ?_
    show Steps p.tables e below (T1.setTop (mkF m 4 #[.val (.ref a0_)] [(.ref b1), (.ref b1)])) _
    refine XS.aloadN X1.here hx rfl (hb hby d10_4) rfl rfl ?_
    exact k
  obtain ⟨_, _, ⟨T4, L4, k4, n4⟩, -, X4, ⟨Lc4, hQ4, l4, y4, z4⟩, st4⟩ := Jvm.LawKit.callS X1 hx (y := (⟨"java/util/Objects", "requireNonNull", "(Ljava/lang/Object;)Ljava/lang/Object;"⟩ : MethodName)) hown (mvT hZ (hw _ (List.mem_of_getElem? (i := 50) rfl))) (mvT hZ (hw _ (List.mem_of_getElem? (i := 51) rfl))) (mvT hZ (hw _ (List.mem_of_getElem? (i := 52) rfl))) (mvT hZ (hw _ (List.mem_of_getElem? (i := 53) rfl))) (by decide) (backOf (W := 2) (rmN1 l Z a0 hw [] a0_ h1 n0 (Nat.le_trans Z0 E1.1) ) hZ (hw _ (List.mem_of_getElem? (i := 53) rfl)) (hw _ (List.mem_of_getElem? (i := 52) rfl)) (by decide) (by decide)) (g := (mkF m 5 #[.val (.ref a0_)] [(.ref a0_), (.ref b1), (.ref b1)])) rfl (by rw [hml]; rfl) (argsL := [(.ref a0_)]) (rest := [(.ref b1), (.ref b1)]) (lenOf own_pd2 rfl) rfl (by show 2 * 0 + _ ≤ _; exact Nat.le_of_eq rfl) (hb hby d10_5) (fun _ _ => ⟨rfl, e1, (by decide : 1 + 0 ≤ _), (by decide : 1 + 0 ≤ _)⟩)
  dsimp only [Pt.U, Pt.locs, Pt.cells, Pt.slots] at X4 l4 y4 z4 st4 hQ4
  subst l4 y4 z4
  obtain ⟨rfl, N4q, e4q⟩ := hQ4
  have N4 := Fr.app N0 N4q
  have a5 : ∀ t, Steps p.tables e below (T4.setTop (mkF m 8 #[.val (.ref a0_)] [(.ref a0_), (.ref b1), (.ref b1)])) t → Steps p.tables e below (s₁.setTop (entryFrame m #[(.ref a0_)] 1)) t := fun t k => a3 t (st4 t k)
  obtain ⟨_, _, ⟨T6, L6, k6, n6⟩, -, X6, ⟨Lc6, hQ6, l6, y6, z6⟩, st6⟩ := X4.specialBack hx (y := (⟨"java/util/Optional", "<init>", "(Ljava/lang/Object;)V"⟩ : MethodName)) rfl hown (mvT hZ (hw _ (List.mem_of_getElem? (i := 54) rfl))) (mvT hZ (hw _ (List.mem_of_getElem? (i := 55) rfl))) (mvT hZ (hw _ (List.mem_of_getElem? (i := 57) rfl))) (by decide) (backOf (W := 1) (rmOI l Z a0 hw [] b1 a0_  h1 n0 (Nat.le_trans Z0 E1.1) A1 g_b1 F_value_b1 ) hZ (hw _ (List.mem_of_getElem? (i := 57) rfl)) (hw _ (List.mem_of_getElem? (i := 46) rfl)) (by decide) (by decide)) (g := (mkF m 8 #[.val (.ref a0_)] [(.ref a0_), (.ref b1), (.ref b1)])) rfl (by rw [hml]; rfl) (Steps.refl _) (a := b1) (argsL := [(.ref a0_)]) (rest := [(.ref b1)]) (lenOf own_pd3 rfl) rfl (by show 2 * 0 + _ ≤ _; exact Nat.le_of_eq rfl) (hb hby d10_8) (fun _ _ => ⟨rfl, e4q, (by decide : 1 + 0 ≤ _), (by decide : 1 + 0 ≤ _)⟩)
  dsimp only [Pt.U, Pt.locs, Pt.cells, Pt.slots] at X6 l6 y6 z6 st6 hQ6
  subst l6 y6 z6
  obtain ⟨rfl, N6q, K6q, G6_0⟩ := hQ6
  have N6 := Fr.app N4 N6q
  have KK6 : Keep h0 T6.heap [] := Keep.trans K1 K6q (allS (Or.inr sz_b1) all0)
  have a7 : ∀ t, Steps p.tables e below (T6.setTop (mkF m 11 #[.val (.ref a0_)] [(.ref b1)])) t → Steps p.tables e below (s₁.setTop (entryFrame m #[(.ref a0_)] 1)) t := fun t k => a5 t (st6.trans k)
  obtain ⟨fs, hr, hrun, hended, hW, hsame⟩ := X6.leave (v := some (.ref b1)) (fun h => by rw [Bd.returns] at h; cases h)
  refine ⟨_, _, a7 _ ?_, hrun, hended, _, _, rfl, ?_, ⟨_, rfl⟩, hW, hsame.mono (by decide) (by decide)⟩
  · show Steps p.tables e below (T6.setTop (mkF m 11 #[.val (.ref a0_)] [(.ref b1)])) _
    exact retOut X6 hx Bd.returns rfl (Or.inr (Or.inr (Or.inr (Or.inr ⟨rfl, rfl, rfl⟩)))) (hb hby d10_11) hr
  · show QOf Z a0_ h0 n0 _ T6.heap _
    exact ⟨_, rfl, N6, KK6, (A1.keep K6q), G6_0⟩
theorem ef_rmIP (m : MethodId) (x0 : Addr) : entryFrame m #[(.ref x0)] 1 = mkF m 0 #[.val (.ref x0)] [] := by first | (simp [entryFrame, mkF, argsToLocals, Value.category]; done) | rfl
theorem d17_0 : decode jdk_32_method_6_code 0 = .ok (.aload_n 0, 1) := by decide +kernel
theorem d17_1 : decode jdk_32_method_6_code 1 = .ok (.getfield 13, 3) := by decide +kernel
theorem d17_4 : decode jdk_32_method_6_code 4 = .ok (.ifnull 7, 3) := by decide +kernel
theorem d17_7 : decode jdk_32_method_6_code 7 = .ok (.iconst 1, 1) := by decide +kernel
theorem d17_8 : decode jdk_32_method_6_code 8 = .ok (.goto 4, 3) := by decide +kernel
theorem d17_12 : decode jdk_32_method_6_code 12 = .ok (.ireturn, 1) := by decide +kernel
def QrmIP (Z : State) (a0_ : Addr) (x1 : Addr) (h0 : Heap) (n0 : Nat) (v : Option Value) (h : Heap) (L : List Loc) : Prop := v = some (.int 1) ∧ Fr n0 L ∧ h = h0
set_option maxRecDepth 65536 in
set_option maxHeartbeats 40000000 in
theorem rmIP (l : Launch) (Z : State) (a0 : Array Value) (hw : ∀ d ∈ tables_1, d.before a0 Z = true) (ws : List Jvm.Cond) (a0_ : Addr) (x1 : Addr) (h0 : Heap) (n0 : Nat) (Z0 : n0 ≤ h0.size) (F1 : Fld Z h0 a0_ "java/util/Optional" "value" "Ljava/lang/Object;" (.ref x1)) :
    MetFree l (⟨"java/util/Optional", "isPresent", "()Z"⟩ : MethodName) (head1 (Jvm.Cond.code (⟨"java/util/Optional", "isPresent", "()Z"⟩ : MethodName) jdk_32_method_6_code 1 (some .boolean) :: ws) ({ frames := 0, cells := 0, slots := 0, locals := 0 } : Room)) (fun a U => a = #[(.ref a0_)] ∧ Z.Warmed39 U.vm ∧ U.heap = h0) (fun _ _ _ _ _ => True) (fun _ U o U' => ∃ v L, o = .returned v ∧ QrmIP Z a0_ x1 h0 n0 v U'.heap L ∧ FrameEnd U o U' L ({ frames := 0, cells := 0, slots := 0, locals := 0 } : Room).cells ({ frames := 0, cells := 0, slots := 0, locals := 0 } : Room).slots) := by
  refine MetFree.of_bodySF (plainFor_of_name own_pn_java_util_Optional) hisR ?_
  intro p e s m args below meth c s₁ Bd hml0 hP hK
  obtain ⟨rfl, hZ, hh⟩ := hP
  have hx := Bd.exec
  have hby := Bd.bytes
  have hml : c.maxLocals = 1 := hml0
  have hown : s.vm.findClass "java/util/Optional" = some m.cls := findClass_of_methodNamed Bd.named
  have hnm := (name_of_methodNamed Bd.named Bd.method).1
  have X0 : Stand p l e ({ frames := 0, cells := 0, slots := 0, locals := 0 } : Room) s m #[(.ref a0_)] below meth c s₁ [] 0 0 := Stand.of_body Bd
  have e0 : s₁.heap = h0 := by rw [← hh, Bd.state]; rfl
  have N0 := Fr.nil n0
  have pre0 : ∀ t, Steps p.tables e below (s₁.setTop (mkF m 0 #[.val (.ref a0_)] [])) t → Steps p.tables e below (s₁.setTop (entryFrame m #[(.ref a0_)] 1)) t := fun t k => castTop (ef_rmIP m a0_) k
  have a1 : ∀ t, Steps p.tables e below (s₁.setTop (mkF m 1 #[.val (.ref a0_)] [(.ref a0_)])) t → Steps p.tables e below (s₁.setTop (entryFrame m #[(.ref a0_)] 1)) t := by
    intro t k
    refine pre0 t ?_
    show Steps p.tables e below (s₁.setTop (mkF m 0 #[.val (.ref a0_)] [])) _
    refine XS.aloadN X0.here hx rfl (hb hby d17_0) rfl rfl ?_
    exact k
  obtain ⟨T2, X2, e2, st2⟩ := getF X0 hx hZ hown (host := "") (Or.inl (hw _ (List.mem_of_getElem? (i := 59) rfl))) Via.refl e0 F1 (g := (mkF m 1 #[.val (.ref a0_)] [(.ref a0_)])) rfl rfl (hb hby d17_1)
  have a3 : ∀ t, Steps p.tables e below (T2.setTop (mkF m 4 #[.val (.ref a0_)] [(.ref x1)])) t → Steps p.tables e below (s₁.setTop (entryFrame m #[(.ref a0_)] 1)) t := fun t k => a1 t (st2 t k)
  have a4 : ∀ t, Steps p.tables e below (T2.setTop (mkF m 12 #[.val (.ref a0_)] [(.int (1 : Int32))])) t → Steps p.tables e below (s₁.setTop (entryFrame m #[(.ref a0_)] 1)) t := by
    intro t k
    refine a3 t ?_
    show Steps p.tables e below (T2.setTop (mkF m 4 #[.val (.ref a0_)] [(.ref x1)])) _
    refine XS.ifnullNo X2.here hx rfl (hb hby d17_4) rfl ?_
    show Steps p.tables e below (T2.setTop (mkF m 7 #[.val (.ref a0_)] [])) _
    refine XS.iconst X2.here hx rfl (hb hby d17_7) ?_
    show Steps p.tables e below (T2.setTop (mkF m 8 #[.val (.ref a0_)] [(.int (1 : Int32))])) _
    refine XS.goto X2.here hx rfl (pc0 := 8) (pc' := 12) rfl (hb hby d17_8) (by decide) (by decide) ?_
    exact k
  obtain ⟨fs, hr, hrun, hended, hW, hsame⟩ := X2.leave (v := some (.int (1 : Int32))) (fun h => by rw [Bd.returns] at h; cases h)
  refine ⟨_, _, a4 _ ?_, hrun, hended, _, _, rfl, ?_, ⟨_, rfl⟩, hW, hsame.mono (by decide) (by decide)⟩
  · show Steps p.tables e below (T2.setTop (mkF m 12 #[.val (.ref a0_)] [(.int (1 : Int32))])) _
    exact retN X2 hx (t := .boolean) Bd.returns (by simp) (hb hby d17_12) hr
  · show QrmIP Z a0_ x1 h0 n0 _ T2.heap _
    rw [e2]
    exact ⟨rfl, N0, rfl⟩
theorem ef_rmGet (m : MethodId) (x0 : Addr) : entryFrame m #[(.ref x0)] 1 = mkF m 0 #[.val (.ref x0)] [] := by first | (simp [entryFrame, mkF, argsToLocals, Value.category]; done) | rfl
theorem d18_0 : decode jdk_32_method_5_code 0 = .ok (.aload_n 0, 1) := by decide +kernel
theorem d18_1 : decode jdk_32_method_5_code 1 = .ok (.getfield 13, 3) := by decide +kernel
theorem d18_4 : decode jdk_32_method_5_code 4 = .ok (.ifnonnull 13, 3) := by decide +kernel
theorem d18_17 : decode jdk_32_method_5_code 17 = .ok (.aload_n 0, 1) := by decide +kernel
theorem d18_18 : decode jdk_32_method_5_code 18 = .ok (.getfield 13, 3) := by decide +kernel
theorem d18_21 : decode jdk_32_method_5_code 21 = .ok (.areturn, 1) := by decide +kernel
def QrmGet (Z : State) (a0_ : Addr) (x1 : Addr) (h0 : Heap) (n0 : Nat) (v : Option Value) (h : Heap) (L : List Loc) : Prop := v = some (.ref x1) ∧ Fr n0 L ∧ h = h0
set_option maxRecDepth 65536 in
set_option maxHeartbeats 40000000 in
theorem rmGet (l : Launch) (Z : State) (a0 : Array Value) (hw : ∀ d ∈ tables_1, d.before a0 Z = true) (ws : List Jvm.Cond) (a0_ : Addr) (x1 : Addr) (h0 : Heap) (n0 : Nat) (Z0 : n0 ≤ h0.size) (F1 : Fld Z h0 a0_ "java/util/Optional" "value" "Ljava/lang/Object;" (.ref x1)) :
    MetFree l (⟨"java/util/Optional", "get", "()Ljava/lang/Object;"⟩ : MethodName) (head1 (Jvm.Cond.code (⟨"java/util/Optional", "get", "()Ljava/lang/Object;"⟩ : MethodName) jdk_32_method_5_code 1 (some (.object "java/lang/Object")) :: ws) ({ frames := 0, cells := 0, slots := 0, locals := 0 } : Room)) (fun a U => a = #[(.ref a0_)] ∧ Z.Warmed39 U.vm ∧ U.heap = h0) (fun _ _ _ _ _ => True) (fun _ U o U' => ∃ v L, o = .returned v ∧ QrmGet Z a0_ x1 h0 n0 v U'.heap L ∧ FrameEnd U o U' L ({ frames := 0, cells := 0, slots := 0, locals := 0 } : Room).cells ({ frames := 0, cells := 0, slots := 0, locals := 0 } : Room).slots) := by
  refine MetFree.of_bodySF (plainFor_of_name own_pn_java_util_Optional) hisR ?_
  intro p e s m args below meth c s₁ Bd hml0 hP hK
  obtain ⟨rfl, hZ, hh⟩ := hP
  have hx := Bd.exec
  have hby := Bd.bytes
  have hml : c.maxLocals = 1 := hml0
  have hown : s.vm.findClass "java/util/Optional" = some m.cls := findClass_of_methodNamed Bd.named
  have hnm := (name_of_methodNamed Bd.named Bd.method).1
  have X0 : Stand p l e ({ frames := 0, cells := 0, slots := 0, locals := 0 } : Room) s m #[(.ref a0_)] below meth c s₁ [] 0 0 := Stand.of_body Bd
  have e0 : s₁.heap = h0 := by rw [← hh, Bd.state]; rfl
  have N0 := Fr.nil n0
  have pre0 : ∀ t, Steps p.tables e below (s₁.setTop (mkF m 0 #[.val (.ref a0_)] [])) t → Steps p.tables e below (s₁.setTop (entryFrame m #[(.ref a0_)] 1)) t := fun t k => castTop (ef_rmGet m a0_) k
  have a1 : ∀ t, Steps p.tables e below (s₁.setTop (mkF m 1 #[.val (.ref a0_)] [(.ref a0_)])) t → Steps p.tables e below (s₁.setTop (entryFrame m #[(.ref a0_)] 1)) t := by
    intro t k
    refine pre0 t ?_
    show Steps p.tables e below (s₁.setTop (mkF m 0 #[.val (.ref a0_)] [])) _
    refine XS.aloadN X0.here hx rfl (hb hby d18_0) rfl rfl ?_
    exact k
  obtain ⟨T2, X2, e2, st2⟩ := getF X0 hx hZ hown (host := "") (Or.inl (hw _ (List.mem_of_getElem? (i := 59) rfl))) Via.refl e0 F1 (g := (mkF m 1 #[.val (.ref a0_)] [(.ref a0_)])) rfl rfl (hb hby d18_1)
  have a3 : ∀ t, Steps p.tables e below (T2.setTop (mkF m 4 #[.val (.ref a0_)] [(.ref x1)])) t → Steps p.tables e below (s₁.setTop (entryFrame m #[(.ref a0_)] 1)) t := fun t k => a1 t (st2 t k)
  have a4 : ∀ t, Steps p.tables e below (T2.setTop (mkF m 18 #[.val (.ref a0_)] [(.ref a0_)])) t → Steps p.tables e below (s₁.setTop (entryFrame m #[(.ref a0_)] 1)) t := by
    intro t k
    refine a3 t ?_
    show Steps p.tables e below (T2.setTop (mkF m 4 #[.val (.ref a0_)] [(.ref x1)])) _
    refine XS.ifnonnullYes X2.here hx rfl (pc0 := 4) (pc' := 17) rfl (hb hby d18_4) rfl (by decide) (by decide) ?_
    show Steps p.tables e below (T2.setTop (mkF m 17 #[.val (.ref a0_)] [])) _
    refine XS.aloadN X2.here hx rfl (hb hby d18_17) rfl rfl ?_
    exact k
  obtain ⟨T5, X5, e5, st5⟩ := getF X2 hx hZ hown (host := "") (Or.inl (hw _ (List.mem_of_getElem? (i := 59) rfl))) Via.refl e2 F1 (g := (mkF m 18 #[.val (.ref a0_)] [(.ref a0_)])) rfl rfl (hb hby d18_18)
  have a6 : ∀ t, Steps p.tables e below (T5.setTop (mkF m 21 #[.val (.ref a0_)] [(.ref x1)])) t → Steps p.tables e below (s₁.setTop (entryFrame m #[(.ref a0_)] 1)) t := fun t k => a4 t (st5 t k)
  obtain ⟨fs, hr, hrun, hended, hW, hsame⟩ := X5.leave (v := some (.ref x1)) (fun h => by rw [Bd.returns] at h; cases h)
  refine ⟨_, _, a6 _ ?_, hrun, hended, _, _, rfl, ?_, ⟨_, rfl⟩, hW, hsame.mono (by decide) (by decide)⟩
  · show Steps p.tables e below (T5.setTop (mkF m 21 #[.val (.ref a0_)] [(.ref x1)])) _
    exact retOut X5 hx Bd.returns rfl (Or.inr (Or.inr (Or.inr (Or.inr ⟨rfl, rfl, rfl⟩)))) (hb hby d18_21) hr
  · show QrmGet Z a0_ x1 h0 n0 _ T5.heap _
    rw [e5]
    exact ⟨rfl, N0, rfl⟩
theorem ef_rmOE (m : MethodId) (x0 : Addr) : entryFrame m #[(.ref x0), .null] 2 = mkF m 0 #[.val (.ref x0), .val .null] [] := by first | (simp [entryFrame, mkF, argsToLocals, Value.category]; done) | rfl
theorem d23_0 : decode jdk_32_method_15_code 0 = .ok (.aload_n 0, 1) := by decide +kernel
theorem d23_1 : decode jdk_32_method_15_code 1 = .ok (.getfield 13, 3) := by decide +kernel
theorem d23_4 : decode jdk_32_method_15_code 4 = .ok (.ifnull 10, 3) := by decide +kernel
theorem d23_7 : decode jdk_32_method_15_code 7 = .ok (.aload_n 0, 1) := by decide +kernel
theorem d23_8 : decode jdk_32_method_15_code 8 = .ok (.getfield 13, 3) := by decide +kernel
theorem d23_11 : decode jdk_32_method_15_code 11 = .ok (.goto 4, 3) := by decide +kernel
theorem d23_15 : decode jdk_32_method_15_code 15 = .ok (.areturn, 1) := by decide +kernel
def QrmOE (Z : State) (a0_ : Addr) (x1 : Addr) (h0 : Heap) (n0 : Nat) (v : Option Value) (h : Heap) (L : List Loc) : Prop := v = some (.ref x1) ∧ Fr n0 L ∧ h = h0
set_option maxRecDepth 65536 in
set_option maxHeartbeats 40000000 in
theorem rmOE (l : Launch) (Z : State) (a0 : Array Value) (hw : ∀ d ∈ tables_1, d.before a0 Z = true) (ws : List Jvm.Cond) (a0_ : Addr) (x1 : Addr) (h0 : Heap) (n0 : Nat) (Z0 : n0 ≤ h0.size) (F1 : Fld Z h0 a0_ "java/util/Optional" "value" "Ljava/lang/Object;" (.ref x1)) :
    MetFree l (⟨"java/util/Optional", "orElse", "(Ljava/lang/Object;)Ljava/lang/Object;"⟩ : MethodName) (head1 (Jvm.Cond.code (⟨"java/util/Optional", "orElse", "(Ljava/lang/Object;)Ljava/lang/Object;"⟩ : MethodName) jdk_32_method_15_code 2 (some (.object "java/lang/Object")) :: ws) ({ frames := 0, cells := 0, slots := 0, locals := 0 } : Room)) (fun a U => a = #[(.ref a0_), .null] ∧ Z.Warmed39 U.vm ∧ U.heap = h0) (fun _ _ _ _ _ => True) (fun _ U o U' => ∃ v L, o = .returned v ∧ QrmOE Z a0_ x1 h0 n0 v U'.heap L ∧ FrameEnd U o U' L ({ frames := 0, cells := 0, slots := 0, locals := 0 } : Room).cells ({ frames := 0, cells := 0, slots := 0, locals := 0 } : Room).slots) := by
  refine MetFree.of_bodySF (plainFor_of_name own_pn_java_util_Optional) hisR ?_
  intro p e s m args below meth c s₁ Bd hml0 hP hK
  obtain ⟨rfl, hZ, hh⟩ := hP
  have hx := Bd.exec
  have hby := Bd.bytes
  have hml : c.maxLocals = 2 := hml0
  have hown : s.vm.findClass "java/util/Optional" = some m.cls := findClass_of_methodNamed Bd.named
  have hnm := (name_of_methodNamed Bd.named Bd.method).1
  have X0 : Stand p l e ({ frames := 0, cells := 0, slots := 0, locals := 0 } : Room) s m #[(.ref a0_), .null] below meth c s₁ [] 0 0 := Stand.of_body Bd
  have e0 : s₁.heap = h0 := by rw [← hh, Bd.state]; rfl
  have N0 := Fr.nil n0
  have pre0 : ∀ t, Steps p.tables e below (s₁.setTop (mkF m 0 #[.val (.ref a0_), .val .null] [])) t → Steps p.tables e below (s₁.setTop (entryFrame m #[(.ref a0_), .null] 2)) t := fun t k => castTop (ef_rmOE m a0_) k
  have a1 : ∀ t, Steps p.tables e below (s₁.setTop (mkF m 1 #[.val (.ref a0_), .val .null] [(.ref a0_)])) t → Steps p.tables e below (s₁.setTop (entryFrame m #[(.ref a0_), .null] 2)) t := by
    intro t k
    refine pre0 t ?_
    show Steps p.tables e below (s₁.setTop (mkF m 0 #[.val (.ref a0_), .val .null] [])) _
    refine XS.aloadN X0.here hx rfl (hb hby d23_0) rfl rfl ?_
    exact k
  obtain ⟨T2, X2, e2, st2⟩ := getF X0 hx hZ hown (host := "") (Or.inl (hw _ (List.mem_of_getElem? (i := 59) rfl))) Via.refl e0 F1 (g := (mkF m 1 #[.val (.ref a0_), .val .null] [(.ref a0_)])) rfl rfl (hb hby d23_1)
  have a3 : ∀ t, Steps p.tables e below (T2.setTop (mkF m 4 #[.val (.ref a0_), .val .null] [(.ref x1)])) t → Steps p.tables e below (s₁.setTop (entryFrame m #[(.ref a0_), .null] 2)) t := fun t k => a1 t (st2 t k)
  have a4 : ∀ t, Steps p.tables e below (T2.setTop (mkF m 8 #[.val (.ref a0_), .val .null] [(.ref a0_)])) t → Steps p.tables e below (s₁.setTop (entryFrame m #[(.ref a0_), .null] 2)) t := by
    intro t k
    refine a3 t ?_
    show Steps p.tables e below (T2.setTop (mkF m 4 #[.val (.ref a0_), .val .null] [(.ref x1)])) _
    refine XS.ifnullNo X2.here hx rfl (hb hby d23_4) rfl ?_
    show Steps p.tables e below (T2.setTop (mkF m 7 #[.val (.ref a0_), .val .null] [])) _
    refine XS.aloadN X2.here hx rfl (hb hby d23_7) rfl rfl ?_
    exact k
  obtain ⟨T5, X5, e5, st5⟩ := getF X2 hx hZ hown (host := "") (Or.inl (hw _ (List.mem_of_getElem? (i := 59) rfl))) Via.refl e2 F1 (g := (mkF m 8 #[.val (.ref a0_), .val .null] [(.ref a0_)])) rfl rfl (hb hby d23_8)
  have a6 : ∀ t, Steps p.tables e below (T5.setTop (mkF m 11 #[.val (.ref a0_), .val .null] [(.ref x1)])) t → Steps p.tables e below (s₁.setTop (entryFrame m #[(.ref a0_), .null] 2)) t := fun t k => a4 t (st5 t k)
  have a7 : ∀ t, Steps p.tables e below (T5.setTop (mkF m 15 #[.val (.ref a0_), .val .null] [(.ref x1)])) t → Steps p.tables e below (s₁.setTop (entryFrame m #[(.ref a0_), .null] 2)) t := by
    intro t k
    refine a6 t ?_
    show Steps p.tables e below (T5.setTop (mkF m 11 #[.val (.ref a0_), .val .null] [(.ref x1)])) _
    refine XS.goto X5.here hx rfl (pc0 := 11) (pc' := 15) rfl (hb hby d23_11) (by decide) (by decide) ?_
    exact k
  obtain ⟨fs, hr, hrun, hended, hW, hsame⟩ := X5.leave (v := some (.ref x1)) (fun h => by rw [Bd.returns] at h; cases h)
  refine ⟨_, _, a7 _ ?_, hrun, hended, _, _, rfl, ?_, ⟨_, rfl⟩, hW, hsame.mono (by decide) (by decide)⟩
  · show Steps p.tables e below (T5.setTop (mkF m 15 #[.val (.ref a0_), .val .null] [(.ref x1)])) _
    exact retOut X5 hx Bd.returns rfl (Or.inr (Or.inr (Or.inr (Or.inr ⟨rfl, rfl, rfl⟩)))) (hb hby d23_15) hr
  · show QrmOE Z a0_ x1 h0 n0 _ T5.heap _
    rw [e5]
    exact ⟨rfl, N0, rfl⟩
theorem ef_rmLo (m : MethodId) (x0 : Addr) : entryFrame m #[(.ref x0)] 1 = mkF m 0 #[.val (.ref x0)] [] := by first | (simp [entryFrame, mkF, argsToLocals, Value.category]; done) | rfl
theorem d19_0 : decode prog_6_method_7_code 0 = .ok (.aload_n 0, 1) := by decide +kernel
theorem d19_1 : decode prog_6_method_7_code 1 = .ok (.getfield 16, 3) := by decide +kernel
theorem d19_4 : decode prog_6_method_7_code 4 = .ok (.dreturn, 1) := by decide +kernel
def QrmLo (Z : State) (a0_ : Addr) (x1 : UInt64) (h0 : Heap) (n0 : Nat) (v : Option Value) (h : Heap) (L : List Loc) : Prop := v = some (.double x1) ∧ Fr n0 L ∧ h = h0
set_option maxRecDepth 65536 in
set_option maxHeartbeats 40000000 in
theorem rmLo (l : Launch) (Z : State) (a0 : Array Value) (hw : ∀ d ∈ tables_1, d.before a0 Z = true) (ws : List Jvm.Cond) (a0_ : Addr) (x1 : UInt64) (h0 : Heap) (n0 : Nat) (Z0 : n0 ≤ h0.size) (F1 : Fld Z h0 a0_ "com/example/pinched_bounds/pinchedbounds/Interval" "lower" "D" (.double x1)) :
    MetFree l (⟨"com/example/pinched_bounds/pinchedbounds/Interval", "lower", "()D"⟩ : MethodName) (head1 (Jvm.Cond.code (⟨"com/example/pinched_bounds/pinchedbounds/Interval", "lower", "()D"⟩ : MethodName) prog_6_method_7_code 1 (some .double) :: ws) ({ frames := 0, cells := 0, slots := 0, locals := 0 } : Room)) (fun a U => a = #[(.ref a0_)] ∧ Z.Warmed39 U.vm ∧ U.heap = h0) (fun _ _ _ _ _ => True) (fun _ U o U' => ∃ v L, o = .returned v ∧ QrmLo Z a0_ x1 h0 n0 v U'.heap L ∧ FrameEnd U o U' L ({ frames := 0, cells := 0, slots := 0, locals := 0 } : Room).cells ({ frames := 0, cells := 0, slots := 0, locals := 0 } : Room).slots) := by
  refine MetFree.of_bodySF (plainFor_of_name own_pn_com_example_pinched_bounds_pinchedbounds_Interval) hisR ?_
  intro p e s m args below meth c s₁ Bd hml0 hP hK
  obtain ⟨rfl, hZ, hh⟩ := hP
  have hx := Bd.exec
  have hby := Bd.bytes
  have hml : c.maxLocals = 1 := hml0
  have hown : s.vm.findClass "com/example/pinched_bounds/pinchedbounds/Interval" = some m.cls := findClass_of_methodNamed Bd.named
  have hnm := (name_of_methodNamed Bd.named Bd.method).1
  have X0 : Stand p l e ({ frames := 0, cells := 0, slots := 0, locals := 0 } : Room) s m #[(.ref a0_)] below meth c s₁ [] 0 0 := Stand.of_body Bd
  have e0 : s₁.heap = h0 := by rw [← hh, Bd.state]; rfl
  have N0 := Fr.nil n0
  have pre0 : ∀ t, Steps p.tables e below (s₁.setTop (mkF m 0 #[.val (.ref a0_)] [])) t → Steps p.tables e below (s₁.setTop (entryFrame m #[(.ref a0_)] 1)) t := fun t k => castTop (ef_rmLo m a0_) k
  have a1 : ∀ t, Steps p.tables e below (s₁.setTop (mkF m 1 #[.val (.ref a0_)] [(.ref a0_)])) t → Steps p.tables e below (s₁.setTop (entryFrame m #[(.ref a0_)] 1)) t := by
    intro t k
    refine pre0 t ?_
    show Steps p.tables e below (s₁.setTop (mkF m 0 #[.val (.ref a0_)] [])) _
    refine XS.aloadN X0.here hx rfl (hb hby d19_0) rfl rfl ?_
    exact k
  obtain ⟨T2, X2, e2, st2⟩ := getF X0 hx hZ hown (host := "") (Or.inl (hw _ (List.mem_of_getElem? (i := 22) rfl))) Via.refl e0 F1 (g := (mkF m 1 #[.val (.ref a0_)] [(.ref a0_)])) rfl rfl (hb hby d19_1)
  have a3 : ∀ t, Steps p.tables e below (T2.setTop (mkF m 4 #[.val (.ref a0_)] [(.double x1)])) t → Steps p.tables e below (s₁.setTop (entryFrame m #[(.ref a0_)] 1)) t := fun t k => a1 t (st2 t k)
  obtain ⟨fs, hr, hrun, hended, hW, hsame⟩ := X2.leave (v := some (.double x1)) (fun h => by rw [Bd.returns] at h; cases h)
  refine ⟨_, _, a3 _ ?_, hrun, hended, _, _, rfl, ?_, ⟨_, rfl⟩, hW, hsame.mono (by decide) (by decide)⟩
  · show Steps p.tables e below (T2.setTop (mkF m 4 #[.val (.ref a0_)] [(.double x1)])) _
    exact retOut X2 hx Bd.returns rfl (Or.inr (Or.inr (Or.inl ⟨rfl, rfl, _, rfl⟩))) (hb hby d19_4) hr
  · show QrmLo Z a0_ x1 h0 n0 _ T2.heap _
    rw [e2]
    exact ⟨rfl, N0, rfl⟩
theorem ef_rmUp (m : MethodId) (x0 : Addr) : entryFrame m #[(.ref x0)] 1 = mkF m 0 #[.val (.ref x0)] [] := by first | (simp [entryFrame, mkF, argsToLocals, Value.category]; done) | rfl
theorem d20_0 : decode prog_6_method_8_code 0 = .ok (.aload_n 0, 1) := by decide +kernel
theorem d20_1 : decode prog_6_method_8_code 1 = .ok (.getfield 22, 3) := by decide +kernel
theorem d20_4 : decode prog_6_method_8_code 4 = .ok (.dreturn, 1) := by decide +kernel
def QrmUp (Z : State) (a0_ : Addr) (x1 : UInt64) (h0 : Heap) (n0 : Nat) (v : Option Value) (h : Heap) (L : List Loc) : Prop := v = some (.double x1) ∧ Fr n0 L ∧ h = h0
set_option maxRecDepth 65536 in
set_option maxHeartbeats 40000000 in
theorem rmUp (l : Launch) (Z : State) (a0 : Array Value) (hw : ∀ d ∈ tables_1, d.before a0 Z = true) (ws : List Jvm.Cond) (a0_ : Addr) (x1 : UInt64) (h0 : Heap) (n0 : Nat) (Z0 : n0 ≤ h0.size) (F1 : Fld Z h0 a0_ "com/example/pinched_bounds/pinchedbounds/Interval" "upper" "D" (.double x1)) :
    MetFree l (⟨"com/example/pinched_bounds/pinchedbounds/Interval", "upper", "()D"⟩ : MethodName) (head1 (Jvm.Cond.code (⟨"com/example/pinched_bounds/pinchedbounds/Interval", "upper", "()D"⟩ : MethodName) prog_6_method_8_code 1 (some .double) :: ws) ({ frames := 0, cells := 0, slots := 0, locals := 0 } : Room)) (fun a U => a = #[(.ref a0_)] ∧ Z.Warmed39 U.vm ∧ U.heap = h0) (fun _ _ _ _ _ => True) (fun _ U o U' => ∃ v L, o = .returned v ∧ QrmUp Z a0_ x1 h0 n0 v U'.heap L ∧ FrameEnd U o U' L ({ frames := 0, cells := 0, slots := 0, locals := 0 } : Room).cells ({ frames := 0, cells := 0, slots := 0, locals := 0 } : Room).slots) := by
  refine MetFree.of_bodySF (plainFor_of_name own_pn_com_example_pinched_bounds_pinchedbounds_Interval) hisR ?_
  intro p e s m args below meth c s₁ Bd hml0 hP hK
  obtain ⟨rfl, hZ, hh⟩ := hP
  have hx := Bd.exec
  have hby := Bd.bytes
  have hml : c.maxLocals = 1 := hml0
  have hown : s.vm.findClass "com/example/pinched_bounds/pinchedbounds/Interval" = some m.cls := findClass_of_methodNamed Bd.named
  have hnm := (name_of_methodNamed Bd.named Bd.method).1
  have X0 : Stand p l e ({ frames := 0, cells := 0, slots := 0, locals := 0 } : Room) s m #[(.ref a0_)] below meth c s₁ [] 0 0 := Stand.of_body Bd
  have e0 : s₁.heap = h0 := by rw [← hh, Bd.state]; rfl
  have N0 := Fr.nil n0
  have pre0 : ∀ t, Steps p.tables e below (s₁.setTop (mkF m 0 #[.val (.ref a0_)] [])) t → Steps p.tables e below (s₁.setTop (entryFrame m #[(.ref a0_)] 1)) t := fun t k => castTop (ef_rmUp m a0_) k
  have a1 : ∀ t, Steps p.tables e below (s₁.setTop (mkF m 1 #[.val (.ref a0_)] [(.ref a0_)])) t → Steps p.tables e below (s₁.setTop (entryFrame m #[(.ref a0_)] 1)) t := by
    intro t k
    refine pre0 t ?_
    show Steps p.tables e below (s₁.setTop (mkF m 0 #[.val (.ref a0_)] [])) _
    refine XS.aloadN X0.here hx rfl (hb hby d20_0) rfl rfl ?_
    exact k
  obtain ⟨T2, X2, e2, st2⟩ := getF X0 hx hZ hown (host := "") (Or.inl (hw _ (List.mem_of_getElem? (i := 24) rfl))) Via.refl e0 F1 (g := (mkF m 1 #[.val (.ref a0_)] [(.ref a0_)])) rfl rfl (hb hby d20_1)
  have a3 : ∀ t, Steps p.tables e below (T2.setTop (mkF m 4 #[.val (.ref a0_)] [(.double x1)])) t → Steps p.tables e below (s₁.setTop (entryFrame m #[(.ref a0_)] 1)) t := fun t k => a1 t (st2 t k)
  obtain ⟨fs, hr, hrun, hended, hW, hsame⟩ := X2.leave (v := some (.double x1)) (fun h => by rw [Bd.returns] at h; cases h)
  refine ⟨_, _, a3 _ ?_, hrun, hended, _, _, rfl, ?_, ⟨_, rfl⟩, hW, hsame.mono (by decide) (by decide)⟩
  · show Steps p.tables e below (T2.setTop (mkF m 4 #[.val (.ref a0_)] [(.double x1)])) _
    exact retOut X2 hx Bd.returns rfl (Or.inr (Or.inr (Or.inl ⟨rfl, rfl, _, rfl⟩))) (hb hby d20_4) hr
  · show QrmUp Z a0_ x1 h0 n0 _ T2.heap _
    rw [e2]
    exact ⟨rfl, N0, rfl⟩
theorem ef_rmFits (m : MethodId) (x0 : UInt64) (x1 : Addr) : entryFrame m #[(.double x0), (.ref x1)] 4 = mkF m 0 #[.val (.double x0), .second, .val (.ref x1), .unset] [] := by first | (simp [entryFrame, mkF, argsToLocals, Value.category]; done) | rfl
theorem d16_0 : decode prog_1_method_5_code 0 = .ok (.aload_n 2, 1) := by decide +kernel
theorem d16_1 : decode prog_1_method_5_code 1 = .ok (.invokevirtual 79, 3) := by decide +kernel
theorem own_pd4 : parseMethodDescriptor "()Z" = some ⟨[], some .boolean⟩ := by decide +kernel
theorem d16_4 : decode prog_1_method_5_code 4 = .ok (.ifCond .eq 42, 3) := by decide +kernel
theorem d16_7 : decode prog_1_method_5_code 7 = .ok (.aload_n 2, 1) := by decide +kernel
theorem d16_8 : decode prog_1_method_5_code 8 = .ok (.invokevirtual 83, 3) := by decide +kernel
theorem own_pd5 : parseMethodDescriptor "()Ljava/lang/Object;" = some ⟨[], some (.object "java/lang/Object")⟩ := by decide +kernel
theorem d16_11 : decode prog_1_method_5_code 11 = .ok (.checkcast 58, 3) := by decide +kernel
theorem d16_14 : decode prog_1_method_5_code 14 = .ok (.invokevirtual 87, 3) := by decide +kernel
theorem own_pd6 : parseMethodDescriptor "()D" = some ⟨[], some .double⟩ := by decide +kernel
theorem d16_17 : decode prog_1_method_5_code 17 = .ok (.dload_n 0, 1) := by decide +kernel
theorem d16_18 : decode prog_1_method_5_code 18 = .ok (.dcmp .g, 1) := by decide +kernel
theorem d16_19 : decode prog_1_method_5_code 19 = .ok (.ifCond .gt 22, 3) := by decide +kernel
theorem d16_22 : decode prog_1_method_5_code 22 = .ok (.dload_n 0, 1) := by decide +kernel
theorem d16_23 : decode prog_1_method_5_code 23 = .ok (.aload_n 2, 1) := by decide +kernel
theorem d16_24 : decode prog_1_method_5_code 24 = .ok (.invokevirtual 83, 3) := by decide +kernel
theorem d16_27 : decode prog_1_method_5_code 27 = .ok (.checkcast 58, 3) := by decide +kernel
theorem d16_30 : decode prog_1_method_5_code 30 = .ok (.invokevirtual 90, 3) := by decide +kernel
theorem d16_33 : decode prog_1_method_5_code 33 = .ok (.dcmp .g, 1) := by decide +kernel
theorem d16_34 : decode prog_1_method_5_code 34 = .ok (.ifCond .gt 7, 3) := by decide +kernel
theorem d16_37 : decode prog_1_method_5_code 37 = .ok (.iconst 1, 1) := by decide +kernel
theorem d16_38 : decode prog_1_method_5_code 38 = .ok (.goto 4, 3) := by decide +kernel
theorem d16_42 : decode prog_1_method_5_code 42 = .ok (.istore_n 3, 1) := by decide +kernel
theorem d16_43 : decode prog_1_method_5_code 43 = .ok (.goto 16, 3) := by decide +kernel
theorem d16_59 : decode prog_1_method_5_code 59 = .ok (.iload_n 3, 1) := by decide +kernel
theorem d16_60 : decode prog_1_method_5_code 60 = .ok (.ireturn, 1) := by decide +kernel
theorem own_pn_com_example_pinched_bounds_pinchedbounds_Answer : plainName "com/example/pinched_bounds/pinchedbounds/Answer" = true := by first | (simp [plainName, overriddenIn]; done) | decide +kernel
def QFits (Z : State) (dv : UInt64) (o2 : Addr) (iv : Addr) (lw up : UInt64) (h0 : Heap) (n0 : Nat) (v : Option Value) (h : Heap) (L : List Loc) : Prop := v = some (.int 1) ∧ Fr n0 L ∧ h = h0
set_option maxRecDepth 65536 in
set_option maxHeartbeats 40000000 in
theorem rmFits (l : Launch) (Z : State) (a0 : Array Value) (hw : ∀ d ∈ tables_1, d.before a0 Z = true) (ws : List Jvm.Cond) (dv : UInt64) (o2 : Addr) (iv : Addr) (lw up : UInt64) (h0 : Heap) (n0 : Nat) (Z0 : n0 ≤ h0.size) (XO : Exa Z h0 o2 "java/util/Optional") (FO : Fld Z h0 o2 "java/util/Optional" "value" "Ljava/lang/Object;" (.ref iv)) (XI : Exa Z h0 iv "com/example/pinched_bounds/pinchedbounds/Interval") (FL : Fld Z h0 iv "com/example/pinched_bounds/pinchedbounds/Interval" "lower" "D" (.double lw)) (FU : Fld Z h0 iv "com/example/pinched_bounds/pinchedbounds/Interval" "upper" "D" (.double up)) (hl : ¬ ((0 : Int32) < cmpValue (FP.dcmp lw dv) .g)) (hu : ¬ ((0 : Int32) < cmpValue (FP.dcmp dv up) .g)) :
    MetFree l (⟨"com/example/pinched_bounds/pinchedbounds/Answer", "fits", "(DLjava/util/Optional;)Z"⟩ : MethodName) (head1 (Jvm.Cond.code (⟨"com/example/pinched_bounds/pinchedbounds/Answer", "fits", "(DLjava/util/Optional;)Z"⟩ : MethodName) prog_1_method_5_code 4 (some .boolean) :: ws) ({ frames := 1, cells := 0, slots := 0, locals := 14 } : Room)) (fun a U => a = #[(.double dv), (.ref o2)] ∧ Z.Warmed39 U.vm ∧ U.heap = h0) (fun _ _ _ _ _ => True) (fun _ U o U' => ∃ v L, o = .returned v ∧ QFits Z dv o2 iv lw up h0 n0 v U'.heap L ∧ FrameEnd U o U' L ({ frames := 1, cells := 0, slots := 0, locals := 14 } : Room).cells ({ frames := 1, cells := 0, slots := 0, locals := 14 } : Room).slots) := by
  refine MetFree.of_bodySF (plainFor_of_name own_pn_com_example_pinched_bounds_pinchedbounds_Answer) hisR ?_
  intro p e s m args below meth c s₁ Bd hml0 hP hK
  obtain ⟨rfl, hZ, hh⟩ := hP
  have hx := Bd.exec
  have hby := Bd.bytes
  have hml : c.maxLocals = 4 := hml0
  have hown : s.vm.findClass "com/example/pinched_bounds/pinchedbounds/Answer" = some m.cls := findClass_of_methodNamed Bd.named
  have hnm := (name_of_methodNamed Bd.named Bd.method).1
  have X0 : Stand p l e ({ frames := 1, cells := 0, slots := 0, locals := 14 } : Room) s m #[(.double dv), (.ref o2)] below meth c s₁ [] 0 0 := Stand.of_body Bd
  have e0 : s₁.heap = h0 := by rw [← hh, Bd.state]; rfl
  have N0 := Fr.nil n0
  have pre0 : ∀ t, Steps p.tables e below (s₁.setTop (mkF m 0 #[.val (.double dv), .second, .val (.ref o2), .unset] [])) t → Steps p.tables e below (s₁.setTop (entryFrame m #[(.double dv), (.ref o2)] 4)) t := fun t k => castTop (ef_rmFits m dv o2) k
  have a1 : ∀ t, Steps p.tables e below (s₁.setTop (mkF m 1 #[.val (.double dv), .second, .val (.ref o2), .unset] [(.ref o2)])) t → Steps p.tables e below (s₁.setTop (entryFrame m #[(.double dv), (.ref o2)] 4)) t := by
    intro t k
    refine pre0 t ?_
    show Steps p.tables e below (s₁.setTop (mkF m 0 #[.val (.double dv), .second, .val (.ref o2), .unset] [])) _
    refine XS.aloadN X0.here hx rfl (hb hby d16_0) rfl rfl ?_
    exact k
  obtain ⟨cq2, kq2, q2a, q2b, q2c⟩ := isOf hZ e0 XO
  obtain ⟨_, _, ⟨T2, L2, k2, n2⟩, -, X2, ⟨Lc2, hQ2, l2, y2, z2⟩, st2⟩ := X0.virtualBack hx (y := (⟨"java/util/Optional", "isPresent", "()Z"⟩ : MethodName)) (z := (⟨"java/util/Optional", "isPresent", "()Z"⟩ : MethodName)) hown (mvT hZ (hw _ (List.mem_of_getElem? (i := 82) rfl))) (mvT hZ (hw _ (List.mem_of_getElem? (i := 83) rfl))) (notFace_of_selects (args := #[]) (mvT hZ (hw _ (List.mem_of_getElem? (i := 85) rfl)))) (mvT hZ (hw _ (List.mem_of_getElem? (i := 85) rfl))) (mvT hZ (hw _ (List.mem_of_getElem? (i := 84) rfl))) (by decide) (backOf (W := 0) (rmIP l Z a0 hw [] o2 iv h0 n0 Z0 FO) hZ (hw _ (List.mem_of_getElem? (i := 86) rfl)) (hw _ (List.mem_of_getElem? (i := 46) rfl)) (by decide) (by decide)) q2a q2c (g := (mkF m 1 #[.val (.double dv), .second, .val (.ref o2), .unset] [(.ref o2)])) rfl (by rw [hml]; rfl) (Steps.refl _) (argsL := []) (rest := []) (lenOf own_pd4 rfl) rfl (by show 2 * 0 + _ ≤ _; exact Nat.le_of_eq rfl) (hb hby d16_1) (fun _ _ => ⟨rfl, e0, (by decide : 0 + 0 ≤ _), (by decide : 0 + 0 ≤ _)⟩)
  dsimp only [Pt.U, Pt.locs, Pt.cells, Pt.slots] at X2 l2 y2 z2 st2 hQ2
  subst l2 y2 z2
  obtain ⟨rfl, N2q, e2q⟩ := hQ2
  have N2 := Fr.app N0 N2q
  have a3 : ∀ t, Steps p.tables e below (T2.setTop (mkF m 4 #[.val (.double dv), .second, .val (.ref o2), .unset] [(.int (1 : Int32))])) t → Steps p.tables e below (s₁.setTop (entryFrame m #[(.double dv), (.ref o2)] 4)) t := fun t k => a1 t (st2.trans k)
  have a4 : ∀ t, Steps p.tables e below (T2.setTop (mkF m 8 #[.val (.double dv), .second, .val (.ref o2), .unset] [(.ref o2)])) t → Steps p.tables e below (s₁.setTop (entryFrame m #[(.double dv), (.ref o2)] 4)) t := by
    intro t k
    refine a3 t ?_
    show Steps p.tables e below (T2.setTop (mkF m 4 #[.val (.double dv), .second, .val (.ref o2), .unset] [(.int (1 : Int32))])) _
    refine XS.ifNo X2.here hx rfl (hb hby d16_4) rfl ((if0 _ _).trans (feq (by decide)).1) ?_
    show Steps p.tables e below (T2.setTop (mkF m 7 #[.val (.double dv), .second, .val (.ref o2), .unset] [])) _
    refine XS.aloadN X2.here hx rfl (hb hby d16_7) rfl rfl ?_
    exact k
  obtain ⟨cq5, kq5, q5a, q5b, q5c⟩ := isOf hZ e2q XO
  obtain ⟨_, _, ⟨T5, L5, k5, n5⟩, -, X5, ⟨Lc5, hQ5, l5, y5, z5⟩, st5⟩ := X2.virtualBack hx (y := (⟨"java/util/Optional", "get", "()Ljava/lang/Object;"⟩ : MethodName)) (z := (⟨"java/util/Optional", "get", "()Ljava/lang/Object;"⟩ : MethodName)) hown (mvT hZ (hw _ (List.mem_of_getElem? (i := 87) rfl))) (mvT hZ (hw _ (List.mem_of_getElem? (i := 88) rfl))) (notFace_of_selects (args := #[]) (mvT hZ (hw _ (List.mem_of_getElem? (i := 90) rfl)))) (mvT hZ (hw _ (List.mem_of_getElem? (i := 90) rfl))) (mvT hZ (hw _ (List.mem_of_getElem? (i := 89) rfl))) (by decide) (backOf (W := 0) (rmGet l Z a0 hw [] o2 iv h0 n0 Z0 FO) hZ (hw _ (List.mem_of_getElem? (i := 91) rfl)) (hw _ (List.mem_of_getElem? (i := 46) rfl)) (by decide) (by decide)) q5a q5c (g := (mkF m 8 #[.val (.double dv), .second, .val (.ref o2), .unset] [(.ref o2)])) rfl (by rw [hml]; rfl) (Steps.refl _) (argsL := []) (rest := []) (lenOf own_pd5 rfl) rfl (by show 2 * 0 + _ ≤ _; exact Nat.le_of_eq rfl) (hb hby d16_8) (fun _ _ => ⟨rfl, e2q, (by decide : 0 + 0 ≤ _), (by decide : 0 + 0 ≤ _)⟩)
  dsimp only [Pt.U, Pt.locs, Pt.cells, Pt.slots] at X5 l5 y5 z5 st5 hQ5
  subst l5 y5 z5
  obtain ⟨rfl, N5q, e5q⟩ := hQ5
  have N5 := Fr.app N2 N5q
  have a6 : ∀ t, Steps p.tables e below (T5.setTop (mkF m 11 #[.val (.double dv), .second, .val (.ref o2), .unset] [(.ref iv)])) t → Steps p.tables e below (s₁.setTop (entryFrame m #[(.double dv), (.ref o2)] 4)) t := fun t k => a4 t (st5.trans k)
  obtain ⟨T7, X7, e7, st7⟩ := castY X5 hx hZ hown (hw _ (List.mem_of_getElem? (i := 92) rfl)) e5q (Ins.self XI) (g := (mkF m 11 #[.val (.double dv), .second, .val (.ref o2), .unset] [(.ref iv)])) rfl rfl (hb hby d16_11)
  have a8 : ∀ t, Steps p.tables e below (T7.setTop (mkF m 14 #[.val (.double dv), .second, .val (.ref o2), .unset] [(.ref iv)])) t → Steps p.tables e below (s₁.setTop (entryFrame m #[(.double dv), (.ref o2)] 4)) t := fun t k => a6 t (st7 t k)
  obtain ⟨cq9, kq9, q9a, q9b, q9c⟩ := isOf hZ e7 XI
  obtain ⟨_, _, ⟨T9, L9, k9, n9⟩, -, X9, ⟨Lc9, hQ9, l9, y9, z9⟩, st9⟩ := X7.virtualBack hx (y := (⟨"com/example/pinched_bounds/pinchedbounds/Interval", "lower", "()D"⟩ : MethodName)) (z := (⟨"com/example/pinched_bounds/pinchedbounds/Interval", "lower", "()D"⟩ : MethodName)) hown (mvT hZ (hw _ (List.mem_of_getElem? (i := 94) rfl))) (mvT hZ (hw _ (List.mem_of_getElem? (i := 95) rfl))) (notFace_of_selects (args := #[]) (mvT hZ (hw _ (List.mem_of_getElem? (i := 97) rfl)))) (mvT hZ (hw _ (List.mem_of_getElem? (i := 97) rfl))) (mvT hZ (hw _ (List.mem_of_getElem? (i := 96) rfl))) (by decide) (backOf (W := 0) (rmLo l Z a0 hw [] iv lw h0 n0 Z0 FL) hZ (hw _ (List.mem_of_getElem? (i := 98) rfl)) (hw _ (List.mem_of_getElem? (i := 10) rfl)) (by decide) (by decide)) q9a q9c (g := (mkF m 14 #[.val (.double dv), .second, .val (.ref o2), .unset] [(.ref iv)])) rfl (by rw [hml]; rfl) (Steps.refl _) (argsL := []) (rest := []) (lenOf own_pd6 rfl) rfl (by show 2 * 0 + _ ≤ _; exact Nat.le_of_eq rfl) (hb hby d16_14) (fun _ _ => ⟨rfl, e7, (by decide : 0 + 0 ≤ _), (by decide : 0 + 0 ≤ _)⟩)
  dsimp only [Pt.U, Pt.locs, Pt.cells, Pt.slots] at X9 l9 y9 z9 st9 hQ9
  subst l9 y9 z9
  obtain ⟨rfl, N9q, e9q⟩ := hQ9
  have N9 := Fr.app N5 N9q
  have a10 : ∀ t, Steps p.tables e below (T9.setTop (mkF m 17 #[.val (.double dv), .second, .val (.ref o2), .unset] [(.double lw)])) t → Steps p.tables e below (s₁.setTop (entryFrame m #[(.double dv), (.ref o2)] 4)) t := fun t k => a8 t (st9.trans k)
  have a11 : ∀ t, Steps p.tables e below (T9.setTop (mkF m 24 #[.val (.double dv), .second, .val (.ref o2), .unset] [(.ref o2), (.double dv)])) t → Steps p.tables e below (s₁.setTop (entryFrame m #[(.double dv), (.ref o2)] 4)) t := by
    intro t k
    refine a10 t ?_
    show Steps p.tables e below (T9.setTop (mkF m 17 #[.val (.double dv), .second, .val (.ref o2), .unset] [(.double lw)])) _
    refine XS.dloadN X9.here hx rfl (hb hby d16_17) rfl ?_
    show Steps p.tables e below (T9.setTop (mkF m 18 #[.val (.double dv), .second, .val (.ref o2), .unset] [(.double dv), (.double lw)])) _
    refine XS.dcmpS X9.here hx rfl (hb hby d16_18) rfl rfl ?_
    show Steps p.tables e below (T9.setTop (mkF m 19 #[.val (.double dv), .second, .val (.ref o2), .unset] [(.int (cmpValue (FP.dcmp lw dv) .g))])) _
    refine XS.ifNo X9.here hx rfl (hb hby d16_19) rfl ((if0 _ _).trans (flt hl).2.2.1) ?_
    show Steps p.tables e below (T9.setTop (mkF m 22 #[.val (.double dv), .second, .val (.ref o2), .unset] [])) _
    refine XS.dloadN X9.here hx rfl (hb hby d16_22) rfl ?_
    show Steps p.tables e below (T9.setTop (mkF m 23 #[.val (.double dv), .second, .val (.ref o2), .unset] [(.double dv)])) _
    refine XS.aloadN X9.here hx rfl (hb hby d16_23) rfl rfl ?_
    exact k
  obtain ⟨cq12, kq12, q12a, q12b, q12c⟩ := isOf hZ e9q XO
  obtain ⟨_, _, ⟨T12, L12, k12, n12⟩, -, X12, ⟨Lc12, hQ12, l12, y12, z12⟩, st12⟩ := X9.virtualBack hx (y := (⟨"java/util/Optional", "get", "()Ljava/lang/Object;"⟩ : MethodName)) (z := (⟨"java/util/Optional", "get", "()Ljava/lang/Object;"⟩ : MethodName)) hown (mvT hZ (hw _ (List.mem_of_getElem? (i := 87) rfl))) (mvT hZ (hw _ (List.mem_of_getElem? (i := 88) rfl))) (notFace_of_selects (args := #[]) (mvT hZ (hw _ (List.mem_of_getElem? (i := 90) rfl)))) (mvT hZ (hw _ (List.mem_of_getElem? (i := 90) rfl))) (mvT hZ (hw _ (List.mem_of_getElem? (i := 89) rfl))) (by decide) (backOf (W := 2) (rmGet l Z a0 hw [] o2 iv h0 n0 Z0 FO) hZ (hw _ (List.mem_of_getElem? (i := 91) rfl)) (hw _ (List.mem_of_getElem? (i := 46) rfl)) (by decide) (by decide)) q12a q12c (g := (mkF m 24 #[.val (.double dv), .second, .val (.ref o2), .unset] [(.ref o2), (.double dv)])) rfl (by rw [hml]; rfl) (Steps.refl _) (argsL := []) (rest := [(.double dv)]) (lenOf own_pd5 rfl) rfl (by show 2 * 0 + _ ≤ _; exact Nat.le_of_eq rfl) (hb hby d16_24) (fun _ _ => ⟨rfl, e9q, (by decide : 0 + 0 ≤ _), (by decide : 0 + 0 ≤ _)⟩)
  dsimp only [Pt.U, Pt.locs, Pt.cells, Pt.slots] at X12 l12 y12 z12 st12 hQ12
  subst l12 y12 z12
  obtain ⟨rfl, N12q, e12q⟩ := hQ12
  have N12 := Fr.app N9 N12q
  have a13 : ∀ t, Steps p.tables e below (T12.setTop (mkF m 27 #[.val (.double dv), .second, .val (.ref o2), .unset] [(.ref iv), (.double dv)])) t → Steps p.tables e below (s₁.setTop (entryFrame m #[(.double dv), (.ref o2)] 4)) t := fun t k => a11 t (st12.trans k)
  obtain ⟨T14, X14, e14, st14⟩ := castY X12 hx hZ hown (hw _ (List.mem_of_getElem? (i := 92) rfl)) e12q (Ins.self XI) (g := (mkF m 27 #[.val (.double dv), .second, .val (.ref o2), .unset] [(.ref iv), (.double dv)])) rfl rfl (hb hby d16_27)
  have a15 : ∀ t, Steps p.tables e below (T14.setTop (mkF m 30 #[.val (.double dv), .second, .val (.ref o2), .unset] [(.ref iv), (.double dv)])) t → Steps p.tables e below (s₁.setTop (entryFrame m #[(.double dv), (.ref o2)] 4)) t := fun t k => a13 t (st14 t k)
  obtain ⟨cq16, kq16, q16a, q16b, q16c⟩ := isOf hZ e14 XI
  obtain ⟨_, _, ⟨T16, L16, k16, n16⟩, -, X16, ⟨Lc16, hQ16, l16, y16, z16⟩, st16⟩ := X14.virtualBack hx (y := (⟨"com/example/pinched_bounds/pinchedbounds/Interval", "upper", "()D"⟩ : MethodName)) (z := (⟨"com/example/pinched_bounds/pinchedbounds/Interval", "upper", "()D"⟩ : MethodName)) hown (mvT hZ (hw _ (List.mem_of_getElem? (i := 99) rfl))) (mvT hZ (hw _ (List.mem_of_getElem? (i := 100) rfl))) (notFace_of_selects (args := #[]) (mvT hZ (hw _ (List.mem_of_getElem? (i := 102) rfl)))) (mvT hZ (hw _ (List.mem_of_getElem? (i := 102) rfl))) (mvT hZ (hw _ (List.mem_of_getElem? (i := 101) rfl))) (by decide) (backOf (W := 2) (rmUp l Z a0 hw [] iv up h0 n0 Z0 FU) hZ (hw _ (List.mem_of_getElem? (i := 103) rfl)) (hw _ (List.mem_of_getElem? (i := 10) rfl)) (by decide) (by decide)) q16a q16c (g := (mkF m 30 #[.val (.double dv), .second, .val (.ref o2), .unset] [(.ref iv), (.double dv)])) rfl (by rw [hml]; rfl) (Steps.refl _) (argsL := []) (rest := [(.double dv)]) (lenOf own_pd6 rfl) rfl (by show 2 * 0 + _ ≤ _; exact Nat.le_of_eq rfl) (hb hby d16_30) (fun _ _ => ⟨rfl, e14, (by decide : 0 + 0 ≤ _), (by decide : 0 + 0 ≤ _)⟩)
  dsimp only [Pt.U, Pt.locs, Pt.cells, Pt.slots] at X16 l16 y16 z16 st16 hQ16
  subst l16 y16 z16
  obtain ⟨rfl, N16q, e16q⟩ := hQ16
  have N16 := Fr.app N12 N16q
  have a17 : ∀ t, Steps p.tables e below (T16.setTop (mkF m 33 #[.val (.double dv), .second, .val (.ref o2), .unset] [(.double up), (.double dv)])) t → Steps p.tables e below (s₁.setTop (entryFrame m #[(.double dv), (.ref o2)] 4)) t := fun t k => a15 t (st16.trans k)
  have a18 : ∀ t, Steps p.tables e below (T16.setTop (mkF m 60 #[.val (.double dv), .second, .val (.ref o2), .val (.int (1 : Int32))] [(.int (1 : Int32))])) t → Steps p.tables e below (s₁.setTop (entryFrame m #[(.double dv), (.ref o2)] 4)) t := by
    intro t k
    refine a17 t ?_
    show Steps p.tables e below (T16.setTop (mkF m 33 #[.val (.double dv), .second, .val (.ref o2), .unset] [(.double up), (.double dv)])) _
    refine XS.dcmpS X16.here hx rfl (hb hby d16_33) rfl rfl ?_
    show Steps p.tables e below (T16.setTop (mkF m 34 #[.val (.double dv), .second, .val (.ref o2), .unset] [(.int (cmpValue (FP.dcmp dv up) .g))])) _
    refine XS.ifNo X16.here hx rfl (hb hby d16_34) rfl ((if0 _ _).trans (flt hu).2.2.1) ?_
    show Steps p.tables e below (T16.setTop (mkF m 37 #[.val (.double dv), .second, .val (.ref o2), .unset] [])) _
    refine XS.iconst X16.here hx rfl (hb hby d16_37) ?_
    show Steps p.tables e below (T16.setTop (mkF m 38 #[.val (.double dv), .second, .val (.ref o2), .unset] [(.int (1 : Int32))])) _
    refine XS.goto X16.here hx rfl (pc0 := 38) (pc' := 42) rfl (hb hby d16_38) (by decide) (by decide) ?_
    show Steps p.tables e below (T16.setTop (mkF m 42 #[.val (.double dv), .second, .val (.ref o2), .unset] [(.int (1 : Int32))])) _
    refine XS.istoreN X16.here hx rfl (hb hby d16_42) rfl (l' := #[.val (.double dv), .second, .val (.ref o2), .val (.int (1 : Int32))]) rfl ?_
    show Steps p.tables e below (T16.setTop (mkF m 43 #[.val (.double dv), .second, .val (.ref o2), .val (.int (1 : Int32))] [])) _
    refine XS.goto X16.here hx rfl (pc0 := 43) (pc' := 59) rfl (hb hby d16_43) (by decide) (by decide) ?_
    show Steps p.tables e below (T16.setTop (mkF m 59 #[.val (.double dv), .second, .val (.ref o2), .val (.int (1 : Int32))] [])) _
    refine XS.iloadN X16.here hx rfl (hb hby d16_59) rfl ?_
    exact k
  obtain ⟨fs, hr, hrun, hended, hW, hsame⟩ := X16.leave (v := some (.int (1 : Int32))) (fun h => by rw [Bd.returns] at h; cases h)
  refine ⟨_, _, a18 _ ?_, hrun, hended, _, _, rfl, ?_, ⟨_, rfl⟩, hW, hsame.mono (by decide) (by decide)⟩
  · show Steps p.tables e below (T16.setTop (mkF m 60 #[.val (.double dv), .second, .val (.ref o2), .val (.int (1 : Int32))] [(.int (1 : Int32))])) _
    exact retN X16 hx (t := .boolean) Bd.returns (by simp) (hb hby d16_60) hr
  · show QFits Z dv o2 iv lw up h0 n0 _ T16.heap _
    rw [e16q]
    exact ⟨rfl, N16, rfl⟩
theorem ef_rmA1 (m : MethodId) (x0 : Addr) (x1 : UInt64) (x2 : Addr) (x3 : Int64) (x4 : Int64) (x5 : Int32) : entryFrame m #[(.ref x0), (.double x1), (.ref x2), (.long x3), (.long x4), (.int x5)] 9 = mkF m 0 #[.val (.ref x0), .val (.double x1), .second, .val (.ref x2), .val (.long x3), .second, .val (.long x4), .second, .val (.int x5)] [] := by first | (simp [entryFrame, mkF, argsToLocals, Value.category]; done) | rfl
theorem d14_0 : decode prog_1_method_1_code 0 = .ok (.aload_n 0, 1) := by decide +kernel
theorem d14_1 : decode prog_1_method_1_code 1 = .ok (.invokespecial 1, 3) := by decide +kernel
theorem d14_4 : decode prog_1_method_1_code 4 = .ok (.aload_n 3, 1) := by decide +kernel
theorem d14_5 : decode prog_1_method_1_code 5 = .ok (.ldc 7, 2) := by decide +kernel
theorem own_sa : ∀ d ∈ Bundle.stringAtoms, d ∈ tables_1 := by
  intro d hd
  simp only [Bundle.stringAtoms, List.mem_cons, List.not_mem_nil, or_false] at hd
  rcases hd with rfl | rfl | rfl | rfl | rfl | rfl | rfl
  · exact List.mem_of_getElem? (i := 69) rfl
  · exact List.mem_of_getElem? (i := 70) rfl
  · exact List.mem_of_getElem? (i := 71) rfl
  · exact List.mem_of_getElem? (i := 72) rfl
  · exact List.mem_of_getElem? (i := 73) rfl
  · exact List.mem_of_getElem? (i := 74) rfl
  · exact List.mem_of_getElem? (i := 75) rfl
theorem d14_7 : decode prog_1_method_1_code 7 = .ok (.invokestatic 9, 3) := by decide +kernel
theorem own_pd7 : parseMethodDescriptor "(Ljava/lang/Object;Ljava/lang/String;)Ljava/lang/Object;" = some ⟨[(.object "java/lang/Object"), (.object "java/lang/String")], some (.object "java/lang/Object")⟩ := by decide +kernel
theorem d14_10 : decode prog_1_method_1_code 10 = .ok (.pop, 1) := by decide +kernel
theorem d14_11 : decode prog_1_method_1_code 11 = .ok (.dload_n 1, 1) := by decide +kernel
theorem d14_12 : decode prog_1_method_1_code 12 = .ok (.aload_n 3, 1) := by decide +kernel
theorem d14_13 : decode prog_1_method_1_code 13 = .ok (.invokestatic 15, 3) := by decide +kernel
theorem own_pd8 : parseMethodDescriptor "(DLjava/util/Optional;)Z" = some ⟨[.double, (.object "java/util/Optional")], some .boolean⟩ := by decide +kernel
theorem d14_16 : decode prog_1_method_1_code 16 = .ok (.ifCond .eq 17, 3) := by decide +kernel
theorem d14_19 : decode prog_1_method_1_code 19 = .ok (.lload 4, 2) := by decide +kernel
theorem d14_21 : decode prog_1_method_1_code 21 = .ok (.lconst 0, 1) := by decide +kernel
theorem d14_22 : decode prog_1_method_1_code 22 = .ok (.lcmp, 1) := by decide +kernel
theorem d14_23 : decode prog_1_method_1_code 23 = .ok (.ifCond .lt 10, 3) := by decide +kernel
theorem d14_26 : decode prog_1_method_1_code 26 = .ok (.lload 6, 2) := by decide +kernel
theorem d14_28 : decode prog_1_method_1_code 28 = .ok (.lconst 0, 1) := by decide +kernel
theorem d14_29 : decode prog_1_method_1_code 29 = .ok (.lcmp, 1) := by decide +kernel
theorem d14_30 : decode prog_1_method_1_code 30 = .ok (.ifCond .ge 25, 3) := by decide +kernel
theorem d14_55 : decode prog_1_method_1_code 55 = .ok (.aload_n 0, 1) := by decide +kernel
theorem d14_56 : decode prog_1_method_1_code 56 = .ok (.dload_n 1, 1) := by decide +kernel
theorem d14_57 : decode prog_1_method_1_code 57 = .ok (.putfield 36, 3) := by decide +kernel
theorem d14_60 : decode prog_1_method_1_code 60 = .ok (.aload_n 0, 1) := by decide +kernel
theorem d14_61 : decode prog_1_method_1_code 61 = .ok (.aload_n 3, 1) := by decide +kernel
theorem d14_62 : decode prog_1_method_1_code 62 = .ok (.putfield 40, 3) := by decide +kernel
theorem d14_65 : decode prog_1_method_1_code 65 = .ok (.aload_n 0, 1) := by decide +kernel
theorem d14_66 : decode prog_1_method_1_code 66 = .ok (.lload 4, 2) := by decide +kernel
theorem d14_68 : decode prog_1_method_1_code 68 = .ok (.putfield 43, 3) := by decide +kernel
theorem d14_71 : decode prog_1_method_1_code 71 = .ok (.aload_n 0, 1) := by decide +kernel
theorem d14_72 : decode prog_1_method_1_code 72 = .ok (.lload 6, 2) := by decide +kernel
theorem d14_74 : decode prog_1_method_1_code 74 = .ok (.putfield 47, 3) := by decide +kernel
theorem d14_77 : decode prog_1_method_1_code 77 = .ok (.aload_n 0, 1) := by decide +kernel
theorem d14_78 : decode prog_1_method_1_code 78 = .ok (.iload 8, 2) := by decide +kernel
theorem d14_80 : decode prog_1_method_1_code 80 = .ok (.putfield 50, 3) := by decide +kernel
theorem d14_83 : decode prog_1_method_1_code 83 = .ok (.return_, 1) := by decide +kernel
def QrmA1 (Z : State) (a0_ : Addr) (dv : UInt64) (o2 : Addr) (q4 : Int64) (q6 : Int64) (iv : Addr) (lw up : UInt64) (h0 : Heap) (n0 : Nat) (v : Option Value) (h : Heap) (L : List Loc) : Prop := v = none ∧ Fr n0 L ∧ Keep h0 h [a0_] ∧ Fld Z h a0_ "com/example/pinched_bounds/pinchedbounds/Answer" "value" "D" (.double dv) ∧ Fld Z h a0_ "com/example/pinched_bounds/pinchedbounds/Answer" "interval" "Ljava/util/Optional;" (.ref o2) ∧ Fld Z h a0_ "com/example/pinched_bounds/pinchedbounds/Answer" "iterations" "J" (.long q4) ∧ Fld Z h a0_ "com/example/pinched_bounds/pinchedbounds/Answer" "multiplications" "J" (.long q6) ∧ Fld Z h a0_ "com/example/pinched_bounds/pinchedbounds/Answer" "handedOver" "Z" (.int (0 : Int32))
set_option maxRecDepth 65536 in
set_option maxHeartbeats 40000000 in
theorem rmA1 (l : Launch) (Z : State) (a0 : Array Value) (hw : ∀ d ∈ tables_1, d.before a0 Z = true) (ws : List Jvm.Cond) (a0_ : Addr) (dv : UInt64) (o2 : Addr) (q4 : Int64) (q6 : Int64) (iv : Addr) (lw up : UInt64) (h0 : Heap) (n0 : Nat) (Z0 : n0 ≤ h0.size) (E0 : Exa Z h0 a0_ "com/example/pinched_bounds/pinchedbounds/Answer") (g0 : n0 ≤ a0_) (F0_value : Fld Z h0 a0_ "com/example/pinched_bounds/pinchedbounds/Answer" "value" "D" (.double 0)) (F0_interval : Fld Z h0 a0_ "com/example/pinched_bounds/pinchedbounds/Answer" "interval" "Ljava/util/Optional;" .null) (F0_iterations : Fld Z h0 a0_ "com/example/pinched_bounds/pinchedbounds/Answer" "iterations" "J" (.long 0)) (F0_multiplications : Fld Z h0 a0_ "com/example/pinched_bounds/pinchedbounds/Answer" "multiplications" "J" (.long 0)) (F0_handedOver : Fld Z h0 a0_ "com/example/pinched_bounds/pinchedbounds/Answer" "handedOver" "Z" (.int 0)) (XO : Exa Z h0 o2 "java/util/Optional") (FO : Fld Z h0 o2 "java/util/Optional" "value" "Ljava/lang/Object;" (.ref iv)) (XI : Exa Z h0 iv "com/example/pinched_bounds/pinchedbounds/Interval") (FL : Fld Z h0 iv "com/example/pinched_bounds/pinchedbounds/Interval" "lower" "D" (.double lw)) (FU : Fld Z h0 iv "com/example/pinched_bounds/pinchedbounds/Interval" "upper" "D" (.double up)) (hl : ¬ ((0 : Int32) < cmpValue (FP.dcmp lw dv) .g)) (hu : ¬ ((0 : Int32) < cmpValue (FP.dcmp dv up) .g)) (hq4 : ¬ q4 < 0) (hq6 : ¬ q6 < 0) :
    MetFree l (⟨"com/example/pinched_bounds/pinchedbounds/Answer", "<init>", "(DLjava/util/Optional;JJZ)V"⟩ : MethodName) (head1 (Jvm.Cond.code (⟨"com/example/pinched_bounds/pinchedbounds/Answer", "<init>", "(DLjava/util/Optional;JJZ)V"⟩ : MethodName) prog_1_method_1_code 9 none :: ws) ({ frames := 2, cells := 2, slots := 36, locals := 32 } : Room)) (fun a U => a = #[(.ref a0_), (.double dv), (.ref o2), (.long q4), (.long q6), (.int (0 : Int32))] ∧ Z.Warmed39 U.vm ∧ U.heap = h0) (fun _ _ _ _ _ => True) (fun _ U o U' => ∃ v L, o = .returned v ∧ QrmA1 Z a0_ dv o2 q4 q6 iv lw up h0 n0 v U'.heap L ∧ ReturnedEndW U o U' L ({ frames := 2, cells := 2, slots := 36, locals := 32 } : Room).cells ({ frames := 2, cells := 2, slots := 36, locals := 32 } : Room).slots) := by
  refine MetFree.of_bodySF (plainFor_of_name own_pn_com_example_pinched_bounds_pinchedbounds_Answer) hisR ?_
  intro p e s m args below meth c s₁ Bd hml0 hP hK
  obtain ⟨rfl, hZ, hh⟩ := hP
  have hx := Bd.exec
  have hby := Bd.bytes
  have hml : c.maxLocals = 9 := hml0
  have hown : s.vm.findClass "com/example/pinched_bounds/pinchedbounds/Answer" = some m.cls := findClass_of_methodNamed Bd.named
  have hnm := (name_of_methodNamed Bd.named Bd.method).1
  have X0 : Stand p l e ({ frames := 2, cells := 2, slots := 36, locals := 32 } : Room) s m #[(.ref a0_), (.double dv), (.ref o2), (.long q4), (.long q6), (.int (0 : Int32))] below meth c s₁ [] 0 0 := Stand.of_body Bd
  have e0 : s₁.heap = h0 := by rw [← hh, Bd.state]; rfl
  have N0 := Fr.nil n0
  have hS : s.Since s.vm h0.size := (State.WarmedH.refl s).since _
  have pre0 : ∀ t, Steps p.tables e below (s₁.setTop (mkF m 0 #[.val (.ref a0_), .val (.double dv), .second, .val (.ref o2), .val (.long q4), .second, .val (.long q6), .second, .val (.int (0 : Int32))] [])) t → Steps p.tables e below (s₁.setTop (entryFrame m #[(.ref a0_), (.double dv), (.ref o2), (.long q4), (.long q6), (.int (0 : Int32))] 9)) t := fun t k => castTop (ef_rmA1 m a0_ dv o2 q4 q6 (0 : Int32)) k
  have a1 : ∀ t, Steps p.tables e below (s₁.setTop (mkF m 1 #[.val (.ref a0_), .val (.double dv), .second, .val (.ref o2), .val (.long q4), .second, .val (.long q6), .second, .val (.int (0 : Int32))] [(.ref a0_)])) t → Steps p.tables e below (s₁.setTop (entryFrame m #[(.ref a0_), (.double dv), (.ref o2), (.long q4), (.long q6), (.int (0 : Int32))] 9)) t := by
    intro t k
    refine pre0 t ?_
    show Steps p.tables e below (s₁.setTop (mkF m 0 #[.val (.ref a0_), .val (.double dv), .second, .val (.ref o2), .val (.long q4), .second, .val (.long q6), .second, .val (.int (0 : Int32))] [])) _
    refine XS.aloadN X0.here hx rfl (hb hby d14_0) rfl rfl ?_
    exact k
  obtain ⟨_, _, ⟨T2, L2, k2, n2⟩, -, X2, ⟨Lc2, hQ2, l2, y2, z2⟩, st2⟩ := X0.specialBack hx (y := (⟨"java/lang/Record", "<init>", "()V"⟩ : MethodName)) rfl hown (mvT hZ (hw _ (List.mem_of_getElem? (i := 67) rfl))) (mvT hZ (hw _ (List.mem_of_getElem? (i := 15) rfl))) (mvT hZ (hw _ (List.mem_of_getElem? (i := 18) rfl))) (by decide) (backOf (W := 0) (rmRec l Z a0 hw [] a0_ h0 n0 Z0 ) hZ (hw _ (List.mem_of_getElem? (i := 18) rfl)) (hw _ (List.mem_of_getElem? (i := 17) rfl)) (by decide) (by decide)) (g := (mkF m 1 #[.val (.ref a0_), .val (.double dv), .second, .val (.ref o2), .val (.long q4), .second, .val (.long q6), .second, .val (.int (0 : Int32))] [(.ref a0_)])) rfl (by rw [hml]; rfl) (Steps.refl _) (a := a0_) (argsL := []) (rest := []) (lenOf own_pd0 rfl) rfl (by show 2 * 0 + _ ≤ _; exact Nat.le_of_eq rfl) (hb hby d14_1) (fun _ _ => ⟨rfl, e0, (by decide : 0 + 0 ≤ _), (by decide : 0 + 0 ≤ _)⟩)
  dsimp only [Pt.U, Pt.locs, Pt.cells, Pt.slots] at X2 l2 y2 z2 st2 hQ2
  subst l2 y2 z2
  obtain ⟨rfl, N2q, e2q⟩ := hQ2
  have N2 := Fr.app N0 N2q
  have a3 : ∀ t, Steps p.tables e below (T2.setTop (mkF m 4 #[.val (.ref a0_), .val (.double dv), .second, .val (.ref o2), .val (.long q4), .second, .val (.long q6), .second, .val (.int (0 : Int32))] [])) t → Steps p.tables e below (s₁.setTop (entryFrame m #[(.ref a0_), (.double dv), (.ref o2), (.long q4), (.long q6), (.int (0 : Int32))] 9)) t := fun t k => a1 t (st2.trans k)
  have a4 : ∀ t, Steps p.tables e below (T2.setTop (mkF m 5 #[.val (.ref a0_), .val (.double dv), .second, .val (.ref o2), .val (.long q4), .second, .val (.long q6), .second, .val (.int (0 : Int32))] [(.ref o2)])) t → Steps p.tables e below (s₁.setTop (entryFrame m #[(.ref a0_), (.double dv), (.ref o2), (.long q4), (.long q6), (.int (0 : Int32))] 9)) t := by
    intro t k
    refine a3 t ?_
    show Steps p.tables e below (T2.setTop (mkF m 4 #[.val (.ref a0_), .val (.double dv), .second, .val (.ref o2), .val (.long q4), .second, .val (.long q6), .second, .val (.int (0 : Int32))] [])) _
    refine XS.aloadN X2.here hx rfl (hb hby d14_4) rfl rfl ?_
    exact k
  obtain ⟨sa5, T5, h5, k15, X5, e5, E5, hS, hk5, hZ, hown, st5⟩ := ldcS (s := s) (vm0 := s.vm) X2 hx hZ (own := "com/example/pinched_bounds/pinchedbounds/Answer") (text := "interval") hown (hw _ (List.mem_of_getElem? (i := 68) rfl)) (fun d hd => hw d (own_sa d hd)) e2q hS (Nat.le_refl _) (g := (mkF m 5 #[.val (.ref a0_), .val (.double dv), .second, .val (.ref o2), .val (.long q4), .second, .val (.long q6), .second, .val (.int (0 : Int32))] [(.ref o2)])) rfl (hb hby d14_5) (n := 32) (by decide) (by decide) (by decide) (by decide)
  have K5 : Keep h0 h5 [a0_] := Keep.ext (Keep.refl h0 [a0_]) E5
  have a6 : ∀ t, Steps p.tables e below (T5.setTop (mkF m 7 #[.val (.ref a0_), .val (.double dv), .second, .val (.ref o2), .val (.long q4), .second, .val (.long q6), .second, .val (.int (0 : Int32))] [(.ref sa5), (.ref o2)])) t → Steps p.tables e below (s₁.setTop (entryFrame m #[(.ref a0_), (.double dv), (.ref o2), (.long q4), (.long q6), (.int (0 : Int32))] 9)) t := fun t k => a4 t (st5 t k)
  obtain ⟨_, _, ⟨T7, L7, k7, n7⟩, -, X7, ⟨Lc7, hQ7, l7, y7, z7⟩, st7⟩ := Jvm.LawKit.callS X5 hx (y := (⟨"java/util/Objects", "requireNonNull", "(Ljava/lang/Object;Ljava/lang/String;)Ljava/lang/Object;"⟩ : MethodName)) hown (mvT hZ (hw _ (List.mem_of_getElem? (i := 76) rfl))) (mvT hZ (hw _ (List.mem_of_getElem? (i := 77) rfl))) (mvT hZ (hw _ (List.mem_of_getElem? (i := 52) rfl))) (mvT hZ (hw _ (List.mem_of_getElem? (i := 78) rfl))) (by decide) (backOf (W := 0) (rmN2 l Z a0 hw [] o2 sa5 h5 n0 (Nat.le_trans Z0 E5.1) ) hZ (hw _ (List.mem_of_getElem? (i := 78) rfl)) (hw _ (List.mem_of_getElem? (i := 52) rfl)) (by decide) (by decide)) (g := (mkF m 7 #[.val (.ref a0_), .val (.double dv), .second, .val (.ref o2), .val (.long q4), .second, .val (.long q6), .second, .val (.int (0 : Int32))] [(.ref sa5), (.ref o2)])) rfl (by rw [hml]; rfl) (argsL := [(.ref o2), (.ref sa5)]) (rest := []) (lenOf own_pd7 rfl) rfl (by show 2 * 0 + _ ≤ _; exact Nat.le_of_eq rfl) (hb hby d14_7) (fun _ _ => ⟨rfl, e5, (by decide : 2 + 0 ≤ _), (by decide : 36 + 0 ≤ _)⟩)
  dsimp only [Pt.U, Pt.locs, Pt.cells, Pt.slots] at X7 l7 y7 z7 st7 hQ7
  subst l7 y7 z7
  obtain ⟨rfl, N7q, e7q⟩ := hQ7
  have N7 := Fr.app N2 N7q
  have a8 : ∀ t, Steps p.tables e below (T7.setTop (mkF m 10 #[.val (.ref a0_), .val (.double dv), .second, .val (.ref o2), .val (.long q4), .second, .val (.long q6), .second, .val (.int (0 : Int32))] [(.ref o2)])) t → Steps p.tables e below (s₁.setTop (entryFrame m #[(.ref a0_), (.double dv), (.ref o2), (.long q4), (.long q6), (.int (0 : Int32))] 9)) t := fun t k => a6 t (st7 t k)
  have a9 : ∀ t, Steps p.tables e below (T7.setTop (mkF m 13 #[.val (.ref a0_), .val (.double dv), .second, .val (.ref o2), .val (.long q4), .second, .val (.long q6), .second, .val (.int (0 : Int32))] [(.ref o2), (.double dv)])) t → Steps p.tables e below (s₁.setTop (entryFrame m #[(.ref a0_), (.double dv), (.ref o2), (.long q4), (.long q6), (.int (0 : Int32))] 9)) t := by
    intro t k
    refine a8 t ?_
    show Steps p.tables e below (T7.setTop (mkF m 10 #[.val (.ref a0_), .val (.double dv), .second, .val (.ref o2), .val (.long q4), .second, .val (.long q6), .second, .val (.int (0 : Int32))] [(.ref o2)])) _
    refine XS.pop X7.here hx rfl (hb hby d14_10) rfl rfl ?_
    show Steps p.tables e below (T7.setTop (mkF m 11 #[.val (.ref a0_), .val (.double dv), .second, .val (.ref o2), .val (.long q4), .second, .val (.long q6), .second, .val (.int (0 : Int32))] [])) _
    refine XS.dloadN X7.here hx rfl (hb hby d14_11) rfl ?_
    show Steps p.tables e below (T7.setTop (mkF m 12 #[.val (.ref a0_), .val (.double dv), .second, .val (.ref o2), .val (.long q4), .second, .val (.long q6), .second, .val (.int (0 : Int32))] [(.double dv)])) _
    refine XS.aloadN X7.here hx rfl (hb hby d14_12) rfl rfl ?_
    exact k
  obtain ⟨_, _, ⟨T10, L10, k10, n10⟩, -, X10, ⟨Lc10, hQ10, l10, y10, z10⟩, st10⟩ := Jvm.LawKit.callS X7 hx (y := (⟨"com/example/pinched_bounds/pinchedbounds/Answer", "fits", "(DLjava/util/Optional;)Z"⟩ : MethodName)) hown (mvT hZ (hw _ (List.mem_of_getElem? (i := 79) rfl))) (mvT hZ (hw _ (List.mem_of_getElem? (i := 80) rfl))) (mvT hZ (hw _ (List.mem_of_getElem? (i := 28) rfl))) (mvT hZ (hw _ (List.mem_of_getElem? (i := 81) rfl))) (by decide) (backOf (W := 0) (rmFits l Z a0 hw [] dv o2 iv lw up h5 n0 (Nat.le_trans Z0 E5.1) (XO.ext E5) (FO.ext E5) (XI.ext E5) (FL.ext E5) (FU.ext E5) hl hu) hZ (hw _ (List.mem_of_getElem? (i := 81) rfl)) (hw _ (List.mem_of_getElem? (i := 28) rfl)) (by decide) (by decide)) (g := (mkF m 13 #[.val (.ref a0_), .val (.double dv), .second, .val (.ref o2), .val (.long q4), .second, .val (.long q6), .second, .val (.int (0 : Int32))] [(.ref o2), (.double dv)])) rfl (by rw [hml]; rfl) (argsL := [(.double dv), (.ref o2)]) (rest := []) (lenOf own_pd8 rfl) rfl (by show 2 * 0 + _ ≤ _; exact Nat.le_of_eq rfl) (hb hby d14_13) (fun _ _ => ⟨rfl, e7q, (by decide : 2 + 0 ≤ _), (by decide : 36 + 0 ≤ _)⟩)
  dsimp only [Pt.U, Pt.locs, Pt.cells, Pt.slots] at X10 l10 y10 z10 st10 hQ10
  subst l10 y10 z10
  obtain ⟨rfl, N10q, e10q⟩ := hQ10
  have N10 := Fr.app N7 N10q
  have a11 : ∀ t, Steps p.tables e below (T10.setTop (mkF m 16 #[.val (.ref a0_), .val (.double dv), .second, .val (.ref o2), .val (.long q4), .second, .val (.long q6), .second, .val (.int (0 : Int32))] [(.int (1 : Int32))])) t → Steps p.tables e below (s₁.setTop (entryFrame m #[(.ref a0_), (.double dv), (.ref o2), (.long q4), (.long q6), (.int (0 : Int32))] 9)) t := fun t k => a9 t (st10 t k)
  have a12 : ∀ t, Steps p.tables e below (T10.setTop (mkF m 57 #[.val (.ref a0_), .val (.double dv), .second, .val (.ref o2), .val (.long q4), .second, .val (.long q6), .second, .val (.int (0 : Int32))] [(.double dv), (.ref a0_)])) t → Steps p.tables e below (s₁.setTop (entryFrame m #[(.ref a0_), (.double dv), (.ref o2), (.long q4), (.long q6), (.int (0 : Int32))] 9)) t := by
    intro t k
    refine a11 t ?_
    show Steps p.tables e below (T10.setTop (mkF m 16 #[.val (.ref a0_), .val (.double dv), .second, .val (.ref o2), .val (.long q4), .second, .val (.long q6), .second, .val (.int (0 : Int32))] [(.int (1 : Int32))])) _
    refine XS.ifNo X10.here hx rfl (hb hby d14_16) rfl ((if0 _ _).trans (feq (by decide)).1) ?_
    show Steps p.tables e below (T10.setTop (mkF m 19 #[.val (.ref a0_), .val (.double dv), .second, .val (.ref o2), .val (.long q4), .second, .val (.long q6), .second, .val (.int (0 : Int32))] [])) _
    refine XS.lload X10.here hx rfl (hb hby d14_19) rfl ?_
    show Steps p.tables e below (T10.setTop (mkF m 21 #[.val (.ref a0_), .val (.double dv), .second, .val (.ref o2), .val (.long q4), .second, .val (.long q6), .second, .val (.int (0 : Int32))] [(.long q4)])) _
    refine XS.lconst X10.here hx rfl (hb hby d14_21) ?_
    show Steps p.tables e below (T10.setTop (mkF m 22 #[.val (.ref a0_), .val (.double dv), .second, .val (.ref o2), .val (.long q4), .second, .val (.long q6), .second, .val (.int (0 : Int32))] [(.long (0 : Int64)), (.long q4)])) _
    refine XS.lcmp X10.here hx rfl (hb hby d14_22) rfl ?_
    show Steps p.tables e below (T10.setTop (mkF m 23 #[.val (.ref a0_), .val (.double dv), .second, .val (.ref o2), .val (.long q4), .second, .val (.long q6), .second, .val (.int (0 : Int32))] [(.int (lcmpW q4 (0 : Int64)))])) _
    refine XS.ifNo X10.here hx rfl (hb hby d14_23) rfl ((if0 _ _).trans (flt (fun q => hq4 ((lw_lt q4 (0 : Int64)).mp q))).1) ?_
    show Steps p.tables e below (T10.setTop (mkF m 26 #[.val (.ref a0_), .val (.double dv), .second, .val (.ref o2), .val (.long q4), .second, .val (.long q6), .second, .val (.int (0 : Int32))] [])) _
    refine XS.lload X10.here hx rfl (hb hby d14_26) rfl ?_
    show Steps p.tables e below (T10.setTop (mkF m 28 #[.val (.ref a0_), .val (.double dv), .second, .val (.ref o2), .val (.long q4), .second, .val (.long q6), .second, .val (.int (0 : Int32))] [(.long q6)])) _
    refine XS.lconst X10.here hx rfl (hb hby d14_28) ?_
    show Steps p.tables e below (T10.setTop (mkF m 29 #[.val (.ref a0_), .val (.double dv), .second, .val (.ref o2), .val (.long q4), .second, .val (.long q6), .second, .val (.int (0 : Int32))] [(.long (0 : Int64)), (.long q6)])) _
    refine XS.lcmp X10.here hx rfl (hb hby d14_29) rfl ?_
    show Steps p.tables e below (T10.setTop (mkF m 30 #[.val (.ref a0_), .val (.double dv), .second, .val (.ref o2), .val (.long q4), .second, .val (.long q6), .second, .val (.int (0 : Int32))] [(.int (lcmpW q6 (0 : Int64)))])) _
    refine XS.ifYes X10.here hx rfl (pc0 := 30) (pc' := 55) rfl (hb hby d14_30) rfl ((if0 _ _).trans (flt (fun q => hq6 ((lw_lt q6 (0 : Int64)).mp q))).2.1) (by decide) (by decide) ?_
    show Steps p.tables e below (T10.setTop (mkF m 55 #[.val (.ref a0_), .val (.double dv), .second, .val (.ref o2), .val (.long q4), .second, .val (.long q6), .second, .val (.int (0 : Int32))] [])) _
    refine XS.aloadN X10.here hx rfl (hb hby d14_55) rfl rfl ?_
    show Steps p.tables e below (T10.setTop (mkF m 56 #[.val (.ref a0_), .val (.double dv), .second, .val (.ref o2), .val (.long q4), .second, .val (.long q6), .second, .val (.int (0 : Int32))] [(.ref a0_)])) _
    refine XS.dloadN X10.here hx rfl (hb hby d14_56) rfl ?_
    exact k
  obtain ⟨T13, h13, X13, e13, W13, st13⟩ := putF X10 hx hZ hown (host := "") (Or.inl (hw _ (List.mem_of_getElem? (i := 104) rfl))) Via.refl e10q (F0_value.ext E5) (E0.ext E5) (Or.inr ⟨(hw _ (List.mem_of_getElem? (i := 105) rfl)), rfl, hnm⟩) (hw _ (List.mem_of_getElem? (i := 31) rfl)) (ty := .double) (by decide) rfl rfl (g := (mkF m 57 #[.val (.ref a0_), .val (.double dv), .second, .val (.ref o2), .val (.long q4), .second, .val (.long q6), .second, .val (.int (0 : Int32))] [(.double dv), (.ref a0_)])) rfl rfl (hb hby d14_57)
  have Fw13 := Fld.same W13 (F0_value.ext E5)
  have N13 := Fr.snoc X13 N10 g0
  have K13 : Keep h0 h13 [a0_] := Keep.wr K5 W13 (Or.inl (List.mem_of_getElem? (i := 0) rfl))
  have a14 : ∀ t, Steps p.tables e below (T13.setTop (mkF m 60 #[.val (.ref a0_), .val (.double dv), .second, .val (.ref o2), .val (.long q4), .second, .val (.long q6), .second, .val (.int (0 : Int32))] [])) t → Steps p.tables e below (s₁.setTop (entryFrame m #[(.ref a0_), (.double dv), (.ref o2), (.long q4), (.long q6), (.int (0 : Int32))] 9)) t := fun t k => a12 t (st13 t k)
  have a15 : ∀ t, Steps p.tables e below (T13.setTop (mkF m 62 #[.val (.ref a0_), .val (.double dv), .second, .val (.ref o2), .val (.long q4), .second, .val (.long q6), .second, .val (.int (0 : Int32))] [(.ref o2), (.ref a0_)])) t → Steps p.tables e below (s₁.setTop (entryFrame m #[(.ref a0_), (.double dv), (.ref o2), (.long q4), (.long q6), (.int (0 : Int32))] 9)) t := by
    intro t k
    refine a14 t ?_
    show Steps p.tables e below (T13.setTop (mkF m 60 #[.val (.ref a0_), .val (.double dv), .second, .val (.ref o2), .val (.long q4), .second, .val (.long q6), .second, .val (.int (0 : Int32))] [])) _
    refine XS.aloadN X13.here hx rfl (hb hby d14_60) rfl rfl ?_
    show Steps p.tables e below (T13.setTop (mkF m 61 #[.val (.ref a0_), .val (.double dv), .second, .val (.ref o2), .val (.long q4), .second, .val (.long q6), .second, .val (.int (0 : Int32))] [(.ref a0_)])) _
    refine XS.aloadN X13.here hx rfl (hb hby d14_61) rfl rfl ?_
    exact k
  obtain ⟨T16, h16, X16, e16, W16, st16⟩ := putF X13 hx hZ hown (host := "") (Or.inl (hw _ (List.mem_of_getElem? (i := 106) rfl))) Via.refl e13 (Fld.other W13 (F0_interval.ext E5) (Or.inr (slot_ne (Or.inr (hw _ (List.mem_of_getElem? (i := 107) rfl))) (Or.inr (hw _ (List.mem_of_getElem? (i := 105) rfl))) (by decide) (t := (.object "java/util/Optional")) (t' := .double) (by decide) (by decide)))) (Exa.wr W13 (E0.ext E5)) (Or.inr ⟨(hw _ (List.mem_of_getElem? (i := 107) rfl)), rfl, hnm⟩) (hw _ (List.mem_of_getElem? (i := 31) rfl)) (ty := (.object "java/util/Optional")) (by decide) rfl rfl (g := (mkF m 62 #[.val (.ref a0_), .val (.double dv), .second, .val (.ref o2), .val (.long q4), .second, .val (.long q6), .second, .val (.int (0 : Int32))] [(.ref o2), (.ref a0_)])) rfl rfl (hb hby d14_62)
  have Fw16 := Fld.same W16 (Fld.other W13 (F0_interval.ext E5) (Or.inr (slot_ne (Or.inr (hw _ (List.mem_of_getElem? (i := 107) rfl))) (Or.inr (hw _ (List.mem_of_getElem? (i := 105) rfl))) (by decide) (t := (.object "java/util/Optional")) (t' := .double) (by decide) (by decide))))
  have N16 := Fr.snoc X16 N13 g0
  have K16 : Keep h0 h16 [a0_] := Keep.wr K13 W16 (Or.inl (List.mem_of_getElem? (i := 0) rfl))
  have a17 : ∀ t, Steps p.tables e below (T16.setTop (mkF m 65 #[.val (.ref a0_), .val (.double dv), .second, .val (.ref o2), .val (.long q4), .second, .val (.long q6), .second, .val (.int (0 : Int32))] [])) t → Steps p.tables e below (s₁.setTop (entryFrame m #[(.ref a0_), (.double dv), (.ref o2), (.long q4), (.long q6), (.int (0 : Int32))] 9)) t := fun t k => a15 t (st16 t k)
  have a18 : ∀ t, Steps p.tables e below (T16.setTop (mkF m 68 #[.val (.ref a0_), .val (.double dv), .second, .val (.ref o2), .val (.long q4), .second, .val (.long q6), .second, .val (.int (0 : Int32))] [(.long q4), (.ref a0_)])) t → Steps p.tables e below (s₁.setTop (entryFrame m #[(.ref a0_), (.double dv), (.ref o2), (.long q4), (.long q6), (.int (0 : Int32))] 9)) t := by
    intro t k
    refine a17 t ?_
    show Steps p.tables e below (T16.setTop (mkF m 65 #[.val (.ref a0_), .val (.double dv), .second, .val (.ref o2), .val (.long q4), .second, .val (.long q6), .second, .val (.int (0 : Int32))] [])) _
    refine XS.aloadN X16.here hx rfl (hb hby d14_65) rfl rfl ?_
    show Steps p.tables e below (T16.setTop (mkF m 66 #[.val (.ref a0_), .val (.double dv), .second, .val (.ref o2), .val (.long q4), .second, .val (.long q6), .second, .val (.int (0 : Int32))] [(.ref a0_)])) _
    refine XS.lload X16.here hx rfl (hb hby d14_66) rfl ?_
    exact k
  obtain ⟨T19, h19, X19, e19, W19, st19⟩ := putF X16 hx hZ hown (host := "") (Or.inl (hw _ (List.mem_of_getElem? (i := 108) rfl))) Via.refl e16 (Fld.other W16 (Fld.other W13 (F0_iterations.ext E5) (Or.inr (slot_ne (Or.inr (hw _ (List.mem_of_getElem? (i := 109) rfl))) (Or.inr (hw _ (List.mem_of_getElem? (i := 105) rfl))) (by decide) (t := .long) (t' := .double) (by decide) (by decide)))) (Or.inr (slot_ne (Or.inr (hw _ (List.mem_of_getElem? (i := 109) rfl))) (Or.inr (hw _ (List.mem_of_getElem? (i := 107) rfl))) (by decide) (t := .long) (t' := (.object "java/util/Optional")) (by decide) (by decide)))) (Exa.wr W16 (Exa.wr W13 (E0.ext E5))) (Or.inr ⟨(hw _ (List.mem_of_getElem? (i := 109) rfl)), rfl, hnm⟩) (hw _ (List.mem_of_getElem? (i := 31) rfl)) (ty := .long) (by decide) rfl rfl (g := (mkF m 68 #[.val (.ref a0_), .val (.double dv), .second, .val (.ref o2), .val (.long q4), .second, .val (.long q6), .second, .val (.int (0 : Int32))] [(.long q4), (.ref a0_)])) rfl rfl (hb hby d14_68)
  have Fw19 := Fld.same W19 (Fld.other W16 (Fld.other W13 (F0_iterations.ext E5) (Or.inr (slot_ne (Or.inr (hw _ (List.mem_of_getElem? (i := 109) rfl))) (Or.inr (hw _ (List.mem_of_getElem? (i := 105) rfl))) (by decide) (t := .long) (t' := .double) (by decide) (by decide)))) (Or.inr (slot_ne (Or.inr (hw _ (List.mem_of_getElem? (i := 109) rfl))) (Or.inr (hw _ (List.mem_of_getElem? (i := 107) rfl))) (by decide) (t := .long) (t' := (.object "java/util/Optional")) (by decide) (by decide))))
  have N19 := Fr.snoc X19 N16 g0
  have K19 : Keep h0 h19 [a0_] := Keep.wr K16 W19 (Or.inl (List.mem_of_getElem? (i := 0) rfl))
  have a20 : ∀ t, Steps p.tables e below (T19.setTop (mkF m 71 #[.val (.ref a0_), .val (.double dv), .second, .val (.ref o2), .val (.long q4), .second, .val (.long q6), .second, .val (.int (0 : Int32))] [])) t → Steps p.tables e below (s₁.setTop (entryFrame m #[(.ref a0_), (.double dv), (.ref o2), (.long q4), (.long q6), (.int (0 : Int32))] 9)) t := fun t k => a18 t (st19 t k)
  have a21 : ∀ t, Steps p.tables e below (T19.setTop (mkF m 74 #[.val (.ref a0_), .val (.double dv), .second, .val (.ref o2), .val (.long q4), .second, .val (.long q6), .second, .val (.int (0 : Int32))] [(.long q6), (.ref a0_)])) t → Steps p.tables e below (s₁.setTop (entryFrame m #[(.ref a0_), (.double dv), (.ref o2), (.long q4), (.long q6), (.int (0 : Int32))] 9)) t := by
    intro t k
    refine a20 t ?_
    show Steps p.tables e below (T19.setTop (mkF m 71 #[.val (.ref a0_), .val (.double dv), .second, .val (.ref o2), .val (.long q4), .second, .val (.long q6), .second, .val (.int (0 : Int32))] [])) _
    refine XS.aloadN X19.here hx rfl (hb hby d14_71) rfl rfl ?_
    show Steps p.tables e below (T19.setTop (mkF m 72 #[.val (.ref a0_), .val (.double dv), .second, .val (.ref o2), .val (.long q4), .second, .val (.long q6), .second, .val (.int (0 : Int32))] [(.ref a0_)])) _
    refine XS.lload X19.here hx rfl (hb hby d14_72) rfl ?_
    exact k
  obtain ⟨T22, h22, X22, e22, W22, st22⟩ := putF X19 hx hZ hown (host := "") (Or.inl (hw _ (List.mem_of_getElem? (i := 110) rfl))) Via.refl e19 (Fld.other W19 (Fld.other W16 (Fld.other W13 (F0_multiplications.ext E5) (Or.inr (slot_ne (Or.inr (hw _ (List.mem_of_getElem? (i := 111) rfl))) (Or.inr (hw _ (List.mem_of_getElem? (i := 105) rfl))) (by decide) (t := .long) (t' := .double) (by decide) (by decide)))) (Or.inr (slot_ne (Or.inr (hw _ (List.mem_of_getElem? (i := 111) rfl))) (Or.inr (hw _ (List.mem_of_getElem? (i := 107) rfl))) (by decide) (t := .long) (t' := (.object "java/util/Optional")) (by decide) (by decide)))) (Or.inr (slot_ne (Or.inr (hw _ (List.mem_of_getElem? (i := 111) rfl))) (Or.inr (hw _ (List.mem_of_getElem? (i := 109) rfl))) (by decide) (t := .long) (t' := .long) (by decide) (by decide)))) (Exa.wr W19 (Exa.wr W16 (Exa.wr W13 (E0.ext E5)))) (Or.inr ⟨(hw _ (List.mem_of_getElem? (i := 111) rfl)), rfl, hnm⟩) (hw _ (List.mem_of_getElem? (i := 31) rfl)) (ty := .long) (by decide) rfl rfl (g := (mkF m 74 #[.val (.ref a0_), .val (.double dv), .second, .val (.ref o2), .val (.long q4), .second, .val (.long q6), .second, .val (.int (0 : Int32))] [(.long q6), (.ref a0_)])) rfl rfl (hb hby d14_74)
  have Fw22 := Fld.same W22 (Fld.other W19 (Fld.other W16 (Fld.other W13 (F0_multiplications.ext E5) (Or.inr (slot_ne (Or.inr (hw _ (List.mem_of_getElem? (i := 111) rfl))) (Or.inr (hw _ (List.mem_of_getElem? (i := 105) rfl))) (by decide) (t := .long) (t' := .double) (by decide) (by decide)))) (Or.inr (slot_ne (Or.inr (hw _ (List.mem_of_getElem? (i := 111) rfl))) (Or.inr (hw _ (List.mem_of_getElem? (i := 107) rfl))) (by decide) (t := .long) (t' := (.object "java/util/Optional")) (by decide) (by decide)))) (Or.inr (slot_ne (Or.inr (hw _ (List.mem_of_getElem? (i := 111) rfl))) (Or.inr (hw _ (List.mem_of_getElem? (i := 109) rfl))) (by decide) (t := .long) (t' := .long) (by decide) (by decide))))
  have N22 := Fr.snoc X22 N19 g0
  have K22 : Keep h0 h22 [a0_] := Keep.wr K19 W22 (Or.inl (List.mem_of_getElem? (i := 0) rfl))
  have a23 : ∀ t, Steps p.tables e below (T22.setTop (mkF m 77 #[.val (.ref a0_), .val (.double dv), .second, .val (.ref o2), .val (.long q4), .second, .val (.long q6), .second, .val (.int (0 : Int32))] [])) t → Steps p.tables e below (s₁.setTop (entryFrame m #[(.ref a0_), (.double dv), (.ref o2), (.long q4), (.long q6), (.int (0 : Int32))] 9)) t := fun t k => a21 t (st22 t k)
  have a24 : ∀ t, Steps p.tables e below (T22.setTop (mkF m 80 #[.val (.ref a0_), .val (.double dv), .second, .val (.ref o2), .val (.long q4), .second, .val (.long q6), .second, .val (.int (0 : Int32))] [(.int (0 : Int32)), (.ref a0_)])) t → Steps p.tables e below (s₁.setTop (entryFrame m #[(.ref a0_), (.double dv), (.ref o2), (.long q4), (.long q6), (.int (0 : Int32))] 9)) t := by
    intro t k
    refine a23 t ?_
    show Steps p.tables e below (T22.setTop (mkF m 77 #[.val (.ref a0_), .val (.double dv), .second, .val (.ref o2), .val (.long q4), .second, .val (.long q6), .second, .val (.int (0 : Int32))] [])) _
    refine XS.aloadN X22.here hx rfl (hb hby d14_77) rfl rfl ?_
    show Steps p.tables e below (T22.setTop (mkF m 78 #[.val (.ref a0_), .val (.double dv), .second, .val (.ref o2), .val (.long q4), .second, .val (.long q6), .second, .val (.int (0 : Int32))] [(.ref a0_)])) _
    refine XS.iload X22.here hx rfl (hb hby d14_78) rfl ?_
    exact k
  obtain ⟨T25, h25, X25, e25, W25, st25⟩ := putFN X22 hx hZ hown (hw _ (List.mem_of_getElem? (i := 112) rfl)) Via.refl e22 (Fld.other W22 (Fld.other W19 (Fld.other W16 (Fld.other W13 (F0_handedOver.ext E5) (Or.inr (slot_ne (Or.inr (hw _ (List.mem_of_getElem? (i := 113) rfl))) (Or.inr (hw _ (List.mem_of_getElem? (i := 105) rfl))) (by decide) (t := .boolean) (t' := .double) (by decide) (by decide)))) (Or.inr (slot_ne (Or.inr (hw _ (List.mem_of_getElem? (i := 113) rfl))) (Or.inr (hw _ (List.mem_of_getElem? (i := 107) rfl))) (by decide) (t := .boolean) (t' := (.object "java/util/Optional")) (by decide) (by decide)))) (Or.inr (slot_ne (Or.inr (hw _ (List.mem_of_getElem? (i := 113) rfl))) (Or.inr (hw _ (List.mem_of_getElem? (i := 109) rfl))) (by decide) (t := .boolean) (t' := .long) (by decide) (by decide)))) (Or.inr (slot_ne (Or.inr (hw _ (List.mem_of_getElem? (i := 113) rfl))) (Or.inr (hw _ (List.mem_of_getElem? (i := 111) rfl))) (by decide) (t := .boolean) (t' := .long) (by decide) (by decide)))) (Exa.wr W22 (Exa.wr W19 (Exa.wr W16 (Exa.wr W13 (E0.ext E5))))) (Or.inr ⟨(hw _ (List.mem_of_getElem? (i := 113) rfl)), rfl, hnm⟩) (hw _ (List.mem_of_getElem? (i := 31) rfl)) (ty := .boolean) (v' := (.int (0 : Int32))) (by decide) rfl rfl (g := (mkF m 80 #[.val (.ref a0_), .val (.double dv), .second, .val (.ref o2), .val (.long q4), .second, .val (.long q6), .second, .val (.int (0 : Int32))] [(.int (0 : Int32)), (.ref a0_)])) rfl rfl (hb hby d14_80)
  have Fw25 := Fld.same W25 (Fld.other W22 (Fld.other W19 (Fld.other W16 (Fld.other W13 (F0_handedOver.ext E5) (Or.inr (slot_ne (Or.inr (hw _ (List.mem_of_getElem? (i := 113) rfl))) (Or.inr (hw _ (List.mem_of_getElem? (i := 105) rfl))) (by decide) (t := .boolean) (t' := .double) (by decide) (by decide)))) (Or.inr (slot_ne (Or.inr (hw _ (List.mem_of_getElem? (i := 113) rfl))) (Or.inr (hw _ (List.mem_of_getElem? (i := 107) rfl))) (by decide) (t := .boolean) (t' := (.object "java/util/Optional")) (by decide) (by decide)))) (Or.inr (slot_ne (Or.inr (hw _ (List.mem_of_getElem? (i := 113) rfl))) (Or.inr (hw _ (List.mem_of_getElem? (i := 109) rfl))) (by decide) (t := .boolean) (t' := .long) (by decide) (by decide)))) (Or.inr (slot_ne (Or.inr (hw _ (List.mem_of_getElem? (i := 113) rfl))) (Or.inr (hw _ (List.mem_of_getElem? (i := 111) rfl))) (by decide) (t := .boolean) (t' := .long) (by decide) (by decide))))
  have N25 := Fr.snoc X25 N22 g0
  have K25 : Keep h0 h25 [a0_] := Keep.wr K22 W25 (Or.inl (List.mem_of_getElem? (i := 0) rfl))
  have a26 : ∀ t, Steps p.tables e below (T25.setTop (mkF m 83 #[.val (.ref a0_), .val (.double dv), .second, .val (.ref o2), .val (.long q4), .second, .val (.long q6), .second, .val (.int (0 : Int32))] [])) t → Steps p.tables e below (s₁.setTop (entryFrame m #[(.ref a0_), (.double dv), (.ref o2), (.long q4), (.long q6), (.int (0 : Int32))] 9)) t := fun t k => a24 t (st25 t k)
  obtain ⟨fs, hr, hrun, hended, hRE⟩ := Stand.leaveW (s := s) (vm₁ := T5.vm) X25 hS (by rw [e25]; exact (Nat.le_trans (Nat.le_trans (Nat.le_trans (Nat.le_trans (Nat.le_trans hk5 (Keep.of_wr W13).1) (Keep.of_wr W16).1) (Keep.of_wr W19).1) (Keep.of_wr W22).1) (Keep.of_wr W25).1)) (v := none) (fun _ => rfl)
  refine ⟨_, _, a26 _ ?_, hrun, hended, _, _, rfl, ?_, hRE.1, hRE.2.1, hRE.2.2.1, hRE.2.2.2.mono (by decide) (by decide)⟩
  · show Steps p.tables e below (T25.setTop (mkF m 83 #[.val (.ref a0_), .val (.double dv), .second, .val (.ref o2), .val (.long q4), .second, .val (.long q6), .second, .val (.int (0 : Int32))] [])) _
    exact X25.returnOut hx Bd.returns (hb hby d14_83) hr
  · show QrmA1 Z a0_ dv o2 q4 q6 iv lw up h0 n0 _ T25.heap _
    rw [e25]
    exact ⟨rfl, N25, K25, (Fld.other W25 (Fld.other W22 (Fld.other W19 (Fld.other W16 Fw13 (Or.inr (slot_ne (Or.inr (hw _ (List.mem_of_getElem? (i := 105) rfl))) (Or.inr (hw _ (List.mem_of_getElem? (i := 107) rfl))) (by decide) (t := .double) (t' := (.object "java/util/Optional")) (by decide) (by decide)))) (Or.inr (slot_ne (Or.inr (hw _ (List.mem_of_getElem? (i := 105) rfl))) (Or.inr (hw _ (List.mem_of_getElem? (i := 109) rfl))) (by decide) (t := .double) (t' := .long) (by decide) (by decide)))) (Or.inr (slot_ne (Or.inr (hw _ (List.mem_of_getElem? (i := 105) rfl))) (Or.inr (hw _ (List.mem_of_getElem? (i := 111) rfl))) (by decide) (t := .double) (t' := .long) (by decide) (by decide)))) (Or.inr (slot_ne (Or.inr (hw _ (List.mem_of_getElem? (i := 105) rfl))) (Or.inr (hw _ (List.mem_of_getElem? (i := 113) rfl))) (by decide) (t := .double) (t' := .boolean) (by decide) (by decide)))), (Fld.other W25 (Fld.other W22 (Fld.other W19 Fw16 (Or.inr (slot_ne (Or.inr (hw _ (List.mem_of_getElem? (i := 107) rfl))) (Or.inr (hw _ (List.mem_of_getElem? (i := 109) rfl))) (by decide) (t := (.object "java/util/Optional")) (t' := .long) (by decide) (by decide)))) (Or.inr (slot_ne (Or.inr (hw _ (List.mem_of_getElem? (i := 107) rfl))) (Or.inr (hw _ (List.mem_of_getElem? (i := 111) rfl))) (by decide) (t := (.object "java/util/Optional")) (t' := .long) (by decide) (by decide)))) (Or.inr (slot_ne (Or.inr (hw _ (List.mem_of_getElem? (i := 107) rfl))) (Or.inr (hw _ (List.mem_of_getElem? (i := 113) rfl))) (by decide) (t := (.object "java/util/Optional")) (t' := .boolean) (by decide) (by decide)))), (Fld.other W25 (Fld.other W22 Fw19 (Or.inr (slot_ne (Or.inr (hw _ (List.mem_of_getElem? (i := 109) rfl))) (Or.inr (hw _ (List.mem_of_getElem? (i := 111) rfl))) (by decide) (t := .long) (t' := .long) (by decide) (by decide)))) (Or.inr (slot_ne (Or.inr (hw _ (List.mem_of_getElem? (i := 109) rfl))) (Or.inr (hw _ (List.mem_of_getElem? (i := 113) rfl))) (by decide) (t := .long) (t' := .boolean) (by decide) (by decide)))), (Fld.other W25 Fw22 (Or.inr (slot_ne (Or.inr (hw _ (List.mem_of_getElem? (i := 111) rfl))) (Or.inr (hw _ (List.mem_of_getElem? (i := 113) rfl))) (by decide) (t := .long) (t' := .boolean) (by decide) (by decide)))), Fw25⟩
theorem ef_rmA2 (m : MethodId) (x0 : Addr) (x1 : UInt64) (x2 : Addr) (x3 : Int64) (x4 : Int64) : entryFrame m #[(.ref x0), (.double x1), (.ref x2), (.long x3), (.long x4)] 8 = mkF m 0 #[.val (.ref x0), .val (.double x1), .second, .val (.ref x2), .val (.long x3), .second, .val (.long x4), .second] [] := by first | (simp [entryFrame, mkF, argsToLocals, Value.category]; done) | rfl
theorem d13_0 : decode prog_1_method_2_code 0 = .ok (.aload_n 0, 1) := by decide +kernel
theorem d13_1 : decode prog_1_method_2_code 1 = .ok (.dload_n 1, 1) := by decide +kernel
theorem d13_2 : decode prog_1_method_2_code 2 = .ok (.aload_n 3, 1) := by decide +kernel
theorem d13_3 : decode prog_1_method_2_code 3 = .ok (.lload 4, 2) := by decide +kernel
theorem d13_5 : decode prog_1_method_2_code 5 = .ok (.lload 6, 2) := by decide +kernel
theorem d13_7 : decode prog_1_method_2_code 7 = .ok (.iconst 0, 1) := by decide +kernel
theorem d13_8 : decode prog_1_method_2_code 8 = .ok (.invokespecial 54, 3) := by decide +kernel
theorem own_pd9 : parseMethodDescriptor "(DLjava/util/Optional;JJZ)V" = some ⟨[.double, (.object "java/util/Optional"), .long, .long, .boolean], none⟩ := by decide +kernel
theorem d13_11 : decode prog_1_method_2_code 11 = .ok (.return_, 1) := by decide +kernel
def QrmA2 (Z : State) (a0_ : Addr) (dv : UInt64) (o2 : Addr) (q4 : Int64) (q6 : Int64) (iv : Addr) (lw up : UInt64) (h0 : Heap) (n0 : Nat) (v : Option Value) (h : Heap) (L : List Loc) : Prop := v = none ∧ Fr n0 L ∧ Keep h0 h [a0_] ∧ Fld Z h a0_ "com/example/pinched_bounds/pinchedbounds/Answer" "value" "D" (.double dv) ∧ Fld Z h a0_ "com/example/pinched_bounds/pinchedbounds/Answer" "interval" "Ljava/util/Optional;" (.ref o2) ∧ Fld Z h a0_ "com/example/pinched_bounds/pinchedbounds/Answer" "iterations" "J" (.long q4) ∧ Fld Z h a0_ "com/example/pinched_bounds/pinchedbounds/Answer" "multiplications" "J" (.long q6) ∧ Fld Z h a0_ "com/example/pinched_bounds/pinchedbounds/Answer" "handedOver" "Z" (.int (0 : Int32))
set_option maxRecDepth 65536 in
set_option maxHeartbeats 40000000 in
theorem rmA2 (l : Launch) (Z : State) (a0 : Array Value) (hw : ∀ d ∈ tables_1, d.before a0 Z = true) (ws : List Jvm.Cond) (a0_ : Addr) (dv : UInt64) (o2 : Addr) (q4 : Int64) (q6 : Int64) (iv : Addr) (lw up : UInt64) (h0 : Heap) (n0 : Nat) (Z0 : n0 ≤ h0.size) (E0 : Exa Z h0 a0_ "com/example/pinched_bounds/pinchedbounds/Answer") (g0 : n0 ≤ a0_) (F0_value : Fld Z h0 a0_ "com/example/pinched_bounds/pinchedbounds/Answer" "value" "D" (.double 0)) (F0_interval : Fld Z h0 a0_ "com/example/pinched_bounds/pinchedbounds/Answer" "interval" "Ljava/util/Optional;" .null) (F0_iterations : Fld Z h0 a0_ "com/example/pinched_bounds/pinchedbounds/Answer" "iterations" "J" (.long 0)) (F0_multiplications : Fld Z h0 a0_ "com/example/pinched_bounds/pinchedbounds/Answer" "multiplications" "J" (.long 0)) (F0_handedOver : Fld Z h0 a0_ "com/example/pinched_bounds/pinchedbounds/Answer" "handedOver" "Z" (.int 0)) (XO : Exa Z h0 o2 "java/util/Optional") (FO : Fld Z h0 o2 "java/util/Optional" "value" "Ljava/lang/Object;" (.ref iv)) (XI : Exa Z h0 iv "com/example/pinched_bounds/pinchedbounds/Interval") (FL : Fld Z h0 iv "com/example/pinched_bounds/pinchedbounds/Interval" "lower" "D" (.double lw)) (FU : Fld Z h0 iv "com/example/pinched_bounds/pinchedbounds/Interval" "upper" "D" (.double up)) (hl : ¬ ((0 : Int32) < cmpValue (FP.dcmp lw dv) .g)) (hu : ¬ ((0 : Int32) < cmpValue (FP.dcmp dv up) .g)) (hq4 : ¬ q4 < 0) (hq6 : ¬ q6 < 0) :
    MetFree l (⟨"com/example/pinched_bounds/pinchedbounds/Answer", "<init>", "(DLjava/util/Optional;JJ)V"⟩ : MethodName) (head1 (Jvm.Cond.code (⟨"com/example/pinched_bounds/pinchedbounds/Answer", "<init>", "(DLjava/util/Optional;JJ)V"⟩ : MethodName) prog_1_method_2_code 8 none :: ws) ({ frames := 3, cells := 2, slots := 36, locals := 60 } : Room)) (fun a U => a = #[(.ref a0_), (.double dv), (.ref o2), (.long q4), (.long q6)] ∧ Z.Warmed39 U.vm ∧ U.heap = h0) (fun _ _ _ _ _ => True) (fun _ U o U' => ∃ v L, o = .returned v ∧ QrmA2 Z a0_ dv o2 q4 q6 iv lw up h0 n0 v U'.heap L ∧ ReturnedEndW U o U' L ({ frames := 3, cells := 2, slots := 36, locals := 60 } : Room).cells ({ frames := 3, cells := 2, slots := 36, locals := 60 } : Room).slots) := by
  refine MetFree.of_bodySF (plainFor_of_name own_pn_com_example_pinched_bounds_pinchedbounds_Answer) hisR ?_
  intro p e s m args below meth c s₁ Bd hml0 hP hK
  obtain ⟨rfl, hZ, hh⟩ := hP
  have hx := Bd.exec
  have hby := Bd.bytes
  have hml : c.maxLocals = 8 := hml0
  have hown : s.vm.findClass "com/example/pinched_bounds/pinchedbounds/Answer" = some m.cls := findClass_of_methodNamed Bd.named
  have hnm := (name_of_methodNamed Bd.named Bd.method).1
  have X0 : Stand p l e ({ frames := 3, cells := 2, slots := 36, locals := 60 } : Room) s m #[(.ref a0_), (.double dv), (.ref o2), (.long q4), (.long q6)] below meth c s₁ [] 0 0 := Stand.of_body Bd
  have e0 : s₁.heap = h0 := by rw [← hh, Bd.state]; rfl
  have N0 := Fr.nil n0
  have hS : s.Since s.vm h0.size := (State.WarmedH.refl s).since _
  have pre0 : ∀ t, Steps p.tables e below (s₁.setTop (mkF m 0 #[.val (.ref a0_), .val (.double dv), .second, .val (.ref o2), .val (.long q4), .second, .val (.long q6), .second] [])) t → Steps p.tables e below (s₁.setTop (entryFrame m #[(.ref a0_), (.double dv), (.ref o2), (.long q4), (.long q6)] 8)) t := fun t k => castTop (ef_rmA2 m a0_ dv o2 q4 q6) k
  have a1 : ∀ t, Steps p.tables e below (s₁.setTop (mkF m 8 #[.val (.ref a0_), .val (.double dv), .second, .val (.ref o2), .val (.long q4), .second, .val (.long q6), .second] [(.int (0 : Int32)), (.long q6), (.long q4), (.ref o2), (.double dv), (.ref a0_)])) t → Steps p.tables e below (s₁.setTop (entryFrame m #[(.ref a0_), (.double dv), (.ref o2), (.long q4), (.long q6)] 8)) t := by
    intro t k
    refine pre0 t ?_
    show Steps p.tables e below (s₁.setTop (mkF m 0 #[.val (.ref a0_), .val (.double dv), .second, .val (.ref o2), .val (.long q4), .second, .val (.long q6), .second] [])) _
    refine XS.aloadN X0.here hx rfl (hb hby d13_0) rfl rfl ?_
    show Steps p.tables e below (s₁.setTop (mkF m 1 #[.val (.ref a0_), .val (.double dv), .second, .val (.ref o2), .val (.long q4), .second, .val (.long q6), .second] [(.ref a0_)])) _
    refine XS.dloadN X0.here hx rfl (hb hby d13_1) rfl ?_
    show Steps p.tables e below (s₁.setTop (mkF m 2 #[.val (.ref a0_), .val (.double dv), .second, .val (.ref o2), .val (.long q4), .second, .val (.long q6), .second] [(.double dv), (.ref a0_)])) _
    refine XS.aloadN X0.here hx rfl (hb hby d13_2) rfl rfl ?_
    show Steps p.tables e below (s₁.setTop (mkF m 3 #[.val (.ref a0_), .val (.double dv), .second, .val (.ref o2), .val (.long q4), .second, .val (.long q6), .second] [(.ref o2), (.double dv), (.ref a0_)])) _
    refine XS.lload X0.here hx rfl (hb hby d13_3) rfl ?_
    show Steps p.tables e below (s₁.setTop (mkF m 5 #[.val (.ref a0_), .val (.double dv), .second, .val (.ref o2), .val (.long q4), .second, .val (.long q6), .second] [(.long q4), (.ref o2), (.double dv), (.ref a0_)])) _
    refine XS.lload X0.here hx rfl (hb hby d13_5) rfl ?_
    show Steps p.tables e below (s₁.setTop (mkF m 7 #[.val (.ref a0_), .val (.double dv), .second, .val (.ref o2), .val (.long q4), .second, .val (.long q6), .second] [(.long q6), (.long q4), (.ref o2), (.double dv), (.ref a0_)])) _
    refine XS.iconst X0.here hx rfl (hb hby d13_7) ?_
    exact k
  obtain ⟨_, _, ⟨T2, L2, k2, n2⟩, -, X2, hS2, hgr, ⟨Lc2, hQ2, l2, y2, z2⟩, st2⟩ := X0.specialBackS hx (y := (⟨"com/example/pinched_bounds/pinchedbounds/Answer", "<init>", "(DLjava/util/Optional;JJZ)V"⟩ : MethodName)) rfl hown (mvT hZ (hw _ (List.mem_of_getElem? (i := 64) rfl))) (mvT hZ (hw _ (List.mem_of_getElem? (i := 65) rfl))) (mvT hZ (hw _ (List.mem_of_getElem? (i := 66) rfl))) (by decide) (backOfS (W := 0) (rmA1 l Z a0 hw [] a0_ dv o2 q4 q6 iv lw up h0 n0 Z0 E0 g0 F0_value F0_interval F0_iterations F0_multiplications F0_handedOver XO FO XI FL FU hl hu hq4 hq6) hZ (hw _ (List.mem_of_getElem? (i := 66) rfl)) (hw _ (List.mem_of_getElem? (i := 28) rfl)) (by decide) (by decide)) (g := (mkF m 8 #[.val (.ref a0_), .val (.double dv), .second, .val (.ref o2), .val (.long q4), .second, .val (.long q6), .second] [(.int (0 : Int32)), (.long q6), (.long q4), (.ref o2), (.double dv), (.ref a0_)])) rfl (by rw [hml]; rfl) (Steps.refl _) (a := a0_) (argsL := [(.double dv), (.ref o2), (.long q4), (.long q6), (.int (0 : Int32))]) (rest := []) (lenOf own_pd9 rfl) rfl (by show 2 * 0 + _ ≤ _; exact Nat.le_of_eq rfl) (hb hby d13_8) (fun _ _ => ⟨rfl, e0, (by decide : 0 + 2 ≤ _), (by decide : 0 + 36 ≤ _)⟩)
  dsimp only [Pt.U, Pt.locs, Pt.cells, Pt.slots] at X2 l2 y2 z2 st2 hQ2 hS2 hgr
  subst l2 y2 z2
  obtain ⟨X2, hS, hZ, hown⟩ := rebS (s := s) (vm0 := s.vm) hS (by rw [e0]; exact (Nat.le_refl _)) X2 hS2 hgr hZ hown
  obtain ⟨rfl, N2q, K2q, G2_0, G2_1, G2_2, G2_3, G2_4⟩ := hQ2
  have N2 := Fr.app N0 N2q
  have KK2 : Keep h0 T2.heap [a0_] := Keep.trans (Keep.refl h0 [a0_]) K2q (allS (Or.inl (List.mem_of_getElem? (i := 0) rfl)) all0)
  have a3 : ∀ t, Steps p.tables e below (T2.setTop (mkF m 11 #[.val (.ref a0_), .val (.double dv), .second, .val (.ref o2), .val (.long q4), .second, .val (.long q6), .second] [])) t → Steps p.tables e below (s₁.setTop (entryFrame m #[(.ref a0_), (.double dv), (.ref o2), (.long q4), (.long q6)] 8)) t := fun t k => a1 t (st2.trans k)
  obtain ⟨fs, hr, hrun, hended, hRE⟩ := Stand.leaveW (s := s) (vm₁ := T2.vm) X2 hS (Nat.le_refl _) (v := none) (fun _ => rfl)
  refine ⟨_, _, a3 _ ?_, hrun, hended, _, _, rfl, ?_, hRE.1, hRE.2.1, hRE.2.2.1, hRE.2.2.2.mono (by decide) (by decide)⟩
  · show Steps p.tables e below (T2.setTop (mkF m 11 #[.val (.ref a0_), .val (.double dv), .second, .val (.ref o2), .val (.long q4), .second, .val (.long q6), .second] [])) _
    exact X2.returnOut hx Bd.returns (hb hby d13_11) hr
  · show QrmA2 Z a0_ dv o2 q4 q6 iv lw up h0 n0 _ T2.heap _
    exact ⟨rfl, N2, KK2, G2_0, G2_1, G2_2, G2_3, G2_4⟩
theorem ef_rmCert (m : MethodId) (x0 : Addr) (x1 : Int64) (x2 : Int64) : entryFrame m #[(.ref x0), (.long x1), (.long x2)] 5 = mkF m 0 #[.val (.ref x0), .val (.long x1), .second, .val (.long x2), .second] [] := by first | (simp [entryFrame, mkF, argsToLocals, Value.category]; done) | rfl
theorem d6_0 : decode prog_1_method_3_code 0 = .ok (.new 16, 3) := by decide +kernel
theorem d6_3 : decode prog_1_method_3_code 3 = .ok (.dup, 1) := by decide +kernel
theorem d6_4 : decode prog_1_method_3_code 4 = .ok (.aload_n 0, 1) := by decide +kernel
theorem d6_5 : decode prog_1_method_3_code 5 = .ok (.invokevirtual 57, 3) := by decide +kernel
theorem d6_8 : decode prog_1_method_3_code 8 = .ok (.aload_n 0, 1) := by decide +kernel
theorem d6_9 : decode prog_1_method_3_code 9 = .ok (.invokestatic 62, 3) := by decide +kernel
theorem own_pd10 : parseMethodDescriptor "(Ljava/lang/Object;)Ljava/util/Optional;" = some ⟨[(.object "java/lang/Object")], some (.object "java/util/Optional")⟩ := by decide +kernel
theorem d6_12 : decode prog_1_method_3_code 12 = .ok (.lload_n 1, 1) := by decide +kernel
theorem d6_13 : decode prog_1_method_3_code 13 = .ok (.lload_n 3, 1) := by decide +kernel
theorem d6_14 : decode prog_1_method_3_code 14 = .ok (.invokespecial 68, 3) := by decide +kernel
theorem own_pd11 : parseMethodDescriptor "(DLjava/util/Optional;JJ)V" = some ⟨[.double, (.object "java/util/Optional"), .long, .long], none⟩ := by decide +kernel
theorem d6_17 : decode prog_1_method_3_code 17 = .ok (.areturn, 1) := by decide +kernel
def QCert (Z : State) (a0_ : Addr) (q1 : Int64) (q3 : Int64) (lo hi : Int32) (h0 : Heap) (n0 : Nat) (v : Option Value) (h : Heap) (L : List Loc) : Prop := ∃ (b : Addr) (r : UInt64) (ob : Addr), v = some (.ref b) ∧ Dy (lo.toInt + hi.toInt) 1 r ∧ Fr n0 L ∧ Keep h0 h [] ∧ Exa Z h b "com/example/pinched_bounds/pinchedbounds/Answer" ∧ Fld Z h b "com/example/pinched_bounds/pinchedbounds/Answer" "value" "D" (.double r) ∧ Fld Z h b "com/example/pinched_bounds/pinchedbounds/Answer" "interval" "Ljava/util/Optional;" (.ref ob) ∧ Fld Z h b "com/example/pinched_bounds/pinchedbounds/Answer" "iterations" "J" (.long q1) ∧ Fld Z h b "com/example/pinched_bounds/pinchedbounds/Answer" "multiplications" "J" (.long q3) ∧ Fld Z h b "com/example/pinched_bounds/pinchedbounds/Answer" "handedOver" "Z" (.int 0) ∧ Exa Z h ob "java/util/Optional" ∧ Fld Z h ob "java/util/Optional" "value" "Ljava/lang/Object;" (.ref a0_)
set_option maxRecDepth 65536 in
set_option maxHeartbeats 40000000 in
theorem rmCert (l : Launch) (Z : State) (a0 : Array Value) (hw : ∀ d ∈ tables_1, d.before a0 Z = true) (ws : List Jvm.Cond) (a0_ : Addr) (q1 : Int64) (q3 : Int64) (lo hi : Int32) (h0 : Heap) (n0 : Nat) (Z0 : n0 ≤ h0.size) (XI : Exa Z h0 a0_ "com/example/pinched_bounds/pinchedbounds/Interval") (F1 : Fld Z h0 a0_ "com/example/pinched_bounds/pinchedbounds/Interval" "lower" "D" (.double (FP.i2d lo))) (F2 : Fld Z h0 a0_ "com/example/pinched_bounds/pinchedbounds/Interval" "upper" "D" (.double (FP.i2d hi))) (hle : lo.toInt ≤ hi.toInt) (hq1 : ¬ q1 < 0) (hq3 : ¬ q3 < 0) :
    MetFree l (⟨"com/example/pinched_bounds/pinchedbounds/Answer", "certified", "(Lcom/example/pinched_bounds/pinchedbounds/Interval;JJ)Lcom/example/pinched_bounds/pinchedbounds/Answer;"⟩ : MethodName) (head1 (Jvm.Cond.code (⟨"com/example/pinched_bounds/pinchedbounds/Answer", "certified", "(Lcom/example/pinched_bounds/pinchedbounds/Interval;JJ)Lcom/example/pinched_bounds/pinchedbounds/Answer;"⟩ : MethodName) prog_1_method_3_code 5 (some (.object "com/example/pinched_bounds/pinchedbounds/Answer")) :: ws) ({ frames := 4, cells := 4, slots := 42, locals := 100 } : Room)) (fun a U => a = #[(.ref a0_), (.long q1), (.long q3)] ∧ Z.Warmed39 U.vm ∧ U.heap = h0) (fun _ _ _ _ _ => True) (fun _ U o U' => ∃ v L, o = .returned v ∧ QCert Z a0_ q1 q3 lo hi h0 n0 v U'.heap L ∧ ReturnedEndW U o U' L ({ frames := 4, cells := 4, slots := 42, locals := 100 } : Room).cells ({ frames := 4, cells := 4, slots := 42, locals := 100 } : Room).slots) := by
  refine MetFree.of_bodySF (plainFor_of_name own_pn_com_example_pinched_bounds_pinchedbounds_Answer) hisR ?_
  intro p e s m args below meth c s₁ Bd hml0 hP hK
  obtain ⟨rfl, hZ, hh⟩ := hP
  have hx := Bd.exec
  have hby := Bd.bytes
  have hml : c.maxLocals = 5 := hml0
  have hown : s.vm.findClass "com/example/pinched_bounds/pinchedbounds/Answer" = some m.cls := findClass_of_methodNamed Bd.named
  have hnm := (name_of_methodNamed Bd.named Bd.method).1
  have X0 : Stand p l e ({ frames := 4, cells := 4, slots := 42, locals := 100 } : Room) s m #[(.ref a0_), (.long q1), (.long q3)] below meth c s₁ [] 0 0 := Stand.of_body Bd
  have e0 : s₁.heap = h0 := by rw [← hh, Bd.state]; rfl
  have N0 := Fr.nil n0
  have hS : s.Since s.vm h0.size := (State.WarmedH.refl s).since _
  have pre0 : ∀ t, Steps p.tables e below (s₁.setTop (mkF m 0 #[.val (.ref a0_), .val (.long q1), .second, .val (.long q3), .second] [])) t → Steps p.tables e below (s₁.setTop (entryFrame m #[(.ref a0_), (.long q1), (.long q3)] 5)) t := fun t k => castTop (ef_rmCert m a0_ q1 q3) k
  obtain ⟨T1, h1, X1, e1, E1, A1, D1, -, st1⟩ := newO X0 hx hZ hown (hw _ (List.mem_of_getElem? (i := 30) rfl)) (hw _ (List.mem_of_getElem? (i := 31) rfl)) (hw _ (List.mem_of_getElem? (i := 28) rfl)) e0 (g := (mkF m 0 #[.val (.ref a0_), .val (.long q1), .second, .val (.long q3), .second] [])) rfl (hb hby d6_0) (by decide) (by decide)
  obtain ⟨b1, g1⟩ : ∃ z, z = h0.size := ⟨_, rfl⟩
  rw [← g1] at A1 D1 st1
  have g_b1 : n0 ≤ b1 := Nat.le_trans Z0 (Nat.le_of_eq g1.symm)
  have sz_b1 : h0.size ≤ b1 := Nat.le_trans ((Keep.refl h0 [])).1 (Nat.le_of_eq g1.symm)
  have K1 : Keep h0 h1 [] := Keep.ext (Keep.refl h0 []) E1
  have F_value_b1 : Fld Z h1 b1 "com/example/pinched_bounds/pinchedbounds/Answer" "value" "D" (.double (0 : UInt64)) := D1 (Or.inr (hw _ (List.mem_of_getElem? (i := 105) rfl))) (ty := .double) (by decide)
  have F_interval_b1 : Fld Z h1 b1 "com/example/pinched_bounds/pinchedbounds/Answer" "interval" "Ljava/util/Optional;" .null := D1 (Or.inr (hw _ (List.mem_of_getElem? (i := 107) rfl))) (ty := (.object "java/util/Optional")) (by decide)
  have F_iterations_b1 : Fld Z h1 b1 "com/example/pinched_bounds/pinchedbounds/Answer" "iterations" "J" (.long (0 : Int64)) := D1 (Or.inr (hw _ (List.mem_of_getElem? (i := 109) rfl))) (ty := .long) (by decide)
  have F_multiplications_b1 : Fld Z h1 b1 "com/example/pinched_bounds/pinchedbounds/Answer" "multiplications" "J" (.long (0 : Int64)) := D1 (Or.inr (hw _ (List.mem_of_getElem? (i := 111) rfl))) (ty := .long) (by decide)
  have F_handedOver_b1 : Fld Z h1 b1 "com/example/pinched_bounds/pinchedbounds/Answer" "handedOver" "Z" (.int (0 : Int32)) := D1 (Or.inr (hw _ (List.mem_of_getElem? (i := 113) rfl))) (ty := .boolean) (by decide)
  have a2 : ∀ t, Steps p.tables e below (T1.setTop (mkF m 3 #[.val (.ref a0_), .val (.long q1), .second, .val (.long q3), .second] [(.ref b1)])) t → Steps p.tables e below (s₁.setTop (entryFrame m #[(.ref a0_), (.long q1), (.long q3)] 5)) t := fun t k => pre0 t (st1 t k)
  have a3 : ∀ t, Steps p.tables e below (T1.setTop (mkF m 5 #[.val (.ref a0_), .val (.long q1), .second, .val (.long q3), .second] [(.ref a0_), (.ref b1), (.ref b1)])) t → Steps p.tables e below (s₁.setTop (entryFrame m #[(.ref a0_), (.long q1), (.long q3)] 5)) t := by
    intro t k
    refine a2 t ?_
    show Steps p.tables e below (T1.setTop (mkF m 3 #[.val (.ref a0_), .val (.long q1), .second, .val (.long q3), .second] [(.ref b1)])) _
    refine XS.dup X1.here hx rfl (hb hby d6_3) rfl rfl ?_
    show Steps p.tables e below (T1.setTop (mkF m 4 #[.val (.ref a0_), .val (.long q1), .second, .val (.long q3), .second] [(.ref b1), (.ref b1)])) _
    refine XS.aloadN X1.here hx rfl (hb hby d6_4) rfl rfl ?_
    exact k
  obtain ⟨cq4, kq4, q4a, q4b, q4c⟩ := isOf hZ e1 (XI.ext E1)
  obtain ⟨_, _, ⟨T4, L4, k4, n4⟩, -, X4, ⟨Lc4, hQ4, l4, y4, z4⟩, st4⟩ := X1.virtualBack hx (y := (⟨"com/example/pinched_bounds/pinchedbounds/Interval", "value", "()D"⟩ : MethodName)) (z := (⟨"com/example/pinched_bounds/pinchedbounds/Interval", "value", "()D"⟩ : MethodName)) hown (mvT hZ (hw _ (List.mem_of_getElem? (i := 32) rfl))) (mvT hZ (hw _ (List.mem_of_getElem? (i := 33) rfl))) (notFace_of_selects (args := #[]) (mvT hZ (hw _ (List.mem_of_getElem? (i := 35) rfl)))) (mvT hZ (hw _ (List.mem_of_getElem? (i := 35) rfl))) (mvT hZ (hw _ (List.mem_of_getElem? (i := 34) rfl))) (by decide) (backOf (W := 2) (rmV l Z a0 hw [] a0_ lo hi h1 n0 (Nat.le_trans Z0 E1.1) (F1.ext E1) (F2.ext E1) hle) hZ (hw _ (List.mem_of_getElem? (i := 36) rfl)) (hw _ (List.mem_of_getElem? (i := 10) rfl)) (by decide) (by decide)) q4a q4c (g := (mkF m 5 #[.val (.ref a0_), .val (.long q1), .second, .val (.long q3), .second] [(.ref a0_), (.ref b1), (.ref b1)])) rfl (by rw [hml]; rfl) (Steps.refl _) (argsL := []) (rest := [(.ref b1), (.ref b1)]) (lenOf own_pd6 rfl) rfl (by show 2 * 0 + _ ≤ _; exact Nat.le_of_eq rfl) (hb hby d6_5) (fun _ _ => ⟨rfl, e1, (by decide : 1 + 0 ≤ _), (by decide : 5 + 0 ≤ _)⟩)
  dsimp only [Pt.U, Pt.locs, Pt.cells, Pt.slots] at X4 l4 y4 z4 st4 hQ4
  subst l4 y4 z4
  obtain ⟨r4, rfl, hV, N4q, e4q⟩ := hQ4
  have N4 := Fr.app N0 N4q
  have a5 : ∀ t, Steps p.tables e below (T4.setTop (mkF m 8 #[.val (.ref a0_), .val (.long q1), .second, .val (.long q3), .second] [(.double r4), (.ref b1), (.ref b1)])) t → Steps p.tables e below (s₁.setTop (entryFrame m #[(.ref a0_), (.long q1), (.long q3)] 5)) t := fun t k => a3 t (st4.trans k)
  have a6 : ∀ t, Steps p.tables e below (T4.setTop (mkF m 9 #[.val (.ref a0_), .val (.long q1), .second, .val (.long q3), .second] [(.ref a0_), (.double r4), (.ref b1), (.ref b1)])) t → Steps p.tables e below (s₁.setTop (entryFrame m #[(.ref a0_), (.long q1), (.long q3)] 5)) t := by
    intro t k
    refine a5 t ?_
    show Steps p.tables e below (T4.setTop (mkF m 8 #[.val (.ref a0_), .val (.long q1), .second, .val (.long q3), .second] [(.double r4), (.ref b1), (.ref b1)])) _
    refine XS.aloadN X4.here hx rfl (hb hby d6_8) rfl rfl ?_
    exact k
  obtain ⟨_, _, ⟨T7, L7, k7, n7⟩, -, X7, ⟨Lc7, hQ7, l7, y7, z7⟩, st7⟩ := Jvm.LawKit.callS X4 hx (y := (⟨"java/util/Optional", "of", "(Ljava/lang/Object;)Ljava/util/Optional;"⟩ : MethodName)) hown (mvT hZ (hw _ (List.mem_of_getElem? (i := 44) rfl))) (mvT hZ (hw _ (List.mem_of_getElem? (i := 45) rfl))) (mvT hZ (hw _ (List.mem_of_getElem? (i := 46) rfl))) (mvT hZ (hw _ (List.mem_of_getElem? (i := 47) rfl))) (by decide) (backOf (W := 4) (rmOf l Z a0 hw [] a0_ h1 n0 (Nat.le_trans Z0 E1.1) ) hZ (hw _ (List.mem_of_getElem? (i := 47) rfl)) (hw _ (List.mem_of_getElem? (i := 46) rfl)) (by decide) (by decide)) (g := (mkF m 9 #[.val (.ref a0_), .val (.long q1), .second, .val (.long q3), .second] [(.ref a0_), (.double r4), (.ref b1), (.ref b1)])) rfl (by rw [hml]; rfl) (argsL := [(.ref a0_)]) (rest := [(.double r4), (.ref b1), (.ref b1)]) (lenOf own_pd10 rfl) rfl (by show 2 * 0 + _ ≤ _; exact Nat.le_of_eq rfl) (hb hby d6_9) (fun _ _ => ⟨rfl, e4q, (by decide : 1 + 1 ≤ _), (by decide : 5 + 1 ≤ _)⟩)
  dsimp only [Pt.U, Pt.locs, Pt.cells, Pt.slots] at X7 l7 y7 z7 st7 hQ7
  subst l7 y7 z7
  obtain ⟨ob7, rfl, N7q, K7q, XO7, FO7⟩ := hQ7
  have N7 := Fr.app N4 N7q
  have KK7 : Keep h0 T7.heap [] := Keep.trans K1 K7q all0
  have a8 : ∀ t, Steps p.tables e below (T7.setTop (mkF m 12 #[.val (.ref a0_), .val (.long q1), .second, .val (.long q3), .second] [(.ref ob7), (.double r4), (.ref b1), (.ref b1)])) t → Steps p.tables e below (s₁.setTop (entryFrame m #[(.ref a0_), (.long q1), (.long q3)] 5)) t := fun t k => a6 t (st7 t k)
  have a9 : ∀ t, Steps p.tables e below (T7.setTop (mkF m 14 #[.val (.ref a0_), .val (.long q1), .second, .val (.long q3), .second] [(.long q3), (.long q1), (.ref ob7), (.double r4), (.ref b1), (.ref b1)])) t → Steps p.tables e below (s₁.setTop (entryFrame m #[(.ref a0_), (.long q1), (.long q3)] 5)) t := by
    intro t k
    refine a8 t ?_
    show Steps p.tables e below (T7.setTop (mkF m 12 #[.val (.ref a0_), .val (.long q1), .second, .val (.long q3), .second] [(.ref ob7), (.double r4), (.ref b1), (.ref b1)])) _
    refine XS.lloadN X7.here hx rfl (hb hby d6_12) rfl ?_
    show Steps p.tables e below (T7.setTop (mkF m 13 #[.val (.ref a0_), .val (.long q1), .second, .val (.long q3), .second] [(.long q1), (.ref ob7), (.double r4), (.ref b1), (.ref b1)])) _
    refine XS.lloadN X7.here hx rfl (hb hby d6_13) rfl ?_
    exact k
  obtain ⟨_, _, ⟨T10, L10, k10, n10⟩, -, X10, hS2, hgr, ⟨Lc10, hQ10, l10, y10, z10⟩, st10⟩ := X7.specialBackS hx (y := (⟨"com/example/pinched_bounds/pinchedbounds/Answer", "<init>", "(DLjava/util/Optional;JJ)V"⟩ : MethodName)) rfl hown (mvT hZ (hw _ (List.mem_of_getElem? (i := 61) rfl))) (mvT hZ (hw _ (List.mem_of_getElem? (i := 62) rfl))) (mvT hZ (hw _ (List.mem_of_getElem? (i := 63) rfl))) (by decide) (backOfS (W := 1) (rmA2 l Z a0 hw [] b1 r4 ob7 q1 q3 a0_ (FP.i2d lo) (FP.i2d hi) T7.heap n0 (Nat.le_trans (Nat.le_trans Z0 E1.1) K7q.1) (A1.keep K7q) g_b1 (F_value_b1.keep K7q nin0) (F_interval_b1.keep K7q nin0) (F_iterations_b1.keep K7q nin0) (F_multiplications_b1.keep K7q nin0) (F_handedOver_b1.keep K7q nin0) XO7 FO7 ((XI.ext E1).keep K7q) ((F1.ext E1).keep K7q nin0) ((F2.ext E1).keep K7q nin0) (own_not_gt (dy_i2d lo) hV (by have := hle; omega)) (own_not_gt' hV (dy_i2d hi) (by have := hle; omega)) hq1 hq3) hZ (hw _ (List.mem_of_getElem? (i := 63) rfl)) (hw _ (List.mem_of_getElem? (i := 28) rfl)) (by decide) (by decide)) (g := (mkF m 14 #[.val (.ref a0_), .val (.long q1), .second, .val (.long q3), .second] [(.long q3), (.long q1), (.ref ob7), (.double r4), (.ref b1), (.ref b1)])) rfl (by rw [hml]; rfl) (Steps.refl _) (a := b1) (argsL := [(.double r4), (.ref ob7), (.long q1), (.long q3)]) (rest := [(.ref b1)]) (lenOf own_pd11 rfl) rfl (by show 2 * 0 + _ ≤ _; exact Nat.le_of_eq rfl) (hb hby d6_14) (fun _ _ => ⟨rfl, rfl, (by decide : 2 + 2 ≤ _), (by decide : 6 + 36 ≤ _)⟩)
  dsimp only [Pt.U, Pt.locs, Pt.cells, Pt.slots] at X10 l10 y10 z10 st10 hQ10 hS2 hgr
  subst l10 y10 z10
  obtain ⟨X10, hS, hZ, hown⟩ := rebS (s := s) (vm0 := s.vm) hS (Nat.le_trans (Nat.le_trans (Nat.le_refl _) E1.1) K7q.1) X10 hS2 hgr hZ hown
  obtain ⟨rfl, N10q, K10q, G10_0, G10_1, G10_2, G10_3, G10_4⟩ := hQ10
  have N10 := Fr.app N7 N10q
  have KK10 : Keep h0 T10.heap [] := Keep.trans KK7 K10q (allS (Or.inr sz_b1) all0)
  have a11 : ∀ t, Steps p.tables e below (T10.setTop (mkF m 17 #[.val (.ref a0_), .val (.long q1), .second, .val (.long q3), .second] [(.ref b1)])) t → Steps p.tables e below (s₁.setTop (entryFrame m #[(.ref a0_), (.long q1), (.long q3)] 5)) t := fun t k => a9 t (st10.trans k)
  obtain ⟨fs, hr, hrun, hended, hRE⟩ := Stand.leaveW (s := s) (vm₁ := T10.vm) X10 hS (Nat.le_refl _) (v := some (.ref b1)) (fun h => by rw [Bd.returns] at h; cases h)
  refine ⟨_, _, a11 _ ?_, hrun, hended, _, _, rfl, ?_, hRE.1, hRE.2.1, hRE.2.2.1, hRE.2.2.2.mono (by decide) (by decide)⟩
  · show Steps p.tables e below (T10.setTop (mkF m 17 #[.val (.ref a0_), .val (.long q1), .second, .val (.long q3), .second] [(.ref b1)])) _
    exact retOut X10 hx Bd.returns rfl (Or.inr (Or.inr (Or.inr (Or.inr ⟨rfl, rfl, rfl⟩)))) (hb hby d6_17) hr
  · show QCert Z a0_ q1 q3 lo hi h0 n0 _ T10.heap _
    exact ⟨_, _, _, rfl, hV, N10, KK10, ((A1.keep K7q).keep K10q), G10_0, G10_1, G10_2, G10_3, G10_4, (XO7.keep K10q), (FO7.keep K10q (ninS (Ne.symm (Exa.ne (A1.keep K7q) XO7 (by decide))) nin0))⟩
theorem ef_rmAV (m : MethodId) (x0 : Addr) : entryFrame m #[(.ref x0)] 1 = mkF m 0 #[.val (.ref x0)] [] := by first | (simp [entryFrame, mkF, argsToLocals, Value.category]; done) | rfl
theorem d21_0 : decode prog_1_method_9_code 0 = .ok (.aload_n 0, 1) := by decide +kernel
theorem d21_1 : decode prog_1_method_9_code 1 = .ok (.getfield 36, 3) := by decide +kernel
theorem d21_4 : decode prog_1_method_9_code 4 = .ok (.dreturn, 1) := by decide +kernel
def QrmAV (Z : State) (a0_ : Addr) (x1 : UInt64) (h0 : Heap) (n0 : Nat) (v : Option Value) (h : Heap) (L : List Loc) : Prop := v = some (.double x1) ∧ Fr n0 L ∧ h = h0
set_option maxRecDepth 65536 in
set_option maxHeartbeats 40000000 in
theorem rmAV (l : Launch) (Z : State) (a0 : Array Value) (hw : ∀ d ∈ tables_1, d.before a0 Z = true) (ws : List Jvm.Cond) (a0_ : Addr) (x1 : UInt64) (h0 : Heap) (n0 : Nat) (Z0 : n0 ≤ h0.size) (F1 : Fld Z h0 a0_ "com/example/pinched_bounds/pinchedbounds/Answer" "value" "D" (.double x1)) :
    MetFree l (⟨"com/example/pinched_bounds/pinchedbounds/Answer", "value", "()D"⟩ : MethodName) (head1 (Jvm.Cond.code (⟨"com/example/pinched_bounds/pinchedbounds/Answer", "value", "()D"⟩ : MethodName) prog_1_method_9_code 1 (some .double) :: ws) ({ frames := 0, cells := 0, slots := 0, locals := 0 } : Room)) (fun a U => a = #[(.ref a0_)] ∧ Z.Warmed39 U.vm ∧ U.heap = h0) (fun _ _ _ _ _ => True) (fun _ U o U' => ∃ v L, o = .returned v ∧ QrmAV Z a0_ x1 h0 n0 v U'.heap L ∧ FrameEnd U o U' L ({ frames := 0, cells := 0, slots := 0, locals := 0 } : Room).cells ({ frames := 0, cells := 0, slots := 0, locals := 0 } : Room).slots) := by
  refine MetFree.of_bodySF (plainFor_of_name own_pn_com_example_pinched_bounds_pinchedbounds_Answer) hisR ?_
  intro p e s m args below meth c s₁ Bd hml0 hP hK
  obtain ⟨rfl, hZ, hh⟩ := hP
  have hx := Bd.exec
  have hby := Bd.bytes
  have hml : c.maxLocals = 1 := hml0
  have hown : s.vm.findClass "com/example/pinched_bounds/pinchedbounds/Answer" = some m.cls := findClass_of_methodNamed Bd.named
  have hnm := (name_of_methodNamed Bd.named Bd.method).1
  have X0 : Stand p l e ({ frames := 0, cells := 0, slots := 0, locals := 0 } : Room) s m #[(.ref a0_)] below meth c s₁ [] 0 0 := Stand.of_body Bd
  have e0 : s₁.heap = h0 := by rw [← hh, Bd.state]; rfl
  have N0 := Fr.nil n0
  have pre0 : ∀ t, Steps p.tables e below (s₁.setTop (mkF m 0 #[.val (.ref a0_)] [])) t → Steps p.tables e below (s₁.setTop (entryFrame m #[(.ref a0_)] 1)) t := fun t k => castTop (ef_rmAV m a0_) k
  have a1 : ∀ t, Steps p.tables e below (s₁.setTop (mkF m 1 #[.val (.ref a0_)] [(.ref a0_)])) t → Steps p.tables e below (s₁.setTop (entryFrame m #[(.ref a0_)] 1)) t := by
    intro t k
    refine pre0 t ?_
    show Steps p.tables e below (s₁.setTop (mkF m 0 #[.val (.ref a0_)] [])) _
    refine XS.aloadN X0.here hx rfl (hb hby d21_0) rfl rfl ?_
    exact k
  obtain ⟨T2, X2, e2, st2⟩ := getF X0 hx hZ hown (host := "") (Or.inl (hw _ (List.mem_of_getElem? (i := 104) rfl))) Via.refl e0 F1 (g := (mkF m 1 #[.val (.ref a0_)] [(.ref a0_)])) rfl rfl (hb hby d21_1)
  have a3 : ∀ t, Steps p.tables e below (T2.setTop (mkF m 4 #[.val (.ref a0_)] [(.double x1)])) t → Steps p.tables e below (s₁.setTop (entryFrame m #[(.ref a0_)] 1)) t := fun t k => a1 t (st2 t k)
  obtain ⟨fs, hr, hrun, hended, hW, hsame⟩ := X2.leave (v := some (.double x1)) (fun h => by rw [Bd.returns] at h; cases h)
  refine ⟨_, _, a3 _ ?_, hrun, hended, _, _, rfl, ?_, ⟨_, rfl⟩, hW, hsame.mono (by decide) (by decide)⟩
  · show Steps p.tables e below (T2.setTop (mkF m 4 #[.val (.ref a0_)] [(.double x1)])) _
    exact retOut X2 hx Bd.returns rfl (Or.inr (Or.inr (Or.inl ⟨rfl, rfl, _, rfl⟩))) (hb hby d21_4) hr
  · show QrmAV Z a0_ x1 h0 n0 _ T2.heap _
    rw [e2]
    exact ⟨rfl, N0, rfl⟩
theorem ef_rmAI (m : MethodId) (x0 : Addr) : entryFrame m #[(.ref x0)] 1 = mkF m 0 #[.val (.ref x0)] [] := by first | (simp [entryFrame, mkF, argsToLocals, Value.category]; done) | rfl
theorem d22_0 : decode prog_1_method_10_code 0 = .ok (.aload_n 0, 1) := by decide +kernel
theorem d22_1 : decode prog_1_method_10_code 1 = .ok (.getfield 40, 3) := by decide +kernel
theorem d22_4 : decode prog_1_method_10_code 4 = .ok (.areturn, 1) := by decide +kernel
def QrmAI (Z : State) (a0_ : Addr) (x1 : Addr) (h0 : Heap) (n0 : Nat) (v : Option Value) (h : Heap) (L : List Loc) : Prop := v = some (.ref x1) ∧ Fr n0 L ∧ h = h0
set_option maxRecDepth 65536 in
set_option maxHeartbeats 40000000 in
theorem rmAI (l : Launch) (Z : State) (a0 : Array Value) (hw : ∀ d ∈ tables_1, d.before a0 Z = true) (ws : List Jvm.Cond) (a0_ : Addr) (x1 : Addr) (h0 : Heap) (n0 : Nat) (Z0 : n0 ≤ h0.size) (F1 : Fld Z h0 a0_ "com/example/pinched_bounds/pinchedbounds/Answer" "interval" "Ljava/util/Optional;" (.ref x1)) :
    MetFree l (⟨"com/example/pinched_bounds/pinchedbounds/Answer", "interval", "()Ljava/util/Optional;"⟩ : MethodName) (head1 (Jvm.Cond.code (⟨"com/example/pinched_bounds/pinchedbounds/Answer", "interval", "()Ljava/util/Optional;"⟩ : MethodName) prog_1_method_10_code 1 (some (.object "java/util/Optional")) :: ws) ({ frames := 0, cells := 0, slots := 0, locals := 0 } : Room)) (fun a U => a = #[(.ref a0_)] ∧ Z.Warmed39 U.vm ∧ U.heap = h0) (fun _ _ _ _ _ => True) (fun _ U o U' => ∃ v L, o = .returned v ∧ QrmAI Z a0_ x1 h0 n0 v U'.heap L ∧ FrameEnd U o U' L ({ frames := 0, cells := 0, slots := 0, locals := 0 } : Room).cells ({ frames := 0, cells := 0, slots := 0, locals := 0 } : Room).slots) := by
  refine MetFree.of_bodySF (plainFor_of_name own_pn_com_example_pinched_bounds_pinchedbounds_Answer) hisR ?_
  intro p e s m args below meth c s₁ Bd hml0 hP hK
  obtain ⟨rfl, hZ, hh⟩ := hP
  have hx := Bd.exec
  have hby := Bd.bytes
  have hml : c.maxLocals = 1 := hml0
  have hown : s.vm.findClass "com/example/pinched_bounds/pinchedbounds/Answer" = some m.cls := findClass_of_methodNamed Bd.named
  have hnm := (name_of_methodNamed Bd.named Bd.method).1
  have X0 : Stand p l e ({ frames := 0, cells := 0, slots := 0, locals := 0 } : Room) s m #[(.ref a0_)] below meth c s₁ [] 0 0 := Stand.of_body Bd
  have e0 : s₁.heap = h0 := by rw [← hh, Bd.state]; rfl
  have N0 := Fr.nil n0
  have pre0 : ∀ t, Steps p.tables e below (s₁.setTop (mkF m 0 #[.val (.ref a0_)] [])) t → Steps p.tables e below (s₁.setTop (entryFrame m #[(.ref a0_)] 1)) t := fun t k => castTop (ef_rmAI m a0_) k
  have a1 : ∀ t, Steps p.tables e below (s₁.setTop (mkF m 1 #[.val (.ref a0_)] [(.ref a0_)])) t → Steps p.tables e below (s₁.setTop (entryFrame m #[(.ref a0_)] 1)) t := by
    intro t k
    refine pre0 t ?_
    show Steps p.tables e below (s₁.setTop (mkF m 0 #[.val (.ref a0_)] [])) _
    refine XS.aloadN X0.here hx rfl (hb hby d22_0) rfl rfl ?_
    exact k
  obtain ⟨T2, X2, e2, st2⟩ := getF X0 hx hZ hown (host := "") (Or.inl (hw _ (List.mem_of_getElem? (i := 106) rfl))) Via.refl e0 F1 (g := (mkF m 1 #[.val (.ref a0_)] [(.ref a0_)])) rfl rfl (hb hby d22_1)
  have a3 : ∀ t, Steps p.tables e below (T2.setTop (mkF m 4 #[.val (.ref a0_)] [(.ref x1)])) t → Steps p.tables e below (s₁.setTop (entryFrame m #[(.ref a0_)] 1)) t := fun t k => a1 t (st2 t k)
  obtain ⟨fs, hr, hrun, hended, hW, hsame⟩ := X2.leave (v := some (.ref x1)) (fun h => by rw [Bd.returns] at h; cases h)
  refine ⟨_, _, a3 _ ?_, hrun, hended, _, _, rfl, ?_, ⟨_, rfl⟩, hW, hsame.mono (by decide) (by decide)⟩
  · show Steps p.tables e below (T2.setTop (mkF m 4 #[.val (.ref a0_)] [(.ref x1)])) _
    exact retOut X2 hx Bd.returns rfl (Or.inr (Or.inr (Or.inr (Or.inr ⟨rfl, rfl, rfl⟩)))) (hb hby d22_4) hr
  · show QrmAI Z a0_ x1 h0 n0 _ T2.heap _
    rw [e2]
    exact ⟨rfl, N0, rfl⟩
theorem ef_rmAIt (m : MethodId) (x0 : Addr) : entryFrame m #[(.ref x0)] 1 = mkF m 0 #[.val (.ref x0)] [] := by first | (simp [entryFrame, mkF, argsToLocals, Value.category]; done) | rfl
theorem d24_0 : decode prog_1_method_11_code 0 = .ok (.aload_n 0, 1) := by decide +kernel
theorem d24_1 : decode prog_1_method_11_code 1 = .ok (.getfield 43, 3) := by decide +kernel
theorem d24_4 : decode prog_1_method_11_code 4 = .ok (.lreturn, 1) := by decide +kernel
def QrmAIt (Z : State) (a0_ : Addr) (x1 : Int64) (h0 : Heap) (n0 : Nat) (v : Option Value) (h : Heap) (L : List Loc) : Prop := v = some (.long x1) ∧ Fr n0 L ∧ h = h0
set_option maxRecDepth 65536 in
set_option maxHeartbeats 40000000 in
theorem rmAIt (l : Launch) (Z : State) (a0 : Array Value) (hw : ∀ d ∈ tables_1, d.before a0 Z = true) (ws : List Jvm.Cond) (a0_ : Addr) (x1 : Int64) (h0 : Heap) (n0 : Nat) (Z0 : n0 ≤ h0.size) (F1 : Fld Z h0 a0_ "com/example/pinched_bounds/pinchedbounds/Answer" "iterations" "J" (.long x1)) :
    MetFree l (⟨"com/example/pinched_bounds/pinchedbounds/Answer", "iterations", "()J"⟩ : MethodName) (head1 (Jvm.Cond.code (⟨"com/example/pinched_bounds/pinchedbounds/Answer", "iterations", "()J"⟩ : MethodName) prog_1_method_11_code 1 (some .long) :: ws) ({ frames := 0, cells := 0, slots := 0, locals := 0 } : Room)) (fun a U => a = #[(.ref a0_)] ∧ Z.Warmed39 U.vm ∧ U.heap = h0) (fun _ _ _ _ _ => True) (fun _ U o U' => ∃ v L, o = .returned v ∧ QrmAIt Z a0_ x1 h0 n0 v U'.heap L ∧ FrameEnd U o U' L ({ frames := 0, cells := 0, slots := 0, locals := 0 } : Room).cells ({ frames := 0, cells := 0, slots := 0, locals := 0 } : Room).slots) := by
  refine MetFree.of_bodySF (plainFor_of_name own_pn_com_example_pinched_bounds_pinchedbounds_Answer) hisR ?_
  intro p e s m args below meth c s₁ Bd hml0 hP hK
  obtain ⟨rfl, hZ, hh⟩ := hP
  have hx := Bd.exec
  have hby := Bd.bytes
  have hml : c.maxLocals = 1 := hml0
  have hown : s.vm.findClass "com/example/pinched_bounds/pinchedbounds/Answer" = some m.cls := findClass_of_methodNamed Bd.named
  have hnm := (name_of_methodNamed Bd.named Bd.method).1
  have X0 : Stand p l e ({ frames := 0, cells := 0, slots := 0, locals := 0 } : Room) s m #[(.ref a0_)] below meth c s₁ [] 0 0 := Stand.of_body Bd
  have e0 : s₁.heap = h0 := by rw [← hh, Bd.state]; rfl
  have N0 := Fr.nil n0
  have pre0 : ∀ t, Steps p.tables e below (s₁.setTop (mkF m 0 #[.val (.ref a0_)] [])) t → Steps p.tables e below (s₁.setTop (entryFrame m #[(.ref a0_)] 1)) t := fun t k => castTop (ef_rmAIt m a0_) k
  have a1 : ∀ t, Steps p.tables e below (s₁.setTop (mkF m 1 #[.val (.ref a0_)] [(.ref a0_)])) t → Steps p.tables e below (s₁.setTop (entryFrame m #[(.ref a0_)] 1)) t := by
    intro t k
    refine pre0 t ?_
    show Steps p.tables e below (s₁.setTop (mkF m 0 #[.val (.ref a0_)] [])) _
    refine XS.aloadN X0.here hx rfl (hb hby d24_0) rfl rfl ?_
    exact k
  obtain ⟨T2, X2, e2, st2⟩ := getF X0 hx hZ hown (host := "") (Or.inl (hw _ (List.mem_of_getElem? (i := 108) rfl))) Via.refl e0 F1 (g := (mkF m 1 #[.val (.ref a0_)] [(.ref a0_)])) rfl rfl (hb hby d24_1)
  have a3 : ∀ t, Steps p.tables e below (T2.setTop (mkF m 4 #[.val (.ref a0_)] [(.long x1)])) t → Steps p.tables e below (s₁.setTop (entryFrame m #[(.ref a0_)] 1)) t := fun t k => a1 t (st2 t k)
  obtain ⟨fs, hr, hrun, hended, hW, hsame⟩ := X2.leave (v := some (.long x1)) (fun h => by rw [Bd.returns] at h; cases h)
  refine ⟨_, _, a3 _ ?_, hrun, hended, _, _, rfl, ?_, ⟨_, rfl⟩, hW, hsame.mono (by decide) (by decide)⟩
  · show Steps p.tables e below (T2.setTop (mkF m 4 #[.val (.ref a0_)] [(.long x1)])) _
    exact retOut X2 hx Bd.returns rfl (Or.inr (Or.inl ⟨rfl, rfl, _, rfl⟩)) (hb hby d24_4) hr
  · show QrmAIt Z a0_ x1 h0 n0 _ T2.heap _
    rw [e2]
    exact ⟨rfl, N0, rfl⟩
theorem ef_rmAM (m : MethodId) (x0 : Addr) : entryFrame m #[(.ref x0)] 1 = mkF m 0 #[.val (.ref x0)] [] := by first | (simp [entryFrame, mkF, argsToLocals, Value.category]; done) | rfl
theorem d25_0 : decode prog_1_method_12_code 0 = .ok (.aload_n 0, 1) := by decide +kernel
theorem d25_1 : decode prog_1_method_12_code 1 = .ok (.getfield 47, 3) := by decide +kernel
theorem d25_4 : decode prog_1_method_12_code 4 = .ok (.lreturn, 1) := by decide +kernel
def QrmAM (Z : State) (a0_ : Addr) (x1 : Int64) (h0 : Heap) (n0 : Nat) (v : Option Value) (h : Heap) (L : List Loc) : Prop := v = some (.long x1) ∧ Fr n0 L ∧ h = h0
set_option maxRecDepth 65536 in
set_option maxHeartbeats 40000000 in
theorem rmAM (l : Launch) (Z : State) (a0 : Array Value) (hw : ∀ d ∈ tables_1, d.before a0 Z = true) (ws : List Jvm.Cond) (a0_ : Addr) (x1 : Int64) (h0 : Heap) (n0 : Nat) (Z0 : n0 ≤ h0.size) (F1 : Fld Z h0 a0_ "com/example/pinched_bounds/pinchedbounds/Answer" "multiplications" "J" (.long x1)) :
    MetFree l (⟨"com/example/pinched_bounds/pinchedbounds/Answer", "multiplications", "()J"⟩ : MethodName) (head1 (Jvm.Cond.code (⟨"com/example/pinched_bounds/pinchedbounds/Answer", "multiplications", "()J"⟩ : MethodName) prog_1_method_12_code 1 (some .long) :: ws) ({ frames := 0, cells := 0, slots := 0, locals := 0 } : Room)) (fun a U => a = #[(.ref a0_)] ∧ Z.Warmed39 U.vm ∧ U.heap = h0) (fun _ _ _ _ _ => True) (fun _ U o U' => ∃ v L, o = .returned v ∧ QrmAM Z a0_ x1 h0 n0 v U'.heap L ∧ FrameEnd U o U' L ({ frames := 0, cells := 0, slots := 0, locals := 0 } : Room).cells ({ frames := 0, cells := 0, slots := 0, locals := 0 } : Room).slots) := by
  refine MetFree.of_bodySF (plainFor_of_name own_pn_com_example_pinched_bounds_pinchedbounds_Answer) hisR ?_
  intro p e s m args below meth c s₁ Bd hml0 hP hK
  obtain ⟨rfl, hZ, hh⟩ := hP
  have hx := Bd.exec
  have hby := Bd.bytes
  have hml : c.maxLocals = 1 := hml0
  have hown : s.vm.findClass "com/example/pinched_bounds/pinchedbounds/Answer" = some m.cls := findClass_of_methodNamed Bd.named
  have hnm := (name_of_methodNamed Bd.named Bd.method).1
  have X0 : Stand p l e ({ frames := 0, cells := 0, slots := 0, locals := 0 } : Room) s m #[(.ref a0_)] below meth c s₁ [] 0 0 := Stand.of_body Bd
  have e0 : s₁.heap = h0 := by rw [← hh, Bd.state]; rfl
  have N0 := Fr.nil n0
  have pre0 : ∀ t, Steps p.tables e below (s₁.setTop (mkF m 0 #[.val (.ref a0_)] [])) t → Steps p.tables e below (s₁.setTop (entryFrame m #[(.ref a0_)] 1)) t := fun t k => castTop (ef_rmAM m a0_) k
  have a1 : ∀ t, Steps p.tables e below (s₁.setTop (mkF m 1 #[.val (.ref a0_)] [(.ref a0_)])) t → Steps p.tables e below (s₁.setTop (entryFrame m #[(.ref a0_)] 1)) t := by
    intro t k
    refine pre0 t ?_
    show Steps p.tables e below (s₁.setTop (mkF m 0 #[.val (.ref a0_)] [])) _
    refine XS.aloadN X0.here hx rfl (hb hby d25_0) rfl rfl ?_
    exact k
  obtain ⟨T2, X2, e2, st2⟩ := getF X0 hx hZ hown (host := "") (Or.inl (hw _ (List.mem_of_getElem? (i := 110) rfl))) Via.refl e0 F1 (g := (mkF m 1 #[.val (.ref a0_)] [(.ref a0_)])) rfl rfl (hb hby d25_1)
  have a3 : ∀ t, Steps p.tables e below (T2.setTop (mkF m 4 #[.val (.ref a0_)] [(.long x1)])) t → Steps p.tables e below (s₁.setTop (entryFrame m #[(.ref a0_)] 1)) t := fun t k => a1 t (st2 t k)
  obtain ⟨fs, hr, hrun, hended, hW, hsame⟩ := X2.leave (v := some (.long x1)) (fun h => by rw [Bd.returns] at h; cases h)
  refine ⟨_, _, a3 _ ?_, hrun, hended, _, _, rfl, ?_, ⟨_, rfl⟩, hW, hsame.mono (by decide) (by decide)⟩
  · show Steps p.tables e below (T2.setTop (mkF m 4 #[.val (.ref a0_)] [(.long x1)])) _
    exact retOut X2 hx Bd.returns rfl (Or.inr (Or.inl ⟨rfl, rfl, _, rfl⟩)) (hb hby d25_4) hr
  · show QrmAM Z a0_ x1 h0 n0 _ T2.heap _
    rw [e2]
    exact ⟨rfl, N0, rfl⟩
theorem ef_rmAH (m : MethodId) (x0 : Addr) : entryFrame m #[(.ref x0)] 1 = mkF m 0 #[.val (.ref x0)] [] := by first | (simp [entryFrame, mkF, argsToLocals, Value.category]; done) | rfl
theorem d26_0 : decode prog_1_method_13_code 0 = .ok (.aload_n 0, 1) := by decide +kernel
theorem d26_1 : decode prog_1_method_13_code 1 = .ok (.getfield 50, 3) := by decide +kernel
theorem d26_4 : decode prog_1_method_13_code 4 = .ok (.ireturn, 1) := by decide +kernel
def QrmAH (Z : State) (a0_ : Addr) (h0 : Heap) (n0 : Nat) (v : Option Value) (h : Heap) (L : List Loc) : Prop := v = some (.int 0) ∧ Fr n0 L ∧ h = h0
set_option maxRecDepth 65536 in
set_option maxHeartbeats 40000000 in
theorem rmAH (l : Launch) (Z : State) (a0 : Array Value) (hw : ∀ d ∈ tables_1, d.before a0 Z = true) (ws : List Jvm.Cond) (a0_ : Addr) (h0 : Heap) (n0 : Nat) (Z0 : n0 ≤ h0.size) (F1 : Fld Z h0 a0_ "com/example/pinched_bounds/pinchedbounds/Answer" "handedOver" "Z" (.int (0 : Int32))) :
    MetFree l (⟨"com/example/pinched_bounds/pinchedbounds/Answer", "handedOver", "()Z"⟩ : MethodName) (head1 (Jvm.Cond.code (⟨"com/example/pinched_bounds/pinchedbounds/Answer", "handedOver", "()Z"⟩ : MethodName) prog_1_method_13_code 1 (some .boolean) :: ws) ({ frames := 0, cells := 0, slots := 0, locals := 0 } : Room)) (fun a U => a = #[(.ref a0_)] ∧ Z.Warmed39 U.vm ∧ U.heap = h0) (fun _ _ _ _ _ => True) (fun _ U o U' => ∃ v L, o = .returned v ∧ QrmAH Z a0_ h0 n0 v U'.heap L ∧ FrameEnd U o U' L ({ frames := 0, cells := 0, slots := 0, locals := 0 } : Room).cells ({ frames := 0, cells := 0, slots := 0, locals := 0 } : Room).slots) := by
  refine MetFree.of_bodySF (plainFor_of_name own_pn_com_example_pinched_bounds_pinchedbounds_Answer) hisR ?_
  intro p e s m args below meth c s₁ Bd hml0 hP hK
  obtain ⟨rfl, hZ, hh⟩ := hP
  have hx := Bd.exec
  have hby := Bd.bytes
  have hml : c.maxLocals = 1 := hml0
  have hown : s.vm.findClass "com/example/pinched_bounds/pinchedbounds/Answer" = some m.cls := findClass_of_methodNamed Bd.named
  have hnm := (name_of_methodNamed Bd.named Bd.method).1
  have X0 : Stand p l e ({ frames := 0, cells := 0, slots := 0, locals := 0 } : Room) s m #[(.ref a0_)] below meth c s₁ [] 0 0 := Stand.of_body Bd
  have e0 : s₁.heap = h0 := by rw [← hh, Bd.state]; rfl
  have N0 := Fr.nil n0
  have pre0 : ∀ t, Steps p.tables e below (s₁.setTop (mkF m 0 #[.val (.ref a0_)] [])) t → Steps p.tables e below (s₁.setTop (entryFrame m #[(.ref a0_)] 1)) t := fun t k => castTop (ef_rmAH m a0_) k
  have a1 : ∀ t, Steps p.tables e below (s₁.setTop (mkF m 1 #[.val (.ref a0_)] [(.ref a0_)])) t → Steps p.tables e below (s₁.setTop (entryFrame m #[(.ref a0_)] 1)) t := by
    intro t k
    refine pre0 t ?_
    show Steps p.tables e below (s₁.setTop (mkF m 0 #[.val (.ref a0_)] [])) _
    refine XS.aloadN X0.here hx rfl (hb hby d26_0) rfl rfl ?_
    exact k
  obtain ⟨T2, X2, e2, st2⟩ := getF X0 hx hZ hown (host := "") (Or.inl (hw _ (List.mem_of_getElem? (i := 112) rfl))) Via.refl e0 F1 (g := (mkF m 1 #[.val (.ref a0_)] [(.ref a0_)])) rfl rfl (hb hby d26_1)
  have a3 : ∀ t, Steps p.tables e below (T2.setTop (mkF m 4 #[.val (.ref a0_)] [(.int (0 : Int32))])) t → Steps p.tables e below (s₁.setTop (entryFrame m #[(.ref a0_)] 1)) t := fun t k => a1 t (st2 t k)
  obtain ⟨fs, hr, hrun, hended, hW, hsame⟩ := X2.leave (v := some (.int (0 : Int32))) (fun h => by rw [Bd.returns] at h; cases h)
  refine ⟨_, _, a3 _ ?_, hrun, hended, _, _, rfl, ?_, ⟨_, rfl⟩, hW, hsame.mono (by decide) (by decide)⟩
  · show Steps p.tables e below (T2.setTop (mkF m 4 #[.val (.ref a0_)] [(.int (0 : Int32))])) _
    exact retN X2 hx (t := .boolean) Bd.returns (by simp) (hb hby d26_4) hr
  · show QrmAH Z a0_ h0 n0 _ T2.heap _
    rw [e2]
    exact ⟨rfl, N0, rfl⟩
theorem ef_rm0 (m : MethodId) (x0 : Int32) (x1 : Int32) (x2 : Int64) (x3 : Int64) : entryFrame m #[(.int x0), (.int x1), (.long x2), (.long x3)] maxLocals = mkF m 0 #[.val (.int x0), .val (.int x1), .val (.long x2), .second, .val (.long x3), .second, .unset, .unset, .unset, .unset, .unset, .unset, .unset, .unset, .unset, .unset] [] := by first | (simp [entryFrame, mkF, argsToLocals, Value.category, maxLocals]; done) | rfl
theorem own_pd12 : parseMethodDescriptor "(II)I" = some ⟨[.int, .int], some .int⟩ := by decide +kernel
theorem own_pd13 : parseMethodDescriptor "(DD)V" = some ⟨[.double, .double], none⟩ := by decide +kernel
theorem own_pd14 : parseMethodDescriptor "(Lcom/example/pinched_bounds/pinchedbounds/Interval;JJ)Lcom/example/pinched_bounds/pinchedbounds/Answer;" = some ⟨[(.object "com/example/pinched_bounds/pinchedbounds/Interval"), .long, .long], some (.object "com/example/pinched_bounds/pinchedbounds/Answer")⟩ := by decide +kernel
theorem own_pd15 : parseMethodDescriptor "()Ljava/util/Optional;" = some ⟨[], some (.object "java/util/Optional")⟩ := by decide +kernel
theorem own_pd16 : parseMethodDescriptor "()J" = some ⟨[], some .long⟩ := by decide +kernel
theorem own_pn_com_example_pinched_bounds_pinchedbounds_AnswerCertifiedPinLaw : plainName "com/example/pinched_bounds/pinchedbounds/AnswerCertifiedPinLaw" = true := by first | (simp [plainName, overriddenIn]; done) | decide +kernel
def Q0 (Z : State) (p0 : Int32) (p1 : Int32) (q2 : Int64) (q3 : Int64) (h0 : Heap) (n0 : Nat) (v : Option Value) (h : Heap) (L : List Loc) : Prop := v = some (.int 1) ∧ Fr n0 L
set_option maxRecDepth 65536 in
set_option maxHeartbeats 40000000 in
theorem rm0 (l : Launch) (Z : State) (a0 : Array Value) (hw : ∀ d ∈ tables_1, d.before a0 Z = true) (ws : List Jvm.Cond) (p0 : Int32) (p1 : Int32) (q2 : Int64) (q3 : Int64) (h0 : Heap) (n0 : Nat) (Z0 : n0 ≤ h0.size) :
    MetFree l x (head1 (Jvm.Cond.code x code maxLocals ret :: ws) room_1) (fun a U => a = #[(.int p0), (.int p1), (.long q2), (.long q3)] ∧ Z.Warmed39 U.vm ∧ U.heap = h0) (fun _ _ _ _ _ => True) (fun _ U o U' => ∃ v L, o = .returned v ∧ Q0 Z p0 p1 q2 q3 h0 n0 v U'.heap L ∧ ReturnedEndW U o U' L room_1.cells room_1.slots) := by
  refine MetFree.of_bodySF (plainFor_of_name own_pn_com_example_pinched_bounds_pinchedbounds_AnswerCertifiedPinLaw) hisR ?_
  intro p e s m args below meth c s₁ Bd hml0 hP hK
  obtain ⟨rfl, hZ, hh⟩ := hP
  have hx := Bd.exec
  have hby := Bd.bytes
  have hml : c.maxLocals = 16 := hml0
  have hown : s.vm.findClass "com/example/pinched_bounds/pinchedbounds/AnswerCertifiedPinLaw" = some m.cls := findClass_of_methodNamed Bd.named
  have hnm := (name_of_methodNamed Bd.named Bd.method).1
  have X0 : Stand p l e room_1 s m #[(.int p0), (.int p1), (.long q2), (.long q3)] below meth c s₁ [] 0 0 := Stand.of_body Bd
  have e0 : s₁.heap = h0 := by rw [← hh, Bd.state]; rfl
  have N0 := Fr.nil n0
  have hS : s.Since s.vm h0.size := (State.WarmedH.refl s).since _
  have pre0 : ∀ t, Steps p.tables e below (s₁.setTop (mkF m 0 #[.val (.int p0), .val (.int p1), .val (.long q2), .second, .val (.long q3), .second, .unset, .unset, .unset, .unset, .unset, .unset, .unset, .unset, .unset, .unset] [])) t → Steps p.tables e below (s₁.setTop (entryFrame m #[(.int p0), (.int p1), (.long q2), (.long q3)] maxLocals)) t := fun t k => castTop (ef_rm0 m p0 p1 q2 q3) k
  have a1 : ∀ t, Steps p.tables e below (s₁.setTop (mkF m 2 #[.val (.int p0), .val (.int p1), .val (.long q2), .second, .val (.long q3), .second, .unset, .unset, .unset, .unset, .unset, .unset, .unset, .unset, .unset, .unset] [(.int p1), (.int p0)])) t → Steps p.tables e below (s₁.setTop (entryFrame m #[(.int p0), (.int p1), (.long q2), (.long q3)] maxLocals)) t := by
    intro t k
    refine pre0 t ?_
    show Steps p.tables e below (s₁.setTop (mkF m 0 #[.val (.int p0), .val (.int p1), .val (.long q2), .second, .val (.long q3), .second, .unset, .unset, .unset, .unset, .unset, .unset, .unset, .unset, .unset, .unset] [])) _
    refine XS.iloadN X0.here hx rfl (hb hby at_0) rfl ?_
    show Steps p.tables e below (s₁.setTop (mkF m 1 #[.val (.int p0), .val (.int p1), .val (.long q2), .second, .val (.long q3), .second, .unset, .unset, .unset, .unset, .unset, .unset, .unset, .unset, .unset, .unset] [(.int p0)])) _
    refine XS.iloadN X0.here hx rfl (hb hby at_1) rfl ?_
    exact k
  obtain ⟨_, _, ⟨T2, L2, k2, n2⟩, -, X2, ⟨Lc2, hQ2, l2, y2, z2⟩, st2⟩ := Jvm.LawKit.callS X0 hx (y := (⟨"java/lang/Math", "min", "(II)I"⟩ : MethodName)) hown (mvT hZ (hw _ (List.mem_of_getElem? (i := 0) rfl))) (mvT hZ (hw _ (List.mem_of_getElem? (i := 1) rfl))) (mvT hZ (hw _ (List.mem_of_getElem? (i := 2) rfl))) (mvT hZ (hw _ (List.mem_of_getElem? (i := 3) rfl))) (by decide) (backOf (W := 0) (rmMin l Z a0 hw [] p0 p1 h0 n0 Z0 ) hZ (hw _ (List.mem_of_getElem? (i := 3) rfl)) (hw _ (List.mem_of_getElem? (i := 2) rfl)) (by decide) (by decide)) (g := (mkF m 2 #[.val (.int p0), .val (.int p1), .val (.long q2), .second, .val (.long q3), .second, .unset, .unset, .unset, .unset, .unset, .unset, .unset, .unset, .unset, .unset] [(.int p1), (.int p0)])) rfl (by rw [hml]; rfl) (argsL := [(.int p0), (.int p1)]) (rest := []) (lenOf own_pd12 rfl) rfl (by show 2 * 0 + _ ≤ _; exact Nat.le_of_eq rfl) (hb hby at_2) (fun _ _ => ⟨rfl, e0, (by decide : 0 + 0 ≤ _), (by decide : 0 + 0 ≤ _)⟩)
  dsimp only [Pt.U, Pt.locs, Pt.cells, Pt.slots] at X2 l2 y2 z2 st2 hQ2
  subst l2 y2 z2
  obtain ⟨rfl, N2q, e2q⟩ := hQ2
  have N2 := Fr.app N0 N2q
  have a3 : ∀ t, Steps p.tables e below (T2.setTop (mkF m 5 #[.val (.int p0), .val (.int p1), .val (.long q2), .second, .val (.long q3), .second, .unset, .unset, .unset, .unset, .unset, .unset, .unset, .unset, .unset, .unset] [(.int (if p1 < p0 then p1 else p0))])) t → Steps p.tables e below (s₁.setTop (entryFrame m #[(.int p0), (.int p1), (.long q2), (.long q3)] maxLocals)) t := fun t k => a1 t (st2 t k)
  obtain ⟨lo, h_lo⟩ : ∃ z : Int32, z = (if p1 < p0 then p1 else p0) := ⟨_, rfl⟩
  rw [← h_lo] at a3
  have a4 : ∀ t, Steps p.tables e below (T2.setTop (mkF m 9 #[.val (.int p0), .val (.int p1), .val (.long q2), .second, .val (.long q3), .second, .val (.int lo), .unset, .unset, .unset, .unset, .unset, .unset, .unset, .unset, .unset] [(.int p1), (.int p0)])) t → Steps p.tables e below (s₁.setTop (entryFrame m #[(.int p0), (.int p1), (.long q2), (.long q3)] maxLocals)) t := by
    intro t k
    refine a3 t ?_
    show Steps p.tables e below (T2.setTop (mkF m 5 #[.val (.int p0), .val (.int p1), .val (.long q2), .second, .val (.long q3), .second, .unset, .unset, .unset, .unset, .unset, .unset, .unset, .unset, .unset, .unset] [(.int lo)])) _
    refine XS.istore X2.here hx rfl (hb hby at_5) rfl (l' := #[.val (.int p0), .val (.int p1), .val (.long q2), .second, .val (.long q3), .second, .val (.int lo), .unset, .unset, .unset, .unset, .unset, .unset, .unset, .unset, .unset]) rfl ?_
    show Steps p.tables e below (T2.setTop (mkF m 7 #[.val (.int p0), .val (.int p1), .val (.long q2), .second, .val (.long q3), .second, .val (.int lo), .unset, .unset, .unset, .unset, .unset, .unset, .unset, .unset, .unset] [])) _
    refine XS.iloadN X2.here hx rfl (hb hby at_7) rfl ?_
    show Steps p.tables e below (T2.setTop (mkF m 8 #[.val (.int p0), .val (.int p1), .val (.long q2), .second, .val (.long q3), .second, .val (.int lo), .unset, .unset, .unset, .unset, .unset, .unset, .unset, .unset, .unset] [(.int p0)])) _
    refine XS.iloadN X2.here hx rfl (hb hby at_8) rfl ?_
    exact k
  obtain ⟨_, _, ⟨T5, L5, k5, n5⟩, -, X5, ⟨Lc5, hQ5, l5, y5, z5⟩, st5⟩ := Jvm.LawKit.callS X2 hx (y := (⟨"java/lang/Math", "max", "(II)I"⟩ : MethodName)) hown (mvT hZ (hw _ (List.mem_of_getElem? (i := 4) rfl))) (mvT hZ (hw _ (List.mem_of_getElem? (i := 5) rfl))) (mvT hZ (hw _ (List.mem_of_getElem? (i := 2) rfl))) (mvT hZ (hw _ (List.mem_of_getElem? (i := 6) rfl))) (by decide) (backOf (W := 0) (rmMax l Z a0 hw [] p0 p1 h0 n0 Z0 ) hZ (hw _ (List.mem_of_getElem? (i := 6) rfl)) (hw _ (List.mem_of_getElem? (i := 2) rfl)) (by decide) (by decide)) (g := (mkF m 9 #[.val (.int p0), .val (.int p1), .val (.long q2), .second, .val (.long q3), .second, .val (.int lo), .unset, .unset, .unset, .unset, .unset, .unset, .unset, .unset, .unset] [(.int p1), (.int p0)])) rfl (by rw [hml]; rfl) (argsL := [(.int p0), (.int p1)]) (rest := []) (lenOf own_pd12 rfl) rfl (by show 2 * 0 + _ ≤ _; exact Nat.le_of_eq rfl) (hb hby at_9) (fun _ _ => ⟨rfl, e2q, (by decide : 0 + 0 ≤ _), (by decide : 0 + 0 ≤ _)⟩)
  dsimp only [Pt.U, Pt.locs, Pt.cells, Pt.slots] at X5 l5 y5 z5 st5 hQ5
  subst l5 y5 z5
  obtain ⟨rfl, N5q, e5q⟩ := hQ5
  have N5 := Fr.app N2 N5q
  have a6 : ∀ t, Steps p.tables e below (T5.setTop (mkF m 12 #[.val (.int p0), .val (.int p1), .val (.long q2), .second, .val (.long q3), .second, .val (.int lo), .unset, .unset, .unset, .unset, .unset, .unset, .unset, .unset, .unset] [(.int (if p0 < p1 then p1 else p0))])) t → Steps p.tables e below (s₁.setTop (entryFrame m #[(.int p0), (.int p1), (.long q2), (.long q3)] maxLocals)) t := fun t k => a4 t (st5 t k)
  obtain ⟨hi, h_hi⟩ : ∃ z : Int32, z = (if p0 < p1 then p1 else p0) := ⟨_, rfl⟩
  rw [← h_hi] at a6
  have a7 : ∀ t, Steps p.tables e below (T5.setTop (mkF m 19 #[.val (.int p0), .val (.int p1), .val (.long q2), .second, .val (.long q3), .second, .val (.int lo), .val (.int hi), .unset, .unset, .unset, .unset, .unset, .unset, .unset, .unset] [(.long (q2 &&& (9223372036854775807 : Int64)))])) t → Steps p.tables e below (s₁.setTop (entryFrame m #[(.int p0), (.int p1), (.long q2), (.long q3)] maxLocals)) t := by
    intro t k
    refine a6 t ?_
    show Steps p.tables e below (T5.setTop (mkF m 12 #[.val (.int p0), .val (.int p1), .val (.long q2), .second, .val (.long q3), .second, .val (.int lo), .unset, .unset, .unset, .unset, .unset, .unset, .unset, .unset, .unset] [(.int hi)])) _
    refine XS.istore X5.here hx rfl (hb hby at_12) rfl (l' := #[.val (.int p0), .val (.int p1), .val (.long q2), .second, .val (.long q3), .second, .val (.int lo), .val (.int hi), .unset, .unset, .unset, .unset, .unset, .unset, .unset, .unset]) rfl ?_
    show Steps p.tables e below (T5.setTop (mkF m 14 #[.val (.int p0), .val (.int p1), .val (.long q2), .second, .val (.long q3), .second, .val (.int lo), .val (.int hi), .unset, .unset, .unset, .unset, .unset, .unset, .unset, .unset] [])) _
    refine XS.lloadN X5.here hx rfl (hb hby at_14) rfl ?_
    show Steps p.tables e below (T5.setTop (mkF m 15 #[.val (.int p0), .val (.int p1), .val (.long q2), .second, .val (.long q3), .second, .val (.int lo), .val (.int hi), .unset, .unset, .unset, .unset, .unset, .unset, .unset, .unset] [(.long q2)])) _
    refine X5.ldc2Long hx hown (mvT hZ (hw _ (List.mem_of_getElem? (i := 7) rfl))) (g := (mkF m 15 #[.val (.int p0), .val (.int p1), .val (.long q2), .second, .val (.long q3), .second, .val (.int lo), .val (.int hi), .unset, .unset, .unset, .unset, .unset, .unset, .unset, .unset] [(.long q2)])) rfl (hb hby at_15) _ ?_
    show Steps p.tables e below (T5.setTop (mkF m 18 #[.val (.int p0), .val (.int p1), .val (.long q2), .second, .val (.long q3), .second, .val (.int lo), .val (.int hi), .unset, .unset, .unset, .unset, .unset, .unset, .unset, .unset] [(.long (9223372036854775807 : Int64)), (.long q2)])) _
    refine XS.land X5.here hx rfl (hb hby at_18) rfl ?_
    exact k
  obtain ⟨itv, h_itv⟩ : ∃ z : Int64, z = (q2 &&& (9223372036854775807 : Int64)) := ⟨_, rfl⟩
  rw [← h_itv] at a7
  have a8 : ∀ t, Steps p.tables e below (T5.setTop (mkF m 27 #[.val (.int p0), .val (.int p1), .val (.long q2), .second, .val (.long q3), .second, .val (.int lo), .val (.int hi), .val (.long itv), .second, .unset, .unset, .unset, .unset, .unset, .unset] [(.long (q3 &&& (9223372036854775807 : Int64)))])) t → Steps p.tables e below (s₁.setTop (entryFrame m #[(.int p0), (.int p1), (.long q2), (.long q3)] maxLocals)) t := by
    intro t k
    refine a7 t ?_
    show Steps p.tables e below (T5.setTop (mkF m 19 #[.val (.int p0), .val (.int p1), .val (.long q2), .second, .val (.long q3), .second, .val (.int lo), .val (.int hi), .unset, .unset, .unset, .unset, .unset, .unset, .unset, .unset] [(.long itv)])) _
    refine XS.lstore X5.here hx rfl (hb hby at_19) rfl (l' := #[.val (.int p0), .val (.int p1), .val (.long q2), .second, .val (.long q3), .second, .val (.int lo), .val (.int hi), .val (.long itv), .second, .unset, .unset, .unset, .unset, .unset, .unset]) rfl ?_
    show Steps p.tables e below (T5.setTop (mkF m 21 #[.val (.int p0), .val (.int p1), .val (.long q2), .second, .val (.long q3), .second, .val (.int lo), .val (.int hi), .val (.long itv), .second, .unset, .unset, .unset, .unset, .unset, .unset] [])) _
    refine XS.lload X5.here hx rfl (hb hby at_21) rfl ?_
    show Steps p.tables e below (T5.setTop (mkF m 23 #[.val (.int p0), .val (.int p1), .val (.long q2), .second, .val (.long q3), .second, .val (.int lo), .val (.int hi), .val (.long itv), .second, .unset, .unset, .unset, .unset, .unset, .unset] [(.long q3)])) _
    refine X5.ldc2Long hx hown (mvT hZ (hw _ (List.mem_of_getElem? (i := 7) rfl))) (g := (mkF m 23 #[.val (.int p0), .val (.int p1), .val (.long q2), .second, .val (.long q3), .second, .val (.int lo), .val (.int hi), .val (.long itv), .second, .unset, .unset, .unset, .unset, .unset, .unset] [(.long q3)])) rfl (hb hby at_23) _ ?_
    show Steps p.tables e below (T5.setTop (mkF m 26 #[.val (.int p0), .val (.int p1), .val (.long q2), .second, .val (.long q3), .second, .val (.int lo), .val (.int hi), .val (.long itv), .second, .unset, .unset, .unset, .unset, .unset, .unset] [(.long (9223372036854775807 : Int64)), (.long q3)])) _
    refine XS.land X5.here hx rfl (hb hby at_26) rfl ?_
    exact k
  obtain ⟨muv, h_muv⟩ : ∃ z : Int64, z = (q3 &&& (9223372036854775807 : Int64)) := ⟨_, rfl⟩
  rw [← h_muv] at a8
  have hle : lo.toInt ≤ hi.toInt := by rw [h_lo, h_hi]; exact own_mm _ _
  have hE := own_avg lo hi
  have hit : ¬ itv < 0 := by rw [h_itv]; exact own_nonneg _
  have hmu : ¬ muv < 0 := by rw [h_muv]; exact own_nonneg _
  have a9 : ∀ t, Steps p.tables e below (T5.setTop (mkF m 29 #[.val (.int p0), .val (.int p1), .val (.long q2), .second, .val (.long q3), .second, .val (.int lo), .val (.int hi), .val (.long itv), .second, .val (.long muv), .second, .unset, .unset, .unset, .unset] [])) t → Steps p.tables e below (s₁.setTop (entryFrame m #[(.int p0), (.int p1), (.long q2), (.long q3)] maxLocals)) t := by
    intro t k
    refine a8 t ?_
    show Steps p.tables e below (T5.setTop (mkF m 27 #[.val (.int p0), .val (.int p1), .val (.long q2), .second, .val (.long q3), .second, .val (.int lo), .val (.int hi), .val (.long itv), .second, .unset, .unset, .unset, .unset, .unset, .unset] [(.long muv)])) _
    refine XS.lstore X5.here hx rfl (hb hby at_27) rfl (l' := #[.val (.int p0), .val (.int p1), .val (.long q2), .second, .val (.long q3), .second, .val (.int lo), .val (.int hi), .val (.long itv), .second, .val (.long muv), .second, .unset, .unset, .unset, .unset]) rfl ?_
    exact k
  obtain ⟨T10, h10, X10, e10, E10, A10, D10, -, st10⟩ := newO X5 hx hZ hown (hw _ (List.mem_of_getElem? (i := 8) rfl)) (hw _ (List.mem_of_getElem? (i := 9) rfl)) (hw _ (List.mem_of_getElem? (i := 10) rfl)) e5q (g := (mkF m 29 #[.val (.int p0), .val (.int p1), .val (.long q2), .second, .val (.long q3), .second, .val (.int lo), .val (.int hi), .val (.long itv), .second, .val (.long muv), .second, .unset, .unset, .unset, .unset] [])) rfl (hb hby at_29) (by decide) (by decide)
  obtain ⟨b10, g10⟩ : ∃ z, z = h0.size := ⟨_, rfl⟩
  rw [← g10] at A10 D10 st10
  have g_b10 : n0 ≤ b10 := Nat.le_trans Z0 (Nat.le_of_eq g10.symm)
  have sz_b10 : h0.size ≤ b10 := Nat.le_trans ((Keep.refl h0 [])).1 (Nat.le_of_eq g10.symm)
  have K10 : Keep h0 h10 [] := Keep.ext (Keep.refl h0 []) E10
  have F_lower_b10 : Fld Z h10 b10 "com/example/pinched_bounds/pinchedbounds/Interval" "lower" "D" (.double (0 : UInt64)) := D10 (Or.inr (hw _ (List.mem_of_getElem? (i := 23) rfl))) (ty := .double) (by decide)
  have F_upper_b10 : Fld Z h10 b10 "com/example/pinched_bounds/pinchedbounds/Interval" "upper" "D" (.double (0 : UInt64)) := D10 (Or.inr (hw _ (List.mem_of_getElem? (i := 25) rfl))) (ty := .double) (by decide)
  have a11 : ∀ t, Steps p.tables e below (T10.setTop (mkF m 32 #[.val (.int p0), .val (.int p1), .val (.long q2), .second, .val (.long q3), .second, .val (.int lo), .val (.int hi), .val (.long itv), .second, .val (.long muv), .second, .unset, .unset, .unset, .unset] [(.ref b10)])) t → Steps p.tables e below (s₁.setTop (entryFrame m #[(.int p0), (.int p1), (.long q2), (.long q3)] maxLocals)) t := fun t k => a9 t (st10 t k)
  have a12 : ∀ t, Steps p.tables e below (T10.setTop (mkF m 39 #[.val (.int p0), .val (.int p1), .val (.long q2), .second, .val (.long q3), .second, .val (.int lo), .val (.int hi), .val (.long itv), .second, .val (.long muv), .second, .unset, .unset, .unset, .unset] [(.double (FP.i2d hi)), (.double (FP.i2d lo)), (.ref b10), (.ref b10)])) t → Steps p.tables e below (s₁.setTop (entryFrame m #[(.int p0), (.int p1), (.long q2), (.long q3)] maxLocals)) t := by
    intro t k
    refine a11 t ?_
    show Steps p.tables e below (T10.setTop (mkF m 32 #[.val (.int p0), .val (.int p1), .val (.long q2), .second, .val (.long q3), .second, .val (.int lo), .val (.int hi), .val (.long itv), .second, .val (.long muv), .second, .unset, .unset, .unset, .unset] [(.ref b10)])) _
    refine XS.dup X10.here hx rfl (hb hby at_32) rfl rfl ?_
    show Steps p.tables e below (T10.setTop (mkF m 33 #[.val (.int p0), .val (.int p1), .val (.long q2), .second, .val (.long q3), .second, .val (.int lo), .val (.int hi), .val (.long itv), .second, .val (.long muv), .second, .unset, .unset, .unset, .unset] [(.ref b10), (.ref b10)])) _
    refine XS.iload X10.here hx rfl (hb hby at_33) rfl ?_
    show Steps p.tables e below (T10.setTop (mkF m 35 #[.val (.int p0), .val (.int p1), .val (.long q2), .second, .val (.long q3), .second, .val (.int lo), .val (.int hi), .val (.long itv), .second, .val (.long muv), .second, .unset, .unset, .unset, .unset] [(.int lo), (.ref b10), (.ref b10)])) _
    refine XS.i2dS X10.here hx rfl (hb hby at_35) rfl rfl ?_
    show Steps p.tables e below (T10.setTop (mkF m 36 #[.val (.int p0), .val (.int p1), .val (.long q2), .second, .val (.long q3), .second, .val (.int lo), .val (.int hi), .val (.long itv), .second, .val (.long muv), .second, .unset, .unset, .unset, .unset] [(.double (FP.i2d lo)), (.ref b10), (.ref b10)])) _
    refine XS.iload X10.here hx rfl (hb hby at_36) rfl ?_
    show Steps p.tables e below (T10.setTop (mkF m 38 #[.val (.int p0), .val (.int p1), .val (.long q2), .second, .val (.long q3), .second, .val (.int lo), .val (.int hi), .val (.long itv), .second, .val (.long muv), .second, .unset, .unset, .unset, .unset] [(.int hi), (.double (FP.i2d lo)), (.ref b10), (.ref b10)])) _
    refine XS.i2dS X10.here hx rfl (hb hby at_38) rfl rfl ?_
    exact k
  obtain ⟨_, _, ⟨T13, L13, k13, n13⟩, -, X13, ⟨Lc13, hQ13, l13, y13, z13⟩, st13⟩ := X10.specialBack hx (y := (⟨"com/example/pinched_bounds/pinchedbounds/Interval", "<init>", "(DD)V"⟩ : MethodName)) rfl hown (mvT hZ (hw _ (List.mem_of_getElem? (i := 11) rfl))) (mvT hZ (hw _ (List.mem_of_getElem? (i := 12) rfl))) (mvT hZ (hw _ (List.mem_of_getElem? (i := 13) rfl))) (by decide) (backOf (W := 1) (rm1 l Z a0 hw [] b10 (FP.i2d lo) (FP.i2d hi)  h10 n0 (Nat.le_trans Z0 E10.1) A10 g_b10 F_lower_b10 F_upper_b10 (own_le lo hi hle)) hZ (hw _ (List.mem_of_getElem? (i := 13) rfl)) (hw _ (List.mem_of_getElem? (i := 10) rfl)) (by decide) (by decide)) (g := (mkF m 39 #[.val (.int p0), .val (.int p1), .val (.long q2), .second, .val (.long q3), .second, .val (.int lo), .val (.int hi), .val (.long itv), .second, .val (.long muv), .second, .unset, .unset, .unset, .unset] [(.double (FP.i2d hi)), (.double (FP.i2d lo)), (.ref b10), (.ref b10)])) rfl (by rw [hml]; rfl) (Steps.refl _) (a := b10) (argsL := [(.double (FP.i2d lo)), (.double (FP.i2d hi))]) (rest := [(.ref b10)]) (lenOf own_pd13 rfl) rfl (by show 2 * 0 + _ ≤ _; exact Nat.le_of_eq rfl) (hb hby at_39) (fun _ _ => ⟨rfl, e10, (by decide : 1 + 0 ≤ _), (by decide : 2 + 0 ≤ _)⟩)
  dsimp only [Pt.U, Pt.locs, Pt.cells, Pt.slots] at X13 l13 y13 z13 st13 hQ13
  subst l13 y13 z13
  obtain ⟨rfl, N13q, K13q, G13_0, G13_1⟩ := hQ13
  have N13 := Fr.app N5 N13q
  have KK13 : Keep h0 T13.heap [] := Keep.trans K10 K13q (allS (Or.inr sz_b10) all0)
  have a14 : ∀ t, Steps p.tables e below (T13.setTop (mkF m 42 #[.val (.int p0), .val (.int p1), .val (.long q2), .second, .val (.long q3), .second, .val (.int lo), .val (.int hi), .val (.long itv), .second, .val (.long muv), .second, .unset, .unset, .unset, .unset] [(.ref b10)])) t → Steps p.tables e below (s₁.setTop (entryFrame m #[(.int p0), (.int p1), (.long q2), (.long q3)] maxLocals)) t := fun t k => a12 t (st13.trans k)
  have a15 : ∀ t, Steps p.tables e below (T13.setTop (mkF m 50 #[.val (.int p0), .val (.int p1), .val (.long q2), .second, .val (.long q3), .second, .val (.int lo), .val (.int hi), .val (.long itv), .second, .val (.long muv), .second, .val (.ref b10), .unset, .unset, .unset] [(.long muv), (.long itv), (.ref b10)])) t → Steps p.tables e below (s₁.setTop (entryFrame m #[(.int p0), (.int p1), (.long q2), (.long q3)] maxLocals)) t := by
    intro t k
    refine a14 t ?_
    show Steps p.tables e below (T13.setTop (mkF m 42 #[.val (.int p0), .val (.int p1), .val (.long q2), .second, .val (.long q3), .second, .val (.int lo), .val (.int hi), .val (.long itv), .second, .val (.long muv), .second, .unset, .unset, .unset, .unset] [(.ref b10)])) _
    refine XS.astore X13.here hx rfl (hb hby at_42) rfl rfl (l' := #[.val (.int p0), .val (.int p1), .val (.long q2), .second, .val (.long q3), .second, .val (.int lo), .val (.int hi), .val (.long itv), .second, .val (.long muv), .second, .val (.ref b10), .unset, .unset, .unset]) rfl ?_
    show Steps p.tables e below (T13.setTop (mkF m 44 #[.val (.int p0), .val (.int p1), .val (.long q2), .second, .val (.long q3), .second, .val (.int lo), .val (.int hi), .val (.long itv), .second, .val (.long muv), .second, .val (.ref b10), .unset, .unset, .unset] [])) _
    refine XS.aload X13.here hx rfl (hb hby at_44) rfl rfl ?_
    show Steps p.tables e below (T13.setTop (mkF m 46 #[.val (.int p0), .val (.int p1), .val (.long q2), .second, .val (.long q3), .second, .val (.int lo), .val (.int hi), .val (.long itv), .second, .val (.long muv), .second, .val (.ref b10), .unset, .unset, .unset] [(.ref b10)])) _
    refine XS.lload X13.here hx rfl (hb hby at_46) rfl ?_
    show Steps p.tables e below (T13.setTop (mkF m 48 #[.val (.int p0), .val (.int p1), .val (.long q2), .second, .val (.long q3), .second, .val (.int lo), .val (.int hi), .val (.long itv), .second, .val (.long muv), .second, .val (.ref b10), .unset, .unset, .unset] [(.long itv), (.ref b10)])) _
    refine XS.lload X13.here hx rfl (hb hby at_48) rfl ?_
    exact k
  obtain ⟨_, _, ⟨T16, L16, k16, n16⟩, -, X16, hS2, hgr, ⟨Lc16, hQ16, l16, y16, z16⟩, st16⟩ := Jvm.RoadKit.callSS X13 hx (y := (⟨"com/example/pinched_bounds/pinchedbounds/Answer", "certified", "(Lcom/example/pinched_bounds/pinchedbounds/Interval;JJ)Lcom/example/pinched_bounds/pinchedbounds/Answer;"⟩ : MethodName)) hown (mvT hZ (hw _ (List.mem_of_getElem? (i := 26) rfl))) (mvT hZ (hw _ (List.mem_of_getElem? (i := 27) rfl))) (mvT hZ (hw _ (List.mem_of_getElem? (i := 28) rfl))) (mvT hZ (hw _ (List.mem_of_getElem? (i := 29) rfl))) (by decide) (backOfS (W := 0) (rmCert l Z a0 hw [] b10 itv muv lo hi T13.heap n0 (Nat.le_trans (Nat.le_trans Z0 E10.1) K13q.1) (A10.keep K13q) G13_0 G13_1 hle hit hmu) hZ (hw _ (List.mem_of_getElem? (i := 29) rfl)) (hw _ (List.mem_of_getElem? (i := 28) rfl)) (by decide) (by decide)) (g := (mkF m 50 #[.val (.int p0), .val (.int p1), .val (.long q2), .second, .val (.long q3), .second, .val (.int lo), .val (.int hi), .val (.long itv), .second, .val (.long muv), .second, .val (.ref b10), .unset, .unset, .unset] [(.long muv), (.long itv), (.ref b10)])) rfl (by rw [hml]; rfl) (argsL := [(.ref b10), (.long itv), (.long muv)]) (rest := []) (lenOf own_pd14 rfl) rfl (by show 2 * 0 + _ ≤ _; exact Nat.le_of_eq rfl) (hb hby at_50) (fun _ _ => ⟨rfl, rfl, (by decide : 1 + 4 ≤ _), (by decide : 2 + 42 ≤ _)⟩)
  dsimp only [Pt.U, Pt.locs, Pt.cells, Pt.slots] at X16 l16 y16 z16 st16 hQ16 hS2 hgr
  subst l16 y16 z16
  obtain ⟨X16, hS, hZ, hown⟩ := rebS (s := s) (vm0 := s.vm) hS (Nat.le_trans (Nat.le_trans (Nat.le_refl _) E10.1) K13q.1) X16 hS2 hgr hZ hown
  obtain ⟨an16, rv16, op16, rfl, hV, N16q, K16q, XA16, FA16_0, FA16_1, FA16_2, FA16_3, FA16_4, XP16, FP16⟩ := hQ16
  have N16 := Fr.app N13 N16q
  have KK16 : Keep h0 T16.heap [] := Keep.trans KK13 K16q all0
  have a17 : ∀ t, Steps p.tables e below (T16.setTop (mkF m 53 #[.val (.int p0), .val (.int p1), .val (.long q2), .second, .val (.long q3), .second, .val (.int lo), .val (.int hi), .val (.long itv), .second, .val (.long muv), .second, .val (.ref b10), .unset, .unset, .unset] [(.ref an16)])) t → Steps p.tables e below (s₁.setTop (entryFrame m #[(.int p0), (.int p1), (.long q2), (.long q3)] maxLocals)) t := fun t k => a15 t (st16.trans k)
  have a18 : ∀ t, Steps p.tables e below (T16.setTop (mkF m 70 #[.val (.int p0), .val (.int p1), .val (.long q2), .second, .val (.long q3), .second, .val (.int lo), .val (.int hi), .val (.long itv), .second, .val (.long muv), .second, .val (.ref b10), .val (.ref an16), .val (.double (FP.ddiv (FP.dadd (FP.i2d lo) (FP.i2d hi)) (4611686018427387904 : UInt64))), .second] [(.ref an16)])) t → Steps p.tables e below (s₁.setTop (entryFrame m #[(.int p0), (.int p1), (.long q2), (.long q3)] maxLocals)) t := by
    intro t k
    refine a17 t ?_
    show Steps p.tables e below (T16.setTop (mkF m 53 #[.val (.int p0), .val (.int p1), .val (.long q2), .second, .val (.long q3), .second, .val (.int lo), .val (.int hi), .val (.long itv), .second, .val (.long muv), .second, .val (.ref b10), .unset, .unset, .unset] [(.ref an16)])) _
    refine XS.astore X16.here hx rfl (hb hby at_53) rfl rfl (l' := #[.val (.int p0), .val (.int p1), .val (.long q2), .second, .val (.long q3), .second, .val (.int lo), .val (.int hi), .val (.long itv), .second, .val (.long muv), .second, .val (.ref b10), .val (.ref an16), .unset, .unset]) rfl ?_
    show Steps p.tables e below (T16.setTop (mkF m 55 #[.val (.int p0), .val (.int p1), .val (.long q2), .second, .val (.long q3), .second, .val (.int lo), .val (.int hi), .val (.long itv), .second, .val (.long muv), .second, .val (.ref b10), .val (.ref an16), .unset, .unset] [])) _
    refine XS.iload X16.here hx rfl (hb hby at_55) rfl ?_
    show Steps p.tables e below (T16.setTop (mkF m 57 #[.val (.int p0), .val (.int p1), .val (.long q2), .second, .val (.long q3), .second, .val (.int lo), .val (.int hi), .val (.long itv), .second, .val (.long muv), .second, .val (.ref b10), .val (.ref an16), .unset, .unset] [(.int lo)])) _
    refine XS.i2dS X16.here hx rfl (hb hby at_57) rfl rfl ?_
    show Steps p.tables e below (T16.setTop (mkF m 58 #[.val (.int p0), .val (.int p1), .val (.long q2), .second, .val (.long q3), .second, .val (.int lo), .val (.int hi), .val (.long itv), .second, .val (.long muv), .second, .val (.ref b10), .val (.ref an16), .unset, .unset] [(.double (FP.i2d lo))])) _
    refine XS.iload X16.here hx rfl (hb hby at_58) rfl ?_
    show Steps p.tables e below (T16.setTop (mkF m 60 #[.val (.int p0), .val (.int p1), .val (.long q2), .second, .val (.long q3), .second, .val (.int lo), .val (.int hi), .val (.long itv), .second, .val (.long muv), .second, .val (.ref b10), .val (.ref an16), .unset, .unset] [(.int hi), (.double (FP.i2d lo))])) _
    refine XS.i2dS X16.here hx rfl (hb hby at_60) rfl rfl ?_
    show Steps p.tables e below (T16.setTop (mkF m 61 #[.val (.int p0), .val (.int p1), .val (.long q2), .second, .val (.long q3), .second, .val (.int lo), .val (.int hi), .val (.long itv), .second, .val (.long muv), .second, .val (.ref b10), .val (.ref an16), .unset, .unset] [(.double (FP.i2d hi)), (.double (FP.i2d lo))])) _
    refine XS.daddS X16.here hx rfl (hb hby at_61) rfl (nn64 (own_sum lo hi).1) rfl ?_
    show Steps p.tables e below (T16.setTop (mkF m 62 #[.val (.int p0), .val (.int p1), .val (.long q2), .second, .val (.long q3), .second, .val (.int lo), .val (.int hi), .val (.long itv), .second, .val (.long muv), .second, .val (.ref b10), .val (.ref an16), .unset, .unset] [(.double (FP.dadd (FP.i2d lo) (FP.i2d hi)))])) _
    refine X16.ldc2DoubleC hx hown (mvT hZ (hw _ (List.mem_of_getElem? (i := 114) rfl))) (g := (mkF m 62 #[.val (.int p0), .val (.int p1), .val (.long q2), .second, .val (.long q3), .second, .val (.int lo), .val (.int hi), .val (.long itv), .second, .val (.long muv), .second, .val (.ref b10), .val (.ref an16), .unset, .unset] [(.double (FP.dadd (FP.i2d lo) (FP.i2d hi)))])) rfl (hb hby at_62) _ ?_
    show Steps p.tables e below (T16.setTop (mkF m 65 #[.val (.int p0), .val (.int p1), .val (.long q2), .second, .val (.long q3), .second, .val (.int lo), .val (.int hi), .val (.long itv), .second, .val (.long muv), .second, .val (.ref b10), .val (.ref an16), .unset, .unset] [(.double (4611686018427387904 : UInt64)), (.double (FP.dadd (FP.i2d lo) (FP.i2d hi)))])) _
    refine XS.ddivS X16.here hx rfl (hb hby at_65) rfl (nn64 hE.1) rfl ?_
    show Steps p.tables e below (T16.setTop (mkF m 66 #[.val (.int p0), .val (.int p1), .val (.long q2), .second, .val (.long q3), .second, .val (.int lo), .val (.int hi), .val (.long itv), .second, .val (.long muv), .second, .val (.ref b10), .val (.ref an16), .unset, .unset] [(.double (FP.ddiv (FP.dadd (FP.i2d lo) (FP.i2d hi)) (4611686018427387904 : UInt64)))])) _
    refine XS.dstore X16.here hx rfl (hb hby at_66) rfl (l' := #[.val (.int p0), .val (.int p1), .val (.long q2), .second, .val (.long q3), .second, .val (.int lo), .val (.int hi), .val (.long itv), .second, .val (.long muv), .second, .val (.ref b10), .val (.ref an16), .val (.double (FP.ddiv (FP.dadd (FP.i2d lo) (FP.i2d hi)) (4611686018427387904 : UInt64))), .second]) rfl ?_
    show Steps p.tables e below (T16.setTop (mkF m 68 #[.val (.int p0), .val (.int p1), .val (.long q2), .second, .val (.long q3), .second, .val (.int lo), .val (.int hi), .val (.long itv), .second, .val (.long muv), .second, .val (.ref b10), .val (.ref an16), .val (.double (FP.ddiv (FP.dadd (FP.i2d lo) (FP.i2d hi)) (4611686018427387904 : UInt64))), .second] [])) _
    refine XS.aload X16.here hx rfl (hb hby at_68) rfl rfl ?_
    exact k
  obtain ⟨cq19, kq19, q19a, q19b, q19c⟩ := isOf hZ rfl XA16
  obtain ⟨_, _, ⟨T19, L19, k19, n19⟩, -, X19, ⟨Lc19, hQ19, l19, y19, z19⟩, st19⟩ := X16.virtualBack hx (y := (⟨"com/example/pinched_bounds/pinchedbounds/Answer", "value", "()D"⟩ : MethodName)) (z := (⟨"com/example/pinched_bounds/pinchedbounds/Answer", "value", "()D"⟩ : MethodName)) hown (mvT hZ (hw _ (List.mem_of_getElem? (i := 115) rfl))) (mvT hZ (hw _ (List.mem_of_getElem? (i := 116) rfl))) (notFace_of_selects (args := #[]) (mvT hZ (hw _ (List.mem_of_getElem? (i := 118) rfl)))) (mvT hZ (hw _ (List.mem_of_getElem? (i := 118) rfl))) (mvT hZ (hw _ (List.mem_of_getElem? (i := 117) rfl))) (by decide) (backOf (W := 0) (rmAV l Z a0 hw [] an16 rv16 T16.heap n0 (Nat.le_trans (Nat.le_trans (Nat.le_trans Z0 E10.1) K13q.1) K16q.1) FA16_0) hZ (hw _ (List.mem_of_getElem? (i := 119) rfl)) (hw _ (List.mem_of_getElem? (i := 28) rfl)) (by decide) (by decide)) q19a q19c (g := (mkF m 70 #[.val (.int p0), .val (.int p1), .val (.long q2), .second, .val (.long q3), .second, .val (.int lo), .val (.int hi), .val (.long itv), .second, .val (.long muv), .second, .val (.ref b10), .val (.ref an16), .val (.double (FP.ddiv (FP.dadd (FP.i2d lo) (FP.i2d hi)) (4611686018427387904 : UInt64))), .second] [(.ref an16)])) rfl (by rw [hml]; rfl) (Steps.refl _) (argsL := []) (rest := []) (lenOf own_pd6 rfl) rfl (by show 2 * 0 + _ ≤ _; exact Nat.le_of_eq rfl) (hb hby at_70) (fun _ _ => ⟨rfl, rfl, (by decide : 5 + 0 ≤ _), (by decide : 44 + 0 ≤ _)⟩)
  dsimp only [Pt.U, Pt.locs, Pt.cells, Pt.slots] at X19 l19 y19 z19 st19 hQ19
  subst l19 y19 z19
  obtain ⟨rfl, N19q, e19q⟩ := hQ19
  have N19 := Fr.app N16 N19q
  have a20 : ∀ t, Steps p.tables e below (T19.setTop (mkF m 73 #[.val (.int p0), .val (.int p1), .val (.long q2), .second, .val (.long q3), .second, .val (.int lo), .val (.int hi), .val (.long itv), .second, .val (.long muv), .second, .val (.ref b10), .val (.ref an16), .val (.double (FP.ddiv (FP.dadd (FP.i2d lo) (FP.i2d hi)) (4611686018427387904 : UInt64))), .second] [(.double rv16)])) t → Steps p.tables e below (s₁.setTop (entryFrame m #[(.int p0), (.int p1), (.long q2), (.long q3)] maxLocals)) t := fun t k => a18 t (st19.trans k)
  have a21 : ∀ t, Steps p.tables e below (T19.setTop (mkF m 81 #[.val (.int p0), .val (.int p1), .val (.long q2), .second, .val (.long q3), .second, .val (.int lo), .val (.int hi), .val (.long itv), .second, .val (.long muv), .second, .val (.ref b10), .val (.ref an16), .val (.double (FP.ddiv (FP.dadd (FP.i2d lo) (FP.i2d hi)) (4611686018427387904 : UInt64))), .second] [(.ref an16)])) t → Steps p.tables e below (s₁.setTop (entryFrame m #[(.int p0), (.int p1), (.long q2), (.long q3)] maxLocals)) t := by
    intro t k
    refine a20 t ?_
    show Steps p.tables e below (T19.setTop (mkF m 73 #[.val (.int p0), .val (.int p1), .val (.long q2), .second, .val (.long q3), .second, .val (.int lo), .val (.int hi), .val (.long itv), .second, .val (.long muv), .second, .val (.ref b10), .val (.ref an16), .val (.double (FP.ddiv (FP.dadd (FP.i2d lo) (FP.i2d hi)) (4611686018427387904 : UInt64))), .second] [(.double rv16)])) _
    refine XS.dload X19.here hx rfl (hb hby at_73) rfl ?_
    show Steps p.tables e below (T19.setTop (mkF m 75 #[.val (.int p0), .val (.int p1), .val (.long q2), .second, .val (.long q3), .second, .val (.int lo), .val (.int hi), .val (.long itv), .second, .val (.long muv), .second, .val (.ref b10), .val (.ref an16), .val (.double (FP.ddiv (FP.dadd (FP.i2d lo) (FP.i2d hi)) (4611686018427387904 : UInt64))), .second] [(.double (FP.ddiv (FP.dadd (FP.i2d lo) (FP.i2d hi)) (4611686018427387904 : UInt64))), (.double rv16)])) _
    refine XS.dcmpS X19.here hx rfl (hb hby at_75) rfl rfl ?_
    show Steps p.tables e below (T19.setTop (mkF m 76 #[.val (.int p0), .val (.int p1), .val (.long q2), .second, .val (.long q3), .second, .val (.int lo), .val (.int hi), .val (.long itv), .second, .val (.long muv), .second, .val (.ref b10), .val (.ref an16), .val (.double (FP.ddiv (FP.dadd (FP.i2d lo) (FP.i2d hi)) (4611686018427387904 : UInt64))), .second] [(.int (cmpValue (FP.dcmp rv16 (FP.ddiv (FP.dadd (FP.i2d lo) (FP.i2d hi)) (4611686018427387904 : UInt64))) .l))])) _
    refine XS.ifNo X19.here hx rfl (hb hby at_76) rfl ((if0 _ _).trans (teq ((cv_eq _ _).mpr (cmp_eq hV.nn hE.nn (hV.eq hE)))).2) ?_
    show Steps p.tables e below (T19.setTop (mkF m 79 #[.val (.int p0), .val (.int p1), .val (.long q2), .second, .val (.long q3), .second, .val (.int lo), .val (.int hi), .val (.long itv), .second, .val (.long muv), .second, .val (.ref b10), .val (.ref an16), .val (.double (FP.ddiv (FP.dadd (FP.i2d lo) (FP.i2d hi)) (4611686018427387904 : UInt64))), .second] [])) _
    refine XS.aload X19.here hx rfl (hb hby at_79) rfl rfl ?_
    exact k
  obtain ⟨cq22, kq22, q22a, q22b, q22c⟩ := isOf hZ e19q XA16
  obtain ⟨_, _, ⟨T22, L22, k22, n22⟩, -, X22, ⟨Lc22, hQ22, l22, y22, z22⟩, st22⟩ := X19.virtualBack hx (y := (⟨"com/example/pinched_bounds/pinchedbounds/Answer", "interval", "()Ljava/util/Optional;"⟩ : MethodName)) (z := (⟨"com/example/pinched_bounds/pinchedbounds/Answer", "interval", "()Ljava/util/Optional;"⟩ : MethodName)) hown (mvT hZ (hw _ (List.mem_of_getElem? (i := 120) rfl))) (mvT hZ (hw _ (List.mem_of_getElem? (i := 121) rfl))) (notFace_of_selects (args := #[]) (mvT hZ (hw _ (List.mem_of_getElem? (i := 123) rfl)))) (mvT hZ (hw _ (List.mem_of_getElem? (i := 123) rfl))) (mvT hZ (hw _ (List.mem_of_getElem? (i := 122) rfl))) (by decide) (backOf (W := 0) (rmAI l Z a0 hw [] an16 op16 T16.heap n0 (Nat.le_trans (Nat.le_trans (Nat.le_trans Z0 E10.1) K13q.1) K16q.1) FA16_1) hZ (hw _ (List.mem_of_getElem? (i := 124) rfl)) (hw _ (List.mem_of_getElem? (i := 28) rfl)) (by decide) (by decide)) q22a q22c (g := (mkF m 81 #[.val (.int p0), .val (.int p1), .val (.long q2), .second, .val (.long q3), .second, .val (.int lo), .val (.int hi), .val (.long itv), .second, .val (.long muv), .second, .val (.ref b10), .val (.ref an16), .val (.double (FP.ddiv (FP.dadd (FP.i2d lo) (FP.i2d hi)) (4611686018427387904 : UInt64))), .second] [(.ref an16)])) rfl (by rw [hml]; rfl) (Steps.refl _) (argsL := []) (rest := []) (lenOf own_pd15 rfl) rfl (by show 2 * 0 + _ ≤ _; exact Nat.le_of_eq rfl) (hb hby at_81) (fun _ _ => ⟨rfl, e19q, (by decide : 5 + 0 ≤ _), (by decide : 44 + 0 ≤ _)⟩)
  dsimp only [Pt.U, Pt.locs, Pt.cells, Pt.slots] at X22 l22 y22 z22 st22 hQ22
  subst l22 y22 z22
  obtain ⟨rfl, N22q, e22q⟩ := hQ22
  have N22 := Fr.app N19 N22q
  have a23 : ∀ t, Steps p.tables e below (T22.setTop (mkF m 84 #[.val (.int p0), .val (.int p1), .val (.long q2), .second, .val (.long q3), .second, .val (.int lo), .val (.int hi), .val (.long itv), .second, .val (.long muv), .second, .val (.ref b10), .val (.ref an16), .val (.double (FP.ddiv (FP.dadd (FP.i2d lo) (FP.i2d hi)) (4611686018427387904 : UInt64))), .second] [(.ref op16)])) t → Steps p.tables e below (s₁.setTop (entryFrame m #[(.int p0), (.int p1), (.long q2), (.long q3)] maxLocals)) t := fun t k => a21 t (st22.trans k)
  have a24 : ∀ t, Steps p.tables e below (T22.setTop (mkF m 85 #[.val (.int p0), .val (.int p1), .val (.long q2), .second, .val (.long q3), .second, .val (.int lo), .val (.int hi), .val (.long itv), .second, .val (.long muv), .second, .val (.ref b10), .val (.ref an16), .val (.double (FP.ddiv (FP.dadd (FP.i2d lo) (FP.i2d hi)) (4611686018427387904 : UInt64))), .second] [.null, (.ref op16)])) t → Steps p.tables e below (s₁.setTop (entryFrame m #[(.int p0), (.int p1), (.long q2), (.long q3)] maxLocals)) t := by
    intro t k
    refine a23 t ?_
    show Steps p.tables e below (T22.setTop (mkF m 84 #[.val (.int p0), .val (.int p1), .val (.long q2), .second, .val (.long q3), .second, .val (.int lo), .val (.int hi), .val (.long itv), .second, .val (.long muv), .second, .val (.ref b10), .val (.ref an16), .val (.double (FP.ddiv (FP.dadd (FP.i2d lo) (FP.i2d hi)) (4611686018427387904 : UInt64))), .second] [(.ref op16)])) _
    refine XS.aconstNull X22.here hx rfl (hb hby at_84) ?_
    exact k
  obtain ⟨cq25, kq25, q25a, q25b, q25c⟩ := isOf hZ e22q XP16
  obtain ⟨_, _, ⟨T25, L25, k25, n25⟩, -, X25, ⟨Lc25, hQ25, l25, y25, z25⟩, st25⟩ := X22.virtualBack hx (y := (⟨"java/util/Optional", "orElse", "(Ljava/lang/Object;)Ljava/lang/Object;"⟩ : MethodName)) (z := (⟨"java/util/Optional", "orElse", "(Ljava/lang/Object;)Ljava/lang/Object;"⟩ : MethodName)) hown (mvT hZ (hw _ (List.mem_of_getElem? (i := 125) rfl))) (mvT hZ (hw _ (List.mem_of_getElem? (i := 126) rfl))) (notFace_of_selects (args := #[]) (mvT hZ (hw _ (List.mem_of_getElem? (i := 128) rfl)))) (mvT hZ (hw _ (List.mem_of_getElem? (i := 128) rfl))) (mvT hZ (hw _ (List.mem_of_getElem? (i := 127) rfl))) (by decide) (backOf (W := 0) (rmOE l Z a0 hw [] op16 b10 T16.heap n0 (Nat.le_trans (Nat.le_trans (Nat.le_trans Z0 E10.1) K13q.1) K16q.1) FP16) hZ (hw _ (List.mem_of_getElem? (i := 129) rfl)) (hw _ (List.mem_of_getElem? (i := 46) rfl)) (by decide) (by decide)) q25a q25c (g := (mkF m 85 #[.val (.int p0), .val (.int p1), .val (.long q2), .second, .val (.long q3), .second, .val (.int lo), .val (.int hi), .val (.long itv), .second, .val (.long muv), .second, .val (.ref b10), .val (.ref an16), .val (.double (FP.ddiv (FP.dadd (FP.i2d lo) (FP.i2d hi)) (4611686018427387904 : UInt64))), .second] [.null, (.ref op16)])) rfl (by rw [hml]; rfl) (Steps.refl _) (argsL := [.null]) (rest := []) (lenOf own_pd2 rfl) rfl (by show 2 * 0 + _ ≤ _; exact Nat.le_of_eq rfl) (hb hby at_85) (fun _ _ => ⟨rfl, e22q, (by decide : 5 + 0 ≤ _), (by decide : 44 + 0 ≤ _)⟩)
  dsimp only [Pt.U, Pt.locs, Pt.cells, Pt.slots] at X25 l25 y25 z25 st25 hQ25
  subst l25 y25 z25
  obtain ⟨rfl, N25q, e25q⟩ := hQ25
  have N25 := Fr.app N22 N25q
  have a26 : ∀ t, Steps p.tables e below (T25.setTop (mkF m 88 #[.val (.int p0), .val (.int p1), .val (.long q2), .second, .val (.long q3), .second, .val (.int lo), .val (.int hi), .val (.long itv), .second, .val (.long muv), .second, .val (.ref b10), .val (.ref an16), .val (.double (FP.ddiv (FP.dadd (FP.i2d lo) (FP.i2d hi)) (4611686018427387904 : UInt64))), .second] [(.ref b10)])) t → Steps p.tables e below (s₁.setTop (entryFrame m #[(.int p0), (.int p1), (.long q2), (.long q3)] maxLocals)) t := fun t k => a24 t (st25.trans k)
  have a27 : ∀ t, Steps p.tables e below (T25.setTop (mkF m 95 #[.val (.int p0), .val (.int p1), .val (.long q2), .second, .val (.long q3), .second, .val (.int lo), .val (.int hi), .val (.long itv), .second, .val (.long muv), .second, .val (.ref b10), .val (.ref an16), .val (.double (FP.ddiv (FP.dadd (FP.i2d lo) (FP.i2d hi)) (4611686018427387904 : UInt64))), .second] [(.ref an16)])) t → Steps p.tables e below (s₁.setTop (entryFrame m #[(.int p0), (.int p1), (.long q2), (.long q3)] maxLocals)) t := by
    intro t k
    refine a26 t ?_
    show Steps p.tables e below (T25.setTop (mkF m 88 #[.val (.int p0), .val (.int p1), .val (.long q2), .second, .val (.long q3), .second, .val (.int lo), .val (.int hi), .val (.long itv), .second, .val (.long muv), .second, .val (.ref b10), .val (.ref an16), .val (.double (FP.ddiv (FP.dadd (FP.i2d lo) (FP.i2d hi)) (4611686018427387904 : UInt64))), .second] [(.ref b10)])) _
    refine XS.aload X25.here hx rfl (hb hby at_88) rfl rfl ?_
    show Steps p.tables e below (T25.setTop (mkF m 90 #[.val (.int p0), .val (.int p1), .val (.long q2), .second, .val (.long q3), .second, .val (.int lo), .val (.int hi), .val (.long itv), .second, .val (.long muv), .second, .val (.ref b10), .val (.ref an16), .val (.double (FP.ddiv (FP.dadd (FP.i2d lo) (FP.i2d hi)) (4611686018427387904 : UInt64))), .second] [(.ref b10), (.ref b10)])) _
    refine Jvm.RoadKit.acmp (g := (mkF m 90 #[.val (.int p0), .val (.int p1), .val (.long q2), .second, .val (.long q3), .second, .val (.int lo), .val (.int hi), .val (.long itv), .second, .val (.long muv), .second, .val (.ref b10), .val (.ref an16), .val (.double (FP.ddiv (FP.dadd (FP.i2d lo) (FP.i2d hi)) (4611686018427387904 : UInt64))), .second] [(.ref b10), (.ref b10)])) X25 hx rfl rfl rfl (pc0 := 90) (pc' := 93) (same := true) rfl (hb hby at_90) rfl (decide_eq_true rfl) (by decide) (by decide) ?_
    show Steps p.tables e below (T25.setTop (mkF m 93 #[.val (.int p0), .val (.int p1), .val (.long q2), .second, .val (.long q3), .second, .val (.int lo), .val (.int hi), .val (.long itv), .second, .val (.long muv), .second, .val (.ref b10), .val (.ref an16), .val (.double (FP.ddiv (FP.dadd (FP.i2d lo) (FP.i2d hi)) (4611686018427387904 : UInt64))), .second] [])) _
    refine XS.aload X25.here hx rfl (hb hby at_93) rfl rfl ?_
    exact k
  obtain ⟨cq28, kq28, q28a, q28b, q28c⟩ := isOf hZ e25q XA16
  obtain ⟨_, _, ⟨T28, L28, k28, n28⟩, -, X28, ⟨Lc28, hQ28, l28, y28, z28⟩, st28⟩ := X25.virtualBack hx (y := (⟨"com/example/pinched_bounds/pinchedbounds/Answer", "iterations", "()J"⟩ : MethodName)) (z := (⟨"com/example/pinched_bounds/pinchedbounds/Answer", "iterations", "()J"⟩ : MethodName)) hown (mvT hZ (hw _ (List.mem_of_getElem? (i := 130) rfl))) (mvT hZ (hw _ (List.mem_of_getElem? (i := 131) rfl))) (notFace_of_selects (args := #[]) (mvT hZ (hw _ (List.mem_of_getElem? (i := 133) rfl)))) (mvT hZ (hw _ (List.mem_of_getElem? (i := 133) rfl))) (mvT hZ (hw _ (List.mem_of_getElem? (i := 132) rfl))) (by decide) (backOf (W := 0) (rmAIt l Z a0 hw [] an16 itv T16.heap n0 (Nat.le_trans (Nat.le_trans (Nat.le_trans Z0 E10.1) K13q.1) K16q.1) FA16_2) hZ (hw _ (List.mem_of_getElem? (i := 134) rfl)) (hw _ (List.mem_of_getElem? (i := 28) rfl)) (by decide) (by decide)) q28a q28c (g := (mkF m 95 #[.val (.int p0), .val (.int p1), .val (.long q2), .second, .val (.long q3), .second, .val (.int lo), .val (.int hi), .val (.long itv), .second, .val (.long muv), .second, .val (.ref b10), .val (.ref an16), .val (.double (FP.ddiv (FP.dadd (FP.i2d lo) (FP.i2d hi)) (4611686018427387904 : UInt64))), .second] [(.ref an16)])) rfl (by rw [hml]; rfl) (Steps.refl _) (argsL := []) (rest := []) (lenOf own_pd16 rfl) rfl (by show 2 * 0 + _ ≤ _; exact Nat.le_of_eq rfl) (hb hby at_95) (fun _ _ => ⟨rfl, e25q, (by decide : 5 + 0 ≤ _), (by decide : 44 + 0 ≤ _)⟩)
  dsimp only [Pt.U, Pt.locs, Pt.cells, Pt.slots] at X28 l28 y28 z28 st28 hQ28
  subst l28 y28 z28
  obtain ⟨rfl, N28q, e28q⟩ := hQ28
  have N28 := Fr.app N25 N28q
  have a29 : ∀ t, Steps p.tables e below (T28.setTop (mkF m 98 #[.val (.int p0), .val (.int p1), .val (.long q2), .second, .val (.long q3), .second, .val (.int lo), .val (.int hi), .val (.long itv), .second, .val (.long muv), .second, .val (.ref b10), .val (.ref an16), .val (.double (FP.ddiv (FP.dadd (FP.i2d lo) (FP.i2d hi)) (4611686018427387904 : UInt64))), .second] [(.long itv)])) t → Steps p.tables e below (s₁.setTop (entryFrame m #[(.int p0), (.int p1), (.long q2), (.long q3)] maxLocals)) t := fun t k => a27 t (st28.trans k)
  have a30 : ∀ t, Steps p.tables e below (T28.setTop (mkF m 106 #[.val (.int p0), .val (.int p1), .val (.long q2), .second, .val (.long q3), .second, .val (.int lo), .val (.int hi), .val (.long itv), .second, .val (.long muv), .second, .val (.ref b10), .val (.ref an16), .val (.double (FP.ddiv (FP.dadd (FP.i2d lo) (FP.i2d hi)) (4611686018427387904 : UInt64))), .second] [(.ref an16)])) t → Steps p.tables e below (s₁.setTop (entryFrame m #[(.int p0), (.int p1), (.long q2), (.long q3)] maxLocals)) t := by
    intro t k
    refine a29 t ?_
    show Steps p.tables e below (T28.setTop (mkF m 98 #[.val (.int p0), .val (.int p1), .val (.long q2), .second, .val (.long q3), .second, .val (.int lo), .val (.int hi), .val (.long itv), .second, .val (.long muv), .second, .val (.ref b10), .val (.ref an16), .val (.double (FP.ddiv (FP.dadd (FP.i2d lo) (FP.i2d hi)) (4611686018427387904 : UInt64))), .second] [(.long itv)])) _
    refine XS.lload X28.here hx rfl (hb hby at_98) rfl ?_
    show Steps p.tables e below (T28.setTop (mkF m 100 #[.val (.int p0), .val (.int p1), .val (.long q2), .second, .val (.long q3), .second, .val (.int lo), .val (.int hi), .val (.long itv), .second, .val (.long muv), .second, .val (.ref b10), .val (.ref an16), .val (.double (FP.ddiv (FP.dadd (FP.i2d lo) (FP.i2d hi)) (4611686018427387904 : UInt64))), .second] [(.long itv), (.long itv)])) _
    refine XS.lcmp X28.here hx rfl (hb hby at_100) rfl ?_
    show Steps p.tables e below (T28.setTop (mkF m 101 #[.val (.int p0), .val (.int p1), .val (.long q2), .second, .val (.long q3), .second, .val (.int lo), .val (.int hi), .val (.long itv), .second, .val (.long muv), .second, .val (.ref b10), .val (.ref an16), .val (.double (FP.ddiv (FP.dadd (FP.i2d lo) (FP.i2d hi)) (4611686018427387904 : UInt64))), .second] [(.int (lcmpW itv itv))])) _
    refine XS.ifNo X28.here hx rfl (hb hby at_101) rfl ((if0 _ _).trans (teq ((lw_eq itv itv).mpr rfl)).2) ?_
    show Steps p.tables e below (T28.setTop (mkF m 104 #[.val (.int p0), .val (.int p1), .val (.long q2), .second, .val (.long q3), .second, .val (.int lo), .val (.int hi), .val (.long itv), .second, .val (.long muv), .second, .val (.ref b10), .val (.ref an16), .val (.double (FP.ddiv (FP.dadd (FP.i2d lo) (FP.i2d hi)) (4611686018427387904 : UInt64))), .second] [])) _
    refine XS.aload X28.here hx rfl (hb hby at_104) rfl rfl ?_
    exact k
  obtain ⟨cq31, kq31, q31a, q31b, q31c⟩ := isOf hZ e28q XA16
  obtain ⟨_, _, ⟨T31, L31, k31, n31⟩, -, X31, ⟨Lc31, hQ31, l31, y31, z31⟩, st31⟩ := X28.virtualBack hx (y := (⟨"com/example/pinched_bounds/pinchedbounds/Answer", "multiplications", "()J"⟩ : MethodName)) (z := (⟨"com/example/pinched_bounds/pinchedbounds/Answer", "multiplications", "()J"⟩ : MethodName)) hown (mvT hZ (hw _ (List.mem_of_getElem? (i := 135) rfl))) (mvT hZ (hw _ (List.mem_of_getElem? (i := 136) rfl))) (notFace_of_selects (args := #[]) (mvT hZ (hw _ (List.mem_of_getElem? (i := 138) rfl)))) (mvT hZ (hw _ (List.mem_of_getElem? (i := 138) rfl))) (mvT hZ (hw _ (List.mem_of_getElem? (i := 137) rfl))) (by decide) (backOf (W := 0) (rmAM l Z a0 hw [] an16 muv T16.heap n0 (Nat.le_trans (Nat.le_trans (Nat.le_trans Z0 E10.1) K13q.1) K16q.1) FA16_3) hZ (hw _ (List.mem_of_getElem? (i := 139) rfl)) (hw _ (List.mem_of_getElem? (i := 28) rfl)) (by decide) (by decide)) q31a q31c (g := (mkF m 106 #[.val (.int p0), .val (.int p1), .val (.long q2), .second, .val (.long q3), .second, .val (.int lo), .val (.int hi), .val (.long itv), .second, .val (.long muv), .second, .val (.ref b10), .val (.ref an16), .val (.double (FP.ddiv (FP.dadd (FP.i2d lo) (FP.i2d hi)) (4611686018427387904 : UInt64))), .second] [(.ref an16)])) rfl (by rw [hml]; rfl) (Steps.refl _) (argsL := []) (rest := []) (lenOf own_pd16 rfl) rfl (by show 2 * 0 + _ ≤ _; exact Nat.le_of_eq rfl) (hb hby at_106) (fun _ _ => ⟨rfl, e28q, (by decide : 5 + 0 ≤ _), (by decide : 44 + 0 ≤ _)⟩)
  dsimp only [Pt.U, Pt.locs, Pt.cells, Pt.slots] at X31 l31 y31 z31 st31 hQ31
  subst l31 y31 z31
  obtain ⟨rfl, N31q, e31q⟩ := hQ31
  have N31 := Fr.app N28 N31q
  have a32 : ∀ t, Steps p.tables e below (T31.setTop (mkF m 109 #[.val (.int p0), .val (.int p1), .val (.long q2), .second, .val (.long q3), .second, .val (.int lo), .val (.int hi), .val (.long itv), .second, .val (.long muv), .second, .val (.ref b10), .val (.ref an16), .val (.double (FP.ddiv (FP.dadd (FP.i2d lo) (FP.i2d hi)) (4611686018427387904 : UInt64))), .second] [(.long muv)])) t → Steps p.tables e below (s₁.setTop (entryFrame m #[(.int p0), (.int p1), (.long q2), (.long q3)] maxLocals)) t := fun t k => a30 t (st31.trans k)
  have a33 : ∀ t, Steps p.tables e below (T31.setTop (mkF m 117 #[.val (.int p0), .val (.int p1), .val (.long q2), .second, .val (.long q3), .second, .val (.int lo), .val (.int hi), .val (.long itv), .second, .val (.long muv), .second, .val (.ref b10), .val (.ref an16), .val (.double (FP.ddiv (FP.dadd (FP.i2d lo) (FP.i2d hi)) (4611686018427387904 : UInt64))), .second] [(.ref an16)])) t → Steps p.tables e below (s₁.setTop (entryFrame m #[(.int p0), (.int p1), (.long q2), (.long q3)] maxLocals)) t := by
    intro t k
    refine a32 t ?_
    show Steps p.tables e below (T31.setTop (mkF m 109 #[.val (.int p0), .val (.int p1), .val (.long q2), .second, .val (.long q3), .second, .val (.int lo), .val (.int hi), .val (.long itv), .second, .val (.long muv), .second, .val (.ref b10), .val (.ref an16), .val (.double (FP.ddiv (FP.dadd (FP.i2d lo) (FP.i2d hi)) (4611686018427387904 : UInt64))), .second] [(.long muv)])) _
    refine XS.lload X31.here hx rfl (hb hby at_109) rfl ?_
    show Steps p.tables e below (T31.setTop (mkF m 111 #[.val (.int p0), .val (.int p1), .val (.long q2), .second, .val (.long q3), .second, .val (.int lo), .val (.int hi), .val (.long itv), .second, .val (.long muv), .second, .val (.ref b10), .val (.ref an16), .val (.double (FP.ddiv (FP.dadd (FP.i2d lo) (FP.i2d hi)) (4611686018427387904 : UInt64))), .second] [(.long muv), (.long muv)])) _
    refine XS.lcmp X31.here hx rfl (hb hby at_111) rfl ?_
    show Steps p.tables e below (T31.setTop (mkF m 112 #[.val (.int p0), .val (.int p1), .val (.long q2), .second, .val (.long q3), .second, .val (.int lo), .val (.int hi), .val (.long itv), .second, .val (.long muv), .second, .val (.ref b10), .val (.ref an16), .val (.double (FP.ddiv (FP.dadd (FP.i2d lo) (FP.i2d hi)) (4611686018427387904 : UInt64))), .second] [(.int (lcmpW muv muv))])) _
    refine XS.ifNo X31.here hx rfl (hb hby at_112) rfl ((if0 _ _).trans (teq ((lw_eq muv muv).mpr rfl)).2) ?_
    show Steps p.tables e below (T31.setTop (mkF m 115 #[.val (.int p0), .val (.int p1), .val (.long q2), .second, .val (.long q3), .second, .val (.int lo), .val (.int hi), .val (.long itv), .second, .val (.long muv), .second, .val (.ref b10), .val (.ref an16), .val (.double (FP.ddiv (FP.dadd (FP.i2d lo) (FP.i2d hi)) (4611686018427387904 : UInt64))), .second] [])) _
    refine XS.aload X31.here hx rfl (hb hby at_115) rfl rfl ?_
    exact k
  obtain ⟨cq34, kq34, q34a, q34b, q34c⟩ := isOf hZ e31q XA16
  obtain ⟨_, _, ⟨T34, L34, k34, n34⟩, -, X34, ⟨Lc34, hQ34, l34, y34, z34⟩, st34⟩ := X31.virtualBack hx (y := (⟨"com/example/pinched_bounds/pinchedbounds/Answer", "handedOver", "()Z"⟩ : MethodName)) (z := (⟨"com/example/pinched_bounds/pinchedbounds/Answer", "handedOver", "()Z"⟩ : MethodName)) hown (mvT hZ (hw _ (List.mem_of_getElem? (i := 140) rfl))) (mvT hZ (hw _ (List.mem_of_getElem? (i := 141) rfl))) (notFace_of_selects (args := #[]) (mvT hZ (hw _ (List.mem_of_getElem? (i := 143) rfl)))) (mvT hZ (hw _ (List.mem_of_getElem? (i := 143) rfl))) (mvT hZ (hw _ (List.mem_of_getElem? (i := 142) rfl))) (by decide) (backOf (W := 0) (rmAH l Z a0 hw [] an16 T16.heap n0 (Nat.le_trans (Nat.le_trans (Nat.le_trans Z0 E10.1) K13q.1) K16q.1) FA16_4) hZ (hw _ (List.mem_of_getElem? (i := 144) rfl)) (hw _ (List.mem_of_getElem? (i := 28) rfl)) (by decide) (by decide)) q34a q34c (g := (mkF m 117 #[.val (.int p0), .val (.int p1), .val (.long q2), .second, .val (.long q3), .second, .val (.int lo), .val (.int hi), .val (.long itv), .second, .val (.long muv), .second, .val (.ref b10), .val (.ref an16), .val (.double (FP.ddiv (FP.dadd (FP.i2d lo) (FP.i2d hi)) (4611686018427387904 : UInt64))), .second] [(.ref an16)])) rfl (by rw [hml]; rfl) (Steps.refl _) (argsL := []) (rest := []) (lenOf own_pd4 rfl) rfl (by show 2 * 0 + _ ≤ _; exact Nat.le_of_eq rfl) (hb hby at_117) (fun _ _ => ⟨rfl, e31q, (by decide : 5 + 0 ≤ _), (by decide : 44 + 0 ≤ _)⟩)
  dsimp only [Pt.U, Pt.locs, Pt.cells, Pt.slots] at X34 l34 y34 z34 st34 hQ34
  subst l34 y34 z34
  obtain ⟨rfl, N34q, e34q⟩ := hQ34
  have N34 := Fr.app N31 N34q
  have a35 : ∀ t, Steps p.tables e below (T34.setTop (mkF m 120 #[.val (.int p0), .val (.int p1), .val (.long q2), .second, .val (.long q3), .second, .val (.int lo), .val (.int hi), .val (.long itv), .second, .val (.long muv), .second, .val (.ref b10), .val (.ref an16), .val (.double (FP.ddiv (FP.dadd (FP.i2d lo) (FP.i2d hi)) (4611686018427387904 : UInt64))), .second] [(.int (0 : Int32))])) t → Steps p.tables e below (s₁.setTop (entryFrame m #[(.int p0), (.int p1), (.long q2), (.long q3)] maxLocals)) t := fun t k => a33 t (st34.trans k)
  have a36 : ∀ t, Steps p.tables e below (T34.setTop (mkF m 128 #[.val (.int p0), .val (.int p1), .val (.long q2), .second, .val (.long q3), .second, .val (.int lo), .val (.int hi), .val (.long itv), .second, .val (.long muv), .second, .val (.ref b10), .val (.ref an16), .val (.double (FP.ddiv (FP.dadd (FP.i2d lo) (FP.i2d hi)) (4611686018427387904 : UInt64))), .second] [(.int (1 : Int32))])) t → Steps p.tables e below (s₁.setTop (entryFrame m #[(.int p0), (.int p1), (.long q2), (.long q3)] maxLocals)) t := by
    intro t k
    refine a35 t ?_
    show Steps p.tables e below (T34.setTop (mkF m 120 #[.val (.int p0), .val (.int p1), .val (.long q2), .second, .val (.long q3), .second, .val (.int lo), .val (.int hi), .val (.long itv), .second, .val (.long muv), .second, .val (.ref b10), .val (.ref an16), .val (.double (FP.ddiv (FP.dadd (FP.i2d lo) (FP.i2d hi)) (4611686018427387904 : UInt64))), .second] [(.int (0 : Int32))])) _
    refine XS.ifNo X34.here hx rfl (hb hby at_120) rfl ((if0 _ _).trans (teq rfl).2) ?_
    show Steps p.tables e below (T34.setTop (mkF m 123 #[.val (.int p0), .val (.int p1), .val (.long q2), .second, .val (.long q3), .second, .val (.int lo), .val (.int hi), .val (.long itv), .second, .val (.long muv), .second, .val (.ref b10), .val (.ref an16), .val (.double (FP.ddiv (FP.dadd (FP.i2d lo) (FP.i2d hi)) (4611686018427387904 : UInt64))), .second] [])) _
    refine XS.iconst X34.here hx rfl (hb hby at_123) ?_
    show Steps p.tables e below (T34.setTop (mkF m 124 #[.val (.int p0), .val (.int p1), .val (.long q2), .second, .val (.long q3), .second, .val (.int lo), .val (.int hi), .val (.long itv), .second, .val (.long muv), .second, .val (.ref b10), .val (.ref an16), .val (.double (FP.ddiv (FP.dadd (FP.i2d lo) (FP.i2d hi)) (4611686018427387904 : UInt64))), .second] [(.int (1 : Int32))])) _
    refine XS.goto X34.here hx rfl (pc0 := 124) (pc' := 128) rfl (hb hby at_124) (by decide) (by decide) ?_
    exact k
  obtain ⟨fs, hr, hrun, hended, hRE⟩ := Stand.leaveW (s := s) (vm₁ := T16.vm) X34 hS (by rw [e34q]; exact (Nat.le_refl _)) (v := some (.int (1 : Int32))) (fun h => by rw [Bd.returns] at h; cases h)
  refine ⟨_, _, a36 _ ?_, hrun, hended, _, _, rfl, ?_, hRE.1, hRE.2.1, hRE.2.2.1, hRE.2.2.2.mono (by decide) (by decide)⟩
  · show Steps p.tables e below (T34.setTop (mkF m 128 #[.val (.int p0), .val (.int p1), .val (.long q2), .second, .val (.long q3), .second, .val (.int lo), .val (.int hi), .val (.long itv), .second, .val (.long muv), .second, .val (.ref b10), .val (.ref an16), .val (.double (FP.ddiv (FP.dadd (FP.i2d lo) (FP.i2d hi)) (4611686018427387904 : UInt64))), .second] [(.int (1 : Int32))])) _
    exact retN X34 hx (t := .boolean) Bd.returns (by simp) (hb hby at_128) hr
  · show Q0 Z p0 p1 q2 q3 h0 n0 _ T34.heap _
    rw [e34q]
    exact ⟨rfl, N34⟩
set_option maxRecDepth 65536 in
set_option maxHeartbeats 40000000 in
theorem comes_1 {Post : Tables → Env → Array Value → State → Outcome → State → Prop} (hpost : ∀ tb e args s v u, (limb_1_1.after args s (.returned v) u = true ∧ limb_1_2.after args s (.returned v) u = true ∧ True) → ReturnedEndW s (.returned v) u (Jvm.fieldLocs frame_1_writes args s ++ Jvm.arrayLocs frame_1_arrays args s ++ Jvm.staticLocs frame_1_statics s) 16 1152 → Post tb e args s (.returned v) u) :
    ArmFor flags0 classFile x code maxLocals ret World_1 tables_1 room_1 Calls_1 rest_1 Pre_1 Post := by
  intro l hfl _ _ p e ha hc hk s m args below hf hA hF happ hP
  obtain ⟨hcalls, hrest, hpre⟩ := hP
  obtain ⟨-, -, -, hnamed, -, -, -, hat⟩ := (Spec.applies_iff hf).mp happ
  obtain ⟨hg, hn⟩ := and_e (Cond.before_iff.mp (show (Jvm.Cond.and given_1 narrow_1).before args s = true from hpre))
  obtain ⟨g1, g2⟩ := and_e hg
  obtain ⟨g3, g4⟩ := and_e g2
  obtain ⟨g5, g6⟩ := and_e g4
  obtain ⟨g7, g8⟩ := and_e g6
  obtain ⟨w0, w1, w2, w3, rfl⟩ : ∃ w0 w1 w2 w3 : Value, args = #[w0, w1, w2, w3] := by
    have hs : args.size = 4 := by simpa [Cond.value, given_1] using g1
    obtain ⟨L⟩ := args
    match L, hs with
    | [w0, w1, w2, w3], _ => exact ⟨w0, w1, w2, w3, rfl⟩
  have hw := fun d (hd : d ∈ tables_1) => atoms_spec (ws := Jvm.Cond.code x code maxLocals ret :: tables_1) hat d (List.mem_cons_of_mem _ hd)
  have hfit : Fit s := fun {y c} hc i hi => by
    obtain ⟨ha, rfl⟩ := Array.getElem?_eq_some_iff.mp hc
    have q := List.all_eq_true.mp ((Array.all_eq_true_iff_forall_mem.mp hF) _ (Array.getElem_mem ha)) i (List.mem_range.mpr hi)
    simpa [Array.getElem?_eq_getElem hi] using q
  obtain ⟨i0, ei0⟩ := is_v g3
  obtain rfl : w0 = (.int i0) := Option.some.inj ei0
  obtain ⟨i1, ei1⟩ := is_v g5
  obtain rfl : w1 = (.int i1) := Option.some.inj ei1
  obtain ⟨i2, ei2⟩ := isL_v g7
  obtain rfl : w2 = (.long i2) := Option.some.inj ei2
  obtain ⟨i3, ei3⟩ := isL_v g8
  obtain rfl : w3 = (.long i3) := Option.some.inj ei3
  obtain ⟨n, o, h1, h2, h3, _, L, rfl, ⟨rfl, N⟩, hq⟩ := rm0 l s _ hw tables_1 i0 i1 i2 i3  s.heap s.heap.size (Nat.le_refl _)  p e ha hc hk s m _ below hf ((Spec.applies_iff_loose hf).mp happ).1 ⟨rfl, State.Warmed39.refl s, rfl⟩ trivial
  refine ⟨n, _, h1, h2, h3, hpost _ _ _ _ _ _ ⟨Cond.after_iff.mpr rfl, Cond.after_iff.mpr (eq_i res_at (Term.int_eval (1)) rfl), trivial⟩ ⟨hq.1, hq.2.1, hq.2.2.1, (hq.2.2.2.sift fun y hy => Or.inr (N y hy)).mono (by decide) (by decide)⟩⟩
theorem main_1_1 : Claimed_1_1 := comes_1 fun _ _ _ _ _ _ h hF => ⟨h.1, hF⟩
theorem main_1_2 : Claimed_1_2 := comes_1 fun _ _ _ _ _ _ h hF => ⟨h.2.1, hF⟩
end Jvm.Pilot.@@N@@
namespace Jvm.Pilot.@@N@@
open Jvm Jvm.ClassFile Sem Op Lib Jvm.Free Jvm.Stand Jvm.Pilot.@@N@@.Jvm.D
/-! MADE BY PROGRAM (witnessworld.py) out of the Statement's table words and the real class files: 19 classes; the members and pool entries that the words name. The judged class is class 1, her method 1. -/
namespace start1
open Jvm.ClassFile
def u (s : String) : CpInfo := .utf8 (stringToUtf16 s)
/-- a pool by its gaps: so many unusable entries, then the entry; so many at the end -/
def gap : Nat → List CpInfo → List CpInfo
  | 0, r => r
  | n + 1, r => .unusable :: gap n r
def poolList (es : List (Nat × CpInfo)) (last : Nat) : List CpInfo := es.foldr (fun e r => gap e.1 (e.2 :: r)) (gap last [])
def pool (es : List (Nat × CpInfo)) (last : Nat) : Array CpInfo := ⟨poolList es last⟩
def fileOf (pool : Array CpInfo) (this : Nat) (attrs : Array Attribute := #[]) (ms : Array MethodInfo := #[]) (fl : Nat := 33) (sup : Nat := 0) (ifs : Array Nat := #[]) (fds : Array FieldInfo := #[]) : ClassFile where
  minorVersion := 0
  majorVersion := 65
  constantPool := pool
  accessFlags := fl
  thisClass := this
  superClass := sup
  interfaces := ifs
  fields := fds
  methods := ms
  attributes := attrs
def plain (name : String) (sup : Option ClassId) : Class where
  name := name
  kind := .ordinary
  loader := none
  accessFlags := 33
  super := sup
  interfaces := #[]
  cf := none
  fields := #[]
  methods := #[]
  instanceTypes := #[]
  staticTypes := #[]
  resolved := #[]
  callSites := []
  init := .initialized
  statics := none
  mirror := none

def pool0 : Array CpInfo := pool [(5, u "<init>"), (0, u "()V"), (1, .class_ 10), (1, u "java/lang/Object")] 113

def k0c0 : Code := { maxStack := 0, maxLocals := 1, code := object_method_1_code, exceptionTable := #[], attributes := #[] }
def k0m0 : Method := { name := "<init>", desc := "()V", sig := { parameters := [], returnType := none }, accessFlags := 1, code := some k0c0 }
/-- java/lang/Object -/
def k0 : Class := { plain "java/lang/Object" none with
  accessFlags := 33
  interfaces := #[]
  cf := some (fileOf pool0 8 #[] #[{ accessFlags := 1, nameIndex := 5, descriptorIndex := 6, attributes := #[] }] 33 0 #[] #[])
  fields := #[]
  methods := #[k0m0]
  instanceTypes := #[]
  staticTypes := #[]
  resolved := Array.replicate 124 none
  statics := none }

def pool1 : Array CpInfo := pool [(2, .class_ 4), (1, u "java/lang/Object"), (0, u "<init>"), (0, u "()V"), (0, .methodref 8 9), (0, .class_ 10), (0, .nameAndType 11 12), (0, u "java/lang/Math"), (0, u "min"), (0, u "(II)I"), (0, .methodref 8 14), (0, .nameAndType 15 12), (0, u "max"), (2, .long 9223372036854775807), (1, .class_ 21), (0, u "com/example/pinched_bounds/pinchedbounds/Interval"), (0, .methodref 20 23), (0, .nameAndType 5 24), (0, u "(DD)V"), (0, .methodref 26 27), (0, .class_ 28), (0, .nameAndType 29 30), (0, u "com/example/pinched_bounds/pinchedbounds/Answer"), (0, u "certified"), (0, u "(Lcom/example/pinched_bounds/pinchedbounds/Interval;JJ)Lcom/example/pinched_bounds/pinchedbounds/Answer;"), (0, .double 4611686018427387904), (1, .methodref 26 34), (0, .nameAndType 35 36), (0, u "value"), (0, u "()D"), (0, .methodref 26 38), (0, .nameAndType 39 40), (0, u "interval"), (0, u "()Ljava/util/Optional;"), (0, .methodref 42 43), (0, .class_ 44), (0, .nameAndType 45 46), (0, u "java/util/Optional"), (0, u "orElse"), (0, u "(Ljava/lang/Object;)Ljava/lang/Object;"), (0, .methodref 26 48), (0, .nameAndType 49 50), (0, u "iterations"), (0, u "()J"), (0, .methodref 26 52), (0, .nameAndType 53 50), (0, u "multiplications"), (0, .methodref 26 55), (0, .nameAndType 56 57), (0, u "handedOver"), (0, u "()Z"), (0, .class_ 59), (0, u "com/example/pinched_bounds/pinchedbounds/AnswerCertifiedPinLaw"), (2, u "law"), (0, u "(IIJJ)Z")] 3

def k1m0 : Method := { name := "<init>", desc := "()V", sig := { parameters := [], returnType := none }, accessFlags := 1, code := none }
def k1c1 : Code := { maxStack := 6, maxLocals := 16, code := code, exceptionTable := #[], attributes := #[] }
def k1m1 : Method := { name := "law", desc := "(IIJJ)Z", sig := { parameters := [.int, .int, .long, .long], returnType := some .boolean }, accessFlags := 9, code := some k1c1 }
/-- com/example/pinched_bounds/pinchedbounds/AnswerCertifiedPinLaw -/
def k1 : Class := { plain "com/example/pinched_bounds/pinchedbounds/AnswerCertifiedPinLaw" (some 0) with
  accessFlags := 49
  interfaces := #[]
  cf := some (fileOf pool1 58 #[] #[{ accessFlags := 1, nameIndex := 5, descriptorIndex := 6, attributes := #[] }, { accessFlags := 9, nameIndex := 62, descriptorIndex := 63, attributes := #[] }] 49 2 #[] #[])
  fields := #[]
  methods := #[k1m0, k1m1]
  instanceTypes := #[]
  staticTypes := #[]
  resolved := Array.replicate 67 none
  statics := none }

def pool2 : Array CpInfo := pool [(1, .class_ 2), (0, u "java/lang/Math"), (1, .class_ 6), (1, u "java/lang/Object"), (0, u "<init>"), (0, u "()V"), (43, u "(DD)D"), (45, .class_ 100), (1, u "java/lang/Math$RandomNumberGeneratorHolder"), (71, u "negativeZeroFloatBits"), (0, u "J"), (2, u "negativeZeroDoubleBits"), (21, u "max"), (2, u "min"), (43, u "$assertionsDisabled"), (0, u "Z"), (88, u "(II)I"), (2, u "twoToTheDoubleScaleDown"), (0, u "D"), (4, u "twoToTheDoubleScaleUp"), (9, u "E"), (3, u "PI"), (2, u "TAU"), (2, u "DEGREES_TO_RADIANS"), (0, u "RADIANS_TO_DEGREES")] 94

def k2m0 : Method := { name := "<init>", desc := "()V", sig := { parameters := [], returnType := none }, accessFlags := 2, code := none }
def k2c1 : Code := { maxStack := 2, maxLocals := 2, code := jdk_29_method_65_code, exceptionTable := #[], attributes := #[] }
def k2m1 : Method := { name := "max", desc := "(II)I", sig := { parameters := [.int, .int], returnType := some .int }, accessFlags := 9, code := some k2c1 }
def k2c2 : Code := { maxStack := 4, maxLocals := 4, code := jdk_29_method_68_code, exceptionTable := #[], attributes := #[] }
def k2m2 : Method := { name := "max", desc := "(DD)D", sig := { parameters := [.double, .double], returnType := some .double }, accessFlags := 9, code := some k2c2 }
def k2c3 : Code := { maxStack := 2, maxLocals := 2, code := jdk_29_method_69_code, exceptionTable := #[], attributes := #[] }
def k2m3 : Method := { name := "min", desc := "(II)I", sig := { parameters := [.int, .int], returnType := some .int }, accessFlags := 9, code := some k2c3 }
def k2c4 : Code := { maxStack := 4, maxLocals := 4, code := jdk_29_method_72_code, exceptionTable := #[], attributes := #[] }
def k2m4 : Method := { name := "min", desc := "(DD)D", sig := { parameters := [.double, .double], returnType := some .double }, accessFlags := 9, code := some k2c4 }
/-- java/lang/Math -/
def k2 : Class := { plain "java/lang/Math" (some 0) with
  accessFlags := 49
  interfaces := #[]
  cf := some (fileOf pool2 1 #[.nestMembers #[98]] #[{ accessFlags := 2, nameIndex := 7, descriptorIndex := 8, attributes := #[] }, { accessFlags := 9, nameIndex := 198, descriptorIndex := 335, attributes := #[] }, { accessFlags := 9, nameIndex := 198, descriptorIndex := 52, attributes := #[] }, { accessFlags := 9, nameIndex := 201, descriptorIndex := 335, attributes := #[] }, { accessFlags := 9, nameIndex := 201, descriptorIndex := 52, attributes := #[] }] 49 4 #[] #[{ accessFlags := 25, nameIndex := 354, descriptorIndex := 339, attributes := #[] }, { accessFlags := 25, nameIndex := 358, descriptorIndex := 339, attributes := #[] }, { accessFlags := 25, nameIndex := 361, descriptorIndex := 339, attributes := #[] }, { accessFlags := 26, nameIndex := 364, descriptorIndex := 339, attributes := #[] }, { accessFlags := 26, nameIndex := 365, descriptorIndex := 339, attributes := #[] }, { accessFlags := 26, nameIndex := 172, descriptorIndex := 173, attributes := #[] }, { accessFlags := 26, nameIndex := 176, descriptorIndex := 173, attributes := #[] }, { accessFlags := 8, nameIndex := 344, descriptorIndex := 339, attributes := #[] }, { accessFlags := 8, nameIndex := 338, descriptorIndex := 339, attributes := #[] }, { accessFlags := 4120, nameIndex := 245, descriptorIndex := 246, attributes := #[] }])
  fields := #[{ name := "E", type := .double, accessFlags := 25, slot := 0, constantValue := 0 }, { name := "PI", type := .double, accessFlags := 25, slot := 1, constantValue := 0 }, { name := "TAU", type := .double, accessFlags := 25, slot := 2, constantValue := 0 }, { name := "DEGREES_TO_RADIANS", type := .double, accessFlags := 26, slot := 3, constantValue := 0 }, { name := "RADIANS_TO_DEGREES", type := .double, accessFlags := 26, slot := 4, constantValue := 0 }, { name := "negativeZeroFloatBits", type := .long, accessFlags := 26, slot := 5, constantValue := 0 }, { name := "negativeZeroDoubleBits", type := .long, accessFlags := 26, slot := 6, constantValue := 0 }, { name := "twoToTheDoubleScaleUp", type := .double, accessFlags := 8, slot := 7, constantValue := 0 }, { name := "twoToTheDoubleScaleDown", type := .double, accessFlags := 8, slot := 8, constantValue := 0 }, { name := "$assertionsDisabled", type := .boolean, accessFlags := 4120, slot := 9, constantValue := 0 }]
  methods := #[k2m0, k2m1, k2m2, k2m3, k2m4]
  instanceTypes := #[]
  staticTypes := #[.double, .double, .double, .double, .double, .long, .long, .double, .double, .boolean]
  resolved := Array.replicate 460 none
  statics := none }

def pool3 : Array CpInfo := pool [(1, .methodref 2 3), (0, .class_ 4), (0, .nameAndType 5 6), (0, u "java/lang/Object"), (0, u "<init>"), (0, u "()V"), (0, .class_ 8), (0, u "java/lang/Record")] 13

def k3c0 : Code := { maxStack := 1, maxLocals := 1, code := jdk_30_method_1_code, exceptionTable := #[], attributes := #[] }
def k3m0 : Method := { name := "<init>", desc := "()V", sig := { parameters := [], returnType := none }, accessFlags := 4, code := some k3c0 }
/-- java/lang/Record -/
def k3 : Class := { plain "java/lang/Record" (some 0) with
  accessFlags := 1057
  interfaces := #[]
  cf := some (fileOf pool3 7 #[] #[{ accessFlags := 4, nameIndex := 5, descriptorIndex := 6, attributes := #[] }] 1057 2 #[] #[])
  fields := #[]
  methods := #[k3m0]
  instanceTypes := #[]
  staticTypes := #[]
  resolved := Array.replicate 22 none
  statics := none }

def pool4 : Array CpInfo := pool [(1, .methodref 2 3), (0, .class_ 4), (0, .nameAndType 5 6), (0, u "java/lang/Record"), (0, u "<init>"), (0, u "()V"), (9, .fieldref 17 18), (0, .class_ 19), (0, .nameAndType 20 21), (0, u "com/example/pinched_bounds/pinchedbounds/Interval"), (0, u "lower"), (0, u "D"), (0, .fieldref 17 23), (0, .nameAndType 24 21), (0, u "upper"), (2, u "(DD)V"), (0, .double 4611686018427387904), (1, .methodref 31 32), (0, .class_ 33), (0, .nameAndType 34 35), (0, u "java/lang/Math"), (0, u "max"), (0, u "(DD)D"), (0, .methodref 31 37), (0, .nameAndType 38 35), (0, u "min"), (18, u "value"), (0, u "()D")] 32

def k4c0 : Code := { maxStack := 6, maxLocals := 5, code := prog_6_method_1_code, exceptionTable := #[], attributes := #[] }
def k4m0 : Method := { name := "<init>", desc := "(DD)V", sig := { parameters := [.double, .double], returnType := none }, accessFlags := 1, code := some k4c0 }
def k4c1 : Code := { maxStack := 10, maxLocals := 3, code := prog_6_method_3_code, exceptionTable := #[], attributes := #[] }
def k4m1 : Method := { name := "value", desc := "()D", sig := { parameters := [], returnType := some .double }, accessFlags := 1, code := some k4c1 }
def k4c2 : Code := { maxStack := 2, maxLocals := 1, code := prog_6_method_7_code, exceptionTable := #[], attributes := #[] }
def k4m2 : Method := { name := "lower", desc := "()D", sig := { parameters := [], returnType := some .double }, accessFlags := 1, code := some k4c2 }
def k4c3 : Code := { maxStack := 2, maxLocals := 1, code := prog_6_method_8_code, exceptionTable := #[], attributes := #[] }
def k4m3 : Method := { name := "upper", desc := "()D", sig := { parameters := [], returnType := some .double }, accessFlags := 1, code := some k4c3 }
/-- com/example/pinched_bounds/pinchedbounds/Interval -/
def k4 : Class := { plain "com/example/pinched_bounds/pinchedbounds/Interval" (some 3) with
  accessFlags := 49
  interfaces := #[]
  cf := some (fileOf pool4 17 #[] #[{ accessFlags := 1, nameIndex := 5, descriptorIndex := 27, attributes := #[] }, { accessFlags := 1, nameIndex := 57, descriptorIndex := 58, attributes := #[] }, { accessFlags := 1, nameIndex := 20, descriptorIndex := 58, attributes := #[] }, { accessFlags := 1, nameIndex := 24, descriptorIndex := 58, attributes := #[] }] 49 2 #[] #[{ accessFlags := 18, nameIndex := 20, descriptorIndex := 21, attributes := #[] }, { accessFlags := 18, nameIndex := 24, descriptorIndex := 21, attributes := #[] }])
  fields := #[{ name := "lower", type := .double, accessFlags := 18, slot := 0, constantValue := 0 }, { name := "upper", type := .double, accessFlags := 18, slot := 1, constantValue := 0 }]
  methods := #[k4m0, k4m1, k4m2, k4m3]
  instanceTypes := #[.double, .double]
  staticTypes := #[]
  resolved := Array.replicate 91 none
  statics := none }

def pool5 : Array CpInfo := pool [(1, .methodref 2 3), (0, .class_ 4), (0, .nameAndType 5 6), (0, u "java/lang/Record"), (0, u "<init>"), (0, u "()V"), (0, .string 8), (0, u "interval"), (0, .methodref 10 11), (0, .class_ 12), (0, .nameAndType 13 14), (0, u "java/util/Objects"), (0, u "requireNonNull"), (0, u "(Ljava/lang/Object;Ljava/lang/String;)Ljava/lang/Object;"), (0, .methodref 16 17), (0, .class_ 18), (0, .nameAndType 19 20), (0, u "com/example/pinched_bounds/pinchedbounds/Answer"), (0, u "fits"), (0, u "(DLjava/util/Optional;)Z"), (15, .fieldref 16 37), (0, .nameAndType 38 39), (0, u "value"), (0, u "D"), (0, .fieldref 16 41), (0, .nameAndType 8 42), (0, u "Ljava/util/Optional;"), (0, .fieldref 16 44), (0, .nameAndType 45 46), (0, u "iterations"), (0, u "J"), (0, .fieldref 16 48), (0, .nameAndType 49 46), (0, u "multiplications"), (0, .fieldref 16 51), (0, .nameAndType 52 53), (0, u "handedOver"), (0, u "Z"), (0, .methodref 16 55), (0, .nameAndType 5 56), (0, u "(DLjava/util/Optional;JJZ)V"), (0, .methodref 58 59), (0, .class_ 60), (0, .nameAndType 38 61), (0, u "com/example/pinched_bounds/pinchedbounds/Interval"), (0, u "()D"), (0, .methodref 63 64), (0, .class_ 65), (0, .nameAndType 66 67), (0, u "java/util/Optional"), (0, u "of"), (0, u "(Ljava/lang/Object;)Ljava/util/Optional;"), (0, .methodref 16 69), (0, .nameAndType 5 70), (0, u "(DLjava/util/Optional;JJ)V"), (6, u "certified"), (0, u "(Lcom/example/pinched_bounds/pinchedbounds/Interval;JJ)Lcom/example/pinched_bounds/pinchedbounds/Answer;"), (0, .methodref 63 80), (0, .nameAndType 81 82), (0, u "isPresent"), (0, u "()Z"), (0, .methodref 63 84), (0, .nameAndType 85 86), (0, u "get"), (0, u "()Ljava/lang/Object;"), (0, .methodref 58 88), (0, .nameAndType 89 61), (0, u "lower"), (0, .methodref 58 91), (0, .nameAndType 92 61), (0, u "upper"), (31, u "()Ljava/util/Optional;"), (1, u "()J")] 32

def k5c0 : Code := { maxStack := 9, maxLocals := 9, code := prog_1_method_1_code, exceptionTable := #[], attributes := #[] }
def k5m0 : Method := { name := "<init>", desc := "(DLjava/util/Optional;JJZ)V", sig := { parameters := [.double, (.object "java/util/Optional"), .long, .long, .boolean], returnType := none }, accessFlags := 1, code := some k5c0 }
def k5c1 : Code := { maxStack := 9, maxLocals := 8, code := prog_1_method_2_code, exceptionTable := #[], attributes := #[] }
def k5m1 : Method := { name := "<init>", desc := "(DLjava/util/Optional;JJ)V", sig := { parameters := [.double, (.object "java/util/Optional"), .long, .long], returnType := none }, accessFlags := 1, code := some k5c1 }
def k5c2 : Code := { maxStack := 9, maxLocals := 5, code := prog_1_method_3_code, exceptionTable := #[], attributes := #[] }
def k5m2 : Method := { name := "certified", desc := "(Lcom/example/pinched_bounds/pinchedbounds/Interval;JJ)Lcom/example/pinched_bounds/pinchedbounds/Answer;", sig := { parameters := [(.object "com/example/pinched_bounds/pinchedbounds/Interval"), .long, .long], returnType := some (.object "com/example/pinched_bounds/pinchedbounds/Answer") }, accessFlags := 9, code := some k5c2 }
def k5c3 : Code := { maxStack := 4, maxLocals := 4, code := prog_1_method_5_code, exceptionTable := #[], attributes := #[] }
def k5m3 : Method := { name := "fits", desc := "(DLjava/util/Optional;)Z", sig := { parameters := [.double, (.object "java/util/Optional")], returnType := some .boolean }, accessFlags := 10, code := some k5c3 }
def k5c4 : Code := { maxStack := 2, maxLocals := 1, code := prog_1_method_9_code, exceptionTable := #[], attributes := #[] }
def k5m4 : Method := { name := "value", desc := "()D", sig := { parameters := [], returnType := some .double }, accessFlags := 1, code := some k5c4 }
def k5c5 : Code := { maxStack := 1, maxLocals := 1, code := prog_1_method_10_code, exceptionTable := #[], attributes := #[] }
def k5m5 : Method := { name := "interval", desc := "()Ljava/util/Optional;", sig := { parameters := [], returnType := some (.object "java/util/Optional") }, accessFlags := 1, code := some k5c5 }
def k5c6 : Code := { maxStack := 2, maxLocals := 1, code := prog_1_method_11_code, exceptionTable := #[], attributes := #[] }
def k5m6 : Method := { name := "iterations", desc := "()J", sig := { parameters := [], returnType := some .long }, accessFlags := 1, code := some k5c6 }
def k5c7 : Code := { maxStack := 2, maxLocals := 1, code := prog_1_method_12_code, exceptionTable := #[], attributes := #[] }
def k5m7 : Method := { name := "multiplications", desc := "()J", sig := { parameters := [], returnType := some .long }, accessFlags := 1, code := some k5c7 }
def k5c8 : Code := { maxStack := 1, maxLocals := 1, code := prog_1_method_13_code, exceptionTable := #[], attributes := #[] }
def k5m8 : Method := { name := "handedOver", desc := "()Z", sig := { parameters := [], returnType := some .boolean }, accessFlags := 1, code := some k5c8 }
/-- com/example/pinched_bounds/pinchedbounds/Answer -/
def k5 : Class := { plain "com/example/pinched_bounds/pinchedbounds/Answer" (some 3) with
  accessFlags := 49
  interfaces := #[]
  cf := some (fileOf pool5 16 #[] #[{ accessFlags := 1, nameIndex := 5, descriptorIndex := 56, attributes := #[] }, { accessFlags := 1, nameIndex := 5, descriptorIndex := 70, attributes := #[] }, { accessFlags := 9, nameIndex := 77, descriptorIndex := 78, attributes := #[] }, { accessFlags := 10, nameIndex := 19, descriptorIndex := 20, attributes := #[] }, { accessFlags := 1, nameIndex := 38, descriptorIndex := 61, attributes := #[] }, { accessFlags := 1, nameIndex := 8, descriptorIndex := 124, attributes := #[] }, { accessFlags := 1, nameIndex := 45, descriptorIndex := 126, attributes := #[] }, { accessFlags := 1, nameIndex := 49, descriptorIndex := 126, attributes := #[] }, { accessFlags := 1, nameIndex := 52, descriptorIndex := 82, attributes := #[] }] 49 2 #[] #[{ accessFlags := 18, nameIndex := 38, descriptorIndex := 39, attributes := #[] }, { accessFlags := 18, nameIndex := 8, descriptorIndex := 42, attributes := #[] }, { accessFlags := 18, nameIndex := 45, descriptorIndex := 46, attributes := #[] }, { accessFlags := 18, nameIndex := 49, descriptorIndex := 46, attributes := #[] }, { accessFlags := 18, nameIndex := 52, descriptorIndex := 53, attributes := #[] }])
  fields := #[{ name := "value", type := .double, accessFlags := 18, slot := 0, constantValue := 0 }, { name := "interval", type := (.object "java/util/Optional"), accessFlags := 18, slot := 1, constantValue := 0 }, { name := "iterations", type := .long, accessFlags := 18, slot := 2, constantValue := 0 }, { name := "multiplications", type := .long, accessFlags := 18, slot := 3, constantValue := 0 }, { name := "handedOver", type := .boolean, accessFlags := 18, slot := 4, constantValue := 0 }]
  methods := #[k5m0, k5m1, k5m2, k5m3, k5m4, k5m5, k5m6, k5m7, k5m8]
  instanceTypes := #[.double, (.object "java/util/Optional"), .long, .long, .boolean]
  staticTypes := #[]
  resolved := Array.replicate 159 none
  statics := none }

def pool6 : Array CpInfo := pool [(2, .class_ 4), (1, u "java/util/Optional"), (0, u "EMPTY"), (0, u "Ljava/util/Optional;"), (0, .methodref 8 9), (0, .class_ 10), (0, .nameAndType 11 12), (0, u "java/lang/Object"), (0, u "<init>"), (0, u "()V"), (0, .fieldref 2 14), (0, .nameAndType 15 16), (0, u "value"), (0, u "Ljava/lang/Object;"), (0, .methodref 18 19), (0, .class_ 20), (0, .nameAndType 21 22), (0, u "java/util/Objects"), (0, u "requireNonNull"), (0, u "(Ljava/lang/Object;)Ljava/lang/Object;"), (0, .methodref 2 24), (0, .nameAndType 11 25), (0, u "(Ljava/lang/Object;)V"), (20, u "()Z"), (18, u "(Ljava/lang/Object;)Ljava/util/Optional;"), (2, u "isPresent"), (4, u "get"), (0, u "()Ljava/lang/Object;"), (7, u "of"), (82, u "orElse")] 21

def k6c0 : Code := { maxStack := 2, maxLocals := 2, code := jdk_32_method_2_code, exceptionTable := #[], attributes := #[] }
def k6m0 : Method := { name := "<init>", desc := "(Ljava/lang/Object;)V", sig := { parameters := [(.object "java/lang/Object")], returnType := none }, accessFlags := 2, code := some k6c0 }
def k6c1 : Code := { maxStack := 3, maxLocals := 1, code := jdk_32_method_3_code, exceptionTable := #[], attributes := #[] }
def k6m1 : Method := { name := "of", desc := "(Ljava/lang/Object;)Ljava/util/Optional;", sig := { parameters := [(.object "java/lang/Object")], returnType := some (.object "java/util/Optional") }, accessFlags := 9, code := some k6c1 }
def k6c2 : Code := { maxStack := 3, maxLocals := 1, code := jdk_32_method_5_code, exceptionTable := #[], attributes := #[] }
def k6m2 : Method := { name := "get", desc := "()Ljava/lang/Object;", sig := { parameters := [], returnType := some (.object "java/lang/Object") }, accessFlags := 1, code := some k6c2 }
def k6c3 : Code := { maxStack := 1, maxLocals := 1, code := jdk_32_method_6_code, exceptionTable := #[], attributes := #[] }
def k6m3 : Method := { name := "isPresent", desc := "()Z", sig := { parameters := [], returnType := some .boolean }, accessFlags := 1, code := some k6c3 }
def k6c4 : Code := { maxStack := 1, maxLocals := 2, code := jdk_32_method_15_code, exceptionTable := #[], attributes := #[] }
def k6m4 : Method := { name := "orElse", desc := "(Ljava/lang/Object;)Ljava/lang/Object;", sig := { parameters := [(.object "java/lang/Object")], returnType := some (.object "java/lang/Object") }, accessFlags := 1, code := some k6c4 }
/-- java/util/Optional -/
def k6 : Class := { plain "java/util/Optional" (some 0) with
  accessFlags := 49
  interfaces := #[]
  cf := some (fileOf pool6 2 #[] #[{ accessFlags := 2, nameIndex := 11, descriptorIndex := 25, attributes := #[] }, { accessFlags := 9, nameIndex := 82, descriptorIndex := 65, attributes := #[] }, { accessFlags := 1, nameIndex := 73, descriptorIndex := 74, attributes := #[] }, { accessFlags := 1, nameIndex := 68, descriptorIndex := 46, attributes := #[] }, { accessFlags := 1, nameIndex := 165, descriptorIndex := 22, attributes := #[] }] 49 8 #[] #[{ accessFlags := 26, nameIndex := 5, descriptorIndex := 6, attributes := #[] }, { accessFlags := 18, nameIndex := 15, descriptorIndex := 16, attributes := #[] }])
  fields := #[{ name := "EMPTY", type := (.object "java/util/Optional"), accessFlags := 26, slot := 0, constantValue := 0 }, { name := "value", type := (.object "java/lang/Object"), accessFlags := 18, slot := 0, constantValue := 0 }]
  methods := #[k6m0, k6m1, k6m2, k6m3, k6m4]
  instanceTypes := #[(.object "java/lang/Object")]
  staticTypes := #[(.object "java/util/Optional")]
  resolved := Array.replicate 187 none
  statics := none }

def pool7 : Array CpInfo := pool [(2, .class_ 4), (1, u "java/lang/Object"), (0, u "<init>"), (0, u "()V"), (35, .class_ 44), (1, u "java/util/Objects"), (0, u "requireNonNull"), (0, u "(Ljava/lang/Object;)Ljava/lang/Object;"), (47, u "(Ljava/lang/Object;Ljava/lang/String;)Ljava/lang/Object;")] 89

def k7m0 : Method := { name := "<init>", desc := "()V", sig := { parameters := [], returnType := none }, accessFlags := 2, code := none }
def k7c1 : Code := { maxStack := 2, maxLocals := 1, code := jdk_31_method_10_code, exceptionTable := #[], attributes := #[] }
def k7m1 : Method := { name := "requireNonNull", desc := "(Ljava/lang/Object;)Ljava/lang/Object;", sig := { parameters := [(.object "java/lang/Object")], returnType := some (.object "java/lang/Object") }, accessFlags := 9, code := some k7c1 }
def k7c2 : Code := { maxStack := 3, maxLocals := 2, code := jdk_31_method_11_code, exceptionTable := #[], attributes := #[] }
def k7m2 : Method := { name := "requireNonNull", desc := "(Ljava/lang/Object;Ljava/lang/String;)Ljava/lang/Object;", sig := { parameters := [(.object "java/lang/Object"), (.object "java/lang/String")], returnType := some (.object "java/lang/Object") }, accessFlags := 9, code := some k7c2 }
/-- java/util/Objects -/
def k7 : Class := { plain "java/util/Objects" (some 0) with
  accessFlags := 49
  interfaces := #[]
  cf := some (fileOf pool7 42 #[] #[{ accessFlags := 2, nameIndex := 5, descriptorIndex := 6, attributes := #[] }, { accessFlags := 9, nameIndex := 45, descriptorIndex := 46, attributes := #[] }, { accessFlags := 9, nameIndex := 45, descriptorIndex := 94, attributes := #[] }] 49 2 #[] #[])
  fields := #[]
  methods := #[k7m0, k7m1, k7m2]
  instanceTypes := #[]
  staticTypes := #[]
  resolved := Array.replicate 184 none
  statics := none }

def pool8 : Array CpInfo := pool [(1, .class_ 2), (0, u "java/io/Serializable"), (0, .class_ 4), (0, u "java/lang/Object")] 2

/-- java/io/Serializable -/
def k8 : Class := { plain "java/io/Serializable" (some 0) with
  accessFlags := 1537
  interfaces := #[]
  cf := some (fileOf pool8 1 #[] #[] 1537 3 #[] #[])
  fields := #[]
  methods := #[]
  instanceTypes := #[]
  staticTypes := #[]
  resolved := Array.replicate 7 none
  statics := none }

def pool9 : Array CpInfo := pool [(1, .class_ 2), (0, u "java/lang/Comparable"), (0, .class_ 4), (0, u "java/lang/Object")] 7

/-- java/lang/Comparable -/
def k9 : Class := { plain "java/lang/Comparable" (some 0) with
  accessFlags := 1537
  interfaces := #[]
  cf := some (fileOf pool9 1 #[] #[] 1537 3 #[] #[])
  fields := #[]
  methods := #[]
  instanceTypes := #[]
  staticTypes := #[]
  resolved := Array.replicate 12 none
  statics := none }

def pool10 : Array CpInfo := pool [(2, .class_ 4), (1, u "java/lang/CharSequence"), (42, .class_ 48), (0, u "java/lang/CharSequence$1CodePointIterator"), (10, .class_ 60), (0, u "java/lang/CharSequence$1CharIterator"), (5, .class_ 67), (0, u "java/lang/Object")] 63

/-- java/lang/CharSequence -/
def k10 : Class := { plain "java/lang/CharSequence" (some 0) with
  accessFlags := 1537
  interfaces := #[]
  cf := some (fileOf pool10 2 #[.nestMembers #[47, 59]] #[] 1537 66 #[] #[])
  fields := #[]
  methods := #[]
  instanceTypes := #[]
  staticTypes := #[]
  resolved := Array.replicate 131 none
  statics := none }

def pool11 : Array CpInfo := pool [(1, .class_ 2), (0, u "java/lang/constant/Constable"), (0, .class_ 4), (0, u "java/lang/Object")] 6

/-- java/lang/constant/Constable -/
def k11 : Class := { plain "java/lang/constant/Constable" (some 0) with
  accessFlags := 1537
  interfaces := #[]
  cf := some (fileOf pool11 1 #[] #[] 1537 3 #[] #[])
  fields := #[]
  methods := #[]
  instanceTypes := #[]
  staticTypes := #[]
  resolved := Array.replicate 11 none
  statics := none }

def pool12 : Array CpInfo := pool [(1, .class_ 2), (0, u "java/lang/constant/ConstantDesc"), (0, .class_ 4), (0, u "java/lang/Object")] 32

/-- java/lang/constant/ConstantDesc -/
def k12 : Class := { plain "java/lang/constant/ConstantDesc" (some 0) with
  accessFlags := 1537
  interfaces := #[]
  cf := some (fileOf pool12 1 #[] #[] 1537 3 #[] #[])
  fields := #[]
  methods := #[]
  instanceTypes := #[]
  staticTypes := #[]
  resolved := Array.replicate 37 none
  statics := none }

def pool13 : Array CpInfo := pool [(2, .class_ 4), (1, u "java/lang/Object"), (0, u "<init>"), (0, u "()V"), (3, .class_ 12), (1, u "java/lang/String"), (0, u "value"), (0, u "[B"), (2, u "coder"), (0, u "B"), (2, u "hash"), (0, u "I"), (2, u "hashIsZero"), (0, u "Z"), (13, u "COMPACT_STRINGS"), (534, .class_ 576), (0, u "java/lang/CharSequence"), (22, u "CASE_INSENSITIVE_ORDER"), (0, u "Ljava/util/Comparator;"), (500, u "serialPersistentFields"), (0, u "[Ljava/io/ObjectStreamField;"), (0, .class_ 1104), (0, u "java/lang/String$CaseInsensitiveComparator"), (1, .class_ 1107), (0, u "java/io/Serializable"), (0, .class_ 1109), (0, u "java/lang/Comparable"), (0, .class_ 1111), (0, u "java/lang/constant/Constable"), (0, .class_ 1113), (0, u "java/lang/constant/ConstantDesc"), (2, u "serialVersionUID"), (0, u "J"), (3, u "REPL"), (0, u "C"), (2, u "LATIN1"), (1, u "UTF16")] 323

def k13m0 : Method := { name := "<init>", desc := "()V", sig := { parameters := [], returnType := none }, accessFlags := 1, code := none }
/-- java/lang/String -/
def k13 : Class := { plain "java/lang/String" (some 0) with
  accessFlags := 49
  interfaces := #[8, 9, 10, 11, 12]
  cf := some (fileOf pool13 10 #[.nestMembers #[1103]] #[{ accessFlags := 1, nameIndex := 5, descriptorIndex := 6, attributes := #[] }] 49 2 #[1106, 1108, 575, 1110, 1112] #[{ accessFlags := 18, nameIndex := 13, descriptorIndex := 14, attributes := #[] }, { accessFlags := 18, nameIndex := 17, descriptorIndex := 18, attributes := #[] }, { accessFlags := 2, nameIndex := 21, descriptorIndex := 22, attributes := #[] }, { accessFlags := 2, nameIndex := 25, descriptorIndex := 26, attributes := #[] }, { accessFlags := 26, nameIndex := 1116, descriptorIndex := 1117, attributes := #[] }, { accessFlags := 24, nameIndex := 40, descriptorIndex := 26, attributes := #[] }, { accessFlags := 26, nameIndex := 1101, descriptorIndex := 1102, attributes := #[] }, { accessFlags := 26, nameIndex := 1121, descriptorIndex := 1122, attributes := #[] }, { accessFlags := 25, nameIndex := 599, descriptorIndex := 600, attributes := #[] }, { accessFlags := 24, nameIndex := 1125, descriptorIndex := 18, attributes := #[] }, { accessFlags := 24, nameIndex := 1127, descriptorIndex := 18, attributes := #[] }])
  fields := #[{ name := "value", type := (.array .byte), accessFlags := 18, slot := 0, constantValue := 0 }, { name := "coder", type := .byte, accessFlags := 18, slot := 1, constantValue := 0 }, { name := "hash", type := .int, accessFlags := 2, slot := 2, constantValue := 0 }, { name := "hashIsZero", type := .boolean, accessFlags := 2, slot := 3, constantValue := 0 }, { name := "serialVersionUID", type := .long, accessFlags := 26, slot := 0, constantValue := 0 }, { name := "COMPACT_STRINGS", type := .boolean, accessFlags := 24, slot := 1, constantValue := 0 }, { name := "serialPersistentFields", type := (.array (.object "java/io/ObjectStreamField")), accessFlags := 26, slot := 2, constantValue := 0 }, { name := "REPL", type := .char, accessFlags := 26, slot := 3, constantValue := 0 }, { name := "CASE_INSENSITIVE_ORDER", type := (.object "java/util/Comparator"), accessFlags := 25, slot := 4, constantValue := 0 }, { name := "LATIN1", type := .byte, accessFlags := 24, slot := 5, constantValue := 0 }, { name := "UTF16", type := .byte, accessFlags := 24, slot := 6, constantValue := 0 }]
  methods := #[k13m0]
  instanceTypes := #[(.array .byte), .byte, .int, .boolean]
  staticTypes := #[.long, .boolean, (.array (.object "java/io/ObjectStreamField")), .char, (.object "java/util/Comparator"), .byte, .byte]
  resolved := Array.replicate 1451 none
  statics := none }

def pool14 : Array CpInfo := pool [(1, u "java/lang/Cloneable"), (0, .class_ 1), (0, u "java/lang/Object"), (0, .class_ 3)] 3

/-- java/lang/Cloneable -/
def k14 : Class := { plain "java/lang/Cloneable" (some 0) with
  accessFlags := 1537
  interfaces := #[]
  cf := some (fileOf pool14 2 #[] #[] 1537 4 #[] #[])
  fields := #[]
  methods := #[]
  instanceTypes := #[]
  staticTypes := #[]
  resolved := Array.replicate 8 none
  statics := none }

/-- the primitive byte -/
def k15 : Class := { plain "byte" none with kind := .primitive 'B', accessFlags := 0x411 }
/-- [B -/
def k16 : Class := { plain "[B" (some 0) with kind := .array 15 .byte, interfaces := #[14, 8], accessFlags := 1041 }

/-- the primitive int -/
def k17 : Class := { plain "int" none with kind := .primitive 'I', accessFlags := 0x411 }
/-- [I -/
def k18 : Class := { plain "[I" (some 0) with kind := .array 17 .int, interfaces := #[14, 8], accessFlags := 1041 }

def heap : Heap := #[]
def classes : Array Class := #[k0, k1, k2, k3, k4, k5, k6, k7, k8, k9, k10, k11, k12, k13, k14, k15, k16, k17, k18]
def interned : List (Array UInt16 × Addr) := []
def slotsUsed : Nat := 0
def theMethod : MethodId := ⟨1, 1⟩
def args0 : Array Value := #[.int 7, .int 5, .long 1, .long 2]
def aboutOver (below : List Frame) : State where
  vm := { classes := classes, interned := interned.toArray }
  heap := heap
  slotsUsed := slotsUsed
  threads := #[{ frames := .invoking theMethod args0 :: below }]
def below0 : List Frame := [.native { method := ⟨0, 0⟩, args := #[] }]
def about1 : State := aboutOver below0
def p0 : Program := .bare "" "" ""
def e0 : Env := launch0.env 0 0 0
theorem w_frames : about1.frames = Frame.invoking theMethod args0 :: below0 := rfl
set_option maxRecDepth 65536 in
theorem w_args : argsFit about1.vm theMethod args0 = true := by decide +kernel
set_option maxRecDepth 65536 in
theorem w_heap : heapFits about1 = true := by decide +kernel
set_option maxRecDepth 65536 in
theorem w_runnable : about1.curStatus? = some .runnable := by decide +kernel
set_option maxRecDepth 65536 in
theorem w_alone : about1.alone = true := by decide +kernel
set_option maxRecDepth 65536 in
theorem w_named : about1.methodNamed? x = some theMethod := by decide +kernel
set_option maxRecDepth 65536 in
theorem w_hears : about1.hears theMethod below0 = true := by decide +kernel
set_option maxRecDepth 65536 in
theorem w_ripe : about1.ripe theMethod args0 below0 = true := by decide +kernel
theorem w_running : about1.status = .running := rfl
set_option maxRecDepth 65536 in
theorem w_room : about1.hasRoom e0.platform room_1 = true :=
  launch0.hasRoom_least _ room_1 (by decide +kernel) (by decide +kernel) (by decide +kernel) (by decide +kernel) (by decide +kernel) (by decide +kernel)
theorem allAtoms_all (ts : List Jvm.Cond) (a : Array Jvm.Value) (st : Jvm.State) : (allAtoms ts).before a st = ts.all (fun c => c.before a st) := by
  induction ts with
  | nil => rfl
  | cons c t ih =>
    show (Jvm.Cond.and c (allAtoms t)).before a st = _
    rw [Jvm.Cond.before_and, ih, List.all_cons]
def words1 : List Jvm.Cond := Jvm.Cond.code x code maxLocals ret :: tables_1
/-- a 'code' word, met by the world's own term for the bytes: nothing is compared byte by byte -/
theorem code_word {y : MethodName} {bytes : ByteArray} {mx : Nat} {rt : Option FieldType} {a : Array Value} {s : State} {m : MethodId} {meth : Method} {c : Code} (h1 : s.methodNamed? y = some m) (h2 : s.vm.method? m = some meth) (h3 : meth.code = some c) (h4 : c.code = bytes)
    (h5 : (c.maxLocals == mx && c.exceptionTable.isEmpty && decide (c.maxStack ≤ mostOperands) && decide (meth.sig.returnType = rt) && !meth.locks && decide (parseMethodDescriptor y.desc = some meth.sig)) = true) : (Jvm.Cond.code y bytes mx rt).before a s = true := by
  simp only [Bool.and_eq_true, beq_iff_eq, Bool.not_eq_true', decide_eq_true_eq] at h5
  obtain ⟨⟨⟨⟨⟨g1, g2⟩, g3⟩, g4⟩, g5⟩, g6⟩ := h5
  simp [Cond.before, Cond.holds, Cond.value, h1, h2, h3, h4, g1, g2, g3, g4, g5, g6]
def isCode : Jvm.Cond → Bool
  | .code _ _ _ _ => true
  | _ => false
theorem all_split {L : List Jvm.Cond} {P : Jvm.Cond → Bool} (h1 : L.all (fun c => isCode c || P c) = true) (h2 : ∀ c ∈ L.filter isCode, P c = true) : L.all P = true := by
  refine List.all_eq_true.mpr fun c hc => ?_
  have h := List.all_eq_true.mp h1 c hc
  rcases Bool.eq_false_or_eq_true (isCode c) with hi | hi
  · exact h2 c (List.mem_filter.mpr ⟨hc, hi⟩)
  · simpa [hi] using h
set_option maxRecDepth 65536 in
theorem w_c0 : (Jvm.Cond.code x code maxLocals ret).before args0 about1 = true := code_word (m := ⟨1, 1⟩) (meth := k1m1) (c := k1c1) (by decide +kernel) rfl rfl rfl (by decide +kernel)
set_option maxRecDepth 65536 in
theorem w_c1 : (Jvm.Cond.code ({ cls := "java/lang/Math", name := "min", desc := "(II)I" } : Jvm.MethodName) jdk_29_method_69_code (2 : Nat) (Option.some Jvm.ClassFile.FieldType.int)).before args0 about1 = true := code_word (m := ⟨2, 3⟩) (meth := k2m3) (c := k2c3) (by decide +kernel) rfl rfl rfl (by decide +kernel)
set_option maxRecDepth 65536 in
theorem w_c2 : (Jvm.Cond.code ({ cls := "java/lang/Math", name := "max", desc := "(II)I" } : Jvm.MethodName) jdk_29_method_65_code (2 : Nat) (Option.some Jvm.ClassFile.FieldType.int)).before args0 about1 = true := code_word (m := ⟨2, 1⟩) (meth := k2m1) (c := k2c1) (by decide +kernel) rfl rfl rfl (by decide +kernel)
set_option maxRecDepth 65536 in
theorem w_c3 : (Jvm.Cond.code ({ cls := "com/example/pinched_bounds/pinchedbounds/Interval", name := "<init>", desc := "(DD)V" } : Jvm.MethodName) prog_6_method_1_code (5 : Nat) (Option.none : Option Jvm.ClassFile.FieldType)).before args0 about1 = true := code_word (m := ⟨4, 0⟩) (meth := k4m0) (c := k4c0) (by decide +kernel) rfl rfl rfl (by decide +kernel)
set_option maxRecDepth 65536 in
theorem w_c4 : (Jvm.Cond.code ({ cls := "java/lang/Record", name := "<init>", desc := "()V" } : Jvm.MethodName) jdk_30_method_1_code (1 : Nat) (Option.none : Option Jvm.ClassFile.FieldType)).before args0 about1 = true := code_word (m := ⟨3, 0⟩) (meth := k3m0) (c := k3c0) (by decide +kernel) rfl rfl rfl (by decide +kernel)
set_option maxRecDepth 65536 in
theorem w_c5 : (Jvm.Cond.code ({ cls := "java/lang/Object", name := "<init>", desc := "()V" } : Jvm.MethodName) object_method_1_code (1 : Nat) (Option.none : Option Jvm.ClassFile.FieldType)).before args0 about1 = true := code_word (m := ⟨0, 0⟩) (meth := k0m0) (c := k0c0) (by decide +kernel) rfl rfl rfl (by decide +kernel)
set_option maxRecDepth 65536 in
theorem w_c6 : (Jvm.Cond.code ({ cls := "com/example/pinched_bounds/pinchedbounds/Answer", name := "certified", desc := "(Lcom/example/pinched_bounds/pinchedbounds/Interval;JJ)Lcom/example/pinched_bounds/pinchedbounds/Answer;" } : Jvm.MethodName) prog_1_method_3_code (5 : Nat) (Option.some (Jvm.ClassFile.FieldType.object "com/example/pinched_bounds/pinchedbounds/Answer"))).before args0 about1 = true := code_word (m := ⟨5, 2⟩) (meth := k5m2) (c := k5c2) (by decide +kernel) rfl rfl rfl (by decide +kernel)
set_option maxRecDepth 65536 in
theorem w_c7 : (Jvm.Cond.code ({ cls := "com/example/pinched_bounds/pinchedbounds/Interval", name := "value", desc := "()D" } : Jvm.MethodName) prog_6_method_3_code (3 : Nat) (Option.some Jvm.ClassFile.FieldType.double)).before args0 about1 = true := code_word (m := ⟨4, 1⟩) (meth := k4m1) (c := k4c1) (by decide +kernel) rfl rfl rfl (by decide +kernel)
set_option maxRecDepth 65536 in
theorem w_c8 : (Jvm.Cond.code ({ cls := "java/lang/Math", name := "max", desc := "(DD)D" } : Jvm.MethodName) jdk_29_method_68_code (4 : Nat) (Option.some Jvm.ClassFile.FieldType.double)).before args0 about1 = true := code_word (m := ⟨2, 2⟩) (meth := k2m2) (c := k2c2) (by decide +kernel) rfl rfl rfl (by decide +kernel)
set_option maxRecDepth 65536 in
theorem w_c9 : (Jvm.Cond.code ({ cls := "java/lang/Math", name := "min", desc := "(DD)D" } : Jvm.MethodName) jdk_29_method_72_code (4 : Nat) (Option.some Jvm.ClassFile.FieldType.double)).before args0 about1 = true := code_word (m := ⟨2, 4⟩) (meth := k2m4) (c := k2c4) (by decide +kernel) rfl rfl rfl (by decide +kernel)
set_option maxRecDepth 65536 in
theorem w_c10 : (Jvm.Cond.code ({ cls := "java/util/Optional", name := "of", desc := "(Ljava/lang/Object;)Ljava/util/Optional;" } : Jvm.MethodName) jdk_32_method_3_code (1 : Nat) (Option.some (Jvm.ClassFile.FieldType.object "java/util/Optional"))).before args0 about1 = true := code_word (m := ⟨6, 1⟩) (meth := k6m1) (c := k6c1) (by decide +kernel) rfl rfl rfl (by decide +kernel)
set_option maxRecDepth 65536 in
theorem w_c11 : (Jvm.Cond.code ({ cls := "java/util/Objects", name := "requireNonNull", desc := "(Ljava/lang/Object;)Ljava/lang/Object;" } : Jvm.MethodName) jdk_31_method_10_code (1 : Nat) (Option.some (Jvm.ClassFile.FieldType.object "java/lang/Object"))).before args0 about1 = true := code_word (m := ⟨7, 1⟩) (meth := k7m1) (c := k7c1) (by decide +kernel) rfl rfl rfl (by decide +kernel)
set_option maxRecDepth 65536 in
theorem w_c12 : (Jvm.Cond.code ({ cls := "java/util/Optional", name := "<init>", desc := "(Ljava/lang/Object;)V" } : Jvm.MethodName) jdk_32_method_2_code (2 : Nat) (Option.none : Option Jvm.ClassFile.FieldType)).before args0 about1 = true := code_word (m := ⟨6, 0⟩) (meth := k6m0) (c := k6c0) (by decide +kernel) rfl rfl rfl (by decide +kernel)
set_option maxRecDepth 65536 in
theorem w_c13 : (Jvm.Cond.code ({ cls := "com/example/pinched_bounds/pinchedbounds/Answer", name := "<init>", desc := "(DLjava/util/Optional;JJ)V" } : Jvm.MethodName) prog_1_method_2_code (8 : Nat) (Option.none : Option Jvm.ClassFile.FieldType)).before args0 about1 = true := code_word (m := ⟨5, 1⟩) (meth := k5m1) (c := k5c1) (by decide +kernel) rfl rfl rfl (by decide +kernel)
set_option maxRecDepth 65536 in
theorem w_c14 : (Jvm.Cond.code ({ cls := "com/example/pinched_bounds/pinchedbounds/Answer", name := "<init>", desc := "(DLjava/util/Optional;JJZ)V" } : Jvm.MethodName) prog_1_method_1_code (9 : Nat) (Option.none : Option Jvm.ClassFile.FieldType)).before args0 about1 = true := code_word (m := ⟨5, 0⟩) (meth := k5m0) (c := k5c0) (by decide +kernel) rfl rfl rfl (by decide +kernel)
set_option maxRecDepth 65536 in
theorem w_c15 : (Jvm.Cond.code ({ cls := "java/util/Objects", name := "requireNonNull", desc := "(Ljava/lang/Object;Ljava/lang/String;)Ljava/lang/Object;" } : Jvm.MethodName) jdk_31_method_11_code (2 : Nat) (Option.some (Jvm.ClassFile.FieldType.object "java/lang/Object"))).before args0 about1 = true := code_word (m := ⟨7, 2⟩) (meth := k7m2) (c := k7c2) (by decide +kernel) rfl rfl rfl (by decide +kernel)
set_option maxRecDepth 65536 in
theorem w_c16 : (Jvm.Cond.code ({ cls := "com/example/pinched_bounds/pinchedbounds/Answer", name := "fits", desc := "(DLjava/util/Optional;)Z" } : Jvm.MethodName) prog_1_method_5_code (4 : Nat) (Option.some Jvm.ClassFile.FieldType.boolean)).before args0 about1 = true := code_word (m := ⟨5, 3⟩) (meth := k5m3) (c := k5c3) (by decide +kernel) rfl rfl rfl (by decide +kernel)
set_option maxRecDepth 65536 in
theorem w_c17 : (Jvm.Cond.code ({ cls := "java/util/Optional", name := "isPresent", desc := "()Z" } : Jvm.MethodName) jdk_32_method_6_code (1 : Nat) (Option.some Jvm.ClassFile.FieldType.boolean)).before args0 about1 = true := code_word (m := ⟨6, 3⟩) (meth := k6m3) (c := k6c3) (by decide +kernel) rfl rfl rfl (by decide +kernel)
set_option maxRecDepth 65536 in
theorem w_c18 : (Jvm.Cond.code ({ cls := "java/util/Optional", name := "get", desc := "()Ljava/lang/Object;" } : Jvm.MethodName) jdk_32_method_5_code (1 : Nat) (Option.some (Jvm.ClassFile.FieldType.object "java/lang/Object"))).before args0 about1 = true := code_word (m := ⟨6, 2⟩) (meth := k6m2) (c := k6c2) (by decide +kernel) rfl rfl rfl (by decide +kernel)
set_option maxRecDepth 65536 in
theorem w_c19 : (Jvm.Cond.code ({ cls := "com/example/pinched_bounds/pinchedbounds/Interval", name := "lower", desc := "()D" } : Jvm.MethodName) prog_6_method_7_code (1 : Nat) (Option.some Jvm.ClassFile.FieldType.double)).before args0 about1 = true := code_word (m := ⟨4, 2⟩) (meth := k4m2) (c := k4c2) (by decide +kernel) rfl rfl rfl (by decide +kernel)
set_option maxRecDepth 65536 in
theorem w_c20 : (Jvm.Cond.code ({ cls := "com/example/pinched_bounds/pinchedbounds/Interval", name := "upper", desc := "()D" } : Jvm.MethodName) prog_6_method_8_code (1 : Nat) (Option.some Jvm.ClassFile.FieldType.double)).before args0 about1 = true := code_word (m := ⟨4, 3⟩) (meth := k4m3) (c := k4c3) (by decide +kernel) rfl rfl rfl (by decide +kernel)
set_option maxRecDepth 65536 in
theorem w_c21 : (Jvm.Cond.code ({ cls := "com/example/pinched_bounds/pinchedbounds/Answer", name := "value", desc := "()D" } : Jvm.MethodName) prog_1_method_9_code (1 : Nat) (Option.some Jvm.ClassFile.FieldType.double)).before args0 about1 = true := code_word (m := ⟨5, 4⟩) (meth := k5m4) (c := k5c4) (by decide +kernel) rfl rfl rfl (by decide +kernel)
set_option maxRecDepth 65536 in
theorem w_c22 : (Jvm.Cond.code ({ cls := "com/example/pinched_bounds/pinchedbounds/Answer", name := "interval", desc := "()Ljava/util/Optional;" } : Jvm.MethodName) prog_1_method_10_code (1 : Nat) (Option.some (Jvm.ClassFile.FieldType.object "java/util/Optional"))).before args0 about1 = true := code_word (m := ⟨5, 5⟩) (meth := k5m5) (c := k5c5) (by decide +kernel) rfl rfl rfl (by decide +kernel)
set_option maxRecDepth 65536 in
theorem w_c23 : (Jvm.Cond.code ({ cls := "java/util/Optional", name := "orElse", desc := "(Ljava/lang/Object;)Ljava/lang/Object;" } : Jvm.MethodName) jdk_32_method_15_code (2 : Nat) (Option.some (Jvm.ClassFile.FieldType.object "java/lang/Object"))).before args0 about1 = true := code_word (m := ⟨6, 4⟩) (meth := k6m4) (c := k6c4) (by decide +kernel) rfl rfl rfl (by decide +kernel)
set_option maxRecDepth 65536 in
theorem w_c24 : (Jvm.Cond.code ({ cls := "com/example/pinched_bounds/pinchedbounds/Answer", name := "iterations", desc := "()J" } : Jvm.MethodName) prog_1_method_11_code (1 : Nat) (Option.some Jvm.ClassFile.FieldType.long)).before args0 about1 = true := code_word (m := ⟨5, 6⟩) (meth := k5m6) (c := k5c6) (by decide +kernel) rfl rfl rfl (by decide +kernel)
set_option maxRecDepth 65536 in
theorem w_c25 : (Jvm.Cond.code ({ cls := "com/example/pinched_bounds/pinchedbounds/Answer", name := "multiplications", desc := "()J" } : Jvm.MethodName) prog_1_method_12_code (1 : Nat) (Option.some Jvm.ClassFile.FieldType.long)).before args0 about1 = true := code_word (m := ⟨5, 7⟩) (meth := k5m7) (c := k5c7) (by decide +kernel) rfl rfl rfl (by decide +kernel)
set_option maxRecDepth 65536 in
theorem w_c26 : (Jvm.Cond.code ({ cls := "com/example/pinched_bounds/pinchedbounds/Answer", name := "handedOver", desc := "()Z" } : Jvm.MethodName) prog_1_method_13_code (1 : Nat) (Option.some Jvm.ClassFile.FieldType.boolean)).before args0 about1 = true := code_word (m := ⟨5, 8⟩) (meth := k5m8) (c := k5c8) (by decide +kernel) rfl rfl rfl (by decide +kernel)
def codes1 : List Jvm.Cond := [Jvm.Cond.code x code maxLocals ret, Jvm.Cond.code ({ cls := "java/lang/Math", name := "min", desc := "(II)I" } : Jvm.MethodName) jdk_29_method_69_code (2 : Nat) (Option.some Jvm.ClassFile.FieldType.int), Jvm.Cond.code ({ cls := "java/lang/Math", name := "max", desc := "(II)I" } : Jvm.MethodName) jdk_29_method_65_code (2 : Nat) (Option.some Jvm.ClassFile.FieldType.int), Jvm.Cond.code ({ cls := "com/example/pinched_bounds/pinchedbounds/Interval", name := "<init>", desc := "(DD)V" } : Jvm.MethodName) prog_6_method_1_code (5 : Nat) (Option.none : Option Jvm.ClassFile.FieldType), Jvm.Cond.code ({ cls := "java/lang/Record", name := "<init>", desc := "()V" } : Jvm.MethodName) jdk_30_method_1_code (1 : Nat) (Option.none : Option Jvm.ClassFile.FieldType), Jvm.Cond.code ({ cls := "java/lang/Object", name := "<init>", desc := "()V" } : Jvm.MethodName) object_method_1_code (1 : Nat) (Option.none : Option Jvm.ClassFile.FieldType), Jvm.Cond.code ({ cls := "com/example/pinched_bounds/pinchedbounds/Answer", name := "certified", desc := "(Lcom/example/pinched_bounds/pinchedbounds/Interval;JJ)Lcom/example/pinched_bounds/pinchedbounds/Answer;" } : Jvm.MethodName) prog_1_method_3_code (5 : Nat) (Option.some (Jvm.ClassFile.FieldType.object "com/example/pinched_bounds/pinchedbounds/Answer")), Jvm.Cond.code ({ cls := "com/example/pinched_bounds/pinchedbounds/Interval", name := "value", desc := "()D" } : Jvm.MethodName) prog_6_method_3_code (3 : Nat) (Option.some Jvm.ClassFile.FieldType.double), Jvm.Cond.code ({ cls := "java/lang/Math", name := "max", desc := "(DD)D" } : Jvm.MethodName) jdk_29_method_68_code (4 : Nat) (Option.some Jvm.ClassFile.FieldType.double), Jvm.Cond.code ({ cls := "java/lang/Math", name := "min", desc := "(DD)D" } : Jvm.MethodName) jdk_29_method_72_code (4 : Nat) (Option.some Jvm.ClassFile.FieldType.double), Jvm.Cond.code ({ cls := "java/util/Optional", name := "of", desc := "(Ljava/lang/Object;)Ljava/util/Optional;" } : Jvm.MethodName) jdk_32_method_3_code (1 : Nat) (Option.some (Jvm.ClassFile.FieldType.object "java/util/Optional")), Jvm.Cond.code ({ cls := "java/util/Objects", name := "requireNonNull", desc := "(Ljava/lang/Object;)Ljava/lang/Object;" } : Jvm.MethodName) jdk_31_method_10_code (1 : Nat) (Option.some (Jvm.ClassFile.FieldType.object "java/lang/Object")), Jvm.Cond.code ({ cls := "java/util/Optional", name := "<init>", desc := "(Ljava/lang/Object;)V" } : Jvm.MethodName) jdk_32_method_2_code (2 : Nat) (Option.none : Option Jvm.ClassFile.FieldType), Jvm.Cond.code ({ cls := "com/example/pinched_bounds/pinchedbounds/Answer", name := "<init>", desc := "(DLjava/util/Optional;JJ)V" } : Jvm.MethodName) prog_1_method_2_code (8 : Nat) (Option.none : Option Jvm.ClassFile.FieldType), Jvm.Cond.code ({ cls := "com/example/pinched_bounds/pinchedbounds/Answer", name := "<init>", desc := "(DLjava/util/Optional;JJZ)V" } : Jvm.MethodName) prog_1_method_1_code (9 : Nat) (Option.none : Option Jvm.ClassFile.FieldType), Jvm.Cond.code ({ cls := "java/util/Objects", name := "requireNonNull", desc := "(Ljava/lang/Object;Ljava/lang/String;)Ljava/lang/Object;" } : Jvm.MethodName) jdk_31_method_11_code (2 : Nat) (Option.some (Jvm.ClassFile.FieldType.object "java/lang/Object")), Jvm.Cond.code ({ cls := "com/example/pinched_bounds/pinchedbounds/Answer", name := "fits", desc := "(DLjava/util/Optional;)Z" } : Jvm.MethodName) prog_1_method_5_code (4 : Nat) (Option.some Jvm.ClassFile.FieldType.boolean), Jvm.Cond.code ({ cls := "java/util/Optional", name := "isPresent", desc := "()Z" } : Jvm.MethodName) jdk_32_method_6_code (1 : Nat) (Option.some Jvm.ClassFile.FieldType.boolean), Jvm.Cond.code ({ cls := "java/util/Optional", name := "get", desc := "()Ljava/lang/Object;" } : Jvm.MethodName) jdk_32_method_5_code (1 : Nat) (Option.some (Jvm.ClassFile.FieldType.object "java/lang/Object")), Jvm.Cond.code ({ cls := "com/example/pinched_bounds/pinchedbounds/Interval", name := "lower", desc := "()D" } : Jvm.MethodName) prog_6_method_7_code (1 : Nat) (Option.some Jvm.ClassFile.FieldType.double), Jvm.Cond.code ({ cls := "com/example/pinched_bounds/pinchedbounds/Interval", name := "upper", desc := "()D" } : Jvm.MethodName) prog_6_method_8_code (1 : Nat) (Option.some Jvm.ClassFile.FieldType.double), Jvm.Cond.code ({ cls := "com/example/pinched_bounds/pinchedbounds/Answer", name := "value", desc := "()D" } : Jvm.MethodName) prog_1_method_9_code (1 : Nat) (Option.some Jvm.ClassFile.FieldType.double), Jvm.Cond.code ({ cls := "com/example/pinched_bounds/pinchedbounds/Answer", name := "interval", desc := "()Ljava/util/Optional;" } : Jvm.MethodName) prog_1_method_10_code (1 : Nat) (Option.some (Jvm.ClassFile.FieldType.object "java/util/Optional")), Jvm.Cond.code ({ cls := "java/util/Optional", name := "orElse", desc := "(Ljava/lang/Object;)Ljava/lang/Object;" } : Jvm.MethodName) jdk_32_method_15_code (2 : Nat) (Option.some (Jvm.ClassFile.FieldType.object "java/lang/Object")), Jvm.Cond.code ({ cls := "com/example/pinched_bounds/pinchedbounds/Answer", name := "iterations", desc := "()J" } : Jvm.MethodName) prog_1_method_11_code (1 : Nat) (Option.some Jvm.ClassFile.FieldType.long), Jvm.Cond.code ({ cls := "com/example/pinched_bounds/pinchedbounds/Answer", name := "multiplications", desc := "()J" } : Jvm.MethodName) prog_1_method_12_code (1 : Nat) (Option.some Jvm.ClassFile.FieldType.long), Jvm.Cond.code ({ cls := "com/example/pinched_bounds/pinchedbounds/Answer", name := "handedOver", desc := "()Z" } : Jvm.MethodName) prog_1_method_13_code (1 : Nat) (Option.some Jvm.ClassFile.FieldType.boolean)]
set_option maxRecDepth 65536 in
theorem codes_eq : words1.filter isCode = codes1 := rfl
theorem w_codes : ∀ c ∈ words1.filter isCode, c.before args0 about1 = true := by
  rw [codes_eq]
  intro c hc
  simp only [codes1, List.mem_cons, List.not_mem_nil, or_false] at hc
  rcases hc with rfl | rfl | rfl | rfl | rfl | rfl | rfl | rfl | rfl | rfl | rfl | rfl | rfl | rfl | rfl | rfl | rfl | rfl | rfl | rfl | rfl | rfl | rfl | rfl | rfl | rfl | rfl
  · exact w_c0
  · exact w_c1
  · exact w_c2
  · exact w_c3
  · exact w_c4
  · exact w_c5
  · exact w_c6
  · exact w_c7
  · exact w_c8
  · exact w_c9
  · exact w_c10
  · exact w_c11
  · exact w_c12
  · exact w_c13
  · exact w_c14
  · exact w_c15
  · exact w_c16
  · exact w_c17
  · exact w_c18
  · exact w_c19
  · exact w_c20
  · exact w_c21
  · exact w_c22
  · exact w_c23
  · exact w_c24
  · exact w_c25
  · exact w_c26
set_option maxRecDepth 65536 in
theorem w_t1 : (words1.take 24).all (fun c => isCode c || c.before args0 about1) = true := by decide +kernel
set_option maxRecDepth 65536 in
theorem w_t2 : ((words1.drop 24).take 24).all (fun c => isCode c || c.before args0 about1) = true := by decide +kernel
set_option maxRecDepth 65536 in
theorem w_t3 : (((words1.drop 24).drop 24).take 24).all (fun c => isCode c || c.before args0 about1) = true := by decide +kernel
set_option maxRecDepth 65536 in
theorem w_t4 : ((((words1.drop 24).drop 24).drop 24).take 24).all (fun c => isCode c || c.before args0 about1) = true := by decide +kernel
set_option maxRecDepth 65536 in
theorem w_t5 : (((((words1.drop 24).drop 24).drop 24).drop 24).take 24).all (fun c => isCode c || c.before args0 about1) = true := by decide +kernel
set_option maxRecDepth 65536 in
theorem w_t6 : ((((((words1.drop 24).drop 24).drop 24).drop 24).drop 24).take 24).all (fun c => isCode c || c.before args0 about1) = true := by decide +kernel
set_option maxRecDepth 65536 in
theorem w_t7 : ((((((words1.drop 24).drop 24).drop 24).drop 24).drop 24).drop 24).all (fun c => isCode c || c.before args0 about1) = true := by decide +kernel
theorem w_tables : (allAtoms (Jvm.Cond.code x code maxLocals ret :: tables_1)).before args0 about1 = true := by
  rw [allAtoms_all]
  show words1.all (fun c => c.before args0 about1) = true
  refine all_split ?_ w_codes
  rw [← List.take_append_drop 24 words1, List.all_append, w_t1, ← List.take_append_drop 24 (words1.drop 24), List.all_append, w_t2, ← List.take_append_drop 24 ((words1.drop 24).drop 24), List.all_append, w_t3, ← List.take_append_drop 24 (((words1.drop 24).drop 24).drop 24), List.all_append, w_t4, ← List.take_append_drop 24 ((((words1.drop 24).drop 24).drop 24).drop 24), List.all_append, w_t5, ← List.take_append_drop 24 (((((words1.drop 24).drop 24).drop 24).drop 24).drop 24), List.all_append, w_t6, w_t7]
  rfl
set_option maxRecDepth 65536 in
theorem w_case : (Jvm.Cond.and given_1 narrow_1).before args0 about1 = true := by decide +kernel
theorem w_applies : (headSpec (Jvm.Cond.code x code maxLocals ret :: tables_1) room_1).applies x e0.platform about1 = true :=
  (Spec.applies_iff w_frames).mpr ⟨w_running, w_runnable, w_alone, w_named, w_hears, w_ripe, w_room, w_tables⟩
theorem atStart : AtStart classFile x code maxLocals ret World_1 tables_1 room_1 Calls_1 rest_1 Pre_1 launch0 p0 e0 about1 theMethod args0 below0 :=
  ⟨lists_1, trivial, launch0.admits_env _ _ _, launch0.least_env, fairChoices_fair.cas, fairChoices_fair.clock, w_frames, w_args, w_heap, w_applies, trivial, trivial, w_case⟩
end start1
theorem witness_1 : WitnessClaimed_1 := ⟨start1.p0, start1.e0, start1.about1, start1.theMethod, start1.args0, start1.below0, start1.atStart⟩
end Jvm.Pilot.@@N@@
