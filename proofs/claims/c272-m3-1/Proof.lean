import JvmDerived
import JvmDerived.Pilot.@@N@@Statement
import JvmDerived.Pilot.@@N@@Code
set_option linter.unusedVariables false
set_option linter.unusedSimpArgs false
namespace Jvm.OwnFP
open Jvm.FP.Core
/-! own layer over the library's laws of doubles: values in units of the least double (zval), dyadic values, rounding bounds -/
abbrev zv (a : UInt64) : Int := zval b64 (val64 a)
theorem U_pos : (0 : Int) < (one64 : Int) := by have := one64_pos; omega
theorem signed_bd (s : Bool) (m : Nat) : -(m : Int) ≤ signed s m ∧ signed s m ≤ (m : Int) := by unfold signed; split <;> omega
theorem zv_bd (a : UInt64) : -(zmag b64 (val64 a) : Int) ≤ zv a ∧ zv a ≤ (zmag b64 (val64 a) : Int) := signed_bd _ _
theorem fin_between {a V W : UInt64} (hV : DFin V) (hW : DFin W) (hn : val64 a ≠ .nan) (h1 : zv W ≤ zv a) (h2 : zv a ≤ zv V) : DFin a := by
  cases hd : val64 a with
  | nan => exact absurd hd hn
  | fin s c q => exact ⟨s, c, q, hd⟩
  | inf s =>
    exfalso
    have a1 := hV.zval_lt; have a2 := hW.zval_lt
    have b1 := zv_bd V; have b2 := zv_bd W
    have e : zv a = signed s (b64.tails * 2 ^ (b64.exps - 2)) := by show zval b64 (val64 a) = _; rw [hd]; rfl
    generalize b64.tails * 2 ^ (b64.exps - 2) = TOP at a1 a2 e
    cases s
    · have : zv a = (TOP : Int) := e
      omega
    · have : zv a = -(TOP : Int) := e
      omega
theorem qmax_b64 : b64.qmax = 971 := by decide
theorem rep_exists (n : Int) (k : Nat) (hk : k ≤ 1074) (hn : n.natAbs < 2 ^ 53) : ∃ V, DFin V ∧ zv V * 2 ^ k = n * (one64 : Int) := by
  obtain ⟨c', q', h1, h2⟩ := round_exact (f := b64) good_b64 (decide (n < 0)) (c := n.natAbs) (q := -(k : Int)) hn (by rw [qmin_b64]; omega) (by rw [qmax_b64]; omega)
  have hf := round_fits good_b64 (.fin (decide (n < 0)) n.natAbs (-(k : Int)))
  have hv := val64_of64 hf
  rw [h1] at hv
  refine ⟨of64 (round b64 (.fin (decide (n < 0)) n.natAbs (-(k : Int)))), ⟨_, _, _, by rw [h1]; exact hv⟩, ?_⟩
  show zval b64 (val64 (of64 (round b64 (.fin (decide (n < 0)) n.natAbs (-(k : Int)))))) * 2 ^ k = _
  rw [h1, hv]
  show signed (decide (n < 0)) (inUnits c' q' b64.qmin) * 2 ^ k = _
  rw [h2]
  have e1 : inUnits n.natAbs (-(k : Int)) b64.qmin * 2 ^ k = n.natAbs * one64 := by
    unfold inUnits one64
    rw [qmin_b64, Nat.mul_assoc, ← Nat.pow_add]
    congr 2 <;> omega
  have e2 : signed (decide (n < 0)) (inUnits n.natAbs (-(k : Int)) b64.qmin) * ((2 ^ k : Nat) : Int) = signed (decide (n < 0)) n.natAbs * (one64 : Int) := by
    rw [← signed_mul, e1, signed_mul]
  have e3 : signed (decide (n < 0)) n.natAbs = n := by
    unfold signed
    by_cases h : n < 0
    · simp [h]; omega
    · simp [h]; omega
  rw [e3] at e2
  rw [← e2, Int.natCast_pow]; rfl
theorem rep_up (n : Int) (j : Nat) (hj : j ≤ 971) (hn : n.natAbs < 2 ^ 53) : ∃ V, DFin V ∧ zv V = n * 2 ^ j * (one64 : Int) := by
  obtain ⟨c', q', h1, h2⟩ := round_exact (f := b64) good_b64 (decide (n < 0)) (c := n.natAbs) (q := (j : Int)) hn (by rw [qmin_b64]; omega) (by rw [qmax_b64]; omega)
  have hf := round_fits good_b64 (.fin (decide (n < 0)) n.natAbs (j : Int))
  have hv := val64_of64 hf
  rw [h1] at hv
  refine ⟨of64 (round b64 (.fin (decide (n < 0)) n.natAbs (j : Int))), ⟨_, _, _, by rw [h1]; exact hv⟩, ?_⟩
  show zval b64 (val64 (of64 (round b64 (.fin (decide (n < 0)) n.natAbs (j : Int))))) = _
  rw [h1, hv]
  show signed (decide (n < 0)) (inUnits c' q' b64.qmin) = _
  rw [h2]
  have e1 : inUnits n.natAbs (j : Int) b64.qmin = n.natAbs * (2 ^ j * one64) := by
    unfold inUnits one64
    rw [qmin_b64, ← Nat.pow_add]
    congr 2 <;> omega
  have e3 : signed (decide (n < 0)) n.natAbs = n := by
    unfold signed
    by_cases h : n < 0
    · simp [h]; omega
    · simp [h]; omega
  rw [e1, signed_mul, e3, Int.natCast_mul, Int.natCast_pow, Int.mul_assoc]; rfl
/-- the double is finite and worth n / 2^k -/
def Dy (n : Int) (k : Nat) (a : UInt64) : Prop := DFin a ∧ zv a * 2 ^ k = n * (one64 : Int)
theorem two_pos (k : Nat) : (0 : Int) < 2 ^ k := Int.pow_pos (by decide)
theorem Dy.fin {n : Int} {k : Nat} {a : UInt64} (h : Dy n k a) : DFin a := h.1
theorem Dy.nn {n : Int} {k : Nat} {a : UInt64} (h : Dy n k a) : val64 a ≠ .nan := h.1.ne_nan
theorem dint_fin {i : Int} {a : UInt64} (h : DInt i a) : DFin a := by
  unfold DInt at h
  cases hd : val64 a with
  | nan => rw [hd] at h; exact h.elim
  | inf s => rw [hd] at h; exact h.elim
  | fin s c q => exact ⟨s, c, q, hd⟩
theorem Dy.of_int {i : Int} {a : UInt64} (h : DInt i a) : Dy i 0 a := ⟨dint_fin h, by rw [show zv a = i * (one64 : Int) from DInt_zval h]; simp⟩
theorem dy_i2d (a : Int32) : Dy a.toInt 0 (i2d a) := Dy.of_int (i2d_int a)
theorem dy_l2d {a : Int64} (h : a.toInt.natAbs ≤ 2 ^ 53) : Dy a.toInt 0 (l2d a) := Dy.of_int (l2d_int h)
theorem dy_zero : Dy 0 0 0 := ⟨⟨_, _, _, val64_zero⟩, by rw [show zv 0 = 0 from zval64_zero]; simp⟩
theorem dy_one : Dy 1 0 4607182418800017408 := Dy.of_int dint_one
theorem Dy.up {n : Int} {k : Nat} {a : UInt64} (h : Dy n k a) (j : Nat) : Dy (n * 2 ^ j) (k + j) a := ⟨h.1, by rw [Int.pow_add, ← Int.mul_assoc, h.2]; (generalize one64 = U; ac_rfl)⟩
theorem cancel {x y : Int} {k : Nat} (h : x * 2 ^ k = y * 2 ^ k) : x = y := Int.eq_of_mul_eq_mul_right (Int.ne_of_gt (two_pos k)) h
theorem Dy.eq {n : Int} {k : Nat} {a b : UInt64} (ha : Dy n k a) (hb : Dy n k b) : zv a = zv b := cancel (ha.2.trans hb.2.symm)
theorem val_dneg (a : UInt64) (h : val64 a ≠ .nan) : val64 (Jvm.FP.dneg a) = negate (val64 a) := by
  refine val64_neg_bits ?_
  have hx : (Jvm.FP.dneg a).toNat = a.toNat ^^^ 2 ^ 63 := by
    show (a ^^^ 0x8000000000000000).toNat = _
    rw [UInt64.toNat_xor]; rfl
  have hlt := a.toNat_lt
  by_cases hb : a.toNat < 2 ^ 63
  · right
    rw [hx, Nat.xor_comm]
    have := Nat.two_pow_add_eq_or_of_lt hb 1
    have e2 : (2 ^ 63 ^^^ a.toNat) = 2 ^ 63 + a.toNat := by
      rw [Nat.mul_one] at this
      rw [this]
      apply Nat.eq_of_testBit_eq; intro i
      simp only [Nat.testBit_xor, Nat.testBit_or, Nat.testBit_two_pow]
      by_cases q : 63 = i
      · subst q; simp [Nat.testBit_lt_two_pow hb]
      · simp [q]
    omega
  · left
    have hb' : a.toNat - 2 ^ 63 < 2 ^ 63 := by omega
    have := Nat.two_pow_add_eq_or_of_lt hb' 1
    rw [Nat.mul_one] at this
    have e0 : a.toNat = 2 ^ 63 ||| (a.toNat - 2 ^ 63) := by omega
    have e2 : a.toNat ^^^ 2 ^ 63 = a.toNat - 2 ^ 63 := by
      apply Nat.eq_of_testBit_eq; intro i
      rw [Nat.testBit_xor, Nat.testBit_two_pow]
      have t := congrArg (fun z => z.testBit i) e0
      simp only [Nat.testBit_or, Nat.testBit_two_pow] at t
      rw [t]
      by_cases q : 63 = i
      · subst q; simp [Nat.testBit_lt_two_pow hb']
      · simp [q]
    omega
theorem dneg_fin {a : UInt64} (h : DFin a) : DFin (Jvm.FP.dneg a) := by
  obtain ⟨s, c, q, e⟩ := h
  exact ⟨!s, c, q, by rw [val_dneg a (by rw [e]; exact nofun), e]; rfl⟩
theorem dneg_zv {a : UInt64} (h : val64 a ≠ .nan) : zv (Jvm.FP.dneg a) = -zv a := by
  show zval b64 (val64 (Jvm.FP.dneg a)) = _
  rw [val_dneg a h, zval_negate]
theorem dy_neg {n : Int} {k : Nat} {a : UInt64} (h : Dy n k a) : Dy (-n) k (Jvm.FP.dneg a) := ⟨dneg_fin h.1, by rw [dneg_zv h.nn, Int.neg_mul, h.2, Int.neg_mul]⟩
theorem cneg_fin {a : UInt64} (h : DFin a) : DFin (dneg a) := by
  obtain ⟨s, c, q, e⟩ := h
  exact ⟨!s, c, q, by rw [val64_dneg, e]; rfl⟩
theorem cneg_zv (a : UInt64) : zv (dneg a) = -zv a := by
  show zval b64 (val64 (dneg a)) = _
  rw [val64_dneg, zval_negate]
-- sums
theorem add_nn {a b : UInt64} (ha : DFin a) (hb : DFin b) : val64 (dadd a b) ≠ .nan := (notNaN_iff _).mp (dadd_out ha.notNaN hb)
theorem add_le {a b V : UInt64} (ha : DFin a) (hb : DFin b) (hV : val64 V ≠ .nan) (h : zv a + zv b ≤ zv V) : zv (dadd a b) ≤ zv V := by
  show zval b64 (val64 (dadd a b)) ≤ _
  rw [val64_dadd]
  exact sum_le good_b64 ha hb (val64_fits a) (val64_fits b) (val64_fits V) hV h
theorem add_ge {a b V : UInt64} (ha : DFin a) (hb : DFin b) (hV : val64 V ≠ .nan) (h : zv V ≤ zv a + zv b) : zv V ≤ zv (dadd a b) := by
  show _ ≤ zval b64 (val64 (dadd a b))
  rw [val64_dadd]
  exact sum_ge good_b64 ha hb (val64_fits a) (val64_fits b) (val64_fits V) hV h
theorem add_exact {a b V : UInt64} (ha : DFin a) (hb : DFin b) (hV : DFin V) (h : zv a + zv b = zv V) : DFin (dadd a b) ∧ zv (dadd a b) = zv V := by
  have h1 := add_le ha hb hV.ne_nan (Int.le_of_eq h)
  have h2 := add_ge ha hb hV.ne_nan (Int.le_of_eq h.symm)
  exact ⟨fin_between hV hV (add_nn ha hb) h2 h1, Int.le_antisymm h1 h2⟩
theorem dy_add {n m : Int} {k : Nat} {a b : UInt64} (ha : Dy n k a) (hb : Dy m k b) (hk : k ≤ 1074) (h : (n + m).natAbs < 2 ^ 53) : Dy (n + m) k (dadd a b) := by
  obtain ⟨V, hV, e⟩ := rep_exists (n + m) k hk h
  have q : zv a + zv b = zv V := cancel (k := k) (by rw [Int.add_mul, ha.2, hb.2, e, Int.add_mul])
  obtain ⟨h1, h2⟩ := add_exact ha.1 hb.1 hV q
  exact ⟨h1, by rw [h2]; exact e⟩
theorem dy_sub {n m : Int} {k : Nat} {a b : UInt64} (ha : Dy n k a) (hb : Dy m k b) (hk : k ≤ 1074) (h : (n - m).natAbs < 2 ^ 53) : Dy (n - m) k (dsub a b) := by
  rw [dsub_eq]
  have hb' : Dy (-m) k (dneg b) := ⟨cneg_fin hb.1, by rw [cneg_zv, Int.neg_mul, hb.2, Int.neg_mul]⟩
  have := dy_add ha hb' hk (by rw [← Int.sub_eq_add_neg]; exact h)
  rw [← Int.sub_eq_add_neg] at this; exact this
-- products
theorem mul_nn {a b : UInt64} (ha : DFin a) (hb : DFin b) : val64 (dmul a b) ≠ .nan := (notNaN_iff _).mp (dmul_out ha hb)
theorem mul_units {a b : UInt64} (ha : DFin a) (hb : DFin b) : ∃ s c q, exactProduct (val64 a) (val64 b) = .fin s c q ∧ 2 * b64.qmin ≤ q ∧ signed s (inUnits c q (2 * b64.qmin)) = zv a * zv b := by
  obtain ⟨s, c, q, ea⟩ := ha
  obtain ⟨t, d, r, eb⟩ := hb
  have fa := val64_fits a; have fb := val64_fits b
  rw [ea] at fa; rw [eb] at fb
  obtain ⟨h1, h2, h3⟩ := product_units fa fb
  refine ⟨_, _, _, by rw [ea, eb]; exact h1, h2, ?_⟩
  rw [h3, signed_xor]
  show _ = zval b64 (val64 a) * zval b64 (val64 b)
  rw [ea, eb]; rfl
theorem two_qmin : (b64.qmin - 2 * b64.qmin).toNat = (-b64.qmin).toNat := by congr 1 <;> omega
theorem mul_le {a b V : UInt64} (ha : DFin a) (hb : DFin b) (hV : val64 V ≠ .nan) (h : zv a * zv b ≤ zv V * (one64 : Int)) : zv (dmul a b) ≤ zv V := by
  obtain ⟨s, c, q, e1, e2, e3⟩ := mul_units ha hb
  show zval b64 (val64 (dmul a b)) ≤ zval b64 (val64 V)
  rw [val64_dmul, e1]
  refine zval_round_le good_b64 (val64_fits V) hV (e0 := 2 * b64.qmin) (by rw [qmin_b64]; decide) e2 ?_
  rw [e3, two_qmin, pow_qmin64]; exact h
theorem mul_ge {a b V : UInt64} (ha : DFin a) (hb : DFin b) (hV : val64 V ≠ .nan) (h : zv V * (one64 : Int) ≤ zv a * zv b) : zv V ≤ zv (dmul a b) := by
  obtain ⟨s, c, q, e1, e2, e3⟩ := mul_units ha hb
  show zval b64 (val64 V) ≤ zval b64 (val64 (dmul a b))
  rw [val64_dmul, e1]
  refine zval_round_ge good_b64 (val64_fits V) hV (e0 := 2 * b64.qmin) (by rw [qmin_b64]; decide) e2 ?_
  rw [e3, two_qmin, pow_qmin64]; exact h
theorem mul_exact {a b V : UInt64} (ha : DFin a) (hb : DFin b) (hV : DFin V) (h : zv a * zv b = zv V * (one64 : Int)) : DFin (dmul a b) ∧ zv (dmul a b) = zv V := by
  have h1 := mul_le ha hb hV.ne_nan (Int.le_of_eq h)
  have h2 := mul_ge ha hb hV.ne_nan (Int.le_of_eq h.symm)
  exact ⟨fin_between hV hV (mul_nn ha hb) h2 h1, Int.le_antisymm h1 h2⟩
theorem dy_mul {n m : Int} {k j : Nat} {a b : UInt64} (ha : Dy n k a) (hb : Dy m j b) (hk : k + j ≤ 1074) (h : (n * m).natAbs < 2 ^ 53) : Dy (n * m) (k + j) (dmul a b) := by
  obtain ⟨V, hV, e⟩ := rep_exists (n * m) (k + j) hk h
  have q : zv a * zv b = zv V * (one64 : Int) := cancel (k := k + j) (by
    have : zv a * zv b * 2 ^ (k + j) = (zv a * 2 ^ k) * (zv b * 2 ^ j) := by rw [Int.pow_add]; (generalize one64 = U; ac_rfl)
    rw [this, ha.2, hb.2, show zv V * (one64 : Int) * 2 ^ (k + j) = zv V * 2 ^ (k + j) * (one64 : Int) by (generalize one64 = U; ac_rfl), e]; (generalize one64 = U; ac_rfl))
  obtain ⟨h1, h2⟩ := mul_exact ha.1 hb.1 hV q
  exact ⟨h1, by rw [h2]; exact e⟩
-- quotients
theorem nz_of {b : UInt64} (hb : DFin b) (h : zv b ≠ 0) : ¬ DZero b := fun q => h q.zval
theorem div_nn {a b : UInt64} (ha : DFin a) (hb : DFin b) (h : zv b ≠ 0) : val64 (ddiv a b) ≠ .nan := (notNaN_iff _).mp (ddiv_out ha.notNaN hb (nz_of hb h))
theorem div_pows {q r e0 : Int} (hq : b64.qmin ≤ q) (hr : b64.qmin ≤ r) (h0 : e0 ≤ b64.qmin) (h1 : e0 ≤ q - r) :
    2 ^ (q - r - e0).toNat * 2 ^ (r - b64.qmin).toNat = 2 ^ (q - b64.qmin).toNat * one64 * 2 ^ (b64.qmin - e0).toNat := by
  unfold one64
  rw [← Nat.pow_add, ← Nat.pow_add, ← Nat.pow_add]
  rw [qmin_b64] at *
  congr 1 <;> omega
theorem div_val {a b : UInt64} {s t : Bool} {c d : Nat} {q r : Int} (ea : val64 a = .fin s c q) (eb : val64 b = .fin t d r) (hd : d ≠ 0) : val64 (ddiv a b) = roundRatio b64 (s != t) c d (q - r) := by
  rw [val64_ddiv, ea, eb]
  simp [quotient, hd]
theorem div_mag_le {a b V : UInt64} (ha : DFin a) (hb : DFin b) (hz : zmag b64 (val64 b) ≠ 0) (hV : val64 V ≠ .nan) (h : zmag b64 (val64 a) * one64 ≤ zmag b64 (val64 V) * zmag b64 (val64 b)) : zmag b64 (val64 (ddiv a b)) ≤ zmag b64 (val64 V) := by
  obtain ⟨s, c, q, ea⟩ := ha
  obtain ⟨t, d, r, eb⟩ := hb
  have fa := val64_fits a; have fb := val64_fits b
  rw [ea] at fa; rw [eb] at fb
  have za : zmag b64 (val64 a) = c * 2 ^ (q - b64.qmin).toNat := by rw [ea]; rfl
  have zb : zmag b64 (val64 b) = d * 2 ^ (r - b64.qmin).toNat := by rw [eb]; rfl
  have hd : d ≠ 0 := fun q => hz (by rw [zb, q, Nat.zero_mul])
  rw [div_val ea eb hd]
  have hp := div_pows (e0 := min b64.qmin (q - r)) fa.2.1 fb.2.1 (by omega) (by omega)
  refine zmag_roundRatio_le good_b64 (Nat.pos_of_ne_zero hd) (val64_fits V) hV (e0 := min b64.qmin (q - r)) (by omega) (by omega) ?_
  rw [za, zb] at h
  generalize zmag b64 (val64 V) = v at h ⊢
  unfold inUnits
  refine Nat.le_of_mul_le_mul_right (c := 2 ^ (r - b64.qmin).toNat) ?_ (Nat.two_pow_pos _)
  rw [Nat.mul_assoc, hp]
  have := Nat.mul_le_mul_right (2 ^ (b64.qmin - min b64.qmin (q - r)).toNat) h
  calc c * (2 ^ (q - b64.qmin).toNat * one64 * 2 ^ (b64.qmin - min b64.qmin (q - r)).toNat) = c * 2 ^ (q - b64.qmin).toNat * one64 * 2 ^ (b64.qmin - min b64.qmin (q - r)).toNat := by (generalize one64 = U; ac_rfl)
    _ ≤ _ := this
    _ = v * 2 ^ (b64.qmin - min b64.qmin (q - r)).toNat * d * 2 ^ (r - b64.qmin).toNat := by (generalize one64 = U; ac_rfl)
theorem div_mag_ge {a b V : UInt64} (ha : DFin a) (hb : DFin b) (hz : zmag b64 (val64 b) ≠ 0) (hV : val64 V ≠ .nan) (h : zmag b64 (val64 V) * zmag b64 (val64 b) ≤ zmag b64 (val64 a) * one64) : zmag b64 (val64 V) ≤ zmag b64 (val64 (ddiv a b)) := by
  obtain ⟨s, c, q, ea⟩ := ha
  obtain ⟨t, d, r, eb⟩ := hb
  have fa := val64_fits a; have fb := val64_fits b
  rw [ea] at fa; rw [eb] at fb
  have za : zmag b64 (val64 a) = c * 2 ^ (q - b64.qmin).toNat := by rw [ea]; rfl
  have zb : zmag b64 (val64 b) = d * 2 ^ (r - b64.qmin).toNat := by rw [eb]; rfl
  have hd : d ≠ 0 := fun q => hz (by rw [zb, q, Nat.zero_mul])
  rw [div_val ea eb hd]
  have hp := div_pows (e0 := min b64.qmin (q - r)) fa.2.1 fb.2.1 (by omega) (by omega)
  refine zmag_roundRatio_ge good_b64 (Nat.pos_of_ne_zero hd) (val64_fits V) (e0 := min b64.qmin (q - r)) (by omega) (by omega) ?_
  rw [za, zb] at h
  generalize zmag b64 (val64 V) = v at h ⊢
  unfold inUnits
  refine Nat.le_of_mul_le_mul_right (c := 2 ^ (r - b64.qmin).toNat) ?_ (Nat.two_pow_pos _)
  rw [Nat.mul_assoc c, hp]
  have := Nat.mul_le_mul_right (2 ^ (b64.qmin - min b64.qmin (q - r)).toNat) h
  calc v * 2 ^ (b64.qmin - min b64.qmin (q - r)).toNat * d * 2 ^ (r - b64.qmin).toNat = v * (d * 2 ^ (r - b64.qmin).toNat) * 2 ^ (b64.qmin - min b64.qmin (q - r)).toNat := by (generalize one64 = U; ac_rfl)
    _ ≤ _ := this
    _ = c * (2 ^ (q - b64.qmin).toNat * one64 * 2 ^ (b64.qmin - min b64.qmin (q - r)).toNat) := by (generalize one64 = U; ac_rfl)
theorem div_sgn {a b : UInt64} (ha : DFin a) (hb : DFin b) (hz : zmag b64 (val64 b) ≠ 0) : sgn (val64 (ddiv a b)) = (sgn (val64 a) != sgn (val64 b)) := by
  obtain ⟨s, c, q, ea⟩ := ha
  obtain ⟨t, d, r, eb⟩ := hb
  have zb : zmag b64 (val64 b) = d * 2 ^ (r - b64.qmin).toNat := by rw [eb]; rfl
  have hd : d ≠ 0 := fun q => hz (by rw [zb, q, Nat.zero_mul])
  rw [div_val ea eb hd, sgn_roundRatio, ea, eb]; rfl
theorem zv_cases (a : UInt64) : (sgn (val64 a) = false ∧ zv a = (zmag b64 (val64 a) : Int)) ∨ (sgn (val64 a) = true ∧ zv a = -(zmag b64 (val64 a) : Int)) := by
  show (_ ∧ signed _ _ = _) ∨ (_ ∧ signed _ _ = _)
  cases sgn (val64 a) <;> simp [signed]
theorem nat_mul_le {a b c d : Nat} (h : (a : Int) * (b : Int) ≤ (c : Int) * (d : Int)) : a * b ≤ c * d := by
  rw [← Int.natCast_mul, ← Int.natCast_mul] at h; exact Int.ofNat_le.mp h
theorem div_le {a b V : UInt64} (ha : DFin a) (hb : DFin b) (hp : 0 < zv b) (hV : val64 V ≠ .nan) (h : zv a * (one64 : Int) ≤ zv V * zv b) : zv (ddiv a b) ≤ zv V := by
  have ub := zv_bd b
  have hz : zmag b64 (val64 b) ≠ 0 := by omega
  have eb : sgn (val64 b) = false ∧ zv b = (zmag b64 (val64 b) : Int) := by rcases zv_cases b with q | q; exact q; omega
  have es := div_sgn ha hb hz
  rw [eb.1] at es
  have hU := U_pos
  rcases zv_cases a with ⟨sa, ea⟩ | ⟨sa, ea⟩ <;> rw [sa] at es
  · have er : zv (ddiv a b) = (zmag b64 (val64 (ddiv a b)) : Int) := by rcases zv_cases (ddiv a b) with q | q; exact q.2; rw [q.1] at es; cases es
    rcases zv_cases V with ⟨sv, ev⟩ | ⟨sv, ev⟩
    · have := div_mag_le ha hb hz hV (nat_mul_le (by rw [← ea, ← ev, ← eb.2]; exact h))
      omega
    · have h0 : 0 ≤ zv a * (one64 : Int) := Int.mul_nonneg (by omega) (by omega)
      have h1 : 0 ≤ zv V * zv b := Int.le_trans h0 h
      have h2 : zv V = 0 := by
        by_cases q : zv V < 0
        · have := Int.mul_neg_of_neg_of_pos q hp; omega
        · omega
      have h3 : zmag b64 (val64 V) = 0 := by omega
      rw [h2, Int.zero_mul] at h
      have h5 : zmag b64 (val64 a) * one64 ≤ zmag b64 (val64 V) * zmag b64 (val64 b) := nat_mul_le (by rw [← ea, h3]; simpa using h)
      have := div_mag_le ha hb hz hV h5
      omega
  · have er : zv (ddiv a b) = -(zmag b64 (val64 (ddiv a b)) : Int) := by rcases zv_cases (ddiv a b) with q | q; rw [q.1] at es; cases es; exact q.2
    rcases zv_cases V with ⟨sv, ev⟩ | ⟨sv, ev⟩
    · omega
    · have := div_mag_ge ha hb hz hV (nat_mul_le (by
        have : zv V * zv b = -((zmag b64 (val64 V) : Int) * (zmag b64 (val64 b) : Int)) := by rw [ev, eb.2, Int.neg_mul]
        have h6 : zv a * (one64 : Int) = -((zmag b64 (val64 a) : Int) * (one64 : Int)) := by rw [ea, Int.neg_mul]
        omega))
      omega
theorem div_ge {a b V : UInt64} (ha : DFin a) (hb : DFin b) (hp : 0 < zv b) (hV : val64 V ≠ .nan) (h : zv V * zv b ≤ zv a * (one64 : Int)) : zv V ≤ zv (ddiv a b) := by
  have ub := zv_bd b
  have hz : zmag b64 (val64 b) ≠ 0 := by omega
  have eb : sgn (val64 b) = false ∧ zv b = (zmag b64 (val64 b) : Int) := by rcases zv_cases b with q | q; exact q; omega
  have es := div_sgn ha hb hz
  rw [eb.1] at es
  have hU := U_pos
  rcases zv_cases a with ⟨sa, ea⟩ | ⟨sa, ea⟩ <;> rw [sa] at es
  · have er : zv (ddiv a b) = (zmag b64 (val64 (ddiv a b)) : Int) := by rcases zv_cases (ddiv a b) with q | q; exact q.2; rw [q.1] at es; cases es
    rcases zv_cases V with ⟨sv, ev⟩ | ⟨sv, ev⟩
    · have := div_mag_ge ha hb hz hV (nat_mul_le (by rw [← ea, ← ev, ← eb.2]; exact h))
      omega
    · omega
  · have er : zv (ddiv a b) = -(zmag b64 (val64 (ddiv a b)) : Int) := by rcases zv_cases (ddiv a b) with q | q; rw [q.1] at es; cases es; exact q.2
    rcases zv_cases V with ⟨sv, ev⟩ | ⟨sv, ev⟩
    · have h0 : zv a * (one64 : Int) ≤ 0 := Int.mul_nonpos_of_nonpos_of_nonneg (by omega) (by omega)
      have h1 : zv V * zv b ≤ 0 := Int.le_trans h h0
      have h2 : zv V = 0 := by
        by_cases q : 0 < zv V
        · have := Int.mul_pos q hp; omega
        · omega
      have h3 : zmag b64 (val64 V) = 0 := by omega
      rw [h2, Int.zero_mul] at h
      have h4 : (zmag b64 (val64 a) : Int) * (one64 : Int) = -(zv a * (one64 : Int)) := by rw [ea, Int.neg_mul, Int.neg_neg]
      have h5 : zmag b64 (val64 a) * one64 ≤ zmag b64 (val64 V) * zmag b64 (val64 b) := nat_mul_le (by rw [h4, h3]; simp; omega)
      have := div_mag_le ha hb hz hV h5
      omega
    · have := div_mag_le ha hb hz hV (nat_mul_le (by
        have : zv V * zv b = -((zmag b64 (val64 V) : Int) * (zmag b64 (val64 b) : Int)) := by rw [ev, eb.2, Int.neg_mul]
        have h6 : zv a * (one64 : Int) = -((zmag b64 (val64 a) : Int) * (one64 : Int)) := by rw [ea, Int.neg_mul]
        omega))
      omega
theorem Dy.pos {m : Int} {j : Nat} {b : UInt64} (hb : Dy m j b) (hm : 0 < m) : 0 < zv b := by
  have h1 : 0 < zv b * 2 ^ j := by rw [hb.2]; exact Int.mul_pos hm U_pos
  exact Int.pos_of_mul_pos_left h1 (two_pos j)
theorem div_le_dy {n m q : Int} {k j i : Nat} {a b : UInt64} (ha : Dy n k a) (hb : Dy m j b) (hm : 0 < m) (hi : i ≤ 1074) (hq : q.natAbs < 2 ^ 53) (h : n * 2 ^ j * 2 ^ i ≤ q * m * 2 ^ k) : zv (ddiv a b) * 2 ^ i ≤ q * (one64 : Int) := by
  obtain ⟨V, hV, e⟩ := rep_exists q i hi hq
  rw [← e]
  refine Int.mul_le_mul_of_nonneg_right (div_le ha.1 hb.1 (hb.pos hm) hV.ne_nan ?_) (Int.le_of_lt (two_pos i))
  have hU := U_pos
  refine Int.le_of_mul_le_mul_right (a := 2 ^ k * 2 ^ j * 2 ^ i) ?_ (Int.mul_pos (Int.mul_pos (two_pos k) (two_pos j)) (two_pos i))
  have e1 : zv a * (one64 : Int) * (2 ^ k * 2 ^ j * 2 ^ i) = n * 2 ^ j * 2 ^ i * ((one64 : Int) * (one64 : Int)) := by
    rw [show zv a * (one64 : Int) * (2 ^ k * 2 ^ j * 2 ^ i) = zv a * 2 ^ k * ((one64 : Int) * 2 ^ j * 2 ^ i) by (generalize one64 = U; ac_rfl), ha.2]; (generalize one64 = U; ac_rfl)
  have e2 : zv V * zv b * (2 ^ k * 2 ^ j * 2 ^ i) = q * m * 2 ^ k * ((one64 : Int) * (one64 : Int)) := by
    rw [show zv V * zv b * (2 ^ k * 2 ^ j * 2 ^ i) = (zv V * 2 ^ i) * (zv b * 2 ^ j) * 2 ^ k by (generalize one64 = U; ac_rfl), e, hb.2]; (generalize one64 = U; ac_rfl)
  rw [e1, e2]
  exact Int.mul_le_mul_of_nonneg_right h (Int.le_of_lt (Int.mul_pos hU hU))
theorem div_ge_dy {n m q : Int} {k j i : Nat} {a b : UInt64} (ha : Dy n k a) (hb : Dy m j b) (hm : 0 < m) (hi : i ≤ 1074) (hq : q.natAbs < 2 ^ 53) (h : q * m * 2 ^ k ≤ n * 2 ^ j * 2 ^ i) : q * (one64 : Int) ≤ zv (ddiv a b) * 2 ^ i := by
  obtain ⟨V, hV, e⟩ := rep_exists q i hi hq
  rw [← e]
  refine Int.mul_le_mul_of_nonneg_right (div_ge ha.1 hb.1 (hb.pos hm) hV.ne_nan ?_) (Int.le_of_lt (two_pos i))
  have hU := U_pos
  refine Int.le_of_mul_le_mul_right (a := 2 ^ k * 2 ^ j * 2 ^ i) ?_ (Int.mul_pos (Int.mul_pos (two_pos k) (two_pos j)) (two_pos i))
  have e1 : zv a * (one64 : Int) * (2 ^ k * 2 ^ j * 2 ^ i) = n * 2 ^ j * 2 ^ i * ((one64 : Int) * (one64 : Int)) := by
    rw [show zv a * (one64 : Int) * (2 ^ k * 2 ^ j * 2 ^ i) = zv a * 2 ^ k * ((one64 : Int) * 2 ^ j * 2 ^ i) by (generalize one64 = U; ac_rfl), ha.2]; (generalize one64 = U; ac_rfl)
  have e2 : zv V * zv b * (2 ^ k * 2 ^ j * 2 ^ i) = q * m * 2 ^ k * ((one64 : Int) * (one64 : Int)) := by
    rw [show zv V * zv b * (2 ^ k * 2 ^ j * 2 ^ i) = (zv V * 2 ^ i) * (zv b * 2 ^ j) * 2 ^ k by (generalize one64 = U; ac_rfl), e, hb.2]; (generalize one64 = U; ac_rfl)
  rw [e1, e2]
  exact Int.mul_le_mul_of_nonneg_right h (Int.le_of_lt (Int.mul_pos hU hU))
theorem dy_div {n m q : Int} {k j i : Nat} {a b : UInt64} (ha : Dy n k a) (hb : Dy m j b) (hm : 0 < m) (hi : i ≤ 1074) (hq : q.natAbs < 2 ^ 53) (h : n * 2 ^ j * 2 ^ i = q * m * 2 ^ k) : Dy q i (ddiv a b) := by
  have h1 := div_le_dy ha hb hm hi hq (Int.le_of_eq h)
  have h2 := div_ge_dy ha hb hm hi hq (Int.le_of_eq h.symm)
  have h3 := Int.le_antisymm h1 h2
  obtain ⟨V, hV, e⟩ := rep_exists q i hi hq
  have h4 : zv (ddiv a b) = zv V := cancel (h3.trans e.symm)
  exact ⟨fin_between hV hV (div_nn ha.1 hb.1 (Int.ne_of_gt (hb.pos hm))) (Int.le_of_eq h4.symm) (Int.le_of_eq h4), h3⟩
-- comparisons
theorem cmp_dy {n m : Int} {k j : Nat} {a b : UInt64} (ha : Dy n k a) (hb : Dy m j b) : Jvm.FP.dcmp a b = some (compare (n * 2 ^ j) (m * 2 ^ k)) := by
  show dcmp a b = _
  rw [dcmp_zval ha.nn hb.nn]
  congr 1
  have hU := U_pos
  have e1 : zv a * (2 ^ k * 2 ^ j) = n * 2 ^ j * (one64 : Int) := by rw [← Int.mul_assoc, ha.2]; (generalize one64 = U; ac_rfl)
  have e2 : zv b * (2 ^ k * 2 ^ j) = m * 2 ^ k * (one64 : Int) := by rw [show zv b * (2 ^ k * 2 ^ j) = zv b * 2 ^ j * 2 ^ k by (generalize one64 = U; ac_rfl), hb.2]; (generalize one64 = U; ac_rfl)
  rw [← compare_mul_pos (zv a) (zv b) (2 ^ k * 2 ^ j) (Int.mul_pos (two_pos k) (two_pos j)), e1, e2, compare_mul_pos _ _ _ hU]
theorem cmp_dy0 {n m : Int} {k : Nat} {a b : UInt64} (ha : Dy n k a) (hb : Dy m k b) : Jvm.FP.dcmp a b = some (compare n m) := by
  rw [cmp_dy ha hb, compare_mul_pos _ _ _ (two_pos k)]
theorem cmp_lt {a b : UInt64} (ha : val64 a ≠ .nan) (hb : val64 b ≠ .nan) (h : zv a < zv b) : Jvm.FP.dcmp a b = some .lt := dcmp_lt.mpr ⟨ha, hb, h⟩
theorem cmp_eq {a b : UInt64} (ha : val64 a ≠ .nan) (hb : val64 b ≠ .nan) (h : zv a = zv b) : Jvm.FP.dcmp a b = some .eq := dcmp_eq.mpr ⟨ha, hb, h⟩
theorem cmp_gt {a b : UInt64} (ha : val64 a ≠ .nan) (hb : val64 b ≠ .nan) (h : zv b < zv a) : Jvm.FP.dcmp a b = some .gt := dcmp_gt.mpr ⟨ha, hb, h⟩
open Jvm.Op in
theorem cv_lt_g (r : Option Ordering) : cmpValue r .g < 0 ↔ r = some .lt := by rcases r with _ | (_ | _ | _) <;> decide
open Jvm.Op in
theorem cv_lt_l (r : Option Ordering) : cmpValue r .l < 0 ↔ r = some .lt ∨ r = none := by rcases r with _ | (_ | _ | _) <;> decide
open Jvm.Op in
theorem cv_gt_g (r : Option Ordering) : 0 < cmpValue r .g ↔ r = some .gt ∨ r = none := by rcases r with _ | (_ | _ | _) <;> decide
open Jvm.Op in
theorem cv_gt_l (r : Option Ordering) : 0 < cmpValue r .l ↔ r = some .gt := by rcases r with _ | (_ | _ | _) <;> decide
open Jvm.Op in
theorem cv_eq (r : Option Ordering) (o : Jvm.ClassFile.CmpOp) : cmpValue r o = 0 ↔ r = some .eq := by cases o <;> rcases r with _ | (_ | _ | _) <;> decide
theorem nn64 {a : UInt64} (h : DFin a) : Jvm.Free.Fl.NoNaN64 a := Jvm.Free.Fl.val64_no.mpr h.ne_nan
theorem nnv {a : UInt64} (h : val64 a ≠ .nan) : Jvm.Free.Fl.NoNaN64 a := Jvm.Free.Fl.val64_no.mpr h
theorem nn_v {a : UInt64} (h : Jvm.Free.Fl.NoNaN64 a) : val64 a ≠ .nan := Jvm.Free.Fl.val64_no.mp h
end Jvm.OwnFP
namespace Jvm.OwnKit
open Jvm Jvm.ClassFile Sem Op Lib Jvm.Free Jvm.Stand Jvm.LawKit Jvm.RoadKit
theorem eqF_int {Z : State} {args : Array Value} {t : Term} {C n d : String} {x : Addr} {k : Int32} (ev : t.eval args Z none [] Z = some (.ref x)) (h : (Jvm.Cond.eq (Term.field t C n d) (Term.int k)).value args Z none Z [] = some true) : Fld Z Z.heap x C n d (.int k) := by
  obtain ⟨u, w, h1, h2, -, h4⟩ := cmp_v (Or.inl h)
  have e2 : (Term.int k).eval args Z none [] Z = some (.int k) := Term.int_eval k
  cases e2.symm.trans h2
  obtain ⟨z, rfl⟩ := h4
  have hz : z = k := by simpa [Cond.value, h1, e2] using h
  subst hz
  exact Fld.start (by rw [← fld_at ev]; exact h1)
theorem eqF_dbl {Z : State} {args : Array Value} {t : Term} {C n d : String} {x : Addr} {k : Int64} {b : UInt64} (ev : t.eval args Z none [] Z = some (.ref x)) (h : (Jvm.Cond.eq (Term.field t C n d) (Term.op1 Jvm.Unary.bitsD (Term.long k))).value args Z none Z [] = some true) (hb : k.toUInt64 = b) : Fld Z Z.heap x C n d (.double b) := by
  obtain ⟨u, w, h1, h2, -, h4⟩ := cmp_v (Or.inl h)
  have e2 : (Term.op1 Jvm.Unary.bitsD (Term.long k)).eval args Z none [] Z = some (.double k.toUInt64) := by simp [Term.eval, Jvm.Unary.apply]
  cases e2.symm.trans h2
  obtain ⟨z, rfl⟩ := h4
  have hz : z = k.toUInt64 := by simpa [Cond.value, h1, e2] using h
  subst hz; subst hb
  exact Fld.start (by rw [← fld_at ev]; exact h1)
theorem eqS_int {Z : State} {args : Array Value} {C n d : String} {k : Int32} (h : (Jvm.Cond.eq (Term.static C n d) (Term.int k)).value args Z none Z [] = some true) : (Term.static C n d).eval args Z none [] Z = some (.int k) := by
  obtain ⟨u, w, h1, h2, -, h4⟩ := cmp_v (Or.inl h)
  have e2 : (Term.int k).eval args Z none [] Z = some (.int k) := Term.int_eval k
  cases e2.symm.trans h2
  obtain ⟨z, rfl⟩ := h4
  have hz : z = k := by simpa [Cond.value, h1, e2] using h
  subst hz
  exact h1
theorem staKeep {Z : State} {h h' : Heap} {C n d : String} {v : Value} {ws : List Addr} (F : Sta Z h C n d v) (K : Keep h h' ws) (q : ∀ x ∈ ws, ∃ c : Cell, h[x]? = some c ∧ c.vm.isStatics = false) : Sta Z h' C n d v := by
  obtain ⟨cf, i, k, f, st, cell, h1, h2, h3, h4, h5, h6, h7⟩ := F
  refine ⟨cf, i, k, f, st, cell, h1, h2, h3, h4, K.2.1 st cell h5 fun hm => ?_, h6, h7⟩
  obtain ⟨c, e1, e2⟩ := q st hm
  cases h5.symm.trans e1
  rw [e2] at h6; cases h6
theorem exaSt {Z : State} {h : Heap} {a : Addr} {C : String} (F : Exa Z h a C) : ∃ c : Cell, h[a]? = some c ∧ c.vm.isStatics = false := by
  obtain ⟨c, _, h1, -, -, h4, -⟩ := F; exact ⟨c, h1, h4⟩
theorem arvSt {Z : State} {h : Heap} {a : Addr} {k : ClassId} {ty : FieldType} {z : Int32} {vs : List Value} {dv : Value} (F : Arv Z h a k ty z vs dv) : ∃ c : Cell, h[a]? = some c ∧ c.vm.isStatics = false := by
  obtain ⟨c, A, -⟩ := F; exact ⟨c, A.1, A.plain⟩
theorem narB0 : nar .boolean 0 = 0 := by decide
theorem narB1 : nar .boolean 1 = 1 := by decide
end Jvm.OwnKit
namespace Jvm.OwnFP
open Jvm.FP.Core Jvm.RoadKit
/-! java.lang.Math.round's bits -/
theorem bt_bits (d : UInt64) : d.toInt64.toBitVec.toNat = d.toNat := rfl
theorem bt_toInt (d : UInt64) : d.toInt64.toInt = if d.toNat < 2 ^ 63 then (d.toNat : Int) else (d.toNat : Int) - 2 ^ 64 := by
  show d.toInt64.toBitVec.toInt = _
  rw [BitVec.toInt_eq_toNat_cond, bt_bits]
  by_cases h : d.toNat < 2 ^ 63
  · rw [if_pos h, if_pos (by omega)]
  · rw [if_neg h, if_neg (by omega)]; rfl
theorem bt_tail (d : UInt64) : (d.toInt64 &&& (4503599627370495 : Int64)).toInt = ((d.toNat % 2 ^ 52 : Nat) : Int) := by
  rw [c_maskL d.toInt64 4503599627370495 52 (by decide) (by decide), bt_toInt]
  have h := d.toNat_lt
  split <;> omega
theorem bt_exp (d : UInt64) : ((d.toInt64 &&& (9218868437227405312 : Int64)) >>> ((52 : Int32) &&& 0x3f).toInt64).toInt = ((d.toNat / 2 ^ 52 % 2048 : Nat) : Int) := by
  rw [c_lshr _ 52 52 (by decide)]
  have e : (d.toInt64 &&& (9218868437227405312 : Int64)).toBitVec.toNat = d.toNat &&& 9218868437227405312 := by
    show (d.toInt64.toBitVec &&& (9218868437227405312 : Int64).toBitVec).toNat = _
    rw [BitVec.toNat_and, bt_bits]; rfl
  have le : d.toNat &&& 9218868437227405312 ≤ 9218868437227405312 := Nat.and_le_right
  have q : (d.toNat &&& 9218868437227405312) / 2 ^ 52 = d.toNat / 2 ^ 52 % 2048 := by
    rw [← Nat.shiftRight_eq_div_pow, Nat.shiftRight_and_distrib, Nat.shiftRight_eq_div_pow, show 9218868437227405312 >>> 52 = 2 ^ 11 - 1 by decide, Nat.and_two_pow_sub_one_eq_mod]
  have t : (d.toInt64 &&& (9218868437227405312 : Int64)).toInt = ((d.toNat &&& 9218868437227405312 : Nat) : Int) := by
    show (d.toInt64 &&& (9218868437227405312 : Int64)).toBitVec.toInt = _
    rw [BitVec.toInt_eq_toNat_cond, e, if_pos (by omega)]
  rw [t, ← q]
  generalize d.toNat &&& 9218868437227405312 = y
  omega
theorem dec_bits (d : UInt64) : val64 d = if d.toNat / 2 ^ 52 % 2048 = 2047 then (if d.toNat % 2 ^ 52 = 0 then .inf (fieldS b64 d.toNat) else .nan) else if d.toNat / 2 ^ 52 % 2048 = 0 then .fin (fieldS b64 d.toNat) (d.toNat % 2 ^ 52) b64.qmin else .fin (fieldS b64 d.toNat) (2 ^ 52 + d.toNat % 2 ^ 52) (b64.qmin + (((d.toNat / 2 ^ 52 % 2048 : Nat) : Int) - 1)) := by
  show decode b64 d.toNat = _
  unfold decode fieldE fieldT
  rw [show b64.tails = 2 ^ 52 by decide, show b64.exps = 2048 by decide]
theorem sgn_bits63 (d : UInt64) : fieldS b64 d.toNat = decide (d.toInt64.toInt < 0) := by
  unfold fieldS
  rw [show b64.tails = 2 ^ 52 by decide, show b64.exps = 2048 by decide, bt_toInt]
  have h := d.toNat_lt
  by_cases q : d.toNat < 2 ^ 63
  · rw [if_pos q, show d.toNat / 2 ^ 52 / 2048 % 2 = 0 by omega, decide_eq_false (by omega)]; rfl
  · rw [if_neg q, show d.toNat / 2 ^ 52 / 2048 % 2 = 1 by omega, decide_eq_true (by omega)]; rfl
/-- what a double worth n / 1024 looks like -/
theorem rnd_shape {n : Int} {d : UInt64} (h : Dy n 10 d) (hn : n.natAbs < 2 ^ 52) :
    (n = 0 ∧ d.toNat / 2 ^ 52 % 2048 = 0 ∧ val64 d = .fin (fieldS b64 d.toNat) 0 b64.qmin) ∨
    (∃ k : Nat, 10 ≤ k ∧ k ≤ 61 ∧ d.toNat / 2 ^ 52 % 2048 = 1074 - k ∧ 2 ^ 52 + d.toNat % 2 ^ 52 = n.natAbs * 2 ^ (k - 9) ∧ decide (n < 0) = decide (d.toInt64.toInt < 0)) := by
  obtain ⟨⟨s, c, q, e⟩, hz⟩ := h
  have hd := dec_bits d
  have hE : d.toNat / 2 ^ 52 % 2048 < 2048 := Nat.mod_lt _ (by decide)
  have hT : d.toNat % 2 ^ 52 < 2 ^ 52 := Nat.mod_lt _ (by decide)
  generalize hEE : d.toNat / 2 ^ 52 % 2048 = E at hd hE ⊢
  generalize hTT : d.toNat % 2 ^ 52 = T at hd hT ⊢
  have zabs : (zv d).natAbs * 2 ^ 10 = n.natAbs * 2 ^ 1074 := by
    have := congrArg Int.natAbs hz
    rw [Int.natAbs_mul, Int.natAbs_mul] at this
    exact this
  by_cases h1 : E = 2047
  · rw [if_pos h1, e] at hd; split at hd <;> cases hd
  rw [if_neg h1] at hd
  by_cases h2 : E = 0
  · left
    rw [if_pos h2] at hd
    have za : (zv d).natAbs = T := by
      show (signed (sgn (val64 d)) (zmag b64 (val64 d))).natAbs = T
      rw [natAbs_signed, hd]
      show T * 2 ^ (b64.qmin - b64.qmin).toNat = T
      rw [Int.sub_self]; simp
    rw [za] at zabs
    have n0 : n.natAbs = 0 := by
      rcases Nat.eq_zero_or_pos n.natAbs with z | z
      · exact z
      · exfalso
        have : 2 ^ 1074 ≤ n.natAbs * 2 ^ 1074 := Nat.le_mul_of_pos_left _ z
        rw [← zabs, show (1074 : Nat) = 62 + 1012 by rfl, Nat.pow_add] at this
        have p : 1 ≤ 2 ^ 1012 := Nat.two_pow_pos _
        have : 2 ^ 62 * 1 ≤ 2 ^ 62 * 2 ^ 1012 := Nat.mul_le_mul_left _ p
        omega
    rw [n0, Nat.zero_mul] at zabs
    have T0 : T = 0 := by omega
    exact ⟨by omega, h2, by rw [hd, T0]⟩
  · right
    rw [if_neg h2] at hd
    have za : (zv d).natAbs = (2 ^ 52 + T) * 2 ^ (E - 1) := by
      show (signed (sgn (val64 d)) (zmag b64 (val64 d))).natAbs = _
      rw [natAbs_signed, hd]
      show (2 ^ 52 + T) * 2 ^ (b64.qmin + ((E : Int) - 1) - b64.qmin).toNat = _
      rw [show (b64.qmin + ((E : Int) - 1) - b64.qmin).toNat = E - 1 by omega]
    have sg : decide (n < 0) = decide (d.toInt64.toInt < 0) := by
      rw [← sgn_bits63]
      have zc : zv d = signed (fieldS b64 d.toNat) ((2 ^ 52 + T) * 2 ^ (E - 1)) := by
        show signed (sgn (val64 d)) (zmag b64 (val64 d)) = _
        rw [hd]
        show signed (fieldS b64 d.toNat) ((2 ^ 52 + T) * 2 ^ (b64.qmin + ((E : Int) - 1) - b64.qmin).toNat) = _
        rw [show (b64.qmin + ((E : Int) - 1) - b64.qmin).toNat = E - 1 by omega]
      have pp : 0 < (2 ^ 52 + T) * 2 ^ (E - 1) := Nat.mul_pos (by omega) (Nat.two_pow_pos _)
      have hU := U_pos
      generalize (2 ^ 52 + T) * 2 ^ (E - 1) = M at zc pp
      cases hs : fieldS b64 d.toNat
      · rw [hs] at zc
        have z1 : 0 < zv d := by rw [zc]; show (0 : Int) < (M : Int); omega
        have : 0 < n * (one64 : Int) := by rw [← hz]; exact Int.mul_pos z1 (two_pos 10)
        have : 0 < n := Int.pos_of_mul_pos_left this hU
        rw [decide_eq_false (by omega)]
      · rw [hs] at zc
        have z1 : zv d < 0 := by rw [zc]; show -(M : Int) < 0; omega
        have z2 : n * (one64 : Int) < 0 := by rw [← hz]; exact Int.mul_neg_of_neg_of_pos z1 (two_pos 10)
        have : n < 0 := by
          by_cases q : n < 0
          · exact q
          · have := Int.mul_nonneg (a := n) (b := (one64 : Int)) (by omega) (by omega); omega
        rw [decide_eq_true this]
    rw [za, Nat.mul_assoc, ← Nat.pow_add] at zabs
    have n1 : 0 < n.natAbs := by
      rcases Nat.eq_zero_or_pos n.natAbs with z | z
      · exfalso
        rw [z, Nat.zero_mul] at zabs
        have : 0 < (2 ^ 52 + T) * 2 ^ (E - 1 + 10) := Nat.mul_pos (by omega) (Nat.two_pow_pos _)
        omega
      · exact z
    have hlo : 1013 ≤ E := by
      by_cases q : 1013 ≤ E
      · exact q
      · exfalso
        have a1 : 2 ^ (E - 1 + 10) ≤ 2 ^ 1021 := Nat.pow_le_pow_right (by decide) (by omega)
        have a2 : (2 ^ 52 + T) * 2 ^ (E - 1 + 10) ≤ (2 ^ 52 + T) * 2 ^ 1021 := Nat.mul_le_mul_left _ a1
        have a3 : (2 ^ 52 + T) * 2 ^ 1021 < 2 ^ 53 * 2 ^ 1021 := Nat.mul_lt_mul_of_pos_right (by omega) (Nat.two_pow_pos _)
        have a4 : 2 ^ 1074 ≤ n.natAbs * 2 ^ 1074 := Nat.le_mul_of_pos_left _ n1
        rw [← Nat.pow_add] at a3
        rw [← zabs] at a4
        exact absurd (Nat.lt_of_le_of_lt (Nat.le_trans a4 a2) a3) (Nat.lt_irrefl _)
    have hhi : E ≤ 1064 := by
      by_cases q : E ≤ 1064
      · exact q
      · exfalso
        have a1 : 2 ^ 1074 ≤ 2 ^ (E - 1 + 10) := Nat.pow_le_pow_right (by decide) (by omega)
        have a2 : 2 ^ 52 * 2 ^ 1074 ≤ (2 ^ 52 + T) * 2 ^ (E - 1 + 10) := Nat.mul_le_mul (by omega) a1
        have a3 : n.natAbs * 2 ^ 1074 < 2 ^ 52 * 2 ^ 1074 := Nat.mul_lt_mul_of_pos_right hn (Nat.two_pow_pos _)
        rw [zabs] at a2
        exact absurd (Nat.lt_of_le_of_lt a2 a3) (Nat.lt_irrefl _)
    refine ⟨1074 - E, by omega, by omega, by omega, ?_, sg⟩
    refine Nat.eq_of_mul_eq_mul_right (Nat.two_pow_pos (E - 1 + 10)) ?_
    rw [zabs, Nat.mul_assoc, ← Nat.pow_add, show 1074 - E - 9 + (E - 1 + 10) = 1074 by omega]
theorem sh_and (s : Int64) (k : Nat) (hs : s.toInt = (k : Int)) (hk : k ≤ 63) : s &&& (-64 : Int64) = 0 := by
  have : s = Int64.ofNat k := by
    refine Int64.toInt_inj.mp ?_
    rw [hs, Int64.toInt_ofNat_of_lt (by omega)]
  rw [this]
  have all : ∀ j : Fin 64, (Int64.ofNat j.val) &&& (-64 : Int64) = 0 := by decide
  exact all ⟨k, by omega⟩
/-- the shift of Math.round -/
theorem rnd_sh {n : Int} {d : UInt64} (h : Dy n 10 d) (hn : n.natAbs < 2 ^ 52) {be sh : Int64} (hbe : be = ((d.toInt64 &&& (9218868437227405312 : Int64)) >>> ((52 : Int32) &&& 0x3f).toInt64)) (hsh : sh = (1074 : Int64) - be) :
    (n = 0 ∧ ¬ (sh &&& (-64 : Int64)) = 0 ∧ (Jvm.FP.d2l d).toInt = 0) ∨ (sh &&& (-64 : Int64) = 0 ∧ ∃ k : Nat, 10 ≤ k ∧ k ≤ 61 ∧ sh.toInt = (k : Int) ∧ 2 ^ 52 + d.toNat % 2 ^ 52 = n.natAbs * 2 ^ (k - 9) ∧ decide (n < 0) = decide (d.toInt64.toInt < 0)) := by
  have e := bt_exp d
  rw [← hbe] at e
  have hE : d.toNat / 2 ^ 52 % 2048 < 2048 := Nat.mod_lt _ (by decide)
  have s := c_lsub 1074 be; have s2 := rng64 ((1074 : Int64) - be); have e4 : (1074 : Int64).toInt = 1074 := by decide
  rw [e4, ← hsh] at s
  rw [← hsh] at s2
  rcases rnd_shape h hn with ⟨n0, h1, h2⟩ | ⟨k, h1, h2, h3, h4, h5⟩
  · left
    refine ⟨n0, ?_, ?_⟩
    · have b0 : be = 0 := Int64.toInt_inj.mp (by rw [e, h1]; rfl)
      rw [hsh, b0]; decide
    · show (d2l d).toInt = 0
      rw [d2l_val h.nn, h2]
      show max (-2 ^ 63) (min (2 ^ 63 - 1) (signed (fieldS b64 d.toNat) (0 * 2 ^ (b64.qmin - b64.qmin).toNat / one64))) = 0
      rw [Nat.zero_mul, Nat.zero_div, signed_zero]; decide
  · right
    have hk : sh.toInt = (k : Int) := by rw [h3] at e; omega
    exact ⟨sh_and sh k hk (by omega), k, h1, h2, hk, h4, h5⟩
theorem rnd_core {n : Int} {k : Nat} (h1 : 10 ≤ k) (h2 : k ≤ 61) {m8 sh : Int64} (hsh : sh.toInt = (k : Int)) (hm : m8.toInt = n * 2 ^ (k - 9)) (hn : n.natAbs < 2 ^ 52) :
    (((m8 >>> ((sh.toInt32) &&& 0x3f).toInt64) + (1 : Int64)) >>> ((1 : Int32) &&& 0x3f).toInt64).toInt = (n + 512) / 1024 := by
  have q1 := c_l2i sh; have q2 := rng32 sh.toInt32
  have q3 : sh.toInt32.toInt = (k : Int) := by omega
  have q4 : sh.toInt32.toBitVec.toNat % 64 = k := by
    have := q3
    change sh.toInt32.toBitVec.toInt = _ at this
    rw [BitVec.toInt_eq_toNat_cond] at this
    split at this <;> omega
  have a1 := c_lshr m8 sh.toInt32 k q4
  have a2 : m8.toInt / ((2 ^ k : Nat) : Int) = n / 512 := by
    rw [hm, show ((2 ^ k : Nat) : Int) = 512 * 2 ^ (k - 9) by rw [Int.natCast_pow, show k = 9 + (k - 9) by omega, Int.pow_add, show 9 + (k - 9) - 9 = k - 9 by omega]; rfl, Int.mul_ediv_mul_of_pos_left _ _ (two_pos _)]
  rw [a2] at a1
  have a3 := c_ladd (m8 >>> ((sh.toInt32) &&& 0x3f).toInt64) 1; have a4 := rng64 ((m8 >>> ((sh.toInt32) &&& 0x3f).toInt64) + (1 : Int64)); have e1 : (1 : Int64).toInt = 1 := by decide
  rw [a1, e1] at a3
  rw [c_lshr _ 1 1 (by decide), show ((m8 >>> ((sh.toInt32) &&& 0x3f).toInt64) + (1 : Int64)).toInt = n / 512 + 1 by omega]
  show (n / 512 + 1) / 2 = _
  omega
theorem rnd_mag (d : UInt64) : ((d.toInt64 &&& (4503599627370495 : Int64)) ||| (4503599627370496 : Int64)).toInt = ((2 ^ 52 + d.toNat % 2 ^ 52 : Nat) : Int) := by
  have t := bt_tail d
  have hT : d.toNat % 2 ^ 52 < 2 ^ 52 := Nat.mod_lt _ (by decide)
  have o := c_orL' (d.toInt64 &&& (4503599627370495 : Int64)) (4503599627370496 : Int64) 52 (by decide) 4503599627370496 (by decide) (by decide) (by omega) (by omega)
  have r := rng64 ((d.toInt64 &&& (4503599627370495 : Int64)) ||| (4503599627370496 : Int64)); have e : (4503599627370496 : Int64).toInt = 4503599627370496 := by decide
  rw [e] at o; omega
theorem rnd_neg {n : Int} {d : UInt64} {sh : Int64} {k : Nat} (hk : 10 ≤ k ∧ k ≤ 61 ∧ sh.toInt = (k : Int) ∧ 2 ^ 52 + d.toNat % 2 ^ 52 = n.natAbs * 2 ^ (k - 9) ∧ decide (n < 0) = decide (d.toInt64.toInt < 0)) (hn : n.natAbs < 2 ^ 52) (hb : d.toInt64 < 0) :
    ((((-((d.toInt64 &&& (4503599627370495 : Int64)) ||| (4503599627370496 : Int64))) >>> ((sh.toInt32) &&& 0x3f).toInt64) + (1 : Int64)) >>> ((1 : Int32) &&& 0x3f).toInt64).toInt = (n + 512) / 1024 := by
  obtain ⟨h1, h2, h3, h4, h5⟩ := hk
  refine rnd_core h1 h2 h3 ?_ hn
  have m := rnd_mag d
  have hT : d.toNat % 2 ^ 52 < 2 ^ 52 := Nat.mod_lt _ (by decide)
  have g := c_lneg ((d.toInt64 &&& (4503599627370495 : Int64)) ||| (4503599627370496 : Int64)); have r := rng64 (-((d.toInt64 &&& (4503599627370495 : Int64)) ||| (4503599627370496 : Int64)))
  have b : d.toInt64.toInt < 0 := by rw [Int64.lt_iff_toInt_lt] at hb; exact hb
  have n0 : n < 0 := by rw [decide_eq_true b] at h5; exact of_decide_eq_true h5
  have e : (-((d.toInt64 &&& (4503599627370495 : Int64)) ||| (4503599627370496 : Int64))).toInt = -((2 ^ 52 + d.toNat % 2 ^ 52 : Nat) : Int) := by omega
  rw [e, h4, Int.natCast_mul, Int.natCast_pow, show ((n.natAbs : Nat) : Int) = -n by omega]
  rw [Int.neg_mul, Int.neg_neg]; rfl
theorem rnd_pos {n : Int} {d : UInt64} {sh : Int64} {k : Nat} (hk : 10 ≤ k ∧ k ≤ 61 ∧ sh.toInt = (k : Int) ∧ 2 ^ 52 + d.toNat % 2 ^ 52 = n.natAbs * 2 ^ (k - 9) ∧ decide (n < 0) = decide (d.toInt64.toInt < 0)) (hn : n.natAbs < 2 ^ 52) (hb : ¬ d.toInt64 < 0) :
    (((((d.toInt64 &&& (4503599627370495 : Int64)) ||| (4503599627370496 : Int64)) >>> ((sh.toInt32) &&& 0x3f).toInt64) + (1 : Int64)) >>> ((1 : Int32) &&& 0x3f).toInt64).toInt = (n + 512) / 1024 := by
  obtain ⟨h1, h2, h3, h4, h5⟩ := hk
  refine rnd_core h1 h2 h3 ?_ hn
  have m := rnd_mag d
  have b : ¬ d.toInt64.toInt < 0 := by rw [Int64.lt_iff_toInt_lt] at hb; exact hb
  have n0 : ¬ n < 0 := by rw [decide_eq_false b] at h5; exact of_decide_eq_false h5
  rw [m, h4, Int.natCast_mul, Int.natCast_pow, show ((n.natAbs : Nat) : Int) = n by omega]; rfl
end Jvm.OwnFP
namespace Jvm.Pilot.@@N@@
open Jvm Jvm.ClassFile Sem Op Lib Jvm.Free Jvm.Stand Jvm.LawKit Jvm.RoadKit Bundle Jvm.OwnFP Jvm.OwnKit Jvm.Pilot.@@N@@.Jvm.D
theorem own_e18 : zv 4890691058569617664 = 9000000000000000000 * (Jvm.FP.Core.one64 : Int) := by decide +kernel
theorem own_e18nn : Jvm.FP.Core.val64 4890691058569617664 ≠ .nan := (Jvm.FP.Core.ne_nan _).mpr (by decide)
theorem own_pos_bits {d : UInt64} (hn : Jvm.FP.Core.val64 d ≠ .nan) (h : 0 < zv d) : d.toNat < 2 ^ 63 := by
  by_cases q : d.toNat < 2 ^ 63
  · exact q
  · exact absurd (Jvm.FP.Core.zval_nonpos hn (by omega)) (by show ¬ zv d ≤ 0; omega)
theorem own_fin_bits {d : UInt64} (hf : Jvm.FP.Core.DFin d) (h : 0 < zv d) : d.toNat < 9218868437227405312 := by
  have h1 := own_pos_bits hf.ne_nan h
  have h2 := (Jvm.FP.Core.fin_bits d).mp hf
  rw [Nat.mod_eq_of_lt h1] at h2; exact h2
theorem own_succ {d : UInt64} (hf : Jvm.FP.Core.DFin d) (h : 0 < zv d) : (d + 1).toNat = d.toNat + 1 := by
  have := own_fin_bits hf h
  rw [UInt64.toNat_add]; show (d.toNat + 1) % 2 ^ 64 = _; omega
theorem own_succ_nn {d : UInt64} (hf : Jvm.FP.Core.DFin d) (h : 0 < zv d) : Jvm.FP.Core.val64 (d + 1) ≠ .nan := by
  have h1 := own_fin_bits hf h
  rw [Jvm.FP.Core.ne_nan, own_succ hf h]; omega
theorem own_succ_gt {d : UInt64} (hf : Jvm.FP.Core.DFin d) (h : 0 < zv d) : zv d < zv (d + 1) := by
  have h1 := own_fin_bits hf h; have h2 := own_succ hf h
  have := ((Jvm.FP.Core.mono_bits hf.ne_nan (own_succ_nn hf h) (by omega) (by omega)).1).mpr (by omega)
  exact (Jvm.FP.Core.dcmp_lt.mp this).2.2
/-- the next double is the least one above -/
theorem own_succ_le {d V : UInt64} (hf : Jvm.FP.Core.DFin d) (h : 0 < zv d) (hV : Jvm.FP.Core.val64 V ≠ .nan) (hlt : zv d < zv V) : zv (d + 1) ≤ zv V := by
  have h1 := own_fin_bits hf h; have h2 := own_succ hf h
  have h3 := own_pos_bits hV (by omega)
  have h4 := ((Jvm.FP.Core.mono_bits hf.ne_nan hV (by omega) h3).1).mp (Jvm.FP.Core.dcmp_lt.mpr ⟨hf.ne_nan, hV, hlt⟩)
  by_cases q : (d + 1).toNat = V.toNat
  · rw [show d + 1 = V from UInt64.toNat_inj.mp q]; exact Int.le_refl _
  · have := ((Jvm.FP.Core.mono_bits (own_succ_nn hf h) hV (by omega) h3).1).mpr (by omega)
    exact Int.le_of_lt (Jvm.FP.Core.dcmp_lt.mp this).2.2
theorem own_z {d : UInt64} (hf : Jvm.FP.Core.DFin d) (h : 0 < zv d) : FP.dadd d 0 = d := by
  have h1 := own_fin_bits hf h
  refine Jvm.FP.Core.dadd_zero hf.ne_nan fun q => ?_
  rw [q] at h1; exact absurd h1 (by decide)
theorem own_bits {d : UInt64} (hf : Jvm.FP.Core.DFin d) (h : 0 < zv d) : ((FP.dadd d 0).toInt64 + 1).toUInt64 = d + 1 := by
  rw [own_z hf h, Int64.toUInt64_add, UInt64.toUInt64_toInt64]; rfl
theorem own_nneg {d : UInt64} (hf : Jvm.FP.Core.DFin d) (h : 0 < zv d) : ¬ ((FP.dadd d 0).toInt64 < 0) := by
  rw [own_z hf h]
  intro q
  have h1 := own_fin_bits hf h
  have := Int64.lt_iff_toInt_lt.mp q
  rw [bt_toInt, if_pos (by omega), show (0 : Int64).toInt = 0 by decide] at this
  omega
theorem own_hv {d : UInt64} (hf : Jvm.FP.Core.DFin d) (h : 0 < zv d) : (((FP.dadd d 0).toInt64 + 1).toUInt64 &&& 0x7fffffffffffffff > 0x7ff0000000000000 && ((FP.dadd d 0).toInt64 + 1).toUInt64 &&& 0x0008000000000000 == 0) = false := by
  rw [own_bits hf h]
  have h1 := own_fin_bits hf h; have h2 := own_succ hf h
  have h3 : ¬ ((d + 1) &&& 0x7fffffffffffffff > 0x7ff0000000000000) := by
    intro q
    have q2 := UInt64.lt_iff_toNat_lt.mp q
    rw [Jvm.FP.Core.mask_toNat, h2] at q2
    have : (0x7ff0000000000000 : UInt64).toNat = 9218868437227405312 := by decide
    omega
  simp [h3]
theorem own_ltinf {d : UInt64} (hf : Jvm.FP.Core.DFin d) : cmpValue (FP.dcmp d 9218868437227405312) .g < 0 := by
  rw [cv_lt_g]; exact (Jvm.FP.Core.fin_lt_inf hf).1
def own_pu (d0 d2 : UInt64) : UInt64 := if FP.dcmp d0 0 = some .eq then 0 else if FP.dcmp d2 0 = some .eq then 0 else if FP.dcmp d0 4607182418800017408 = some .eq then d2 else if FP.dcmp d2 4607182418800017408 = some .eq then d0 else FP.dmul d0 d2 + 1
theorem own_m31 (n : Int32) : 0 ≤ (n &&& 2147483647).toInt := by
  have h := c_mask n 2147483647 31 (by decide) (by decide); rw [h]; exact Int.emod_nonneg _ (by decide)
theorem own_m2 (n : Int32) : 0 ≤ (n &&& 3).toInt := by
  have h := c_mask n 3 2 (by decide) (by decide); rw [h]; exact Int.emod_nonneg _ (by decide)
theorem own_ge {f x r : Int32} (h : (f = 0 ∧ r = (x &&& 2147483647)) ∨ (¬ f = 0 ∧ r = (x &&& 3))) : 0 ≤ r.toInt := by
  rcases h with ⟨_, rfl⟩ | ⟨_, rfl⟩; exact own_m31 x; exact own_m2 x
/-- products -/
theorem own_pv (a b : Int32) : zv (FP.i2d a) * zv (FP.i2d b) = a.toInt * b.toInt * ((Jvm.FP.Core.one64 : Int) * (Jvm.FP.Core.one64 : Int)) := by
  have h1 := (dy_i2d a).2; have h2 := (dy_i2d b).2
  rw [Int.pow_zero, Int.mul_one] at h1 h2
  rw [show zv (FP.i2d a) = _ from h1, show zv (FP.i2d b) = _ from h2]; (generalize Jvm.FP.Core.one64 = U; ac_rfl)
theorem own_lt62 {a b : Int32} (ha : 0 ≤ a.toInt) (hb : 0 ≤ b.toInt) : 0 ≤ a.toInt * b.toInt ∧ a.toInt * b.toInt < 4611686018427387904 := by
  have r1 := rng32 a; have r2 := rng32 b
  have h1 : a.toInt * b.toInt ≤ 2147483647 * 2147483647 := Int.mul_le_mul (by omega) (by omega) hb (by decide)
  exact ⟨Int.mul_nonneg ha hb, by omega⟩
theorem own_big {P : Nat} (h : 2251799813685248 ≤ P) (h2 : P < 4611686018427387904) : ∃ j k : Nat, j ≤ 10 ∧ k < 4503599627370496 ∧ k * 2 ^ j ≤ P ∧ P < (k + 1) * 2 ^ j ∧ 2 * 2 ^ j ≤ P / 1125899906842624 := by
  have h0 : P ≠ 0 := by omega
  have l1 : 2 ^ P.log2 ≤ P := Nat.log2_self_le h0
  have l2 : P < 2 ^ (P.log2 + 1) := Nat.lt_log2_self
  have l3 : P.log2 < 62 := (Nat.pow_lt_pow_iff_right (by decide : 1 < 2)).mp (Nat.lt_of_le_of_lt l1 (by omega))
  have l4 : 51 ≤ P.log2 := by
    have : 2 ^ 51 < 2 ^ (P.log2 + 1) := Nat.lt_of_le_of_lt (by omega) l2
    have := (Nat.pow_lt_pow_iff_right (by decide : 1 < 2)).mp this
    omega
  obtain ⟨j, hj⟩ : ∃ j, P.log2 = 51 + j := ⟨P.log2 - 51, by omega⟩
  rw [hj] at l1 l2 l3
  have hp : 0 < 2 ^ j := Nat.two_pow_pos j
  refine ⟨j, P / 2 ^ j, by omega, ?_, Nat.div_mul_le_self _ _, ?_, ?_⟩
  · rw [Nat.div_lt_iff_lt_mul hp]
    rw [show 51 + j + 1 = 52 + j by omega, Nat.pow_add] at l2
    exact l2
  · have := Nat.lt_div_mul_add hp (a := P); rw [Nat.add_mul, Nat.one_mul]; exact this
  · rw [Nat.le_div_iff_mul_le (by decide)]
    rw [Nat.pow_add] at l1
    have : 2 * 2 ^ j * 1125899906842624 = 2 ^ 51 * 2 ^ j := by omega
    omega
/-- what nextUp of the product is worth -/
theorem own_main {a b : Int32} (ha : 1 ≤ a.toInt) (hb : 1 ≤ b.toInt) : Jvm.FP.Core.DFin (FP.dmul (FP.i2d a) (FP.i2d b)) ∧ 0 < zv (FP.dmul (FP.i2d a) (FP.i2d b)) ∧
    a.toInt * b.toInt * (Jvm.FP.Core.one64 : Int) ≤ zv (FP.dmul (FP.i2d a) (FP.i2d b) + 1) ∧ zv (FP.dmul (FP.i2d a) (FP.i2d b) + 1) < (a.toInt * b.toInt + a.toInt * b.toInt / 1125899906842624 + 1) * (Jvm.FP.Core.one64 : Int) := by
  have hA := dy_i2d a; have hB := dy_i2d b; have hU := U_pos
  have hP := own_lt62 (a := a) (b := b) (by omega) (by omega)
  have hP1 : 1 ≤ a.toInt * b.toInt := by have := Int.mul_le_mul ha hb (by decide) (by omega : (0 : Int) ≤ a.toInt); simpa using this
  have hz := own_pv a b
  generalize a.toInt * b.toInt = P at hP hP1 hz ⊢
  -- bounds of the product by doubles
  have le : ∀ V, Jvm.FP.Core.val64 V ≠ .nan → P * (Jvm.FP.Core.one64 : Int) ≤ zv V → zv (FP.dmul (FP.i2d a) (FP.i2d b)) ≤ zv V := fun V hV h => mul_le hA.1 hB.1 hV (by
    show zv (FP.i2d a) * zv (FP.i2d b) ≤ _
    rw [hz, ← Int.mul_assoc]; exact Int.mul_le_mul_of_nonneg_right h (Int.le_of_lt hU))
  have ge : ∀ V, Jvm.FP.Core.val64 V ≠ .nan → zv V ≤ P * (Jvm.FP.Core.one64 : Int) → zv V ≤ zv (FP.dmul (FP.i2d a) (FP.i2d b)) := fun V hV h => mul_ge hA.1 hB.1 hV (by
    show _ ≤ zv (FP.i2d a) * zv (FP.i2d b)
    rw [hz, ← Int.mul_assoc]; exact Int.mul_le_mul_of_nonneg_right h (Int.le_of_lt hU))
  have e1 : zv 4607182418800017408 = (Jvm.FP.Core.one64 : Int) := by have := dy_one.2; simpa using this
  have hUP : (Jvm.FP.Core.one64 : Int) ≤ P * (Jvm.FP.Core.one64 : Int) := by have := Int.mul_le_mul_of_nonneg_right hP1 (Int.le_of_lt hU); simpa using this
  have g1 := ge _ dy_one.nn (by rw [e1]; exact hUP)
  have l9 := le _ own_e18nn (by rw [own_e18]; exact Int.mul_le_mul_of_nonneg_right (by omega) (Int.le_of_lt hU))
  have hpos : 0 < zv (FP.dmul (FP.i2d a) (FP.i2d b)) := by rw [e1] at g1; omega
  have hfin : Jvm.FP.Core.DFin (FP.dmul (FP.i2d a) (FP.i2d b)) := fin_between ((Jvm.FP.Core.fin_bits _).mpr (by decide) : Jvm.FP.Core.DFin 4890691058569617664) dy_one.1 (mul_nn hA.1 hB.1) g1 l9
  refine ⟨hfin, hpos, ?_, ?_⟩
  · by_cases q : P * (Jvm.FP.Core.one64 : Int) ≤ zv (FP.dmul (FP.i2d a) (FP.i2d b) + 1)
    · exact q
    · have := ge _ (own_succ_nn hfin hpos) (by omega)
      have := own_succ_gt hfin hpos
      omega
  · by_cases hs : P < 2251799813685248
    · obtain ⟨V, hV, e⟩ := rep_exists (2 * P + 1) 1 (by decide) (by omega)
      obtain ⟨V0, hV0, e0⟩ := rep_exists P 0 (by decide) (by omega)
      rw [Int.pow_zero, Int.mul_one] at e0
      rw [Int.pow_one, Int.add_mul, Int.one_mul, Int.mul_assoc] at e
      have d0 := le V0 hV0.ne_nan (by omega)
      have := own_succ_le hfin hpos hV.ne_nan (by omega)
      have hdiv : 0 ≤ P / 1125899906842624 := Int.ediv_nonneg hP.1 (by decide)
      have h7 : (P + 1) * (Jvm.FP.Core.one64 : Int) ≤ (P + P / 1125899906842624 + 1) * (Jvm.FP.Core.one64 : Int) := Int.mul_le_mul_of_nonneg_right (by omega) (Int.le_of_lt hU)
      rw [Int.add_mul, Int.one_mul] at h7
      omega
    · obtain ⟨j, k, hj, hk, h1, h2, h3⟩ := own_big (P := P.toNat) (by omega) (by omega)
      obtain ⟨V1, hV1, ev1⟩ := rep_up ((k : Int) + 1) j (by omega) (by omega)
      obtain ⟨V2, hV2, ev2⟩ := rep_up ((k : Int) + 2) j (by omega) (by omega)
      have hp : (0 : Int) < 2 ^ j := two_pos j
      have c1 : (k : Int) * 2 ^ j ≤ P := by
        have : ((k * 2 ^ j : Nat) : Int) ≤ (P.toNat : Int) := Int.ofNat_le.mpr h1
        rw [Int.natCast_mul, Int.natCast_pow] at this
        have h9 : (P.toNat : Int) = P := Int.toNat_of_nonneg hP.1
        rw [h9] at this; exact this
      have c2 : P < ((k : Int) + 1) * 2 ^ j := by
        have : (P.toNat : Int) < (((k + 1) * 2 ^ j : Nat) : Int) := Int.ofNat_lt.mpr h2
        rw [Int.natCast_mul, Int.natCast_pow, Int.natCast_add] at this
        have h9 : (P.toNat : Int) = P := Int.toNat_of_nonneg hP.1
        rw [h9] at this; exact this
      have c3 : 2 * (2 : Int) ^ j ≤ P / 1125899906842624 := by
        have : ((2 * 2 ^ j : Nat) : Int) ≤ ((P.toNat / 1125899906842624 : Nat) : Int) := Int.ofNat_le.mpr h3
        rw [Int.natCast_mul, Int.natCast_pow, Int.natCast_ediv] at this
        have h9 : (P.toNat : Int) = P := Int.toNat_of_nonneg hP.1
        rw [h9] at this; exact this
      have d1 := le V1 hV1.ne_nan (by rw [ev1]; exact Int.mul_le_mul_of_nonneg_right (Int.le_of_lt c2) (Int.le_of_lt hU))
      have w : zv V1 < zv V2 := by
        rw [ev1, ev2]
        refine Int.mul_lt_mul_of_pos_right ?_ hU
        exact Int.mul_lt_mul_of_pos_right (by omega) hp
      have d2 := own_succ_le hfin hpos hV2.ne_nan (by omega)
      refine Int.lt_of_le_of_lt d2 ?_
      rw [ev2]
      refine Int.mul_lt_mul_of_pos_right ?_ hU
      rw [Int.add_mul]; omega
theorem own_c0 {a : Int32} (h : a.toInt = 0) : FP.dcmp (FP.i2d a) 0 = some .eq := by
  rw [cmp_dy0 (dy_i2d a) dy_zero, h]; rfl
theorem own_cz (a : Int32) : FP.dcmp (FP.i2d a) 0 = some .eq ↔ a.toInt = 0 := by
  rw [cmp_dy0 (dy_i2d a) dy_zero, Option.some.injEq, Jvm.FP.Core.compare_eq_iff]
theorem own_c1 (a : Int32) : FP.dcmp (FP.i2d a) 4607182418800017408 = some .eq ↔ a.toInt = 1 := by
  rw [cmp_dy0 (dy_i2d a) dy_one, Option.some.injEq, Jvm.FP.Core.compare_eq_iff]
theorem own_pp {a b : Int32} (ha : 0 ≤ a.toInt) (hb : 0 ≤ b.toInt) : (a.toInt64 * b.toInt64).toInt = a.toInt * b.toInt := by
  have h := own_lt62 ha hb
  have := Jvm.FP.Core.int64_mul (a := a.toInt64) (b := b.toInt64) (by rw [c_i2l, c_i2l]; omega) (by rw [c_i2l, c_i2l]; omega)
  rw [c_i2l, c_i2l] at this; exact this
theorem own_small {a b : Int32} (ha : 0 ≤ a.toInt) (hb : 0 ≤ b.toInt) (h : ¬ (1 < a.toInt ∧ 1 < b.toInt)) : cmpValue (FP.dcmp (own_pu (FP.i2d a) (FP.i2d b)) (FP.l2d (a.toInt64 * b.toInt64))) .l = 0 := by
  have r1 := rng32 a; have r2 := rng32 b
  have hP : (a.toInt64 * b.toInt64).toInt.natAbs ≤ 2 ^ 53 := by
    rw [own_pp ha hb]
    have : a.toInt = 0 ∨ a.toInt = 1 ∨ b.toInt = 0 ∨ b.toInt = 1 := by omega
    rcases this with q | q | q | q <;> rw [q] <;> omega
  have hL := dy_l2d hP
  rw [own_pp ha hb] at hL
  rw [cv_eq]
  unfold own_pu
  by_cases h0 : a.toInt = 0
  · rw [if_pos ((own_cz a).mpr h0), cmp_dy0 dy_zero hL, h0, Int.zero_mul]; rfl
  · rw [if_neg (fun q => h0 ((own_cz a).mp q))]
    by_cases h1 : b.toInt = 0
    · rw [if_pos ((own_cz b).mpr h1), cmp_dy0 dy_zero hL, h1, Int.mul_zero]; rfl
    · rw [if_neg (fun q => h1 ((own_cz b).mp q))]
      by_cases h2 : a.toInt = 1
      · rw [if_pos ((own_c1 a).mpr h2), cmp_dy0 (dy_i2d b) hL, h2, Int.one_mul, Option.some.injEq, Jvm.FP.Core.compare_eq_iff]
      · rw [if_neg (fun q => h2 ((own_c1 a).mp q)), if_pos ((own_c1 b).mpr (by omega)), cmp_dy0 (dy_i2d a) hL, show b.toInt = 1 by omega, Int.mul_one, Option.some.injEq, Jvm.FP.Core.compare_eq_iff]
theorem own_puv {a b : Int32} (ha : 1 < a.toInt) (hb : 1 < b.toInt) : own_pu (FP.i2d a) (FP.i2d b) = FP.dmul (FP.i2d a) (FP.i2d b) + 1 := by
  unfold own_pu
  rw [if_neg (fun q => absurd ((own_cz a).mp q) (by omega)), if_neg (fun q => absurd ((own_cz b).mp q) (by omega)), if_neg (fun q => absurd ((own_c1 a).mp q) (by omega)), if_neg (fun q => absurd ((own_c1 b).mp q) (by omega))]
/-- the whole part of a positive double below 2^63 -/
theorem own_d2l {r : UInt64} {lo hi : Int} (hn : Jvm.FP.Core.val64 r ≠ .nan) (h0 : 0 ≤ lo) (h1 : lo * (Jvm.FP.Core.one64 : Int) ≤ zv r) (h2 : zv r < hi * (Jvm.FP.Core.one64 : Int)) (h3 : hi < 9223372036854775807) : lo ≤ (FP.d2l r).toInt ∧ (FP.d2l r).toInt < hi := by
  have hU := U_pos
  have hz : 0 ≤ zv r := Int.le_trans (Int.mul_nonneg h0 (Int.le_of_lt hU)) h1
  have e := Jvm.FP.Core.d2l_val hn
  have hs : Jvm.FP.Core.signed (Jvm.FP.Core.sgn (Jvm.FP.Core.val64 r)) (Jvm.FP.Core.zmag Jvm.FP.Core.b64 (Jvm.FP.Core.val64 r) / Jvm.FP.Core.one64) = zv r / (Jvm.FP.Core.one64 : Int) := by
    rcases zv_cases r with ⟨q1, q2⟩ | ⟨q1, q2⟩
    · rw [q1, q2]; show ((_ : Nat) : Int) = _; exact Int.natCast_ediv _ _
    · have : Jvm.FP.Core.zmag Jvm.FP.Core.b64 (Jvm.FP.Core.val64 r) = 0 := by omega
      have hz0 : zv r = 0 := by omega
      rw [this, hz0, Nat.zero_div, Jvm.FP.Core.signed_zero, Int.zero_ediv]
  rw [hs] at e
  have b1 : lo ≤ zv r / (Jvm.FP.Core.one64 : Int) := Int.le_ediv_of_mul_le hU h1
  have b2 : zv r / (Jvm.FP.Core.one64 : Int) < hi := Int.ediv_lt_of_lt_mul hU h2
  show lo ≤ (Jvm.FP.Core.d2l r).toInt ∧ (Jvm.FP.Core.d2l r).toInt < hi
  rw [e]; omega
theorem own_law {a b : Int32} {pp : Int64} (ha : 1 < a.toInt) (hb : 1 < b.toInt) (hp : pp = a.toInt64 * b.toInt64) (r : UInt64) (hr : r = own_pu (FP.i2d a) (FP.i2d b)) :
    ¬ (cmpValue (FP.dcmp r 0) .l < 0) ∧ cmpValue (FP.dcmp r 4890691058569617664) .g < 0 ∧ ¬ (FP.d2l r < pp) ∧ ¬ ((pp >>> ((50 : Int32) &&& 0x3f).toInt64) < FP.d2l r - pp) := by
  rw [own_puv ha hb] at hr
  obtain ⟨m1, m2, m3, m4⟩ := own_main (a := a) (b := b) (by omega) (by omega)
  have hP := own_lt62 (a := a) (b := b) (by omega) (by omega)
  have ep := own_pp (a := a) (b := b) (by omega) (by omega)
  have hn := own_succ_nn m1 m2
  have hg := own_succ_gt m1 m2
  rw [← hp] at ep
  rw [← hr] at m3 m4 hn hg
  rw [← ep] at m3 m4 hP
  have hU := U_pos
  have hq : pp.toInt / 1125899906842624 ≤ 4096 := by omega
  have h0 : 0 ≤ pp.toInt / 1125899906842624 := Int.ediv_nonneg hP.1 (by decide)
  have hd := own_d2l hn hP.1 m3 m4 (by omega)
  have e0 : zv 0 = 0 := Jvm.FP.Core.zval64_zero
  refine ⟨?_, ?_, ?_, ?_⟩
  · rw [cv_lt_l]
    rintro (q | q)
    · have := (Jvm.FP.Core.dcmp_lt.mp q).2.2
      have : zv r < zv 0 := this
      omega
    · rcases (Jvm.FP.Core.dcmp_none _ _).mp q with q | q
      · exact hn q
      · exact dy_zero.nn q
  · rw [cv_lt_g]
    refine cmp_lt hn own_e18nn ?_
    rw [own_e18]
    exact Int.lt_trans m4 (Int.mul_lt_mul_of_pos_right (by omega) hU)
  · rw [Int64.lt_iff_toInt_lt]; omega
  · have s := c_lshr pp 50 50 (by decide)
    have c := c_lsub (FP.d2l r) pp; have r2 := rng64 (FP.d2l r - pp)
    have e50 : ((2 ^ 50 : Nat) : Int) = 1125899906842624 := by decide
    rw [e50] at s
    rw [Int64.lt_iff_toInt_lt, s]; omega
theorem own_ge1 {a : Int32} (h : 0 ≤ a.toInt) (q : ¬ FP.dcmp (FP.i2d a) 0 = some .eq) : 1 ≤ a.toInt := by
  have : a.toInt ≠ 0 := fun y => q ((own_cz a).mpr y)
  omega
theorem own_1lt {a : Int32} : (1 : Int32) < a ↔ 1 < a.toInt := by rw [Int32.lt_iff_toInt_lt]; rfl
theorem ef_rmN (m : MethodId) (x0 : UInt64) : entryFrame m #[(.double x0)] 4 = mkF m 0 #[.val (.double x0), .second, .unset, .unset] [] := by first | (simp [entryFrame, mkF, argsToLocals, Value.category]; done) | rfl
theorem d2_0 : decode jdk_29_method_95_code 0 = .ok (.dload_n 0, 1) := by decide +kernel
theorem d2_1 : decode jdk_29_method_95_code 1 = .ok (.ldc2_w 327, 3) := by decide +kernel
theorem d2_4 : decode jdk_29_method_95_code 4 = .ok (.dcmp .g, 1) := by decide +kernel
theorem d2_5 : decode jdk_29_method_95_code 5 = .ok (.ifCond .ge 29, 3) := by decide +kernel
theorem d2_8 : decode jdk_29_method_95_code 8 = .ok (.dload_n 0, 1) := by decide +kernel
theorem d2_9 : decode jdk_29_method_95_code 9 = .ok (.dconst 0, 1) := by decide +kernel
theorem d2_10 : decode jdk_29_method_95_code 10 = .ok (.dadd, 1) := by decide +kernel
theorem d2_11 : decode jdk_29_method_95_code 11 = .ok (.invokestatic 79, 3) := by decide +kernel
theorem d2_14 : decode jdk_29_method_95_code 14 = .ok (.lstore_n 2, 1) := by decide +kernel
theorem d2_15 : decode jdk_29_method_95_code 15 = .ok (.lload_n 2, 1) := by decide +kernel
theorem d2_16 : decode jdk_29_method_95_code 16 = .ok (.lload_n 2, 1) := by decide +kernel
theorem d2_17 : decode jdk_29_method_95_code 17 = .ok (.lconst 0, 1) := by decide +kernel
theorem d2_18 : decode jdk_29_method_95_code 18 = .ok (.lcmp, 1) := by decide +kernel
theorem d2_19 : decode jdk_29_method_95_code 19 = .ok (.ifCond .lt 7, 3) := by decide +kernel
theorem d2_22 : decode jdk_29_method_95_code 22 = .ok (.lconst 1, 1) := by decide +kernel
theorem d2_23 : decode jdk_29_method_95_code 23 = .ok (.goto 6, 3) := by decide +kernel
theorem d2_29 : decode jdk_29_method_95_code 29 = .ok (.ladd, 1) := by decide +kernel
theorem d2_30 : decode jdk_29_method_95_code 30 = .ok (.invokestatic 166, 3) := by decide +kernel
theorem d2_33 : decode jdk_29_method_95_code 33 = .ok (.dreturn, 1) := by decide +kernel
theorem own_pf_rmN : plainFor (⟨"java/lang/Math", "nextUp", "(D)D"⟩ : MethodName) = true := by decide +kernel
def QN (Z : State) (d0 : UInt64) (h0 : Heap) (n0 : Nat) (v : Option Value) (h : Heap) (L : List Loc) : Prop := v = some (.double (d0 + 1)) ∧ Fr n0 L ∧ h = h0
set_option maxRecDepth 65536 in
set_option maxHeartbeats 40000000 in
theorem rmN (l : Launch) (Z : State) (a0 : Array Value) (hw : ∀ d ∈ tables_1, d.before a0 Z = true) (ws : List Jvm.Cond) (d0 : UInt64) (h0 : Heap) (n0 : Nat) (Z0 : n0 ≤ h0.size) (hf : Jvm.FP.Core.DFin d0) (hp : 0 < zv d0) :
    MetFree l (⟨"java/lang/Math", "nextUp", "(D)D"⟩ : MethodName) (head1 (Jvm.Cond.code (⟨"java/lang/Math", "nextUp", "(D)D"⟩ : MethodName) jdk_29_method_95_code 4 (some .double) :: ws) ({ frames := 1, cells := 0, slots := 0, locals := 20 } : Room)) (fun a U => a = #[(.double d0)] ∧ Z.Warmed39 U.vm ∧ U.heap = h0) (fun _ _ _ _ _ => True) (fun _ U o U' => ∃ v L, o = .returned v ∧ QN Z d0 h0 n0 v U'.heap L ∧ FrameEnd U o U' L ({ frames := 1, cells := 0, slots := 0, locals := 20 } : Room).cells ({ frames := 1, cells := 0, slots := 0, locals := 20 } : Room).slots) := by
  refine MetFree.of_bodySF own_pf_rmN hisR ?_
  intro p e s m args below meth c s₁ Bd hml0 hP hK
  obtain ⟨rfl, hZ, hh⟩ := hP
  have hx := Bd.exec
  have hby := Bd.bytes
  have hml : c.maxLocals = 4 := hml0
  have hown : s.vm.findClass "java/lang/Math" = some m.cls := findClass_of_methodNamed Bd.named
  have hnm := (name_of_methodNamed Bd.named Bd.method).1
  have X0 : Stand p l e ({ frames := 1, cells := 0, slots := 0, locals := 20 } : Room) s m #[(.double d0)] below meth c s₁ [] 0 0 := Stand.of_body Bd
  have e0 : s₁.heap = h0 := by rw [← hh, Bd.state]; rfl
  have N0 := Fr.nil n0
  have pre0 : ∀ t, Steps p.tables e below (s₁.setTop (mkF m 0 #[.val (.double d0), .second, .unset, .unset] [])) t → Steps p.tables e below (s₁.setTop (entryFrame m #[(.double d0)] 4)) t := fun t k => castTop (ef_rmN m d0) k
  have a1 : ∀ t, Steps p.tables e below (s₁.setTop (mkF m 11 #[.val (.double d0), .second, .unset, .unset] [(.double (FP.dadd d0 (0 : UInt64)))])) t → Steps p.tables e below (s₁.setTop (entryFrame m #[(.double d0)] 4)) t := by
    intro t k
    refine pre0 t ?_
    show Steps p.tables e below (s₁.setTop (mkF m 0 #[.val (.double d0), .second, .unset, .unset] [])) _
    refine XS.dloadN X0.here hx rfl (hb hby d2_0) rfl ?_
    show Steps p.tables e below (s₁.setTop (mkF m 1 #[.val (.double d0), .second, .unset, .unset] [(.double d0)])) _
    refine X0.ldc2DoubleC hx hown (mvT hZ (hw _ (List.mem_of_getElem? (i := 9) rfl))) (g := (mkF m 1 #[.val (.double d0), .second, .unset, .unset] [(.double d0)])) rfl (hb hby d2_1) _ ?_
    show Steps p.tables e below (s₁.setTop (mkF m 4 #[.val (.double d0), .second, .unset, .unset] [(.double (9218868437227405312 : UInt64)), (.double d0)])) _
    refine XS.dcmpS X0.here hx rfl (hb hby d2_4) rfl rfl ?_
    show Steps p.tables e below (s₁.setTop (mkF m 5 #[.val (.double d0), .second, .unset, .unset] [(.int (cmpValue (FP.dcmp d0 (9218868437227405312 : UInt64)) .g))])) _
    refine XS.ifNo X0.here hx rfl (hb hby d2_5) rfl ((if0 _ _).trans (tlt (own_ltinf hf)).2.1) ?_
    show Steps p.tables e below (s₁.setTop (mkF m 8 #[.val (.double d0), .second, .unset, .unset] [])) _
    refine XS.dloadN X0.here hx rfl (hb hby d2_8) rfl ?_
    show Steps p.tables e below (s₁.setTop (mkF m 9 #[.val (.double d0), .second, .unset, .unset] [(.double d0)])) _
    refine XS.dconst0 X0.here hx rfl (hb hby d2_9) (v := 0) rfl ?_
    show Steps p.tables e below (s₁.setTop (mkF m 10 #[.val (.double d0), .second, .unset, .unset] [(.double (0 : UInt64)), (.double d0)])) _
    refine XS.daddS X0.here hx rfl (hb hby d2_10) rfl (Jvm.Free.Fl.dadd_out (nn64 hf) (Jvm.Free.Fl.fin64_core.mpr dy_zero.1)) rfl ?_
    exact k
  obtain ⟨vm2, X2, st2⟩ := X0.doubleToRawLongBits hx hown (mvT hZ (hw _ (List.mem_of_getElem? (i := 10) rfl))) (mvT hZ (hw _ (List.mem_of_getElem? (i := 13) rfl))) (mvT hZ (hw _ (List.mem_of_getElem? (i := 11) rfl))) (mvT hZ (hw _ (List.mem_of_getElem? (i := 12) rfl))) (g := (mkF m 11 #[.val (.double d0), .second, .unset, .unset] [(.double (FP.dadd d0 (0 : UInt64)))])) rfl (by rw [hml]; rfl) (rest := []) rfl (hb hby d2_11) (by decide) (Nat.le_of_ble_eq_true rfl)
  obtain ⟨T2, hT2⟩ : ∃ z, z = s₁.setVm vm2 := ⟨_, rfl⟩
  rw [← hT2] at X2 st2
  have e2 : T2.heap = h0 := by rw [hT2]; exact e0
  have a3 : ∀ t, Steps p.tables e below (T2.setTop (mkF m 14 #[.val (.double d0), .second, .unset, .unset] [(.long ((FP.dadd d0 (0 : UInt64)).toInt64))])) t → Steps p.tables e below (s₁.setTop (entryFrame m #[(.double d0)] 4)) t := fun t k => a1 t (st2 t k)
  have a4 : ∀ t, Steps p.tables e below (T2.setTop (mkF m 30 #[.val (.double d0), .second, .val (.long ((FP.dadd d0 (0 : UInt64)).toInt64)), .second] [(.long (((FP.dadd d0 (0 : UInt64)).toInt64) + (1 : Int64)))])) t → Steps p.tables e below (s₁.setTop (entryFrame m #[(.double d0)] 4)) t := by
    intro t k
    refine a3 t ?_
    show Steps p.tables e below (T2.setTop (mkF m 14 #[.val (.double d0), .second, .unset, .unset] [(.long ((FP.dadd d0 (0 : UInt64)).toInt64))])) _
    refine XS.lstoreN X2.here hx rfl (hb hby d2_14) rfl (l' := #[.val (.double d0), .second, .val (.long ((FP.dadd d0 (0 : UInt64)).toInt64)), .second]) rfl ?_
    show Steps p.tables e below (T2.setTop (mkF m 15 #[.val (.double d0), .second, .val (.long ((FP.dadd d0 (0 : UInt64)).toInt64)), .second] [])) _
    refine XS.lloadN X2.here hx rfl (hb hby d2_15) rfl ?_
    show Steps p.tables e below (T2.setTop (mkF m 16 #[.val (.double d0), .second, .val (.long ((FP.dadd d0 (0 : UInt64)).toInt64)), .second] [(.long ((FP.dadd d0 (0 : UInt64)).toInt64))])) _
    refine XS.lloadN X2.here hx rfl (hb hby d2_16) rfl ?_
    show Steps p.tables e below (T2.setTop (mkF m 17 #[.val (.double d0), .second, .val (.long ((FP.dadd d0 (0 : UInt64)).toInt64)), .second] [(.long ((FP.dadd d0 (0 : UInt64)).toInt64)), (.long ((FP.dadd d0 (0 : UInt64)).toInt64))])) _
    refine XS.lconst X2.here hx rfl (hb hby d2_17) ?_
    show Steps p.tables e below (T2.setTop (mkF m 18 #[.val (.double d0), .second, .val (.long ((FP.dadd d0 (0 : UInt64)).toInt64)), .second] [(.long (0 : Int64)), (.long ((FP.dadd d0 (0 : UInt64)).toInt64)), (.long ((FP.dadd d0 (0 : UInt64)).toInt64))])) _
    refine XS.lcmp X2.here hx rfl (hb hby d2_18) rfl ?_
    show Steps p.tables e below (T2.setTop (mkF m 19 #[.val (.double d0), .second, .val (.long ((FP.dadd d0 (0 : UInt64)).toInt64)), .second] [(.int (lcmpW ((FP.dadd d0 (0 : UInt64)).toInt64) (0 : Int64))), (.long ((FP.dadd d0 (0 : UInt64)).toInt64))])) _
    refine XS.ifNo X2.here hx rfl (hb hby d2_19) rfl ((if0 _ _).trans (flt (fun q => (own_nneg hf hp) ((lw_lt ((FP.dadd d0 (0 : UInt64)).toInt64) (0 : Int64)).mp q))).1) ?_
    show Steps p.tables e below (T2.setTop (mkF m 22 #[.val (.double d0), .second, .val (.long ((FP.dadd d0 (0 : UInt64)).toInt64)), .second] [(.long ((FP.dadd d0 (0 : UInt64)).toInt64))])) _
    refine XS.lconst X2.here hx rfl (hb hby d2_22) ?_
    show Steps p.tables e below (T2.setTop (mkF m 23 #[.val (.double d0), .second, .val (.long ((FP.dadd d0 (0 : UInt64)).toInt64)), .second] [(.long (1 : Int64)), (.long ((FP.dadd d0 (0 : UInt64)).toInt64))])) _
    refine XS.goto X2.here hx rfl (pc0 := 23) (pc' := 29) rfl (hb hby d2_23) (by decide) (by decide) ?_
    show Steps p.tables e below (T2.setTop (mkF m 29 #[.val (.double d0), .second, .val (.long ((FP.dadd d0 (0 : UInt64)).toInt64)), .second] [(.long (1 : Int64)), (.long ((FP.dadd d0 (0 : UInt64)).toInt64))])) _
    refine XS.ladd X2.here hx rfl (hb hby d2_29) rfl ?_
    exact k
  obtain ⟨vm5, X5, st5⟩ := X2.longBitsToDouble hx hown (mvT hZ (hw _ (List.mem_of_getElem? (i := 14) rfl))) (mvT hZ (hw _ (List.mem_of_getElem? (i := 16) rfl))) (mvT hZ (hw _ (List.mem_of_getElem? (i := 15) rfl))) (mvT hZ (hw _ (List.mem_of_getElem? (i := 12) rfl))) (g := (mkF m 30 #[.val (.double d0), .second, .val (.long ((FP.dadd d0 (0 : UInt64)).toInt64)), .second] [(.long (((FP.dadd d0 (0 : UInt64)).toInt64) + (1 : Int64)))])) rfl (by rw [hml]; rfl) (rest := []) (own_hv hf hp) rfl (hb hby d2_30) (by decide) (Nat.le_of_ble_eq_true rfl)
  obtain ⟨T5, hT5⟩ : ∃ z, z = T2.setVm vm5 := ⟨_, rfl⟩
  rw [← hT5] at X5 st5
  have e5 : T5.heap = h0 := by rw [hT5]; exact e2
  have a6 : ∀ t, Steps p.tables e below (T5.setTop (mkF m 33 #[.val (.double d0), .second, .val (.long ((FP.dadd d0 (0 : UInt64)).toInt64)), .second] [(.double ((((FP.dadd d0 (0 : UInt64)).toInt64) + (1 : Int64)).toUInt64))])) t → Steps p.tables e below (s₁.setTop (entryFrame m #[(.double d0)] 4)) t := fun t k => a4 t (st5 t k)
  obtain ⟨fs, hr, hrun, hended, hW, hsame⟩ := X5.leave (v := some (.double ((((FP.dadd d0 (0 : UInt64)).toInt64) + (1 : Int64)).toUInt64))) (fun h => by rw [Bd.returns] at h; cases h)
  refine ⟨_, _, a6 _ ?_, hrun, hended, _, _, rfl, ?_, ⟨_, rfl⟩, hW, hsame.mono (by decide) (by decide)⟩
  · show Steps p.tables e below (T5.setTop (mkF m 33 #[.val (.double d0), .second, .val (.long ((FP.dadd d0 (0 : UInt64)).toInt64)), .second] [(.double ((((FP.dadd d0 (0 : UInt64)).toInt64) + (1 : Int64)).toUInt64))])) _
    exact retOut X5 hx Bd.returns rfl (Or.inr (Or.inr (Or.inl ⟨rfl, rfl, _, rfl⟩))) (hb hby d2_33) hr
  · show QN Z d0 h0 n0 _ T5.heap _
    rw [e5]
    exact ⟨by rw [own_bits hf hp], N0, rfl⟩
theorem ef_rmPU (m : MethodId) (x0 : UInt64) (x1 : UInt64) : entryFrame m #[(.double x0), (.double x1)] 6 = mkF m 0 #[.val (.double x0), .second, .val (.double x1), .second, .unset, .unset] [] := by first | (simp [entryFrame, mkF, argsToLocals, Value.category]; done) | rfl
theorem d1_0 : decode prog_9_method_7_code 0 = .ok (.dload_n 0, 1) := by decide +kernel
theorem d1_1 : decode prog_9_method_7_code 1 = .ok (.dconst 0, 1) := by decide +kernel
theorem d1_2 : decode prog_9_method_7_code 2 = .ok (.dcmp .l, 1) := by decide +kernel
theorem d1_3 : decode prog_9_method_7_code 3 = .ok (.ifCond .eq 9, 3) := by decide +kernel
theorem d1_12 : decode prog_9_method_7_code 12 = .ok (.dconst 0, 1) := by decide +kernel
theorem d1_13 : decode prog_9_method_7_code 13 = .ok (.dstore 4, 2) := by decide +kernel
theorem d1_15 : decode prog_9_method_7_code 15 = .ok (.goto 35, 3) := by decide +kernel
theorem d1_50 : decode prog_9_method_7_code 50 = .ok (.dload 4, 2) := by decide +kernel
theorem d1_52 : decode prog_9_method_7_code 52 = .ok (.dreturn, 1) := by decide +kernel
theorem d1_6 : decode prog_9_method_7_code 6 = .ok (.dload_n 2, 1) := by decide +kernel
theorem d1_7 : decode prog_9_method_7_code 7 = .ok (.dconst 0, 1) := by decide +kernel
theorem d1_8 : decode prog_9_method_7_code 8 = .ok (.dcmp .l, 1) := by decide +kernel
theorem d1_9 : decode prog_9_method_7_code 9 = .ok (.ifCond .ne 9, 3) := by decide +kernel
theorem d1_18 : decode prog_9_method_7_code 18 = .ok (.dload_n 0, 1) := by decide +kernel
theorem d1_19 : decode prog_9_method_7_code 19 = .ok (.dconst 1, 1) := by decide +kernel
theorem d1_20 : decode prog_9_method_7_code 20 = .ok (.dcmp .l, 1) := by decide +kernel
theorem d1_21 : decode prog_9_method_7_code 21 = .ok (.ifCond .ne 9, 3) := by decide +kernel
theorem d1_24 : decode prog_9_method_7_code 24 = .ok (.dload_n 2, 1) := by decide +kernel
theorem d1_25 : decode prog_9_method_7_code 25 = .ok (.dstore 4, 2) := by decide +kernel
theorem d1_27 : decode prog_9_method_7_code 27 = .ok (.goto 23, 3) := by decide +kernel
theorem d1_30 : decode prog_9_method_7_code 30 = .ok (.dload_n 2, 1) := by decide +kernel
theorem d1_31 : decode prog_9_method_7_code 31 = .ok (.dconst 1, 1) := by decide +kernel
theorem d1_32 : decode prog_9_method_7_code 32 = .ok (.dcmp .l, 1) := by decide +kernel
theorem d1_33 : decode prog_9_method_7_code 33 = .ok (.ifCond .ne 9, 3) := by decide +kernel
theorem d1_36 : decode prog_9_method_7_code 36 = .ok (.dload_n 0, 1) := by decide +kernel
theorem d1_37 : decode prog_9_method_7_code 37 = .ok (.dstore 4, 2) := by decide +kernel
theorem d1_39 : decode prog_9_method_7_code 39 = .ok (.goto 11, 3) := by decide +kernel
theorem d1_42 : decode prog_9_method_7_code 42 = .ok (.dload_n 0, 1) := by decide +kernel
theorem d1_43 : decode prog_9_method_7_code 43 = .ok (.dload_n 2, 1) := by decide +kernel
theorem d1_44 : decode prog_9_method_7_code 44 = .ok (.dmul, 1) := by decide +kernel
theorem d1_45 : decode prog_9_method_7_code 45 = .ok (.invokestatic 23, 3) := by decide +kernel
theorem own_pd0 : parseMethodDescriptor "(D)D" = some ⟨[.double], some .double⟩ := by decide +kernel
theorem d1_48 : decode prog_9_method_7_code 48 = .ok (.dstore 4, 2) := by decide +kernel
theorem own_pn_com_example_pinched_bounds_pinchedbounds_Rounding : plainName "com/example/pinched_bounds/pinchedbounds/Rounding" = true := by first | (simp [plainName, overriddenIn]; done) | decide +kernel
def QPU (Z : State) (d0 : UInt64) (d2 : UInt64) (h0 : Heap) (n0 : Nat) (v : Option Value) (h : Heap) (L : List Loc) : Prop := v = some (.double (own_pu d0 d2)) ∧ Fr n0 L ∧ h = h0
set_option maxRecDepth 65536 in
set_option maxHeartbeats 40000000 in
theorem rmPU (l : Launch) (Z : State) (a0 : Array Value) (hw : ∀ d ∈ tables_1, d.before a0 Z = true) (ws : List Jvm.Cond) (d0 : UInt64) (d2 : UInt64) (h0 : Heap) (n0 : Nat) (Z0 : n0 ≤ h0.size) (h1 : Jvm.FP.Core.DFin d0) (h2 : Jvm.FP.Core.DFin d2) (hlast : ¬ FP.dcmp d0 0 = some .eq → ¬ FP.dcmp d2 0 = some .eq → Jvm.FP.Core.DFin (FP.dmul d0 d2) ∧ 0 < zv (FP.dmul d0 d2)) :
    MetFree l (⟨"com/example/pinched_bounds/pinchedbounds/Rounding", "productUp", "(DD)D"⟩ : MethodName) (head1 (Jvm.Cond.code (⟨"com/example/pinched_bounds/pinchedbounds/Rounding", "productUp", "(DD)D"⟩ : MethodName) prog_9_method_7_code 6 (some .double) :: ws) ({ frames := 2, cells := 0, slots := 0, locals := 35 } : Room)) (fun a U => a = #[(.double d0), (.double d2)] ∧ Z.Warmed39 U.vm ∧ U.heap = h0) (fun _ _ _ _ _ => True) (fun _ U o U' => ∃ v L, o = .returned v ∧ QPU Z d0 d2 h0 n0 v U'.heap L ∧ FrameEnd U o U' L ({ frames := 2, cells := 0, slots := 0, locals := 35 } : Room).cells ({ frames := 2, cells := 0, slots := 0, locals := 35 } : Room).slots) := by
  refine MetFree.of_bodySF (plainFor_of_name own_pn_com_example_pinched_bounds_pinchedbounds_Rounding) hisR ?_
  intro p e s m args below meth c s₁ Bd hml0 hP hK
  obtain ⟨rfl, hZ, hh⟩ := hP
  have hx := Bd.exec
  have hby := Bd.bytes
  have hml : c.maxLocals = 6 := hml0
  have hown : s.vm.findClass "com/example/pinched_bounds/pinchedbounds/Rounding" = some m.cls := findClass_of_methodNamed Bd.named
  have hnm := (name_of_methodNamed Bd.named Bd.method).1
  have X0 : Stand p l e ({ frames := 2, cells := 0, slots := 0, locals := 35 } : Room) s m #[(.double d0), (.double d2)] below meth c s₁ [] 0 0 := Stand.of_body Bd
  have e0 : s₁.heap = h0 := by rw [← hh, Bd.state]; rfl
  have N0 := Fr.nil n0
  have pre0 : ∀ t, Steps p.tables e below (s₁.setTop (mkF m 0 #[.val (.double d0), .second, .val (.double d2), .second, .unset, .unset] [])) t → Steps p.tables e below (s₁.setTop (entryFrame m #[(.double d0), (.double d2)] 6)) t := fun t k => castTop (ef_rmPU m d0 d2) k
  have a1 : ∀ t, Steps p.tables e below (s₁.setTop (mkF m 3 #[.val (.double d0), .second, .val (.double d2), .second, .unset, .unset] [(.int (cmpValue (FP.dcmp d0 (0 : UInt64)) .l))])) t → Steps p.tables e below (s₁.setTop (entryFrame m #[(.double d0), (.double d2)] 6)) t := by
    intro t k
    refine pre0 t ?_
    show Steps p.tables e below (s₁.setTop (mkF m 0 #[.val (.double d0), .second, .val (.double d2), .second, .unset, .unset] [])) _
    refine XS.dloadN X0.here hx rfl (hb hby d1_0) rfl ?_
    show Steps p.tables e below (s₁.setTop (mkF m 1 #[.val (.double d0), .second, .val (.double d2), .second, .unset, .unset] [(.double d0)])) _
    refine XS.dconst0 X0.here hx rfl (hb hby d1_1) (v := 0) rfl ?_
    show Steps p.tables e below (s₁.setTop (mkF m 2 #[.val (.double d0), .second, .val (.double d2), .second, .unset, .unset] [(.double (0 : UInt64)), (.double d0)])) _
    refine XS.dcmpS X0.here hx rfl (hb hby d1_2) rfl rfl ?_
    exact k
  by_cases hc3_2 : (cmpValue (FP.dcmp d0 (0 : UInt64)) .l) = (0 : Int32)
  ·
    have a3 : ∀ t, Steps p.tables e below (s₁.setTop (mkF m 52 #[.val (.double d0), .second, .val (.double d2), .second, .val (.double (0 : UInt64)), .second] [(.double (0 : UInt64))])) t → Steps p.tables e below (s₁.setTop (entryFrame m #[(.double d0), (.double d2)] 6)) t := by
      intro t k
      refine a1 t ?_
      show Steps p.tables e below (s₁.setTop (mkF m 3 #[.val (.double d0), .second, .val (.double d2), .second, .unset, .unset] [(.int (cmpValue (FP.dcmp d0 (0 : UInt64)) .l))])) _
      refine XS.ifYes X0.here hx rfl (pc0 := 3) (pc' := 12) rfl (hb hby d1_3) rfl ((if0 _ _).trans (teq hc3_2).1) (by decide) (by decide) ?_
      show Steps p.tables e below (s₁.setTop (mkF m 12 #[.val (.double d0), .second, .val (.double d2), .second, .unset, .unset] [])) _
      refine XS.dconst0 X0.here hx rfl (hb hby d1_12) (v := 0) rfl ?_
      show Steps p.tables e below (s₁.setTop (mkF m 13 #[.val (.double d0), .second, .val (.double d2), .second, .unset, .unset] [(.double (0 : UInt64))])) _
      refine XS.dstore X0.here hx rfl (hb hby d1_13) rfl (l' := #[.val (.double d0), .second, .val (.double d2), .second, .val (.double (0 : UInt64)), .second]) rfl ?_
      show Steps p.tables e below (s₁.setTop (mkF m 15 #[.val (.double d0), .second, .val (.double d2), .second, .val (.double (0 : UInt64)), .second] [])) _
      refine XS.goto X0.here hx rfl (pc0 := 15) (pc' := 50) rfl (hb hby d1_15) (by decide) (by decide) ?_
      show Steps p.tables e below (s₁.setTop (mkF m 50 #[.val (.double d0), .second, .val (.double d2), .second, .val (.double (0 : UInt64)), .second] [])) _
      refine XS.dload X0.here hx rfl (hb hby d1_50) rfl ?_
      exact k
    obtain ⟨fs, hr, hrun, hended, hW, hsame⟩ := X0.leave (v := some (.double (0 : UInt64))) (fun h => by rw [Bd.returns] at h; cases h)
    refine ⟨_, _, a3 _ ?_, hrun, hended, _, _, rfl, ?_, ⟨_, rfl⟩, hW, hsame.mono (by decide) (by decide)⟩
    · show Steps p.tables e below (s₁.setTop (mkF m 52 #[.val (.double d0), .second, .val (.double d2), .second, .val (.double (0 : UInt64)), .second] [(.double (0 : UInt64))])) _
      exact retOut X0 hx Bd.returns rfl (Or.inr (Or.inr (Or.inl ⟨rfl, rfl, _, rfl⟩))) (hb hby d1_52) hr
    · show QPU Z d0 d2 h0 n0 _ s₁.heap _
      rw [e0]
      exact ⟨by unfold own_pu; rw [if_pos ((cv_eq _ _).mp hc3_2)], N0, rfl⟩
  ·
    have a4 : ∀ t, Steps p.tables e below (s₁.setTop (mkF m 9 #[.val (.double d0), .second, .val (.double d2), .second, .unset, .unset] [(.int (cmpValue (FP.dcmp d2 (0 : UInt64)) .l))])) t → Steps p.tables e below (s₁.setTop (entryFrame m #[(.double d0), (.double d2)] 6)) t := by
      intro t k
      refine a1 t ?_
      show Steps p.tables e below (s₁.setTop (mkF m 3 #[.val (.double d0), .second, .val (.double d2), .second, .unset, .unset] [(.int (cmpValue (FP.dcmp d0 (0 : UInt64)) .l))])) _
      refine XS.ifNo X0.here hx rfl (hb hby d1_3) rfl ((if0 _ _).trans (feq hc3_2).1) ?_
      show Steps p.tables e below (s₁.setTop (mkF m 6 #[.val (.double d0), .second, .val (.double d2), .second, .unset, .unset] [])) _
      refine XS.dloadN X0.here hx rfl (hb hby d1_6) rfl ?_
      show Steps p.tables e below (s₁.setTop (mkF m 7 #[.val (.double d0), .second, .val (.double d2), .second, .unset, .unset] [(.double d2)])) _
      refine XS.dconst0 X0.here hx rfl (hb hby d1_7) (v := 0) rfl ?_
      show Steps p.tables e below (s₁.setTop (mkF m 8 #[.val (.double d0), .second, .val (.double d2), .second, .unset, .unset] [(.double (0 : UInt64)), (.double d2)])) _
      refine XS.dcmpS X0.here hx rfl (hb hby d1_8) rfl rfl ?_
      exact k
    by_cases hc9_5 : (cmpValue (FP.dcmp d2 (0 : UInt64)) .l) = (0 : Int32)
    ·
      have a6 : ∀ t, Steps p.tables e below (s₁.setTop (mkF m 52 #[.val (.double d0), .second, .val (.double d2), .second, .val (.double (0 : UInt64)), .second] [(.double (0 : UInt64))])) t → Steps p.tables e below (s₁.setTop (entryFrame m #[(.double d0), (.double d2)] 6)) t := by
        intro t k
        refine a4 t ?_
        show Steps p.tables e below (s₁.setTop (mkF m 9 #[.val (.double d0), .second, .val (.double d2), .second, .unset, .unset] [(.int (cmpValue (FP.dcmp d2 (0 : UInt64)) .l))])) _
        refine XS.ifNo X0.here hx rfl (hb hby d1_9) rfl ((if0 _ _).trans (teq hc9_5).2) ?_
        show Steps p.tables e below (s₁.setTop (mkF m 12 #[.val (.double d0), .second, .val (.double d2), .second, .unset, .unset] [])) _
        refine XS.dconst0 X0.here hx rfl (hb hby d1_12) (v := 0) rfl ?_
        show Steps p.tables e below (s₁.setTop (mkF m 13 #[.val (.double d0), .second, .val (.double d2), .second, .unset, .unset] [(.double (0 : UInt64))])) _
        refine XS.dstore X0.here hx rfl (hb hby d1_13) rfl (l' := #[.val (.double d0), .second, .val (.double d2), .second, .val (.double (0 : UInt64)), .second]) rfl ?_
        show Steps p.tables e below (s₁.setTop (mkF m 15 #[.val (.double d0), .second, .val (.double d2), .second, .val (.double (0 : UInt64)), .second] [])) _
        refine XS.goto X0.here hx rfl (pc0 := 15) (pc' := 50) rfl (hb hby d1_15) (by decide) (by decide) ?_
        show Steps p.tables e below (s₁.setTop (mkF m 50 #[.val (.double d0), .second, .val (.double d2), .second, .val (.double (0 : UInt64)), .second] [])) _
        refine XS.dload X0.here hx rfl (hb hby d1_50) rfl ?_
        exact k
      obtain ⟨fs, hr, hrun, hended, hW, hsame⟩ := X0.leave (v := some (.double (0 : UInt64))) (fun h => by rw [Bd.returns] at h; cases h)
      refine ⟨_, _, a6 _ ?_, hrun, hended, _, _, rfl, ?_, ⟨_, rfl⟩, hW, hsame.mono (by decide) (by decide)⟩
      · show Steps p.tables e below (s₁.setTop (mkF m 52 #[.val (.double d0), .second, .val (.double d2), .second, .val (.double (0 : UInt64)), .second] [(.double (0 : UInt64))])) _
        exact retOut X0 hx Bd.returns rfl (Or.inr (Or.inr (Or.inl ⟨rfl, rfl, _, rfl⟩))) (hb hby d1_52) hr
      · show QPU Z d0 d2 h0 n0 _ s₁.heap _
        rw [e0]
        exact ⟨by unfold own_pu; rw [if_neg (fun q => hc3_2 ((cv_eq _ _).mpr q)), if_pos ((cv_eq _ _).mp hc9_5)], N0, rfl⟩
    ·
      have a7 : ∀ t, Steps p.tables e below (s₁.setTop (mkF m 21 #[.val (.double d0), .second, .val (.double d2), .second, .unset, .unset] [(.int (cmpValue (FP.dcmp d0 (4607182418800017408 : UInt64)) .l))])) t → Steps p.tables e below (s₁.setTop (entryFrame m #[(.double d0), (.double d2)] 6)) t := by
        intro t k
        refine a4 t ?_
        show Steps p.tables e below (s₁.setTop (mkF m 9 #[.val (.double d0), .second, .val (.double d2), .second, .unset, .unset] [(.int (cmpValue (FP.dcmp d2 (0 : UInt64)) .l))])) _
        refine XS.ifYes X0.here hx rfl (pc0 := 9) (pc' := 18) rfl (hb hby d1_9) rfl ((if0 _ _).trans (feq hc9_5).2) (by decide) (by decide) ?_
        show Steps p.tables e below (s₁.setTop (mkF m 18 #[.val (.double d0), .second, .val (.double d2), .second, .unset, .unset] [])) _
        refine XS.dloadN X0.here hx rfl (hb hby d1_18) rfl ?_
        show Steps p.tables e below (s₁.setTop (mkF m 19 #[.val (.double d0), .second, .val (.double d2), .second, .unset, .unset] [(.double d0)])) _
        refine XS.dconst1 X0.here hx rfl (hb hby d1_19) (v := 4607182418800017408) rfl ?_
        show Steps p.tables e below (s₁.setTop (mkF m 20 #[.val (.double d0), .second, .val (.double d2), .second, .unset, .unset] [(.double (4607182418800017408 : UInt64)), (.double d0)])) _
        refine XS.dcmpS X0.here hx rfl (hb hby d1_20) rfl rfl ?_
        exact k
      by_cases hc21_8 : (cmpValue (FP.dcmp d0 (4607182418800017408 : UInt64)) .l) = (0 : Int32)
      ·
        have a9 : ∀ t, Steps p.tables e below (s₁.setTop (mkF m 52 #[.val (.double d0), .second, .val (.double d2), .second, .val (.double d2), .second] [(.double d2)])) t → Steps p.tables e below (s₁.setTop (entryFrame m #[(.double d0), (.double d2)] 6)) t := by
          intro t k
          refine a7 t ?_
          show Steps p.tables e below (s₁.setTop (mkF m 21 #[.val (.double d0), .second, .val (.double d2), .second, .unset, .unset] [(.int (cmpValue (FP.dcmp d0 (4607182418800017408 : UInt64)) .l))])) _
          refine XS.ifNo X0.here hx rfl (hb hby d1_21) rfl ((if0 _ _).trans (teq hc21_8).2) ?_
          show Steps p.tables e below (s₁.setTop (mkF m 24 #[.val (.double d0), .second, .val (.double d2), .second, .unset, .unset] [])) _
          refine XS.dloadN X0.here hx rfl (hb hby d1_24) rfl ?_
          show Steps p.tables e below (s₁.setTop (mkF m 25 #[.val (.double d0), .second, .val (.double d2), .second, .unset, .unset] [(.double d2)])) _
          refine XS.dstore X0.here hx rfl (hb hby d1_25) rfl (l' := #[.val (.double d0), .second, .val (.double d2), .second, .val (.double d2), .second]) rfl ?_
          show Steps p.tables e below (s₁.setTop (mkF m 27 #[.val (.double d0), .second, .val (.double d2), .second, .val (.double d2), .second] [])) _
          refine XS.goto X0.here hx rfl (pc0 := 27) (pc' := 50) rfl (hb hby d1_27) (by decide) (by decide) ?_
          show Steps p.tables e below (s₁.setTop (mkF m 50 #[.val (.double d0), .second, .val (.double d2), .second, .val (.double d2), .second] [])) _
          refine XS.dload X0.here hx rfl (hb hby d1_50) rfl ?_
          exact k
        obtain ⟨fs, hr, hrun, hended, hW, hsame⟩ := X0.leave (v := some (.double d2)) (fun h => by rw [Bd.returns] at h; cases h)
        refine ⟨_, _, a9 _ ?_, hrun, hended, _, _, rfl, ?_, ⟨_, rfl⟩, hW, hsame.mono (by decide) (by decide)⟩
        · show Steps p.tables e below (s₁.setTop (mkF m 52 #[.val (.double d0), .second, .val (.double d2), .second, .val (.double d2), .second] [(.double d2)])) _
          exact retOut X0 hx Bd.returns rfl (Or.inr (Or.inr (Or.inl ⟨rfl, rfl, _, rfl⟩))) (hb hby d1_52) hr
        · show QPU Z d0 d2 h0 n0 _ s₁.heap _
          rw [e0]
          exact ⟨by unfold own_pu; rw [if_neg (fun q => hc3_2 ((cv_eq _ _).mpr q)), if_neg (fun q => hc9_5 ((cv_eq _ _).mpr q)), if_pos ((cv_eq _ _).mp hc21_8)], N0, rfl⟩
      ·
        have a10 : ∀ t, Steps p.tables e below (s₁.setTop (mkF m 33 #[.val (.double d0), .second, .val (.double d2), .second, .unset, .unset] [(.int (cmpValue (FP.dcmp d2 (4607182418800017408 : UInt64)) .l))])) t → Steps p.tables e below (s₁.setTop (entryFrame m #[(.double d0), (.double d2)] 6)) t := by
          intro t k
          refine a7 t ?_
          show Steps p.tables e below (s₁.setTop (mkF m 21 #[.val (.double d0), .second, .val (.double d2), .second, .unset, .unset] [(.int (cmpValue (FP.dcmp d0 (4607182418800017408 : UInt64)) .l))])) _
          refine XS.ifYes X0.here hx rfl (pc0 := 21) (pc' := 30) rfl (hb hby d1_21) rfl ((if0 _ _).trans (feq hc21_8).2) (by decide) (by decide) ?_
          show Steps p.tables e below (s₁.setTop (mkF m 30 #[.val (.double d0), .second, .val (.double d2), .second, .unset, .unset] [])) _
          refine XS.dloadN X0.here hx rfl (hb hby d1_30) rfl ?_
          show Steps p.tables e below (s₁.setTop (mkF m 31 #[.val (.double d0), .second, .val (.double d2), .second, .unset, .unset] [(.double d2)])) _
          refine XS.dconst1 X0.here hx rfl (hb hby d1_31) (v := 4607182418800017408) rfl ?_
          show Steps p.tables e below (s₁.setTop (mkF m 32 #[.val (.double d0), .second, .val (.double d2), .second, .unset, .unset] [(.double (4607182418800017408 : UInt64)), (.double d2)])) _
          refine XS.dcmpS X0.here hx rfl (hb hby d1_32) rfl rfl ?_
          exact k
        by_cases hc33_11 : (cmpValue (FP.dcmp d2 (4607182418800017408 : UInt64)) .l) = (0 : Int32)
        ·
          have a12 : ∀ t, Steps p.tables e below (s₁.setTop (mkF m 52 #[.val (.double d0), .second, .val (.double d2), .second, .val (.double d0), .second] [(.double d0)])) t → Steps p.tables e below (s₁.setTop (entryFrame m #[(.double d0), (.double d2)] 6)) t := by
            intro t k
            refine a10 t ?_
            show Steps p.tables e below (s₁.setTop (mkF m 33 #[.val (.double d0), .second, .val (.double d2), .second, .unset, .unset] [(.int (cmpValue (FP.dcmp d2 (4607182418800017408 : UInt64)) .l))])) _
            refine XS.ifNo X0.here hx rfl (hb hby d1_33) rfl ((if0 _ _).trans (teq hc33_11).2) ?_
            show Steps p.tables e below (s₁.setTop (mkF m 36 #[.val (.double d0), .second, .val (.double d2), .second, .unset, .unset] [])) _
            refine XS.dloadN X0.here hx rfl (hb hby d1_36) rfl ?_
            show Steps p.tables e below (s₁.setTop (mkF m 37 #[.val (.double d0), .second, .val (.double d2), .second, .unset, .unset] [(.double d0)])) _
            refine XS.dstore X0.here hx rfl (hb hby d1_37) rfl (l' := #[.val (.double d0), .second, .val (.double d2), .second, .val (.double d0), .second]) rfl ?_
            show Steps p.tables e below (s₁.setTop (mkF m 39 #[.val (.double d0), .second, .val (.double d2), .second, .val (.double d0), .second] [])) _
            refine XS.goto X0.here hx rfl (pc0 := 39) (pc' := 50) rfl (hb hby d1_39) (by decide) (by decide) ?_
            show Steps p.tables e below (s₁.setTop (mkF m 50 #[.val (.double d0), .second, .val (.double d2), .second, .val (.double d0), .second] [])) _
            refine XS.dload X0.here hx rfl (hb hby d1_50) rfl ?_
            exact k
          obtain ⟨fs, hr, hrun, hended, hW, hsame⟩ := X0.leave (v := some (.double d0)) (fun h => by rw [Bd.returns] at h; cases h)
          refine ⟨_, _, a12 _ ?_, hrun, hended, _, _, rfl, ?_, ⟨_, rfl⟩, hW, hsame.mono (by decide) (by decide)⟩
          · show Steps p.tables e below (s₁.setTop (mkF m 52 #[.val (.double d0), .second, .val (.double d2), .second, .val (.double d0), .second] [(.double d0)])) _
            exact retOut X0 hx Bd.returns rfl (Or.inr (Or.inr (Or.inl ⟨rfl, rfl, _, rfl⟩))) (hb hby d1_52) hr
          · show QPU Z d0 d2 h0 n0 _ s₁.heap _
            rw [e0]
            exact ⟨by unfold own_pu; rw [if_neg (fun q => hc3_2 ((cv_eq _ _).mpr q)), if_neg (fun q => hc9_5 ((cv_eq _ _).mpr q)), if_neg (fun q => hc21_8 ((cv_eq _ _).mpr q)), if_pos ((cv_eq _ _).mp hc33_11)], N0, rfl⟩
        ·
          have a13 : ∀ t, Steps p.tables e below (s₁.setTop (mkF m 45 #[.val (.double d0), .second, .val (.double d2), .second, .unset, .unset] [(.double (FP.dmul d0 d2))])) t → Steps p.tables e below (s₁.setTop (entryFrame m #[(.double d0), (.double d2)] 6)) t := by
            intro t k
            refine a10 t ?_
            show Steps p.tables e below (s₁.setTop (mkF m 33 #[.val (.double d0), .second, .val (.double d2), .second, .unset, .unset] [(.int (cmpValue (FP.dcmp d2 (4607182418800017408 : UInt64)) .l))])) _
            refine XS.ifYes X0.here hx rfl (pc0 := 33) (pc' := 42) rfl (hb hby d1_33) rfl ((if0 _ _).trans (feq hc33_11).2) (by decide) (by decide) ?_
            show Steps p.tables e below (s₁.setTop (mkF m 42 #[.val (.double d0), .second, .val (.double d2), .second, .unset, .unset] [])) _
            refine XS.dloadN X0.here hx rfl (hb hby d1_42) rfl ?_
            show Steps p.tables e below (s₁.setTop (mkF m 43 #[.val (.double d0), .second, .val (.double d2), .second, .unset, .unset] [(.double d0)])) _
            refine XS.dloadN X0.here hx rfl (hb hby d1_43) rfl ?_
            show Steps p.tables e below (s₁.setTop (mkF m 44 #[.val (.double d0), .second, .val (.double d2), .second, .unset, .unset] [(.double d2), (.double d0)])) _
            refine XS.dmulS X0.here hx rfl (hb hby d1_44) rfl (nnv (mul_nn h1 h2)) rfl ?_
            exact k
          obtain ⟨_, _, ⟨T14, L14, k14, n14⟩, -, X14, ⟨Lc14, hQ14, l14, y14, z14⟩, st14⟩ := Jvm.LawKit.callS X0 hx (y := (⟨"java/lang/Math", "nextUp", "(D)D"⟩ : MethodName)) hown (mvT hZ (hw _ (List.mem_of_getElem? (i := 5) rfl))) (mvT hZ (hw _ (List.mem_of_getElem? (i := 6) rfl))) (mvT hZ (hw _ (List.mem_of_getElem? (i := 7) rfl))) (mvT hZ (hw _ (List.mem_of_getElem? (i := 8) rfl))) (by decide) (backOf (W := 0) (rmN l Z a0 hw [] (FP.dmul d0 d2) h0 n0 Z0 (hlast (fun q => hc3_2 ((cv_eq _ _).mpr q)) (fun q => hc9_5 ((cv_eq _ _).mpr q))).1 (hlast (fun q => hc3_2 ((cv_eq _ _).mpr q)) (fun q => hc9_5 ((cv_eq _ _).mpr q))).2) hZ (hw _ (List.mem_of_getElem? (i := 8) rfl)) (hw _ (List.mem_of_getElem? (i := 7) rfl)) (by decide) (by decide)) (g := (mkF m 45 #[.val (.double d0), .second, .val (.double d2), .second, .unset, .unset] [(.double (FP.dmul d0 d2))])) rfl (by rw [hml]; rfl) (argsL := [(.double (FP.dmul d0 d2))]) (rest := []) (lenOf own_pd0 rfl) rfl (by show 2 * 0 + _ ≤ _; exact Nat.le_of_eq rfl) (hb hby d1_45) (fun _ _ => ⟨rfl, e0, (by decide : 0 + 0 ≤ _), (by decide : 0 + 0 ≤ _)⟩)
          dsimp only [Pt.U, Pt.locs, Pt.cells, Pt.slots] at X14 l14 y14 z14 st14 hQ14
          subst l14 y14 z14
          obtain ⟨rfl, N14q, e14q⟩ := hQ14
          have N14 := Fr.app N0 N14q
          have a15 : ∀ t, Steps p.tables e below (T14.setTop (mkF m 48 #[.val (.double d0), .second, .val (.double d2), .second, .unset, .unset] [(.double ((FP.dmul d0 d2) + 1))])) t → Steps p.tables e below (s₁.setTop (entryFrame m #[(.double d0), (.double d2)] 6)) t := fun t k => a13 t (st14 t k)
          have a16 : ∀ t, Steps p.tables e below (T14.setTop (mkF m 52 #[.val (.double d0), .second, .val (.double d2), .second, .val (.double ((FP.dmul d0 d2) + 1)), .second] [(.double ((FP.dmul d0 d2) + 1))])) t → Steps p.tables e below (s₁.setTop (entryFrame m #[(.double d0), (.double d2)] 6)) t := by
            intro t k
            refine a15 t ?_
            show Steps p.tables e below (T14.setTop (mkF m 48 #[.val (.double d0), .second, .val (.double d2), .second, .unset, .unset] [(.double ((FP.dmul d0 d2) + 1))])) _
            refine XS.dstore X14.here hx rfl (hb hby d1_48) rfl (l' := #[.val (.double d0), .second, .val (.double d2), .second, .val (.double ((FP.dmul d0 d2) + 1)), .second]) rfl ?_
            show Steps p.tables e below (T14.setTop (mkF m 50 #[.val (.double d0), .second, .val (.double d2), .second, .val (.double ((FP.dmul d0 d2) + 1)), .second] [])) _
            refine XS.dload X14.here hx rfl (hb hby d1_50) rfl ?_
            exact k
          obtain ⟨fs, hr, hrun, hended, hW, hsame⟩ := X14.leave (v := some (.double ((FP.dmul d0 d2) + 1))) (fun h => by rw [Bd.returns] at h; cases h)
          refine ⟨_, _, a16 _ ?_, hrun, hended, _, _, rfl, ?_, ⟨_, rfl⟩, hW, hsame.mono (by decide) (by decide)⟩
          · show Steps p.tables e below (T14.setTop (mkF m 52 #[.val (.double d0), .second, .val (.double d2), .second, .val (.double ((FP.dmul d0 d2) + 1)), .second] [(.double ((FP.dmul d0 d2) + 1))])) _
            exact retOut X14 hx Bd.returns rfl (Or.inr (Or.inr (Or.inl ⟨rfl, rfl, _, rfl⟩))) (hb hby d1_52) hr
          · show QPU Z d0 d2 h0 n0 _ T14.heap _
            rw [e14q]
            exact ⟨by unfold own_pu; rw [if_neg (fun q => hc3_2 ((cv_eq _ _).mpr q)), if_neg (fun q => hc9_5 ((cv_eq _ _).mpr q)), if_neg (fun q => hc21_8 ((cv_eq _ _).mpr q)), if_neg (fun q => hc33_11 ((cv_eq _ _).mpr q))], N14, rfl⟩
theorem ef_rm0 (m : MethodId) (x0 : Int32) (x1 : Int32) (x2 : Int32) : entryFrame m #[(.int x0), (.int x1), (.int x2)] maxLocals = mkF m 0 #[.val (.int x0), .val (.int x1), .val (.int x2), .unset, .unset, .unset, .unset, .unset, .unset, .unset, .unset] [] := by first | (simp [entryFrame, mkF, argsToLocals, Value.category, maxLocals]; done) | rfl
theorem own_pd1 : parseMethodDescriptor "(DD)D" = some ⟨[.double, .double], some .double⟩ := by decide +kernel
theorem own_pn_com_example_pinched_bounds_pinchedbounds_RoundingProductUpPinLaw : plainName "com/example/pinched_bounds/pinchedbounds/RoundingProductUpPinLaw" = true := by first | (simp [plainName, overriddenIn]; done) | decide +kernel
def Q0 (Z : State) (p0 : Int32) (p1 : Int32) (p2 : Int32) (h0 : Heap) (n0 : Nat) (v : Option Value) (h : Heap) (L : List Loc) : Prop := v = some (.int 1) ∧ Fr n0 L
set_option maxRecDepth 65536 in
set_option maxHeartbeats 40000000 in
theorem rm0 (l : Launch) (Z : State) (a0 : Array Value) (hw : ∀ d ∈ tables_1, d.before a0 Z = true) (ws : List Jvm.Cond) (p0 : Int32) (p1 : Int32) (p2 : Int32) (h0 : Heap) (n0 : Nat) (Z0 : n0 ≤ h0.size) :
    MetFree l x (head1 (Jvm.Cond.code x code maxLocals ret :: ws) room_1) (fun a U => a = #[(.int p0), (.int p1), (.int p2)] ∧ Z.Warmed39 U.vm ∧ U.heap = h0) (fun _ _ _ _ _ => True) (fun _ U o U' => ∃ v L, o = .returned v ∧ Q0 Z p0 p1 p2 h0 n0 v U'.heap L ∧ FrameEnd U o U' L room_1.cells room_1.slots) := by
  refine MetFree.of_bodySF (plainFor_of_name own_pn_com_example_pinched_bounds_pinchedbounds_RoundingProductUpPinLaw) hisR ?_
  intro p e s m args below meth c s₁ Bd hml0 hP hK
  obtain ⟨rfl, hZ, hh⟩ := hP
  have hx := Bd.exec
  have hby := Bd.bytes
  have hml : c.maxLocals = 11 := hml0
  have hown : s.vm.findClass "com/example/pinched_bounds/pinchedbounds/RoundingProductUpPinLaw" = some m.cls := findClass_of_methodNamed Bd.named
  have hnm := (name_of_methodNamed Bd.named Bd.method).1
  have X0 : Stand p l e room_1 s m #[(.int p0), (.int p1), (.int p2)] below meth c s₁ [] 0 0 := Stand.of_body Bd
  have e0 : s₁.heap = h0 := by rw [← hh, Bd.state]; rfl
  have N0 := Fr.nil n0
  have pre0 : ∀ t, Steps p.tables e below (s₁.setTop (mkF m 0 #[.val (.int p0), .val (.int p1), .val (.int p2), .unset, .unset, .unset, .unset, .unset, .unset, .unset, .unset] [])) t → Steps p.tables e below (s₁.setTop (entryFrame m #[(.int p0), (.int p1), (.int p2)] maxLocals)) t := fun t k => castTop (ef_rm0 m p0 p1 p2) k
  have a1 : ∀ t, Steps p.tables e below (s₁.setTop (mkF m 3 #[.val (.int p0), .val (.int p1), .val (.int p2), .unset, .unset, .unset, .unset, .unset, .unset, .unset, .unset] [(.int (p2 &&& (1 : Int32)))])) t → Steps p.tables e below (s₁.setTop (entryFrame m #[(.int p0), (.int p1), (.int p2)] maxLocals)) t := by
    intro t k
    refine pre0 t ?_
    show Steps p.tables e below (s₁.setTop (mkF m 0 #[.val (.int p0), .val (.int p1), .val (.int p2), .unset, .unset, .unset, .unset, .unset, .unset, .unset, .unset] [])) _
    refine XS.iloadN X0.here hx rfl (hb hby at_0) rfl ?_
    show Steps p.tables e below (s₁.setTop (mkF m 1 #[.val (.int p0), .val (.int p1), .val (.int p2), .unset, .unset, .unset, .unset, .unset, .unset, .unset, .unset] [(.int p2)])) _
    refine XS.iconst X0.here hx rfl (hb hby at_1) ?_
    show Steps p.tables e below (s₁.setTop (mkF m 2 #[.val (.int p0), .val (.int p1), .val (.int p2), .unset, .unset, .unset, .unset, .unset, .unset, .unset, .unset] [(.int (1 : Int32)), (.int p2)])) _
    refine XS.iand X0.here hx rfl (hb hby at_2) rfl ?_
    exact k
  obtain ⟨ia, JA, a5⟩ : ∃ (ia : Int32), ((((p2 &&& (1 : Int32)) = (0 : Int32)) ∧ ia = (p0 &&& (2147483647 : Int32))) ∨ ((¬ ((p2 &&& (1 : Int32)) = (0 : Int32))) ∧ ia = (p0 &&& (3 : Int32)))) ∧ ∀ t, Steps p.tables e below (s₁.setTop (mkF m 16 #[.val (.int p0), .val (.int p1), .val (.int p2), .unset, .unset, .unset, .unset, .unset, .unset, .unset, .unset] [(.int ia)])) t → Steps p.tables e below (s₁.setTop (entryFrame m #[(.int p0), (.int p1), (.int p2)] maxLocals)) t := by
    by_cases hc3_2 : (p2 &&& (1 : Int32)) = (0 : Int32)
    ·
      have a3 : ∀ t, Steps p.tables e below (s₁.setTop (mkF m 16 #[.val (.int p0), .val (.int p1), .val (.int p2), .unset, .unset, .unset, .unset, .unset, .unset, .unset, .unset] [(.int (p0 &&& (2147483647 : Int32)))])) t → Steps p.tables e below (s₁.setTop (entryFrame m #[(.int p0), (.int p1), (.int p2)] maxLocals)) t := by
        intro t k
        refine a1 t ?_
        show Steps p.tables e below (s₁.setTop (mkF m 3 #[.val (.int p0), .val (.int p1), .val (.int p2), .unset, .unset, .unset, .unset, .unset, .unset, .unset, .unset] [(.int (p2 &&& (1 : Int32)))])) _
        refine XS.ifYes X0.here hx rfl (pc0 := 3) (pc' := 12) rfl (hb hby at_3) rfl ((if0 _ _).trans (teq hc3_2).1) (by decide) (by decide) ?_
        show Steps p.tables e below (s₁.setTop (mkF m 12 #[.val (.int p0), .val (.int p1), .val (.int p2), .unset, .unset, .unset, .unset, .unset, .unset, .unset, .unset] [])) _
        refine XS.iloadN X0.here hx rfl (hb hby at_12) rfl ?_
        show Steps p.tables e below (s₁.setTop (mkF m 13 #[.val (.int p0), .val (.int p1), .val (.int p2), .unset, .unset, .unset, .unset, .unset, .unset, .unset, .unset] [(.int p0)])) _
        refine X0.ldcInt hx hown (mvT hZ (hw _ (List.mem_of_getElem? (i := 0) rfl))) (g := (mkF m 13 #[.val (.int p0), .val (.int p1), .val (.int p2), .unset, .unset, .unset, .unset, .unset, .unset, .unset, .unset] [(.int p0)])) rfl (hb hby at_13) _ ?_
        show Steps p.tables e below (s₁.setTop (mkF m 15 #[.val (.int p0), .val (.int p1), .val (.int p2), .unset, .unset, .unset, .unset, .unset, .unset, .unset, .unset] [(.int (2147483647 : Int32)), (.int p0)])) _
        refine XS.iand X0.here hx rfl (hb hby at_15) rfl ?_
        exact k
      exact ⟨(p0 &&& (2147483647 : Int32)), Or.inl ⟨hc3_2, rfl⟩, a3⟩
    ·
      have a4 : ∀ t, Steps p.tables e below (s₁.setTop (mkF m 16 #[.val (.int p0), .val (.int p1), .val (.int p2), .unset, .unset, .unset, .unset, .unset, .unset, .unset, .unset] [(.int (p0 &&& (3 : Int32)))])) t → Steps p.tables e below (s₁.setTop (entryFrame m #[(.int p0), (.int p1), (.int p2)] maxLocals)) t := by
        intro t k
        refine a1 t ?_
        show Steps p.tables e below (s₁.setTop (mkF m 3 #[.val (.int p0), .val (.int p1), .val (.int p2), .unset, .unset, .unset, .unset, .unset, .unset, .unset, .unset] [(.int (p2 &&& (1 : Int32)))])) _
        refine XS.ifNo X0.here hx rfl (hb hby at_3) rfl ((if0 _ _).trans (feq hc3_2).1) ?_
        show Steps p.tables e below (s₁.setTop (mkF m 6 #[.val (.int p0), .val (.int p1), .val (.int p2), .unset, .unset, .unset, .unset, .unset, .unset, .unset, .unset] [])) _
        refine XS.iloadN X0.here hx rfl (hb hby at_6) rfl ?_
        show Steps p.tables e below (s₁.setTop (mkF m 7 #[.val (.int p0), .val (.int p1), .val (.int p2), .unset, .unset, .unset, .unset, .unset, .unset, .unset, .unset] [(.int p0)])) _
        refine XS.iconst X0.here hx rfl (hb hby at_7) ?_
        show Steps p.tables e below (s₁.setTop (mkF m 8 #[.val (.int p0), .val (.int p1), .val (.int p2), .unset, .unset, .unset, .unset, .unset, .unset, .unset, .unset] [(.int (3 : Int32)), (.int p0)])) _
        refine XS.iand X0.here hx rfl (hb hby at_8) rfl ?_
        show Steps p.tables e below (s₁.setTop (mkF m 9 #[.val (.int p0), .val (.int p1), .val (.int p2), .unset, .unset, .unset, .unset, .unset, .unset, .unset, .unset] [(.int (p0 &&& (3 : Int32)))])) _
        refine XS.goto X0.here hx rfl (pc0 := 9) (pc' := 16) rfl (hb hby at_9) (by decide) (by decide) ?_
        exact k
      exact ⟨(p0 &&& (3 : Int32)), Or.inr (⟨hc3_2, rfl⟩), a4⟩
  have a6 : ∀ t, Steps p.tables e below (s₁.setTop (mkF m 20 #[.val (.int p0), .val (.int p1), .val (.int p2), .val (.int ia), .unset, .unset, .unset, .unset, .unset, .unset, .unset] [(.int (p2 &&& (2 : Int32)))])) t → Steps p.tables e below (s₁.setTop (entryFrame m #[(.int p0), (.int p1), (.int p2)] maxLocals)) t := by
    intro t k
    refine a5 t ?_
    show Steps p.tables e below (s₁.setTop (mkF m 16 #[.val (.int p0), .val (.int p1), .val (.int p2), .unset, .unset, .unset, .unset, .unset, .unset, .unset, .unset] [(.int ia)])) _
    refine XS.istoreN X0.here hx rfl (hb hby at_16) rfl (l' := #[.val (.int p0), .val (.int p1), .val (.int p2), .val (.int ia), .unset, .unset, .unset, .unset, .unset, .unset, .unset]) rfl ?_
    show Steps p.tables e below (s₁.setTop (mkF m 17 #[.val (.int p0), .val (.int p1), .val (.int p2), .val (.int ia), .unset, .unset, .unset, .unset, .unset, .unset, .unset] [])) _
    refine XS.iloadN X0.here hx rfl (hb hby at_17) rfl ?_
    show Steps p.tables e below (s₁.setTop (mkF m 18 #[.val (.int p0), .val (.int p1), .val (.int p2), .val (.int ia), .unset, .unset, .unset, .unset, .unset, .unset, .unset] [(.int p2)])) _
    refine XS.iconst X0.here hx rfl (hb hby at_18) ?_
    show Steps p.tables e below (s₁.setTop (mkF m 19 #[.val (.int p0), .val (.int p1), .val (.int p2), .val (.int ia), .unset, .unset, .unset, .unset, .unset, .unset, .unset] [(.int (2 : Int32)), (.int p2)])) _
    refine XS.iand X0.here hx rfl (hb hby at_19) rfl ?_
    exact k
  obtain ⟨ib, JB, a10⟩ : ∃ (ib : Int32), ((((p2 &&& (2 : Int32)) = (0 : Int32)) ∧ ib = (p1 &&& (2147483647 : Int32))) ∨ ((¬ ((p2 &&& (2 : Int32)) = (0 : Int32))) ∧ ib = (p1 &&& (3 : Int32)))) ∧ ∀ t, Steps p.tables e below (s₁.setTop (mkF m 33 #[.val (.int p0), .val (.int p1), .val (.int p2), .val (.int ia), .unset, .unset, .unset, .unset, .unset, .unset, .unset] [(.int ib)])) t → Steps p.tables e below (s₁.setTop (entryFrame m #[(.int p0), (.int p1), (.int p2)] maxLocals)) t := by
    by_cases hc20_7 : (p2 &&& (2 : Int32)) = (0 : Int32)
    ·
      have a8 : ∀ t, Steps p.tables e below (s₁.setTop (mkF m 33 #[.val (.int p0), .val (.int p1), .val (.int p2), .val (.int ia), .unset, .unset, .unset, .unset, .unset, .unset, .unset] [(.int (p1 &&& (2147483647 : Int32)))])) t → Steps p.tables e below (s₁.setTop (entryFrame m #[(.int p0), (.int p1), (.int p2)] maxLocals)) t := by
        intro t k
        refine a6 t ?_
        show Steps p.tables e below (s₁.setTop (mkF m 20 #[.val (.int p0), .val (.int p1), .val (.int p2), .val (.int ia), .unset, .unset, .unset, .unset, .unset, .unset, .unset] [(.int (p2 &&& (2 : Int32)))])) _
        refine XS.ifYes X0.here hx rfl (pc0 := 20) (pc' := 29) rfl (hb hby at_20) rfl ((if0 _ _).trans (teq hc20_7).1) (by decide) (by decide) ?_
        show Steps p.tables e below (s₁.setTop (mkF m 29 #[.val (.int p0), .val (.int p1), .val (.int p2), .val (.int ia), .unset, .unset, .unset, .unset, .unset, .unset, .unset] [])) _
        refine XS.iloadN X0.here hx rfl (hb hby at_29) rfl ?_
        show Steps p.tables e below (s₁.setTop (mkF m 30 #[.val (.int p0), .val (.int p1), .val (.int p2), .val (.int ia), .unset, .unset, .unset, .unset, .unset, .unset, .unset] [(.int p1)])) _
        refine X0.ldcInt hx hown (mvT hZ (hw _ (List.mem_of_getElem? (i := 0) rfl))) (g := (mkF m 30 #[.val (.int p0), .val (.int p1), .val (.int p2), .val (.int ia), .unset, .unset, .unset, .unset, .unset, .unset, .unset] [(.int p1)])) rfl (hb hby at_30) _ ?_
        show Steps p.tables e below (s₁.setTop (mkF m 32 #[.val (.int p0), .val (.int p1), .val (.int p2), .val (.int ia), .unset, .unset, .unset, .unset, .unset, .unset, .unset] [(.int (2147483647 : Int32)), (.int p1)])) _
        refine XS.iand X0.here hx rfl (hb hby at_32) rfl ?_
        exact k
      exact ⟨(p1 &&& (2147483647 : Int32)), Or.inl ⟨hc20_7, rfl⟩, a8⟩
    ·
      have a9 : ∀ t, Steps p.tables e below (s₁.setTop (mkF m 33 #[.val (.int p0), .val (.int p1), .val (.int p2), .val (.int ia), .unset, .unset, .unset, .unset, .unset, .unset, .unset] [(.int (p1 &&& (3 : Int32)))])) t → Steps p.tables e below (s₁.setTop (entryFrame m #[(.int p0), (.int p1), (.int p2)] maxLocals)) t := by
        intro t k
        refine a6 t ?_
        show Steps p.tables e below (s₁.setTop (mkF m 20 #[.val (.int p0), .val (.int p1), .val (.int p2), .val (.int ia), .unset, .unset, .unset, .unset, .unset, .unset, .unset] [(.int (p2 &&& (2 : Int32)))])) _
        refine XS.ifNo X0.here hx rfl (hb hby at_20) rfl ((if0 _ _).trans (feq hc20_7).1) ?_
        show Steps p.tables e below (s₁.setTop (mkF m 23 #[.val (.int p0), .val (.int p1), .val (.int p2), .val (.int ia), .unset, .unset, .unset, .unset, .unset, .unset, .unset] [])) _
        refine XS.iloadN X0.here hx rfl (hb hby at_23) rfl ?_
        show Steps p.tables e below (s₁.setTop (mkF m 24 #[.val (.int p0), .val (.int p1), .val (.int p2), .val (.int ia), .unset, .unset, .unset, .unset, .unset, .unset, .unset] [(.int p1)])) _
        refine XS.iconst X0.here hx rfl (hb hby at_24) ?_
        show Steps p.tables e below (s₁.setTop (mkF m 25 #[.val (.int p0), .val (.int p1), .val (.int p2), .val (.int ia), .unset, .unset, .unset, .unset, .unset, .unset, .unset] [(.int (3 : Int32)), (.int p1)])) _
        refine XS.iand X0.here hx rfl (hb hby at_25) rfl ?_
        show Steps p.tables e below (s₁.setTop (mkF m 26 #[.val (.int p0), .val (.int p1), .val (.int p2), .val (.int ia), .unset, .unset, .unset, .unset, .unset, .unset, .unset] [(.int (p1 &&& (3 : Int32)))])) _
        refine XS.goto X0.here hx rfl (pc0 := 26) (pc' := 33) rfl (hb hby at_26) (by decide) (by decide) ?_
        exact k
      exact ⟨(p1 &&& (3 : Int32)), Or.inr (⟨hc20_7, rfl⟩), a9⟩
  have hia := own_ge JA
  have hib := own_ge JB
  have a11 : ∀ t, Steps p.tables e below (s₁.setTop (mkF m 40 #[.val (.int p0), .val (.int p1), .val (.int p2), .val (.int ia), .val (.int ib), .unset, .unset, .unset, .unset, .unset, .unset] [(.double (FP.i2d ib)), (.double (FP.i2d ia))])) t → Steps p.tables e below (s₁.setTop (entryFrame m #[(.int p0), (.int p1), (.int p2)] maxLocals)) t := by
    intro t k
    refine a10 t ?_
    show Steps p.tables e below (s₁.setTop (mkF m 33 #[.val (.int p0), .val (.int p1), .val (.int p2), .val (.int ia), .unset, .unset, .unset, .unset, .unset, .unset, .unset] [(.int ib)])) _
    refine XS.istore X0.here hx rfl (hb hby at_33) rfl (l' := #[.val (.int p0), .val (.int p1), .val (.int p2), .val (.int ia), .val (.int ib), .unset, .unset, .unset, .unset, .unset, .unset]) rfl ?_
    show Steps p.tables e below (s₁.setTop (mkF m 35 #[.val (.int p0), .val (.int p1), .val (.int p2), .val (.int ia), .val (.int ib), .unset, .unset, .unset, .unset, .unset, .unset] [])) _
    refine XS.iloadN X0.here hx rfl (hb hby at_35) rfl ?_
    show Steps p.tables e below (s₁.setTop (mkF m 36 #[.val (.int p0), .val (.int p1), .val (.int p2), .val (.int ia), .val (.int ib), .unset, .unset, .unset, .unset, .unset, .unset] [(.int ia)])) _
    refine XS.i2dS X0.here hx rfl (hb hby at_36) rfl rfl ?_
    show Steps p.tables e below (s₁.setTop (mkF m 37 #[.val (.int p0), .val (.int p1), .val (.int p2), .val (.int ia), .val (.int ib), .unset, .unset, .unset, .unset, .unset, .unset] [(.double (FP.i2d ia))])) _
    refine XS.iload X0.here hx rfl (hb hby at_37) rfl ?_
    show Steps p.tables e below (s₁.setTop (mkF m 39 #[.val (.int p0), .val (.int p1), .val (.int p2), .val (.int ia), .val (.int ib), .unset, .unset, .unset, .unset, .unset, .unset] [(.int ib), (.double (FP.i2d ia))])) _
    refine XS.i2dS X0.here hx rfl (hb hby at_39) rfl rfl ?_
    exact k
  obtain ⟨_, _, ⟨T12, L12, k12, n12⟩, -, X12, ⟨Lc12, hQ12, l12, y12, z12⟩, st12⟩ := Jvm.LawKit.callS X0 hx (y := (⟨"com/example/pinched_bounds/pinchedbounds/Rounding", "productUp", "(DD)D"⟩ : MethodName)) hown (mvT hZ (hw _ (List.mem_of_getElem? (i := 1) rfl))) (mvT hZ (hw _ (List.mem_of_getElem? (i := 2) rfl))) (mvT hZ (hw _ (List.mem_of_getElem? (i := 3) rfl))) (mvT hZ (hw _ (List.mem_of_getElem? (i := 4) rfl))) (by decide) (backOf (W := 0) (rmPU l Z a0 hw [] (FP.i2d ia) (FP.i2d ib) h0 n0 Z0 (dy_i2d ia).1 (dy_i2d ib).1 (fun q1 q2 => have m := own_main (a := ia) (b := ib) (own_ge1 hia q1) (own_ge1 hib q2); ⟨m.1, m.2.1⟩)) hZ (hw _ (List.mem_of_getElem? (i := 4) rfl)) (hw _ (List.mem_of_getElem? (i := 3) rfl)) (by decide) (by decide)) (g := (mkF m 40 #[.val (.int p0), .val (.int p1), .val (.int p2), .val (.int ia), .val (.int ib), .unset, .unset, .unset, .unset, .unset, .unset] [(.double (FP.i2d ib)), (.double (FP.i2d ia))])) rfl (by rw [hml]; rfl) (argsL := [(.double (FP.i2d ia)), (.double (FP.i2d ib))]) (rest := []) (lenOf own_pd1 rfl) rfl (by show 2 * 0 + _ ≤ _; exact Nat.le_of_eq rfl) (hb hby at_40) (fun _ _ => ⟨rfl, e0, (by decide : 0 + 0 ≤ _), (by decide : 0 + 0 ≤ _)⟩)
  dsimp only [Pt.U, Pt.locs, Pt.cells, Pt.slots] at X12 l12 y12 z12 st12 hQ12
  subst l12 y12 z12
  obtain ⟨rfl, N12q, e12q⟩ := hQ12
  have N12 := Fr.app N0 N12q
  have a13 : ∀ t, Steps p.tables e below (T12.setTop (mkF m 43 #[.val (.int p0), .val (.int p1), .val (.int p2), .val (.int ia), .val (.int ib), .unset, .unset, .unset, .unset, .unset, .unset] [(.double (own_pu (FP.i2d ia) (FP.i2d ib)))])) t → Steps p.tables e below (s₁.setTop (entryFrame m #[(.int p0), (.int p1), (.int p2)] maxLocals)) t := fun t k => a11 t (st12 t k)
  obtain ⟨r, h_r⟩ : ∃ z : UInt64, z = (own_pu (FP.i2d ia) (FP.i2d ib)) := ⟨_, rfl⟩
  rw [← h_r] at a13
  have a14 : ∀ t, Steps p.tables e below (T12.setTop (mkF m 51 #[.val (.int p0), .val (.int p1), .val (.int p2), .val (.int ia), .val (.int ib), .val (.double r), .second, .unset, .unset, .unset, .unset] [(.long ((ia.toInt64) * (ib.toInt64)))])) t → Steps p.tables e below (s₁.setTop (entryFrame m #[(.int p0), (.int p1), (.int p2)] maxLocals)) t := by
    intro t k
    refine a13 t ?_
    show Steps p.tables e below (T12.setTop (mkF m 43 #[.val (.int p0), .val (.int p1), .val (.int p2), .val (.int ia), .val (.int ib), .unset, .unset, .unset, .unset, .unset, .unset] [(.double r)])) _
    refine XS.dstore X12.here hx rfl (hb hby at_43) rfl (l' := #[.val (.int p0), .val (.int p1), .val (.int p2), .val (.int ia), .val (.int ib), .val (.double r), .second, .unset, .unset, .unset, .unset]) rfl ?_
    show Steps p.tables e below (T12.setTop (mkF m 45 #[.val (.int p0), .val (.int p1), .val (.int p2), .val (.int ia), .val (.int ib), .val (.double r), .second, .unset, .unset, .unset, .unset] [])) _
    refine XS.iloadN X12.here hx rfl (hb hby at_45) rfl ?_
    show Steps p.tables e below (T12.setTop (mkF m 46 #[.val (.int p0), .val (.int p1), .val (.int p2), .val (.int ia), .val (.int ib), .val (.double r), .second, .unset, .unset, .unset, .unset] [(.int ia)])) _
    refine XS.i2l X12.here hx rfl (hb hby at_46) rfl ?_
    show Steps p.tables e below (T12.setTop (mkF m 47 #[.val (.int p0), .val (.int p1), .val (.int p2), .val (.int ia), .val (.int ib), .val (.double r), .second, .unset, .unset, .unset, .unset] [(.long (ia.toInt64))])) _
    refine XS.iload X12.here hx rfl (hb hby at_47) rfl ?_
    show Steps p.tables e below (T12.setTop (mkF m 49 #[.val (.int p0), .val (.int p1), .val (.int p2), .val (.int ia), .val (.int ib), .val (.double r), .second, .unset, .unset, .unset, .unset] [(.int ib), (.long (ia.toInt64))])) _
    refine XS.i2l X12.here hx rfl (hb hby at_49) rfl ?_
    show Steps p.tables e below (T12.setTop (mkF m 50 #[.val (.int p0), .val (.int p1), .val (.int p2), .val (.int ia), .val (.int ib), .val (.double r), .second, .unset, .unset, .unset, .unset] [(.long (ib.toInt64)), (.long (ia.toInt64))])) _
    refine XS.lmul X12.here hx rfl (hb hby at_50) rfl ?_
    exact k
  obtain ⟨pp, h_pp⟩ : ∃ z : Int64, z = ((ia.toInt64) * (ib.toInt64)) := ⟨_, rfl⟩
  rw [← h_pp] at a14
  have a15 : ∀ t, Steps p.tables e below (T12.setTop (mkF m 55 #[.val (.int p0), .val (.int p1), .val (.int p2), .val (.int ia), .val (.int ib), .val (.double r), .second, .val (.long pp), .second, .unset, .unset] [(.int (1 : Int32)), (.int ia)])) t → Steps p.tables e below (s₁.setTop (entryFrame m #[(.int p0), (.int p1), (.int p2)] maxLocals)) t := by
    intro t k
    refine a14 t ?_
    show Steps p.tables e below (T12.setTop (mkF m 51 #[.val (.int p0), .val (.int p1), .val (.int p2), .val (.int ia), .val (.int ib), .val (.double r), .second, .unset, .unset, .unset, .unset] [(.long pp)])) _
    refine XS.lstore X12.here hx rfl (hb hby at_51) rfl (l' := #[.val (.int p0), .val (.int p1), .val (.int p2), .val (.int ia), .val (.int ib), .val (.double r), .second, .val (.long pp), .second, .unset, .unset]) rfl ?_
    show Steps p.tables e below (T12.setTop (mkF m 53 #[.val (.int p0), .val (.int p1), .val (.int p2), .val (.int ia), .val (.int ib), .val (.double r), .second, .val (.long pp), .second, .unset, .unset] [])) _
    refine XS.iloadN X12.here hx rfl (hb hby at_53) rfl ?_
    show Steps p.tables e below (T12.setTop (mkF m 54 #[.val (.int p0), .val (.int p1), .val (.int p2), .val (.int ia), .val (.int ib), .val (.double r), .second, .val (.long pp), .second, .unset, .unset] [(.int ia)])) _
    refine XS.iconst X12.here hx rfl (hb hby at_54) ?_
    exact k
  by_cases hc55_16 : (1 : Int32) < ia
  ·
    have a17 : ∀ t, Steps p.tables e below (T12.setTop (mkF m 61 #[.val (.int p0), .val (.int p1), .val (.int p2), .val (.int ia), .val (.int ib), .val (.double r), .second, .val (.long pp), .second, .unset, .unset] [(.int (1 : Int32)), (.int ib)])) t → Steps p.tables e below (s₁.setTop (entryFrame m #[(.int p0), (.int p1), (.int p2)] maxLocals)) t := by
      intro t k
      refine a15 t ?_
      show Steps p.tables e below (T12.setTop (mkF m 55 #[.val (.int p0), .val (.int p1), .val (.int p2), .val (.int ia), .val (.int ib), .val (.double r), .second, .val (.long pp), .second, .unset, .unset] [(.int (1 : Int32)), (.int ia)])) _
      refine XS.icmpNo X12.here hx rfl (hb hby at_55) rfl (tlt hc55_16).2.2.2 ?_
      show Steps p.tables e below (T12.setTop (mkF m 58 #[.val (.int p0), .val (.int p1), .val (.int p2), .val (.int ia), .val (.int ib), .val (.double r), .second, .val (.long pp), .second, .unset, .unset] [])) _
      refine XS.iload X12.here hx rfl (hb hby at_58) rfl ?_
      show Steps p.tables e below (T12.setTop (mkF m 60 #[.val (.int p0), .val (.int p1), .val (.int p2), .val (.int ia), .val (.int ib), .val (.double r), .second, .val (.long pp), .second, .unset, .unset] [(.int ib)])) _
      refine XS.iconst X12.here hx rfl (hb hby at_60) ?_
      exact k
    by_cases hc61_18 : (1 : Int32) < ib
    ·
      have a19 : ∀ t, Steps p.tables e below (T12.setTop (mkF m 129 #[.val (.int p0), .val (.int p1), .val (.int p2), .val (.int ia), .val (.int ib), .val (.double r), .second, .val (.long pp), .second, .val (.long (FP.d2l r)), .second] [(.int (1 : Int32))])) t → Steps p.tables e below (s₁.setTop (entryFrame m #[(.int p0), (.int p1), (.int p2)] maxLocals)) t := by
        intro t k
        refine a17 t ?_
        show Steps p.tables e below (T12.setTop (mkF m 61 #[.val (.int p0), .val (.int p1), .val (.int p2), .val (.int ia), .val (.int ib), .val (.double r), .second, .val (.long pp), .second, .unset, .unset] [(.int (1 : Int32)), (.int ib)])) _
        refine XS.icmpYes X12.here hx rfl (pc0 := 61) (pc' := 79) rfl (hb hby at_61) rfl (tlt hc61_18).2.2.1 (by decide) (by decide) ?_
        show Steps p.tables e below (T12.setTop (mkF m 79 #[.val (.int p0), .val (.int p1), .val (.int p2), .val (.int ia), .val (.int ib), .val (.double r), .second, .val (.long pp), .second, .unset, .unset] [])) _
        refine XS.dload X12.here hx rfl (hb hby at_79) rfl ?_
        show Steps p.tables e below (T12.setTop (mkF m 81 #[.val (.int p0), .val (.int p1), .val (.int p2), .val (.int ia), .val (.int ib), .val (.double r), .second, .val (.long pp), .second, .unset, .unset] [(.double r)])) _
        refine XS.dconst0 X12.here hx rfl (hb hby at_81) (v := 0) rfl ?_
        show Steps p.tables e below (T12.setTop (mkF m 82 #[.val (.int p0), .val (.int p1), .val (.int p2), .val (.int ia), .val (.int ib), .val (.double r), .second, .val (.long pp), .second, .unset, .unset] [(.double (0 : UInt64)), (.double r)])) _
        refine XS.dcmpS X12.here hx rfl (hb hby at_82) rfl rfl ?_
        show Steps p.tables e below (T12.setTop (mkF m 83 #[.val (.int p0), .val (.int p1), .val (.int p2), .val (.int ia), .val (.int ib), .val (.double r), .second, .val (.long pp), .second, .unset, .unset] [(.int (cmpValue (FP.dcmp r (0 : UInt64)) .l))])) _
        refine XS.ifNo X12.here hx rfl (hb hby at_83) rfl ((if0 _ _).trans (flt (own_law (own_1lt.mp hc55_16) (own_1lt.mp hc61_18) h_pp r h_r).1).1) ?_
        show Steps p.tables e below (T12.setTop (mkF m 86 #[.val (.int p0), .val (.int p1), .val (.int p2), .val (.int ia), .val (.int ib), .val (.double r), .second, .val (.long pp), .second, .unset, .unset] [])) _
        refine XS.dload X12.here hx rfl (hb hby at_86) rfl ?_
        show Steps p.tables e below (T12.setTop (mkF m 88 #[.val (.int p0), .val (.int p1), .val (.int p2), .val (.int ia), .val (.int ib), .val (.double r), .second, .val (.long pp), .second, .unset, .unset] [(.double r)])) _
        refine X12.ldc2DoubleC hx hown (mvT hZ (hw _ (List.mem_of_getElem? (i := 17) rfl))) (g := (mkF m 88 #[.val (.int p0), .val (.int p1), .val (.int p2), .val (.int ia), .val (.int ib), .val (.double r), .second, .val (.long pp), .second, .unset, .unset] [(.double r)])) rfl (hb hby at_88) _ ?_
        show Steps p.tables e below (T12.setTop (mkF m 91 #[.val (.int p0), .val (.int p1), .val (.int p2), .val (.int ia), .val (.int ib), .val (.double r), .second, .val (.long pp), .second, .unset, .unset] [(.double (4890691058569617664 : UInt64)), (.double r)])) _
        refine XS.dcmpS X12.here hx rfl (hb hby at_91) rfl rfl ?_
        show Steps p.tables e below (T12.setTop (mkF m 92 #[.val (.int p0), .val (.int p1), .val (.int p2), .val (.int ia), .val (.int ib), .val (.double r), .second, .val (.long pp), .second, .unset, .unset] [(.int (cmpValue (FP.dcmp r (4890691058569617664 : UInt64)) .g))])) _
        refine XS.ifYes X12.here hx rfl (pc0 := 92) (pc' := 97) rfl (hb hby at_92) rfl ((if0 _ _).trans (tlt (own_law (own_1lt.mp hc55_16) (own_1lt.mp hc61_18) h_pp r h_r).2.1).1) (by decide) (by decide) ?_
        show Steps p.tables e below (T12.setTop (mkF m 97 #[.val (.int p0), .val (.int p1), .val (.int p2), .val (.int ia), .val (.int ib), .val (.double r), .second, .val (.long pp), .second, .unset, .unset] [])) _
        refine XS.dload X12.here hx rfl (hb hby at_97) rfl ?_
        show Steps p.tables e below (T12.setTop (mkF m 99 #[.val (.int p0), .val (.int p1), .val (.int p2), .val (.int ia), .val (.int ib), .val (.double r), .second, .val (.long pp), .second, .unset, .unset] [(.double r)])) _
        refine XS.d2lS X12.here hx rfl (hb hby at_99) rfl rfl ?_
        show Steps p.tables e below (T12.setTop (mkF m 100 #[.val (.int p0), .val (.int p1), .val (.int p2), .val (.int ia), .val (.int ib), .val (.double r), .second, .val (.long pp), .second, .unset, .unset] [(.long (FP.d2l r))])) _
        refine XS.lstore X12.here hx rfl (hb hby at_100) rfl (l' := #[.val (.int p0), .val (.int p1), .val (.int p2), .val (.int ia), .val (.int ib), .val (.double r), .second, .val (.long pp), .second, .val (.long (FP.d2l r)), .second]) rfl ?_
        show Steps p.tables e below (T12.setTop (mkF m 102 #[.val (.int p0), .val (.int p1), .val (.int p2), .val (.int ia), .val (.int ib), .val (.double r), .second, .val (.long pp), .second, .val (.long (FP.d2l r)), .second] [])) _
        refine XS.lload X12.here hx rfl (hb hby at_102) rfl ?_
        show Steps p.tables e below (T12.setTop (mkF m 104 #[.val (.int p0), .val (.int p1), .val (.int p2), .val (.int ia), .val (.int ib), .val (.double r), .second, .val (.long pp), .second, .val (.long (FP.d2l r)), .second] [(.long (FP.d2l r))])) _
        refine XS.lload X12.here hx rfl (hb hby at_104) rfl ?_
        show Steps p.tables e below (T12.setTop (mkF m 106 #[.val (.int p0), .val (.int p1), .val (.int p2), .val (.int ia), .val (.int ib), .val (.double r), .second, .val (.long pp), .second, .val (.long (FP.d2l r)), .second] [(.long pp), (.long (FP.d2l r))])) _
        refine XS.lcmp X12.here hx rfl (hb hby at_106) rfl ?_
        show Steps p.tables e below (T12.setTop (mkF m 107 #[.val (.int p0), .val (.int p1), .val (.int p2), .val (.int ia), .val (.int ib), .val (.double r), .second, .val (.long pp), .second, .val (.long (FP.d2l r)), .second] [(.int (lcmpW (FP.d2l r) pp))])) _
        refine XS.ifNo X12.here hx rfl (hb hby at_107) rfl ((if0 _ _).trans (flt (fun q => (own_law (own_1lt.mp hc55_16) (own_1lt.mp hc61_18) h_pp r h_r).2.2.1 ((lw_lt (FP.d2l r) pp).mp q))).1) ?_
        show Steps p.tables e below (T12.setTop (mkF m 110 #[.val (.int p0), .val (.int p1), .val (.int p2), .val (.int ia), .val (.int ib), .val (.double r), .second, .val (.long pp), .second, .val (.long (FP.d2l r)), .second] [])) _
        refine XS.lload X12.here hx rfl (hb hby at_110) rfl ?_
        show Steps p.tables e below (T12.setTop (mkF m 112 #[.val (.int p0), .val (.int p1), .val (.int p2), .val (.int ia), .val (.int ib), .val (.double r), .second, .val (.long pp), .second, .val (.long (FP.d2l r)), .second] [(.long (FP.d2l r))])) _
        refine XS.lload X12.here hx rfl (hb hby at_112) rfl ?_
        show Steps p.tables e below (T12.setTop (mkF m 114 #[.val (.int p0), .val (.int p1), .val (.int p2), .val (.int ia), .val (.int ib), .val (.double r), .second, .val (.long pp), .second, .val (.long (FP.d2l r)), .second] [(.long pp), (.long (FP.d2l r))])) _
        refine XS.lsub X12.here hx rfl (hb hby at_114) rfl ?_
        show Steps p.tables e below (T12.setTop (mkF m 115 #[.val (.int p0), .val (.int p1), .val (.int p2), .val (.int ia), .val (.int ib), .val (.double r), .second, .val (.long pp), .second, .val (.long (FP.d2l r)), .second] [(.long ((FP.d2l r) - pp))])) _
        refine XS.lload X12.here hx rfl (hb hby at_115) rfl ?_
        show Steps p.tables e below (T12.setTop (mkF m 117 #[.val (.int p0), .val (.int p1), .val (.int p2), .val (.int ia), .val (.int ib), .val (.double r), .second, .val (.long pp), .second, .val (.long (FP.d2l r)), .second] [(.long pp), (.long ((FP.d2l r) - pp))])) _
        refine XS.bipush X12.here hx rfl (hb hby at_117) ?_
        show Steps p.tables e below (T12.setTop (mkF m 119 #[.val (.int p0), .val (.int p1), .val (.int p2), .val (.int ia), .val (.int ib), .val (.double r), .second, .val (.long pp), .second, .val (.long (FP.d2l r)), .second] [(.int (50 : Int32)), (.long pp), (.long ((FP.d2l r) - pp))])) _
        refine XS.lshr X12.here hx rfl (hb hby at_119) rfl ?_
        show Steps p.tables e below (T12.setTop (mkF m 120 #[.val (.int p0), .val (.int p1), .val (.int p2), .val (.int ia), .val (.int ib), .val (.double r), .second, .val (.long pp), .second, .val (.long (FP.d2l r)), .second] [(.long (pp >>> ((50 : Int32) &&& 0x3f).toInt64)), (.long ((FP.d2l r) - pp))])) _
        refine XS.lcmp X12.here hx rfl (hb hby at_120) rfl ?_
        show Steps p.tables e below (T12.setTop (mkF m 121 #[.val (.int p0), .val (.int p1), .val (.int p2), .val (.int ia), .val (.int ib), .val (.double r), .second, .val (.long pp), .second, .val (.long (FP.d2l r)), .second] [(.int (lcmpW ((FP.d2l r) - pp) (pp >>> ((50 : Int32) &&& 0x3f).toInt64)))])) _
        refine XS.ifNo X12.here hx rfl (hb hby at_121) rfl ((if0 _ _).trans (flt (fun q => (own_law (own_1lt.mp hc55_16) (own_1lt.mp hc61_18) h_pp r h_r).2.2.2 ((lw_gt ((FP.d2l r) - pp) (pp >>> ((50 : Int32) &&& 0x3f).toInt64)).mp q))).2.2.1) ?_
        show Steps p.tables e below (T12.setTop (mkF m 124 #[.val (.int p0), .val (.int p1), .val (.int p2), .val (.int ia), .val (.int ib), .val (.double r), .second, .val (.long pp), .second, .val (.long (FP.d2l r)), .second] [])) _
        refine XS.iconst X12.here hx rfl (hb hby at_124) ?_
        show Steps p.tables e below (T12.setTop (mkF m 125 #[.val (.int p0), .val (.int p1), .val (.int p2), .val (.int ia), .val (.int ib), .val (.double r), .second, .val (.long pp), .second, .val (.long (FP.d2l r)), .second] [(.int (1 : Int32))])) _
        refine XS.goto X12.here hx rfl (pc0 := 125) (pc' := 129) rfl (hb hby at_125) (by decide) (by decide) ?_
        exact k
      obtain ⟨fs, hr, hrun, hended, hW, hsame⟩ := X12.leave (v := some (.int (1 : Int32))) (fun h => by rw [Bd.returns] at h; cases h)
      refine ⟨_, _, a19 _ ?_, hrun, hended, _, _, rfl, ?_, ⟨_, rfl⟩, hW, hsame.mono (by decide) (by decide)⟩
      · show Steps p.tables e below (T12.setTop (mkF m 129 #[.val (.int p0), .val (.int p1), .val (.int p2), .val (.int ia), .val (.int ib), .val (.double r), .second, .val (.long pp), .second, .val (.long (FP.d2l r)), .second] [(.int (1 : Int32))])) _
        exact retN X12 hx (t := .boolean) Bd.returns (by simp) (hb hby at_129) hr
      · show Q0 Z p0 p1 p2 h0 n0 _ T12.heap _
        rw [e12q]
        exact ⟨rfl, N12⟩
    ·
      have a20 : ∀ t, Steps p.tables e below (T12.setTop (mkF m 78 #[.val (.int p0), .val (.int p1), .val (.int p2), .val (.int ia), .val (.int ib), .val (.double r), .second, .val (.long pp), .second, .unset, .unset] [(.int (1 : Int32))])) t → Steps p.tables e below (s₁.setTop (entryFrame m #[(.int p0), (.int p1), (.int p2)] maxLocals)) t := by
        intro t k
        refine a17 t ?_
        show Steps p.tables e below (T12.setTop (mkF m 61 #[.val (.int p0), .val (.int p1), .val (.int p2), .val (.int ia), .val (.int ib), .val (.double r), .second, .val (.long pp), .second, .unset, .unset] [(.int (1 : Int32)), (.int ib)])) _
        refine XS.icmpNo X12.here hx rfl (hb hby at_61) rfl (flt hc61_18).2.2.1 ?_
        show Steps p.tables e below (T12.setTop (mkF m 64 #[.val (.int p0), .val (.int p1), .val (.int p2), .val (.int ia), .val (.int ib), .val (.double r), .second, .val (.long pp), .second, .unset, .unset] [])) _
        refine XS.dload X12.here hx rfl (hb hby at_64) rfl ?_
        show Steps p.tables e below (T12.setTop (mkF m 66 #[.val (.int p0), .val (.int p1), .val (.int p2), .val (.int ia), .val (.int ib), .val (.double r), .second, .val (.long pp), .second, .unset, .unset] [(.double r)])) _
        refine XS.lload X12.here hx rfl (hb hby at_66) rfl ?_
        show Steps p.tables e below (T12.setTop (mkF m 68 #[.val (.int p0), .val (.int p1), .val (.int p2), .val (.int ia), .val (.int ib), .val (.double r), .second, .val (.long pp), .second, .unset, .unset] [(.long pp), (.double r)])) _
        refine XS.l2dS X12.here hx rfl (hb hby at_68) rfl rfl ?_
        show Steps p.tables e below (T12.setTop (mkF m 69 #[.val (.int p0), .val (.int p1), .val (.int p2), .val (.int ia), .val (.int ib), .val (.double r), .second, .val (.long pp), .second, .unset, .unset] [(.double (FP.l2d pp)), (.double r)])) _
        refine XS.dcmpS X12.here hx rfl (hb hby at_69) rfl rfl ?_
        show Steps p.tables e below (T12.setTop (mkF m 70 #[.val (.int p0), .val (.int p1), .val (.int p2), .val (.int ia), .val (.int ib), .val (.double r), .second, .val (.long pp), .second, .unset, .unset] [(.int (cmpValue (FP.dcmp r (FP.l2d pp)) .l))])) _
        refine XS.ifNo X12.here hx rfl (hb hby at_70) rfl ((if0 _ _).trans (teq (by rw [h_r, h_pp]; exact own_small hia hib (fun q => hc61_18 (own_1lt.mpr q.2)))).2) ?_
        show Steps p.tables e below (T12.setTop (mkF m 73 #[.val (.int p0), .val (.int p1), .val (.int p2), .val (.int ia), .val (.int ib), .val (.double r), .second, .val (.long pp), .second, .unset, .unset] [])) _
        refine XS.iconst X12.here hx rfl (hb hby at_73) ?_
        show Steps p.tables e below (T12.setTop (mkF m 74 #[.val (.int p0), .val (.int p1), .val (.int p2), .val (.int ia), .val (.int ib), .val (.double r), .second, .val (.long pp), .second, .unset, .unset] [(.int (1 : Int32))])) _
        refine XS.goto X12.here hx rfl (pc0 := 74) (pc' := 78) rfl (hb hby at_74) (by decide) (by decide) ?_
        exact k
      obtain ⟨fs, hr, hrun, hended, hW, hsame⟩ := X12.leave (v := some (.int (1 : Int32))) (fun h => by rw [Bd.returns] at h; cases h)
      refine ⟨_, _, a20 _ ?_, hrun, hended, _, _, rfl, ?_, ⟨_, rfl⟩, hW, hsame.mono (by decide) (by decide)⟩
      · show Steps p.tables e below (T12.setTop (mkF m 78 #[.val (.int p0), .val (.int p1), .val (.int p2), .val (.int ia), .val (.int ib), .val (.double r), .second, .val (.long pp), .second, .unset, .unset] [(.int (1 : Int32))])) _
        exact retN X12 hx (t := .boolean) Bd.returns (by simp) (hb hby at_78) hr
      · show Q0 Z p0 p1 p2 h0 n0 _ T12.heap _
        rw [e12q]
        exact ⟨rfl, N12⟩
  ·
    have a21 : ∀ t, Steps p.tables e below (T12.setTop (mkF m 78 #[.val (.int p0), .val (.int p1), .val (.int p2), .val (.int ia), .val (.int ib), .val (.double r), .second, .val (.long pp), .second, .unset, .unset] [(.int (1 : Int32))])) t → Steps p.tables e below (s₁.setTop (entryFrame m #[(.int p0), (.int p1), (.int p2)] maxLocals)) t := by
      intro t k
      refine a15 t ?_
      show Steps p.tables e below (T12.setTop (mkF m 55 #[.val (.int p0), .val (.int p1), .val (.int p2), .val (.int ia), .val (.int ib), .val (.double r), .second, .val (.long pp), .second, .unset, .unset] [(.int (1 : Int32)), (.int ia)])) _
      refine XS.icmpYes X12.here hx rfl (pc0 := 55) (pc' := 64) rfl (hb hby at_55) rfl (flt hc55_16).2.2.2 (by decide) (by decide) ?_
      show Steps p.tables e below (T12.setTop (mkF m 64 #[.val (.int p0), .val (.int p1), .val (.int p2), .val (.int ia), .val (.int ib), .val (.double r), .second, .val (.long pp), .second, .unset, .unset] [])) _
      refine XS.dload X12.here hx rfl (hb hby at_64) rfl ?_
      show Steps p.tables e below (T12.setTop (mkF m 66 #[.val (.int p0), .val (.int p1), .val (.int p2), .val (.int ia), .val (.int ib), .val (.double r), .second, .val (.long pp), .second, .unset, .unset] [(.double r)])) _
      refine XS.lload X12.here hx rfl (hb hby at_66) rfl ?_
      show Steps p.tables e below (T12.setTop (mkF m 68 #[.val (.int p0), .val (.int p1), .val (.int p2), .val (.int ia), .val (.int ib), .val (.double r), .second, .val (.long pp), .second, .unset, .unset] [(.long pp), (.double r)])) _
      refine XS.l2dS X12.here hx rfl (hb hby at_68) rfl rfl ?_
      show Steps p.tables e below (T12.setTop (mkF m 69 #[.val (.int p0), .val (.int p1), .val (.int p2), .val (.int ia), .val (.int ib), .val (.double r), .second, .val (.long pp), .second, .unset, .unset] [(.double (FP.l2d pp)), (.double r)])) _
      refine XS.dcmpS X12.here hx rfl (hb hby at_69) rfl rfl ?_
      show Steps p.tables e below (T12.setTop (mkF m 70 #[.val (.int p0), .val (.int p1), .val (.int p2), .val (.int ia), .val (.int ib), .val (.double r), .second, .val (.long pp), .second, .unset, .unset] [(.int (cmpValue (FP.dcmp r (FP.l2d pp)) .l))])) _
      refine XS.ifNo X12.here hx rfl (hb hby at_70) rfl ((if0 _ _).trans (teq (by rw [h_r, h_pp]; exact own_small hia hib (fun q => hc55_16 (own_1lt.mpr q.1)))).2) ?_
      show Steps p.tables e below (T12.setTop (mkF m 73 #[.val (.int p0), .val (.int p1), .val (.int p2), .val (.int ia), .val (.int ib), .val (.double r), .second, .val (.long pp), .second, .unset, .unset] [])) _
      refine XS.iconst X12.here hx rfl (hb hby at_73) ?_
      show Steps p.tables e below (T12.setTop (mkF m 74 #[.val (.int p0), .val (.int p1), .val (.int p2), .val (.int ia), .val (.int ib), .val (.double r), .second, .val (.long pp), .second, .unset, .unset] [(.int (1 : Int32))])) _
      refine XS.goto X12.here hx rfl (pc0 := 74) (pc' := 78) rfl (hb hby at_74) (by decide) (by decide) ?_
      exact k
    obtain ⟨fs, hr, hrun, hended, hW, hsame⟩ := X12.leave (v := some (.int (1 : Int32))) (fun h => by rw [Bd.returns] at h; cases h)
    refine ⟨_, _, a21 _ ?_, hrun, hended, _, _, rfl, ?_, ⟨_, rfl⟩, hW, hsame.mono (by decide) (by decide)⟩
    · show Steps p.tables e below (T12.setTop (mkF m 78 #[.val (.int p0), .val (.int p1), .val (.int p2), .val (.int ia), .val (.int ib), .val (.double r), .second, .val (.long pp), .second, .unset, .unset] [(.int (1 : Int32))])) _
      exact retN X12 hx (t := .boolean) Bd.returns (by simp) (hb hby at_78) hr
    · show Q0 Z p0 p1 p2 h0 n0 _ T12.heap _
      rw [e12q]
      exact ⟨rfl, N12⟩
set_option maxRecDepth 65536 in
set_option maxHeartbeats 40000000 in
theorem comes_1 {Post : Tables → Env → Array Value → State → Outcome → State → Prop} (hpost : ∀ tb e args s v u, (limb_1_1.after args s (.returned v) u = true ∧ limb_1_2.after args s (.returned v) u = true ∧ True) → FrameEnd s (.returned v) u (Jvm.fieldLocs frame_1_writes args s ++ Jvm.arrayLocs frame_1_arrays args s ++ Jvm.staticLocs frame_1_statics s) 0 0 → Post tb e args s (.returned v) u) :
    ArmFor flags0 classFile x code maxLocals ret World_1 tables_1 room_1 Calls_1 rest_1 Pre_1 Post := by
  intro l hfl _ _ p e ha hc hk s m args below hf hA hF happ hP
  obtain ⟨hcalls, hrest, hpre⟩ := hP
  obtain ⟨-, -, -, hnamed, -, -, -, hat⟩ := (Spec.applies_iff hf).mp happ
  obtain ⟨hg, hn⟩ := and_e (Cond.before_iff.mp (show (Jvm.Cond.and given_1 narrow_1).before args s = true from hpre))
  obtain ⟨g1, g2⟩ := and_e hg
  obtain ⟨g3, g4⟩ := and_e g2
  obtain ⟨g5, g6⟩ := and_e g4
  obtain ⟨w0, w1, w2, rfl⟩ : ∃ w0 w1 w2 : Value, args = #[w0, w1, w2] := by
    have hs : args.size = 3 := by simpa [Cond.value, given_1] using g1
    obtain ⟨L⟩ := args
    match L, hs with
    | [w0, w1, w2], _ => exact ⟨w0, w1, w2, rfl⟩
  have hw := fun d (hd : d ∈ tables_1) => atoms_spec (ws := Jvm.Cond.code x code maxLocals ret :: tables_1) hat d (List.mem_cons_of_mem _ hd)
  have hfit : Fit s := fun {y c} hc i hi => by
    obtain ⟨ha, rfl⟩ := Array.getElem?_eq_some_iff.mp hc
    have q := List.all_eq_true.mp ((Array.all_eq_true_iff_forall_mem.mp hF) _ (Array.getElem_mem ha)) i (List.mem_range.mpr hi)
    simpa [Array.getElem?_eq_getElem hi] using q
  obtain ⟨i0, ei0⟩ := is_v g3
  obtain rfl : w0 = (.int i0) := Option.some.inj ei0
  obtain ⟨i1, ei1⟩ := is_v g5
  obtain rfl : w1 = (.int i1) := Option.some.inj ei1
  obtain ⟨i2, ei2⟩ := is_v g6
  obtain rfl : w2 = (.int i2) := Option.some.inj ei2
  obtain ⟨n, o, h1, h2, h3, _, L, rfl, ⟨rfl, N⟩, hq⟩ := rm0 l s _ hw tables_1 i0 i1 i2  s.heap s.heap.size (Nat.le_refl _)  p e ha hc hk s m _ below hf ((Spec.applies_iff_loose hf).mp happ).1 ⟨rfl, State.Warmed39.refl s, rfl⟩ trivial
  refine ⟨n, _, h1, h2, h3, hpost _ _ _ _ _ _ ⟨Cond.after_iff.mpr rfl, Cond.after_iff.mpr (eq_i res_at (Term.int_eval (1)) rfl), trivial⟩ ⟨hq.1, hq.2.1, (hq.2.2.sift fun y hy => Or.inr (N y hy)).mono (by decide) (by decide)⟩⟩
theorem main_1_1 : Claimed_1_1 := comes_1 fun _ _ _ _ _ _ h hF => ⟨h.1, hF⟩
theorem main_1_2 : Claimed_1_2 := comes_1 fun _ _ _ _ _ _ h hF => ⟨h.2.1, hF⟩
end Jvm.Pilot.@@N@@
namespace Jvm.Pilot.@@N@@
open Jvm Jvm.ClassFile Sem Op Lib Jvm.Free Jvm.Stand Jvm.Pilot.@@N@@.Jvm.D
/-! MADE BY PROGRAM (witnessworld.py) out of the Statement's table words and the real class files: 15 classes; the members and pool entries that the words name. The judged class is class 1, her method 1. -/
namespace start1
open Jvm.ClassFile
def u (s : String) : CpInfo := .utf8 (stringToUtf16 s)
/-- a pool by its gaps: so many unusable entries, then the entry; so many at the end -/
def gap : Nat → List CpInfo → List CpInfo
  | 0, r => r
  | n + 1, r => .unusable :: gap n r
def poolList (es : List (Nat × CpInfo)) (last : Nat) : List CpInfo := es.foldr (fun e r => gap e.1 (e.2 :: r)) (gap last [])
def pool (es : List (Nat × CpInfo)) (last : Nat) : Array CpInfo := ⟨poolList es last⟩
def fileOf (pool : Array CpInfo) (this : Nat) (attrs : Array Attribute := #[]) (ms : Array MethodInfo := #[]) (fl : Nat := 33) (sup : Nat := 0) (ifs : Array Nat := #[]) (fds : Array FieldInfo := #[]) : ClassFile where
  minorVersion := 0
  majorVersion := 65
  constantPool := pool
  accessFlags := fl
  thisClass := this
  superClass := sup
  interfaces := ifs
  fields := fds
  methods := ms
  attributes := attrs
def plain (name : String) (sup : Option ClassId) : Class where
  name := name
  kind := .ordinary
  loader := none
  accessFlags := 33
  super := sup
  interfaces := #[]
  cf := none
  fields := #[]
  methods := #[]
  instanceTypes := #[]
  staticTypes := #[]
  resolved := #[]
  callSites := []
  init := .initialized
  statics := none
  mirror := none

def pool0 : Array CpInfo := pool [(5, u "<init>"), (0, u "()V"), (1, .class_ 10), (1, u "java/lang/Object")] 113

def k0m0 : Method := { name := "<init>", desc := "()V", sig := { parameters := [], returnType := none }, accessFlags := 1, code := none }
/-- java/lang/Object -/
def k0 : Class := { plain "java/lang/Object" none with
  accessFlags := 33
  interfaces := #[]
  cf := some (fileOf pool0 8 #[] #[{ accessFlags := 1, nameIndex := 5, descriptorIndex := 6, attributes := #[] }] 33 0 #[] #[])
  fields := #[]
  methods := #[k0m0]
  instanceTypes := #[]
  staticTypes := #[]
  resolved := Array.replicate 124 none
  statics := none }

def pool1 : Array CpInfo := pool [(2, .class_ 4), (1, u "java/lang/Object"), (0, u "<init>"), (0, u "()V"), (0, .integer 2147483647), (0, .methodref 9 10), (0, .class_ 11), (0, .nameAndType 12 13), (0, u "com/example/pinched_bounds/pinchedbounds/Rounding"), (0, u "productUp"), (0, u "(DD)D"), (0, .double 4890691058569617664), (1, .class_ 17), (0, u "com/example/pinched_bounds/pinchedbounds/RoundingProductUpPinLaw"), (2, u "law"), (0, u "(III)Z")] 3

def k1m0 : Method := { name := "<init>", desc := "()V", sig := { parameters := [], returnType := none }, accessFlags := 2, code := none }
def k1c1 : Code := { maxStack := 5, maxLocals := 11, code := code, exceptionTable := #[], attributes := #[] }
def k1m1 : Method := { name := "law", desc := "(III)Z", sig := { parameters := [.int, .int, .int], returnType := some .boolean }, accessFlags := 9, code := some k1c1 }
/-- com/example/pinched_bounds/pinchedbounds/RoundingProductUpPinLaw -/
def k1 : Class := { plain "com/example/pinched_bounds/pinchedbounds/RoundingProductUpPinLaw" (some 0) with
  accessFlags := 49
  interfaces := #[]
  cf := some (fileOf pool1 16 #[] #[{ accessFlags := 2, nameIndex := 5, descriptorIndex := 6, attributes := #[] }, { accessFlags := 9, nameIndex := 20, descriptorIndex := 21, attributes := #[] }] 49 2 #[] #[])
  fields := #[]
  methods := #[k1m0, k1m1]
  instanceTypes := #[]
  staticTypes := #[]
  resolved := Array.replicate 25 none
  statics := none }

def pool2 : Array CpInfo := pool [(2, .class_ 4), (1, u "java/lang/Object"), (0, u "<init>"), (0, u "()V"), (11, .class_ 20), (1, u "com/example/pinched_bounds/pinchedbounds/Rounding"), (1, u "(D)D"), (0, .methodref 24 25), (0, .class_ 26), (0, .nameAndType 27 22), (0, u "java/lang/Math"), (0, u "nextUp"), (5, u "(DD)D"), (2, u "productUp")] 2

def k2m0 : Method := { name := "<init>", desc := "()V", sig := { parameters := [], returnType := none }, accessFlags := 2, code := none }
def k2c1 : Code := { maxStack := 4, maxLocals := 6, code := prog_9_method_7_code, exceptionTable := #[], attributes := #[] }
def k2m1 : Method := { name := "productUp", desc := "(DD)D", sig := { parameters := [.double, .double], returnType := some .double }, accessFlags := 8, code := some k2c1 }
/-- com/example/pinched_bounds/pinchedbounds/Rounding -/
def k2 : Class := { plain "com/example/pinched_bounds/pinchedbounds/Rounding" (some 0) with
  accessFlags := 32
  interfaces := #[]
  cf := some (fileOf pool2 18 #[] #[{ accessFlags := 2, nameIndex := 5, descriptorIndex := 6, attributes := #[] }, { accessFlags := 8, nameIndex := 36, descriptorIndex := 33, attributes := #[] }] 32 2 #[] #[])
  fields := #[]
  methods := #[k2m0, k2m1]
  instanceTypes := #[]
  staticTypes := #[]
  resolved := Array.replicate 39 none
  statics := none }

def pool3 : Array CpInfo := pool [(1, .class_ 2), (0, u "java/lang/Math"), (1, .class_ 6), (1, u "java/lang/Object"), (0, u "<init>"), (0, u "()V"), (5, u "(D)D"), (64, .methodref 80 81), (0, .class_ 82), (0, .nameAndType 83 84), (0, u "java/lang/Double"), (0, u "doubleToRawLongBits"), (0, u "(D)J"), (13, .class_ 100), (1, u "java/lang/Math$RandomNumberGeneratorHolder"), (65, .methodref 80 167), (0, .nameAndType 168 169), (0, u "longBitsToDouble"), (0, u "(J)D"), (2, u "negativeZeroFloatBits"), (0, u "J"), (2, u "negativeZeroDoubleBits"), (68, u "$assertionsDisabled"), (0, u "Z"), (80, .double 9218868437227405312), (10, u "twoToTheDoubleScaleDown"), (0, u "D"), (4, u "twoToTheDoubleScaleUp"), (9, u "E"), (3, u "PI"), (2, u "TAU"), (2, u "DEGREES_TO_RADIANS"), (0, u "RADIANS_TO_DEGREES"), (77, u "nextUp")] 16

def k3m0 : Method := { name := "<init>", desc := "()V", sig := { parameters := [], returnType := none }, accessFlags := 2, code := none }
def k3c1 : Code := { maxStack := 6, maxLocals := 4, code := jdk_29_method_95_code, exceptionTable := #[], attributes := #[] }
def k3m1 : Method := { name := "nextUp", desc := "(D)D", sig := { parameters := [.double], returnType := some .double }, accessFlags := 9, code := some k3c1 }
/-- java/lang/Math -/
def k3 : Class := { plain "java/lang/Math" (some 0) with
  accessFlags := 49
  interfaces := #[]
  cf := some (fileOf pool3 1 #[.nestMembers #[98]] #[{ accessFlags := 2, nameIndex := 7, descriptorIndex := 8, attributes := #[] }, { accessFlags := 9, nameIndex := 443, descriptorIndex := 14, attributes := #[] }] 49 4 #[] #[{ accessFlags := 25, nameIndex := 354, descriptorIndex := 339, attributes := #[] }, { accessFlags := 25, nameIndex := 358, descriptorIndex := 339, attributes := #[] }, { accessFlags := 25, nameIndex := 361, descriptorIndex := 339, attributes := #[] }, { accessFlags := 26, nameIndex := 364, descriptorIndex := 339, attributes := #[] }, { accessFlags := 26, nameIndex := 365, descriptorIndex := 339, attributes := #[] }, { accessFlags := 26, nameIndex := 172, descriptorIndex := 173, attributes := #[] }, { accessFlags := 26, nameIndex := 176, descriptorIndex := 173, attributes := #[] }, { accessFlags := 8, nameIndex := 344, descriptorIndex := 339, attributes := #[] }, { accessFlags := 8, nameIndex := 338, descriptorIndex := 339, attributes := #[] }, { accessFlags := 4120, nameIndex := 245, descriptorIndex := 246, attributes := #[] }])
  fields := #[{ name := "E", type := .double, accessFlags := 25, slot := 0, constantValue := 0 }, { name := "PI", type := .double, accessFlags := 25, slot := 1, constantValue := 0 }, { name := "TAU", type := .double, accessFlags := 25, slot := 2, constantValue := 0 }, { name := "DEGREES_TO_RADIANS", type := .double, accessFlags := 26, slot := 3, constantValue := 0 }, { name := "RADIANS_TO_DEGREES", type := .double, accessFlags := 26, slot := 4, constantValue := 0 }, { name := "negativeZeroFloatBits", type := .long, accessFlags := 26, slot := 5, constantValue := 0 }, { name := "negativeZeroDoubleBits", type := .long, accessFlags := 26, slot := 6, constantValue := 0 }, { name := "twoToTheDoubleScaleUp", type := .double, accessFlags := 8, slot := 7, constantValue := 0 }, { name := "twoToTheDoubleScaleDown", type := .double, accessFlags := 8, slot := 8, constantValue := 0 }, { name := "$assertionsDisabled", type := .boolean, accessFlags := 4120, slot := 9, constantValue := 0 }]
  methods := #[k3m0, k3m1]
  instanceTypes := #[]
  staticTypes := #[.double, .double, .double, .double, .double, .long, .long, .double, .double, .boolean]
  resolved := Array.replicate 460 none
  statics := none }

def pool4 : Array CpInfo := pool [(1, .class_ 2), (0, u "java/io/Serializable"), (0, .class_ 4), (0, u "java/lang/Object")] 2

/-- java/io/Serializable -/
def k4 : Class := { plain "java/io/Serializable" (some 0) with
  accessFlags := 1537
  interfaces := #[]
  cf := some (fileOf pool4 1 #[] #[] 1537 3 #[] #[])
  fields := #[]
  methods := #[]
  instanceTypes := #[]
  staticTypes := #[]
  resolved := Array.replicate 7 none
  statics := none }

def pool5 : Array CpInfo := pool [(2, .class_ 4), (1, u "java/lang/Object"), (0, u "<init>"), (0, u "()V"), (1, .class_ 10), (1, u "java/lang/Number"), (2, .class_ 14), (0, u "java/io/Serializable"), (0, u "serialVersionUID"), (0, u "J")] 20

def k5m0 : Method := { name := "<init>", desc := "()V", sig := { parameters := [], returnType := none }, accessFlags := 1, code := none }
/-- java/lang/Number -/
def k5 : Class := { plain "java/lang/Number" (some 0) with
  accessFlags := 1057
  interfaces := #[4]
  cf := some (fileOf pool5 8 #[] #[{ accessFlags := 1, nameIndex := 5, descriptorIndex := 6, attributes := #[] }] 1057 2 #[13] #[{ accessFlags := 26, nameIndex := 15, descriptorIndex := 16, attributes := #[] }])
  fields := #[{ name := "serialVersionUID", type := .long, accessFlags := 26, slot := 0, constantValue := 0 }]
  methods := #[k5m0]
  instanceTypes := #[]
  staticTypes := #[.long]
  resolved := Array.replicate 37 none
  statics := none }

def pool6 : Array CpInfo := pool [(1, .class_ 2), (0, u "java/lang/Comparable"), (0, .class_ 4), (0, u "java/lang/Object")] 7

/-- java/lang/Comparable -/
def k6 : Class := { plain "java/lang/Comparable" (some 0) with
  accessFlags := 1537
  interfaces := #[]
  cf := some (fileOf pool6 1 #[] #[] 1537 3 #[] #[])
  fields := #[]
  methods := #[]
  instanceTypes := #[]
  staticTypes := #[]
  resolved := Array.replicate 12 none
  statics := none }

def pool7 : Array CpInfo := pool [(1, .class_ 2), (0, u "java/lang/constant/Constable"), (0, .class_ 4), (0, u "java/lang/Object")] 6

/-- java/lang/constant/Constable -/
def k7 : Class := { plain "java/lang/constant/Constable" (some 0) with
  accessFlags := 1537
  interfaces := #[]
  cf := some (fileOf pool7 1 #[] #[] 1537 3 #[] #[])
  fields := #[]
  methods := #[]
  instanceTypes := #[]
  staticTypes := #[]
  resolved := Array.replicate 11 none
  statics := none }

def pool8 : Array CpInfo := pool [(1, .class_ 2), (0, u "java/lang/constant/ConstantDesc"), (0, .class_ 4), (0, u "java/lang/Object")] 32

/-- java/lang/constant/ConstantDesc -/
def k8 : Class := { plain "java/lang/constant/ConstantDesc" (some 0) with
  accessFlags := 1537
  interfaces := #[]
  cf := some (fileOf pool8 1 #[] #[] 1537 3 #[] #[])
  fields := #[]
  methods := #[]
  instanceTypes := #[]
  staticTypes := #[]
  resolved := Array.replicate 37 none
  statics := none }

def pool9 : Array CpInfo := pool [(1, .class_ 2), (0, u "java/lang/Double"), (46, u "(D)J"), (64, .class_ 116), (1, u "java/lang/Number"), (3, u "value"), (0, u "D"), (14, u "doubleToRawLongBits"), (36, u "TYPE"), (0, u "Ljava/lang/Class;"), (0, .class_ 176), (0, u "java/lang/Comparable"), (0, .class_ 178), (0, u "java/lang/constant/Constable"), (0, .class_ 180), (0, u "java/lang/constant/ConstantDesc"), (0, u "POSITIVE_INFINITY"), (3, u "NEGATIVE_INFINITY"), (2, u "NaN"), (2, u "MAX_VALUE"), (0, u "MIN_NORMAL"), (0, u "MIN_VALUE"), (2, u "SIZE"), (0, u "I"), (1, u "PRECISION"), (1, u "MAX_EXPONENT"), (1, u "MIN_EXPONENT"), (1, u "BYTES"), (3, u "serialVersionUID"), (0, u "J"), (48, u "longBitsToDouble"), (0, u "(J)D")] 29

def k9m0 : Method := { name := "doubleToRawLongBits", desc := "(D)J", sig := { parameters := [.double], returnType := some .long }, accessFlags := 265, code := none }
def k9m1 : Method := { name := "longBitsToDouble", desc := "(J)D", sig := { parameters := [.long], returnType := some .double }, accessFlags := 265, code := none }
/-- java/lang/Double -/
def k9 : Class := { plain "java/lang/Double" (some 5) with
  accessFlags := 49
  interfaces := #[6, 7, 8]
  cf := some (fileOf pool9 1 #[] #[{ accessFlags := 265, nameIndex := 136, descriptorIndex := 49, attributes := #[] }, { accessFlags := 265, nameIndex := 259, descriptorIndex := 260, attributes := #[] }] 49 114 #[175, 177, 179] #[{ accessFlags := 25, nameIndex := 181, descriptorIndex := 121, attributes := #[] }, { accessFlags := 25, nameIndex := 185, descriptorIndex := 121, attributes := #[] }, { accessFlags := 25, nameIndex := 188, descriptorIndex := 121, attributes := #[] }, { accessFlags := 25, nameIndex := 191, descriptorIndex := 121, attributes := #[] }, { accessFlags := 25, nameIndex := 192, descriptorIndex := 121, attributes := #[] }, { accessFlags := 25, nameIndex := 193, descriptorIndex := 121, attributes := #[] }, { accessFlags := 25, nameIndex := 196, descriptorIndex := 197, attributes := #[] }, { accessFlags := 25, nameIndex := 199, descriptorIndex := 197, attributes := #[] }, { accessFlags := 25, nameIndex := 201, descriptorIndex := 197, attributes := #[] }, { accessFlags := 25, nameIndex := 203, descriptorIndex := 197, attributes := #[] }, { accessFlags := 25, nameIndex := 205, descriptorIndex := 197, attributes := #[] }, { accessFlags := 25, nameIndex := 173, descriptorIndex := 174, attributes := #[] }, { accessFlags := 18, nameIndex := 120, descriptorIndex := 121, attributes := #[] }, { accessFlags := 26, nameIndex := 209, descriptorIndex := 210, attributes := #[] }])
  fields := #[{ name := "POSITIVE_INFINITY", type := .double, accessFlags := 25, slot := 0, constantValue := 0 }, { name := "NEGATIVE_INFINITY", type := .double, accessFlags := 25, slot := 1, constantValue := 0 }, { name := "NaN", type := .double, accessFlags := 25, slot := 2, constantValue := 0 }, { name := "MAX_VALUE", type := .double, accessFlags := 25, slot := 3, constantValue := 0 }, { name := "MIN_NORMAL", type := .double, accessFlags := 25, slot := 4, constantValue := 0 }, { name := "MIN_VALUE", type := .double, accessFlags := 25, slot := 5, constantValue := 0 }, { name := "SIZE", type := .int, accessFlags := 25, slot := 6, constantValue := 0 }, { name := "PRECISION", type := .int, accessFlags := 25, slot := 7, constantValue := 0 }, { name := "MAX_EXPONENT", type := .int, accessFlags := 25, slot := 8, constantValue := 0 }, { name := "MIN_EXPONENT", type := .int, accessFlags := 25, slot := 9, constantValue := 0 }, { name := "BYTES", type := .int, accessFlags := 25, slot := 10, constantValue := 0 }, { name := "TYPE", type := (.object "java/lang/Class"), accessFlags := 25, slot := 11, constantValue := 0 }, { name := "value", type := .double, accessFlags := 18, slot := 0, constantValue := 0 }, { name := "serialVersionUID", type := .long, accessFlags := 26, slot := 12, constantValue := 0 }]
  methods := #[k9m0, k9m1]
  instanceTypes := #[.double]
  staticTypes := #[.double, .double, .double, .double, .double, .double, .int, .int, .int, .int, .int, (.object "java/lang/Class"), .long]
  resolved := Array.replicate 290 none
  statics := none }

def pool10 : Array CpInfo := pool [(1, u "java/lang/Cloneable"), (0, .class_ 1), (0, u "java/lang/Object"), (0, .class_ 3)] 3

/-- java/lang/Cloneable -/
def k10 : Class := { plain "java/lang/Cloneable" (some 0) with
  accessFlags := 1537
  interfaces := #[]
  cf := some (fileOf pool10 2 #[] #[] 1537 4 #[] #[])
  fields := #[]
  methods := #[]
  instanceTypes := #[]
  staticTypes := #[]
  resolved := Array.replicate 8 none
  statics := none }

/-- the primitive byte -/
def k11 : Class := { plain "byte" none with kind := .primitive 'B', accessFlags := 0x411 }
/-- [B -/
def k12 : Class := { plain "[B" (some 0) with kind := .array 11 .byte, interfaces := #[10, 4], accessFlags := 1041 }

/-- the primitive int -/
def k13 : Class := { plain "int" none with kind := .primitive 'I', accessFlags := 0x411 }
/-- [I -/
def k14 : Class := { plain "[I" (some 0) with kind := .array 13 .int, interfaces := #[10, 4], accessFlags := 1041 }

def heap : Heap := #[]
def classes : Array Class := #[k0, k1, k2, k3, k4, k5, k6, k7, k8, k9, k10, k11, k12, k13, k14]
def interned : List (Array UInt16 × Addr) := []
def slotsUsed : Nat := 0
def theMethod : MethodId := ⟨1, 1⟩
def args0 : Array Value := #[.int 7, .int 5, .int 1]
def aboutOver (below : List Frame) : State where
  vm := { classes := classes, interned := interned.toArray }
  heap := heap
  slotsUsed := slotsUsed
  threads := #[{ frames := .invoking theMethod args0 :: below }]
def below0 : List Frame := [.native { method := ⟨0, 0⟩, args := #[] }]
def about1 : State := aboutOver below0
def p0 : Program := .bare "" "" ""
def e0 : Env := launch0.env 0 0 0
theorem w_frames : about1.frames = Frame.invoking theMethod args0 :: below0 := rfl
set_option maxRecDepth 65536 in
theorem w_args : argsFit about1.vm theMethod args0 = true := by decide +kernel
set_option maxRecDepth 65536 in
theorem w_heap : heapFits about1 = true := by decide +kernel
set_option maxRecDepth 65536 in
theorem w_runnable : about1.curStatus? = some .runnable := by decide +kernel
set_option maxRecDepth 65536 in
theorem w_alone : about1.alone = true := by decide +kernel
set_option maxRecDepth 65536 in
theorem w_named : about1.methodNamed? x = some theMethod := by decide +kernel
set_option maxRecDepth 65536 in
theorem w_hears : about1.hears theMethod below0 = true := by decide +kernel
set_option maxRecDepth 65536 in
theorem w_ripe : about1.ripe theMethod args0 below0 = true := by decide +kernel
theorem w_running : about1.status = .running := rfl
set_option maxRecDepth 65536 in
theorem w_room : about1.hasRoom e0.platform room_1 = true :=
  launch0.hasRoom_least _ room_1 (by decide +kernel) (by decide +kernel) (by decide +kernel) (by decide +kernel) (by decide +kernel) (by decide +kernel)
theorem allAtoms_all (ts : List Jvm.Cond) (a : Array Jvm.Value) (st : Jvm.State) : (allAtoms ts).before a st = ts.all (fun c => c.before a st) := by
  induction ts with
  | nil => rfl
  | cons c t ih =>
    show (Jvm.Cond.and c (allAtoms t)).before a st = _
    rw [Jvm.Cond.before_and, ih, List.all_cons]
def words1 : List Jvm.Cond := Jvm.Cond.code x code maxLocals ret :: tables_1
/-- a 'code' word, met by the world's own term for the bytes: nothing is compared byte by byte -/
theorem code_word {y : MethodName} {bytes : ByteArray} {mx : Nat} {rt : Option FieldType} {a : Array Value} {s : State} {m : MethodId} {meth : Method} {c : Code} (h1 : s.methodNamed? y = some m) (h2 : s.vm.method? m = some meth) (h3 : meth.code = some c) (h4 : c.code = bytes)
    (h5 : (c.maxLocals == mx && c.exceptionTable.isEmpty && decide (c.maxStack ≤ mostOperands) && decide (meth.sig.returnType = rt) && !meth.locks && decide (parseMethodDescriptor y.desc = some meth.sig)) = true) : (Jvm.Cond.code y bytes mx rt).before a s = true := by
  simp only [Bool.and_eq_true, beq_iff_eq, Bool.not_eq_true', decide_eq_true_eq] at h5
  obtain ⟨⟨⟨⟨⟨g1, g2⟩, g3⟩, g4⟩, g5⟩, g6⟩ := h5
  simp [Cond.before, Cond.holds, Cond.value, h1, h2, h3, h4, g1, g2, g3, g4, g5, g6]
def isCode : Jvm.Cond → Bool
  | .code _ _ _ _ => true
  | _ => false
theorem all_split {L : List Jvm.Cond} {P : Jvm.Cond → Bool} (h1 : L.all (fun c => isCode c || P c) = true) (h2 : ∀ c ∈ L.filter isCode, P c = true) : L.all P = true := by
  refine List.all_eq_true.mpr fun c hc => ?_
  have h := List.all_eq_true.mp h1 c hc
  rcases Bool.eq_false_or_eq_true (isCode c) with hi | hi
  · exact h2 c (List.mem_filter.mpr ⟨hc, hi⟩)
  · simpa [hi] using h
set_option maxRecDepth 65536 in
theorem w_c0 : (Jvm.Cond.code x code maxLocals ret).before args0 about1 = true := code_word (m := ⟨1, 1⟩) (meth := k1m1) (c := k1c1) (by decide +kernel) rfl rfl rfl (by decide +kernel)
set_option maxRecDepth 65536 in
theorem w_c1 : (Jvm.Cond.code ({ cls := "com/example/pinched_bounds/pinchedbounds/Rounding", name := "productUp", desc := "(DD)D" } : Jvm.MethodName) prog_9_method_7_code (6 : Nat) (Option.some Jvm.ClassFile.FieldType.double)).before args0 about1 = true := code_word (m := ⟨2, 1⟩) (meth := k2m1) (c := k2c1) (by decide +kernel) rfl rfl rfl (by decide +kernel)
set_option maxRecDepth 65536 in
theorem w_c2 : (Jvm.Cond.code ({ cls := "java/lang/Math", name := "nextUp", desc := "(D)D" } : Jvm.MethodName) jdk_29_method_95_code (4 : Nat) (Option.some Jvm.ClassFile.FieldType.double)).before args0 about1 = true := code_word (m := ⟨3, 1⟩) (meth := k3m1) (c := k3c1) (by decide +kernel) rfl rfl rfl (by decide +kernel)
def codes1 : List Jvm.Cond := [Jvm.Cond.code x code maxLocals ret, Jvm.Cond.code ({ cls := "com/example/pinched_bounds/pinchedbounds/Rounding", name := "productUp", desc := "(DD)D" } : Jvm.MethodName) prog_9_method_7_code (6 : Nat) (Option.some Jvm.ClassFile.FieldType.double), Jvm.Cond.code ({ cls := "java/lang/Math", name := "nextUp", desc := "(D)D" } : Jvm.MethodName) jdk_29_method_95_code (4 : Nat) (Option.some Jvm.ClassFile.FieldType.double)]
set_option maxRecDepth 65536 in
theorem codes_eq : words1.filter isCode = codes1 := rfl
theorem w_codes : ∀ c ∈ words1.filter isCode, c.before args0 about1 = true := by
  rw [codes_eq]
  intro c hc
  simp only [codes1, List.mem_cons, List.not_mem_nil, or_false] at hc
  rcases hc with rfl | rfl | rfl
  · exact w_c0
  · exact w_c1
  · exact w_c2
set_option maxRecDepth 65536 in
theorem w_t1 : words1.all (fun c => isCode c || c.before args0 about1) = true := by decide +kernel
theorem w_tables : (allAtoms (Jvm.Cond.code x code maxLocals ret :: tables_1)).before args0 about1 = true := by
  rw [allAtoms_all]
  show words1.all (fun c => c.before args0 about1) = true
  refine all_split ?_ w_codes
  rw [w_t1]
set_option maxRecDepth 65536 in
theorem w_case : (Jvm.Cond.and given_1 narrow_1).before args0 about1 = true := by decide +kernel
theorem w_applies : (headSpec (Jvm.Cond.code x code maxLocals ret :: tables_1) room_1).applies x e0.platform about1 = true :=
  (Spec.applies_iff w_frames).mpr ⟨w_running, w_runnable, w_alone, w_named, w_hears, w_ripe, w_room, w_tables⟩
theorem atStart : AtStart classFile x code maxLocals ret World_1 tables_1 room_1 Calls_1 rest_1 Pre_1 launch0 p0 e0 about1 theMethod args0 below0 :=
  ⟨lists_1, trivial, launch0.admits_env _ _ _, launch0.least_env, fairChoices_fair.cas, fairChoices_fair.clock, w_frames, w_args, w_heap, w_applies, trivial, trivial, w_case⟩
end start1
theorem witness_1 : WitnessClaimed_1 := ⟨start1.p0, start1.e0, start1.about1, start1.theMethod, start1.args0, start1.below0, start1.atStart⟩
end Jvm.Pilot.@@N@@
