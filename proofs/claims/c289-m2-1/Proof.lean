import JvmDerived
import JvmDerived.Pilot.@@N@@Statement
import JvmDerived.Pilot.@@N@@Code
set_option linter.unusedVariables false
set_option linter.unusedSimpArgs false
namespace Jvm.OwnFP
open Jvm.FP.Core
/-! own layer over the library's laws of doubles: values in units of the least double (zval), dyadic values, rounding bounds -/
abbrev zv (a : UInt64) : Int := zval b64 (val64 a)
theorem U_pos : (0 : Int) < (one64 : Int) := by have := one64_pos; omega
theorem signed_bd (s : Bool) (m : Nat) : -(m : Int) ≤ signed s m ∧ signed s m ≤ (m : Int) := by unfold signed; split <;> omega
theorem zv_bd (a : UInt64) : -(zmag b64 (val64 a) : Int) ≤ zv a ∧ zv a ≤ (zmag b64 (val64 a) : Int) := signed_bd _ _
theorem fin_between {a V W : UInt64} (hV : DFin V) (hW : DFin W) (hn : val64 a ≠ .nan) (h1 : zv W ≤ zv a) (h2 : zv a ≤ zv V) : DFin a := by
  cases hd : val64 a with
  | nan => exact absurd hd hn
  | fin s c q => exact ⟨s, c, q, hd⟩
  | inf s =>
    exfalso
    have a1 := hV.zval_lt; have a2 := hW.zval_lt
    have b1 := zv_bd V; have b2 := zv_bd W
    have e : zv a = signed s (b64.tails * 2 ^ (b64.exps - 2)) := by show zval b64 (val64 a) = _; rw [hd]; rfl
    generalize b64.tails * 2 ^ (b64.exps - 2) = TOP at a1 a2 e
    cases s
    · have : zv a = (TOP : Int) := e
      omega
    · have : zv a = -(TOP : Int) := e
      omega
theorem qmax_b64 : b64.qmax = 971 := by decide
theorem rep_exists (n : Int) (k : Nat) (hk : k ≤ 1074) (hn : n.natAbs < 2 ^ 53) : ∃ V, DFin V ∧ zv V * 2 ^ k = n * (one64 : Int) := by
  obtain ⟨c', q', h1, h2⟩ := round_exact (f := b64) good_b64 (decide (n < 0)) (c := n.natAbs) (q := -(k : Int)) hn (by rw [qmin_b64]; omega) (by rw [qmax_b64]; omega)
  have hf := round_fits good_b64 (.fin (decide (n < 0)) n.natAbs (-(k : Int)))
  have hv := val64_of64 hf
  rw [h1] at hv
  refine ⟨of64 (round b64 (.fin (decide (n < 0)) n.natAbs (-(k : Int)))), ⟨_, _, _, by rw [h1]; exact hv⟩, ?_⟩
  show zval b64 (val64 (of64 (round b64 (.fin (decide (n < 0)) n.natAbs (-(k : Int)))))) * 2 ^ k = _
  rw [h1, hv]
  show signed (decide (n < 0)) (inUnits c' q' b64.qmin) * 2 ^ k = _
  rw [h2]
  have e1 : inUnits n.natAbs (-(k : Int)) b64.qmin * 2 ^ k = n.natAbs * one64 := by
    unfold inUnits one64
    rw [qmin_b64, Nat.mul_assoc, ← Nat.pow_add]
    congr 2 <;> omega
  have e2 : signed (decide (n < 0)) (inUnits n.natAbs (-(k : Int)) b64.qmin) * ((2 ^ k : Nat) : Int) = signed (decide (n < 0)) n.natAbs * (one64 : Int) := by
    rw [← signed_mul, e1, signed_mul]
  have e3 : signed (decide (n < 0)) n.natAbs = n := by
    unfold signed
    by_cases h : n < 0
    · simp [h]; omega
    · simp [h]; omega
  rw [e3] at e2
  rw [← e2, Int.natCast_pow]; rfl
theorem rep_up (n : Int) (j : Nat) (hj : j ≤ 971) (hn : n.natAbs < 2 ^ 53) : ∃ V, DFin V ∧ zv V = n * 2 ^ j * (one64 : Int) := by
  obtain ⟨c', q', h1, h2⟩ := round_exact (f := b64) good_b64 (decide (n < 0)) (c := n.natAbs) (q := (j : Int)) hn (by rw [qmin_b64]; omega) (by rw [qmax_b64]; omega)
  have hf := round_fits good_b64 (.fin (decide (n < 0)) n.natAbs (j : Int))
  have hv := val64_of64 hf
  rw [h1] at hv
  refine ⟨of64 (round b64 (.fin (decide (n < 0)) n.natAbs (j : Int))), ⟨_, _, _, by rw [h1]; exact hv⟩, ?_⟩
  show zval b64 (val64 (of64 (round b64 (.fin (decide (n < 0)) n.natAbs (j : Int))))) = _
  rw [h1, hv]
  show signed (decide (n < 0)) (inUnits c' q' b64.qmin) = _
  rw [h2]
  have e1 : inUnits n.natAbs (j : Int) b64.qmin = n.natAbs * (2 ^ j * one64) := by
    unfold inUnits one64
    rw [qmin_b64, ← Nat.pow_add]
    congr 2 <;> omega
  have e3 : signed (decide (n < 0)) n.natAbs = n := by
    unfold signed
    by_cases h : n < 0
    · simp [h]; omega
    · simp [h]; omega
  rw [e1, signed_mul, e3, Int.natCast_mul, Int.natCast_pow, Int.mul_assoc]; rfl
/-- the double is finite and worth n / 2^k -/
def Dy (n : Int) (k : Nat) (a : UInt64) : Prop := DFin a ∧ zv a * 2 ^ k = n * (one64 : Int)
theorem two_pos (k : Nat) : (0 : Int) < 2 ^ k := Int.pow_pos (by decide)
theorem Dy.fin {n : Int} {k : Nat} {a : UInt64} (h : Dy n k a) : DFin a := h.1
theorem Dy.nn {n : Int} {k : Nat} {a : UInt64} (h : Dy n k a) : val64 a ≠ .nan := h.1.ne_nan
theorem dint_fin {i : Int} {a : UInt64} (h : DInt i a) : DFin a := by
  unfold DInt at h
  cases hd : val64 a with
  | nan => rw [hd] at h; exact h.elim
  | inf s => rw [hd] at h; exact h.elim
  | fin s c q => exact ⟨s, c, q, hd⟩
theorem Dy.of_int {i : Int} {a : UInt64} (h : DInt i a) : Dy i 0 a := ⟨dint_fin h, by rw [show zv a = i * (one64 : Int) from DInt_zval h]; simp⟩
theorem dy_i2d (a : Int32) : Dy a.toInt 0 (i2d a) := Dy.of_int (i2d_int a)
theorem dy_l2d {a : Int64} (h : a.toInt.natAbs ≤ 2 ^ 53) : Dy a.toInt 0 (l2d a) := Dy.of_int (l2d_int h)
theorem dy_zero : Dy 0 0 0 := ⟨⟨_, _, _, val64_zero⟩, by rw [show zv 0 = 0 from zval64_zero]; simp⟩
theorem dy_one : Dy 1 0 4607182418800017408 := Dy.of_int dint_one
theorem Dy.up {n : Int} {k : Nat} {a : UInt64} (h : Dy n k a) (j : Nat) : Dy (n * 2 ^ j) (k + j) a := ⟨h.1, by rw [Int.pow_add, ← Int.mul_assoc, h.2]; (generalize one64 = U; ac_rfl)⟩
theorem cancel {x y : Int} {k : Nat} (h : x * 2 ^ k = y * 2 ^ k) : x = y := Int.eq_of_mul_eq_mul_right (Int.ne_of_gt (two_pos k)) h
theorem Dy.eq {n : Int} {k : Nat} {a b : UInt64} (ha : Dy n k a) (hb : Dy n k b) : zv a = zv b := cancel (ha.2.trans hb.2.symm)
theorem val_dneg (a : UInt64) (h : val64 a ≠ .nan) : val64 (Jvm.FP.dneg a) = negate (val64 a) := by
  refine val64_neg_bits ?_
  have hx : (Jvm.FP.dneg a).toNat = a.toNat ^^^ 2 ^ 63 := by
    show (a ^^^ 0x8000000000000000).toNat = _
    rw [UInt64.toNat_xor]; rfl
  have hlt := a.toNat_lt
  by_cases hb : a.toNat < 2 ^ 63
  · right
    rw [hx, Nat.xor_comm]
    have := Nat.two_pow_add_eq_or_of_lt hb 1
    have e2 : (2 ^ 63 ^^^ a.toNat) = 2 ^ 63 + a.toNat := by
      rw [Nat.mul_one] at this
      rw [this]
      apply Nat.eq_of_testBit_eq; intro i
      simp only [Nat.testBit_xor, Nat.testBit_or, Nat.testBit_two_pow]
      by_cases q : 63 = i
      · subst q; simp [Nat.testBit_lt_two_pow hb]
      · simp [q]
    omega
  · left
    have hb' : a.toNat - 2 ^ 63 < 2 ^ 63 := by omega
    have := Nat.two_pow_add_eq_or_of_lt hb' 1
    rw [Nat.mul_one] at this
    have e0 : a.toNat = 2 ^ 63 ||| (a.toNat - 2 ^ 63) := by omega
    have e2 : a.toNat ^^^ 2 ^ 63 = a.toNat - 2 ^ 63 := by
      apply Nat.eq_of_testBit_eq; intro i
      rw [Nat.testBit_xor, Nat.testBit_two_pow]
      have t := congrArg (fun z => z.testBit i) e0
      simp only [Nat.testBit_or, Nat.testBit_two_pow] at t
      rw [t]
      by_cases q : 63 = i
      · subst q; simp [Nat.testBit_lt_two_pow hb']
      · simp [q]
    omega
theorem dneg_fin {a : UInt64} (h : DFin a) : DFin (Jvm.FP.dneg a) := by
  obtain ⟨s, c, q, e⟩ := h
  exact ⟨!s, c, q, by rw [val_dneg a (by rw [e]; exact nofun), e]; rfl⟩
theorem dneg_zv {a : UInt64} (h : val64 a ≠ .nan) : zv (Jvm.FP.dneg a) = -zv a := by
  show zval b64 (val64 (Jvm.FP.dneg a)) = _
  rw [val_dneg a h, zval_negate]
theorem dy_neg {n : Int} {k : Nat} {a : UInt64} (h : Dy n k a) : Dy (-n) k (Jvm.FP.dneg a) := ⟨dneg_fin h.1, by rw [dneg_zv h.nn, Int.neg_mul, h.2, Int.neg_mul]⟩
theorem cneg_fin {a : UInt64} (h : DFin a) : DFin (dneg a) := by
  obtain ⟨s, c, q, e⟩ := h
  exact ⟨!s, c, q, by rw [val64_dneg, e]; rfl⟩
theorem cneg_zv (a : UInt64) : zv (dneg a) = -zv a := by
  show zval b64 (val64 (dneg a)) = _
  rw [val64_dneg, zval_negate]
-- sums
theorem add_nn {a b : UInt64} (ha : DFin a) (hb : DFin b) : val64 (dadd a b) ≠ .nan := (notNaN_iff _).mp (dadd_out ha.notNaN hb)
theorem add_le {a b V : UInt64} (ha : DFin a) (hb : DFin b) (hV : val64 V ≠ .nan) (h : zv a + zv b ≤ zv V) : zv (dadd a b) ≤ zv V := by
  show zval b64 (val64 (dadd a b)) ≤ _
  rw [val64_dadd]
  exact sum_le good_b64 ha hb (val64_fits a) (val64_fits b) (val64_fits V) hV h
theorem add_ge {a b V : UInt64} (ha : DFin a) (hb : DFin b) (hV : val64 V ≠ .nan) (h : zv V ≤ zv a + zv b) : zv V ≤ zv (dadd a b) := by
  show _ ≤ zval b64 (val64 (dadd a b))
  rw [val64_dadd]
  exact sum_ge good_b64 ha hb (val64_fits a) (val64_fits b) (val64_fits V) hV h
theorem add_exact {a b V : UInt64} (ha : DFin a) (hb : DFin b) (hV : DFin V) (h : zv a + zv b = zv V) : DFin (dadd a b) ∧ zv (dadd a b) = zv V := by
  have h1 := add_le ha hb hV.ne_nan (Int.le_of_eq h)
  have h2 := add_ge ha hb hV.ne_nan (Int.le_of_eq h.symm)
  exact ⟨fin_between hV hV (add_nn ha hb) h2 h1, Int.le_antisymm h1 h2⟩
theorem dy_add {n m : Int} {k : Nat} {a b : UInt64} (ha : Dy n k a) (hb : Dy m k b) (hk : k ≤ 1074) (h : (n + m).natAbs < 2 ^ 53) : Dy (n + m) k (dadd a b) := by
  obtain ⟨V, hV, e⟩ := rep_exists (n + m) k hk h
  have q : zv a + zv b = zv V := cancel (k := k) (by rw [Int.add_mul, ha.2, hb.2, e, Int.add_mul])
  obtain ⟨h1, h2⟩ := add_exact ha.1 hb.1 hV q
  exact ⟨h1, by rw [h2]; exact e⟩
theorem dy_sub {n m : Int} {k : Nat} {a b : UInt64} (ha : Dy n k a) (hb : Dy m k b) (hk : k ≤ 1074) (h : (n - m).natAbs < 2 ^ 53) : Dy (n - m) k (dsub a b) := by
  rw [dsub_eq]
  have hb' : Dy (-m) k (dneg b) := ⟨cneg_fin hb.1, by rw [cneg_zv, Int.neg_mul, hb.2, Int.neg_mul]⟩
  have := dy_add ha hb' hk (by rw [← Int.sub_eq_add_neg]; exact h)
  rw [← Int.sub_eq_add_neg] at this; exact this
-- products
theorem mul_nn {a b : UInt64} (ha : DFin a) (hb : DFin b) : val64 (dmul a b) ≠ .nan := (notNaN_iff _).mp (dmul_out ha hb)
theorem mul_units {a b : UInt64} (ha : DFin a) (hb : DFin b) : ∃ s c q, exactProduct (val64 a) (val64 b) = .fin s c q ∧ 2 * b64.qmin ≤ q ∧ signed s (inUnits c q (2 * b64.qmin)) = zv a * zv b := by
  obtain ⟨s, c, q, ea⟩ := ha
  obtain ⟨t, d, r, eb⟩ := hb
  have fa := val64_fits a; have fb := val64_fits b
  rw [ea] at fa; rw [eb] at fb
  obtain ⟨h1, h2, h3⟩ := product_units fa fb
  refine ⟨_, _, _, by rw [ea, eb]; exact h1, h2, ?_⟩
  rw [h3, signed_xor]
  show _ = zval b64 (val64 a) * zval b64 (val64 b)
  rw [ea, eb]; rfl
theorem two_qmin : (b64.qmin - 2 * b64.qmin).toNat = (-b64.qmin).toNat := by congr 1 <;> omega
theorem mul_le {a b V : UInt64} (ha : DFin a) (hb : DFin b) (hV : val64 V ≠ .nan) (h : zv a * zv b ≤ zv V * (one64 : Int)) : zv (dmul a b) ≤ zv V := by
  obtain ⟨s, c, q, e1, e2, e3⟩ := mul_units ha hb
  show zval b64 (val64 (dmul a b)) ≤ zval b64 (val64 V)
  rw [val64_dmul, e1]
  refine zval_round_le good_b64 (val64_fits V) hV (e0 := 2 * b64.qmin) (by rw [qmin_b64]; decide) e2 ?_
  rw [e3, two_qmin, pow_qmin64]; exact h
theorem mul_ge {a b V : UInt64} (ha : DFin a) (hb : DFin b) (hV : val64 V ≠ .nan) (h : zv V * (one64 : Int) ≤ zv a * zv b) : zv V ≤ zv (dmul a b) := by
  obtain ⟨s, c, q, e1, e2, e3⟩ := mul_units ha hb
  show zval b64 (val64 V) ≤ zval b64 (val64 (dmul a b))
  rw [val64_dmul, e1]
  refine zval_round_ge good_b64 (val64_fits V) hV (e0 := 2 * b64.qmin) (by rw [qmin_b64]; decide) e2 ?_
  rw [e3, two_qmin, pow_qmin64]; exact h
theorem mul_exact {a b V : UInt64} (ha : DFin a) (hb : DFin b) (hV : DFin V) (h : zv a * zv b = zv V * (one64 : Int)) : DFin (dmul a b) ∧ zv (dmul a b) = zv V := by
  have h1 := mul_le ha hb hV.ne_nan (Int.le_of_eq h)
  have h2 := mul_ge ha hb hV.ne_nan (Int.le_of_eq h.symm)
  exact ⟨fin_between hV hV (mul_nn ha hb) h2 h1, Int.le_antisymm h1 h2⟩
theorem dy_mul {n m : Int} {k j : Nat} {a b : UInt64} (ha : Dy n k a) (hb : Dy m j b) (hk : k + j ≤ 1074) (h : (n * m).natAbs < 2 ^ 53) : Dy (n * m) (k + j) (dmul a b) := by
  obtain ⟨V, hV, e⟩ := rep_exists (n * m) (k + j) hk h
  have q : zv a * zv b = zv V * (one64 : Int) := cancel (k := k + j) (by
    have : zv a * zv b * 2 ^ (k + j) = (zv a * 2 ^ k) * (zv b * 2 ^ j) := by rw [Int.pow_add]; (generalize one64 = U; ac_rfl)
    rw [this, ha.2, hb.2, show zv V * (one64 : Int) * 2 ^ (k + j) = zv V * 2 ^ (k + j) * (one64 : Int) by (generalize one64 = U; ac_rfl), e]; (generalize one64 = U; ac_rfl))
  obtain ⟨h1, h2⟩ := mul_exact ha.1 hb.1 hV q
  exact ⟨h1, by rw [h2]; exact e⟩
-- quotients
theorem nz_of {b : UInt64} (hb : DFin b) (h : zv b ≠ 0) : ¬ DZero b := fun q => h q.zval
theorem div_nn {a b : UInt64} (ha : DFin a) (hb : DFin b) (h : zv b ≠ 0) : val64 (ddiv a b) ≠ .nan := (notNaN_iff _).mp (ddiv_out ha.notNaN hb (nz_of hb h))
theorem div_pows {q r e0 : Int} (hq : b64.qmin ≤ q) (hr : b64.qmin ≤ r) (h0 : e0 ≤ b64.qmin) (h1 : e0 ≤ q - r) :
    2 ^ (q - r - e0).toNat * 2 ^ (r - b64.qmin).toNat = 2 ^ (q - b64.qmin).toNat * one64 * 2 ^ (b64.qmin - e0).toNat := by
  unfold one64
  rw [← Nat.pow_add, ← Nat.pow_add, ← Nat.pow_add]
  rw [qmin_b64] at *
  congr 1 <;> omega
theorem div_val {a b : UInt64} {s t : Bool} {c d : Nat} {q r : Int} (ea : val64 a = .fin s c q) (eb : val64 b = .fin t d r) (hd : d ≠ 0) : val64 (ddiv a b) = roundRatio b64 (s != t) c d (q - r) := by
  rw [val64_ddiv, ea, eb]
  simp [quotient, hd]
theorem div_mag_le {a b V : UInt64} (ha : DFin a) (hb : DFin b) (hz : zmag b64 (val64 b) ≠ 0) (hV : val64 V ≠ .nan) (h : zmag b64 (val64 a) * one64 ≤ zmag b64 (val64 V) * zmag b64 (val64 b)) : zmag b64 (val64 (ddiv a b)) ≤ zmag b64 (val64 V) := by
  obtain ⟨s, c, q, ea⟩ := ha
  obtain ⟨t, d, r, eb⟩ := hb
  have fa := val64_fits a; have fb := val64_fits b
  rw [ea] at fa; rw [eb] at fb
  have za : zmag b64 (val64 a) = c * 2 ^ (q - b64.qmin).toNat := by rw [ea]; rfl
  have zb : zmag b64 (val64 b) = d * 2 ^ (r - b64.qmin).toNat := by rw [eb]; rfl
  have hd : d ≠ 0 := fun q => hz (by rw [zb, q, Nat.zero_mul])
  rw [div_val ea eb hd]
  have hp := div_pows (e0 := min b64.qmin (q - r)) fa.2.1 fb.2.1 (by omega) (by omega)
  refine zmag_roundRatio_le good_b64 (Nat.pos_of_ne_zero hd) (val64_fits V) hV (e0 := min b64.qmin (q - r)) (by omega) (by omega) ?_
  rw [za, zb] at h
  generalize zmag b64 (val64 V) = v at h ⊢
  unfold inUnits
  refine Nat.le_of_mul_le_mul_right (c := 2 ^ (r - b64.qmin).toNat) ?_ (Nat.two_pow_pos _)
  rw [Nat.mul_assoc, hp]
  have := Nat.mul_le_mul_right (2 ^ (b64.qmin - min b64.qmin (q - r)).toNat) h
  calc c * (2 ^ (q - b64.qmin).toNat * one64 * 2 ^ (b64.qmin - min b64.qmin (q - r)).toNat) = c * 2 ^ (q - b64.qmin).toNat * one64 * 2 ^ (b64.qmin - min b64.qmin (q - r)).toNat := by (generalize one64 = U; ac_rfl)
    _ ≤ _ := this
    _ = v * 2 ^ (b64.qmin - min b64.qmin (q - r)).toNat * d * 2 ^ (r - b64.qmin).toNat := by (generalize one64 = U; ac_rfl)
theorem div_mag_ge {a b V : UInt64} (ha : DFin a) (hb : DFin b) (hz : zmag b64 (val64 b) ≠ 0) (hV : val64 V ≠ .nan) (h : zmag b64 (val64 V) * zmag b64 (val64 b) ≤ zmag b64 (val64 a) * one64) : zmag b64 (val64 V) ≤ zmag b64 (val64 (ddiv a b)) := by
  obtain ⟨s, c, q, ea⟩ := ha
  obtain ⟨t, d, r, eb⟩ := hb
  have fa := val64_fits a; have fb := val64_fits b
  rw [ea] at fa; rw [eb] at fb
  have za : zmag b64 (val64 a) = c * 2 ^ (q - b64.qmin).toNat := by rw [ea]; rfl
  have zb : zmag b64 (val64 b) = d * 2 ^ (r - b64.qmin).toNat := by rw [eb]; rfl
  have hd : d ≠ 0 := fun q => hz (by rw [zb, q, Nat.zero_mul])
  rw [div_val ea eb hd]
  have hp := div_pows (e0 := min b64.qmin (q - r)) fa.2.1 fb.2.1 (by omega) (by omega)
  refine zmag_roundRatio_ge good_b64 (Nat.pos_of_ne_zero hd) (val64_fits V) (e0 := min b64.qmin (q - r)) (by omega) (by omega) ?_
  rw [za, zb] at h
  generalize zmag b64 (val64 V) = v at h ⊢
  unfold inUnits
  refine Nat.le_of_mul_le_mul_right (c := 2 ^ (r - b64.qmin).toNat) ?_ (Nat.two_pow_pos _)
  rw [Nat.mul_assoc c, hp]
  have := Nat.mul_le_mul_right (2 ^ (b64.qmin - min b64.qmin (q - r)).toNat) h
  calc v * 2 ^ (b64.qmin - min b64.qmin (q - r)).toNat * d * 2 ^ (r - b64.qmin).toNat = v * (d * 2 ^ (r - b64.qmin).toNat) * 2 ^ (b64.qmin - min b64.qmin (q - r)).toNat := by (generalize one64 = U; ac_rfl)
    _ ≤ _ := this
    _ = c * (2 ^ (q - b64.qmin).toNat * one64 * 2 ^ (b64.qmin - min b64.qmin (q - r)).toNat) := by (generalize one64 = U; ac_rfl)
theorem div_sgn {a b : UInt64} (ha : DFin a) (hb : DFin b) (hz : zmag b64 (val64 b) ≠ 0) : sgn (val64 (ddiv a b)) = (sgn (val64 a) != sgn (val64 b)) := by
  obtain ⟨s, c, q, ea⟩ := ha
  obtain ⟨t, d, r, eb⟩ := hb
  have zb : zmag b64 (val64 b) = d * 2 ^ (r - b64.qmin).toNat := by rw [eb]; rfl
  have hd : d ≠ 0 := fun q => hz (by rw [zb, q, Nat.zero_mul])
  rw [div_val ea eb hd, sgn_roundRatio, ea, eb]; rfl
theorem zv_cases (a : UInt64) : (sgn (val64 a) = false ∧ zv a = (zmag b64 (val64 a) : Int)) ∨ (sgn (val64 a) = true ∧ zv a = -(zmag b64 (val64 a) : Int)) := by
  show (_ ∧ signed _ _ = _) ∨ (_ ∧ signed _ _ = _)
  cases sgn (val64 a) <;> simp [signed]
theorem nat_mul_le {a b c d : Nat} (h : (a : Int) * (b : Int) ≤ (c : Int) * (d : Int)) : a * b ≤ c * d := by
  rw [← Int.natCast_mul, ← Int.natCast_mul] at h; exact Int.ofNat_le.mp h
theorem div_le {a b V : UInt64} (ha : DFin a) (hb : DFin b) (hp : 0 < zv b) (hV : val64 V ≠ .nan) (h : zv a * (one64 : Int) ≤ zv V * zv b) : zv (ddiv a b) ≤ zv V := by
  have ub := zv_bd b
  have hz : zmag b64 (val64 b) ≠ 0 := by omega
  have eb : sgn (val64 b) = false ∧ zv b = (zmag b64 (val64 b) : Int) := by rcases zv_cases b with q | q; exact q; omega
  have es := div_sgn ha hb hz
  rw [eb.1] at es
  have hU := U_pos
  rcases zv_cases a with ⟨sa, ea⟩ | ⟨sa, ea⟩ <;> rw [sa] at es
  · have er : zv (ddiv a b) = (zmag b64 (val64 (ddiv a b)) : Int) := by rcases zv_cases (ddiv a b) with q | q; exact q.2; rw [q.1] at es; cases es
    rcases zv_cases V with ⟨sv, ev⟩ | ⟨sv, ev⟩
    · have := div_mag_le ha hb hz hV (nat_mul_le (by rw [← ea, ← ev, ← eb.2]; exact h))
      omega
    · have h0 : 0 ≤ zv a * (one64 : Int) := Int.mul_nonneg (by omega) (by omega)
      have h1 : 0 ≤ zv V * zv b := Int.le_trans h0 h
      have h2 : zv V = 0 := by
        by_cases q : zv V < 0
        · have := Int.mul_neg_of_neg_of_pos q hp; omega
        · omega
      have h3 : zmag b64 (val64 V) = 0 := by omega
      rw [h2, Int.zero_mul] at h
      have h5 : zmag b64 (val64 a) * one64 ≤ zmag b64 (val64 V) * zmag b64 (val64 b) := nat_mul_le (by rw [← ea, h3]; simpa using h)
      have := div_mag_le ha hb hz hV h5
      omega
  · have er : zv (ddiv a b) = -(zmag b64 (val64 (ddiv a b)) : Int) := by rcases zv_cases (ddiv a b) with q | q; rw [q.1] at es; cases es; exact q.2
    rcases zv_cases V with ⟨sv, ev⟩ | ⟨sv, ev⟩
    · omega
    · have := div_mag_ge ha hb hz hV (nat_mul_le (by
        have : zv V * zv b = -((zmag b64 (val64 V) : Int) * (zmag b64 (val64 b) : Int)) := by rw [ev, eb.2, Int.neg_mul]
        have h6 : zv a * (one64 : Int) = -((zmag b64 (val64 a) : Int) * (one64 : Int)) := by rw [ea, Int.neg_mul]
        omega))
      omega
theorem div_ge {a b V : UInt64} (ha : DFin a) (hb : DFin b) (hp : 0 < zv b) (hV : val64 V ≠ .nan) (h : zv V * zv b ≤ zv a * (one64 : Int)) : zv V ≤ zv (ddiv a b) := by
  have ub := zv_bd b
  have hz : zmag b64 (val64 b) ≠ 0 := by omega
  have eb : sgn (val64 b) = false ∧ zv b = (zmag b64 (val64 b) : Int) := by rcases zv_cases b with q | q; exact q; omega
  have es := div_sgn ha hb hz
  rw [eb.1] at es
  have hU := U_pos
  rcases zv_cases a with ⟨sa, ea⟩ | ⟨sa, ea⟩ <;> rw [sa] at es
  · have er : zv (ddiv a b) = (zmag b64 (val64 (ddiv a b)) : Int) := by rcases zv_cases (ddiv a b) with q | q; exact q.2; rw [q.1] at es; cases es
    rcases zv_cases V with ⟨sv, ev⟩ | ⟨sv, ev⟩
    · have := div_mag_ge ha hb hz hV (nat_mul_le (by rw [← ea, ← ev, ← eb.2]; exact h))
      omega
    · omega
  · have er : zv (ddiv a b) = -(zmag b64 (val64 (ddiv a b)) : Int) := by rcases zv_cases (ddiv a b) with q | q; rw [q.1] at es; cases es; exact q.2
    rcases zv_cases V with ⟨sv, ev⟩ | ⟨sv, ev⟩
    · have h0 : zv a * (one64 : Int) ≤ 0 := Int.mul_nonpos_of_nonpos_of_nonneg (by omega) (by omega)
      have h1 : zv V * zv b ≤ 0 := Int.le_trans h h0
      have h2 : zv V = 0 := by
        by_cases q : 0 < zv V
        · have := Int.mul_pos q hp; omega
        · omega
      have h3 : zmag b64 (val64 V) = 0 := by omega
      rw [h2, Int.zero_mul] at h
      have h4 : (zmag b64 (val64 a) : Int) * (one64 : Int) = -(zv a * (one64 : Int)) := by rw [ea, Int.neg_mul, Int.neg_neg]
      have h5 : zmag b64 (val64 a) * one64 ≤ zmag b64 (val64 V) * zmag b64 (val64 b) := nat_mul_le (by rw [h4, h3]; simp; omega)
      have := div_mag_le ha hb hz hV h5
      omega
    · have := div_mag_le ha hb hz hV (nat_mul_le (by
        have : zv V * zv b = -((zmag b64 (val64 V) : Int) * (zmag b64 (val64 b) : Int)) := by rw [ev, eb.2, Int.neg_mul]
        have h6 : zv a * (one64 : Int) = -((zmag b64 (val64 a) : Int) * (one64 : Int)) := by rw [ea, Int.neg_mul]
        omega))
      omega
theorem Dy.pos {m : Int} {j : Nat} {b : UInt64} (hb : Dy m j b) (hm : 0 < m) : 0 < zv b := by
  have h1 : 0 < zv b * 2 ^ j := by rw [hb.2]; exact Int.mul_pos hm U_pos
  exact Int.pos_of_mul_pos_left h1 (two_pos j)
theorem div_le_dy {n m q : Int} {k j i : Nat} {a b : UInt64} (ha : Dy n k a) (hb : Dy m j b) (hm : 0 < m) (hi : i ≤ 1074) (hq : q.natAbs < 2 ^ 53) (h : n * 2 ^ j * 2 ^ i ≤ q * m * 2 ^ k) : zv (ddiv a b) * 2 ^ i ≤ q * (one64 : Int) := by
  obtain ⟨V, hV, e⟩ := rep_exists q i hi hq
  rw [← e]
  refine Int.mul_le_mul_of_nonneg_right (div_le ha.1 hb.1 (hb.pos hm) hV.ne_nan ?_) (Int.le_of_lt (two_pos i))
  have hU := U_pos
  refine Int.le_of_mul_le_mul_right (a := 2 ^ k * 2 ^ j * 2 ^ i) ?_ (Int.mul_pos (Int.mul_pos (two_pos k) (two_pos j)) (two_pos i))
  have e1 : zv a * (one64 : Int) * (2 ^ k * 2 ^ j * 2 ^ i) = n * 2 ^ j * 2 ^ i * ((one64 : Int) * (one64 : Int)) := by
    rw [show zv a * (one64 : Int) * (2 ^ k * 2 ^ j * 2 ^ i) = zv a * 2 ^ k * ((one64 : Int) * 2 ^ j * 2 ^ i) by (generalize one64 = U; ac_rfl), ha.2]; (generalize one64 = U; ac_rfl)
  have e2 : zv V * zv b * (2 ^ k * 2 ^ j * 2 ^ i) = q * m * 2 ^ k * ((one64 : Int) * (one64 : Int)) := by
    rw [show zv V * zv b * (2 ^ k * 2 ^ j * 2 ^ i) = (zv V * 2 ^ i) * (zv b * 2 ^ j) * 2 ^ k by (generalize one64 = U; ac_rfl), e, hb.2]; (generalize one64 = U; ac_rfl)
  rw [e1, e2]
  exact Int.mul_le_mul_of_nonneg_right h (Int.le_of_lt (Int.mul_pos hU hU))
theorem div_ge_dy {n m q : Int} {k j i : Nat} {a b : UInt64} (ha : Dy n k a) (hb : Dy m j b) (hm : 0 < m) (hi : i ≤ 1074) (hq : q.natAbs < 2 ^ 53) (h : q * m * 2 ^ k ≤ n * 2 ^ j * 2 ^ i) : q * (one64 : Int) ≤ zv (ddiv a b) * 2 ^ i := by
  obtain ⟨V, hV, e⟩ := rep_exists q i hi hq
  rw [← e]
  refine Int.mul_le_mul_of_nonneg_right (div_ge ha.1 hb.1 (hb.pos hm) hV.ne_nan ?_) (Int.le_of_lt (two_pos i))
  have hU := U_pos
  refine Int.le_of_mul_le_mul_right (a := 2 ^ k * 2 ^ j * 2 ^ i) ?_ (Int.mul_pos (Int.mul_pos (two_pos k) (two_pos j)) (two_pos i))
  have e1 : zv a * (one64 : Int) * (2 ^ k * 2 ^ j * 2 ^ i) = n * 2 ^ j * 2 ^ i * ((one64 : Int) * (one64 : Int)) := by
    rw [show zv a * (one64 : Int) * (2 ^ k * 2 ^ j * 2 ^ i) = zv a * 2 ^ k * ((one64 : Int) * 2 ^ j * 2 ^ i) by (generalize one64 = U; ac_rfl), ha.2]; (generalize one64 = U; ac_rfl)
  have e2 : zv V * zv b * (2 ^ k * 2 ^ j * 2 ^ i) = q * m * 2 ^ k * ((one64 : Int) * (one64 : Int)) := by
    rw [show zv V * zv b * (2 ^ k * 2 ^ j * 2 ^ i) = (zv V * 2 ^ i) * (zv b * 2 ^ j) * 2 ^ k by (generalize one64 = U; ac_rfl), e, hb.2]; (generalize one64 = U; ac_rfl)
  rw [e1, e2]
  exact Int.mul_le_mul_of_nonneg_right h (Int.le_of_lt (Int.mul_pos hU hU))
theorem dy_div {n m q : Int} {k j i : Nat} {a b : UInt64} (ha : Dy n k a) (hb : Dy m j b) (hm : 0 < m) (hi : i ≤ 1074) (hq : q.natAbs < 2 ^ 53) (h : n * 2 ^ j * 2 ^ i = q * m * 2 ^ k) : Dy q i (ddiv a b) := by
  have h1 := div_le_dy ha hb hm hi hq (Int.le_of_eq h)
  have h2 := div_ge_dy ha hb hm hi hq (Int.le_of_eq h.symm)
  have h3 := Int.le_antisymm h1 h2
  obtain ⟨V, hV, e⟩ := rep_exists q i hi hq
  have h4 : zv (ddiv a b) = zv V := cancel (h3.trans e.symm)
  exact ⟨fin_between hV hV (div_nn ha.1 hb.1 (Int.ne_of_gt (hb.pos hm))) (Int.le_of_eq h4.symm) (Int.le_of_eq h4), h3⟩
-- comparisons
theorem cmp_dy {n m : Int} {k j : Nat} {a b : UInt64} (ha : Dy n k a) (hb : Dy m j b) : Jvm.FP.dcmp a b = some (compare (n * 2 ^ j) (m * 2 ^ k)) := by
  show dcmp a b = _
  rw [dcmp_zval ha.nn hb.nn]
  congr 1
  have hU := U_pos
  have e1 : zv a * (2 ^ k * 2 ^ j) = n * 2 ^ j * (one64 : Int) := by rw [← Int.mul_assoc, ha.2]; (generalize one64 = U; ac_rfl)
  have e2 : zv b * (2 ^ k * 2 ^ j) = m * 2 ^ k * (one64 : Int) := by rw [show zv b * (2 ^ k * 2 ^ j) = zv b * 2 ^ j * 2 ^ k by (generalize one64 = U; ac_rfl), hb.2]; (generalize one64 = U; ac_rfl)
  rw [← compare_mul_pos (zv a) (zv b) (2 ^ k * 2 ^ j) (Int.mul_pos (two_pos k) (two_pos j)), e1, e2, compare_mul_pos _ _ _ hU]
theorem cmp_dy0 {n m : Int} {k : Nat} {a b : UInt64} (ha : Dy n k a) (hb : Dy m k b) : Jvm.FP.dcmp a b = some (compare n m) := by
  rw [cmp_dy ha hb, compare_mul_pos _ _ _ (two_pos k)]
theorem cmp_lt {a b : UInt64} (ha : val64 a ≠ .nan) (hb : val64 b ≠ .nan) (h : zv a < zv b) : Jvm.FP.dcmp a b = some .lt := dcmp_lt.mpr ⟨ha, hb, h⟩
theorem cmp_eq {a b : UInt64} (ha : val64 a ≠ .nan) (hb : val64 b ≠ .nan) (h : zv a = zv b) : Jvm.FP.dcmp a b = some .eq := dcmp_eq.mpr ⟨ha, hb, h⟩
theorem cmp_gt {a b : UInt64} (ha : val64 a ≠ .nan) (hb : val64 b ≠ .nan) (h : zv b < zv a) : Jvm.FP.dcmp a b = some .gt := dcmp_gt.mpr ⟨ha, hb, h⟩
open Jvm.Op in
theorem cv_lt_g (r : Option Ordering) : cmpValue r .g < 0 ↔ r = some .lt := by rcases r with _ | (_ | _ | _) <;> decide
open Jvm.Op in
theorem cv_lt_l (r : Option Ordering) : cmpValue r .l < 0 ↔ r = some .lt ∨ r = none := by rcases r with _ | (_ | _ | _) <;> decide
open Jvm.Op in
theorem cv_gt_g (r : Option Ordering) : 0 < cmpValue r .g ↔ r = some .gt ∨ r = none := by rcases r with _ | (_ | _ | _) <;> decide
open Jvm.Op in
theorem cv_gt_l (r : Option Ordering) : 0 < cmpValue r .l ↔ r = some .gt := by rcases r with _ | (_ | _ | _) <;> decide
open Jvm.Op in
theorem cv_eq (r : Option Ordering) (o : Jvm.ClassFile.CmpOp) : cmpValue r o = 0 ↔ r = some .eq := by cases o <;> rcases r with _ | (_ | _ | _) <;> decide
theorem nn64 {a : UInt64} (h : DFin a) : Jvm.Free.Fl.NoNaN64 a := Jvm.Free.Fl.val64_no.mpr h.ne_nan
theorem nnv {a : UInt64} (h : val64 a ≠ .nan) : Jvm.Free.Fl.NoNaN64 a := Jvm.Free.Fl.val64_no.mpr h
theorem nn_v {a : UInt64} (h : Jvm.Free.Fl.NoNaN64 a) : val64 a ≠ .nan := Jvm.Free.Fl.val64_no.mp h
end Jvm.OwnFP
namespace Jvm.OwnKit
open Jvm Jvm.ClassFile Sem Op Lib Jvm.Free Jvm.Stand Jvm.LawKit Jvm.RoadKit
theorem eqF_int {Z : State} {args : Array Value} {t : Term} {C n d : String} {x : Addr} {k : Int32} (ev : t.eval args Z none [] Z = some (.ref x)) (h : (Jvm.Cond.eq (Term.field t C n d) (Term.int k)).value args Z none Z [] = some true) : Fld Z Z.heap x C n d (.int k) := by
  obtain ⟨u, w, h1, h2, -, h4⟩ := cmp_v (Or.inl h)
  have e2 : (Term.int k).eval args Z none [] Z = some (.int k) := Term.int_eval k
  cases e2.symm.trans h2
  obtain ⟨z, rfl⟩ := h4
  have hz : z = k := by simpa [Cond.value, h1, e2] using h
  subst hz
  exact Fld.start (by rw [← fld_at ev]; exact h1)
theorem eqF_dbl {Z : State} {args : Array Value} {t : Term} {C n d : String} {x : Addr} {k : Int64} {b : UInt64} (ev : t.eval args Z none [] Z = some (.ref x)) (h : (Jvm.Cond.eq (Term.field t C n d) (Term.op1 Jvm.Unary.bitsD (Term.long k))).value args Z none Z [] = some true) (hb : k.toUInt64 = b) : Fld Z Z.heap x C n d (.double b) := by
  obtain ⟨u, w, h1, h2, -, h4⟩ := cmp_v (Or.inl h)
  have e2 : (Term.op1 Jvm.Unary.bitsD (Term.long k)).eval args Z none [] Z = some (.double k.toUInt64) := by simp [Term.eval, Jvm.Unary.apply]
  cases e2.symm.trans h2
  obtain ⟨z, rfl⟩ := h4
  have hz : z = k.toUInt64 := by simpa [Cond.value, h1, e2] using h
  subst hz; subst hb
  exact Fld.start (by rw [← fld_at ev]; exact h1)
theorem eqS_int {Z : State} {args : Array Value} {C n d : String} {k : Int32} (h : (Jvm.Cond.eq (Term.static C n d) (Term.int k)).value args Z none Z [] = some true) : (Term.static C n d).eval args Z none [] Z = some (.int k) := by
  obtain ⟨u, w, h1, h2, -, h4⟩ := cmp_v (Or.inl h)
  have e2 : (Term.int k).eval args Z none [] Z = some (.int k) := Term.int_eval k
  cases e2.symm.trans h2
  obtain ⟨z, rfl⟩ := h4
  have hz : z = k := by simpa [Cond.value, h1, e2] using h
  subst hz
  exact h1
theorem staKeep {Z : State} {h h' : Heap} {C n d : String} {v : Value} {ws : List Addr} (F : Sta Z h C n d v) (K : Keep h h' ws) (q : ∀ x ∈ ws, ∃ c : Cell, h[x]? = some c ∧ c.vm.isStatics = false) : Sta Z h' C n d v := by
  obtain ⟨cf, i, k, f, st, cell, h1, h2, h3, h4, h5, h6, h7⟩ := F
  refine ⟨cf, i, k, f, st, cell, h1, h2, h3, h4, K.2.1 st cell h5 fun hm => ?_, h6, h7⟩
  obtain ⟨c, e1, e2⟩ := q st hm
  cases h5.symm.trans e1
  rw [e2] at h6; cases h6
theorem exaSt {Z : State} {h : Heap} {a : Addr} {C : String} (F : Exa Z h a C) : ∃ c : Cell, h[a]? = some c ∧ c.vm.isStatics = false := by
  obtain ⟨c, _, h1, -, -, h4, -⟩ := F; exact ⟨c, h1, h4⟩
theorem arvSt {Z : State} {h : Heap} {a : Addr} {k : ClassId} {ty : FieldType} {z : Int32} {vs : List Value} {dv : Value} (F : Arv Z h a k ty z vs dv) : ∃ c : Cell, h[a]? = some c ∧ c.vm.isStatics = false := by
  obtain ⟨c, A, -⟩ := F; exact ⟨c, A.1, A.plain⟩
theorem narB0 : nar .boolean 0 = 0 := by decide
theorem narB1 : nar .boolean 1 = 1 := by decide
end Jvm.OwnKit
namespace Jvm.Pilot.@@N@@
open Jvm Jvm.ClassFile Sem Op Lib Jvm.Free Jvm.Stand Jvm.LawKit Jvm.RoadKit Bundle Jvm.OwnFP Jvm.OwnKit Jvm.Pilot.@@N@@.Jvm.D
theorem own_gt (c t : Int32) : FP.dcmp (FP.i2d c) (FP.i2d t) = some .gt ↔ t < c := by
  rw [cmp_dy0 (dy_i2d c) (dy_i2d t), Option.some.injEq, Jvm.FP.Core.compare_gt_iff, Int32.lt_iff_toInt_lt]
theorem ef_rmXI (m : MethodId) (x0 : Addr) : entryFrame m #[(.ref x0)] 1 = mkF m 0 #[.val (.ref x0)] [] := by first | (simp [entryFrame, mkF, argsToLocals, Value.category]; done) | rfl
theorem d1_0 : decode prog_2_method_1_code 0 = .ok (.aload_n 0, 1) := by decide +kernel
theorem d1_1 : decode prog_2_method_1_code 1 = .ok (.invokespecial 1, 3) := by decide +kernel
theorem d1_4 : decode prog_2_method_1_code 4 = .ok (.aload_n 0, 1) := by decide +kernel
theorem d1_5 : decode prog_2_method_1_code 5 = .ok (.getstatic 7, 3) := by decide +kernel
theorem d1_8 : decode prog_2_method_1_code 8 = .ok (.newarray .double, 2) := by decide +kernel
theorem d1_10 : decode prog_2_method_1_code 10 = .ok (.putfield 13, 3) := by decide +kernel
theorem d1_13 : decode prog_2_method_1_code 13 = .ok (.return_, 1) := by decide +kernel
theorem own_pn_com_example_tabuvia_tabuvia_engine_Excess : plainName "com/example/tabuvia/tabuvia/engine/Excess" = true := by first | (simp [plainName, overriddenIn]; done) | decide +kernel
def QXI (Z : State) (a0_ : Addr) (h0 : Heap) (n0 : Nat) (v : Option Value) (h : Heap) (L : List Loc) : Prop := ∃ (arr : Addr) (kk : ClassId), v = none ∧ Fr n0 L ∧ Keep h0 h [a0_] ∧ Fld Z h a0_ "com/example/tabuvia/tabuvia/engine/Excess" "amounts" "[D" (.ref arr) ∧ Arv Z h arr kk .double (4 : Int32) [(.double (0 : UInt64)), (.double (0 : UInt64)), (.double (0 : UInt64)), (.double (0 : UInt64))] (.double (0 : UInt64)) ∧ n0 ≤ arr ∧ h0.size ≤ arr
set_option maxRecDepth 65536 in
set_option maxHeartbeats 40000000 in
theorem rmXI (l : Launch) (Z : State) (a0 : Array Value) (hw : ∀ d ∈ tables_1, d.before a0 Z = true) (ws : List Jvm.Cond) (a0_ : Addr) (h0 : Heap) (n0 : Nat) (Z0 : n0 ≤ h0.size) (E0 : Exa Z h0 a0_ "com/example/tabuvia/tabuvia/engine/Excess") (g0 : n0 ≤ a0_) (F0_amounts : Fld Z h0 a0_ "com/example/tabuvia/tabuvia/engine/Excess" "amounts" "[D" .null) (S_RULES : Sta Z h0 "com/example/tabuvia/tabuvia/engine/Excess" "RULES" "I" (.int (4 : Int32))) :
    MetFree l (⟨"com/example/tabuvia/tabuvia/engine/Excess", "<init>", "()V"⟩ : MethodName) (head1 (Jvm.Cond.code (⟨"com/example/tabuvia/tabuvia/engine/Excess", "<init>", "()V"⟩ : MethodName) prog_2_method_1_code 1 none :: ws) ({ frames := 1, cells := 1, slots := 4, locals := 12 } : Room)) (fun a U => a = #[(.ref a0_)] ∧ Z.Warmed39 U.vm ∧ U.heap = h0) (fun _ _ _ _ _ => True) (fun _ U o U' => ∃ v L, o = .returned v ∧ QXI Z a0_ h0 n0 v U'.heap L ∧ FrameEnd U o U' L ({ frames := 1, cells := 1, slots := 4, locals := 12 } : Room).cells ({ frames := 1, cells := 1, slots := 4, locals := 12 } : Room).slots) := by
  refine MetFree.of_bodySF (plainFor_of_name own_pn_com_example_tabuvia_tabuvia_engine_Excess) hisR ?_
  intro p e s m args below meth c s₁ Bd hml0 hP hK
  obtain ⟨rfl, hZ, hh⟩ := hP
  have hx := Bd.exec
  have hby := Bd.bytes
  have hml : c.maxLocals = 1 := hml0
  have hown : s.vm.findClass "com/example/tabuvia/tabuvia/engine/Excess" = some m.cls := findClass_of_methodNamed Bd.named
  have hnm := (name_of_methodNamed Bd.named Bd.method).1
  have X0 : Stand p l e ({ frames := 1, cells := 1, slots := 4, locals := 12 } : Room) s m #[(.ref a0_)] below meth c s₁ [] 0 0 := Stand.of_body Bd
  have e0 : s₁.heap = h0 := by rw [← hh, Bd.state]; rfl
  have N0 := Fr.nil n0
  have pre0 : ∀ t, Steps p.tables e below (s₁.setTop (mkF m 0 #[.val (.ref a0_)] [])) t → Steps p.tables e below (s₁.setTop (entryFrame m #[(.ref a0_)] 1)) t := fun t k => castTop (ef_rmXI m a0_) k
  have a1 : ∀ t, Steps p.tables e below (s₁.setTop (mkF m 1 #[.val (.ref a0_)] [(.ref a0_)])) t → Steps p.tables e below (s₁.setTop (entryFrame m #[(.ref a0_)] 1)) t := by
    intro t k
    refine pre0 t ?_
    show Steps p.tables e below (s₁.setTop (mkF m 0 #[.val (.ref a0_)] [])) _
    refine XS.aloadN X0.here hx rfl (hb hby d1_0) rfl rfl ?_
    exact k
  obtain ⟨T2, X2, e2, st2⟩ := initO X0 hx hZ hown (hw _ (List.mem_of_getElem? (i := 6) rfl)) (hw _ (List.mem_of_getElem? (i := 7) rfl)) (hw _ (List.mem_of_getElem? (i := 8) rfl)) e0 (g := (mkF m 1 #[.val (.ref a0_)] [(.ref a0_)])) rfl (by rw [hml]; rfl) rfl (hb hby d1_1) (by decide) (W := 0) (by show 2 * 0 + _ ≤ _; exact Nat.le_of_eq rfl) (by decide)
  have a3 : ∀ t, Steps p.tables e below (T2.setTop (mkF m 4 #[.val (.ref a0_)] [])) t → Steps p.tables e below (s₁.setTop (entryFrame m #[(.ref a0_)] 1)) t := fun t k => a1 t (st2 t k)
  have a4 : ∀ t, Steps p.tables e below (T2.setTop (mkF m 5 #[.val (.ref a0_)] [(.ref a0_)])) t → Steps p.tables e below (s₁.setTop (entryFrame m #[(.ref a0_)] 1)) t := by
    intro t k
    refine a3 t ?_
    show Steps p.tables e below (T2.setTop (mkF m 4 #[.val (.ref a0_)] [])) _
    refine XS.aloadN X2.here hx rfl (hb hby d1_4) rfl rfl ?_
    exact k
  obtain ⟨T5, X5, e5, st5⟩ := getS2 X2 hx hZ hown (host := "") (Or.inl (hw _ (List.mem_of_getElem? (i := 9) rfl))) Via.refl e2 S_RULES (g := (mkF m 5 #[.val (.ref a0_)] [(.ref a0_)])) rfl (hb hby d1_5)
  have a6 : ∀ t, Steps p.tables e below (T5.setTop (mkF m 8 #[.val (.ref a0_)] [(.int (4 : Int32)), (.ref a0_)])) t → Steps p.tables e below (s₁.setTop (entryFrame m #[(.ref a0_)] 1)) t := fun t k => a4 t (st5 t k)
  obtain ⟨T7, h7, kk7, X7, e7, E7, A7, st7⟩ := newP X5 hx hZ (hw _ (List.mem_of_getElem? (i := 11) rfl)) e5 (g := (mkF m 8 #[.val (.ref a0_)] [(.int (4 : Int32)), (.ref a0_)])) rfl (hb hby d1_8) rfl (by decide) (cap := 4) (by decide) (by decide) (by decide) (by decide)
  obtain ⟨b7, g7⟩ : ∃ z, z = h0.size := ⟨_, rfl⟩
  rw [← g7] at A7 st7
  have g_b7 : n0 ≤ b7 := Nat.le_trans Z0 (Nat.le_of_eq g7.symm)
  have sz_b7 : h0.size ≤ b7 := Nat.le_trans ((Keep.refl h0 [a0_])).1 (Nat.le_of_eq g7.symm)
  have V_b7 : Arv Z h7 b7 kk7 .double (4 : Int32) [(.double (0 : UInt64)), (.double (0 : UInt64)), (.double (0 : UInt64)), (.double (0 : UInt64))] (.double (0 : UInt64)) := (Arv.new A7 (by decide)).pad (pad_rep [] (.double (0 : UInt64)) 4)
  have K7 : Keep h0 h7 [a0_] := Keep.ext (Keep.refl h0 [a0_]) E7
  have a8 : ∀ t, Steps p.tables e below (T7.setTop (mkF m 10 #[.val (.ref a0_)] [(.ref b7), (.ref a0_)])) t → Steps p.tables e below (s₁.setTop (entryFrame m #[(.ref a0_)] 1)) t := fun t k => a6 t (st7 t k)
  obtain ⟨T9, h9, X9, e9, W9, st9⟩ := putF X7 hx hZ hown (host := "") (Or.inl (hw _ (List.mem_of_getElem? (i := 12) rfl))) Via.refl e7 (F0_amounts.ext E7) (E0.ext E7) (Or.inr ⟨(hw _ (List.mem_of_getElem? (i := 13) rfl)), rfl, hnm⟩) (hw _ (List.mem_of_getElem? (i := 1) rfl)) (ty := (.array .double)) (by decide) rfl rfl (g := (mkF m 10 #[.val (.ref a0_)] [(.ref b7), (.ref a0_)])) rfl rfl (hb hby d1_10)
  have Fw9 := Fld.same W9 (F0_amounts.ext E7)
  have N9 := Fr.snoc X9 N0 g0
  have K9 : Keep h0 h9 [a0_] := Keep.wr K7 W9 (Or.inl (List.mem_of_getElem? (i := 0) rfl))
  have a10 : ∀ t, Steps p.tables e below (T9.setTop (mkF m 13 #[.val (.ref a0_)] [])) t → Steps p.tables e below (s₁.setTop (entryFrame m #[(.ref a0_)] 1)) t := fun t k => a8 t (st9 t k)
  obtain ⟨fs, hr, hrun, hended, hW, hsame⟩ := X9.leave (v := none) (fun _ => rfl)
  refine ⟨_, _, a10 _ ?_, hrun, hended, _, _, rfl, ?_, ⟨_, rfl⟩, hW, hsame.mono (by decide) (by decide)⟩
  · show Steps p.tables e below (T9.setTop (mkF m 13 #[.val (.ref a0_)] [])) _
    exact X9.returnOut hx Bd.returns (hb hby d1_13) hr
  · show QXI Z a0_ h0 n0 _ T9.heap _
    rw [e9]
    exact ⟨b7, _, rfl, N9, K9, Fw9, (Arv.other V_b7 W9 (Ne.symm (Nat.ne_of_lt (Nat.lt_of_lt_of_le F0_amounts.lt (Nat.le_of_eq g7.symm))))), g_b7, sz_b7⟩
theorem ef_rmOrd (m : MethodId) (x0 : Addr) : entryFrame m #[(.ref x0)] 1 = mkF m 0 #[.val (.ref x0)] [] := by first | (simp [entryFrame, mkF, argsToLocals, Value.category]; done) | rfl
theorem d4_0 : decode jdk_37_method_2_code 0 = .ok (.aload_n 0, 1) := by decide +kernel
theorem d4_1 : decode jdk_37_method_2_code 1 = .ok (.getfield 7, 3) := by decide +kernel
theorem d4_4 : decode jdk_37_method_2_code 4 = .ok (.ireturn, 1) := by decide +kernel
theorem own_pn_java_lang_Enum : plainName "java/lang/Enum" = true := by first | (simp [plainName, overriddenIn]; done) | decide +kernel
def QOrd (Z : State) (a0_ : Addr) (x1 : Int32) (h0 : Heap) (n0 : Nat) (v : Option Value) (h : Heap) (L : List Loc) : Prop := v = some (.int x1) ∧ Fr n0 L ∧ h = h0
set_option maxRecDepth 65536 in
set_option maxHeartbeats 40000000 in
theorem rmOrd (l : Launch) (Z : State) (a0 : Array Value) (hw : ∀ d ∈ tables_1, d.before a0 Z = true) (ws : List Jvm.Cond) (a0_ : Addr) (x1 : Int32) (h0 : Heap) (n0 : Nat) (Z0 : n0 ≤ h0.size) (F1 : Fld Z h0 a0_ "java/lang/Enum" "ordinal" "I" (.int x1)) :
    MetFree l (⟨"java/lang/Enum", "ordinal", "()I"⟩ : MethodName) (head1 (Jvm.Cond.code (⟨"java/lang/Enum", "ordinal", "()I"⟩ : MethodName) jdk_37_method_2_code 1 (some .int) :: ws) ({ frames := 0, cells := 0, slots := 0, locals := 0 } : Room)) (fun a U => a = #[(.ref a0_)] ∧ Z.Warmed39 U.vm ∧ U.heap = h0) (fun _ _ _ _ _ => True) (fun _ U o U' => ∃ v L, o = .returned v ∧ QOrd Z a0_ x1 h0 n0 v U'.heap L ∧ FrameEnd U o U' L ({ frames := 0, cells := 0, slots := 0, locals := 0 } : Room).cells ({ frames := 0, cells := 0, slots := 0, locals := 0 } : Room).slots) := by
  refine MetFree.of_bodySF (plainFor_of_name own_pn_java_lang_Enum) hisR ?_
  intro p e s m args below meth c s₁ Bd hml0 hP hK
  obtain ⟨rfl, hZ, hh⟩ := hP
  have hx := Bd.exec
  have hby := Bd.bytes
  have hml : c.maxLocals = 1 := hml0
  have hown : s.vm.findClass "java/lang/Enum" = some m.cls := findClass_of_methodNamed Bd.named
  have hnm := (name_of_methodNamed Bd.named Bd.method).1
  have X0 : Stand p l e ({ frames := 0, cells := 0, slots := 0, locals := 0 } : Room) s m #[(.ref a0_)] below meth c s₁ [] 0 0 := Stand.of_body Bd
  have e0 : s₁.heap = h0 := by rw [← hh, Bd.state]; rfl
  have N0 := Fr.nil n0
  have pre0 : ∀ t, Steps p.tables e below (s₁.setTop (mkF m 0 #[.val (.ref a0_)] [])) t → Steps p.tables e below (s₁.setTop (entryFrame m #[(.ref a0_)] 1)) t := fun t k => castTop (ef_rmOrd m a0_) k
  have a1 : ∀ t, Steps p.tables e below (s₁.setTop (mkF m 1 #[.val (.ref a0_)] [(.ref a0_)])) t → Steps p.tables e below (s₁.setTop (entryFrame m #[(.ref a0_)] 1)) t := by
    intro t k
    refine pre0 t ?_
    show Steps p.tables e below (s₁.setTop (mkF m 0 #[.val (.ref a0_)] [])) _
    refine XS.aloadN X0.here hx rfl (hb hby d4_0) rfl rfl ?_
    exact k
  obtain ⟨T2, X2, e2, st2⟩ := getF X0 hx hZ hown (host := "") (Or.inl (hw _ (List.mem_of_getElem? (i := 29) rfl))) Via.refl e0 F1 (g := (mkF m 1 #[.val (.ref a0_)] [(.ref a0_)])) rfl rfl (hb hby d4_1)
  have a3 : ∀ t, Steps p.tables e below (T2.setTop (mkF m 4 #[.val (.ref a0_)] [(.int x1)])) t → Steps p.tables e below (s₁.setTop (entryFrame m #[(.ref a0_)] 1)) t := fun t k => a1 t (st2 t k)
  obtain ⟨fs, hr, hrun, hended, hW, hsame⟩ := X2.leave (v := some (.int x1)) (fun h => by rw [Bd.returns] at h; cases h)
  refine ⟨_, _, a3 _ ?_, hrun, hended, _, _, rfl, ?_, ⟨_, rfl⟩, hW, hsame.mono (by decide) (by decide)⟩
  · show Steps p.tables e below (T2.setTop (mkF m 4 #[.val (.ref a0_)] [(.int x1)])) _
    exact retOut X2 hx Bd.returns rfl (Or.inl ⟨rfl, Or.inl rfl, _, rfl⟩) (hb hby d4_4) hr
  · show QOrd Z a0_ x1 h0 n0 _ T2.heap _
    rw [e2]
    exact ⟨rfl, N0, rfl⟩
theorem ef_rmSet (m : MethodId) (x0 : Addr) (x1 : Addr) (x2 : UInt64) : entryFrame m #[(.ref x0), (.ref x1), (.double x2)] 4 = mkF m 0 #[.val (.ref x0), .val (.ref x1), .val (.double x2), .second] [] := by first | (simp [entryFrame, mkF, argsToLocals, Value.category]; done) | rfl
theorem d3_0 : decode prog_2_method_3_code 0 = .ok (.aload_n 0, 1) := by decide +kernel
theorem d3_1 : decode prog_2_method_3_code 1 = .ok (.getfield 13, 3) := by decide +kernel
theorem d3_4 : decode prog_2_method_3_code 4 = .ok (.aload_n 1, 1) := by decide +kernel
theorem d3_5 : decode prog_2_method_3_code 5 = .ok (.invokevirtual 17, 3) := by decide +kernel
theorem own_pd0 : parseMethodDescriptor "()I" = some ⟨[], some .int⟩ := by decide +kernel
theorem d3_8 : decode prog_2_method_3_code 8 = .ok (.dload_n 2, 1) := by decide +kernel
theorem d3_9 : decode prog_2_method_3_code 9 = .ok (.dastore, 1) := by decide +kernel
theorem d3_10 : decode prog_2_method_3_code 10 = .ok (.return_, 1) := by decide +kernel
def QSet (Z : State) (a0_ : Addr) (a1_ : Addr) (d2 : UInt64) (arr : Addr) (kk : ClassId) (vs : List Value) (jj : Int32) (i : Nat) (h0 : Heap) (n0 : Nat) (v : Option Value) (h : Heap) (L : List Loc) : Prop := v = none ∧ Fr n0 L ∧ Keep h0 h [arr] ∧ Arv Z h arr kk .double (4 : Int32) (vs.set i (.double d2)) (.double (0 : UInt64))
set_option maxRecDepth 65536 in
set_option maxHeartbeats 40000000 in
theorem rmSet (l : Launch) (Z : State) (a0 : Array Value) (hw : ∀ d ∈ tables_1, d.before a0 Z = true) (ws : List Jvm.Cond) (a0_ : Addr) (a1_ : Addr) (d2 : UInt64) (arr : Addr) (kk : ClassId) (vs : List Value) (jj : Int32) (i : Nat) (h0 : Heap) (n0 : Nat) (Z0 : n0 ≤ h0.size) (F1 : Fld Z h0 a0_ "com/example/tabuvia/tabuvia/engine/Excess" "amounts" "[D" (.ref arr)) (PA1 : Arv Z h0 arr kk .double (4 : Int32) vs (.double (0 : UInt64))) (F2 : Fld Z h0 a1_ "java/lang/Enum" "ordinal" "I" (.int jj)) (PX2 : Exa Z h0 a1_ "com/example/tabuvia/tabuvia/engine/Rule") (g1 : n0 ≤ arr) (hj : jj.toNatClampNeg = i) (hi : i < vs.length) (hb_ : ¬ jj < 0 ∧ jj < (4 : Int32)) :
    MetFree l (⟨"com/example/tabuvia/tabuvia/engine/Excess", "set", "(Lcom/example/tabuvia/tabuvia/engine/Rule;D)V"⟩ : MethodName) (head1 (Jvm.Cond.code (⟨"com/example/tabuvia/tabuvia/engine/Excess", "set", "(Lcom/example/tabuvia/tabuvia/engine/Rule;D)V"⟩ : MethodName) prog_2_method_3_code 4 none :: ws) ({ frames := 1, cells := 0, slots := 0, locals := 14 } : Room)) (fun a U => a = #[(.ref a0_), (.ref a1_), (.double d2)] ∧ Z.Warmed39 U.vm ∧ U.heap = h0) (fun _ _ _ _ _ => True) (fun _ U o U' => ∃ v L, o = .returned v ∧ QSet Z a0_ a1_ d2 arr kk vs jj i h0 n0 v U'.heap L ∧ FrameEnd U o U' L ({ frames := 1, cells := 0, slots := 0, locals := 14 } : Room).cells ({ frames := 1, cells := 0, slots := 0, locals := 14 } : Room).slots) := by
  refine MetFree.of_bodySF (plainFor_of_name own_pn_com_example_tabuvia_tabuvia_engine_Excess) hisR ?_
  intro p e s m args below meth c s₁ Bd hml0 hP hK
  obtain ⟨rfl, hZ, hh⟩ := hP
  have hx := Bd.exec
  have hby := Bd.bytes
  have hml : c.maxLocals = 4 := hml0
  have hown : s.vm.findClass "com/example/tabuvia/tabuvia/engine/Excess" = some m.cls := findClass_of_methodNamed Bd.named
  have hnm := (name_of_methodNamed Bd.named Bd.method).1
  have X0 : Stand p l e ({ frames := 1, cells := 0, slots := 0, locals := 14 } : Room) s m #[(.ref a0_), (.ref a1_), (.double d2)] below meth c s₁ [] 0 0 := Stand.of_body Bd
  have e0 : s₁.heap = h0 := by rw [← hh, Bd.state]; rfl
  have N0 := Fr.nil n0
  have pre0 : ∀ t, Steps p.tables e below (s₁.setTop (mkF m 0 #[.val (.ref a0_), .val (.ref a1_), .val (.double d2), .second] [])) t → Steps p.tables e below (s₁.setTop (entryFrame m #[(.ref a0_), (.ref a1_), (.double d2)] 4)) t := fun t k => castTop (ef_rmSet m a0_ a1_ d2) k
  have a1 : ∀ t, Steps p.tables e below (s₁.setTop (mkF m 1 #[.val (.ref a0_), .val (.ref a1_), .val (.double d2), .second] [(.ref a0_)])) t → Steps p.tables e below (s₁.setTop (entryFrame m #[(.ref a0_), (.ref a1_), (.double d2)] 4)) t := by
    intro t k
    refine pre0 t ?_
    show Steps p.tables e below (s₁.setTop (mkF m 0 #[.val (.ref a0_), .val (.ref a1_), .val (.double d2), .second] [])) _
    refine XS.aloadN X0.here hx rfl (hb hby d3_0) rfl rfl ?_
    exact k
  obtain ⟨T2, X2, e2, st2⟩ := getF X0 hx hZ hown (host := "") (Or.inl (hw _ (List.mem_of_getElem? (i := 12) rfl))) Via.refl e0 F1 (g := (mkF m 1 #[.val (.ref a0_), .val (.ref a1_), .val (.double d2), .second] [(.ref a0_)])) rfl rfl (hb hby d3_1)
  have a3 : ∀ t, Steps p.tables e below (T2.setTop (mkF m 4 #[.val (.ref a0_), .val (.ref a1_), .val (.double d2), .second] [(.ref arr)])) t → Steps p.tables e below (s₁.setTop (entryFrame m #[(.ref a0_), (.ref a1_), (.double d2)] 4)) t := fun t k => a1 t (st2 t k)
  have a4 : ∀ t, Steps p.tables e below (T2.setTop (mkF m 5 #[.val (.ref a0_), .val (.ref a1_), .val (.double d2), .second] [(.ref a1_), (.ref arr)])) t → Steps p.tables e below (s₁.setTop (entryFrame m #[(.ref a0_), (.ref a1_), (.double d2)] 4)) t := by
    intro t k
    refine a3 t ?_
    show Steps p.tables e below (T2.setTop (mkF m 4 #[.val (.ref a0_), .val (.ref a1_), .val (.double d2), .second] [(.ref arr)])) _
    refine XS.aloadN X2.here hx rfl (hb hby d3_4) rfl rfl ?_
    exact k
  obtain ⟨cq5, kq5, q5a, q5b, q5c⟩ := isOf hZ e2 PX2
  obtain ⟨_, _, ⟨T5, L5, k5, n5⟩, -, X5, ⟨Lc5, hQ5, l5, y5, z5⟩, st5⟩ := X2.virtualBackUp hx (x := (⟨"com/example/tabuvia/tabuvia/engine/Rule", "ordinal", "()I"⟩ : MethodName)) (y := (⟨"java/lang/Enum", "ordinal", "()I"⟩ : MethodName)) hown (mvT hZ (hw _ (List.mem_of_getElem? (i := 22) rfl))) (mvT hZ (hw _ (List.mem_of_getElem? (i := 23) rfl))) (mvT hZ (hw _ (List.mem_of_getElem? (i := 24) rfl))) (by decide) (mvT hZ (hw _ (List.mem_of_getElem? (i := 26) rfl))) (mvT hZ (hw _ (List.mem_of_getElem? (i := 25) rfl))) (backOf (W := 1) (rmOrd l Z a0 hw [] a1_ jj h0 n0 Z0 F2) hZ (hw _ (List.mem_of_getElem? (i := 28) rfl)) (hw _ (List.mem_of_getElem? (i := 27) rfl)) (by decide) (by decide)) q5a q5c (g := (mkF m 5 #[.val (.ref a0_), .val (.ref a1_), .val (.double d2), .second] [(.ref a1_), (.ref arr)])) rfl (by rw [hml]; rfl) (Steps.refl _) (argsL := []) (rest := [(.ref arr)]) (lenOf own_pd0 rfl) rfl (by show 2 * 0 + _ ≤ _; exact Nat.le_of_eq rfl) (hb hby d3_5) (fun _ _ => ⟨rfl, e2, (by decide : 0 + 0 ≤ _), (by decide : 0 + 0 ≤ _)⟩)
  dsimp only [Pt.U, Pt.locs, Pt.cells, Pt.slots] at X5 l5 y5 z5 st5 hQ5
  subst l5 y5 z5
  obtain ⟨rfl, N5q, e5q⟩ := hQ5
  have N5 := Fr.app N0 N5q
  have a6 : ∀ t, Steps p.tables e below (T5.setTop (mkF m 8 #[.val (.ref a0_), .val (.ref a1_), .val (.double d2), .second] [(.int jj), (.ref arr)])) t → Steps p.tables e below (s₁.setTop (entryFrame m #[(.ref a0_), (.ref a1_), (.double d2)] 4)) t := fun t k => a4 t (st5.trans k)
  have a7 : ∀ t, Steps p.tables e below (T5.setTop (mkF m 9 #[.val (.ref a0_), .val (.ref a1_), .val (.double d2), .second] [(.double d2), (.int jj), (.ref arr)])) t → Steps p.tables e below (s₁.setTop (entryFrame m #[(.ref a0_), (.ref a1_), (.double d2)] 4)) t := by
    intro t k
    refine a6 t ?_
    show Steps p.tables e below (T5.setTop (mkF m 8 #[.val (.ref a0_), .val (.ref a1_), .val (.double d2), .second] [(.int jj), (.ref arr)])) _
    refine XS.dloadN X5.here hx rfl (hb hby d3_8) rfl ?_
    exact k
  obtain ⟨cl8, Ar8, qc8, Sz8, Nn8, Hs8, Gs8⟩ := id PA1
  have hin8 : ¬ (jj < 0 ∨ cl8.slots.size ≤ (jj).toNatClampNeg) := inb_of Sz8 hb_
  obtain ⟨T9, h9, X9, e9, W9, st9⟩ := stD X5 hx hZ e5q Ar8 (j := jj) hin8 (g := (mkF m 9 #[.val (.ref a0_), .val (.ref a1_), .val (.double d2), .second] [(.double d2), (.int jj), (.ref arr)])) rfl rfl (hb hby d3_9)
  have V9 : Arv Z h9 arr kk .double (4 : Int32) (vs.set i (.double d2)) (.double (0 : UInt64)) := Arv.set Ar8 qc8 Sz8 Nn8 Hs8 Gs8 rfl W9 i hj hi
  have N9 := Fr.snoc X9 N5 g1
  have K9 : Keep h0 h9 [arr] := Keep.wr (Keep.refl h0 [arr]) W9 (Or.inl (List.mem_of_getElem? (i := 0) rfl))
  have a10 : ∀ t, Steps p.tables e below (T9.setTop (mkF m 10 #[.val (.ref a0_), .val (.ref a1_), .val (.double d2), .second] [])) t → Steps p.tables e below (s₁.setTop (entryFrame m #[(.ref a0_), (.ref a1_), (.double d2)] 4)) t := fun t k => a7 t (st9 t k)
  obtain ⟨fs, hr, hrun, hended, hW, hsame⟩ := X9.leave (v := none) (fun _ => rfl)
  refine ⟨_, _, a10 _ ?_, hrun, hended, _, _, rfl, ?_, ⟨_, rfl⟩, hW, hsame.mono (by decide) (by decide)⟩
  · show Steps p.tables e below (T9.setTop (mkF m 10 #[.val (.ref a0_), .val (.ref a1_), .val (.double d2), .second] [])) _
    exact X9.returnOut hx Bd.returns (hb hby d3_10) hr
  · show QSet Z a0_ a1_ d2 arr kk vs jj i h0 n0 _ T9.heap _
    rw [e9]
    exact ⟨rfl, N9, K9, V9⟩
theorem ef_rmE (m : MethodId) (x0 : Addr) (x1 : UInt64) : entryFrame m #[(.ref x0), (.double x1)] 8 = mkF m 0 #[.val (.ref x0), .val (.double x1), .second, .unset, .unset, .unset, .unset, .unset] [] := by first | (simp [entryFrame, mkF, argsToLocals, Value.category]; done) | rfl
theorem d5_0 : decode prog_2_method_13_code 0 = .ok (.aload_n 0, 1) := by decide +kernel
theorem d5_1 : decode prog_2_method_13_code 1 = .ok (.getfield 13, 3) := by decide +kernel
theorem d5_4 : decode prog_2_method_13_code 4 = .ok (.astore_n 3, 1) := by decide +kernel
theorem d5_5 : decode prog_2_method_13_code 5 = .ok (.aload_n 3, 1) := by decide +kernel
theorem d5_6 : decode prog_2_method_13_code 6 = .ok (.arraylength, 1) := by decide +kernel
theorem d5_7 : decode prog_2_method_13_code 7 = .ok (.istore 4, 2) := by decide +kernel
theorem d5_9 : decode prog_2_method_13_code 9 = .ok (.iconst 0, 1) := by decide +kernel
theorem d5_10 : decode prog_2_method_13_code 10 = .ok (.istore 5, 2) := by decide +kernel
theorem d5_12 : decode prog_2_method_13_code 12 = .ok (.iload 5, 2) := by decide +kernel
theorem d5_14 : decode prog_2_method_13_code 14 = .ok (.iload 4, 2) := by decide +kernel
theorem d5_16 : decode prog_2_method_13_code 16 = .ok (.if_icmp .ge 24, 3) := by decide +kernel
theorem d5_19 : decode prog_2_method_13_code 19 = .ok (.aload_n 3, 1) := by decide +kernel
theorem d5_20 : decode prog_2_method_13_code 20 = .ok (.iload 5, 2) := by decide +kernel
theorem d5_22 : decode prog_2_method_13_code 22 = .ok (.daload, 1) := by decide +kernel
theorem d5_23 : decode prog_2_method_13_code 23 = .ok (.dstore 6, 2) := by decide +kernel
theorem d5_25 : decode prog_2_method_13_code 25 = .ok (.dload 6, 2) := by decide +kernel
theorem d5_27 : decode prog_2_method_13_code 27 = .ok (.dload_n 1, 1) := by decide +kernel
theorem d5_28 : decode prog_2_method_13_code 28 = .ok (.dcmp .l, 1) := by decide +kernel
theorem d5_29 : decode prog_2_method_13_code 29 = .ok (.ifCond .le 5, 3) := by decide +kernel
theorem d5_32 : decode prog_2_method_13_code 32 = .ok (.iconst 1, 1) := by decide +kernel
theorem d5_33 : decode prog_2_method_13_code 33 = .ok (.ireturn, 1) := by decide +kernel
theorem d5_34 : decode prog_2_method_13_code 34 = .ok (.iinc 5 1, 3) := by decide +kernel
theorem d5_37 : decode prog_2_method_13_code 37 = .ok (.goto (-25), 3) := by decide +kernel
theorem d5_40 : decode prog_2_method_13_code 40 = .ok (.iconst 0, 1) := by decide +kernel
theorem d5_41 : decode prog_2_method_13_code 41 = .ok (.ireturn, 1) := by decide +kernel
def QE (Z : State) (a0_ : Addr) (d1 : UInt64) (arr : Addr) (kk : ClassId) (c0 c1 c2 c3 : UInt64) (h0 : Heap) (n0 : Nat) (v : Option Value) (h : Heap) (L : List Loc) : Prop := v = some (.int (if FP.dcmp c0 d1 = some .gt ∨ FP.dcmp c1 d1 = some .gt ∨ FP.dcmp c2 d1 = some .gt ∨ FP.dcmp c3 d1 = some .gt then 1 else 0)) ∧ Fr n0 L ∧ h = h0
set_option maxRecDepth 65536 in
set_option maxHeartbeats 40000000 in
theorem rmE (l : Launch) (Z : State) (a0 : Array Value) (hw : ∀ d ∈ tables_1, d.before a0 Z = true) (ws : List Jvm.Cond) (a0_ : Addr) (d1 : UInt64) (arr : Addr) (kk : ClassId) (c0 c1 c2 c3 : UInt64) (h0 : Heap) (n0 : Nat) (Z0 : n0 ≤ h0.size) (F1 : Fld Z h0 a0_ "com/example/tabuvia/tabuvia/engine/Excess" "amounts" "[D" (.ref arr)) (PA1 : Arv Z h0 arr kk .double (4 : Int32) [(.double c0), (.double c1), (.double c2), (.double c3)] (.double (0 : UInt64))) :
    MetFree l (⟨"com/example/tabuvia/tabuvia/engine/Excess", "exceeds", "(D)Z"⟩ : MethodName) (head1 (Jvm.Cond.code (⟨"com/example/tabuvia/tabuvia/engine/Excess", "exceeds", "(D)Z"⟩ : MethodName) prog_2_method_13_code 8 (some .boolean) :: ws) ({ frames := 0, cells := 0, slots := 0, locals := 0 } : Room)) (fun a U => a = #[(.ref a0_), (.double d1)] ∧ Z.Warmed39 U.vm ∧ U.heap = h0) (fun _ _ _ _ _ => True) (fun _ U o U' => ∃ v L, o = .returned v ∧ QE Z a0_ d1 arr kk c0 c1 c2 c3 h0 n0 v U'.heap L ∧ FrameEnd U o U' L ({ frames := 0, cells := 0, slots := 0, locals := 0 } : Room).cells ({ frames := 0, cells := 0, slots := 0, locals := 0 } : Room).slots) := by
  refine MetFree.of_bodySF (plainFor_of_name own_pn_com_example_tabuvia_tabuvia_engine_Excess) hisR ?_
  intro p e s m args below meth c s₁ Bd hml0 hP hK
  obtain ⟨rfl, hZ, hh⟩ := hP
  have hx := Bd.exec
  have hby := Bd.bytes
  have hml : c.maxLocals = 8 := hml0
  have hown : s.vm.findClass "com/example/tabuvia/tabuvia/engine/Excess" = some m.cls := findClass_of_methodNamed Bd.named
  have hnm := (name_of_methodNamed Bd.named Bd.method).1
  have X0 : Stand p l e ({ frames := 0, cells := 0, slots := 0, locals := 0 } : Room) s m #[(.ref a0_), (.double d1)] below meth c s₁ [] 0 0 := Stand.of_body Bd
  have e0 : s₁.heap = h0 := by rw [← hh, Bd.state]; rfl
  have N0 := Fr.nil n0
  have pre0 : ∀ t, Steps p.tables e below (s₁.setTop (mkF m 0 #[.val (.ref a0_), .val (.double d1), .second, .unset, .unset, .unset, .unset, .unset] [])) t → Steps p.tables e below (s₁.setTop (entryFrame m #[(.ref a0_), (.double d1)] 8)) t := fun t k => castTop (ef_rmE m a0_ d1) k
  have a1 : ∀ t, Steps p.tables e below (s₁.setTop (mkF m 1 #[.val (.ref a0_), .val (.double d1), .second, .unset, .unset, .unset, .unset, .unset] [(.ref a0_)])) t → Steps p.tables e below (s₁.setTop (entryFrame m #[(.ref a0_), (.double d1)] 8)) t := by
    intro t k
    refine pre0 t ?_
    show Steps p.tables e below (s₁.setTop (mkF m 0 #[.val (.ref a0_), .val (.double d1), .second, .unset, .unset, .unset, .unset, .unset] [])) _
    refine XS.aloadN X0.here hx rfl (hb hby d5_0) rfl rfl ?_
    exact k
  obtain ⟨T2, X2, e2, st2⟩ := getF X0 hx hZ hown (host := "") (Or.inl (hw _ (List.mem_of_getElem? (i := 12) rfl))) Via.refl e0 F1 (g := (mkF m 1 #[.val (.ref a0_), .val (.double d1), .second, .unset, .unset, .unset, .unset, .unset] [(.ref a0_)])) rfl rfl (hb hby d5_1)
  have a3 : ∀ t, Steps p.tables e below (T2.setTop (mkF m 4 #[.val (.ref a0_), .val (.double d1), .second, .unset, .unset, .unset, .unset, .unset] [(.ref arr)])) t → Steps p.tables e below (s₁.setTop (entryFrame m #[(.ref a0_), (.double d1)] 8)) t := fun t k => a1 t (st2 t k)
  have a4 : ∀ t, Steps p.tables e below (T2.setTop (mkF m 6 #[.val (.ref a0_), .val (.double d1), .second, .val (.ref arr), .unset, .unset, .unset, .unset] [(.ref arr)])) t → Steps p.tables e below (s₁.setTop (entryFrame m #[(.ref a0_), (.double d1)] 8)) t := by
    intro t k
    refine a3 t ?_
    show Steps p.tables e below (T2.setTop (mkF m 4 #[.val (.ref a0_), .val (.double d1), .second, .unset, .unset, .unset, .unset, .unset] [(.ref arr)])) _
    refine XS.astoreN X2.here hx rfl (hb hby d5_4) rfl rfl (l' := #[.val (.ref a0_), .val (.double d1), .second, .val (.ref arr), .unset, .unset, .unset, .unset]) rfl ?_
    show Steps p.tables e below (T2.setTop (mkF m 5 #[.val (.ref a0_), .val (.double d1), .second, .val (.ref arr), .unset, .unset, .unset, .unset] [])) _
    refine XS.aloadN X2.here hx rfl (hb hby d5_5) rfl rfl ?_
    exact k
  obtain ⟨cl5, Ar5, qc5, Sz5, Nn5, Hs5, Gs5⟩ := id PA1
  have a6 : ∀ t, Steps p.tables e below (T2.setTop (mkF m 22 #[.val (.ref a0_), .val (.double d1), .second, .val (.ref arr), .val (.int (4 : Int32)), .val (.int (0 : Int32)), .unset, .unset] [(.int (0 : Int32)), (.ref arr)])) t → Steps p.tables e below (s₁.setTop (entryFrame m #[(.ref a0_), (.double d1)] 8)) t := by
    intro t k
    refine a4 t ?_
    show Steps p.tables e below (T2.setTop (mkF m 6 #[.val (.ref a0_), .val (.double d1), .second, .val (.ref arr), .unset, .unset, .unset, .unset] [(.ref arr)])) _
    refine X2.arraylength hx (by rw [e2]; exact Ar5.1) (State.isArrayOf_alike hZ.alike Ar5.2.1) (g := (mkF m 6 #[.val (.ref a0_), .val (.double d1), .second, .val (.ref arr), .unset, .unset, .unset, .unset] [(.ref arr)])) rfl rfl (hb hby d5_6) _ ?_
    rw [len_of Sz5 Nn5]
    show Steps p.tables e below (T2.setTop (mkF m 7 #[.val (.ref a0_), .val (.double d1), .second, .val (.ref arr), .unset, .unset, .unset, .unset] [(.int (4 : Int32))])) _
    refine XS.istore X2.here hx rfl (hb hby d5_7) rfl (l' := #[.val (.ref a0_), .val (.double d1), .second, .val (.ref arr), .val (.int (4 : Int32)), .unset, .unset, .unset]) rfl ?_
    show Steps p.tables e below (T2.setTop (mkF m 9 #[.val (.ref a0_), .val (.double d1), .second, .val (.ref arr), .val (.int (4 : Int32)), .unset, .unset, .unset] [])) _
    refine XS.iconst X2.here hx rfl (hb hby d5_9) ?_
    show Steps p.tables e below (T2.setTop (mkF m 10 #[.val (.ref a0_), .val (.double d1), .second, .val (.ref arr), .val (.int (4 : Int32)), .unset, .unset, .unset] [(.int (0 : Int32))])) _
    refine XS.istore X2.here hx rfl (hb hby d5_10) rfl (l' := #[.val (.ref a0_), .val (.double d1), .second, .val (.ref arr), .val (.int (4 : Int32)), .val (.int (0 : Int32)), .unset, .unset]) rfl ?_
    show Steps p.tables e below (T2.setTop (mkF m 12 #[.val (.ref a0_), .val (.double d1), .second, .val (.ref arr), .val (.int (4 : Int32)), .val (.int (0 : Int32)), .unset, .unset] [])) _
    refine XS.iload X2.here hx rfl (hb hby d5_12) rfl ?_
    show Steps p.tables e below (T2.setTop (mkF m 14 #[.val (.ref a0_), .val (.double d1), .second, .val (.ref arr), .val (.int (4 : Int32)), .val (.int (0 : Int32)), .unset, .unset] [(.int (0 : Int32))])) _
    refine XS.iload X2.here hx rfl (hb hby d5_14) rfl ?_
    show Steps p.tables e below (T2.setTop (mkF m 16 #[.val (.ref a0_), .val (.double d1), .second, .val (.ref arr), .val (.int (4 : Int32)), .val (.int (0 : Int32)), .unset, .unset] [(.int (4 : Int32)), (.int (0 : Int32))])) _
    refine XS.icmpNo X2.here hx rfl (hb hby d5_16) rfl (tlt (by decide)).2.1 ?_
    show Steps p.tables e below (T2.setTop (mkF m 19 #[.val (.ref a0_), .val (.double d1), .second, .val (.ref arr), .val (.int (4 : Int32)), .val (.int (0 : Int32)), .unset, .unset] [])) _
    refine XS.aloadN X2.here hx rfl (hb hby d5_19) rfl rfl ?_
    show Steps p.tables e below (T2.setTop (mkF m 20 #[.val (.ref a0_), .val (.double d1), .second, .val (.ref arr), .val (.int (4 : Int32)), .val (.int (0 : Int32)), .unset, .unset] [(.ref arr)])) _
    refine XS.iload X2.here hx rfl (hb hby d5_20) rfl ?_
    exact k
  obtain ⟨cl7, Ar7, qc7, Sz7, Nn7, Hs7, Gs7⟩ := id PA1
  have hin7 : ¬ ((0 : Int32) < 0 ∨ cl7.slots.size ≤ ((0 : Int32)).toNatClampNeg) := inb_of Sz7 ⟨by decide, by decide⟩
  have hat7 := Hs7.at hin7 (v := (.double c0)) rfl
  have a8 : ∀ t, Steps p.tables e below (T2.setTop (mkF m 29 #[.val (.ref a0_), .val (.double d1), .second, .val (.ref arr), .val (.int (4 : Int32)), .val (.int (0 : Int32)), .val (.double c0), .second] [(.int (cmpValue (FP.dcmp c0 d1) .l))])) t → Steps p.tables e below (s₁.setTop (entryFrame m #[(.ref a0_), (.double d1)] 8)) t := by
    intro t k
    refine a6 t ?_
    show Steps p.tables e below (T2.setTop (mkF m 22 #[.val (.ref a0_), .val (.double d1), .second, .val (.ref arr), .val (.int (4 : Int32)), .val (.int (0 : Int32)), .unset, .unset] [(.int (0 : Int32)), (.ref arr)])) _
    refine X2.daload hx (j := (0 : Int32)) (v := (.double c0)) (by rw [e2]; exact Ar7.1) (State.isArrayOf_alike hZ.alike Ar7.2.1) Ar7.2.2 hin7 hat7 (g := (mkF m 22 #[.val (.ref a0_), .val (.double d1), .second, .val (.ref arr), .val (.int (4 : Int32)), .val (.int (0 : Int32)), .unset, .unset] [(.int (0 : Int32)), (.ref arr)])) rfl rfl (hb hby d5_22) _ ?_
    show Steps p.tables e below (T2.setTop (mkF m 23 #[.val (.ref a0_), .val (.double d1), .second, .val (.ref arr), .val (.int (4 : Int32)), .val (.int (0 : Int32)), .unset, .unset] [(.double c0)])) _
    refine XS.dstore X2.here hx rfl (hb hby d5_23) rfl (l' := #[.val (.ref a0_), .val (.double d1), .second, .val (.ref arr), .val (.int (4 : Int32)), .val (.int (0 : Int32)), .val (.double c0), .second]) rfl ?_
    show Steps p.tables e below (T2.setTop (mkF m 25 #[.val (.ref a0_), .val (.double d1), .second, .val (.ref arr), .val (.int (4 : Int32)), .val (.int (0 : Int32)), .val (.double c0), .second] [])) _
    refine XS.dload X2.here hx rfl (hb hby d5_25) rfl ?_
    show Steps p.tables e below (T2.setTop (mkF m 27 #[.val (.ref a0_), .val (.double d1), .second, .val (.ref arr), .val (.int (4 : Int32)), .val (.int (0 : Int32)), .val (.double c0), .second] [(.double c0)])) _
    refine XS.dloadN X2.here hx rfl (hb hby d5_27) rfl ?_
    show Steps p.tables e below (T2.setTop (mkF m 28 #[.val (.ref a0_), .val (.double d1), .second, .val (.ref arr), .val (.int (4 : Int32)), .val (.int (0 : Int32)), .val (.double c0), .second] [(.double d1), (.double c0)])) _
    refine XS.dcmpS X2.here hx rfl (hb hby d5_28) rfl rfl ?_
    exact k
  by_cases hc29_9 : (0 : Int32) < (cmpValue (FP.dcmp c0 d1) .l)
  ·
    have a10 : ∀ t, Steps p.tables e below (T2.setTop (mkF m 33 #[.val (.ref a0_), .val (.double d1), .second, .val (.ref arr), .val (.int (4 : Int32)), .val (.int (0 : Int32)), .val (.double c0), .second] [(.int (1 : Int32))])) t → Steps p.tables e below (s₁.setTop (entryFrame m #[(.ref a0_), (.double d1)] 8)) t := by
      intro t k
      refine a8 t ?_
      show Steps p.tables e below (T2.setTop (mkF m 29 #[.val (.ref a0_), .val (.double d1), .second, .val (.ref arr), .val (.int (4 : Int32)), .val (.int (0 : Int32)), .val (.double c0), .second] [(.int (cmpValue (FP.dcmp c0 d1) .l))])) _
      refine XS.ifNo X2.here hx rfl (hb hby d5_29) rfl ((if0 _ _).trans (tlt hc29_9).2.2.2) ?_
      show Steps p.tables e below (T2.setTop (mkF m 32 #[.val (.ref a0_), .val (.double d1), .second, .val (.ref arr), .val (.int (4 : Int32)), .val (.int (0 : Int32)), .val (.double c0), .second] [])) _
      refine XS.iconst X2.here hx rfl (hb hby d5_32) ?_
      exact k
    obtain ⟨fs, hr, hrun, hended, hW, hsame⟩ := X2.leave (v := some (.int (1 : Int32))) (fun h => by rw [Bd.returns] at h; cases h)
    refine ⟨_, _, a10 _ ?_, hrun, hended, _, _, rfl, ?_, ⟨_, rfl⟩, hW, hsame.mono (by decide) (by decide)⟩
    · show Steps p.tables e below (T2.setTop (mkF m 33 #[.val (.ref a0_), .val (.double d1), .second, .val (.ref arr), .val (.int (4 : Int32)), .val (.int (0 : Int32)), .val (.double c0), .second] [(.int (1 : Int32))])) _
      exact retN X2 hx (t := .boolean) Bd.returns (by simp) (hb hby d5_33) hr
    · show QE Z a0_ d1 arr kk c0 c1 c2 c3 h0 n0 _ T2.heap _
      rw [e2]
      exact ⟨by rw [if_pos (Or.inl ((cv_gt_l _).mp hc29_9))], N0, rfl⟩
  ·
    have a11 : ∀ t, Steps p.tables e below (T2.setTop (mkF m 22 #[.val (.ref a0_), .val (.double d1), .second, .val (.ref arr), .val (.int (4 : Int32)), .val (.int (1 : Int32)), .val (.double c0), .second] [(.int (1 : Int32)), (.ref arr)])) t → Steps p.tables e below (s₁.setTop (entryFrame m #[(.ref a0_), (.double d1)] 8)) t := by
      intro t k
      refine a8 t ?_
      show Steps p.tables e below (T2.setTop (mkF m 29 #[.val (.ref a0_), .val (.double d1), .second, .val (.ref arr), .val (.int (4 : Int32)), .val (.int (0 : Int32)), .val (.double c0), .second] [(.int (cmpValue (FP.dcmp c0 d1) .l))])) _
      refine XS.ifYes X2.here hx rfl (pc0 := 29) (pc' := 34) rfl (hb hby d5_29) rfl ((if0 _ _).trans (flt hc29_9).2.2.2) (by decide) (by decide) ?_
      show Steps p.tables e below (T2.setTop (mkF m 34 #[.val (.ref a0_), .val (.double d1), .second, .val (.ref arr), .val (.int (4 : Int32)), .val (.int (0 : Int32)), .val (.double c0), .second] [])) _
      refine XS.iinc X2.here hx rfl (hb hby d5_34) rfl (l' := #[.val (.ref a0_), .val (.double d1), .second, .val (.ref arr), .val (.int (4 : Int32)), .val (.int (1 : Int32)), .val (.double c0), .second]) rfl ?_
      show Steps p.tables e below (T2.setTop (mkF m 37 #[.val (.ref a0_), .val (.double d1), .second, .val (.ref arr), .val (.int (4 : Int32)), .val (.int (1 : Int32)), .val (.double c0), .second] [])) _
      refine XS.goto X2.here hx rfl (pc0 := 37) (pc' := 12) rfl (hb hby d5_37) (by decide) (by decide) ?_
      show Steps p.tables e below (T2.setTop (mkF m 12 #[.val (.ref a0_), .val (.double d1), .second, .val (.ref arr), .val (.int (4 : Int32)), .val (.int (1 : Int32)), .val (.double c0), .second] [])) _
      refine XS.iload X2.here hx rfl (hb hby d5_12) rfl ?_
      show Steps p.tables e below (T2.setTop (mkF m 14 #[.val (.ref a0_), .val (.double d1), .second, .val (.ref arr), .val (.int (4 : Int32)), .val (.int (1 : Int32)), .val (.double c0), .second] [(.int (1 : Int32))])) _
      refine XS.iload X2.here hx rfl (hb hby d5_14) rfl ?_
      show Steps p.tables e below (T2.setTop (mkF m 16 #[.val (.ref a0_), .val (.double d1), .second, .val (.ref arr), .val (.int (4 : Int32)), .val (.int (1 : Int32)), .val (.double c0), .second] [(.int (4 : Int32)), (.int (1 : Int32))])) _
      refine XS.icmpNo X2.here hx rfl (hb hby d5_16) rfl (tlt (by decide)).2.1 ?_
      show Steps p.tables e below (T2.setTop (mkF m 19 #[.val (.ref a0_), .val (.double d1), .second, .val (.ref arr), .val (.int (4 : Int32)), .val (.int (1 : Int32)), .val (.double c0), .second] [])) _
      refine XS.aloadN X2.here hx rfl (hb hby d5_19) rfl rfl ?_
      show Steps p.tables e below (T2.setTop (mkF m 20 #[.val (.ref a0_), .val (.double d1), .second, .val (.ref arr), .val (.int (4 : Int32)), .val (.int (1 : Int32)), .val (.double c0), .second] [(.ref arr)])) _
      refine XS.iload X2.here hx rfl (hb hby d5_20) rfl ?_
      exact k
    obtain ⟨cl12, Ar12, qc12, Sz12, Nn12, Hs12, Gs12⟩ := id PA1
    have hin12 : ¬ ((1 : Int32) < 0 ∨ cl12.slots.size ≤ ((1 : Int32)).toNatClampNeg) := inb_of Sz12 ⟨by decide, by decide⟩
    have hat12 := Hs12.at hin12 (v := (.double c1)) rfl
    have a13 : ∀ t, Steps p.tables e below (T2.setTop (mkF m 29 #[.val (.ref a0_), .val (.double d1), .second, .val (.ref arr), .val (.int (4 : Int32)), .val (.int (1 : Int32)), .val (.double c1), .second] [(.int (cmpValue (FP.dcmp c1 d1) .l))])) t → Steps p.tables e below (s₁.setTop (entryFrame m #[(.ref a0_), (.double d1)] 8)) t := by
      intro t k
      refine a11 t ?_
      show Steps p.tables e below (T2.setTop (mkF m 22 #[.val (.ref a0_), .val (.double d1), .second, .val (.ref arr), .val (.int (4 : Int32)), .val (.int (1 : Int32)), .val (.double c0), .second] [(.int (1 : Int32)), (.ref arr)])) _
      refine X2.daload hx (j := (1 : Int32)) (v := (.double c1)) (by rw [e2]; exact Ar12.1) (State.isArrayOf_alike hZ.alike Ar12.2.1) Ar12.2.2 hin12 hat12 (g := (mkF m 22 #[.val (.ref a0_), .val (.double d1), .second, .val (.ref arr), .val (.int (4 : Int32)), .val (.int (1 : Int32)), .val (.double c0), .second] [(.int (1 : Int32)), (.ref arr)])) rfl rfl (hb hby d5_22) _ ?_
      show Steps p.tables e below (T2.setTop (mkF m 23 #[.val (.ref a0_), .val (.double d1), .second, .val (.ref arr), .val (.int (4 : Int32)), .val (.int (1 : Int32)), .val (.double c0), .second] [(.double c1)])) _
      refine XS.dstore X2.here hx rfl (hb hby d5_23) rfl (l' := #[.val (.ref a0_), .val (.double d1), .second, .val (.ref arr), .val (.int (4 : Int32)), .val (.int (1 : Int32)), .val (.double c1), .second]) rfl ?_
      show Steps p.tables e below (T2.setTop (mkF m 25 #[.val (.ref a0_), .val (.double d1), .second, .val (.ref arr), .val (.int (4 : Int32)), .val (.int (1 : Int32)), .val (.double c1), .second] [])) _
      refine XS.dload X2.here hx rfl (hb hby d5_25) rfl ?_
      show Steps p.tables e below (T2.setTop (mkF m 27 #[.val (.ref a0_), .val (.double d1), .second, .val (.ref arr), .val (.int (4 : Int32)), .val (.int (1 : Int32)), .val (.double c1), .second] [(.double c1)])) _
      refine XS.dloadN X2.here hx rfl (hb hby d5_27) rfl ?_
      show Steps p.tables e below (T2.setTop (mkF m 28 #[.val (.ref a0_), .val (.double d1), .second, .val (.ref arr), .val (.int (4 : Int32)), .val (.int (1 : Int32)), .val (.double c1), .second] [(.double d1), (.double c1)])) _
      refine XS.dcmpS X2.here hx rfl (hb hby d5_28) rfl rfl ?_
      exact k
    by_cases hc29_14 : (0 : Int32) < (cmpValue (FP.dcmp c1 d1) .l)
    ·
      have a15 : ∀ t, Steps p.tables e below (T2.setTop (mkF m 33 #[.val (.ref a0_), .val (.double d1), .second, .val (.ref arr), .val (.int (4 : Int32)), .val (.int (1 : Int32)), .val (.double c1), .second] [(.int (1 : Int32))])) t → Steps p.tables e below (s₁.setTop (entryFrame m #[(.ref a0_), (.double d1)] 8)) t := by
        intro t k
        refine a13 t ?_
        show Steps p.tables e below (T2.setTop (mkF m 29 #[.val (.ref a0_), .val (.double d1), .second, .val (.ref arr), .val (.int (4 : Int32)), .val (.int (1 : Int32)), .val (.double c1), .second] [(.int (cmpValue (FP.dcmp c1 d1) .l))])) _
        refine XS.ifNo X2.here hx rfl (hb hby d5_29) rfl ((if0 _ _).trans (tlt hc29_14).2.2.2) ?_
        show Steps p.tables e below (T2.setTop (mkF m 32 #[.val (.ref a0_), .val (.double d1), .second, .val (.ref arr), .val (.int (4 : Int32)), .val (.int (1 : Int32)), .val (.double c1), .second] [])) _
        refine XS.iconst X2.here hx rfl (hb hby d5_32) ?_
        exact k
      obtain ⟨fs, hr, hrun, hended, hW, hsame⟩ := X2.leave (v := some (.int (1 : Int32))) (fun h => by rw [Bd.returns] at h; cases h)
      refine ⟨_, _, a15 _ ?_, hrun, hended, _, _, rfl, ?_, ⟨_, rfl⟩, hW, hsame.mono (by decide) (by decide)⟩
      · show Steps p.tables e below (T2.setTop (mkF m 33 #[.val (.ref a0_), .val (.double d1), .second, .val (.ref arr), .val (.int (4 : Int32)), .val (.int (1 : Int32)), .val (.double c1), .second] [(.int (1 : Int32))])) _
        exact retN X2 hx (t := .boolean) Bd.returns (by simp) (hb hby d5_33) hr
      · show QE Z a0_ d1 arr kk c0 c1 c2 c3 h0 n0 _ T2.heap _
        rw [e2]
        exact ⟨by rw [if_pos (Or.inr (Or.inl ((cv_gt_l _).mp hc29_14)))], N0, rfl⟩
    ·
      have a16 : ∀ t, Steps p.tables e below (T2.setTop (mkF m 22 #[.val (.ref a0_), .val (.double d1), .second, .val (.ref arr), .val (.int (4 : Int32)), .val (.int (2 : Int32)), .val (.double c1), .second] [(.int (2 : Int32)), (.ref arr)])) t → Steps p.tables e below (s₁.setTop (entryFrame m #[(.ref a0_), (.double d1)] 8)) t := by
        intro t k
        refine a13 t ?_
        show Steps p.tables e below (T2.setTop (mkF m 29 #[.val (.ref a0_), .val (.double d1), .second, .val (.ref arr), .val (.int (4 : Int32)), .val (.int (1 : Int32)), .val (.double c1), .second] [(.int (cmpValue (FP.dcmp c1 d1) .l))])) _
        refine XS.ifYes X2.here hx rfl (pc0 := 29) (pc' := 34) rfl (hb hby d5_29) rfl ((if0 _ _).trans (flt hc29_14).2.2.2) (by decide) (by decide) ?_
        show Steps p.tables e below (T2.setTop (mkF m 34 #[.val (.ref a0_), .val (.double d1), .second, .val (.ref arr), .val (.int (4 : Int32)), .val (.int (1 : Int32)), .val (.double c1), .second] [])) _
        refine XS.iinc X2.here hx rfl (hb hby d5_34) rfl (l' := #[.val (.ref a0_), .val (.double d1), .second, .val (.ref arr), .val (.int (4 : Int32)), .val (.int (2 : Int32)), .val (.double c1), .second]) rfl ?_
        show Steps p.tables e below (T2.setTop (mkF m 37 #[.val (.ref a0_), .val (.double d1), .second, .val (.ref arr), .val (.int (4 : Int32)), .val (.int (2 : Int32)), .val (.double c1), .second] [])) _
        refine XS.goto X2.here hx rfl (pc0 := 37) (pc' := 12) rfl (hb hby d5_37) (by decide) (by decide) ?_
        show Steps p.tables e below (T2.setTop (mkF m 12 #[.val (.ref a0_), .val (.double d1), .second, .val (.ref arr), .val (.int (4 : Int32)), .val (.int (2 : Int32)), .val (.double c1), .second] [])) _
        refine XS.iload X2.here hx rfl (hb hby d5_12) rfl ?_
        show Steps p.tables e below (T2.setTop (mkF m 14 #[.val (.ref a0_), .val (.double d1), .second, .val (.ref arr), .val (.int (4 : Int32)), .val (.int (2 : Int32)), .val (.double c1), .second] [(.int (2 : Int32))])) _
        refine XS.iload X2.here hx rfl (hb hby d5_14) rfl ?_
        show Steps p.tables e below (T2.setTop (mkF m 16 #[.val (.ref a0_), .val (.double d1), .second, .val (.ref arr), .val (.int (4 : Int32)), .val (.int (2 : Int32)), .val (.double c1), .second] [(.int (4 : Int32)), (.int (2 : Int32))])) _
        refine XS.icmpNo X2.here hx rfl (hb hby d5_16) rfl (tlt (by decide)).2.1 ?_
        show Steps p.tables e below (T2.setTop (mkF m 19 #[.val (.ref a0_), .val (.double d1), .second, .val (.ref arr), .val (.int (4 : Int32)), .val (.int (2 : Int32)), .val (.double c1), .second] [])) _
        refine XS.aloadN X2.here hx rfl (hb hby d5_19) rfl rfl ?_
        show Steps p.tables e below (T2.setTop (mkF m 20 #[.val (.ref a0_), .val (.double d1), .second, .val (.ref arr), .val (.int (4 : Int32)), .val (.int (2 : Int32)), .val (.double c1), .second] [(.ref arr)])) _
        refine XS.iload X2.here hx rfl (hb hby d5_20) rfl ?_
        exact k
      obtain ⟨cl17, Ar17, qc17, Sz17, Nn17, Hs17, Gs17⟩ := id PA1
      have hin17 : ¬ ((2 : Int32) < 0 ∨ cl17.slots.size ≤ ((2 : Int32)).toNatClampNeg) := inb_of Sz17 ⟨by decide, by decide⟩
      have hat17 := Hs17.at hin17 (v := (.double c2)) rfl
      have a18 : ∀ t, Steps p.tables e below (T2.setTop (mkF m 29 #[.val (.ref a0_), .val (.double d1), .second, .val (.ref arr), .val (.int (4 : Int32)), .val (.int (2 : Int32)), .val (.double c2), .second] [(.int (cmpValue (FP.dcmp c2 d1) .l))])) t → Steps p.tables e below (s₁.setTop (entryFrame m #[(.ref a0_), (.double d1)] 8)) t := by
        intro t k
        refine a16 t ?_
        show Steps p.tables e below (T2.setTop (mkF m 22 #[.val (.ref a0_), .val (.double d1), .second, .val (.ref arr), .val (.int (4 : Int32)), .val (.int (2 : Int32)), .val (.double c1), .second] [(.int (2 : Int32)), (.ref arr)])) _
        refine X2.daload hx (j := (2 : Int32)) (v := (.double c2)) (by rw [e2]; exact Ar17.1) (State.isArrayOf_alike hZ.alike Ar17.2.1) Ar17.2.2 hin17 hat17 (g := (mkF m 22 #[.val (.ref a0_), .val (.double d1), .second, .val (.ref arr), .val (.int (4 : Int32)), .val (.int (2 : Int32)), .val (.double c1), .second] [(.int (2 : Int32)), (.ref arr)])) rfl rfl (hb hby d5_22) _ ?_
        show Steps p.tables e below (T2.setTop (mkF m 23 #[.val (.ref a0_), .val (.double d1), .second, .val (.ref arr), .val (.int (4 : Int32)), .val (.int (2 : Int32)), .val (.double c1), .second] [(.double c2)])) _
        refine XS.dstore X2.here hx rfl (hb hby d5_23) rfl (l' := #[.val (.ref a0_), .val (.double d1), .second, .val (.ref arr), .val (.int (4 : Int32)), .val (.int (2 : Int32)), .val (.double c2), .second]) rfl ?_
        show Steps p.tables e below (T2.setTop (mkF m 25 #[.val (.ref a0_), .val (.double d1), .second, .val (.ref arr), .val (.int (4 : Int32)), .val (.int (2 : Int32)), .val (.double c2), .second] [])) _
        refine XS.dload X2.here hx rfl (hb hby d5_25) rfl ?_
        show Steps p.tables e below (T2.setTop (mkF m 27 #[.val (.ref a0_), .val (.double d1), .second, .val (.ref arr), .val (.int (4 : Int32)), .val (.int (2 : Int32)), .val (.double c2), .second] [(.double c2)])) _
        refine XS.dloadN X2.here hx rfl (hb hby d5_27) rfl ?_
        show Steps p.tables e below (T2.setTop (mkF m 28 #[.val (.ref a0_), .val (.double d1), .second, .val (.ref arr), .val (.int (4 : Int32)), .val (.int (2 : Int32)), .val (.double c2), .second] [(.double d1), (.double c2)])) _
        refine XS.dcmpS X2.here hx rfl (hb hby d5_28) rfl rfl ?_
        exact k
      by_cases hc29_19 : (0 : Int32) < (cmpValue (FP.dcmp c2 d1) .l)
      ·
        have a20 : ∀ t, Steps p.tables e below (T2.setTop (mkF m 33 #[.val (.ref a0_), .val (.double d1), .second, .val (.ref arr), .val (.int (4 : Int32)), .val (.int (2 : Int32)), .val (.double c2), .second] [(.int (1 : Int32))])) t → Steps p.tables e below (s₁.setTop (entryFrame m #[(.ref a0_), (.double d1)] 8)) t := by
          intro t k
          refine a18 t ?_
          show Steps p.tables e below (T2.setTop (mkF m 29 #[.val (.ref a0_), .val (.double d1), .second, .val (.ref arr), .val (.int (4 : Int32)), .val (.int (2 : Int32)), .val (.double c2), .second] [(.int (cmpValue (FP.dcmp c2 d1) .l))])) _
          refine XS.ifNo X2.here hx rfl (hb hby d5_29) rfl ((if0 _ _).trans (tlt hc29_19).2.2.2) ?_
          show Steps p.tables e below (T2.setTop (mkF m 32 #[.val (.ref a0_), .val (.double d1), .second, .val (.ref arr), .val (.int (4 : Int32)), .val (.int (2 : Int32)), .val (.double c2), .second] [])) _
          refine XS.iconst X2.here hx rfl (hb hby d5_32) ?_
          exact k
        obtain ⟨fs, hr, hrun, hended, hW, hsame⟩ := X2.leave (v := some (.int (1 : Int32))) (fun h => by rw [Bd.returns] at h; cases h)
        refine ⟨_, _, a20 _ ?_, hrun, hended, _, _, rfl, ?_, ⟨_, rfl⟩, hW, hsame.mono (by decide) (by decide)⟩
        · show Steps p.tables e below (T2.setTop (mkF m 33 #[.val (.ref a0_), .val (.double d1), .second, .val (.ref arr), .val (.int (4 : Int32)), .val (.int (2 : Int32)), .val (.double c2), .second] [(.int (1 : Int32))])) _
          exact retN X2 hx (t := .boolean) Bd.returns (by simp) (hb hby d5_33) hr
        · show QE Z a0_ d1 arr kk c0 c1 c2 c3 h0 n0 _ T2.heap _
          rw [e2]
          exact ⟨by rw [if_pos (Or.inr (Or.inr (Or.inl ((cv_gt_l _).mp hc29_19))))], N0, rfl⟩
      ·
        have a21 : ∀ t, Steps p.tables e below (T2.setTop (mkF m 22 #[.val (.ref a0_), .val (.double d1), .second, .val (.ref arr), .val (.int (4 : Int32)), .val (.int (3 : Int32)), .val (.double c2), .second] [(.int (3 : Int32)), (.ref arr)])) t → Steps p.tables e below (s₁.setTop (entryFrame m #[(.ref a0_), (.double d1)] 8)) t := by
          intro t k
          refine a18 t ?_
          show Steps p.tables e below (T2.setTop (mkF m 29 #[.val (.ref a0_), .val (.double d1), .second, .val (.ref arr), .val (.int (4 : Int32)), .val (.int (2 : Int32)), .val (.double c2), .second] [(.int (cmpValue (FP.dcmp c2 d1) .l))])) _
          refine XS.ifYes X2.here hx rfl (pc0 := 29) (pc' := 34) rfl (hb hby d5_29) rfl ((if0 _ _).trans (flt hc29_19).2.2.2) (by decide) (by decide) ?_
          show Steps p.tables e below (T2.setTop (mkF m 34 #[.val (.ref a0_), .val (.double d1), .second, .val (.ref arr), .val (.int (4 : Int32)), .val (.int (2 : Int32)), .val (.double c2), .second] [])) _
          refine XS.iinc X2.here hx rfl (hb hby d5_34) rfl (l' := #[.val (.ref a0_), .val (.double d1), .second, .val (.ref arr), .val (.int (4 : Int32)), .val (.int (3 : Int32)), .val (.double c2), .second]) rfl ?_
          show Steps p.tables e below (T2.setTop (mkF m 37 #[.val (.ref a0_), .val (.double d1), .second, .val (.ref arr), .val (.int (4 : Int32)), .val (.int (3 : Int32)), .val (.double c2), .second] [])) _
          refine XS.goto X2.here hx rfl (pc0 := 37) (pc' := 12) rfl (hb hby d5_37) (by decide) (by decide) ?_
          show Steps p.tables e below (T2.setTop (mkF m 12 #[.val (.ref a0_), .val (.double d1), .second, .val (.ref arr), .val (.int (4 : Int32)), .val (.int (3 : Int32)), .val (.double c2), .second] [])) _
          refine XS.iload X2.here hx rfl (hb hby d5_12) rfl ?_
          show Steps p.tables e below (T2.setTop (mkF m 14 #[.val (.ref a0_), .val (.double d1), .second, .val (.ref arr), .val (.int (4 : Int32)), .val (.int (3 : Int32)), .val (.double c2), .second] [(.int (3 : Int32))])) _
          refine XS.iload X2.here hx rfl (hb hby d5_14) rfl ?_
          show Steps p.tables e below (T2.setTop (mkF m 16 #[.val (.ref a0_), .val (.double d1), .second, .val (.ref arr), .val (.int (4 : Int32)), .val (.int (3 : Int32)), .val (.double c2), .second] [(.int (4 : Int32)), (.int (3 : Int32))])) _
          refine XS.icmpNo X2.here hx rfl (hb hby d5_16) rfl (tlt (by decide)).2.1 ?_
          show Steps p.tables e below (T2.setTop (mkF m 19 #[.val (.ref a0_), .val (.double d1), .second, .val (.ref arr), .val (.int (4 : Int32)), .val (.int (3 : Int32)), .val (.double c2), .second] [])) _
          refine XS.aloadN X2.here hx rfl (hb hby d5_19) rfl rfl ?_
          show Steps p.tables e below (T2.setTop (mkF m 20 #[.val (.ref a0_), .val (.double d1), .second, .val (.ref arr), .val (.int (4 : Int32)), .val (.int (3 : Int32)), .val (.double c2), .second] [(.ref arr)])) _
          refine XS.iload X2.here hx rfl (hb hby d5_20) rfl ?_
          exact k
        obtain ⟨cl22, Ar22, qc22, Sz22, Nn22, Hs22, Gs22⟩ := id PA1
        have hin22 : ¬ ((3 : Int32) < 0 ∨ cl22.slots.size ≤ ((3 : Int32)).toNatClampNeg) := inb_of Sz22 ⟨by decide, by decide⟩
        have hat22 := Hs22.at hin22 (v := (.double c3)) rfl
        have a23 : ∀ t, Steps p.tables e below (T2.setTop (mkF m 29 #[.val (.ref a0_), .val (.double d1), .second, .val (.ref arr), .val (.int (4 : Int32)), .val (.int (3 : Int32)), .val (.double c3), .second] [(.int (cmpValue (FP.dcmp c3 d1) .l))])) t → Steps p.tables e below (s₁.setTop (entryFrame m #[(.ref a0_), (.double d1)] 8)) t := by
          intro t k
          refine a21 t ?_
          show Steps p.tables e below (T2.setTop (mkF m 22 #[.val (.ref a0_), .val (.double d1), .second, .val (.ref arr), .val (.int (4 : Int32)), .val (.int (3 : Int32)), .val (.double c2), .second] [(.int (3 : Int32)), (.ref arr)])) _
          refine X2.daload hx (j := (3 : Int32)) (v := (.double c3)) (by rw [e2]; exact Ar22.1) (State.isArrayOf_alike hZ.alike Ar22.2.1) Ar22.2.2 hin22 hat22 (g := (mkF m 22 #[.val (.ref a0_), .val (.double d1), .second, .val (.ref arr), .val (.int (4 : Int32)), .val (.int (3 : Int32)), .val (.double c2), .second] [(.int (3 : Int32)), (.ref arr)])) rfl rfl (hb hby d5_22) _ ?_
          show Steps p.tables e below (T2.setTop (mkF m 23 #[.val (.ref a0_), .val (.double d1), .second, .val (.ref arr), .val (.int (4 : Int32)), .val (.int (3 : Int32)), .val (.double c2), .second] [(.double c3)])) _
          refine XS.dstore X2.here hx rfl (hb hby d5_23) rfl (l' := #[.val (.ref a0_), .val (.double d1), .second, .val (.ref arr), .val (.int (4 : Int32)), .val (.int (3 : Int32)), .val (.double c3), .second]) rfl ?_
          show Steps p.tables e below (T2.setTop (mkF m 25 #[.val (.ref a0_), .val (.double d1), .second, .val (.ref arr), .val (.int (4 : Int32)), .val (.int (3 : Int32)), .val (.double c3), .second] [])) _
          refine XS.dload X2.here hx rfl (hb hby d5_25) rfl ?_
          show Steps p.tables e below (T2.setTop (mkF m 27 #[.val (.ref a0_), .val (.double d1), .second, .val (.ref arr), .val (.int (4 : Int32)), .val (.int (3 : Int32)), .val (.double c3), .second] [(.double c3)])) _
          refine XS.dloadN X2.here hx rfl (hb hby d5_27) rfl ?_
          show Steps p.tables e below (T2.setTop (mkF m 28 #[.val (.ref a0_), .val (.double d1), .second, .val (.ref arr), .val (.int (4 : Int32)), .val (.int (3 : Int32)), .val (.double c3), .second] [(.double d1), (.double c3)])) _
          refine XS.dcmpS X2.here hx rfl (hb hby d5_28) rfl rfl ?_
          exact k
        by_cases hc29_24 : (0 : Int32) < (cmpValue (FP.dcmp c3 d1) .l)
        ·
          have a25 : ∀ t, Steps p.tables e below (T2.setTop (mkF m 33 #[.val (.ref a0_), .val (.double d1), .second, .val (.ref arr), .val (.int (4 : Int32)), .val (.int (3 : Int32)), .val (.double c3), .second] [(.int (1 : Int32))])) t → Steps p.tables e below (s₁.setTop (entryFrame m #[(.ref a0_), (.double d1)] 8)) t := by
            intro t k
            refine a23 t ?_
            show Steps p.tables e below (T2.setTop (mkF m 29 #[.val (.ref a0_), .val (.double d1), .second, .val (.ref arr), .val (.int (4 : Int32)), .val (.int (3 : Int32)), .val (.double c3), .second] [(.int (cmpValue (FP.dcmp c3 d1) .l))])) _
            refine XS.ifNo X2.here hx rfl (hb hby d5_29) rfl ((if0 _ _).trans (tlt hc29_24).2.2.2) ?_
            show Steps p.tables e below (T2.setTop (mkF m 32 #[.val (.ref a0_), .val (.double d1), .second, .val (.ref arr), .val (.int (4 : Int32)), .val (.int (3 : Int32)), .val (.double c3), .second] [])) _
            refine XS.iconst X2.here hx rfl (hb hby d5_32) ?_
            exact k
          obtain ⟨fs, hr, hrun, hended, hW, hsame⟩ := X2.leave (v := some (.int (1 : Int32))) (fun h => by rw [Bd.returns] at h; cases h)
          refine ⟨_, _, a25 _ ?_, hrun, hended, _, _, rfl, ?_, ⟨_, rfl⟩, hW, hsame.mono (by decide) (by decide)⟩
          · show Steps p.tables e below (T2.setTop (mkF m 33 #[.val (.ref a0_), .val (.double d1), .second, .val (.ref arr), .val (.int (4 : Int32)), .val (.int (3 : Int32)), .val (.double c3), .second] [(.int (1 : Int32))])) _
            exact retN X2 hx (t := .boolean) Bd.returns (by simp) (hb hby d5_33) hr
          · show QE Z a0_ d1 arr kk c0 c1 c2 c3 h0 n0 _ T2.heap _
            rw [e2]
            exact ⟨by rw [if_pos (Or.inr (Or.inr (Or.inr ((cv_gt_l _).mp hc29_24))))], N0, rfl⟩
        ·
          have a26 : ∀ t, Steps p.tables e below (T2.setTop (mkF m 41 #[.val (.ref a0_), .val (.double d1), .second, .val (.ref arr), .val (.int (4 : Int32)), .val (.int (4 : Int32)), .val (.double c3), .second] [(.int (0 : Int32))])) t → Steps p.tables e below (s₁.setTop (entryFrame m #[(.ref a0_), (.double d1)] 8)) t := by
            intro t k
            refine a23 t ?_
            show Steps p.tables e below (T2.setTop (mkF m 29 #[.val (.ref a0_), .val (.double d1), .second, .val (.ref arr), .val (.int (4 : Int32)), .val (.int (3 : Int32)), .val (.double c3), .second] [(.int (cmpValue (FP.dcmp c3 d1) .l))])) _
            refine XS.ifYes X2.here hx rfl (pc0 := 29) (pc' := 34) rfl (hb hby d5_29) rfl ((if0 _ _).trans (flt hc29_24).2.2.2) (by decide) (by decide) ?_
            show Steps p.tables e below (T2.setTop (mkF m 34 #[.val (.ref a0_), .val (.double d1), .second, .val (.ref arr), .val (.int (4 : Int32)), .val (.int (3 : Int32)), .val (.double c3), .second] [])) _
            refine XS.iinc X2.here hx rfl (hb hby d5_34) rfl (l' := #[.val (.ref a0_), .val (.double d1), .second, .val (.ref arr), .val (.int (4 : Int32)), .val (.int (4 : Int32)), .val (.double c3), .second]) rfl ?_
            show Steps p.tables e below (T2.setTop (mkF m 37 #[.val (.ref a0_), .val (.double d1), .second, .val (.ref arr), .val (.int (4 : Int32)), .val (.int (4 : Int32)), .val (.double c3), .second] [])) _
            refine XS.goto X2.here hx rfl (pc0 := 37) (pc' := 12) rfl (hb hby d5_37) (by decide) (by decide) ?_
            show Steps p.tables e below (T2.setTop (mkF m 12 #[.val (.ref a0_), .val (.double d1), .second, .val (.ref arr), .val (.int (4 : Int32)), .val (.int (4 : Int32)), .val (.double c3), .second] [])) _
            refine XS.iload X2.here hx rfl (hb hby d5_12) rfl ?_
            show Steps p.tables e below (T2.setTop (mkF m 14 #[.val (.ref a0_), .val (.double d1), .second, .val (.ref arr), .val (.int (4 : Int32)), .val (.int (4 : Int32)), .val (.double c3), .second] [(.int (4 : Int32))])) _
            refine XS.iload X2.here hx rfl (hb hby d5_14) rfl ?_
            show Steps p.tables e below (T2.setTop (mkF m 16 #[.val (.ref a0_), .val (.double d1), .second, .val (.ref arr), .val (.int (4 : Int32)), .val (.int (4 : Int32)), .val (.double c3), .second] [(.int (4 : Int32)), (.int (4 : Int32))])) _
            refine XS.icmpYes X2.here hx rfl (pc0 := 16) (pc' := 40) rfl (hb hby d5_16) rfl (flt (by decide)).2.1 (by decide) (by decide) ?_
            show Steps p.tables e below (T2.setTop (mkF m 40 #[.val (.ref a0_), .val (.double d1), .second, .val (.ref arr), .val (.int (4 : Int32)), .val (.int (4 : Int32)), .val (.double c3), .second] [])) _
            refine XS.iconst X2.here hx rfl (hb hby d5_40) ?_
            exact k
          obtain ⟨fs, hr, hrun, hended, hW, hsame⟩ := X2.leave (v := some (.int (0 : Int32))) (fun h => by rw [Bd.returns] at h; cases h)
          refine ⟨_, _, a26 _ ?_, hrun, hended, _, _, rfl, ?_, ⟨_, rfl⟩, hW, hsame.mono (by decide) (by decide)⟩
          · show Steps p.tables e below (T2.setTop (mkF m 41 #[.val (.ref a0_), .val (.double d1), .second, .val (.ref arr), .val (.int (4 : Int32)), .val (.int (4 : Int32)), .val (.double c3), .second] [(.int (0 : Int32))])) _
            exact retN X2 hx (t := .boolean) Bd.returns (by simp) (hb hby d5_41) hr
          · show QE Z a0_ d1 arr kk c0 c1 c2 c3 h0 n0 _ T2.heap _
            rw [e2]
            refine ⟨?_, N0, rfl⟩
            rw [if_neg]
            rintro (q | q | q | q)
            · exact hc29_9 ((cv_gt_l _).mpr q)
            · exact hc29_14 ((cv_gt_l _).mpr q)
            · exact hc29_19 ((cv_gt_l _).mpr q)
            · exact hc29_24 ((cv_gt_l _).mpr q)
theorem ef_rm0 (m : MethodId) (x0 : Int32) (x1 : Int32) (x2 : Int32) (x3 : Int32) (x4 : Int32) : entryFrame m #[(.int x0), (.int x1), (.int x2), (.int x3), (.int x4)] maxLocals = mkF m 0 #[.val (.int x0), .val (.int x1), .val (.int x2), .val (.int x3), .val (.int x4), .unset, .unset, .unset] [] := by first | (simp [entryFrame, mkF, argsToLocals, Value.category, maxLocals]; done) | rfl
theorem own_pd1 : parseMethodDescriptor "()V" = some ⟨[], none⟩ := by decide +kernel
theorem own_pd2 : parseMethodDescriptor "(Lcom/example/tabuvia/tabuvia/engine/Rule;D)V" = some ⟨[(.object "com/example/tabuvia/tabuvia/engine/Rule"), .double], none⟩ := by decide +kernel
theorem own_pd3 : parseMethodDescriptor "(D)Z" = some ⟨[.double], some .boolean⟩ := by decide +kernel
theorem own_pn_com_example_tabuvia_tabuvia_engine_ExcessExceedsPinLaw : plainName "com/example/tabuvia/tabuvia/engine/ExcessExceedsPinLaw" = true := by first | (simp [plainName, overriddenIn]; done) | decide +kernel
def Q0 (Z : State) (p0 : Int32) (p1 : Int32) (p2 : Int32) (p3 : Int32) (p4 : Int32) (w_CAPACITY : Addr) (w_DURATION : Addr) (w_TIME_WINDOWS : Addr) (w_FLEET : Addr) (h0 : Heap) (n0 : Nat) (v : Option Value) (h : Heap) (L : List Loc) : Prop := v = some (.int 1) ∧ Fr n0 L
set_option maxRecDepth 65536 in
set_option maxHeartbeats 40000000 in
theorem rm0 (l : Launch) (Z : State) (a0 : Array Value) (hw : ∀ d ∈ tables_1, d.before a0 Z = true) (ws : List Jvm.Cond) (p0 : Int32) (p1 : Int32) (p2 : Int32) (p3 : Int32) (p4 : Int32) (w_CAPACITY : Addr) (w_DURATION : Addr) (w_TIME_WINDOWS : Addr) (w_FLEET : Addr) (h0 : Heap) (n0 : Nat) (Z0 : n0 ≤ h0.size) (S_RULES : Sta Z h0 "com/example/tabuvia/tabuvia/engine/Excess" "RULES" "I" (.int (4 : Int32))) (S_CAPACITY : Sta Z h0 "com/example/tabuvia/tabuvia/engine/Rule" "CAPACITY" "Lcom/example/tabuvia/tabuvia/engine/Rule;" (.ref w_CAPACITY)) (X_CAPACITY : Exa Z h0 w_CAPACITY "com/example/tabuvia/tabuvia/engine/Rule") (F_CAPACITY_ordinal : Fld Z h0 w_CAPACITY "java/lang/Enum" "ordinal" "I" (.int 0)) (S_DURATION : Sta Z h0 "com/example/tabuvia/tabuvia/engine/Rule" "DURATION" "Lcom/example/tabuvia/tabuvia/engine/Rule;" (.ref w_DURATION)) (X_DURATION : Exa Z h0 w_DURATION "com/example/tabuvia/tabuvia/engine/Rule") (F_DURATION_ordinal : Fld Z h0 w_DURATION "java/lang/Enum" "ordinal" "I" (.int 1)) (S_TIME_WINDOWS : Sta Z h0 "com/example/tabuvia/tabuvia/engine/Rule" "TIME_WINDOWS" "Lcom/example/tabuvia/tabuvia/engine/Rule;" (.ref w_TIME_WINDOWS)) (X_TIME_WINDOWS : Exa Z h0 w_TIME_WINDOWS "com/example/tabuvia/tabuvia/engine/Rule") (F_TIME_WINDOWS_ordinal : Fld Z h0 w_TIME_WINDOWS "java/lang/Enum" "ordinal" "I" (.int 2)) (S_FLEET : Sta Z h0 "com/example/tabuvia/tabuvia/engine/Rule" "FLEET" "Lcom/example/tabuvia/tabuvia/engine/Rule;" (.ref w_FLEET)) (X_FLEET : Exa Z h0 w_FLEET "com/example/tabuvia/tabuvia/engine/Rule") (F_FLEET_ordinal : Fld Z h0 w_FLEET "java/lang/Enum" "ordinal" "I" (.int 3)) :
    MetFree l x (head1 (Jvm.Cond.code x code maxLocals ret :: ws) room_1) (fun a U => a = #[(.int p0), (.int p1), (.int p2), (.int p3), (.int p4)] ∧ Z.Warmed39 U.vm ∧ U.heap = h0) (fun _ _ _ _ _ => True) (fun _ U o U' => ∃ v L, o = .returned v ∧ Q0 Z p0 p1 p2 p3 p4 w_CAPACITY w_DURATION w_TIME_WINDOWS w_FLEET h0 n0 v U'.heap L ∧ FrameEnd U o U' L room_1.cells room_1.slots) := by
  refine MetFree.of_bodySF (plainFor_of_name own_pn_com_example_tabuvia_tabuvia_engine_ExcessExceedsPinLaw) hisR ?_
  intro p e s m args below meth c s₁ Bd hml0 hP hK
  obtain ⟨rfl, hZ, hh⟩ := hP
  have hx := Bd.exec
  have hby := Bd.bytes
  have hml : c.maxLocals = 8 := hml0
  have hown : s.vm.findClass "com/example/tabuvia/tabuvia/engine/ExcessExceedsPinLaw" = some m.cls := findClass_of_methodNamed Bd.named
  have hnm := (name_of_methodNamed Bd.named Bd.method).1
  have X0 : Stand p l e room_1 s m #[(.int p0), (.int p1), (.int p2), (.int p3), (.int p4)] below meth c s₁ [] 0 0 := Stand.of_body Bd
  have e0 : s₁.heap = h0 := by rw [← hh, Bd.state]; rfl
  have N0 := Fr.nil n0
  have pre0 : ∀ t, Steps p.tables e below (s₁.setTop (mkF m 0 #[.val (.int p0), .val (.int p1), .val (.int p2), .val (.int p3), .val (.int p4), .unset, .unset, .unset] [])) t → Steps p.tables e below (s₁.setTop (entryFrame m #[(.int p0), (.int p1), (.int p2), (.int p3), (.int p4)] maxLocals)) t := fun t k => castTop (ef_rm0 m p0 p1 p2 p3 p4) k
  obtain ⟨T1, h1, X1, e1, E1, A1, D1, -, st1⟩ := newO X0 hx hZ hown (hw _ (List.mem_of_getElem? (i := 0) rfl)) (hw _ (List.mem_of_getElem? (i := 1) rfl)) (hw _ (List.mem_of_getElem? (i := 2) rfl)) e0 (g := (mkF m 0 #[.val (.int p0), .val (.int p1), .val (.int p2), .val (.int p3), .val (.int p4), .unset, .unset, .unset] [])) rfl (hb hby at_0) (by decide) (by decide)
  obtain ⟨b1, g1⟩ : ∃ z, z = h0.size := ⟨_, rfl⟩
  rw [← g1] at A1 D1 st1
  have g_b1 : n0 ≤ b1 := Nat.le_trans Z0 (Nat.le_of_eq g1.symm)
  have sz_b1 : h0.size ≤ b1 := Nat.le_trans ((Keep.refl h0 [])).1 (Nat.le_of_eq g1.symm)
  have K1 : Keep h0 h1 [] := Keep.ext (Keep.refl h0 []) E1
  have F_amounts_b1 : Fld Z h1 b1 "com/example/tabuvia/tabuvia/engine/Excess" "amounts" "[D" .null := D1 (Or.inr (hw _ (List.mem_of_getElem? (i := 13) rfl))) (ty := (.array .double)) (by decide)
  have a2 : ∀ t, Steps p.tables e below (T1.setTop (mkF m 3 #[.val (.int p0), .val (.int p1), .val (.int p2), .val (.int p3), .val (.int p4), .unset, .unset, .unset] [(.ref b1)])) t → Steps p.tables e below (s₁.setTop (entryFrame m #[(.int p0), (.int p1), (.int p2), (.int p3), (.int p4)] maxLocals)) t := fun t k => pre0 t (st1 t k)
  have a3 : ∀ t, Steps p.tables e below (T1.setTop (mkF m 4 #[.val (.int p0), .val (.int p1), .val (.int p2), .val (.int p3), .val (.int p4), .unset, .unset, .unset] [(.ref b1), (.ref b1)])) t → Steps p.tables e below (s₁.setTop (entryFrame m #[(.int p0), (.int p1), (.int p2), (.int p3), (.int p4)] maxLocals)) t := by
    intro t k
    refine a2 t ?_
    show Steps p.tables e below (T1.setTop (mkF m 3 #[.val (.int p0), .val (.int p1), .val (.int p2), .val (.int p3), .val (.int p4), .unset, .unset, .unset] [(.ref b1)])) _
    refine XS.dup X1.here hx rfl (hb hby at_3) rfl rfl ?_
    exact k
  obtain ⟨_, _, ⟨T4, L4, k4, n4⟩, -, X4, ⟨Lc4, hQ4, l4, y4, z4⟩, st4⟩ := X1.specialBack hx (y := (⟨"com/example/tabuvia/tabuvia/engine/Excess", "<init>", "()V"⟩ : MethodName)) rfl hown (mvT hZ (hw _ (List.mem_of_getElem? (i := 3) rfl))) (mvT hZ (hw _ (List.mem_of_getElem? (i := 4) rfl))) (mvT hZ (hw _ (List.mem_of_getElem? (i := 5) rfl))) (by decide) (backOf (W := 1) (rmXI l Z a0 hw [] b1 h1 n0 (Nat.le_trans Z0 E1.1) A1 g_b1 F_amounts_b1 (S_RULES.ext E1)) hZ (hw _ (List.mem_of_getElem? (i := 5) rfl)) (hw _ (List.mem_of_getElem? (i := 2) rfl)) (by decide) (by decide)) (g := (mkF m 4 #[.val (.int p0), .val (.int p1), .val (.int p2), .val (.int p3), .val (.int p4), .unset, .unset, .unset] [(.ref b1), (.ref b1)])) rfl (by rw [hml]; rfl) (Steps.refl _) (a := b1) (argsL := []) (rest := [(.ref b1)]) (lenOf own_pd1 rfl) rfl (by show 2 * 0 + _ ≤ _; exact Nat.le_of_eq rfl) (hb hby at_4) (fun _ _ => ⟨rfl, e1, (by decide : 1 + 1 ≤ _), (by decide : 1 + 4 ≤ _)⟩)
  dsimp only [Pt.U, Pt.locs, Pt.cells, Pt.slots] at X4 l4 y4 z4 st4 hQ4
  subst l4 y4 z4
  obtain ⟨arr4, ka4, rfl, N4q, K4q, FA4, VA4, GA4, SA4⟩ := hQ4
  have N4 := Fr.app N0 N4q
  have KK4 : Keep h0 T4.heap [] := Keep.trans K1 K4q (allS (Or.inr sz_b1) all0)
  have a5 : ∀ t, Steps p.tables e below (T4.setTop (mkF m 7 #[.val (.int p0), .val (.int p1), .val (.int p2), .val (.int p3), .val (.int p4), .unset, .unset, .unset] [(.ref b1)])) t → Steps p.tables e below (s₁.setTop (entryFrame m #[(.int p0), (.int p1), (.int p2), (.int p3), (.int p4)] maxLocals)) t := fun t k => a3 t (st4.trans k)
  have a6 : ∀ t, Steps p.tables e below (T4.setTop (mkF m 11 #[.val (.int p0), .val (.int p1), .val (.int p2), .val (.int p3), .val (.int p4), .val (.ref b1), .unset, .unset] [(.ref b1)])) t → Steps p.tables e below (s₁.setTop (entryFrame m #[(.int p0), (.int p1), (.int p2), (.int p3), (.int p4)] maxLocals)) t := by
    intro t k
    refine a5 t ?_
    show Steps p.tables e below (T4.setTop (mkF m 7 #[.val (.int p0), .val (.int p1), .val (.int p2), .val (.int p3), .val (.int p4), .unset, .unset, .unset] [(.ref b1)])) _
    refine XS.astore X4.here hx rfl (hb hby at_7) rfl rfl (l' := #[.val (.int p0), .val (.int p1), .val (.int p2), .val (.int p3), .val (.int p4), .val (.ref b1), .unset, .unset]) rfl ?_
    show Steps p.tables e below (T4.setTop (mkF m 9 #[.val (.int p0), .val (.int p1), .val (.int p2), .val (.int p3), .val (.int p4), .val (.ref b1), .unset, .unset] [])) _
    refine XS.aload X4.here hx rfl (hb hby at_9) rfl rfl ?_
    exact k
  obtain ⟨T7, X7, e7, st7⟩ := getS2 X4 hx hZ hown (host := "") (Or.inl (hw _ (List.mem_of_getElem? (i := 14) rfl))) Via.refl rfl (staKeep (S_CAPACITY.ext E1) K4q (allS (exaSt A1) all0)) (g := (mkF m 11 #[.val (.int p0), .val (.int p1), .val (.int p2), .val (.int p3), .val (.int p4), .val (.ref b1), .unset, .unset] [(.ref b1)])) rfl (hb hby at_11)
  have a8 : ∀ t, Steps p.tables e below (T7.setTop (mkF m 14 #[.val (.int p0), .val (.int p1), .val (.int p2), .val (.int p3), .val (.int p4), .val (.ref b1), .unset, .unset] [(.ref w_CAPACITY), (.ref b1)])) t → Steps p.tables e below (s₁.setTop (entryFrame m #[(.int p0), (.int p1), (.int p2), (.int p3), (.int p4)] maxLocals)) t := fun t k => a6 t (st7 t k)
  have a9 : ∀ t, Steps p.tables e below (T7.setTop (mkF m 16 #[.val (.int p0), .val (.int p1), .val (.int p2), .val (.int p3), .val (.int p4), .val (.ref b1), .unset, .unset] [(.double (FP.i2d p0)), (.ref w_CAPACITY), (.ref b1)])) t → Steps p.tables e below (s₁.setTop (entryFrame m #[(.int p0), (.int p1), (.int p2), (.int p3), (.int p4)] maxLocals)) t := by
    intro t k
    refine a8 t ?_
    show Steps p.tables e below (T7.setTop (mkF m 14 #[.val (.int p0), .val (.int p1), .val (.int p2), .val (.int p3), .val (.int p4), .val (.ref b1), .unset, .unset] [(.ref w_CAPACITY), (.ref b1)])) _
    refine XS.iloadN X7.here hx rfl (hb hby at_14) rfl ?_
    show Steps p.tables e below (T7.setTop (mkF m 15 #[.val (.int p0), .val (.int p1), .val (.int p2), .val (.int p3), .val (.int p4), .val (.ref b1), .unset, .unset] [(.int p0), (.ref w_CAPACITY), (.ref b1)])) _
    refine XS.i2dS X7.here hx rfl (hb hby at_15) rfl rfl ?_
    exact k
  obtain ⟨cq10, kq10, q10a, q10b, q10c⟩ := isOf hZ e7 (A1.keep K4q)
  obtain ⟨_, _, ⟨T10, L10, k10, n10⟩, -, X10, ⟨Lc10, hQ10, l10, y10, z10⟩, st10⟩ := X7.virtualBack hx (y := (⟨"com/example/tabuvia/tabuvia/engine/Excess", "set", "(Lcom/example/tabuvia/tabuvia/engine/Rule;D)V"⟩ : MethodName)) (z := (⟨"com/example/tabuvia/tabuvia/engine/Excess", "set", "(Lcom/example/tabuvia/tabuvia/engine/Rule;D)V"⟩ : MethodName)) hown (mvT hZ (hw _ (List.mem_of_getElem? (i := 17) rfl))) (mvT hZ (hw _ (List.mem_of_getElem? (i := 18) rfl))) (notFace_of_selects (args := #[]) (mvT hZ (hw _ (List.mem_of_getElem? (i := 20) rfl)))) (mvT hZ (hw _ (List.mem_of_getElem? (i := 20) rfl))) (mvT hZ (hw _ (List.mem_of_getElem? (i := 19) rfl))) (by decide) (backOf (W := 0) (rmSet l Z a0 hw [] b1 w_CAPACITY (FP.i2d p0) arr4 ka4 [(.double (0 : UInt64)), (.double (0 : UInt64)), (.double (0 : UInt64)), (.double (0 : UInt64))] (0 : Int32) 0 T4.heap n0 (Nat.le_trans (Nat.le_trans Z0 E1.1) K4q.1) FA4 VA4 ((F_CAPACITY_ordinal.ext E1).keep K4q (ninS (Nat.ne_of_lt (Nat.lt_of_lt_of_le F_CAPACITY_ordinal.lt (Nat.le_of_eq g1.symm))) nin0)) ((X_CAPACITY.ext E1).keep K4q) GA4 rfl (Nat.le_of_ble_eq_true rfl) ⟨by decide, by decide⟩) hZ (hw _ (List.mem_of_getElem? (i := 21) rfl)) (hw _ (List.mem_of_getElem? (i := 2) rfl)) (by decide) (by decide)) q10a q10c (g := (mkF m 16 #[.val (.int p0), .val (.int p1), .val (.int p2), .val (.int p3), .val (.int p4), .val (.ref b1), .unset, .unset] [(.double (FP.i2d p0)), (.ref w_CAPACITY), (.ref b1)])) rfl (by rw [hml]; rfl) (Steps.refl _) (argsL := [(.ref w_CAPACITY), (.double (FP.i2d p0))]) (rest := []) (lenOf own_pd2 rfl) rfl (by show 2 * 0 + _ ≤ _; exact Nat.le_of_eq rfl) (hb hby at_16) (fun _ _ => ⟨rfl, e7, (by decide : 2 + 0 ≤ _), (by decide : 5 + 0 ≤ _)⟩)
  dsimp only [Pt.U, Pt.locs, Pt.cells, Pt.slots] at X10 l10 y10 z10 st10 hQ10
  subst l10 y10 z10
  obtain ⟨rfl, N10q, K10q, VS10⟩ := hQ10
  have N10 := Fr.app N4 N10q
  have KK10 : Keep h0 T10.heap [] := Keep.trans KK4 K10q (allS (Or.inr (Nat.le_trans (K1).1 SA4)) all0)
  have a11 : ∀ t, Steps p.tables e below (T10.setTop (mkF m 19 #[.val (.int p0), .val (.int p1), .val (.int p2), .val (.int p3), .val (.int p4), .val (.ref b1), .unset, .unset] [])) t → Steps p.tables e below (s₁.setTop (entryFrame m #[(.int p0), (.int p1), (.int p2), (.int p3), (.int p4)] maxLocals)) t := fun t k => a9 t (st10.trans k)
  have a12 : ∀ t, Steps p.tables e below (T10.setTop (mkF m 21 #[.val (.int p0), .val (.int p1), .val (.int p2), .val (.int p3), .val (.int p4), .val (.ref b1), .unset, .unset] [(.ref b1)])) t → Steps p.tables e below (s₁.setTop (entryFrame m #[(.int p0), (.int p1), (.int p2), (.int p3), (.int p4)] maxLocals)) t := by
    intro t k
    refine a11 t ?_
    show Steps p.tables e below (T10.setTop (mkF m 19 #[.val (.int p0), .val (.int p1), .val (.int p2), .val (.int p3), .val (.int p4), .val (.ref b1), .unset, .unset] [])) _
    refine XS.aload X10.here hx rfl (hb hby at_19) rfl rfl ?_
    exact k
  obtain ⟨T13, X13, e13, st13⟩ := getS2 X10 hx hZ hown (host := "") (Or.inl (hw _ (List.mem_of_getElem? (i := 31) rfl))) Via.refl rfl (staKeep (staKeep (S_DURATION.ext E1) K4q (allS (exaSt A1) all0)) K10q (allS (arvSt VA4) all0)) (g := (mkF m 21 #[.val (.int p0), .val (.int p1), .val (.int p2), .val (.int p3), .val (.int p4), .val (.ref b1), .unset, .unset] [(.ref b1)])) rfl (hb hby at_21)
  have a14 : ∀ t, Steps p.tables e below (T13.setTop (mkF m 24 #[.val (.int p0), .val (.int p1), .val (.int p2), .val (.int p3), .val (.int p4), .val (.ref b1), .unset, .unset] [(.ref w_DURATION), (.ref b1)])) t → Steps p.tables e below (s₁.setTop (entryFrame m #[(.int p0), (.int p1), (.int p2), (.int p3), (.int p4)] maxLocals)) t := fun t k => a12 t (st13 t k)
  have a15 : ∀ t, Steps p.tables e below (T13.setTop (mkF m 26 #[.val (.int p0), .val (.int p1), .val (.int p2), .val (.int p3), .val (.int p4), .val (.ref b1), .unset, .unset] [(.double (FP.i2d p1)), (.ref w_DURATION), (.ref b1)])) t → Steps p.tables e below (s₁.setTop (entryFrame m #[(.int p0), (.int p1), (.int p2), (.int p3), (.int p4)] maxLocals)) t := by
    intro t k
    refine a14 t ?_
    show Steps p.tables e below (T13.setTop (mkF m 24 #[.val (.int p0), .val (.int p1), .val (.int p2), .val (.int p3), .val (.int p4), .val (.ref b1), .unset, .unset] [(.ref w_DURATION), (.ref b1)])) _
    refine XS.iloadN X13.here hx rfl (hb hby at_24) rfl ?_
    show Steps p.tables e below (T13.setTop (mkF m 25 #[.val (.int p0), .val (.int p1), .val (.int p2), .val (.int p3), .val (.int p4), .val (.ref b1), .unset, .unset] [(.int p1), (.ref w_DURATION), (.ref b1)])) _
    refine XS.i2dS X13.here hx rfl (hb hby at_25) rfl rfl ?_
    exact k
  obtain ⟨cq16, kq16, q16a, q16b, q16c⟩ := isOf hZ e13 ((A1.keep K4q).keep K10q)
  obtain ⟨_, _, ⟨T16, L16, k16, n16⟩, -, X16, ⟨Lc16, hQ16, l16, y16, z16⟩, st16⟩ := X13.virtualBack hx (y := (⟨"com/example/tabuvia/tabuvia/engine/Excess", "set", "(Lcom/example/tabuvia/tabuvia/engine/Rule;D)V"⟩ : MethodName)) (z := (⟨"com/example/tabuvia/tabuvia/engine/Excess", "set", "(Lcom/example/tabuvia/tabuvia/engine/Rule;D)V"⟩ : MethodName)) hown (mvT hZ (hw _ (List.mem_of_getElem? (i := 17) rfl))) (mvT hZ (hw _ (List.mem_of_getElem? (i := 18) rfl))) (notFace_of_selects (args := #[]) (mvT hZ (hw _ (List.mem_of_getElem? (i := 20) rfl)))) (mvT hZ (hw _ (List.mem_of_getElem? (i := 20) rfl))) (mvT hZ (hw _ (List.mem_of_getElem? (i := 19) rfl))) (by decide) (backOf (W := 0) (rmSet l Z a0 hw [] b1 w_DURATION (FP.i2d p1) arr4 ka4 [(.double (FP.i2d p0)), (.double (0 : UInt64)), (.double (0 : UInt64)), (.double (0 : UInt64))] (1 : Int32) 1 T10.heap n0 (Nat.le_trans (Nat.le_trans (Nat.le_trans Z0 E1.1) K4q.1) K10q.1) (FA4.keep K10q (ninS (Nat.ne_of_lt (Nat.lt_of_lt_of_le F_amounts_b1.lt SA4)) nin0)) VS10 (((F_DURATION_ordinal.ext E1).keep K4q (ninS (Nat.ne_of_lt (Nat.lt_of_lt_of_le F_DURATION_ordinal.lt (Nat.le_of_eq g1.symm))) nin0)).keep K10q (ninS (Nat.ne_of_lt (Nat.lt_of_lt_of_le (X_DURATION.ext E1).lt SA4)) nin0)) (((X_DURATION.ext E1).keep K4q).keep K10q) GA4 rfl (Nat.le_of_ble_eq_true rfl) ⟨by decide, by decide⟩) hZ (hw _ (List.mem_of_getElem? (i := 21) rfl)) (hw _ (List.mem_of_getElem? (i := 2) rfl)) (by decide) (by decide)) q16a q16c (g := (mkF m 26 #[.val (.int p0), .val (.int p1), .val (.int p2), .val (.int p3), .val (.int p4), .val (.ref b1), .unset, .unset] [(.double (FP.i2d p1)), (.ref w_DURATION), (.ref b1)])) rfl (by rw [hml]; rfl) (Steps.refl _) (argsL := [(.ref w_DURATION), (.double (FP.i2d p1))]) (rest := []) (lenOf own_pd2 rfl) rfl (by show 2 * 0 + _ ≤ _; exact Nat.le_of_eq rfl) (hb hby at_26) (fun _ _ => ⟨rfl, e13, (by decide : 2 + 0 ≤ _), (by decide : 5 + 0 ≤ _)⟩)
  dsimp only [Pt.U, Pt.locs, Pt.cells, Pt.slots] at X16 l16 y16 z16 st16 hQ16
  subst l16 y16 z16
  obtain ⟨rfl, N16q, K16q, VS16⟩ := hQ16
  have N16 := Fr.app N10 N16q
  have KK16 : Keep h0 T16.heap [] := Keep.trans KK10 K16q (allS (Or.inr (Nat.le_trans (K1).1 SA4)) all0)
  have a17 : ∀ t, Steps p.tables e below (T16.setTop (mkF m 29 #[.val (.int p0), .val (.int p1), .val (.int p2), .val (.int p3), .val (.int p4), .val (.ref b1), .unset, .unset] [])) t → Steps p.tables e below (s₁.setTop (entryFrame m #[(.int p0), (.int p1), (.int p2), (.int p3), (.int p4)] maxLocals)) t := fun t k => a15 t (st16.trans k)
  have a18 : ∀ t, Steps p.tables e below (T16.setTop (mkF m 31 #[.val (.int p0), .val (.int p1), .val (.int p2), .val (.int p3), .val (.int p4), .val (.ref b1), .unset, .unset] [(.ref b1)])) t → Steps p.tables e below (s₁.setTop (entryFrame m #[(.int p0), (.int p1), (.int p2), (.int p3), (.int p4)] maxLocals)) t := by
    intro t k
    refine a17 t ?_
    show Steps p.tables e below (T16.setTop (mkF m 29 #[.val (.int p0), .val (.int p1), .val (.int p2), .val (.int p3), .val (.int p4), .val (.ref b1), .unset, .unset] [])) _
    refine XS.aload X16.here hx rfl (hb hby at_29) rfl rfl ?_
    exact k
  obtain ⟨T19, X19, e19, st19⟩ := getS2 X16 hx hZ hown (host := "") (Or.inl (hw _ (List.mem_of_getElem? (i := 33) rfl))) Via.refl rfl (staKeep (staKeep (staKeep (S_TIME_WINDOWS.ext E1) K4q (allS (exaSt A1) all0)) K10q (allS (arvSt VA4) all0)) K16q (allS (arvSt VS10) all0)) (g := (mkF m 31 #[.val (.int p0), .val (.int p1), .val (.int p2), .val (.int p3), .val (.int p4), .val (.ref b1), .unset, .unset] [(.ref b1)])) rfl (hb hby at_31)
  have a20 : ∀ t, Steps p.tables e below (T19.setTop (mkF m 34 #[.val (.int p0), .val (.int p1), .val (.int p2), .val (.int p3), .val (.int p4), .val (.ref b1), .unset, .unset] [(.ref w_TIME_WINDOWS), (.ref b1)])) t → Steps p.tables e below (s₁.setTop (entryFrame m #[(.int p0), (.int p1), (.int p2), (.int p3), (.int p4)] maxLocals)) t := fun t k => a18 t (st19 t k)
  have a21 : ∀ t, Steps p.tables e below (T19.setTop (mkF m 36 #[.val (.int p0), .val (.int p1), .val (.int p2), .val (.int p3), .val (.int p4), .val (.ref b1), .unset, .unset] [(.double (FP.i2d p2)), (.ref w_TIME_WINDOWS), (.ref b1)])) t → Steps p.tables e below (s₁.setTop (entryFrame m #[(.int p0), (.int p1), (.int p2), (.int p3), (.int p4)] maxLocals)) t := by
    intro t k
    refine a20 t ?_
    show Steps p.tables e below (T19.setTop (mkF m 34 #[.val (.int p0), .val (.int p1), .val (.int p2), .val (.int p3), .val (.int p4), .val (.ref b1), .unset, .unset] [(.ref w_TIME_WINDOWS), (.ref b1)])) _
    refine XS.iloadN X19.here hx rfl (hb hby at_34) rfl ?_
    show Steps p.tables e below (T19.setTop (mkF m 35 #[.val (.int p0), .val (.int p1), .val (.int p2), .val (.int p3), .val (.int p4), .val (.ref b1), .unset, .unset] [(.int p2), (.ref w_TIME_WINDOWS), (.ref b1)])) _
    refine XS.i2dS X19.here hx rfl (hb hby at_35) rfl rfl ?_
    exact k
  obtain ⟨cq22, kq22, q22a, q22b, q22c⟩ := isOf hZ e19 (((A1.keep K4q).keep K10q).keep K16q)
  obtain ⟨_, _, ⟨T22, L22, k22, n22⟩, -, X22, ⟨Lc22, hQ22, l22, y22, z22⟩, st22⟩ := X19.virtualBack hx (y := (⟨"com/example/tabuvia/tabuvia/engine/Excess", "set", "(Lcom/example/tabuvia/tabuvia/engine/Rule;D)V"⟩ : MethodName)) (z := (⟨"com/example/tabuvia/tabuvia/engine/Excess", "set", "(Lcom/example/tabuvia/tabuvia/engine/Rule;D)V"⟩ : MethodName)) hown (mvT hZ (hw _ (List.mem_of_getElem? (i := 17) rfl))) (mvT hZ (hw _ (List.mem_of_getElem? (i := 18) rfl))) (notFace_of_selects (args := #[]) (mvT hZ (hw _ (List.mem_of_getElem? (i := 20) rfl)))) (mvT hZ (hw _ (List.mem_of_getElem? (i := 20) rfl))) (mvT hZ (hw _ (List.mem_of_getElem? (i := 19) rfl))) (by decide) (backOf (W := 0) (rmSet l Z a0 hw [] b1 w_TIME_WINDOWS (FP.i2d p2) arr4 ka4 [(.double (FP.i2d p0)), (.double (FP.i2d p1)), (.double (0 : UInt64)), (.double (0 : UInt64))] (2 : Int32) 2 T16.heap n0 (Nat.le_trans (Nat.le_trans (Nat.le_trans (Nat.le_trans Z0 E1.1) K4q.1) K10q.1) K16q.1) ((FA4.keep K10q (ninS (Nat.ne_of_lt (Nat.lt_of_lt_of_le F_amounts_b1.lt SA4)) nin0)).keep K16q (ninS (Nat.ne_of_lt (Nat.lt_of_lt_of_le F_amounts_b1.lt SA4)) nin0)) VS16 ((((F_TIME_WINDOWS_ordinal.ext E1).keep K4q (ninS (Nat.ne_of_lt (Nat.lt_of_lt_of_le F_TIME_WINDOWS_ordinal.lt (Nat.le_of_eq g1.symm))) nin0)).keep K10q (ninS (Nat.ne_of_lt (Nat.lt_of_lt_of_le (X_TIME_WINDOWS.ext E1).lt SA4)) nin0)).keep K16q (ninS (Nat.ne_of_lt (Nat.lt_of_lt_of_le (X_TIME_WINDOWS.ext E1).lt SA4)) nin0)) ((((X_TIME_WINDOWS.ext E1).keep K4q).keep K10q).keep K16q) GA4 rfl (Nat.le_of_ble_eq_true rfl) ⟨by decide, by decide⟩) hZ (hw _ (List.mem_of_getElem? (i := 21) rfl)) (hw _ (List.mem_of_getElem? (i := 2) rfl)) (by decide) (by decide)) q22a q22c (g := (mkF m 36 #[.val (.int p0), .val (.int p1), .val (.int p2), .val (.int p3), .val (.int p4), .val (.ref b1), .unset, .unset] [(.double (FP.i2d p2)), (.ref w_TIME_WINDOWS), (.ref b1)])) rfl (by rw [hml]; rfl) (Steps.refl _) (argsL := [(.ref w_TIME_WINDOWS), (.double (FP.i2d p2))]) (rest := []) (lenOf own_pd2 rfl) rfl (by show 2 * 0 + _ ≤ _; exact Nat.le_of_eq rfl) (hb hby at_36) (fun _ _ => ⟨rfl, e19, (by decide : 2 + 0 ≤ _), (by decide : 5 + 0 ≤ _)⟩)
  dsimp only [Pt.U, Pt.locs, Pt.cells, Pt.slots] at X22 l22 y22 z22 st22 hQ22
  subst l22 y22 z22
  obtain ⟨rfl, N22q, K22q, VS22⟩ := hQ22
  have N22 := Fr.app N16 N22q
  have KK22 : Keep h0 T22.heap [] := Keep.trans KK16 K22q (allS (Or.inr (Nat.le_trans (K1).1 SA4)) all0)
  have a23 : ∀ t, Steps p.tables e below (T22.setTop (mkF m 39 #[.val (.int p0), .val (.int p1), .val (.int p2), .val (.int p3), .val (.int p4), .val (.ref b1), .unset, .unset] [])) t → Steps p.tables e below (s₁.setTop (entryFrame m #[(.int p0), (.int p1), (.int p2), (.int p3), (.int p4)] maxLocals)) t := fun t k => a21 t (st22.trans k)
  have a24 : ∀ t, Steps p.tables e below (T22.setTop (mkF m 41 #[.val (.int p0), .val (.int p1), .val (.int p2), .val (.int p3), .val (.int p4), .val (.ref b1), .unset, .unset] [(.ref b1)])) t → Steps p.tables e below (s₁.setTop (entryFrame m #[(.int p0), (.int p1), (.int p2), (.int p3), (.int p4)] maxLocals)) t := by
    intro t k
    refine a23 t ?_
    show Steps p.tables e below (T22.setTop (mkF m 39 #[.val (.int p0), .val (.int p1), .val (.int p2), .val (.int p3), .val (.int p4), .val (.ref b1), .unset, .unset] [])) _
    refine XS.aload X22.here hx rfl (hb hby at_39) rfl rfl ?_
    exact k
  obtain ⟨T25, X25, e25, st25⟩ := getS2 X22 hx hZ hown (host := "") (Or.inl (hw _ (List.mem_of_getElem? (i := 35) rfl))) Via.refl rfl (staKeep (staKeep (staKeep (staKeep (S_FLEET.ext E1) K4q (allS (exaSt A1) all0)) K10q (allS (arvSt VA4) all0)) K16q (allS (arvSt VS10) all0)) K22q (allS (arvSt VS16) all0)) (g := (mkF m 41 #[.val (.int p0), .val (.int p1), .val (.int p2), .val (.int p3), .val (.int p4), .val (.ref b1), .unset, .unset] [(.ref b1)])) rfl (hb hby at_41)
  have a26 : ∀ t, Steps p.tables e below (T25.setTop (mkF m 44 #[.val (.int p0), .val (.int p1), .val (.int p2), .val (.int p3), .val (.int p4), .val (.ref b1), .unset, .unset] [(.ref w_FLEET), (.ref b1)])) t → Steps p.tables e below (s₁.setTop (entryFrame m #[(.int p0), (.int p1), (.int p2), (.int p3), (.int p4)] maxLocals)) t := fun t k => a24 t (st25 t k)
  have a27 : ∀ t, Steps p.tables e below (T25.setTop (mkF m 46 #[.val (.int p0), .val (.int p1), .val (.int p2), .val (.int p3), .val (.int p4), .val (.ref b1), .unset, .unset] [(.double (FP.i2d p3)), (.ref w_FLEET), (.ref b1)])) t → Steps p.tables e below (s₁.setTop (entryFrame m #[(.int p0), (.int p1), (.int p2), (.int p3), (.int p4)] maxLocals)) t := by
    intro t k
    refine a26 t ?_
    show Steps p.tables e below (T25.setTop (mkF m 44 #[.val (.int p0), .val (.int p1), .val (.int p2), .val (.int p3), .val (.int p4), .val (.ref b1), .unset, .unset] [(.ref w_FLEET), (.ref b1)])) _
    refine XS.iloadN X25.here hx rfl (hb hby at_44) rfl ?_
    show Steps p.tables e below (T25.setTop (mkF m 45 #[.val (.int p0), .val (.int p1), .val (.int p2), .val (.int p3), .val (.int p4), .val (.ref b1), .unset, .unset] [(.int p3), (.ref w_FLEET), (.ref b1)])) _
    refine XS.i2dS X25.here hx rfl (hb hby at_45) rfl rfl ?_
    exact k
  obtain ⟨cq28, kq28, q28a, q28b, q28c⟩ := isOf hZ e25 ((((A1.keep K4q).keep K10q).keep K16q).keep K22q)
  obtain ⟨_, _, ⟨T28, L28, k28, n28⟩, -, X28, ⟨Lc28, hQ28, l28, y28, z28⟩, st28⟩ := X25.virtualBack hx (y := (⟨"com/example/tabuvia/tabuvia/engine/Excess", "set", "(Lcom/example/tabuvia/tabuvia/engine/Rule;D)V"⟩ : MethodName)) (z := (⟨"com/example/tabuvia/tabuvia/engine/Excess", "set", "(Lcom/example/tabuvia/tabuvia/engine/Rule;D)V"⟩ : MethodName)) hown (mvT hZ (hw _ (List.mem_of_getElem? (i := 17) rfl))) (mvT hZ (hw _ (List.mem_of_getElem? (i := 18) rfl))) (notFace_of_selects (args := #[]) (mvT hZ (hw _ (List.mem_of_getElem? (i := 20) rfl)))) (mvT hZ (hw _ (List.mem_of_getElem? (i := 20) rfl))) (mvT hZ (hw _ (List.mem_of_getElem? (i := 19) rfl))) (by decide) (backOf (W := 0) (rmSet l Z a0 hw [] b1 w_FLEET (FP.i2d p3) arr4 ka4 [(.double (FP.i2d p0)), (.double (FP.i2d p1)), (.double (FP.i2d p2)), (.double (0 : UInt64))] (3 : Int32) 3 T22.heap n0 (Nat.le_trans (Nat.le_trans (Nat.le_trans (Nat.le_trans (Nat.le_trans Z0 E1.1) K4q.1) K10q.1) K16q.1) K22q.1) (((FA4.keep K10q (ninS (Nat.ne_of_lt (Nat.lt_of_lt_of_le F_amounts_b1.lt SA4)) nin0)).keep K16q (ninS (Nat.ne_of_lt (Nat.lt_of_lt_of_le F_amounts_b1.lt SA4)) nin0)).keep K22q (ninS (Nat.ne_of_lt (Nat.lt_of_lt_of_le F_amounts_b1.lt SA4)) nin0)) VS22 (((((F_FLEET_ordinal.ext E1).keep K4q (ninS (Nat.ne_of_lt (Nat.lt_of_lt_of_le F_FLEET_ordinal.lt (Nat.le_of_eq g1.symm))) nin0)).keep K10q (ninS (Nat.ne_of_lt (Nat.lt_of_lt_of_le (X_FLEET.ext E1).lt SA4)) nin0)).keep K16q (ninS (Nat.ne_of_lt (Nat.lt_of_lt_of_le (X_FLEET.ext E1).lt SA4)) nin0)).keep K22q (ninS (Nat.ne_of_lt (Nat.lt_of_lt_of_le (X_FLEET.ext E1).lt SA4)) nin0)) (((((X_FLEET.ext E1).keep K4q).keep K10q).keep K16q).keep K22q) GA4 rfl (Nat.le_of_ble_eq_true rfl) ⟨by decide, by decide⟩) hZ (hw _ (List.mem_of_getElem? (i := 21) rfl)) (hw _ (List.mem_of_getElem? (i := 2) rfl)) (by decide) (by decide)) q28a q28c (g := (mkF m 46 #[.val (.int p0), .val (.int p1), .val (.int p2), .val (.int p3), .val (.int p4), .val (.ref b1), .unset, .unset] [(.double (FP.i2d p3)), (.ref w_FLEET), (.ref b1)])) rfl (by rw [hml]; rfl) (Steps.refl _) (argsL := [(.ref w_FLEET), (.double (FP.i2d p3))]) (rest := []) (lenOf own_pd2 rfl) rfl (by show 2 * 0 + _ ≤ _; exact Nat.le_of_eq rfl) (hb hby at_46) (fun _ _ => ⟨rfl, e25, (by decide : 2 + 0 ≤ _), (by decide : 5 + 0 ≤ _)⟩)
  dsimp only [Pt.U, Pt.locs, Pt.cells, Pt.slots] at X28 l28 y28 z28 st28 hQ28
  subst l28 y28 z28
  obtain ⟨rfl, N28q, K28q, VS28⟩ := hQ28
  have N28 := Fr.app N22 N28q
  have KK28 : Keep h0 T28.heap [] := Keep.trans KK22 K28q (allS (Or.inr (Nat.le_trans (K1).1 SA4)) all0)
  have a29 : ∀ t, Steps p.tables e below (T28.setTop (mkF m 49 #[.val (.int p0), .val (.int p1), .val (.int p2), .val (.int p3), .val (.int p4), .val (.ref b1), .unset, .unset] [])) t → Steps p.tables e below (s₁.setTop (entryFrame m #[(.int p0), (.int p1), (.int p2), (.int p3), (.int p4)] maxLocals)) t := fun t k => a27 t (st28.trans k)
  have a30 : ∀ t, Steps p.tables e below (T28.setTop (mkF m 54 #[.val (.int p0), .val (.int p1), .val (.int p2), .val (.int p3), .val (.int p4), .val (.ref b1), .unset, .unset] [(.double (FP.i2d p4)), (.ref b1)])) t → Steps p.tables e below (s₁.setTop (entryFrame m #[(.int p0), (.int p1), (.int p2), (.int p3), (.int p4)] maxLocals)) t := by
    intro t k
    refine a29 t ?_
    show Steps p.tables e below (T28.setTop (mkF m 49 #[.val (.int p0), .val (.int p1), .val (.int p2), .val (.int p3), .val (.int p4), .val (.ref b1), .unset, .unset] [])) _
    refine XS.aload X28.here hx rfl (hb hby at_49) rfl rfl ?_
    show Steps p.tables e below (T28.setTop (mkF m 51 #[.val (.int p0), .val (.int p1), .val (.int p2), .val (.int p3), .val (.int p4), .val (.ref b1), .unset, .unset] [(.ref b1)])) _
    refine XS.iload X28.here hx rfl (hb hby at_51) rfl ?_
    show Steps p.tables e below (T28.setTop (mkF m 53 #[.val (.int p0), .val (.int p1), .val (.int p2), .val (.int p3), .val (.int p4), .val (.ref b1), .unset, .unset] [(.int p4), (.ref b1)])) _
    refine XS.i2dS X28.here hx rfl (hb hby at_53) rfl rfl ?_
    exact k
  obtain ⟨cq31, kq31, q31a, q31b, q31c⟩ := isOf hZ rfl (((((A1.keep K4q).keep K10q).keep K16q).keep K22q).keep K28q)
  obtain ⟨_, _, ⟨T31, L31, k31, n31⟩, -, X31, ⟨Lc31, hQ31, l31, y31, z31⟩, st31⟩ := X28.virtualBack hx (y := (⟨"com/example/tabuvia/tabuvia/engine/Excess", "exceeds", "(D)Z"⟩ : MethodName)) (z := (⟨"com/example/tabuvia/tabuvia/engine/Excess", "exceeds", "(D)Z"⟩ : MethodName)) hown (mvT hZ (hw _ (List.mem_of_getElem? (i := 37) rfl))) (mvT hZ (hw _ (List.mem_of_getElem? (i := 38) rfl))) (notFace_of_selects (args := #[]) (mvT hZ (hw _ (List.mem_of_getElem? (i := 40) rfl)))) (mvT hZ (hw _ (List.mem_of_getElem? (i := 40) rfl))) (mvT hZ (hw _ (List.mem_of_getElem? (i := 39) rfl))) (by decide) (backOf (W := 0) (rmE l Z a0 hw [] b1 (FP.i2d p4) arr4 ka4 (FP.i2d p0) (FP.i2d p1) (FP.i2d p2) (FP.i2d p3) T28.heap n0 (Nat.le_trans (Nat.le_trans (Nat.le_trans (Nat.le_trans (Nat.le_trans (Nat.le_trans Z0 E1.1) K4q.1) K10q.1) K16q.1) K22q.1) K28q.1) ((((FA4.keep K10q (ninS (Nat.ne_of_lt (Nat.lt_of_lt_of_le F_amounts_b1.lt SA4)) nin0)).keep K16q (ninS (Nat.ne_of_lt (Nat.lt_of_lt_of_le F_amounts_b1.lt SA4)) nin0)).keep K22q (ninS (Nat.ne_of_lt (Nat.lt_of_lt_of_le F_amounts_b1.lt SA4)) nin0)).keep K28q (ninS (Nat.ne_of_lt (Nat.lt_of_lt_of_le F_amounts_b1.lt SA4)) nin0)) VS28) hZ (hw _ (List.mem_of_getElem? (i := 41) rfl)) (hw _ (List.mem_of_getElem? (i := 2) rfl)) (by decide) (by decide)) q31a q31c (g := (mkF m 54 #[.val (.int p0), .val (.int p1), .val (.int p2), .val (.int p3), .val (.int p4), .val (.ref b1), .unset, .unset] [(.double (FP.i2d p4)), (.ref b1)])) rfl (by rw [hml]; rfl) (Steps.refl _) (argsL := [(.double (FP.i2d p4))]) (rest := []) (lenOf own_pd3 rfl) rfl (by show 2 * 0 + _ ≤ _; exact Nat.le_of_eq rfl) (hb hby at_54) (fun _ _ => ⟨rfl, rfl, (by decide : 2 + 0 ≤ _), (by decide : 5 + 0 ≤ _)⟩)
  dsimp only [Pt.U, Pt.locs, Pt.cells, Pt.slots] at X31 l31 y31 z31 st31 hQ31
  subst l31 y31 z31
  obtain ⟨rfl, N31q, e31q⟩ := hQ31
  have N31 := Fr.app N28 N31q
  have a32 : ∀ t, Steps p.tables e below (T31.setTop (mkF m 57 #[.val (.int p0), .val (.int p1), .val (.int p2), .val (.int p3), .val (.int p4), .val (.ref b1), .unset, .unset] [(.int (if FP.dcmp (FP.i2d p0) (FP.i2d p4) = some .gt ∨ FP.dcmp (FP.i2d p1) (FP.i2d p4) = some .gt ∨ FP.dcmp (FP.i2d p2) (FP.i2d p4) = some .gt ∨ FP.dcmp (FP.i2d p3) (FP.i2d p4) = some .gt then 1 else 0))])) t → Steps p.tables e below (s₁.setTop (entryFrame m #[(.int p0), (.int p1), (.int p2), (.int p3), (.int p4)] maxLocals)) t := fun t k => a30 t (st31.trans k)
  obtain ⟨got, h_got⟩ : ∃ z : Int32, z = (if FP.dcmp (FP.i2d p0) (FP.i2d p4) = some .gt ∨ FP.dcmp (FP.i2d p1) (FP.i2d p4) = some .gt ∨ FP.dcmp (FP.i2d p2) (FP.i2d p4) = some .gt ∨ FP.dcmp (FP.i2d p3) (FP.i2d p4) = some .gt then 1 else 0) := ⟨_, rfl⟩
  rw [← h_got] at a32
  have a33 : ∀ t, Steps p.tables e below (T31.setTop (mkF m 62 #[.val (.int p0), .val (.int p1), .val (.int p2), .val (.int p3), .val (.int p4), .val (.ref b1), .val (.int got), .unset] [(.int p4), (.int p0)])) t → Steps p.tables e below (s₁.setTop (entryFrame m #[(.int p0), (.int p1), (.int p2), (.int p3), (.int p4)] maxLocals)) t := by
    intro t k
    refine a32 t ?_
    show Steps p.tables e below (T31.setTop (mkF m 57 #[.val (.int p0), .val (.int p1), .val (.int p2), .val (.int p3), .val (.int p4), .val (.ref b1), .unset, .unset] [(.int got)])) _
    refine XS.istore X31.here hx rfl (hb hby at_57) rfl (l' := #[.val (.int p0), .val (.int p1), .val (.int p2), .val (.int p3), .val (.int p4), .val (.ref b1), .val (.int got), .unset]) rfl ?_
    show Steps p.tables e below (T31.setTop (mkF m 59 #[.val (.int p0), .val (.int p1), .val (.int p2), .val (.int p3), .val (.int p4), .val (.ref b1), .val (.int got), .unset] [])) _
    refine XS.iloadN X31.here hx rfl (hb hby at_59) rfl ?_
    show Steps p.tables e below (T31.setTop (mkF m 60 #[.val (.int p0), .val (.int p1), .val (.int p2), .val (.int p3), .val (.int p4), .val (.ref b1), .val (.int got), .unset] [(.int p0)])) _
    refine XS.iload X31.here hx rfl (hb hby at_60) rfl ?_
    exact k
  obtain ⟨ex, JE, a46⟩ : ∃ (ex : Int32), (((p4 < p0) ∧ ex = (1 : Int32)) ∨ ((¬ (p4 < p0)) ∧ (p4 < p1) ∧ ex = (1 : Int32)) ∨ ((¬ (p4 < p0)) ∧ (¬ (p4 < p1)) ∧ (p4 < p2) ∧ ex = (1 : Int32)) ∨ ((¬ (p4 < p0)) ∧ (¬ (p4 < p1)) ∧ (¬ (p4 < p2)) ∧ (p4 < p3) ∧ ex = (1 : Int32)) ∨ ((¬ (p4 < p0)) ∧ (¬ (p4 < p1)) ∧ (¬ (p4 < p2)) ∧ (¬ (p4 < p3)) ∧ ex = (0 : Int32))) ∧ ∀ t, Steps p.tables e below (T31.setTop (mkF m 88 #[.val (.int p0), .val (.int p1), .val (.int p2), .val (.int p3), .val (.int p4), .val (.ref b1), .val (.int got), .unset] [(.int ex)])) t → Steps p.tables e below (s₁.setTop (entryFrame m #[(.int p0), (.int p1), (.int p2), (.int p3), (.int p4)] maxLocals)) t := by
    by_cases hc62_34 : p4 < p0
    ·
      have a35 : ∀ t, Steps p.tables e below (T31.setTop (mkF m 88 #[.val (.int p0), .val (.int p1), .val (.int p2), .val (.int p3), .val (.int p4), .val (.ref b1), .val (.int got), .unset] [(.int (1 : Int32))])) t → Steps p.tables e below (s₁.setTop (entryFrame m #[(.int p0), (.int p1), (.int p2), (.int p3), (.int p4)] maxLocals)) t := by
        intro t k
        refine a33 t ?_
        show Steps p.tables e below (T31.setTop (mkF m 62 #[.val (.int p0), .val (.int p1), .val (.int p2), .val (.int p3), .val (.int p4), .val (.ref b1), .val (.int got), .unset] [(.int p4), (.int p0)])) _
        refine XS.icmpYes X31.here hx rfl (pc0 := 62) (pc' := 83) rfl (hb hby at_62) rfl (tlt hc62_34).2.2.1 (by decide) (by decide) ?_
        show Steps p.tables e below (T31.setTop (mkF m 83 #[.val (.int p0), .val (.int p1), .val (.int p2), .val (.int p3), .val (.int p4), .val (.ref b1), .val (.int got), .unset] [])) _
        refine XS.iconst X31.here hx rfl (hb hby at_83) ?_
        show Steps p.tables e below (T31.setTop (mkF m 84 #[.val (.int p0), .val (.int p1), .val (.int p2), .val (.int p3), .val (.int p4), .val (.ref b1), .val (.int got), .unset] [(.int (1 : Int32))])) _
        refine XS.goto X31.here hx rfl (pc0 := 84) (pc' := 88) rfl (hb hby at_84) (by decide) (by decide) ?_
        exact k
      exact ⟨(1 : Int32), Or.inl ⟨hc62_34, rfl⟩, a35⟩
    ·
      have a36 : ∀ t, Steps p.tables e below (T31.setTop (mkF m 68 #[.val (.int p0), .val (.int p1), .val (.int p2), .val (.int p3), .val (.int p4), .val (.ref b1), .val (.int got), .unset] [(.int p4), (.int p1)])) t → Steps p.tables e below (s₁.setTop (entryFrame m #[(.int p0), (.int p1), (.int p2), (.int p3), (.int p4)] maxLocals)) t := by
        intro t k
        refine a33 t ?_
        show Steps p.tables e below (T31.setTop (mkF m 62 #[.val (.int p0), .val (.int p1), .val (.int p2), .val (.int p3), .val (.int p4), .val (.ref b1), .val (.int got), .unset] [(.int p4), (.int p0)])) _
        refine XS.icmpNo X31.here hx rfl (hb hby at_62) rfl (flt hc62_34).2.2.1 ?_
        show Steps p.tables e below (T31.setTop (mkF m 65 #[.val (.int p0), .val (.int p1), .val (.int p2), .val (.int p3), .val (.int p4), .val (.ref b1), .val (.int got), .unset] [])) _
        refine XS.iloadN X31.here hx rfl (hb hby at_65) rfl ?_
        show Steps p.tables e below (T31.setTop (mkF m 66 #[.val (.int p0), .val (.int p1), .val (.int p2), .val (.int p3), .val (.int p4), .val (.ref b1), .val (.int got), .unset] [(.int p1)])) _
        refine XS.iload X31.here hx rfl (hb hby at_66) rfl ?_
        exact k
      by_cases hc68_37 : p4 < p1
      ·
        have a38 : ∀ t, Steps p.tables e below (T31.setTop (mkF m 88 #[.val (.int p0), .val (.int p1), .val (.int p2), .val (.int p3), .val (.int p4), .val (.ref b1), .val (.int got), .unset] [(.int (1 : Int32))])) t → Steps p.tables e below (s₁.setTop (entryFrame m #[(.int p0), (.int p1), (.int p2), (.int p3), (.int p4)] maxLocals)) t := by
          intro t k
          refine a36 t ?_
          show Steps p.tables e below (T31.setTop (mkF m 68 #[.val (.int p0), .val (.int p1), .val (.int p2), .val (.int p3), .val (.int p4), .val (.ref b1), .val (.int got), .unset] [(.int p4), (.int p1)])) _
          refine XS.icmpYes X31.here hx rfl (pc0 := 68) (pc' := 83) rfl (hb hby at_68) rfl (tlt hc68_37).2.2.1 (by decide) (by decide) ?_
          show Steps p.tables e below (T31.setTop (mkF m 83 #[.val (.int p0), .val (.int p1), .val (.int p2), .val (.int p3), .val (.int p4), .val (.ref b1), .val (.int got), .unset] [])) _
          refine XS.iconst X31.here hx rfl (hb hby at_83) ?_
          show Steps p.tables e below (T31.setTop (mkF m 84 #[.val (.int p0), .val (.int p1), .val (.int p2), .val (.int p3), .val (.int p4), .val (.ref b1), .val (.int got), .unset] [(.int (1 : Int32))])) _
          refine XS.goto X31.here hx rfl (pc0 := 84) (pc' := 88) rfl (hb hby at_84) (by decide) (by decide) ?_
          exact k
        exact ⟨(1 : Int32), Or.inr (Or.inl ⟨hc62_34, hc68_37, rfl⟩), a38⟩
      ·
        have a39 : ∀ t, Steps p.tables e below (T31.setTop (mkF m 74 #[.val (.int p0), .val (.int p1), .val (.int p2), .val (.int p3), .val (.int p4), .val (.ref b1), .val (.int got), .unset] [(.int p4), (.int p2)])) t → Steps p.tables e below (s₁.setTop (entryFrame m #[(.int p0), (.int p1), (.int p2), (.int p3), (.int p4)] maxLocals)) t := by
          intro t k
          refine a36 t ?_
          show Steps p.tables e below (T31.setTop (mkF m 68 #[.val (.int p0), .val (.int p1), .val (.int p2), .val (.int p3), .val (.int p4), .val (.ref b1), .val (.int got), .unset] [(.int p4), (.int p1)])) _
          refine XS.icmpNo X31.here hx rfl (hb hby at_68) rfl (flt hc68_37).2.2.1 ?_
          show Steps p.tables e below (T31.setTop (mkF m 71 #[.val (.int p0), .val (.int p1), .val (.int p2), .val (.int p3), .val (.int p4), .val (.ref b1), .val (.int got), .unset] [])) _
          refine XS.iloadN X31.here hx rfl (hb hby at_71) rfl ?_
          show Steps p.tables e below (T31.setTop (mkF m 72 #[.val (.int p0), .val (.int p1), .val (.int p2), .val (.int p3), .val (.int p4), .val (.ref b1), .val (.int got), .unset] [(.int p2)])) _
          refine XS.iload X31.here hx rfl (hb hby at_72) rfl ?_
          exact k
        by_cases hc74_40 : p4 < p2
        ·
          have a41 : ∀ t, Steps p.tables e below (T31.setTop (mkF m 88 #[.val (.int p0), .val (.int p1), .val (.int p2), .val (.int p3), .val (.int p4), .val (.ref b1), .val (.int got), .unset] [(.int (1 : Int32))])) t → Steps p.tables e below (s₁.setTop (entryFrame m #[(.int p0), (.int p1), (.int p2), (.int p3), (.int p4)] maxLocals)) t := by
            intro t k
            refine a39 t ?_
            show Steps p.tables e below (T31.setTop (mkF m 74 #[.val (.int p0), .val (.int p1), .val (.int p2), .val (.int p3), .val (.int p4), .val (.ref b1), .val (.int got), .unset] [(.int p4), (.int p2)])) _
            refine XS.icmpYes X31.here hx rfl (pc0 := 74) (pc' := 83) rfl (hb hby at_74) rfl (tlt hc74_40).2.2.1 (by decide) (by decide) ?_
            show Steps p.tables e below (T31.setTop (mkF m 83 #[.val (.int p0), .val (.int p1), .val (.int p2), .val (.int p3), .val (.int p4), .val (.ref b1), .val (.int got), .unset] [])) _
            refine XS.iconst X31.here hx rfl (hb hby at_83) ?_
            show Steps p.tables e below (T31.setTop (mkF m 84 #[.val (.int p0), .val (.int p1), .val (.int p2), .val (.int p3), .val (.int p4), .val (.ref b1), .val (.int got), .unset] [(.int (1 : Int32))])) _
            refine XS.goto X31.here hx rfl (pc0 := 84) (pc' := 88) rfl (hb hby at_84) (by decide) (by decide) ?_
            exact k
          exact ⟨(1 : Int32), Or.inr (Or.inr (Or.inl ⟨hc62_34, hc68_37, hc74_40, rfl⟩)), a41⟩
        ·
          have a42 : ∀ t, Steps p.tables e below (T31.setTop (mkF m 80 #[.val (.int p0), .val (.int p1), .val (.int p2), .val (.int p3), .val (.int p4), .val (.ref b1), .val (.int got), .unset] [(.int p4), (.int p3)])) t → Steps p.tables e below (s₁.setTop (entryFrame m #[(.int p0), (.int p1), (.int p2), (.int p3), (.int p4)] maxLocals)) t := by
            intro t k
            refine a39 t ?_
            show Steps p.tables e below (T31.setTop (mkF m 74 #[.val (.int p0), .val (.int p1), .val (.int p2), .val (.int p3), .val (.int p4), .val (.ref b1), .val (.int got), .unset] [(.int p4), (.int p2)])) _
            refine XS.icmpNo X31.here hx rfl (hb hby at_74) rfl (flt hc74_40).2.2.1 ?_
            show Steps p.tables e below (T31.setTop (mkF m 77 #[.val (.int p0), .val (.int p1), .val (.int p2), .val (.int p3), .val (.int p4), .val (.ref b1), .val (.int got), .unset] [])) _
            refine XS.iloadN X31.here hx rfl (hb hby at_77) rfl ?_
            show Steps p.tables e below (T31.setTop (mkF m 78 #[.val (.int p0), .val (.int p1), .val (.int p2), .val (.int p3), .val (.int p4), .val (.ref b1), .val (.int got), .unset] [(.int p3)])) _
            refine XS.iload X31.here hx rfl (hb hby at_78) rfl ?_
            exact k
          by_cases hc80_43 : p4 < p3
          ·
            have a44 : ∀ t, Steps p.tables e below (T31.setTop (mkF m 88 #[.val (.int p0), .val (.int p1), .val (.int p2), .val (.int p3), .val (.int p4), .val (.ref b1), .val (.int got), .unset] [(.int (1 : Int32))])) t → Steps p.tables e below (s₁.setTop (entryFrame m #[(.int p0), (.int p1), (.int p2), (.int p3), (.int p4)] maxLocals)) t := by
              intro t k
              refine a42 t ?_
              show Steps p.tables e below (T31.setTop (mkF m 80 #[.val (.int p0), .val (.int p1), .val (.int p2), .val (.int p3), .val (.int p4), .val (.ref b1), .val (.int got), .unset] [(.int p4), (.int p3)])) _
              refine XS.icmpNo X31.here hx rfl (hb hby at_80) rfl (tlt hc80_43).2.2.2 ?_
              show Steps p.tables e below (T31.setTop (mkF m 83 #[.val (.int p0), .val (.int p1), .val (.int p2), .val (.int p3), .val (.int p4), .val (.ref b1), .val (.int got), .unset] [])) _
              refine XS.iconst X31.here hx rfl (hb hby at_83) ?_
              show Steps p.tables e below (T31.setTop (mkF m 84 #[.val (.int p0), .val (.int p1), .val (.int p2), .val (.int p3), .val (.int p4), .val (.ref b1), .val (.int got), .unset] [(.int (1 : Int32))])) _
              refine XS.goto X31.here hx rfl (pc0 := 84) (pc' := 88) rfl (hb hby at_84) (by decide) (by decide) ?_
              exact k
            exact ⟨(1 : Int32), Or.inr (Or.inr (Or.inr (Or.inl ⟨hc62_34, hc68_37, hc74_40, hc80_43, rfl⟩))), a44⟩
          ·
            have a45 : ∀ t, Steps p.tables e below (T31.setTop (mkF m 88 #[.val (.int p0), .val (.int p1), .val (.int p2), .val (.int p3), .val (.int p4), .val (.ref b1), .val (.int got), .unset] [(.int (0 : Int32))])) t → Steps p.tables e below (s₁.setTop (entryFrame m #[(.int p0), (.int p1), (.int p2), (.int p3), (.int p4)] maxLocals)) t := by
              intro t k
              refine a42 t ?_
              show Steps p.tables e below (T31.setTop (mkF m 80 #[.val (.int p0), .val (.int p1), .val (.int p2), .val (.int p3), .val (.int p4), .val (.ref b1), .val (.int got), .unset] [(.int p4), (.int p3)])) _
              refine XS.icmpYes X31.here hx rfl (pc0 := 80) (pc' := 87) rfl (hb hby at_80) rfl (flt hc80_43).2.2.2 (by decide) (by decide) ?_
              show Steps p.tables e below (T31.setTop (mkF m 87 #[.val (.int p0), .val (.int p1), .val (.int p2), .val (.int p3), .val (.int p4), .val (.ref b1), .val (.int got), .unset] [])) _
              refine XS.iconst X31.here hx rfl (hb hby at_87) ?_
              exact k
            exact ⟨(0 : Int32), Or.inr (Or.inr (Or.inr (Or.inr (⟨hc62_34, hc68_37, hc74_40, hc80_43, rfl⟩)))), a45⟩
  have hfin : got = ex := by
    rw [h_got]; simp only [own_gt]
    rcases JE with ⟨r1, rfl⟩ | ⟨r1, r2, rfl⟩ | ⟨r1, r2, r3, rfl⟩ | ⟨r1, r2, r3, r4, rfl⟩ | ⟨r1, r2, r3, r4, rfl⟩ <;> simp_all
  have a47 : ∀ t, Steps p.tables e below (T31.setTop (mkF m 102 #[.val (.int p0), .val (.int p1), .val (.int p2), .val (.int p3), .val (.int p4), .val (.ref b1), .val (.int got), .val (.int ex)] [(.int (1 : Int32))])) t → Steps p.tables e below (s₁.setTop (entryFrame m #[(.int p0), (.int p1), (.int p2), (.int p3), (.int p4)] maxLocals)) t := by
    intro t k
    refine a46 t ?_
    show Steps p.tables e below (T31.setTop (mkF m 88 #[.val (.int p0), .val (.int p1), .val (.int p2), .val (.int p3), .val (.int p4), .val (.ref b1), .val (.int got), .unset] [(.int ex)])) _
    refine XS.istore X31.here hx rfl (hb hby at_88) rfl (l' := #[.val (.int p0), .val (.int p1), .val (.int p2), .val (.int p3), .val (.int p4), .val (.ref b1), .val (.int got), .val (.int ex)]) rfl ?_
    show Steps p.tables e below (T31.setTop (mkF m 90 #[.val (.int p0), .val (.int p1), .val (.int p2), .val (.int p3), .val (.int p4), .val (.ref b1), .val (.int got), .val (.int ex)] [])) _
    refine XS.iload X31.here hx rfl (hb hby at_90) rfl ?_
    show Steps p.tables e below (T31.setTop (mkF m 92 #[.val (.int p0), .val (.int p1), .val (.int p2), .val (.int p3), .val (.int p4), .val (.ref b1), .val (.int got), .val (.int ex)] [(.int got)])) _
    refine XS.iload X31.here hx rfl (hb hby at_92) rfl ?_
    show Steps p.tables e below (T31.setTop (mkF m 94 #[.val (.int p0), .val (.int p1), .val (.int p2), .val (.int p3), .val (.int p4), .val (.ref b1), .val (.int got), .val (.int ex)] [(.int ex), (.int got)])) _
    refine XS.icmpNo X31.here hx rfl (hb hby at_94) rfl (teq hfin).2 ?_
    show Steps p.tables e below (T31.setTop (mkF m 97 #[.val (.int p0), .val (.int p1), .val (.int p2), .val (.int p3), .val (.int p4), .val (.ref b1), .val (.int got), .val (.int ex)] [])) _
    refine XS.iconst X31.here hx rfl (hb hby at_97) ?_
    show Steps p.tables e below (T31.setTop (mkF m 98 #[.val (.int p0), .val (.int p1), .val (.int p2), .val (.int p3), .val (.int p4), .val (.ref b1), .val (.int got), .val (.int ex)] [(.int (1 : Int32))])) _
    refine XS.goto X31.here hx rfl (pc0 := 98) (pc' := 102) rfl (hb hby at_98) (by decide) (by decide) ?_
    exact k
  obtain ⟨fs, hr, hrun, hended, hW, hsame⟩ := X31.leave (v := some (.int (1 : Int32))) (fun h => by rw [Bd.returns] at h; cases h)
  refine ⟨_, _, a47 _ ?_, hrun, hended, _, _, rfl, ?_, ⟨_, rfl⟩, hW, hsame.mono (by decide) (by decide)⟩
  · show Steps p.tables e below (T31.setTop (mkF m 102 #[.val (.int p0), .val (.int p1), .val (.int p2), .val (.int p3), .val (.int p4), .val (.ref b1), .val (.int got), .val (.int ex)] [(.int (1 : Int32))])) _
    exact retN X31 hx (t := .boolean) Bd.returns (by simp) (hb hby at_102) hr
  · show Q0 Z p0 p1 p2 p3 p4 w_CAPACITY w_DURATION w_TIME_WINDOWS w_FLEET h0 n0 _ T31.heap _
    rw [e31q]
    exact ⟨rfl, N31⟩
set_option maxRecDepth 65536 in
set_option maxHeartbeats 40000000 in
theorem comes_1 {Post : Tables → Env → Array Value → State → Outcome → State → Prop} (hpost : ∀ tb e args s v u, (limb_1_1.after args s (.returned v) u = true ∧ limb_1_2.after args s (.returned v) u = true ∧ True) → FrameEnd s (.returned v) u (Jvm.fieldLocs frame_1_writes args s ++ Jvm.arrayLocs frame_1_arrays args s ++ Jvm.staticLocs frame_1_statics s) 16 128 → Post tb e args s (.returned v) u) :
    ArmFor flags0 classFile x code maxLocals ret World_1 tables_1 room_1 Calls_1 rest_1 Pre_1 Post := by
  intro l hfl _ _ p e ha hc hk s m args below hf hA hF happ hP
  obtain ⟨hcalls, hrest, hpre⟩ := hP
  obtain ⟨-, -, -, hnamed, -, -, -, hat⟩ := (Spec.applies_iff hf).mp happ
  obtain ⟨hg, hn⟩ := and_e (Cond.before_iff.mp (show (Jvm.Cond.and given_1 narrow_1).before args s = true from hpre))
  obtain ⟨g1, g2⟩ := and_e hg
  obtain ⟨g3, g4⟩ := and_e g2
  obtain ⟨g5, g6⟩ := and_e g4
  obtain ⟨g7, g8⟩ := and_e g6
  obtain ⟨g9, g10⟩ := and_e g8
  obtain ⟨g11, g12⟩ := and_e hn
  obtain ⟨g13, g14⟩ := and_e g12
  obtain ⟨g15, g16⟩ := and_e g14
  obtain ⟨g17, g18⟩ := and_e g16
  obtain ⟨g19, g20⟩ := and_e g18
  obtain ⟨g21, g22⟩ := and_e g20
  obtain ⟨g23, g24⟩ := and_e g22
  obtain ⟨g25, g26⟩ := and_e g24
  obtain ⟨w0, w1, w2, w3, w4, rfl⟩ : ∃ w0 w1 w2 w3 w4 : Value, args = #[w0, w1, w2, w3, w4] := by
    have hs : args.size = 5 := by simpa [Cond.value, given_1] using g1
    obtain ⟨L⟩ := args
    match L, hs with
    | [w0, w1, w2, w3, w4], _ => exact ⟨w0, w1, w2, w3, w4, rfl⟩
  have hw := fun d (hd : d ∈ tables_1) => atoms_spec (ws := Jvm.Cond.code x code maxLocals ret :: tables_1) hat d (List.mem_cons_of_mem _ hd)
  have hfit : Fit s := fun {y c} hc i hi => by
    obtain ⟨ha, rfl⟩ := Array.getElem?_eq_some_iff.mp hc
    have q := List.all_eq_true.mp ((Array.all_eq_true_iff_forall_mem.mp hF) _ (Array.getElem_mem ha)) i (List.mem_range.mpr hi)
    simpa [Array.getElem?_eq_getElem hi] using q
  obtain ⟨i0, ei0⟩ := is_v g3
  obtain rfl : w0 = (.int i0) := Option.some.inj ei0
  obtain ⟨i1, ei1⟩ := is_v g5
  obtain rfl : w1 = (.int i1) := Option.some.inj ei1
  obtain ⟨i2, ei2⟩ := is_v g7
  obtain rfl : w2 = (.int i2) := Option.some.inj ei2
  obtain ⟨i3, ei3⟩ := is_v g9
  obtain rfl : w3 = (.int i3) := Option.some.inj ei3
  obtain ⟨i4, ei4⟩ := is_v g10
  obtain rfl : w4 = (.int i4) := Option.some.inj ei4
  have S_RULES := Sta.start (eqS_int g11) (Or.inr ⟨(hw _ (List.mem_of_getElem? (i := 2) rfl)), (hw _ (List.mem_of_getElem? (i := 10) rfl))⟩)
  obtain ⟨w_CAPACITY, ev_CAPACITY⟩ := exa_v g13
  have S_CAPACITY := Sta.start ev_CAPACITY (Or.inr ⟨(hw _ (List.mem_of_getElem? (i := 15) rfl)), (hw _ (List.mem_of_getElem? (i := 16) rfl))⟩)
  have X_CAPACITY := Exa.start ev_CAPACITY g13
  have F_CAPACITY_ordinal := eqF_int ev_CAPACITY g15
  obtain ⟨w_DURATION, ev_DURATION⟩ := exa_v g17
  have S_DURATION := Sta.start ev_DURATION (Or.inr ⟨(hw _ (List.mem_of_getElem? (i := 15) rfl)), (hw _ (List.mem_of_getElem? (i := 32) rfl))⟩)
  have X_DURATION := Exa.start ev_DURATION g17
  have F_DURATION_ordinal := eqF_int ev_DURATION g19
  obtain ⟨w_TIME_WINDOWS, ev_TIME_WINDOWS⟩ := exa_v g21
  have S_TIME_WINDOWS := Sta.start ev_TIME_WINDOWS (Or.inr ⟨(hw _ (List.mem_of_getElem? (i := 15) rfl)), (hw _ (List.mem_of_getElem? (i := 34) rfl))⟩)
  have X_TIME_WINDOWS := Exa.start ev_TIME_WINDOWS g21
  have F_TIME_WINDOWS_ordinal := eqF_int ev_TIME_WINDOWS g23
  obtain ⟨w_FLEET, ev_FLEET⟩ := exa_v g25
  have S_FLEET := Sta.start ev_FLEET (Or.inr ⟨(hw _ (List.mem_of_getElem? (i := 15) rfl)), (hw _ (List.mem_of_getElem? (i := 36) rfl))⟩)
  have X_FLEET := Exa.start ev_FLEET g25
  have F_FLEET_ordinal := eqF_int ev_FLEET g26
  obtain ⟨n, o, h1, h2, h3, _, L, rfl, ⟨rfl, N⟩, hq⟩ := rm0 l s _ hw tables_1 i0 i1 i2 i3 i4 w_CAPACITY w_DURATION w_TIME_WINDOWS w_FLEET s.heap s.heap.size (Nat.le_refl _) S_RULES S_CAPACITY X_CAPACITY F_CAPACITY_ordinal S_DURATION X_DURATION F_DURATION_ordinal S_TIME_WINDOWS X_TIME_WINDOWS F_TIME_WINDOWS_ordinal S_FLEET X_FLEET F_FLEET_ordinal p e ha hc hk s m _ below hf ((Spec.applies_iff_loose hf).mp happ).1 ⟨rfl, State.Warmed39.refl s, rfl⟩ trivial
  refine ⟨n, _, h1, h2, h3, hpost _ _ _ _ _ _ ⟨Cond.after_iff.mpr rfl, Cond.after_iff.mpr (eq_i res_at (Term.int_eval (1)) rfl), trivial⟩ ⟨hq.1, hq.2.1, (hq.2.2.sift fun y hy => Or.inr (N y hy)).mono (by decide) (by decide)⟩⟩
theorem main_1_1 : Claimed_1_1 := comes_1 fun _ _ _ _ _ _ h hF => ⟨h.1, hF⟩
theorem main_1_2 : Claimed_1_2 := comes_1 fun _ _ _ _ _ _ h hF => ⟨h.2.1, hF⟩
end Jvm.Pilot.@@N@@
namespace Jvm.Pilot.@@N@@
open Jvm Jvm.ClassFile Sem Op Lib Jvm.Free Jvm.Stand Jvm.Pilot.@@N@@.Jvm.D
/-! MADE BY PROGRAM (witnessworld.py) out of the Statement's table words and the real class files: 15 classes; the members and pool entries that the words name. The judged class is class 1, her method 1. -/
namespace start1
open Jvm.ClassFile
def u (s : String) : CpInfo := .utf8 (stringToUtf16 s)
/-- a pool by its gaps: so many unusable entries, then the entry; so many at the end -/
def gap : Nat → List CpInfo → List CpInfo
  | 0, r => r
  | n + 1, r => .unusable :: gap n r
def poolList (es : List (Nat × CpInfo)) (last : Nat) : List CpInfo := es.foldr (fun e r => gap e.1 (e.2 :: r)) (gap last [])
def pool (es : List (Nat × CpInfo)) (last : Nat) : Array CpInfo := ⟨poolList es last⟩
def fileOf (pool : Array CpInfo) (this : Nat) (attrs : Array Attribute := #[]) (ms : Array MethodInfo := #[]) (fl : Nat := 33) (sup : Nat := 0) (ifs : Array Nat := #[]) (fds : Array FieldInfo := #[]) : ClassFile where
  minorVersion := 0
  majorVersion := 65
  constantPool := pool
  accessFlags := fl
  thisClass := this
  superClass := sup
  interfaces := ifs
  fields := fds
  methods := ms
  attributes := attrs
def plain (name : String) (sup : Option ClassId) : Class where
  name := name
  kind := .ordinary
  loader := none
  accessFlags := 33
  super := sup
  interfaces := #[]
  cf := none
  fields := #[]
  methods := #[]
  instanceTypes := #[]
  staticTypes := #[]
  resolved := #[]
  callSites := []
  init := .initialized
  statics := none
  mirror := none

def pool0 : Array CpInfo := pool [(5, u "<init>"), (0, u "()V"), (1, .class_ 10), (1, u "java/lang/Object")] 113

def k0c0 : Code := { maxStack := 0, maxLocals := 1, code := object_method_1_code, exceptionTable := #[], attributes := #[] }
def k0m0 : Method := { name := "<init>", desc := "()V", sig := { parameters := [], returnType := none }, accessFlags := 1, code := some k0c0 }
/-- java/lang/Object -/
def k0 : Class := { plain "java/lang/Object" none with
  accessFlags := 33
  interfaces := #[]
  cf := some (fileOf pool0 8 #[] #[{ accessFlags := 1, nameIndex := 5, descriptorIndex := 6, attributes := #[] }] 33 0 #[] #[])
  fields := #[]
  methods := #[k0m0]
  instanceTypes := #[]
  staticTypes := #[]
  resolved := Array.replicate 124 none
  statics := none }

def pool1 : Array CpInfo := pool [(2, .class_ 4), (0, .nameAndType 5 6), (0, u "java/lang/Object"), (0, u "<init>"), (0, u "()V"), (0, .class_ 8), (0, u "com/example/tabuvia/tabuvia/engine/Excess"), (0, .methodref 7 3), (0, .fieldref 11 12), (0, .class_ 13), (0, .nameAndType 14 15), (0, u "com/example/tabuvia/tabuvia/engine/Rule"), (0, u "CAPACITY"), (0, u "Lcom/example/tabuvia/tabuvia/engine/Rule;"), (0, .methodref 7 17), (0, .nameAndType 18 19), (0, u "set"), (0, u "(Lcom/example/tabuvia/tabuvia/engine/Rule;D)V"), (0, .fieldref 11 21), (0, .nameAndType 22 15), (0, u "DURATION"), (0, .fieldref 11 24), (0, .nameAndType 25 15), (0, u "TIME_WINDOWS"), (0, .fieldref 11 27), (0, .nameAndType 28 15), (0, u "FLEET"), (0, .methodref 7 30), (0, .nameAndType 31 32), (0, u "exceeds"), (0, u "(D)Z"), (0, .class_ 34), (0, u "com/example/tabuvia/tabuvia/engine/ExcessExceedsPinLaw"), (2, u "law"), (0, u "(IIIII)Z")] 3

def k1m0 : Method := { name := "<init>", desc := "()V", sig := { parameters := [], returnType := none }, accessFlags := 1, code := none }
def k1c1 : Code := { maxStack := 4, maxLocals := 8, code := code, exceptionTable := #[], attributes := #[] }
def k1m1 : Method := { name := "law", desc := "(IIIII)Z", sig := { parameters := [.int, .int, .int, .int, .int], returnType := some .boolean }, accessFlags := 9, code := some k1c1 }
/-- com/example/tabuvia/tabuvia/engine/ExcessExceedsPinLaw -/
def k1 : Class := { plain "com/example/tabuvia/tabuvia/engine/ExcessExceedsPinLaw" (some 0) with
  accessFlags := 49
  interfaces := #[]
  cf := some (fileOf pool1 33 #[] #[{ accessFlags := 1, nameIndex := 5, descriptorIndex := 6, attributes := #[] }, { accessFlags := 9, nameIndex := 37, descriptorIndex := 38, attributes := #[] }] 49 2 #[] #[])
  fields := #[]
  methods := #[k1m0, k1m1]
  instanceTypes := #[]
  staticTypes := #[]
  resolved := Array.replicate 42 none
  statics := none }

def pool2 : Array CpInfo := pool [(1, .methodref 2 3), (0, .class_ 4), (0, .nameAndType 5 6), (0, u "java/lang/Object"), (0, u "<init>"), (0, u "()V"), (0, .fieldref 8 9), (0, .class_ 10), (0, .nameAndType 11 12), (0, u "com/example/tabuvia/tabuvia/engine/Excess"), (0, u "RULES"), (0, u "I"), (0, .fieldref 8 14), (0, .nameAndType 15 16), (0, u "amounts"), (0, u "[D"), (0, .methodref 18 19), (0, .class_ 20), (0, .nameAndType 21 22), (0, u "com/example/tabuvia/tabuvia/engine/Rule"), (0, u "ordinal"), (0, u "()I"), (14, u "set"), (0, u "(Lcom/example/tabuvia/tabuvia/engine/Rule;D)V"), (12, u "exceeds"), (0, u "(D)Z")] 4

def k2c0 : Code := { maxStack := 2, maxLocals := 1, code := prog_2_method_1_code, exceptionTable := #[], attributes := #[] }
def k2m0 : Method := { name := "<init>", desc := "()V", sig := { parameters := [], returnType := none }, accessFlags := 0, code := some k2c0 }
def k2c1 : Code := { maxStack := 4, maxLocals := 4, code := prog_2_method_3_code, exceptionTable := #[], attributes := #[] }
def k2m1 : Method := { name := "set", desc := "(Lcom/example/tabuvia/tabuvia/engine/Rule;D)V", sig := { parameters := [(.object "com/example/tabuvia/tabuvia/engine/Rule"), .double], returnType := none }, accessFlags := 0, code := some k2c1 }
def k2c2 : Code := { maxStack := 4, maxLocals := 8, code := prog_2_method_13_code, exceptionTable := #[], attributes := #[] }
def k2m2 : Method := { name := "exceeds", desc := "(D)Z", sig := { parameters := [.double], returnType := some .boolean }, accessFlags := 0, code := some k2c2 }
/-- com/example/tabuvia/tabuvia/engine/Excess -/
def k2 : Class := { plain "com/example/tabuvia/tabuvia/engine/Excess" (some 0) with
  accessFlags := 48
  interfaces := #[]
  cf := some (fileOf pool2 8 #[] #[{ accessFlags := 0, nameIndex := 5, descriptorIndex := 6, attributes := #[] }, { accessFlags := 0, nameIndex := 37, descriptorIndex := 38, attributes := #[] }, { accessFlags := 0, nameIndex := 51, descriptorIndex := 52, attributes := #[] }] 48 2 #[] #[{ accessFlags := 26, nameIndex := 11, descriptorIndex := 12, attributes := #[] }, { accessFlags := 18, nameIndex := 15, descriptorIndex := 16, attributes := #[] }])
  fields := #[{ name := "RULES", type := .int, accessFlags := 26, slot := 0, constantValue := 0 }, { name := "amounts", type := (.array .double), accessFlags := 18, slot := 0, constantValue := 0 }]
  methods := #[k2m0, k2m1, k2m2]
  instanceTypes := #[(.array .double)]
  staticTypes := #[.int]
  resolved := Array.replicate 57 none
  statics := some 0 }

def pool3 : Array CpInfo := pool [(1, .class_ 2), (0, u "java/lang/constant/Constable"), (0, .class_ 4), (0, u "java/lang/Object")] 6

/-- java/lang/constant/Constable -/
def k3 : Class := { plain "java/lang/constant/Constable" (some 0) with
  accessFlags := 1537
  interfaces := #[]
  cf := some (fileOf pool3 1 #[] #[] 1537 3 #[] #[])
  fields := #[]
  methods := #[]
  instanceTypes := #[]
  staticTypes := #[]
  resolved := Array.replicate 11 none
  statics := none }

def pool4 : Array CpInfo := pool [(1, .class_ 2), (0, u "java/lang/Comparable"), (0, .class_ 4), (0, u "java/lang/Object")] 7

/-- java/lang/Comparable -/
def k4 : Class := { plain "java/lang/Comparable" (some 0) with
  accessFlags := 1537
  interfaces := #[]
  cf := some (fileOf pool4 1 #[] #[] 1537 3 #[] #[])
  fields := #[]
  methods := #[]
  instanceTypes := #[]
  staticTypes := #[]
  resolved := Array.replicate 12 none
  statics := none }

def pool5 : Array CpInfo := pool [(1, .class_ 2), (0, u "java/io/Serializable"), (0, .class_ 4), (0, u "java/lang/Object")] 2

/-- java/io/Serializable -/
def k5 : Class := { plain "java/io/Serializable" (some 0) with
  accessFlags := 1537
  interfaces := #[]
  cf := some (fileOf pool5 1 #[] #[] 1537 3 #[] #[])
  fields := #[]
  methods := #[]
  instanceTypes := #[]
  staticTypes := #[]
  resolved := Array.replicate 7 none
  statics := none }

def pool6 : Array CpInfo := pool [(2, .class_ 4), (1, u "java/lang/Enum"), (0, u "name"), (0, u "Ljava/lang/String;"), (0, .fieldref 2 8), (0, .nameAndType 9 10), (0, u "ordinal"), (0, u "I"), (1, .class_ 14), (1, u "java/lang/Object"), (4, u "hash"), (86, .class_ 108), (1, u "java/lang/Enum$EnumDesc"), (2, .class_ 112), (0, u "java/lang/constant/Constable"), (0, .class_ 114), (0, u "java/lang/Comparable"), (0, .class_ 116), (0, u "java/io/Serializable"), (9, u "()I")] 77

def k6c0 : Code := { maxStack := 1, maxLocals := 1, code := jdk_37_method_2_code, exceptionTable := #[], attributes := #[] }
def k6m0 : Method := { name := "ordinal", desc := "()I", sig := { parameters := [], returnType := some .int }, accessFlags := 17, code := some k6c0 }
/-- java/lang/Enum -/
def k6 : Class := { plain "java/lang/Enum" (some 0) with
  accessFlags := 1057
  interfaces := #[3, 4, 5]
  cf := some (fileOf pool6 2 #[.nestMembers #[106]] #[{ accessFlags := 17, nameIndex := 9, descriptorIndex := 126, attributes := #[] }] 1057 12 #[111, 113, 115] #[{ accessFlags := 18, nameIndex := 5, descriptorIndex := 6, attributes := #[] }, { accessFlags := 18, nameIndex := 9, descriptorIndex := 10, attributes := #[] }, { accessFlags := 2, nameIndex := 19, descriptorIndex := 10, attributes := #[] }])
  fields := #[{ name := "name", type := (.object "java/lang/String"), accessFlags := 18, slot := 0, constantValue := 0 }, { name := "ordinal", type := .int, accessFlags := 18, slot := 1, constantValue := 0 }, { name := "hash", type := .int, accessFlags := 2, slot := 2, constantValue := 0 }]
  methods := #[k6m0]
  instanceTypes := #[(.object "java/lang/String"), .int, .int]
  staticTypes := #[]
  resolved := Array.replicate 204 none
  statics := none }

def pool7 : Array CpInfo := pool [(1, .class_ 2), (0, u "com/example/tabuvia/tabuvia/engine/Rule"), (2, u "CAPACITY"), (0, u "Lcom/example/tabuvia/tabuvia/engine/Rule;"), (2, u "DURATION"), (2, u "TIME_WINDOWS"), (2, u "FLEET"), (2, u "$VALUES"), (0, u "[Lcom/example/tabuvia/tabuvia/engine/Rule;"), (6, .class_ 28), (1, u "java/lang/Enum"), (20, u "ALL")] 10

/-- com/example/tabuvia/tabuvia/engine/Rule -/
def k7 : Class := { plain "com/example/tabuvia/tabuvia/engine/Rule" (some 6) with
  accessFlags := 16432
  interfaces := #[]
  cf := some (fileOf pool7 1 #[] #[] 16432 26 #[] #[{ accessFlags := 16409, nameIndex := 5, descriptorIndex := 6, attributes := #[] }, { accessFlags := 16409, nameIndex := 9, descriptorIndex := 6, attributes := #[] }, { accessFlags := 16409, nameIndex := 12, descriptorIndex := 6, attributes := #[] }, { accessFlags := 16409, nameIndex := 15, descriptorIndex := 6, attributes := #[] }, { accessFlags := 24, nameIndex := 49, descriptorIndex := 19, attributes := #[] }, { accessFlags := 4122, nameIndex := 18, descriptorIndex := 19, attributes := #[] }])
  fields := #[{ name := "CAPACITY", type := (.object "com/example/tabuvia/tabuvia/engine/Rule"), accessFlags := 16409, slot := 0, constantValue := 0 }, { name := "DURATION", type := (.object "com/example/tabuvia/tabuvia/engine/Rule"), accessFlags := 16409, slot := 1, constantValue := 0 }, { name := "TIME_WINDOWS", type := (.object "com/example/tabuvia/tabuvia/engine/Rule"), accessFlags := 16409, slot := 2, constantValue := 0 }, { name := "FLEET", type := (.object "com/example/tabuvia/tabuvia/engine/Rule"), accessFlags := 16409, slot := 3, constantValue := 0 }, { name := "ALL", type := (.array (.object "com/example/tabuvia/tabuvia/engine/Rule")), accessFlags := 24, slot := 4, constantValue := 0 }, { name := "$VALUES", type := (.array (.object "com/example/tabuvia/tabuvia/engine/Rule")), accessFlags := 4122, slot := 5, constantValue := 0 }]
  methods := #[]
  instanceTypes := #[(.object "java/lang/String"), .int, .int]
  staticTypes := #[(.object "com/example/tabuvia/tabuvia/engine/Rule"), (.object "com/example/tabuvia/tabuvia/engine/Rule"), (.object "com/example/tabuvia/tabuvia/engine/Rule"), (.object "com/example/tabuvia/tabuvia/engine/Rule"), (.array (.object "com/example/tabuvia/tabuvia/engine/Rule")), (.array (.object "com/example/tabuvia/tabuvia/engine/Rule"))]
  resolved := Array.replicate 60 none
  statics := some 1 }

def pool8 : Array CpInfo := pool [(1, u "java/lang/Cloneable"), (0, .class_ 1), (0, u "java/lang/Object"), (0, .class_ 3)] 3

/-- java/lang/Cloneable -/
def k8 : Class := { plain "java/lang/Cloneable" (some 0) with
  accessFlags := 1537
  interfaces := #[]
  cf := some (fileOf pool8 2 #[] #[] 1537 4 #[] #[])
  fields := #[]
  methods := #[]
  instanceTypes := #[]
  staticTypes := #[]
  resolved := Array.replicate 8 none
  statics := none }

/-- the primitive byte -/
def k9 : Class := { plain "byte" none with kind := .primitive 'B', accessFlags := 0x411 }
/-- [B -/
def k10 : Class := { plain "[B" (some 0) with kind := .array 9 .byte, interfaces := #[8, 5], accessFlags := 1041 }

/-- the primitive double -/
def k11 : Class := { plain "double" none with kind := .primitive 'D', accessFlags := 0x411 }
/-- [D -/
def k12 : Class := { plain "[D" (some 0) with kind := .array 11 .double, interfaces := #[8, 5], accessFlags := 1041 }

/-- the primitive int -/
def k13 : Class := { plain "int" none with kind := .primitive 'I', accessFlags := 0x411 }
/-- [I -/
def k14 : Class := { plain "[I" (some 0) with kind := .array 13 .int, interfaces := #[8, 5], accessFlags := 1041 }

def heap : Heap := #[{ cls := 2, slots := #[.int 4], vm := .statics 2 },
  { cls := 7, slots := #[.ref 2, .ref 3, .ref 4, .ref 5, .null, .null], vm := .statics 7 },
  { cls := 7, slots := #[.null, .int 0, .int 0], vm := .none },
  { cls := 7, slots := #[.null, .int 1, .int 0], vm := .none },
  { cls := 7, slots := #[.null, .int 2, .int 0], vm := .none },
  { cls := 7, slots := #[.null, .int 3, .int 0], vm := .none }]
def classes : Array Class := #[k0, k1, k2, k3, k4, k5, k6, k7, k8, k9, k10, k11, k12, k13, k14]
def interned : List (Array UInt16 × Addr) := []
def slotsUsed : Nat := 19
def theMethod : MethodId := ⟨1, 1⟩
def args0 : Array Value := #[.int 7, .int 5, .int 1, .int 2, .int 3]
def aboutOver (below : List Frame) : State where
  vm := { classes := classes, interned := interned.toArray }
  heap := heap
  slotsUsed := slotsUsed
  threads := #[{ frames := .invoking theMethod args0 :: below }]
def below0 : List Frame := [.native { method := ⟨0, 0⟩, args := #[] }]
def about1 : State := aboutOver below0
def p0 : Program := .bare "" "" ""
def e0 : Env := launch0.env 0 0 0
theorem w_frames : about1.frames = Frame.invoking theMethod args0 :: below0 := rfl
set_option maxRecDepth 65536 in
theorem w_args : argsFit about1.vm theMethod args0 = true := by decide +kernel
set_option maxRecDepth 65536 in
theorem w_heap : heapFits about1 = true := by decide +kernel
set_option maxRecDepth 65536 in
theorem w_runnable : about1.curStatus? = some .runnable := by decide +kernel
set_option maxRecDepth 65536 in
theorem w_alone : about1.alone = true := by decide +kernel
set_option maxRecDepth 65536 in
theorem w_named : about1.methodNamed? x = some theMethod := by decide +kernel
set_option maxRecDepth 65536 in
theorem w_hears : about1.hears theMethod below0 = true := by decide +kernel
set_option maxRecDepth 65536 in
theorem w_ripe : about1.ripe theMethod args0 below0 = true := by decide +kernel
theorem w_running : about1.status = .running := rfl
set_option maxRecDepth 65536 in
theorem w_room : about1.hasRoom e0.platform room_1 = true :=
  launch0.hasRoom_least _ room_1 (by decide +kernel) (by decide +kernel) (by decide +kernel) (by decide +kernel) (by decide +kernel) (by decide +kernel)
theorem allAtoms_all (ts : List Jvm.Cond) (a : Array Jvm.Value) (st : Jvm.State) : (allAtoms ts).before a st = ts.all (fun c => c.before a st) := by
  induction ts with
  | nil => rfl
  | cons c t ih =>
    show (Jvm.Cond.and c (allAtoms t)).before a st = _
    rw [Jvm.Cond.before_and, ih, List.all_cons]
def words1 : List Jvm.Cond := Jvm.Cond.code x code maxLocals ret :: tables_1
/-- a 'code' word, met by the world's own term for the bytes: nothing is compared byte by byte -/
theorem code_word {y : MethodName} {bytes : ByteArray} {mx : Nat} {rt : Option FieldType} {a : Array Value} {s : State} {m : MethodId} {meth : Method} {c : Code} (h1 : s.methodNamed? y = some m) (h2 : s.vm.method? m = some meth) (h3 : meth.code = some c) (h4 : c.code = bytes)
    (h5 : (c.maxLocals == mx && c.exceptionTable.isEmpty && decide (c.maxStack ≤ mostOperands) && decide (meth.sig.returnType = rt) && !meth.locks && decide (parseMethodDescriptor y.desc = some meth.sig)) = true) : (Jvm.Cond.code y bytes mx rt).before a s = true := by
  simp only [Bool.and_eq_true, beq_iff_eq, Bool.not_eq_true', decide_eq_true_eq] at h5
  obtain ⟨⟨⟨⟨⟨g1, g2⟩, g3⟩, g4⟩, g5⟩, g6⟩ := h5
  simp [Cond.before, Cond.holds, Cond.value, h1, h2, h3, h4, g1, g2, g3, g4, g5, g6]
def isCode : Jvm.Cond → Bool
  | .code _ _ _ _ => true
  | _ => false
theorem all_split {L : List Jvm.Cond} {P : Jvm.Cond → Bool} (h1 : L.all (fun c => isCode c || P c) = true) (h2 : ∀ c ∈ L.filter isCode, P c = true) : L.all P = true := by
  refine List.all_eq_true.mpr fun c hc => ?_
  have h := List.all_eq_true.mp h1 c hc
  rcases Bool.eq_false_or_eq_true (isCode c) with hi | hi
  · exact h2 c (List.mem_filter.mpr ⟨hc, hi⟩)
  · simpa [hi] using h
set_option maxRecDepth 65536 in
theorem w_c0 : (Jvm.Cond.code x code maxLocals ret).before args0 about1 = true := code_word (m := ⟨1, 1⟩) (meth := k1m1) (c := k1c1) (by decide +kernel) rfl rfl rfl (by decide +kernel)
set_option maxRecDepth 65536 in
theorem w_c1 : (Jvm.Cond.code ({ cls := "com/example/tabuvia/tabuvia/engine/Excess", name := "<init>", desc := "()V" } : Jvm.MethodName) prog_2_method_1_code (1 : Nat) (Option.none : Option Jvm.ClassFile.FieldType)).before args0 about1 = true := code_word (m := ⟨2, 0⟩) (meth := k2m0) (c := k2c0) (by decide +kernel) rfl rfl rfl (by decide +kernel)
set_option maxRecDepth 65536 in
theorem w_c2 : (Jvm.Cond.code ({ cls := "java/lang/Object", name := "<init>", desc := "()V" } : Jvm.MethodName) object_method_1_code (1 : Nat) (Option.none : Option Jvm.ClassFile.FieldType)).before args0 about1 = true := code_word (m := ⟨0, 0⟩) (meth := k0m0) (c := k0c0) (by decide +kernel) rfl rfl rfl (by decide +kernel)
set_option maxRecDepth 65536 in
theorem w_c3 : (Jvm.Cond.code ({ cls := "com/example/tabuvia/tabuvia/engine/Excess", name := "set", desc := "(Lcom/example/tabuvia/tabuvia/engine/Rule;D)V" } : Jvm.MethodName) prog_2_method_3_code (4 : Nat) (Option.none : Option Jvm.ClassFile.FieldType)).before args0 about1 = true := code_word (m := ⟨2, 1⟩) (meth := k2m1) (c := k2c1) (by decide +kernel) rfl rfl rfl (by decide +kernel)
set_option maxRecDepth 65536 in
theorem w_c4 : (Jvm.Cond.code ({ cls := "java/lang/Enum", name := "ordinal", desc := "()I" } : Jvm.MethodName) jdk_37_method_2_code (1 : Nat) (Option.some Jvm.ClassFile.FieldType.int)).before args0 about1 = true := code_word (m := ⟨6, 0⟩) (meth := k6m0) (c := k6c0) (by decide +kernel) rfl rfl rfl (by decide +kernel)
set_option maxRecDepth 65536 in
theorem w_c5 : (Jvm.Cond.code ({ cls := "com/example/tabuvia/tabuvia/engine/Excess", name := "exceeds", desc := "(D)Z" } : Jvm.MethodName) prog_2_method_13_code (8 : Nat) (Option.some Jvm.ClassFile.FieldType.boolean)).before args0 about1 = true := code_word (m := ⟨2, 2⟩) (meth := k2m2) (c := k2c2) (by decide +kernel) rfl rfl rfl (by decide +kernel)
def codes1 : List Jvm.Cond := [Jvm.Cond.code x code maxLocals ret, Jvm.Cond.code ({ cls := "com/example/tabuvia/tabuvia/engine/Excess", name := "<init>", desc := "()V" } : Jvm.MethodName) prog_2_method_1_code (1 : Nat) (Option.none : Option Jvm.ClassFile.FieldType), Jvm.Cond.code ({ cls := "java/lang/Object", name := "<init>", desc := "()V" } : Jvm.MethodName) object_method_1_code (1 : Nat) (Option.none : Option Jvm.ClassFile.FieldType), Jvm.Cond.code ({ cls := "com/example/tabuvia/tabuvia/engine/Excess", name := "set", desc := "(Lcom/example/tabuvia/tabuvia/engine/Rule;D)V" } : Jvm.MethodName) prog_2_method_3_code (4 : Nat) (Option.none : Option Jvm.ClassFile.FieldType), Jvm.Cond.code ({ cls := "java/lang/Enum", name := "ordinal", desc := "()I" } : Jvm.MethodName) jdk_37_method_2_code (1 : Nat) (Option.some Jvm.ClassFile.FieldType.int), Jvm.Cond.code ({ cls := "com/example/tabuvia/tabuvia/engine/Excess", name := "exceeds", desc := "(D)Z" } : Jvm.MethodName) prog_2_method_13_code (8 : Nat) (Option.some Jvm.ClassFile.FieldType.boolean)]
set_option maxRecDepth 65536 in
theorem codes_eq : words1.filter isCode = codes1 := rfl
theorem w_codes : ∀ c ∈ words1.filter isCode, c.before args0 about1 = true := by
  rw [codes_eq]
  intro c hc
  simp only [codes1, List.mem_cons, List.not_mem_nil, or_false] at hc
  rcases hc with rfl | rfl | rfl | rfl | rfl | rfl
  · exact w_c0
  · exact w_c1
  · exact w_c2
  · exact w_c3
  · exact w_c4
  · exact w_c5
set_option maxRecDepth 65536 in
theorem w_t1 : (words1.take 24).all (fun c => isCode c || c.before args0 about1) = true := by decide +kernel
set_option maxRecDepth 65536 in
theorem w_t2 : (words1.drop 24).all (fun c => isCode c || c.before args0 about1) = true := by decide +kernel
theorem w_tables : (allAtoms (Jvm.Cond.code x code maxLocals ret :: tables_1)).before args0 about1 = true := by
  rw [allAtoms_all]
  show words1.all (fun c => c.before args0 about1) = true
  refine all_split ?_ w_codes
  rw [← List.take_append_drop 24 words1, List.all_append, w_t1, w_t2]
  rfl
set_option maxRecDepth 65536 in
theorem w_case : (Jvm.Cond.and given_1 narrow_1).before args0 about1 = true := by decide +kernel
theorem w_applies : (headSpec (Jvm.Cond.code x code maxLocals ret :: tables_1) room_1).applies x e0.platform about1 = true :=
  (Spec.applies_iff w_frames).mpr ⟨w_running, w_runnable, w_alone, w_named, w_hears, w_ripe, w_room, w_tables⟩
theorem atStart : AtStart classFile x code maxLocals ret World_1 tables_1 room_1 Calls_1 rest_1 Pre_1 launch0 p0 e0 about1 theMethod args0 below0 :=
  ⟨lists_1, trivial, launch0.admits_env _ _ _, launch0.least_env, fairChoices_fair.cas, fairChoices_fair.clock, w_frames, w_args, w_heap, w_applies, trivial, trivial, w_case⟩
end start1
theorem witness_1 : WitnessClaimed_1 := ⟨start1.p0, start1.e0, start1.about1, start1.theMethod, start1.args0, start1.below0, start1.atStart⟩
end Jvm.Pilot.@@N@@
