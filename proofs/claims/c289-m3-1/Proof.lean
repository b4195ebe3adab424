import JvmDerived
import JvmDerived.Pilot.@@N@@Statement
import JvmDerived.Pilot.@@N@@Code
set_option linter.unusedVariables false
set_option linter.unusedSimpArgs false
namespace Jvm.OwnFP
open Jvm.FP.Core
/-! own layer over the library's laws of doubles: values in units of the least double (zval), dyadic values, rounding bounds -/
abbrev zv (a : UInt64) : Int := zval b64 (val64 a)
theorem U_pos : (0 : Int) < (one64 : Int) := by have := one64_pos; omega
theorem signed_bd (s : Bool) (m : Nat) : -(m : Int) ≤ signed s m ∧ signed s m ≤ (m : Int) := by unfold signed; split <;> omega
theorem zv_bd (a : UInt64) : -(zmag b64 (val64 a) : Int) ≤ zv a ∧ zv a ≤ (zmag b64 (val64 a) : Int) := signed_bd _ _
theorem fin_between {a V W : UInt64} (hV : DFin V) (hW : DFin W) (hn : val64 a ≠ .nan) (h1 : zv W ≤ zv a) (h2 : zv a ≤ zv V) : DFin a := by
  cases hd : val64 a with
  | nan => exact absurd hd hn
  | fin s c q => exact ⟨s, c, q, hd⟩
  | inf s =>
    exfalso
    have a1 := hV.zval_lt; have a2 := hW.zval_lt
    have b1 := zv_bd V; have b2 := zv_bd W
    have e : zv a = signed s (b64.tails * 2 ^ (b64.exps - 2)) := by show zval b64 (val64 a) = _; rw [hd]; rfl
    generalize b64.tails * 2 ^ (b64.exps - 2) = TOP at a1 a2 e
    cases s
    · have : zv a = (TOP : Int) := e
      omega
    · have : zv a = -(TOP : Int) := e
      omega
theorem qmax_b64 : b64.qmax = 971 := by decide
theorem rep_exists (n : Int) (k : Nat) (hk : k ≤ 1074) (hn : n.natAbs < 2 ^ 53) : ∃ V, DFin V ∧ zv V * 2 ^ k = n * (one64 : Int) := by
  obtain ⟨c', q', h1, h2⟩ := round_exact (f := b64) good_b64 (decide (n < 0)) (c := n.natAbs) (q := -(k : Int)) hn (by rw [qmin_b64]; omega) (by rw [qmax_b64]; omega)
  have hf := round_fits good_b64 (.fin (decide (n < 0)) n.natAbs (-(k : Int)))
  have hv := val64_of64 hf
  rw [h1] at hv
  refine ⟨of64 (round b64 (.fin (decide (n < 0)) n.natAbs (-(k : Int)))), ⟨_, _, _, by rw [h1]; exact hv⟩, ?_⟩
  show zval b64 (val64 (of64 (round b64 (.fin (decide (n < 0)) n.natAbs (-(k : Int)))))) * 2 ^ k = _
  rw [h1, hv]
  show signed (decide (n < 0)) (inUnits c' q' b64.qmin) * 2 ^ k = _
  rw [h2]
  have e1 : inUnits n.natAbs (-(k : Int)) b64.qmin * 2 ^ k = n.natAbs * one64 := by
    unfold inUnits one64
    rw [qmin_b64, Nat.mul_assoc, ← Nat.pow_add]
    congr 2 <;> omega
  have e2 : signed (decide (n < 0)) (inUnits n.natAbs (-(k : Int)) b64.qmin) * ((2 ^ k : Nat) : Int) = signed (decide (n < 0)) n.natAbs * (one64 : Int) := by
    rw [← signed_mul, e1, signed_mul]
  have e3 : signed (decide (n < 0)) n.natAbs = n := by
    unfold signed
    by_cases h : n < 0
    · simp [h]; omega
    · simp [h]; omega
  rw [e3] at e2
  rw [← e2, Int.natCast_pow]; rfl
theorem rep_up (n : Int) (j : Nat) (hj : j ≤ 971) (hn : n.natAbs < 2 ^ 53) : ∃ V, DFin V ∧ zv V = n * 2 ^ j * (one64 : Int) := by
  obtain ⟨c', q', h1, h2⟩ := round_exact (f := b64) good_b64 (decide (n < 0)) (c := n.natAbs) (q := (j : Int)) hn (by rw [qmin_b64]; omega) (by rw [qmax_b64]; omega)
  have hf := round_fits good_b64 (.fin (decide (n < 0)) n.natAbs (j : Int))
  have hv := val64_of64 hf
  rw [h1] at hv
  refine ⟨of64 (round b64 (.fin (decide (n < 0)) n.natAbs (j : Int))), ⟨_, _, _, by rw [h1]; exact hv⟩, ?_⟩
  show zval b64 (val64 (of64 (round b64 (.fin (decide (n < 0)) n.natAbs (j : Int))))) = _
  rw [h1, hv]
  show signed (decide (n < 0)) (inUnits c' q' b64.qmin) = _
  rw [h2]
  have e1 : inUnits n.natAbs (j : Int) b64.qmin = n.natAbs * (2 ^ j * one64) := by
    unfold inUnits one64
    rw [qmin_b64, ← Nat.pow_add]
    congr 2 <;> omega
  have e3 : signed (decide (n < 0)) n.natAbs = n := by
    unfold signed
    by_cases h : n < 0
    · simp [h]; omega
    · simp [h]; omega
  rw [e1, signed_mul, e3, Int.natCast_mul, Int.natCast_pow, Int.mul_assoc]; rfl
/-- the double is finite and worth n / 2^k -/
def Dy (n : Int) (k : Nat) (a : UInt64) : Prop := DFin a ∧ zv a * 2 ^ k = n * (one64 : Int)
theorem two_pos (k : Nat) : (0 : Int) < 2 ^ k := Int.pow_pos (by decide)
theorem Dy.fin {n : Int} {k : Nat} {a : UInt64} (h : Dy n k a) : DFin a := h.1
theorem Dy.nn {n : Int} {k : Nat} {a : UInt64} (h : Dy n k a) : val64 a ≠ .nan := h.1.ne_nan
theorem dint_fin {i : Int} {a : UInt64} (h : DInt i a) : DFin a := by
  unfold DInt at h
  cases hd : val64 a with
  | nan => rw [hd] at h; exact h.elim
  | inf s => rw [hd] at h; exact h.elim
  | fin s c q => exact ⟨s, c, q, hd⟩
theorem Dy.of_int {i : Int} {a : UInt64} (h : DInt i a) : Dy i 0 a := ⟨dint_fin h, by rw [show zv a = i * (one64 : Int) from DInt_zval h]; simp⟩
theorem dy_i2d (a : Int32) : Dy a.toInt 0 (i2d a) := Dy.of_int (i2d_int a)
theorem dy_l2d {a : Int64} (h : a.toInt.natAbs ≤ 2 ^ 53) : Dy a.toInt 0 (l2d a) := Dy.of_int (l2d_int h)
theorem dy_zero : Dy 0 0 0 := ⟨⟨_, _, _, val64_zero⟩, by rw [show zv 0 = 0 from zval64_zero]; simp⟩
theorem dy_one : Dy 1 0 4607182418800017408 := Dy.of_int dint_one
theorem Dy.up {n : Int} {k : Nat} {a : UInt64} (h : Dy n k a) (j : Nat) : Dy (n * 2 ^ j) (k + j) a := ⟨h.1, by rw [Int.pow_add, ← Int.mul_assoc, h.2]; (generalize one64 = U; ac_rfl)⟩
theorem cancel {x y : Int} {k : Nat} (h : x * 2 ^ k = y * 2 ^ k) : x = y := Int.eq_of_mul_eq_mul_right (Int.ne_of_gt (two_pos k)) h
theorem Dy.eq {n : Int} {k : Nat} {a b : UInt64} (ha : Dy n k a) (hb : Dy n k b) : zv a = zv b := cancel (ha.2.trans hb.2.symm)
theorem val_dneg (a : UInt64) (h : val64 a ≠ .nan) : val64 (Jvm.FP.dneg a) = negate (val64 a) := by
  refine val64_neg_bits ?_
  have hx : (Jvm.FP.dneg a).toNat = a.toNat ^^^ 2 ^ 63 := by
    show (a ^^^ 0x8000000000000000).toNat = _
    rw [UInt64.toNat_xor]; rfl
  have hlt := a.toNat_lt
  by_cases hb : a.toNat < 2 ^ 63
  · right
    rw [hx, Nat.xor_comm]
    have := Nat.two_pow_add_eq_or_of_lt hb 1
    have e2 : (2 ^ 63 ^^^ a.toNat) = 2 ^ 63 + a.toNat := by
      rw [Nat.mul_one] at this
      rw [this]
      apply Nat.eq_of_testBit_eq; intro i
      simp only [Nat.testBit_xor, Nat.testBit_or, Nat.testBit_two_pow]
      by_cases q : 63 = i
      · subst q; simp [Nat.testBit_lt_two_pow hb]
      · simp [q]
    omega
  · left
    have hb' : a.toNat - 2 ^ 63 < 2 ^ 63 := by omega
    have := Nat.two_pow_add_eq_or_of_lt hb' 1
    rw [Nat.mul_one] at this
    have e0 : a.toNat = 2 ^ 63 ||| (a.toNat - 2 ^ 63) := by omega
    have e2 : a.toNat ^^^ 2 ^ 63 = a.toNat - 2 ^ 63 := by
      apply Nat.eq_of_testBit_eq; intro i
      rw [Nat.testBit_xor, Nat.testBit_two_pow]
      have t := congrArg (fun z => z.testBit i) e0
      simp only [Nat.testBit_or, Nat.testBit_two_pow] at t
      rw [t]
      by_cases q : 63 = i
      · subst q; simp [Nat.testBit_lt_two_pow hb']
      · simp [q]
    omega
theorem dneg_fin {a : UInt64} (h : DFin a) : DFin (Jvm.FP.dneg a) := by
  obtain ⟨s, c, q, e⟩ := h
  exact ⟨!s, c, q, by rw [val_dneg a (by rw [e]; exact nofun), e]; rfl⟩
theorem dneg_zv {a : UInt64} (h : val64 a ≠ .nan) : zv (Jvm.FP.dneg a) = -zv a := by
  show zval b64 (val64 (Jvm.FP.dneg a)) = _
  rw [val_dneg a h, zval_negate]
theorem dy_neg {n : Int} {k : Nat} {a : UInt64} (h : Dy n k a) : Dy (-n) k (Jvm.FP.dneg a) := ⟨dneg_fin h.1, by rw [dneg_zv h.nn, Int.neg_mul, h.2, Int.neg_mul]⟩
theorem cneg_fin {a : UInt64} (h : DFin a) : DFin (dneg a) := by
  obtain ⟨s, c, q, e⟩ := h
  exact ⟨!s, c, q, by rw [val64_dneg, e]; rfl⟩
theorem cneg_zv (a : UInt64) : zv (dneg a) = -zv a := by
  show zval b64 (val64 (dneg a)) = _
  rw [val64_dneg, zval_negate]
-- sums
theorem add_nn {a b : UInt64} (ha : DFin a) (hb : DFin b) : val64 (dadd a b) ≠ .nan := (notNaN_iff _).mp (dadd_out ha.notNaN hb)
theorem add_le {a b V : UInt64} (ha : DFin a) (hb : DFin b) (hV : val64 V ≠ .nan) (h : zv a + zv b ≤ zv V) : zv (dadd a b) ≤ zv V := by
  show zval b64 (val64 (dadd a b)) ≤ _
  rw [val64_dadd]
  exact sum_le good_b64 ha hb (val64_fits a) (val64_fits b) (val64_fits V) hV h
theorem add_ge {a b V : UInt64} (ha : DFin a) (hb : DFin b) (hV : val64 V ≠ .nan) (h : zv V ≤ zv a + zv b) : zv V ≤ zv (dadd a b) := by
  show _ ≤ zval b64 (val64 (dadd a b))
  rw [val64_dadd]
  exact sum_ge good_b64 ha hb (val64_fits a) (val64_fits b) (val64_fits V) hV h
theorem add_exact {a b V : UInt64} (ha : DFin a) (hb : DFin b) (hV : DFin V) (h : zv a + zv b = zv V) : DFin (dadd a b) ∧ zv (dadd a b) = zv V := by
  have h1 := add_le ha hb hV.ne_nan (Int.le_of_eq h)
  have h2 := add_ge ha hb hV.ne_nan (Int.le_of_eq h.symm)
  exact ⟨fin_between hV hV (add_nn ha hb) h2 h1, Int.le_antisymm h1 h2⟩
theorem dy_add {n m : Int} {k : Nat} {a b : UInt64} (ha : Dy n k a) (hb : Dy m k b) (hk : k ≤ 1074) (h : (n + m).natAbs < 2 ^ 53) : Dy (n + m) k (dadd a b) := by
  obtain ⟨V, hV, e⟩ := rep_exists (n + m) k hk h
  have q : zv a + zv b = zv V := cancel (k := k) (by rw [Int.add_mul, ha.2, hb.2, e, Int.add_mul])
  obtain ⟨h1, h2⟩ := add_exact ha.1 hb.1 hV q
  exact ⟨h1, by rw [h2]; exact e⟩
theorem dy_sub {n m : Int} {k : Nat} {a b : UInt64} (ha : Dy n k a) (hb : Dy m k b) (hk : k ≤ 1074) (h : (n - m).natAbs < 2 ^ 53) : Dy (n - m) k (dsub a b) := by
  rw [dsub_eq]
  have hb' : Dy (-m) k (dneg b) := ⟨cneg_fin hb.1, by rw [cneg_zv, Int.neg_mul, hb.2, Int.neg_mul]⟩
  have := dy_add ha hb' hk (by rw [← Int.sub_eq_add_neg]; exact h)
  rw [← Int.sub_eq_add_neg] at this; exact this
-- products
theorem mul_nn {a b : UInt64} (ha : DFin a) (hb : DFin b) : val64 (dmul a b) ≠ .nan := (notNaN_iff _).mp (dmul_out ha hb)
theorem mul_units {a b : UInt64} (ha : DFin a) (hb : DFin b) : ∃ s c q, exactProduct (val64 a) (val64 b) = .fin s c q ∧ 2 * b64.qmin ≤ q ∧ signed s (inUnits c q (2 * b64.qmin)) = zv a * zv b := by
  obtain ⟨s, c, q, ea⟩ := ha
  obtain ⟨t, d, r, eb⟩ := hb
  have fa := val64_fits a; have fb := val64_fits b
  rw [ea] at fa; rw [eb] at fb
  obtain ⟨h1, h2, h3⟩ := product_units fa fb
  refine ⟨_, _, _, by rw [ea, eb]; exact h1, h2, ?_⟩
  rw [h3, signed_xor]
  show _ = zval b64 (val64 a) * zval b64 (val64 b)
  rw [ea, eb]; rfl
theorem two_qmin : (b64.qmin - 2 * b64.qmin).toNat = (-b64.qmin).toNat := by congr 1 <;> omega
theorem mul_le {a b V : UInt64} (ha : DFin a) (hb : DFin b) (hV : val64 V ≠ .nan) (h : zv a * zv b ≤ zv V * (one64 : Int)) : zv (dmul a b) ≤ zv V := by
  obtain ⟨s, c, q, e1, e2, e3⟩ := mul_units ha hb
  show zval b64 (val64 (dmul a b)) ≤ zval b64 (val64 V)
  rw [val64_dmul, e1]
  refine zval_round_le good_b64 (val64_fits V) hV (e0 := 2 * b64.qmin) (by rw [qmin_b64]; decide) e2 ?_
  rw [e3, two_qmin, pow_qmin64]; exact h
theorem mul_ge {a b V : UInt64} (ha : DFin a) (hb : DFin b) (hV : val64 V ≠ .nan) (h : zv V * (one64 : Int) ≤ zv a * zv b) : zv V ≤ zv (dmul a b) := by
  obtain ⟨s, c, q, e1, e2, e3⟩ := mul_units ha hb
  show zval b64 (val64 V) ≤ zval b64 (val64 (dmul a b))
  rw [val64_dmul, e1]
  refine zval_round_ge good_b64 (val64_fits V) hV (e0 := 2 * b64.qmin) (by rw [qmin_b64]; decide) e2 ?_
  rw [e3, two_qmin, pow_qmin64]; exact h
theorem mul_exact {a b V : UInt64} (ha : DFin a) (hb : DFin b) (hV : DFin V) (h : zv a * zv b = zv V * (one64 : Int)) : DFin (dmul a b) ∧ zv (dmul a b) = zv V := by
  have h1 := mul_le ha hb hV.ne_nan (Int.le_of_eq h)
  have h2 := mul_ge ha hb hV.ne_nan (Int.le_of_eq h.symm)
  exact ⟨fin_between hV hV (mul_nn ha hb) h2 h1, Int.le_antisymm h1 h2⟩
theorem dy_mul {n m : Int} {k j : Nat} {a b : UInt64} (ha : Dy n k a) (hb : Dy m j b) (hk : k + j ≤ 1074) (h : (n * m).natAbs < 2 ^ 53) : Dy (n * m) (k + j) (dmul a b) := by
  obtain ⟨V, hV, e⟩ := rep_exists (n * m) (k + j) hk h
  have q : zv a * zv b = zv V * (one64 : Int) := cancel (k := k + j) (by
    have : zv a * zv b * 2 ^ (k + j) = (zv a * 2 ^ k) * (zv b * 2 ^ j) := by rw [Int.pow_add]; (generalize one64 = U; ac_rfl)
    rw [this, ha.2, hb.2, show zv V * (one64 : Int) * 2 ^ (k + j) = zv V * 2 ^ (k + j) * (one64 : Int) by (generalize one64 = U; ac_rfl), e]; (generalize one64 = U; ac_rfl))
  obtain ⟨h1, h2⟩ := mul_exact ha.1 hb.1 hV q
  exact ⟨h1, by rw [h2]; exact e⟩
-- quotients
theorem nz_of {b : UInt64} (hb : DFin b) (h : zv b ≠ 0) : ¬ DZero b := fun q => h q.zval
theorem div_nn {a b : UInt64} (ha : DFin a) (hb : DFin b) (h : zv b ≠ 0) : val64 (ddiv a b) ≠ .nan := (notNaN_iff _).mp (ddiv_out ha.notNaN hb (nz_of hb h))
theorem div_pows {q r e0 : Int} (hq : b64.qmin ≤ q) (hr : b64.qmin ≤ r) (h0 : e0 ≤ b64.qmin) (h1 : e0 ≤ q - r) :
    2 ^ (q - r - e0).toNat * 2 ^ (r - b64.qmin).toNat = 2 ^ (q - b64.qmin).toNat * one64 * 2 ^ (b64.qmin - e0).toNat := by
  unfold one64
  rw [← Nat.pow_add, ← Nat.pow_add, ← Nat.pow_add]
  rw [qmin_b64] at *
  congr 1 <;> omega
theorem div_val {a b : UInt64} {s t : Bool} {c d : Nat} {q r : Int} (ea : val64 a = .fin s c q) (eb : val64 b = .fin t d r) (hd : d ≠ 0) : val64 (ddiv a b) = roundRatio b64 (s != t) c d (q - r) := by
  rw [val64_ddiv, ea, eb]
  simp [quotient, hd]
theorem div_mag_le {a b V : UInt64} (ha : DFin a) (hb : DFin b) (hz : zmag b64 (val64 b) ≠ 0) (hV : val64 V ≠ .nan) (h : zmag b64 (val64 a) * one64 ≤ zmag b64 (val64 V) * zmag b64 (val64 b)) : zmag b64 (val64 (ddiv a b)) ≤ zmag b64 (val64 V) := by
  obtain ⟨s, c, q, ea⟩ := ha
  obtain ⟨t, d, r, eb⟩ := hb
  have fa := val64_fits a; have fb := val64_fits b
  rw [ea] at fa; rw [eb] at fb
  have za : zmag b64 (val64 a) = c * 2 ^ (q - b64.qmin).toNat := by rw [ea]; rfl
  have zb : zmag b64 (val64 b) = d * 2 ^ (r - b64.qmin).toNat := by rw [eb]; rfl
  have hd : d ≠ 0 := fun q => hz (by rw [zb, q, Nat.zero_mul])
  rw [div_val ea eb hd]
  have hp := div_pows (e0 := min b64.qmin (q - r)) fa.2.1 fb.2.1 (by omega) (by omega)
  refine zmag_roundRatio_le good_b64 (Nat.pos_of_ne_zero hd) (val64_fits V) hV (e0 := min b64.qmin (q - r)) (by omega) (by omega) ?_
  rw [za, zb] at h
  generalize zmag b64 (val64 V) = v at h ⊢
  unfold inUnits
  refine Nat.le_of_mul_le_mul_right (c := 2 ^ (r - b64.qmin).toNat) ?_ (Nat.two_pow_pos _)
  rw [Nat.mul_assoc, hp]
  have := Nat.mul_le_mul_right (2 ^ (b64.qmin - min b64.qmin (q - r)).toNat) h
  calc c * (2 ^ (q - b64.qmin).toNat * one64 * 2 ^ (b64.qmin - min b64.qmin (q - r)).toNat) = c * 2 ^ (q - b64.qmin).toNat * one64 * 2 ^ (b64.qmin - min b64.qmin (q - r)).toNat := by (generalize one64 = U; ac_rfl)
    _ ≤ _ := this
    _ = v * 2 ^ (b64.qmin - min b64.qmin (q - r)).toNat * d * 2 ^ (r - b64.qmin).toNat := by (generalize one64 = U; ac_rfl)
theorem div_mag_ge {a b V : UInt64} (ha : DFin a) (hb : DFin b) (hz : zmag b64 (val64 b) ≠ 0) (hV : val64 V ≠ .nan) (h : zmag b64 (val64 V) * zmag b64 (val64 b) ≤ zmag b64 (val64 a) * one64) : zmag b64 (val64 V) ≤ zmag b64 (val64 (ddiv a b)) := by
  obtain ⟨s, c, q, ea⟩ := ha
  obtain ⟨t, d, r, eb⟩ := hb
  have fa := val64_fits a; have fb := val64_fits b
  rw [ea] at fa; rw [eb] at fb
  have za : zmag b64 (val64 a) = c * 2 ^ (q - b64.qmin).toNat := by rw [ea]; rfl
  have zb : zmag b64 (val64 b) = d * 2 ^ (r - b64.qmin).toNat := by rw [eb]; rfl
  have hd : d ≠ 0 := fun q => hz (by rw [zb, q, Nat.zero_mul])
  rw [div_val ea eb hd]
  have hp := div_pows (e0 := min b64.qmin (q - r)) fa.2.1 fb.2.1 (by omega) (by omega)
  refine zmag_roundRatio_ge good_b64 (Nat.pos_of_ne_zero hd) (val64_fits V) (e0 := min b64.qmin (q - r)) (by omega) (by omega) ?_
  rw [za, zb] at h
  generalize zmag b64 (val64 V) = v at h ⊢
  unfold inUnits
  refine Nat.le_of_mul_le_mul_right (c := 2 ^ (r - b64.qmin).toNat) ?_ (Nat.two_pow_pos _)
  rw [Nat.mul_assoc c, hp]
  have := Nat.mul_le_mul_right (2 ^ (b64.qmin - min b64.qmin (q - r)).toNat) h
  calc v * 2 ^ (b64.qmin - min b64.qmin (q - r)).toNat * d * 2 ^ (r - b64.qmin).toNat = v * (d * 2 ^ (r - b64.qmin).toNat) * 2 ^ (b64.qmin - min b64.qmin (q - r)).toNat := by (generalize one64 = U; ac_rfl)
    _ ≤ _ := this
    _ = c * (2 ^ (q - b64.qmin).toNat * one64 * 2 ^ (b64.qmin - min b64.qmin (q - r)).toNat) := by (generalize one64 = U; ac_rfl)
theorem div_sgn {a b : UInt64} (ha : DFin a) (hb : DFin b) (hz : zmag b64 (val64 b) ≠ 0) : sgn (val64 (ddiv a b)) = (sgn (val64 a) != sgn (val64 b)) := by
  obtain ⟨s, c, q, ea⟩ := ha
  obtain ⟨t, d, r, eb⟩ := hb
  have zb : zmag b64 (val64 b) = d * 2 ^ (r - b64.qmin).toNat := by rw [eb]; rfl
  have hd : d ≠ 0 := fun q => hz (by rw [zb, q, Nat.zero_mul])
  rw [div_val ea eb hd, sgn_roundRatio, ea, eb]; rfl
theorem zv_cases (a : UInt64) : (sgn (val64 a) = false ∧ zv a = (zmag b64 (val64 a) : Int)) ∨ (sgn (val64 a) = true ∧ zv a = -(zmag b64 (val64 a) : Int)) := by
  show (_ ∧ signed _ _ = _) ∨ (_ ∧ signed _ _ = _)
  cases sgn (val64 a) <;> simp [signed]
theorem nat_mul_le {a b c d : Nat} (h : (a : Int) * (b : Int) ≤ (c : Int) * (d : Int)) : a * b ≤ c * d := by
  rw [← Int.natCast_mul, ← Int.natCast_mul] at h; exact Int.ofNat_le.mp h
theorem div_le {a b V : UInt64} (ha : DFin a) (hb : DFin b) (hp : 0 < zv b) (hV : val64 V ≠ .nan) (h : zv a * (one64 : Int) ≤ zv V * zv b) : zv (ddiv a b) ≤ zv V := by
  have ub := zv_bd b
  have hz : zmag b64 (val64 b) ≠ 0 := by omega
  have eb : sgn (val64 b) = false ∧ zv b = (zmag b64 (val64 b) : Int) := by rcases zv_cases b with q | q; exact q; omega
  have es := div_sgn ha hb hz
  rw [eb.1] at es
  have hU := U_pos
  rcases zv_cases a with ⟨sa, ea⟩ | ⟨sa, ea⟩ <;> rw [sa] at es
  · have er : zv (ddiv a b) = (zmag b64 (val64 (ddiv a b)) : Int) := by rcases zv_cases (ddiv a b) with q | q; exact q.2; rw [q.1] at es; cases es
    rcases zv_cases V with ⟨sv, ev⟩ | ⟨sv, ev⟩
    · have := div_mag_le ha hb hz hV (nat_mul_le (by rw [← ea, ← ev, ← eb.2]; exact h))
      omega
    · have h0 : 0 ≤ zv a * (one64 : Int) := Int.mul_nonneg (by omega) (by omega)
      have h1 : 0 ≤ zv V * zv b := Int.le_trans h0 h
      have h2 : zv V = 0 := by
        by_cases q : zv V < 0
        · have := Int.mul_neg_of_neg_of_pos q hp; omega
        · omega
      have h3 : zmag b64 (val64 V) = 0 := by omega
      rw [h2, Int.zero_mul] at h
      have h5 : zmag b64 (val64 a) * one64 ≤ zmag b64 (val64 V) * zmag b64 (val64 b) := nat_mul_le (by rw [← ea, h3]; simpa using h)
      have := div_mag_le ha hb hz hV h5
      omega
  · have er : zv (ddiv a b) = -(zmag b64 (val64 (ddiv a b)) : Int) := by rcases zv_cases (ddiv a b) with q | q; rw [q.1] at es; cases es; exact q.2
    rcases zv_cases V with ⟨sv, ev⟩ | ⟨sv, ev⟩
    · omega
    · have := div_mag_ge ha hb hz hV (nat_mul_le (by
        have : zv V * zv b = -((zmag b64 (val64 V) : Int) * (zmag b64 (val64 b) : Int)) := by rw [ev, eb.2, Int.neg_mul]
        have h6 : zv a * (one64 : Int) = -((zmag b64 (val64 a) : Int) * (one64 : Int)) := by rw [ea, Int.neg_mul]
        omega))
      omega
theorem div_ge {a b V : UInt64} (ha : DFin a) (hb : DFin b) (hp : 0 < zv b) (hV : val64 V ≠ .nan) (h : zv V * zv b ≤ zv a * (one64 : Int)) : zv V ≤ zv (ddiv a b) := by
  have ub := zv_bd b
  have hz : zmag b64 (val64 b) ≠ 0 := by omega
  have eb : sgn (val64 b) = false ∧ zv b = (zmag b64 (val64 b) : Int) := by rcases zv_cases b with q | q; exact q; omega
  have es := div_sgn ha hb hz
  rw [eb.1] at es
  have hU := U_pos
  rcases zv_cases a with ⟨sa, ea⟩ | ⟨sa, ea⟩ <;> rw [sa] at es
  · have er : zv (ddiv a b) = (zmag b64 (val64 (ddiv a b)) : Int) := by rcases zv_cases (ddiv a b) with q | q; exact q.2; rw [q.1] at es; cases es
    rcases zv_cases V with ⟨sv, ev⟩ | ⟨sv, ev⟩
    · have := div_mag_ge ha hb hz hV (nat_mul_le (by rw [← ea, ← ev, ← eb.2]; exact h))
      omega
    · omega
  · have er : zv (ddiv a b) = -(zmag b64 (val64 (ddiv a b)) : Int) := by rcases zv_cases (ddiv a b) with q | q; rw [q.1] at es; cases es; exact q.2
    rcases zv_cases V with ⟨sv, ev⟩ | ⟨sv, ev⟩
    · have h0 : zv a * (one64 : Int) ≤ 0 := Int.mul_nonpos_of_nonpos_of_nonneg (by omega) (by omega)
      have h1 : zv V * zv b ≤ 0 := Int.le_trans h h0
      have h2 : zv V = 0 := by
        by_cases q : 0 < zv V
        · have := Int.mul_pos q hp; omega
        · omega
      have h3 : zmag b64 (val64 V) = 0 := by omega
      rw [h2, Int.zero_mul] at h
      have h4 : (zmag b64 (val64 a) : Int) * (one64 : Int) = -(zv a * (one64 : Int)) := by rw [ea, Int.neg_mul, Int.neg_neg]
      have h5 : zmag b64 (val64 a) * one64 ≤ zmag b64 (val64 V) * zmag b64 (val64 b) := nat_mul_le (by rw [h4, h3]; simp; omega)
      have := div_mag_le ha hb hz hV h5
      omega
    · have := div_mag_le ha hb hz hV (nat_mul_le (by
        have : zv V * zv b = -((zmag b64 (val64 V) : Int) * (zmag b64 (val64 b) : Int)) := by rw [ev, eb.2, Int.neg_mul]
        have h6 : zv a * (one64 : Int) = -((zmag b64 (val64 a) : Int) * (one64 : Int)) := by rw [ea, Int.neg_mul]
        omega))
      omega
theorem Dy.pos {m : Int} {j : Nat} {b : UInt64} (hb : Dy m j b) (hm : 0 < m) : 0 < zv b := by
  have h1 : 0 < zv b * 2 ^ j := by rw [hb.2]; exact Int.mul_pos hm U_pos
  exact Int.pos_of_mul_pos_left h1 (two_pos j)
theorem div_le_dy {n m q : Int} {k j i : Nat} {a b : UInt64} (ha : Dy n k a) (hb : Dy m j b) (hm : 0 < m) (hi : i ≤ 1074) (hq : q.natAbs < 2 ^ 53) (h : n * 2 ^ j * 2 ^ i ≤ q * m * 2 ^ k) : zv (ddiv a b) * 2 ^ i ≤ q * (one64 : Int) := by
  obtain ⟨V, hV, e⟩ := rep_exists q i hi hq
  rw [← e]
  refine Int.mul_le_mul_of_nonneg_right (div_le ha.1 hb.1 (hb.pos hm) hV.ne_nan ?_) (Int.le_of_lt (two_pos i))
  have hU := U_pos
  refine Int.le_of_mul_le_mul_right (a := 2 ^ k * 2 ^ j * 2 ^ i) ?_ (Int.mul_pos (Int.mul_pos (two_pos k) (two_pos j)) (two_pos i))
  have e1 : zv a * (one64 : Int) * (2 ^ k * 2 ^ j * 2 ^ i) = n * 2 ^ j * 2 ^ i * ((one64 : Int) * (one64 : Int)) := by
    rw [show zv a * (one64 : Int) * (2 ^ k * 2 ^ j * 2 ^ i) = zv a * 2 ^ k * ((one64 : Int) * 2 ^ j * 2 ^ i) by (generalize one64 = U; ac_rfl), ha.2]; (generalize one64 = U; ac_rfl)
  have e2 : zv V * zv b * (2 ^ k * 2 ^ j * 2 ^ i) = q * m * 2 ^ k * ((one64 : Int) * (one64 : Int)) := by
    rw [show zv V * zv b * (2 ^ k * 2 ^ j * 2 ^ i) = (zv V * 2 ^ i) * (zv b * 2 ^ j) * 2 ^ k by (generalize one64 = U; ac_rfl), e, hb.2]; (generalize one64 = U; ac_rfl)
  rw [e1, e2]
  exact Int.mul_le_mul_of_nonneg_right h (Int.le_of_lt (Int.mul_pos hU hU))
theorem div_ge_dy {n m q : Int} {k j i : Nat} {a b : UInt64} (ha : Dy n k a) (hb : Dy m j b) (hm : 0 < m) (hi : i ≤ 1074) (hq : q.natAbs < 2 ^ 53) (h : q * m * 2 ^ k ≤ n * 2 ^ j * 2 ^ i) : q * (one64 : Int) ≤ zv (ddiv a b) * 2 ^ i := by
  obtain ⟨V, hV, e⟩ := rep_exists q i hi hq
  rw [← e]
  refine Int.mul_le_mul_of_nonneg_right (div_ge ha.1 hb.1 (hb.pos hm) hV.ne_nan ?_) (Int.le_of_lt (two_pos i))
  have hU := U_pos
  refine Int.le_of_mul_le_mul_right (a := 2 ^ k * 2 ^ j * 2 ^ i) ?_ (Int.mul_pos (Int.mul_pos (two_pos k) (two_pos j)) (two_pos i))
  have e1 : zv a * (one64 : Int) * (2 ^ k * 2 ^ j * 2 ^ i) = n * 2 ^ j * 2 ^ i * ((one64 : Int) * (one64 : Int)) := by
    rw [show zv a * (one64 : Int) * (2 ^ k * 2 ^ j * 2 ^ i) = zv a * 2 ^ k * ((one64 : Int) * 2 ^ j * 2 ^ i) by (generalize one64 = U; ac_rfl), ha.2]; (generalize one64 = U; ac_rfl)
  have e2 : zv V * zv b * (2 ^ k * 2 ^ j * 2 ^ i) = q * m * 2 ^ k * ((one64 : Int) * (one64 : Int)) := by
    rw [show zv V * zv b * (2 ^ k * 2 ^ j * 2 ^ i) = (zv V * 2 ^ i) * (zv b * 2 ^ j) * 2 ^ k by (generalize one64 = U; ac_rfl), e, hb.2]; (generalize one64 = U; ac_rfl)
  rw [e1, e2]
  exact Int.mul_le_mul_of_nonneg_right h (Int.le_of_lt (Int.mul_pos hU hU))
theorem dy_div {n m q : Int} {k j i : Nat} {a b : UInt64} (ha : Dy n k a) (hb : Dy m j b) (hm : 0 < m) (hi : i ≤ 1074) (hq : q.natAbs < 2 ^ 53) (h : n * 2 ^ j * 2 ^ i = q * m * 2 ^ k) : Dy q i (ddiv a b) := by
  have h1 := div_le_dy ha hb hm hi hq (Int.le_of_eq h)
  have h2 := div_ge_dy ha hb hm hi hq (Int.le_of_eq h.symm)
  have h3 := Int.le_antisymm h1 h2
  obtain ⟨V, hV, e⟩ := rep_exists q i hi hq
  have h4 : zv (ddiv a b) = zv V := cancel (h3.trans e.symm)
  exact ⟨fin_between hV hV (div_nn ha.1 hb.1 (Int.ne_of_gt (hb.pos hm))) (Int.le_of_eq h4.symm) (Int.le_of_eq h4), h3⟩
-- comparisons
theorem cmp_dy {n m : Int} {k j : Nat} {a b : UInt64} (ha : Dy n k a) (hb : Dy m j b) : Jvm.FP.dcmp a b = some (compare (n * 2 ^ j) (m * 2 ^ k)) := by
  show dcmp a b = _
  rw [dcmp_zval ha.nn hb.nn]
  congr 1
  have hU := U_pos
  have e1 : zv a * (2 ^ k * 2 ^ j) = n * 2 ^ j * (one64 : Int) := by rw [← Int.mul_assoc, ha.2]; (generalize one64 = U; ac_rfl)
  have e2 : zv b * (2 ^ k * 2 ^ j) = m * 2 ^ k * (one64 : Int) := by rw [show zv b * (2 ^ k * 2 ^ j) = zv b * 2 ^ j * 2 ^ k by (generalize one64 = U; ac_rfl), hb.2]; (generalize one64 = U; ac_rfl)
  rw [← compare_mul_pos (zv a) (zv b) (2 ^ k * 2 ^ j) (Int.mul_pos (two_pos k) (two_pos j)), e1, e2, compare_mul_pos _ _ _ hU]
theorem cmp_dy0 {n m : Int} {k : Nat} {a b : UInt64} (ha : Dy n k a) (hb : Dy m k b) : Jvm.FP.dcmp a b = some (compare n m) := by
  rw [cmp_dy ha hb, compare_mul_pos _ _ _ (two_pos k)]
theorem cmp_lt {a b : UInt64} (ha : val64 a ≠ .nan) (hb : val64 b ≠ .nan) (h : zv a < zv b) : Jvm.FP.dcmp a b = some .lt := dcmp_lt.mpr ⟨ha, hb, h⟩
theorem cmp_eq {a b : UInt64} (ha : val64 a ≠ .nan) (hb : val64 b ≠ .nan) (h : zv a = zv b) : Jvm.FP.dcmp a b = some .eq := dcmp_eq.mpr ⟨ha, hb, h⟩
theorem cmp_gt {a b : UInt64} (ha : val64 a ≠ .nan) (hb : val64 b ≠ .nan) (h : zv b < zv a) : Jvm.FP.dcmp a b = some .gt := dcmp_gt.mpr ⟨ha, hb, h⟩
open Jvm.Op in
theorem cv_lt_g (r : Option Ordering) : cmpValue r .g < 0 ↔ r = some .lt := by rcases r with _ | (_ | _ | _) <;> decide
open Jvm.Op in
theorem cv_lt_l (r : Option Ordering) : cmpValue r .l < 0 ↔ r = some .lt ∨ r = none := by rcases r with _ | (_ | _ | _) <;> decide
open Jvm.Op in
theorem cv_gt_g (r : Option Ordering) : 0 < cmpValue r .g ↔ r = some .gt ∨ r = none := by rcases r with _ | (_ | _ | _) <;> decide
open Jvm.Op in
theorem cv_gt_l (r : Option Ordering) : 0 < cmpValue r .l ↔ r = some .gt := by rcases r with _ | (_ | _ | _) <;> decide
open Jvm.Op in
theorem cv_eq (r : Option Ordering) (o : Jvm.ClassFile.CmpOp) : cmpValue r o = 0 ↔ r = some .eq := by cases o <;> rcases r with _ | (_ | _ | _) <;> decide
theorem nn64 {a : UInt64} (h : DFin a) : Jvm.Free.Fl.NoNaN64 a := Jvm.Free.Fl.val64_no.mpr h.ne_nan
theorem nnv {a : UInt64} (h : val64 a ≠ .nan) : Jvm.Free.Fl.NoNaN64 a := Jvm.Free.Fl.val64_no.mpr h
theorem nn_v {a : UInt64} (h : Jvm.Free.Fl.NoNaN64 a) : val64 a ≠ .nan := Jvm.Free.Fl.val64_no.mp h
end Jvm.OwnFP
namespace Jvm.OwnKit
open Jvm Jvm.ClassFile Sem Op Lib Jvm.Free Jvm.Stand Jvm.LawKit Jvm.RoadKit
theorem eqF_int {Z : State} {args : Array Value} {t : Term} {C n d : String} {x : Addr} {k : Int32} (ev : t.eval args Z none [] Z = some (.ref x)) (h : (Jvm.Cond.eq (Term.field t C n d) (Term.int k)).value args Z none Z [] = some true) : Fld Z Z.heap x C n d (.int k) := by
  obtain ⟨u, w, h1, h2, -, h4⟩ := cmp_v (Or.inl h)
  have e2 : (Term.int k).eval args Z none [] Z = some (.int k) := Term.int_eval k
  cases e2.symm.trans h2
  obtain ⟨z, rfl⟩ := h4
  have hz : z = k := by simpa [Cond.value, h1, e2] using h
  subst hz
  exact Fld.start (by rw [← fld_at ev]; exact h1)
theorem eqF_dbl {Z : State} {args : Array Value} {t : Term} {C n d : String} {x : Addr} {k : Int64} {b : UInt64} (ev : t.eval args Z none [] Z = some (.ref x)) (h : (Jvm.Cond.eq (Term.field t C n d) (Term.op1 Jvm.Unary.bitsD (Term.long k))).value args Z none Z [] = some true) (hb : k.toUInt64 = b) : Fld Z Z.heap x C n d (.double b) := by
  obtain ⟨u, w, h1, h2, -, h4⟩ := cmp_v (Or.inl h)
  have e2 : (Term.op1 Jvm.Unary.bitsD (Term.long k)).eval args Z none [] Z = some (.double k.toUInt64) := by simp [Term.eval, Jvm.Unary.apply]
  cases e2.symm.trans h2
  obtain ⟨z, rfl⟩ := h4
  have hz : z = k.toUInt64 := by simpa [Cond.value, h1, e2] using h
  subst hz; subst hb
  exact Fld.start (by rw [← fld_at ev]; exact h1)
theorem eqS_int {Z : State} {args : Array Value} {C n d : String} {k : Int32} (h : (Jvm.Cond.eq (Term.static C n d) (Term.int k)).value args Z none Z [] = some true) : (Term.static C n d).eval args Z none [] Z = some (.int k) := by
  obtain ⟨u, w, h1, h2, -, h4⟩ := cmp_v (Or.inl h)
  have e2 : (Term.int k).eval args Z none [] Z = some (.int k) := Term.int_eval k
  cases e2.symm.trans h2
  obtain ⟨z, rfl⟩ := h4
  have hz : z = k := by simpa [Cond.value, h1, e2] using h
  subst hz
  exact h1
theorem staKeep {Z : State} {h h' : Heap} {C n d : String} {v : Value} {ws : List Addr} (F : Sta Z h C n d v) (K : Keep h h' ws) (q : ∀ x ∈ ws, ∃ c : Cell, h[x]? = some c ∧ c.vm.isStatics = false) : Sta Z h' C n d v := by
  obtain ⟨cf, i, k, f, st, cell, h1, h2, h3, h4, h5, h6, h7⟩ := F
  refine ⟨cf, i, k, f, st, cell, h1, h2, h3, h4, K.2.1 st cell h5 fun hm => ?_, h6, h7⟩
  obtain ⟨c, e1, e2⟩ := q st hm
  cases h5.symm.trans e1
  rw [e2] at h6; cases h6
theorem exaSt {Z : State} {h : Heap} {a : Addr} {C : String} (F : Exa Z h a C) : ∃ c : Cell, h[a]? = some c ∧ c.vm.isStatics = false := by
  obtain ⟨c, _, h1, -, -, h4, -⟩ := F; exact ⟨c, h1, h4⟩
theorem arvSt {Z : State} {h : Heap} {a : Addr} {k : ClassId} {ty : FieldType} {z : Int32} {vs : List Value} {dv : Value} (F : Arv Z h a k ty z vs dv) : ∃ c : Cell, h[a]? = some c ∧ c.vm.isStatics = false := by
  obtain ⟨c, A, -⟩ := F; exact ⟨c, A.1, A.plain⟩
theorem narB0 : nar .boolean 0 = 0 := by decide
theorem narB1 : nar .boolean 1 = 1 := by decide
end Jvm.OwnKit
namespace Jvm.Pilot.@@N@@
open Jvm Jvm.ClassFile Sem Op Lib Jvm.Free Jvm.Stand Jvm.LawKit Jvm.RoadKit Bundle Jvm.OwnFP Jvm.OwnKit Jvm.Pilot.@@N@@.Jvm.D
theorem own_s (x : Int32) : -32768 ≤ (x.toInt16.toInt32).toInt ∧ (x.toInt16.toInt32).toInt ≤ 32767 := by have := c_i2s x; omega
theorem own_h (x : Int32) : -32768 ≤ (x >>> ((16 : Int32) &&& 31)).toInt ∧ (x >>> ((16 : Int32) &&& 31)).toInt ≤ 32767 := by
  have h := c_ishr x 16 16 (by decide); have r := rng32 x
  have e : ((2 ^ 16 : Nat) : Int) = 65536 := by decide
  rw [e] at h; omega
theorem own_mb {x y : Int} (hx : -32768 ≤ x ∧ x ≤ 32767) (hy : -32768 ≤ y ∧ y ≤ 32767) : -1073741824 ≤ x * y ∧ x * y ≤ 1073741824 := by
  have h : (x * y).natAbs ≤ 32768 * 32768 := by rw [Int.natAbs_mul]; exact Nat.mul_le_mul (by omega) (by omega)
  omega
theorem own_p {x y : Int32} (hx : -32768 ≤ x.toInt ∧ x.toInt ≤ 32767) (hy : -32768 ≤ y.toInt ∧ y.toInt ≤ 32767) : Dy (x.toInt * y.toInt) 0 (FP.dmul (FP.i2d x) (FP.i2d y)) := by
  have := own_mb hx hy
  exact dy_mul (dy_i2d x) (dy_i2d y) (by decide) (by omega)
theorem own_a {n m : Int} {a b : UInt64} (ha : Dy n 0 a) (hb : Dy m 0 b) (hn : -20000000000 ≤ n ∧ n ≤ 20000000000) (hm : -1073741824 ≤ m ∧ m ≤ 1073741824) : Dy (n + m) 0 (FP.dadd a b) := dy_add ha hb (by decide) (by omega)
theorem own_eq {x : UInt64} (h : Jvm.FP.Core.val64 x ≠ .nan) : cmpValue (FP.dcmp x x) .l = 0 := (cv_eq _ _).mpr (Jvm.FP.Core.dcmp_self h)
theorem ef_rmXI (m : MethodId) (x0 : Addr) : entryFrame m #[(.ref x0)] 1 = mkF m 0 #[.val (.ref x0)] [] := by first | (simp [entryFrame, mkF, argsToLocals, Value.category]; done) | rfl
theorem d1_0 : decode prog_2_method_1_code 0 = .ok (.aload_n 0, 1) := by decide +kernel
theorem d1_1 : decode prog_2_method_1_code 1 = .ok (.invokespecial 1, 3) := by decide +kernel
theorem d1_4 : decode prog_2_method_1_code 4 = .ok (.aload_n 0, 1) := by decide +kernel
theorem d1_5 : decode prog_2_method_1_code 5 = .ok (.getstatic 7, 3) := by decide +kernel
theorem d1_8 : decode prog_2_method_1_code 8 = .ok (.newarray .double, 2) := by decide +kernel
theorem d1_10 : decode prog_2_method_1_code 10 = .ok (.putfield 13, 3) := by decide +kernel
theorem d1_13 : decode prog_2_method_1_code 13 = .ok (.return_, 1) := by decide +kernel
theorem own_pn_com_example_tabuvia_tabuvia_engine_Excess : plainName "com/example/tabuvia/tabuvia/engine/Excess" = true := by first | (simp [plainName, overriddenIn]; done) | decide +kernel
def QXI (Z : State) (a0_ : Addr) (h0 : Heap) (n0 : Nat) (v : Option Value) (h : Heap) (L : List Loc) : Prop := ∃ (arr : Addr) (kk : ClassId), v = none ∧ Fr n0 L ∧ Keep h0 h [a0_] ∧ Fld Z h a0_ "com/example/tabuvia/tabuvia/engine/Excess" "amounts" "[D" (.ref arr) ∧ Arv Z h arr kk .double (4 : Int32) [(.double (0 : UInt64)), (.double (0 : UInt64)), (.double (0 : UInt64)), (.double (0 : UInt64))] (.double (0 : UInt64)) ∧ n0 ≤ arr ∧ h0.size ≤ arr
set_option maxRecDepth 65536 in
set_option maxHeartbeats 40000000 in
theorem rmXI (l : Launch) (Z : State) (a0 : Array Value) (hw : ∀ d ∈ tables_1, d.before a0 Z = true) (ws : List Jvm.Cond) (a0_ : Addr) (h0 : Heap) (n0 : Nat) (Z0 : n0 ≤ h0.size) (E0 : Exa Z h0 a0_ "com/example/tabuvia/tabuvia/engine/Excess") (g0 : n0 ≤ a0_) (F0_amounts : Fld Z h0 a0_ "com/example/tabuvia/tabuvia/engine/Excess" "amounts" "[D" .null) (S_RULES : Sta Z h0 "com/example/tabuvia/tabuvia/engine/Excess" "RULES" "I" (.int (4 : Int32))) :
    MetFree l (⟨"com/example/tabuvia/tabuvia/engine/Excess", "<init>", "()V"⟩ : MethodName) (head1 (Jvm.Cond.code (⟨"com/example/tabuvia/tabuvia/engine/Excess", "<init>", "()V"⟩ : MethodName) prog_2_method_1_code 1 none :: ws) ({ frames := 1, cells := 1, slots := 4, locals := 12 } : Room)) (fun a U => a = #[(.ref a0_)] ∧ Z.Warmed39 U.vm ∧ U.heap = h0) (fun _ _ _ _ _ => True) (fun _ U o U' => ∃ v L, o = .returned v ∧ QXI Z a0_ h0 n0 v U'.heap L ∧ FrameEnd U o U' L ({ frames := 1, cells := 1, slots := 4, locals := 12 } : Room).cells ({ frames := 1, cells := 1, slots := 4, locals := 12 } : Room).slots) := by
  refine MetFree.of_bodySF (plainFor_of_name own_pn_com_example_tabuvia_tabuvia_engine_Excess) hisR ?_
  intro p e s m args below meth c s₁ Bd hml0 hP hK
  obtain ⟨rfl, hZ, hh⟩ := hP
  have hx := Bd.exec
  have hby := Bd.bytes
  have hml : c.maxLocals = 1 := hml0
  have hown : s.vm.findClass "com/example/tabuvia/tabuvia/engine/Excess" = some m.cls := findClass_of_methodNamed Bd.named
  have hnm := (name_of_methodNamed Bd.named Bd.method).1
  have X0 : Stand p l e ({ frames := 1, cells := 1, slots := 4, locals := 12 } : Room) s m #[(.ref a0_)] below meth c s₁ [] 0 0 := Stand.of_body Bd
  have e0 : s₁.heap = h0 := by rw [← hh, Bd.state]; rfl
  have N0 := Fr.nil n0
  have pre0 : ∀ t, Steps p.tables e below (s₁.setTop (mkF m 0 #[.val (.ref a0_)] [])) t → Steps p.tables e below (s₁.setTop (entryFrame m #[(.ref a0_)] 1)) t := fun t k => castTop (ef_rmXI m a0_) k
  have a1 : ∀ t, Steps p.tables e below (s₁.setTop (mkF m 1 #[.val (.ref a0_)] [(.ref a0_)])) t → Steps p.tables e below (s₁.setTop (entryFrame m #[(.ref a0_)] 1)) t := by
    intro t k
    refine pre0 t ?_
    show Steps p.tables e below (s₁.setTop (mkF m 0 #[.val (.ref a0_)] [])) _
    refine XS.aloadN X0.here hx rfl (hb hby d1_0) rfl rfl ?_
    exact k
  obtain ⟨T2, X2, e2, st2⟩ := initO X0 hx hZ hown (hw _ (List.mem_of_getElem? (i := 7) rfl)) (hw _ (List.mem_of_getElem? (i := 8) rfl)) (hw _ (List.mem_of_getElem? (i := 9) rfl)) e0 (g := (mkF m 1 #[.val (.ref a0_)] [(.ref a0_)])) rfl (by rw [hml]; rfl) rfl (hb hby d1_1) (by decide) (W := 0) (by show 2 * 0 + _ ≤ _; exact Nat.le_of_eq rfl) (by decide)
  have a3 : ∀ t, Steps p.tables e below (T2.setTop (mkF m 4 #[.val (.ref a0_)] [])) t → Steps p.tables e below (s₁.setTop (entryFrame m #[(.ref a0_)] 1)) t := fun t k => a1 t (st2 t k)
  have a4 : ∀ t, Steps p.tables e below (T2.setTop (mkF m 5 #[.val (.ref a0_)] [(.ref a0_)])) t → Steps p.tables e below (s₁.setTop (entryFrame m #[(.ref a0_)] 1)) t := by
    intro t k
    refine a3 t ?_
    show Steps p.tables e below (T2.setTop (mkF m 4 #[.val (.ref a0_)] [])) _
    refine XS.aloadN X2.here hx rfl (hb hby d1_4) rfl rfl ?_
    exact k
  obtain ⟨T5, X5, e5, st5⟩ := getS2 X2 hx hZ hown (host := "") (Or.inl (hw _ (List.mem_of_getElem? (i := 10) rfl))) Via.refl e2 S_RULES (g := (mkF m 5 #[.val (.ref a0_)] [(.ref a0_)])) rfl (hb hby d1_5)
  have a6 : ∀ t, Steps p.tables e below (T5.setTop (mkF m 8 #[.val (.ref a0_)] [(.int (4 : Int32)), (.ref a0_)])) t → Steps p.tables e below (s₁.setTop (entryFrame m #[(.ref a0_)] 1)) t := fun t k => a4 t (st5 t k)
  obtain ⟨T7, h7, kk7, X7, e7, E7, A7, st7⟩ := newP X5 hx hZ (hw _ (List.mem_of_getElem? (i := 0) rfl)) e5 (g := (mkF m 8 #[.val (.ref a0_)] [(.int (4 : Int32)), (.ref a0_)])) rfl (hb hby d1_8) rfl (by decide) (cap := 4) (by decide) (by decide) (by decide) (by decide)
  obtain ⟨b7, g7⟩ : ∃ z, z = h0.size := ⟨_, rfl⟩
  rw [← g7] at A7 st7
  have g_b7 : n0 ≤ b7 := Nat.le_trans Z0 (Nat.le_of_eq g7.symm)
  have sz_b7 : h0.size ≤ b7 := Nat.le_trans ((Keep.refl h0 [a0_])).1 (Nat.le_of_eq g7.symm)
  have V_b7 : Arv Z h7 b7 kk7 .double (4 : Int32) [(.double (0 : UInt64)), (.double (0 : UInt64)), (.double (0 : UInt64)), (.double (0 : UInt64))] (.double (0 : UInt64)) := (Arv.new A7 (by decide)).pad (pad_rep [] (.double (0 : UInt64)) 4)
  have K7 : Keep h0 h7 [a0_] := Keep.ext (Keep.refl h0 [a0_]) E7
  have a8 : ∀ t, Steps p.tables e below (T7.setTop (mkF m 10 #[.val (.ref a0_)] [(.ref b7), (.ref a0_)])) t → Steps p.tables e below (s₁.setTop (entryFrame m #[(.ref a0_)] 1)) t := fun t k => a6 t (st7 t k)
  obtain ⟨T9, h9, X9, e9, W9, st9⟩ := putF X7 hx hZ hown (host := "") (Or.inl (hw _ (List.mem_of_getElem? (i := 12) rfl))) Via.refl e7 (F0_amounts.ext E7) (E0.ext E7) (Or.inr ⟨(hw _ (List.mem_of_getElem? (i := 13) rfl)), rfl, hnm⟩) (hw _ (List.mem_of_getElem? (i := 2) rfl)) (ty := (.array .double)) (by decide) rfl rfl (g := (mkF m 10 #[.val (.ref a0_)] [(.ref b7), (.ref a0_)])) rfl rfl (hb hby d1_10)
  have Fw9 := Fld.same W9 (F0_amounts.ext E7)
  have N9 := Fr.snoc X9 N0 g0
  have K9 : Keep h0 h9 [a0_] := Keep.wr K7 W9 (Or.inl (List.mem_of_getElem? (i := 0) rfl))
  have a10 : ∀ t, Steps p.tables e below (T9.setTop (mkF m 13 #[.val (.ref a0_)] [])) t → Steps p.tables e below (s₁.setTop (entryFrame m #[(.ref a0_)] 1)) t := fun t k => a8 t (st9 t k)
  obtain ⟨fs, hr, hrun, hended, hW, hsame⟩ := X9.leave (v := none) (fun _ => rfl)
  refine ⟨_, _, a10 _ ?_, hrun, hended, _, _, rfl, ?_, ⟨_, rfl⟩, hW, hsame.mono (by decide) (by decide)⟩
  · show Steps p.tables e below (T9.setTop (mkF m 13 #[.val (.ref a0_)] [])) _
    exact X9.returnOut hx Bd.returns (hb hby d1_13) hr
  · show QXI Z a0_ h0 n0 _ T9.heap _
    rw [e9]
    exact ⟨b7, _, rfl, N9, K9, Fw9, (Arv.other V_b7 W9 (Ne.symm (Nat.ne_of_lt (Nat.lt_of_lt_of_le F0_amounts.lt (Nat.le_of_eq g7.symm))))), g_b7, sz_b7⟩
theorem ef_rmOrd (m : MethodId) (x0 : Addr) : entryFrame m #[(.ref x0)] 1 = mkF m 0 #[.val (.ref x0)] [] := by first | (simp [entryFrame, mkF, argsToLocals, Value.category]; done) | rfl
theorem d4_0 : decode jdk_37_method_2_code 0 = .ok (.aload_n 0, 1) := by decide +kernel
theorem d4_1 : decode jdk_37_method_2_code 1 = .ok (.getfield 7, 3) := by decide +kernel
theorem d4_4 : decode jdk_37_method_2_code 4 = .ok (.ireturn, 1) := by decide +kernel
theorem own_pn_java_lang_Enum : plainName "java/lang/Enum" = true := by first | (simp [plainName, overriddenIn]; done) | decide +kernel
def QOrd (Z : State) (a0_ : Addr) (x1 : Int32) (h0 : Heap) (n0 : Nat) (v : Option Value) (h : Heap) (L : List Loc) : Prop := v = some (.int x1) ∧ Fr n0 L ∧ h = h0
set_option maxRecDepth 65536 in
set_option maxHeartbeats 40000000 in
theorem rmOrd (l : Launch) (Z : State) (a0 : Array Value) (hw : ∀ d ∈ tables_1, d.before a0 Z = true) (ws : List Jvm.Cond) (a0_ : Addr) (x1 : Int32) (h0 : Heap) (n0 : Nat) (Z0 : n0 ≤ h0.size) (F1 : Fld Z h0 a0_ "java/lang/Enum" "ordinal" "I" (.int x1)) :
    MetFree l (⟨"java/lang/Enum", "ordinal", "()I"⟩ : MethodName) (head1 (Jvm.Cond.code (⟨"java/lang/Enum", "ordinal", "()I"⟩ : MethodName) jdk_37_method_2_code 1 (some .int) :: ws) ({ frames := 0, cells := 0, slots := 0, locals := 0 } : Room)) (fun a U => a = #[(.ref a0_)] ∧ Z.Warmed39 U.vm ∧ U.heap = h0) (fun _ _ _ _ _ => True) (fun _ U o U' => ∃ v L, o = .returned v ∧ QOrd Z a0_ x1 h0 n0 v U'.heap L ∧ FrameEnd U o U' L ({ frames := 0, cells := 0, slots := 0, locals := 0 } : Room).cells ({ frames := 0, cells := 0, slots := 0, locals := 0 } : Room).slots) := by
  refine MetFree.of_bodySF (plainFor_of_name own_pn_java_lang_Enum) hisR ?_
  intro p e s m args below meth c s₁ Bd hml0 hP hK
  obtain ⟨rfl, hZ, hh⟩ := hP
  have hx := Bd.exec
  have hby := Bd.bytes
  have hml : c.maxLocals = 1 := hml0
  have hown : s.vm.findClass "java/lang/Enum" = some m.cls := findClass_of_methodNamed Bd.named
  have hnm := (name_of_methodNamed Bd.named Bd.method).1
  have X0 : Stand p l e ({ frames := 0, cells := 0, slots := 0, locals := 0 } : Room) s m #[(.ref a0_)] below meth c s₁ [] 0 0 := Stand.of_body Bd
  have e0 : s₁.heap = h0 := by rw [← hh, Bd.state]; rfl
  have N0 := Fr.nil n0
  have pre0 : ∀ t, Steps p.tables e below (s₁.setTop (mkF m 0 #[.val (.ref a0_)] [])) t → Steps p.tables e below (s₁.setTop (entryFrame m #[(.ref a0_)] 1)) t := fun t k => castTop (ef_rmOrd m a0_) k
  have a1 : ∀ t, Steps p.tables e below (s₁.setTop (mkF m 1 #[.val (.ref a0_)] [(.ref a0_)])) t → Steps p.tables e below (s₁.setTop (entryFrame m #[(.ref a0_)] 1)) t := by
    intro t k
    refine pre0 t ?_
    show Steps p.tables e below (s₁.setTop (mkF m 0 #[.val (.ref a0_)] [])) _
    refine XS.aloadN X0.here hx rfl (hb hby d4_0) rfl rfl ?_
    exact k
  obtain ⟨T2, X2, e2, st2⟩ := getF X0 hx hZ hown (host := "") (Or.inl (hw _ (List.mem_of_getElem? (i := 29) rfl))) Via.refl e0 F1 (g := (mkF m 1 #[.val (.ref a0_)] [(.ref a0_)])) rfl rfl (hb hby d4_1)
  have a3 : ∀ t, Steps p.tables e below (T2.setTop (mkF m 4 #[.val (.ref a0_)] [(.int x1)])) t → Steps p.tables e below (s₁.setTop (entryFrame m #[(.ref a0_)] 1)) t := fun t k => a1 t (st2 t k)
  obtain ⟨fs, hr, hrun, hended, hW, hsame⟩ := X2.leave (v := some (.int x1)) (fun h => by rw [Bd.returns] at h; cases h)
  refine ⟨_, _, a3 _ ?_, hrun, hended, _, _, rfl, ?_, ⟨_, rfl⟩, hW, hsame.mono (by decide) (by decide)⟩
  · show Steps p.tables e below (T2.setTop (mkF m 4 #[.val (.ref a0_)] [(.int x1)])) _
    exact retOut X2 hx Bd.returns rfl (Or.inl ⟨rfl, Or.inl rfl, _, rfl⟩) (hb hby d4_4) hr
  · show QOrd Z a0_ x1 h0 n0 _ T2.heap _
    rw [e2]
    exact ⟨rfl, N0, rfl⟩
theorem ef_rmSet (m : MethodId) (x0 : Addr) (x1 : Addr) (x2 : UInt64) : entryFrame m #[(.ref x0), (.ref x1), (.double x2)] 4 = mkF m 0 #[.val (.ref x0), .val (.ref x1), .val (.double x2), .second] [] := by first | (simp [entryFrame, mkF, argsToLocals, Value.category]; done) | rfl
theorem d3_0 : decode prog_2_method_3_code 0 = .ok (.aload_n 0, 1) := by decide +kernel
theorem d3_1 : decode prog_2_method_3_code 1 = .ok (.getfield 13, 3) := by decide +kernel
theorem d3_4 : decode prog_2_method_3_code 4 = .ok (.aload_n 1, 1) := by decide +kernel
theorem d3_5 : decode prog_2_method_3_code 5 = .ok (.invokevirtual 17, 3) := by decide +kernel
theorem own_pd0 : parseMethodDescriptor "()I" = some ⟨[], some .int⟩ := by decide +kernel
theorem d3_8 : decode prog_2_method_3_code 8 = .ok (.dload_n 2, 1) := by decide +kernel
theorem d3_9 : decode prog_2_method_3_code 9 = .ok (.dastore, 1) := by decide +kernel
theorem d3_10 : decode prog_2_method_3_code 10 = .ok (.return_, 1) := by decide +kernel
def QSet (Z : State) (a0_ : Addr) (a1_ : Addr) (d2 : UInt64) (arr : Addr) (kk : ClassId) (vs : List Value) (jj : Int32) (i : Nat) (h0 : Heap) (n0 : Nat) (v : Option Value) (h : Heap) (L : List Loc) : Prop := v = none ∧ Fr n0 L ∧ Keep h0 h [arr] ∧ Arv Z h arr kk .double (4 : Int32) (vs.set i (.double d2)) (.double (0 : UInt64))
set_option maxRecDepth 65536 in
set_option maxHeartbeats 40000000 in
theorem rmSet (l : Launch) (Z : State) (a0 : Array Value) (hw : ∀ d ∈ tables_1, d.before a0 Z = true) (ws : List Jvm.Cond) (a0_ : Addr) (a1_ : Addr) (d2 : UInt64) (arr : Addr) (kk : ClassId) (vs : List Value) (jj : Int32) (i : Nat) (h0 : Heap) (n0 : Nat) (Z0 : n0 ≤ h0.size) (F1 : Fld Z h0 a0_ "com/example/tabuvia/tabuvia/engine/Excess" "amounts" "[D" (.ref arr)) (PA1 : Arv Z h0 arr kk .double (4 : Int32) vs (.double (0 : UInt64))) (F2 : Fld Z h0 a1_ "java/lang/Enum" "ordinal" "I" (.int jj)) (PX2 : Exa Z h0 a1_ "com/example/tabuvia/tabuvia/engine/Rule") (g1 : n0 ≤ arr) (hj : jj.toNatClampNeg = i) (hi : i < vs.length) (hb_ : ¬ jj < 0 ∧ jj < (4 : Int32)) :
    MetFree l (⟨"com/example/tabuvia/tabuvia/engine/Excess", "set", "(Lcom/example/tabuvia/tabuvia/engine/Rule;D)V"⟩ : MethodName) (head1 (Jvm.Cond.code (⟨"com/example/tabuvia/tabuvia/engine/Excess", "set", "(Lcom/example/tabuvia/tabuvia/engine/Rule;D)V"⟩ : MethodName) prog_2_method_3_code 4 none :: ws) ({ frames := 1, cells := 0, slots := 0, locals := 14 } : Room)) (fun a U => a = #[(.ref a0_), (.ref a1_), (.double d2)] ∧ Z.Warmed39 U.vm ∧ U.heap = h0) (fun _ _ _ _ _ => True) (fun _ U o U' => ∃ v L, o = .returned v ∧ QSet Z a0_ a1_ d2 arr kk vs jj i h0 n0 v U'.heap L ∧ FrameEnd U o U' L ({ frames := 1, cells := 0, slots := 0, locals := 14 } : Room).cells ({ frames := 1, cells := 0, slots := 0, locals := 14 } : Room).slots) := by
  refine MetFree.of_bodySF (plainFor_of_name own_pn_com_example_tabuvia_tabuvia_engine_Excess) hisR ?_
  intro p e s m args below meth c s₁ Bd hml0 hP hK
  obtain ⟨rfl, hZ, hh⟩ := hP
  have hx := Bd.exec
  have hby := Bd.bytes
  have hml : c.maxLocals = 4 := hml0
  have hown : s.vm.findClass "com/example/tabuvia/tabuvia/engine/Excess" = some m.cls := findClass_of_methodNamed Bd.named
  have hnm := (name_of_methodNamed Bd.named Bd.method).1
  have X0 : Stand p l e ({ frames := 1, cells := 0, slots := 0, locals := 14 } : Room) s m #[(.ref a0_), (.ref a1_), (.double d2)] below meth c s₁ [] 0 0 := Stand.of_body Bd
  have e0 : s₁.heap = h0 := by rw [← hh, Bd.state]; rfl
  have N0 := Fr.nil n0
  have pre0 : ∀ t, Steps p.tables e below (s₁.setTop (mkF m 0 #[.val (.ref a0_), .val (.ref a1_), .val (.double d2), .second] [])) t → Steps p.tables e below (s₁.setTop (entryFrame m #[(.ref a0_), (.ref a1_), (.double d2)] 4)) t := fun t k => castTop (ef_rmSet m a0_ a1_ d2) k
  have a1 : ∀ t, Steps p.tables e below (s₁.setTop (mkF m 1 #[.val (.ref a0_), .val (.ref a1_), .val (.double d2), .second] [(.ref a0_)])) t → Steps p.tables e below (s₁.setTop (entryFrame m #[(.ref a0_), (.ref a1_), (.double d2)] 4)) t := by
    intro t k
    refine pre0 t ?_
    show Steps p.tables e below (s₁.setTop (mkF m 0 #[.val (.ref a0_), .val (.ref a1_), .val (.double d2), .second] [])) _
    refine XS.aloadN X0.here hx rfl (hb hby d3_0) rfl rfl ?_
    exact k
  obtain ⟨T2, X2, e2, st2⟩ := getF X0 hx hZ hown (host := "") (Or.inl (hw _ (List.mem_of_getElem? (i := 12) rfl))) Via.refl e0 F1 (g := (mkF m 1 #[.val (.ref a0_), .val (.ref a1_), .val (.double d2), .second] [(.ref a0_)])) rfl rfl (hb hby d3_1)
  have a3 : ∀ t, Steps p.tables e below (T2.setTop (mkF m 4 #[.val (.ref a0_), .val (.ref a1_), .val (.double d2), .second] [(.ref arr)])) t → Steps p.tables e below (s₁.setTop (entryFrame m #[(.ref a0_), (.ref a1_), (.double d2)] 4)) t := fun t k => a1 t (st2 t k)
  have a4 : ∀ t, Steps p.tables e below (T2.setTop (mkF m 5 #[.val (.ref a0_), .val (.ref a1_), .val (.double d2), .second] [(.ref a1_), (.ref arr)])) t → Steps p.tables e below (s₁.setTop (entryFrame m #[(.ref a0_), (.ref a1_), (.double d2)] 4)) t := by
    intro t k
    refine a3 t ?_
    show Steps p.tables e below (T2.setTop (mkF m 4 #[.val (.ref a0_), .val (.ref a1_), .val (.double d2), .second] [(.ref arr)])) _
    refine XS.aloadN X2.here hx rfl (hb hby d3_4) rfl rfl ?_
    exact k
  obtain ⟨cq5, kq5, q5a, q5b, q5c⟩ := isOf hZ e2 PX2
  obtain ⟨_, _, ⟨T5, L5, k5, n5⟩, -, X5, ⟨Lc5, hQ5, l5, y5, z5⟩, st5⟩ := X2.virtualBackUp hx (x := (⟨"com/example/tabuvia/tabuvia/engine/Rule", "ordinal", "()I"⟩ : MethodName)) (y := (⟨"java/lang/Enum", "ordinal", "()I"⟩ : MethodName)) hown (mvT hZ (hw _ (List.mem_of_getElem? (i := 22) rfl))) (mvT hZ (hw _ (List.mem_of_getElem? (i := 23) rfl))) (mvT hZ (hw _ (List.mem_of_getElem? (i := 24) rfl))) (by decide) (mvT hZ (hw _ (List.mem_of_getElem? (i := 26) rfl))) (mvT hZ (hw _ (List.mem_of_getElem? (i := 25) rfl))) (backOf (W := 1) (rmOrd l Z a0 hw [] a1_ jj h0 n0 Z0 F2) hZ (hw _ (List.mem_of_getElem? (i := 28) rfl)) (hw _ (List.mem_of_getElem? (i := 27) rfl)) (by decide) (by decide)) q5a q5c (g := (mkF m 5 #[.val (.ref a0_), .val (.ref a1_), .val (.double d2), .second] [(.ref a1_), (.ref arr)])) rfl (by rw [hml]; rfl) (Steps.refl _) (argsL := []) (rest := [(.ref arr)]) (lenOf own_pd0 rfl) rfl (by show 2 * 0 + _ ≤ _; exact Nat.le_of_eq rfl) (hb hby d3_5) (fun _ _ => ⟨rfl, e2, (by decide : 0 + 0 ≤ _), (by decide : 0 + 0 ≤ _)⟩)
  dsimp only [Pt.U, Pt.locs, Pt.cells, Pt.slots] at X5 l5 y5 z5 st5 hQ5
  subst l5 y5 z5
  obtain ⟨rfl, N5q, e5q⟩ := hQ5
  have N5 := Fr.app N0 N5q
  have a6 : ∀ t, Steps p.tables e below (T5.setTop (mkF m 8 #[.val (.ref a0_), .val (.ref a1_), .val (.double d2), .second] [(.int jj), (.ref arr)])) t → Steps p.tables e below (s₁.setTop (entryFrame m #[(.ref a0_), (.ref a1_), (.double d2)] 4)) t := fun t k => a4 t (st5.trans k)
  have a7 : ∀ t, Steps p.tables e below (T5.setTop (mkF m 9 #[.val (.ref a0_), .val (.ref a1_), .val (.double d2), .second] [(.double d2), (.int jj), (.ref arr)])) t → Steps p.tables e below (s₁.setTop (entryFrame m #[(.ref a0_), (.ref a1_), (.double d2)] 4)) t := by
    intro t k
    refine a6 t ?_
    show Steps p.tables e below (T5.setTop (mkF m 8 #[.val (.ref a0_), .val (.ref a1_), .val (.double d2), .second] [(.int jj), (.ref arr)])) _
    refine XS.dloadN X5.here hx rfl (hb hby d3_8) rfl ?_
    exact k
  obtain ⟨cl8, Ar8, qc8, Sz8, Nn8, Hs8, Gs8⟩ := id PA1
  have hin8 : ¬ (jj < 0 ∨ cl8.slots.size ≤ (jj).toNatClampNeg) := inb_of Sz8 hb_
  obtain ⟨T9, h9, X9, e9, W9, st9⟩ := stD X5 hx hZ e5q Ar8 (j := jj) hin8 (g := (mkF m 9 #[.val (.ref a0_), .val (.ref a1_), .val (.double d2), .second] [(.double d2), (.int jj), (.ref arr)])) rfl rfl (hb hby d3_9)
  have V9 : Arv Z h9 arr kk .double (4 : Int32) (vs.set i (.double d2)) (.double (0 : UInt64)) := Arv.set Ar8 qc8 Sz8 Nn8 Hs8 Gs8 rfl W9 i hj hi
  have N9 := Fr.snoc X9 N5 g1
  have K9 : Keep h0 h9 [arr] := Keep.wr (Keep.refl h0 [arr]) W9 (Or.inl (List.mem_of_getElem? (i := 0) rfl))
  have a10 : ∀ t, Steps p.tables e below (T9.setTop (mkF m 10 #[.val (.ref a0_), .val (.ref a1_), .val (.double d2), .second] [])) t → Steps p.tables e below (s₁.setTop (entryFrame m #[(.ref a0_), (.ref a1_), (.double d2)] 4)) t := fun t k => a7 t (st9 t k)
  obtain ⟨fs, hr, hrun, hended, hW, hsame⟩ := X9.leave (v := none) (fun _ => rfl)
  refine ⟨_, _, a10 _ ?_, hrun, hended, _, _, rfl, ?_, ⟨_, rfl⟩, hW, hsame.mono (by decide) (by decide)⟩
  · show Steps p.tables e below (T9.setTop (mkF m 10 #[.val (.ref a0_), .val (.ref a1_), .val (.double d2), .second] [])) _
    exact X9.returnOut hx Bd.returns (hb hby d3_10) hr
  · show QSet Z a0_ a1_ d2 arr kk vs jj i h0 n0 _ T9.heap _
    rw [e9]
    exact ⟨rfl, N9, K9, V9⟩
theorem ef_rmW (m : MethodId) (x0 : Addr) (x1 : UInt64) (x2 : Addr) : entryFrame m #[(.ref x0), (.double x1), (.ref x2)] 7 = mkF m 0 #[.val (.ref x0), .val (.double x1), .second, .val (.ref x2), .unset, .unset, .unset] [] := by first | (simp [entryFrame, mkF, argsToLocals, Value.category]; done) | rfl
theorem d5_0 : decode prog_2_method_11_code 0 = .ok (.dload_n 1, 1) := by decide +kernel
theorem d5_1 : decode prog_2_method_11_code 1 = .ok (.dstore 4, 2) := by decide +kernel
theorem d5_3 : decode prog_2_method_11_code 3 = .ok (.iconst 0, 1) := by decide +kernel
theorem d5_4 : decode prog_2_method_11_code 4 = .ok (.istore 6, 2) := by decide +kernel
theorem d5_6 : decode prog_2_method_11_code 6 = .ok (.iload 6, 2) := by decide +kernel
theorem d5_8 : decode prog_2_method_11_code 8 = .ok (.getstatic 7, 3) := by decide +kernel
theorem d5_11 : decode prog_2_method_11_code 11 = .ok (.if_icmp .ge 26, 3) := by decide +kernel
theorem d5_14 : decode prog_2_method_11_code 14 = .ok (.dload 4, 2) := by decide +kernel
theorem d5_16 : decode prog_2_method_11_code 16 = .ok (.aload_n 3, 1) := by decide +kernel
theorem d5_17 : decode prog_2_method_11_code 17 = .ok (.iload 6, 2) := by decide +kernel
theorem d5_19 : decode prog_2_method_11_code 19 = .ok (.daload, 1) := by decide +kernel
theorem d5_20 : decode prog_2_method_11_code 20 = .ok (.aload_n 0, 1) := by decide +kernel
theorem d5_21 : decode prog_2_method_11_code 21 = .ok (.getfield 13, 3) := by decide +kernel
theorem d5_24 : decode prog_2_method_11_code 24 = .ok (.iload 6, 2) := by decide +kernel
theorem d5_26 : decode prog_2_method_11_code 26 = .ok (.daload, 1) := by decide +kernel
theorem d5_27 : decode prog_2_method_11_code 27 = .ok (.dmul, 1) := by decide +kernel
theorem d5_28 : decode prog_2_method_11_code 28 = .ok (.dadd, 1) := by decide +kernel
theorem d5_29 : decode prog_2_method_11_code 29 = .ok (.dstore 4, 2) := by decide +kernel
theorem d5_31 : decode prog_2_method_11_code 31 = .ok (.iinc 6 1, 3) := by decide +kernel
theorem d5_34 : decode prog_2_method_11_code 34 = .ok (.goto (-28), 3) := by decide +kernel
theorem d5_37 : decode prog_2_method_11_code 37 = .ok (.dload 4, 2) := by decide +kernel
theorem d5_39 : decode prog_2_method_11_code 39 = .ok (.dreturn, 1) := by decide +kernel
def QW (Z : State) (a0_ : Addr) (d1 : UInt64) (a2_ : Addr) (arr : Addr) (kk kw : ClassId) (u0 u1 u2 u3 c0 c1 c2 c3 : UInt64) (h0 : Heap) (n0 : Nat) (v : Option Value) (h : Heap) (L : List Loc) : Prop := v = some (.double (FP.dadd (FP.dadd (FP.dadd (FP.dadd d1 (FP.dmul u0 c0)) (FP.dmul u1 c1)) (FP.dmul u2 c2)) (FP.dmul u3 c3))) ∧ Fr n0 L ∧ h = h0
set_option maxRecDepth 65536 in
set_option maxHeartbeats 40000000 in
theorem rmW (l : Launch) (Z : State) (a0 : Array Value) (hw : ∀ d ∈ tables_1, d.before a0 Z = true) (ws : List Jvm.Cond) (a0_ : Addr) (d1 : UInt64) (a2_ : Addr) (arr : Addr) (kk kw : ClassId) (u0 u1 u2 u3 c0 c1 c2 c3 : UInt64) (h0 : Heap) (n0 : Nat) (Z0 : n0 ≤ h0.size) (S_RULES : Sta Z h0 "com/example/tabuvia/tabuvia/engine/Excess" "RULES" "I" (.int (4 : Int32))) (F1 : Fld Z h0 a0_ "com/example/tabuvia/tabuvia/engine/Excess" "amounts" "[D" (.ref arr)) (PA1 : Arv Z h0 arr kk .double (4 : Int32) [(.double c0), (.double c1), (.double c2), (.double c3)] (.double (0 : UInt64))) (PA2 : Arv Z h0 a2_ kw .double (4 : Int32) [(.double u0), (.double u1), (.double u2), (.double u3)] (.double (0 : UInt64))) (n0_ : Jvm.Free.Fl.NoNaN64 (FP.dmul u0 c0)) (n1_ : Jvm.Free.Fl.NoNaN64 (FP.dmul u1 c1)) (n2_ : Jvm.Free.Fl.NoNaN64 (FP.dmul u2 c2)) (n3_ : Jvm.Free.Fl.NoNaN64 (FP.dmul u3 c3)) (m0_ : Jvm.Free.Fl.NoNaN64 (FP.dadd d1 (FP.dmul u0 c0))) (m1_ : Jvm.Free.Fl.NoNaN64 (FP.dadd (FP.dadd d1 (FP.dmul u0 c0)) (FP.dmul u1 c1))) (m2_ : Jvm.Free.Fl.NoNaN64 (FP.dadd (FP.dadd (FP.dadd d1 (FP.dmul u0 c0)) (FP.dmul u1 c1)) (FP.dmul u2 c2))) (m3_ : Jvm.Free.Fl.NoNaN64 (FP.dadd (FP.dadd (FP.dadd (FP.dadd d1 (FP.dmul u0 c0)) (FP.dmul u1 c1)) (FP.dmul u2 c2)) (FP.dmul u3 c3))) :
    MetFree l (⟨"com/example/tabuvia/tabuvia/engine/Excess", "weighted", "(D[D)D"⟩ : MethodName) (head1 (Jvm.Cond.code (⟨"com/example/tabuvia/tabuvia/engine/Excess", "weighted", "(D[D)D"⟩ : MethodName) prog_2_method_11_code 7 (some .double) :: ws) ({ frames := 0, cells := 0, slots := 0, locals := 0 } : Room)) (fun a U => a = #[(.ref a0_), (.double d1), (.ref a2_)] ∧ Z.Warmed39 U.vm ∧ U.heap = h0) (fun _ _ _ _ _ => True) (fun _ U o U' => ∃ v L, o = .returned v ∧ QW Z a0_ d1 a2_ arr kk kw u0 u1 u2 u3 c0 c1 c2 c3 h0 n0 v U'.heap L ∧ FrameEnd U o U' L ({ frames := 0, cells := 0, slots := 0, locals := 0 } : Room).cells ({ frames := 0, cells := 0, slots := 0, locals := 0 } : Room).slots) := by
  refine MetFree.of_bodySF (plainFor_of_name own_pn_com_example_tabuvia_tabuvia_engine_Excess) hisR ?_
  intro p e s m args below meth c s₁ Bd hml0 hP hK
  obtain ⟨rfl, hZ, hh⟩ := hP
  have hx := Bd.exec
  have hby := Bd.bytes
  have hml : c.maxLocals = 7 := hml0
  have hown : s.vm.findClass "com/example/tabuvia/tabuvia/engine/Excess" = some m.cls := findClass_of_methodNamed Bd.named
  have hnm := (name_of_methodNamed Bd.named Bd.method).1
  have X0 : Stand p l e ({ frames := 0, cells := 0, slots := 0, locals := 0 } : Room) s m #[(.ref a0_), (.double d1), (.ref a2_)] below meth c s₁ [] 0 0 := Stand.of_body Bd
  have e0 : s₁.heap = h0 := by rw [← hh, Bd.state]; rfl
  have N0 := Fr.nil n0
  have pre0 : ∀ t, Steps p.tables e below (s₁.setTop (mkF m 0 #[.val (.ref a0_), .val (.double d1), .second, .val (.ref a2_), .unset, .unset, .unset] [])) t → Steps p.tables e below (s₁.setTop (entryFrame m #[(.ref a0_), (.double d1), (.ref a2_)] 7)) t := fun t k => castTop (ef_rmW m a0_ d1 a2_) k
  have a1 : ∀ t, Steps p.tables e below (s₁.setTop (mkF m 8 #[.val (.ref a0_), .val (.double d1), .second, .val (.ref a2_), .val (.double d1), .second, .val (.int (0 : Int32))] [(.int (0 : Int32))])) t → Steps p.tables e below (s₁.setTop (entryFrame m #[(.ref a0_), (.double d1), (.ref a2_)] 7)) t := by
    intro t k
    refine pre0 t ?_
    show Steps p.tables e below (s₁.setTop (mkF m 0 #[.val (.ref a0_), .val (.double d1), .second, .val (.ref a2_), .unset, .unset, .unset] [])) _
    refine XS.dloadN X0.here hx rfl (hb hby d5_0) rfl ?_
    show Steps p.tables e below (s₁.setTop (mkF m 1 #[.val (.ref a0_), .val (.double d1), .second, .val (.ref a2_), .unset, .unset, .unset] [(.double d1)])) _
    refine XS.dstore X0.here hx rfl (hb hby d5_1) rfl (l' := #[.val (.ref a0_), .val (.double d1), .second, .val (.ref a2_), .val (.double d1), .second, .unset]) rfl ?_
    show Steps p.tables e below (s₁.setTop (mkF m 3 #[.val (.ref a0_), .val (.double d1), .second, .val (.ref a2_), .val (.double d1), .second, .unset] [])) _
    refine XS.iconst X0.here hx rfl (hb hby d5_3) ?_
    show Steps p.tables e below (s₁.setTop (mkF m 4 #[.val (.ref a0_), .val (.double d1), .second, .val (.ref a2_), .val (.double d1), .second, .unset] [(.int (0 : Int32))])) _
    refine XS.istore X0.here hx rfl (hb hby d5_4) rfl (l' := #[.val (.ref a0_), .val (.double d1), .second, .val (.ref a2_), .val (.double d1), .second, .val (.int (0 : Int32))]) rfl ?_
    show Steps p.tables e below (s₁.setTop (mkF m 6 #[.val (.ref a0_), .val (.double d1), .second, .val (.ref a2_), .val (.double d1), .second, .val (.int (0 : Int32))] [])) _
    refine XS.iload X0.here hx rfl (hb hby d5_6) rfl ?_
    exact k
  obtain ⟨T2, X2, e2, st2⟩ := getS2 X0 hx hZ hown (host := "") (Or.inl (hw _ (List.mem_of_getElem? (i := 10) rfl))) Via.refl e0 S_RULES (g := (mkF m 8 #[.val (.ref a0_), .val (.double d1), .second, .val (.ref a2_), .val (.double d1), .second, .val (.int (0 : Int32))] [(.int (0 : Int32))])) rfl (hb hby d5_8)
  have a3 : ∀ t, Steps p.tables e below (T2.setTop (mkF m 11 #[.val (.ref a0_), .val (.double d1), .second, .val (.ref a2_), .val (.double d1), .second, .val (.int (0 : Int32))] [(.int (4 : Int32)), (.int (0 : Int32))])) t → Steps p.tables e below (s₁.setTop (entryFrame m #[(.ref a0_), (.double d1), (.ref a2_)] 7)) t := fun t k => a1 t (st2 t k)
  have a4 : ∀ t, Steps p.tables e below (T2.setTop (mkF m 19 #[.val (.ref a0_), .val (.double d1), .second, .val (.ref a2_), .val (.double d1), .second, .val (.int (0 : Int32))] [(.int (0 : Int32)), (.ref a2_), (.double d1)])) t → Steps p.tables e below (s₁.setTop (entryFrame m #[(.ref a0_), (.double d1), (.ref a2_)] 7)) t := by
    intro t k
    refine a3 t ?_
    show Steps p.tables e below (T2.setTop (mkF m 11 #[.val (.ref a0_), .val (.double d1), .second, .val (.ref a2_), .val (.double d1), .second, .val (.int (0 : Int32))] [(.int (4 : Int32)), (.int (0 : Int32))])) _
    refine XS.icmpNo X2.here hx rfl (hb hby d5_11) rfl (tlt (by decide)).2.1 ?_
    show Steps p.tables e below (T2.setTop (mkF m 14 #[.val (.ref a0_), .val (.double d1), .second, .val (.ref a2_), .val (.double d1), .second, .val (.int (0 : Int32))] [])) _
    refine XS.dload X2.here hx rfl (hb hby d5_14) rfl ?_
    show Steps p.tables e below (T2.setTop (mkF m 16 #[.val (.ref a0_), .val (.double d1), .second, .val (.ref a2_), .val (.double d1), .second, .val (.int (0 : Int32))] [(.double d1)])) _
    refine XS.aloadN X2.here hx rfl (hb hby d5_16) rfl rfl ?_
    show Steps p.tables e below (T2.setTop (mkF m 17 #[.val (.ref a0_), .val (.double d1), .second, .val (.ref a2_), .val (.double d1), .second, .val (.int (0 : Int32))] [(.ref a2_), (.double d1)])) _
    refine XS.iload X2.here hx rfl (hb hby d5_17) rfl ?_
    exact k
  obtain ⟨cl5, Ar5, qc5, Sz5, Nn5, Hs5, Gs5⟩ := id PA2
  have hin5 : ¬ ((0 : Int32) < 0 ∨ cl5.slots.size ≤ ((0 : Int32)).toNatClampNeg) := inb_of Sz5 ⟨by decide, by decide⟩
  have hat5 := Hs5.at hin5 (v := (.double u0)) rfl
  have a6 : ∀ t, Steps p.tables e below (T2.setTop (mkF m 21 #[.val (.ref a0_), .val (.double d1), .second, .val (.ref a2_), .val (.double d1), .second, .val (.int (0 : Int32))] [(.ref a0_), (.double u0), (.double d1)])) t → Steps p.tables e below (s₁.setTop (entryFrame m #[(.ref a0_), (.double d1), (.ref a2_)] 7)) t := by
    intro t k
    refine a4 t ?_
    show Steps p.tables e below (T2.setTop (mkF m 19 #[.val (.ref a0_), .val (.double d1), .second, .val (.ref a2_), .val (.double d1), .second, .val (.int (0 : Int32))] [(.int (0 : Int32)), (.ref a2_), (.double d1)])) _
    refine X2.daload hx (j := (0 : Int32)) (v := (.double u0)) (by rw [e2]; exact Ar5.1) (State.isArrayOf_alike hZ.alike Ar5.2.1) Ar5.2.2 hin5 hat5 (g := (mkF m 19 #[.val (.ref a0_), .val (.double d1), .second, .val (.ref a2_), .val (.double d1), .second, .val (.int (0 : Int32))] [(.int (0 : Int32)), (.ref a2_), (.double d1)])) rfl rfl (hb hby d5_19) _ ?_
    show Steps p.tables e below (T2.setTop (mkF m 20 #[.val (.ref a0_), .val (.double d1), .second, .val (.ref a2_), .val (.double d1), .second, .val (.int (0 : Int32))] [(.double u0), (.double d1)])) _
    refine XS.aloadN X2.here hx rfl (hb hby d5_20) rfl rfl ?_
    exact k
  obtain ⟨T7, X7, e7, st7⟩ := getF X2 hx hZ hown (host := "") (Or.inl (hw _ (List.mem_of_getElem? (i := 12) rfl))) Via.refl e2 F1 (g := (mkF m 21 #[.val (.ref a0_), .val (.double d1), .second, .val (.ref a2_), .val (.double d1), .second, .val (.int (0 : Int32))] [(.ref a0_), (.double u0), (.double d1)])) rfl rfl (hb hby d5_21)
  have a8 : ∀ t, Steps p.tables e below (T7.setTop (mkF m 24 #[.val (.ref a0_), .val (.double d1), .second, .val (.ref a2_), .val (.double d1), .second, .val (.int (0 : Int32))] [(.ref arr), (.double u0), (.double d1)])) t → Steps p.tables e below (s₁.setTop (entryFrame m #[(.ref a0_), (.double d1), (.ref a2_)] 7)) t := fun t k => a6 t (st7 t k)
  have a9 : ∀ t, Steps p.tables e below (T7.setTop (mkF m 26 #[.val (.ref a0_), .val (.double d1), .second, .val (.ref a2_), .val (.double d1), .second, .val (.int (0 : Int32))] [(.int (0 : Int32)), (.ref arr), (.double u0), (.double d1)])) t → Steps p.tables e below (s₁.setTop (entryFrame m #[(.ref a0_), (.double d1), (.ref a2_)] 7)) t := by
    intro t k
    refine a8 t ?_
    show Steps p.tables e below (T7.setTop (mkF m 24 #[.val (.ref a0_), .val (.double d1), .second, .val (.ref a2_), .val (.double d1), .second, .val (.int (0 : Int32))] [(.ref arr), (.double u0), (.double d1)])) _
    refine XS.iload X7.here hx rfl (hb hby d5_24) rfl ?_
    exact k
  obtain ⟨cl10, Ar10, qc10, Sz10, Nn10, Hs10, Gs10⟩ := id PA1
  have hin10 : ¬ ((0 : Int32) < 0 ∨ cl10.slots.size ≤ ((0 : Int32)).toNatClampNeg) := inb_of Sz10 ⟨by decide, by decide⟩
  have hat10 := Hs10.at hin10 (v := (.double c0)) rfl
  have a11 : ∀ t, Steps p.tables e below (T7.setTop (mkF m 8 #[.val (.ref a0_), .val (.double d1), .second, .val (.ref a2_), .val (.double (FP.dadd d1 (FP.dmul u0 c0))), .second, .val (.int (1 : Int32))] [(.int (1 : Int32))])) t → Steps p.tables e below (s₁.setTop (entryFrame m #[(.ref a0_), (.double d1), (.ref a2_)] 7)) t := by
    intro t k
    refine a9 t ?_
    show Steps p.tables e below (T7.setTop (mkF m 26 #[.val (.ref a0_), .val (.double d1), .second, .val (.ref a2_), .val (.double d1), .second, .val (.int (0 : Int32))] [(.int (0 : Int32)), (.ref arr), (.double u0), (.double d1)])) _
    refine X7.daload hx (j := (0 : Int32)) (v := (.double c0)) (by rw [e7]; exact Ar10.1) (State.isArrayOf_alike hZ.alike Ar10.2.1) Ar10.2.2 hin10 hat10 (g := (mkF m 26 #[.val (.ref a0_), .val (.double d1), .second, .val (.ref a2_), .val (.double d1), .second, .val (.int (0 : Int32))] [(.int (0 : Int32)), (.ref arr), (.double u0), (.double d1)])) rfl rfl (hb hby d5_26) _ ?_
    show Steps p.tables e below (T7.setTop (mkF m 27 #[.val (.ref a0_), .val (.double d1), .second, .val (.ref a2_), .val (.double d1), .second, .val (.int (0 : Int32))] [(.double c0), (.double u0), (.double d1)])) _
    refine XS.dmulS X7.here hx rfl (hb hby d5_27) rfl n0_ rfl ?_
    show Steps p.tables e below (T7.setTop (mkF m 28 #[.val (.ref a0_), .val (.double d1), .second, .val (.ref a2_), .val (.double d1), .second, .val (.int (0 : Int32))] [(.double (FP.dmul u0 c0)), (.double d1)])) _
    refine XS.daddS X7.here hx rfl (hb hby d5_28) rfl m0_ rfl ?_
    show Steps p.tables e below (T7.setTop (mkF m 29 #[.val (.ref a0_), .val (.double d1), .second, .val (.ref a2_), .val (.double d1), .second, .val (.int (0 : Int32))] [(.double (FP.dadd d1 (FP.dmul u0 c0)))])) _
    refine XS.dstore X7.here hx rfl (hb hby d5_29) rfl (l' := #[.val (.ref a0_), .val (.double d1), .second, .val (.ref a2_), .val (.double (FP.dadd d1 (FP.dmul u0 c0))), .second, .val (.int (0 : Int32))]) rfl ?_
    show Steps p.tables e below (T7.setTop (mkF m 31 #[.val (.ref a0_), .val (.double d1), .second, .val (.ref a2_), .val (.double (FP.dadd d1 (FP.dmul u0 c0))), .second, .val (.int (0 : Int32))] [])) _
    refine XS.iinc X7.here hx rfl (hb hby d5_31) rfl (l' := #[.val (.ref a0_), .val (.double d1), .second, .val (.ref a2_), .val (.double (FP.dadd d1 (FP.dmul u0 c0))), .second, .val (.int (1 : Int32))]) rfl ?_
    show Steps p.tables e below (T7.setTop (mkF m 34 #[.val (.ref a0_), .val (.double d1), .second, .val (.ref a2_), .val (.double (FP.dadd d1 (FP.dmul u0 c0))), .second, .val (.int (1 : Int32))] [])) _
    refine XS.goto X7.here hx rfl (pc0 := 34) (pc' := 6) rfl (hb hby d5_34) (by decide) (by decide) ?_
    show Steps p.tables e below (T7.setTop (mkF m 6 #[.val (.ref a0_), .val (.double d1), .second, .val (.ref a2_), .val (.double (FP.dadd d1 (FP.dmul u0 c0))), .second, .val (.int (1 : Int32))] [])) _
    refine XS.iload X7.here hx rfl (hb hby d5_6) rfl ?_
    exact k
  obtain ⟨T12, X12, e12, st12⟩ := getS2 X7 hx hZ hown (host := "") (Or.inl (hw _ (List.mem_of_getElem? (i := 10) rfl))) Via.refl e7 S_RULES (g := (mkF m 8 #[.val (.ref a0_), .val (.double d1), .second, .val (.ref a2_), .val (.double (FP.dadd d1 (FP.dmul u0 c0))), .second, .val (.int (1 : Int32))] [(.int (1 : Int32))])) rfl (hb hby d5_8)
  have a13 : ∀ t, Steps p.tables e below (T12.setTop (mkF m 11 #[.val (.ref a0_), .val (.double d1), .second, .val (.ref a2_), .val (.double (FP.dadd d1 (FP.dmul u0 c0))), .second, .val (.int (1 : Int32))] [(.int (4 : Int32)), (.int (1 : Int32))])) t → Steps p.tables e below (s₁.setTop (entryFrame m #[(.ref a0_), (.double d1), (.ref a2_)] 7)) t := fun t k => a11 t (st12 t k)
  have a14 : ∀ t, Steps p.tables e below (T12.setTop (mkF m 19 #[.val (.ref a0_), .val (.double d1), .second, .val (.ref a2_), .val (.double (FP.dadd d1 (FP.dmul u0 c0))), .second, .val (.int (1 : Int32))] [(.int (1 : Int32)), (.ref a2_), (.double (FP.dadd d1 (FP.dmul u0 c0)))])) t → Steps p.tables e below (s₁.setTop (entryFrame m #[(.ref a0_), (.double d1), (.ref a2_)] 7)) t := by
    intro t k
    refine a13 t ?_
    show Steps p.tables e below (T12.setTop (mkF m 11 #[.val (.ref a0_), .val (.double d1), .second, .val (.ref a2_), .val (.double (FP.dadd d1 (FP.dmul u0 c0))), .second, .val (.int (1 : Int32))] [(.int (4 : Int32)), (.int (1 : Int32))])) _
    refine XS.icmpNo X12.here hx rfl (hb hby d5_11) rfl (tlt (by decide)).2.1 ?_
    show Steps p.tables e below (T12.setTop (mkF m 14 #[.val (.ref a0_), .val (.double d1), .second, .val (.ref a2_), .val (.double (FP.dadd d1 (FP.dmul u0 c0))), .second, .val (.int (1 : Int32))] [])) _
    refine XS.dload X12.here hx rfl (hb hby d5_14) rfl ?_
    show Steps p.tables e below (T12.setTop (mkF m 16 #[.val (.ref a0_), .val (.double d1), .second, .val (.ref a2_), .val (.double (FP.dadd d1 (FP.dmul u0 c0))), .second, .val (.int (1 : Int32))] [(.double (FP.dadd d1 (FP.dmul u0 c0)))])) _
    refine XS.aloadN X12.here hx rfl (hb hby d5_16) rfl rfl ?_
    show Steps p.tables e below (T12.setTop (mkF m 17 #[.val (.ref a0_), .val (.double d1), .second, .val (.ref a2_), .val (.double (FP.dadd d1 (FP.dmul u0 c0))), .second, .val (.int (1 : Int32))] [(.ref a2_), (.double (FP.dadd d1 (FP.dmul u0 c0)))])) _
    refine XS.iload X12.here hx rfl (hb hby d5_17) rfl ?_
    exact k
  obtain ⟨cl15, Ar15, qc15, Sz15, Nn15, Hs15, Gs15⟩ := id PA2
  have hin15 : ¬ ((1 : Int32) < 0 ∨ cl15.slots.size ≤ ((1 : Int32)).toNatClampNeg) := inb_of Sz15 ⟨by decide, by decide⟩
  have hat15 := Hs15.at hin15 (v := (.double u1)) rfl
  have a16 : ∀ t, Steps p.tables e below (T12.setTop (mkF m 21 #[.val (.ref a0_), .val (.double d1), .second, .val (.ref a2_), .val (.double (FP.dadd d1 (FP.dmul u0 c0))), .second, .val (.int (1 : Int32))] [(.ref a0_), (.double u1), (.double (FP.dadd d1 (FP.dmul u0 c0)))])) t → Steps p.tables e below (s₁.setTop (entryFrame m #[(.ref a0_), (.double d1), (.ref a2_)] 7)) t := by
    intro t k
    refine a14 t ?_
    show Steps p.tables e below (T12.setTop (mkF m 19 #[.val (.ref a0_), .val (.double d1), .second, .val (.ref a2_), .val (.double (FP.dadd d1 (FP.dmul u0 c0))), .second, .val (.int (1 : Int32))] [(.int (1 : Int32)), (.ref a2_), (.double (FP.dadd d1 (FP.dmul u0 c0)))])) _
    refine X12.daload hx (j := (1 : Int32)) (v := (.double u1)) (by rw [e12]; exact Ar15.1) (State.isArrayOf_alike hZ.alike Ar15.2.1) Ar15.2.2 hin15 hat15 (g := (mkF m 19 #[.val (.ref a0_), .val (.double d1), .second, .val (.ref a2_), .val (.double (FP.dadd d1 (FP.dmul u0 c0))), .second, .val (.int (1 : Int32))] [(.int (1 : Int32)), (.ref a2_), (.double (FP.dadd d1 (FP.dmul u0 c0)))])) rfl rfl (hb hby d5_19) _ ?_
    show Steps p.tables e below (T12.setTop (mkF m 20 #[.val (.ref a0_), .val (.double d1), .second, .val (.ref a2_), .val (.double (FP.dadd d1 (FP.dmul u0 c0))), .second, .val (.int (1 : Int32))] [(.double u1), (.double (FP.dadd d1 (FP.dmul u0 c0)))])) _
    refine XS.aloadN X12.here hx rfl (hb hby d5_20) rfl rfl ?_
    exact k
  obtain ⟨T17, X17, e17, st17⟩ := getF X12 hx hZ hown (host := "") (Or.inl (hw _ (List.mem_of_getElem? (i := 12) rfl))) Via.refl e12 F1 (g := (mkF m 21 #[.val (.ref a0_), .val (.double d1), .second, .val (.ref a2_), .val (.double (FP.dadd d1 (FP.dmul u0 c0))), .second, .val (.int (1 : Int32))] [(.ref a0_), (.double u1), (.double (FP.dadd d1 (FP.dmul u0 c0)))])) rfl rfl (hb hby d5_21)
  have a18 : ∀ t, Steps p.tables e below (T17.setTop (mkF m 24 #[.val (.ref a0_), .val (.double d1), .second, .val (.ref a2_), .val (.double (FP.dadd d1 (FP.dmul u0 c0))), .second, .val (.int (1 : Int32))] [(.ref arr), (.double u1), (.double (FP.dadd d1 (FP.dmul u0 c0)))])) t → Steps p.tables e below (s₁.setTop (entryFrame m #[(.ref a0_), (.double d1), (.ref a2_)] 7)) t := fun t k => a16 t (st17 t k)
  have a19 : ∀ t, Steps p.tables e below (T17.setTop (mkF m 26 #[.val (.ref a0_), .val (.double d1), .second, .val (.ref a2_), .val (.double (FP.dadd d1 (FP.dmul u0 c0))), .second, .val (.int (1 : Int32))] [(.int (1 : Int32)), (.ref arr), (.double u1), (.double (FP.dadd d1 (FP.dmul u0 c0)))])) t → Steps p.tables e below (s₁.setTop (entryFrame m #[(.ref a0_), (.double d1), (.ref a2_)] 7)) t := by
    intro t k
    refine a18 t ?_
    show Steps p.tables e below (T17.setTop (mkF m 24 #[.val (.ref a0_), .val (.double d1), .second, .val (.ref a2_), .val (.double (FP.dadd d1 (FP.dmul u0 c0))), .second, .val (.int (1 : Int32))] [(.ref arr), (.double u1), (.double (FP.dadd d1 (FP.dmul u0 c0)))])) _
    refine XS.iload X17.here hx rfl (hb hby d5_24) rfl ?_
    exact k
  obtain ⟨cl20, Ar20, qc20, Sz20, Nn20, Hs20, Gs20⟩ := id PA1
  have hin20 : ¬ ((1 : Int32) < 0 ∨ cl20.slots.size ≤ ((1 : Int32)).toNatClampNeg) := inb_of Sz20 ⟨by decide, by decide⟩
  have hat20 := Hs20.at hin20 (v := (.double c1)) rfl
  have a21 : ∀ t, Steps p.tables e below (T17.setTop (mkF m 8 #[.val (.ref a0_), .val (.double d1), .second, .val (.ref a2_), .val (.double (FP.dadd (FP.dadd d1 (FP.dmul u0 c0)) (FP.dmul u1 c1))), .second, .val (.int (2 : Int32))] [(.int (2 : Int32))])) t → Steps p.tables e below (s₁.setTop (entryFrame m #[(.ref a0_), (.double d1), (.ref a2_)] 7)) t := by
    intro t k
    refine a19 t ?_
    show Steps p.tables e below (T17.setTop (mkF m 26 #[.val (.ref a0_), .val (.double d1), .second, .val (.ref a2_), .val (.double (FP.dadd d1 (FP.dmul u0 c0))), .second, .val (.int (1 : Int32))] [(.int (1 : Int32)), (.ref arr), (.double u1), (.double (FP.dadd d1 (FP.dmul u0 c0)))])) _
    refine X17.daload hx (j := (1 : Int32)) (v := (.double c1)) (by rw [e17]; exact Ar20.1) (State.isArrayOf_alike hZ.alike Ar20.2.1) Ar20.2.2 hin20 hat20 (g := (mkF m 26 #[.val (.ref a0_), .val (.double d1), .second, .val (.ref a2_), .val (.double (FP.dadd d1 (FP.dmul u0 c0))), .second, .val (.int (1 : Int32))] [(.int (1 : Int32)), (.ref arr), (.double u1), (.double (FP.dadd d1 (FP.dmul u0 c0)))])) rfl rfl (hb hby d5_26) _ ?_
    show Steps p.tables e below (T17.setTop (mkF m 27 #[.val (.ref a0_), .val (.double d1), .second, .val (.ref a2_), .val (.double (FP.dadd d1 (FP.dmul u0 c0))), .second, .val (.int (1 : Int32))] [(.double c1), (.double u1), (.double (FP.dadd d1 (FP.dmul u0 c0)))])) _
    refine XS.dmulS X17.here hx rfl (hb hby d5_27) rfl n1_ rfl ?_
    show Steps p.tables e below (T17.setTop (mkF m 28 #[.val (.ref a0_), .val (.double d1), .second, .val (.ref a2_), .val (.double (FP.dadd d1 (FP.dmul u0 c0))), .second, .val (.int (1 : Int32))] [(.double (FP.dmul u1 c1)), (.double (FP.dadd d1 (FP.dmul u0 c0)))])) _
    refine XS.daddS X17.here hx rfl (hb hby d5_28) rfl m1_ rfl ?_
    show Steps p.tables e below (T17.setTop (mkF m 29 #[.val (.ref a0_), .val (.double d1), .second, .val (.ref a2_), .val (.double (FP.dadd d1 (FP.dmul u0 c0))), .second, .val (.int (1 : Int32))] [(.double (FP.dadd (FP.dadd d1 (FP.dmul u0 c0)) (FP.dmul u1 c1)))])) _
    refine XS.dstore X17.here hx rfl (hb hby d5_29) rfl (l' := #[.val (.ref a0_), .val (.double d1), .second, .val (.ref a2_), .val (.double (FP.dadd (FP.dadd d1 (FP.dmul u0 c0)) (FP.dmul u1 c1))), .second, .val (.int (1 : Int32))]) rfl ?_
    show Steps p.tables e below (T17.setTop (mkF m 31 #[.val (.ref a0_), .val (.double d1), .second, .val (.ref a2_), .val (.double (FP.dadd (FP.dadd d1 (FP.dmul u0 c0)) (FP.dmul u1 c1))), .second, .val (.int (1 : Int32))] [])) _
    refine XS.iinc X17.here hx rfl (hb hby d5_31) rfl (l' := #[.val (.ref a0_), .val (.double d1), .second, .val (.ref a2_), .val (.double (FP.dadd (FP.dadd d1 (FP.dmul u0 c0)) (FP.dmul u1 c1))), .second, .val (.int (2 : Int32))]) rfl ?_
    show Steps p.tables e below (T17.setTop (mkF m 34 #[.val (.ref a0_), .val (.double d1), .second, .val (.ref a2_), .val (.double (FP.dadd (FP.dadd d1 (FP.dmul u0 c0)) (FP.dmul u1 c1))), .second, .val (.int (2 : Int32))] [])) _
    refine XS.goto X17.here hx rfl (pc0 := 34) (pc' := 6) rfl (hb hby d5_34) (by decide) (by decide) ?_
    show Steps p.tables e below (T17.setTop (mkF m 6 #[.val (.ref a0_), .val (.double d1), .second, .val (.ref a2_), .val (.double (FP.dadd (FP.dadd d1 (FP.dmul u0 c0)) (FP.dmul u1 c1))), .second, .val (.int (2 : Int32))] [])) _
    refine XS.iload X17.here hx rfl (hb hby d5_6) rfl ?_
    exact k
  obtain ⟨T22, X22, e22, st22⟩ := getS2 X17 hx hZ hown (host := "") (Or.inl (hw _ (List.mem_of_getElem? (i := 10) rfl))) Via.refl e17 S_RULES (g := (mkF m 8 #[.val (.ref a0_), .val (.double d1), .second, .val (.ref a2_), .val (.double (FP.dadd (FP.dadd d1 (FP.dmul u0 c0)) (FP.dmul u1 c1))), .second, .val (.int (2 : Int32))] [(.int (2 : Int32))])) rfl (hb hby d5_8)
  have a23 : ∀ t, Steps p.tables e below (T22.setTop (mkF m 11 #[.val (.ref a0_), .val (.double d1), .second, .val (.ref a2_), .val (.double (FP.dadd (FP.dadd d1 (FP.dmul u0 c0)) (FP.dmul u1 c1))), .second, .val (.int (2 : Int32))] [(.int (4 : Int32)), (.int (2 : Int32))])) t → Steps p.tables e below (s₁.setTop (entryFrame m #[(.ref a0_), (.double d1), (.ref a2_)] 7)) t := fun t k => a21 t (st22 t k)
  have a24 : ∀ t, Steps p.tables e below (T22.setTop (mkF m 19 #[.val (.ref a0_), .val (.double d1), .second, .val (.ref a2_), .val (.double (FP.dadd (FP.dadd d1 (FP.dmul u0 c0)) (FP.dmul u1 c1))), .second, .val (.int (2 : Int32))] [(.int (2 : Int32)), (.ref a2_), (.double (FP.dadd (FP.dadd d1 (FP.dmul u0 c0)) (FP.dmul u1 c1)))])) t → Steps p.tables e below (s₁.setTop (entryFrame m #[(.ref a0_), (.double d1), (.ref a2_)] 7)) t := by
    intro t k
    refine a23 t ?_
    show Steps p.tables e below (T22.setTop (mkF m 11 #[.val (.ref a0_), .val (.double d1), .second, .val (.ref a2_), .val (.double (FP.dadd (FP.dadd d1 (FP.dmul u0 c0)) (FP.dmul u1 c1))), .second, .val (.int (2 : Int32))] [(.int (4 : Int32)), (.int (2 : Int32))])) _
    refine XS.icmpNo X22.here hx rfl (hb hby d5_11) rfl (tlt (by decide)).2.1 ?_
    show Steps p.tables e below (T22.setTop (mkF m 14 #[.val (.ref a0_), .val (.double d1), .second, .val (.ref a2_), .val (.double (FP.dadd (FP.dadd d1 (FP.dmul u0 c0)) (FP.dmul u1 c1))), .second, .val (.int (2 : Int32))] [])) _
    refine XS.dload X22.here hx rfl (hb hby d5_14) rfl ?_
    show Steps p.tables e below (T22.setTop (mkF m 16 #[.val (.ref a0_), .val (.double d1), .second, .val (.ref a2_), .val (.double (FP.dadd (FP.dadd d1 (FP.dmul u0 c0)) (FP.dmul u1 c1))), .second, .val (.int (2 : Int32))] [(.double (FP.dadd (FP.dadd d1 (FP.dmul u0 c0)) (FP.dmul u1 c1)))])) _
    refine XS.aloadN X22.here hx rfl (hb hby d5_16) rfl rfl ?_
    show Steps p.tables e below (T22.setTop (mkF m 17 #[.val (.ref a0_), .val (.double d1), .second, .val (.ref a2_), .val (.double (FP.dadd (FP.dadd d1 (FP.dmul u0 c0)) (FP.dmul u1 c1))), .second, .val (.int (2 : Int32))] [(.ref a2_), (.double (FP.dadd (FP.dadd d1 (FP.dmul u0 c0)) (FP.dmul u1 c1)))])) _
    refine XS.iload X22.here hx rfl (hb hby d5_17) rfl ?_
    exact k
  obtain ⟨cl25, Ar25, qc25, Sz25, Nn25, Hs25, Gs25⟩ := id PA2
  have hin25 : ¬ ((2 : Int32) < 0 ∨ cl25.slots.size ≤ ((2 : Int32)).toNatClampNeg) := inb_of Sz25 ⟨by decide, by decide⟩
  have hat25 := Hs25.at hin25 (v := (.double u2)) rfl
  have a26 : ∀ t, Steps p.tables e below (T22.setTop (mkF m 21 #[.val (.ref a0_), .val (.double d1), .second, .val (.ref a2_), .val (.double (FP.dadd (FP.dadd d1 (FP.dmul u0 c0)) (FP.dmul u1 c1))), .second, .val (.int (2 : Int32))] [(.ref a0_), (.double u2), (.double (FP.dadd (FP.dadd d1 (FP.dmul u0 c0)) (FP.dmul u1 c1)))])) t → Steps p.tables e below (s₁.setTop (entryFrame m #[(.ref a0_), (.double d1), (.ref a2_)] 7)) t := by
    intro t k
    refine a24 t ?_
    show Steps p.tables e below (T22.setTop (mkF m 19 #[.val (.ref a0_), .val (.double d1), .second, .val (.ref a2_), .val (.double (FP.dadd (FP.dadd d1 (FP.dmul u0 c0)) (FP.dmul u1 c1))), .second, .val (.int (2 : Int32))] [(.int (2 : Int32)), (.ref a2_), (.double (FP.dadd (FP.dadd d1 (FP.dmul u0 c0)) (FP.dmul u1 c1)))])) _
    refine X22.daload hx (j := (2 : Int32)) (v := (.double u2)) (by rw [e22]; exact Ar25.1) (State.isArrayOf_alike hZ.alike Ar25.2.1) Ar25.2.2 hin25 hat25 (g := (mkF m 19 #[.val (.ref a0_), .val (.double d1), .second, .val (.ref a2_), .val (.double (FP.dadd (FP.dadd d1 (FP.dmul u0 c0)) (FP.dmul u1 c1))), .second, .val (.int (2 : Int32))] [(.int (2 : Int32)), (.ref a2_), (.double (FP.dadd (FP.dadd d1 (FP.dmul u0 c0)) (FP.dmul u1 c1)))])) rfl rfl (hb hby d5_19) _ ?_
    show Steps p.tables e below (T22.setTop (mkF m 20 #[.val (.ref a0_), .val (.double d1), .second, .val (.ref a2_), .val (.double (FP.dadd (FP.dadd d1 (FP.dmul u0 c0)) (FP.dmul u1 c1))), .second, .val (.int (2 : Int32))] [(.double u2), (.double (FP.dadd (FP.dadd d1 (FP.dmul u0 c0)) (FP.dmul u1 c1)))])) _
    refine XS.aloadN X22.here hx rfl (hb hby d5_20) rfl rfl ?_
    exact k
  obtain ⟨T27, X27, e27, st27⟩ := getF X22 hx hZ hown (host := "") (Or.inl (hw _ (List.mem_of_getElem? (i := 12) rfl))) Via.refl e22 F1 (g := (mkF m 21 #[.val (.ref a0_), .val (.double d1), .second, .val (.ref a2_), .val (.double (FP.dadd (FP.dadd d1 (FP.dmul u0 c0)) (FP.dmul u1 c1))), .second, .val (.int (2 : Int32))] [(.ref a0_), (.double u2), (.double (FP.dadd (FP.dadd d1 (FP.dmul u0 c0)) (FP.dmul u1 c1)))])) rfl rfl (hb hby d5_21)
  have a28 : ∀ t, Steps p.tables e below (T27.setTop (mkF m 24 #[.val (.ref a0_), .val (.double d1), .second, .val (.ref a2_), .val (.double (FP.dadd (FP.dadd d1 (FP.dmul u0 c0)) (FP.dmul u1 c1))), .second, .val (.int (2 : Int32))] [(.ref arr), (.double u2), (.double (FP.dadd (FP.dadd d1 (FP.dmul u0 c0)) (FP.dmul u1 c1)))])) t → Steps p.tables e below (s₁.setTop (entryFrame m #[(.ref a0_), (.double d1), (.ref a2_)] 7)) t := fun t k => a26 t (st27 t k)
  have a29 : ∀ t, Steps p.tables e below (T27.setTop (mkF m 26 #[.val (.ref a0_), .val (.double d1), .second, .val (.ref a2_), .val (.double (FP.dadd (FP.dadd d1 (FP.dmul u0 c0)) (FP.dmul u1 c1))), .second, .val (.int (2 : Int32))] [(.int (2 : Int32)), (.ref arr), (.double u2), (.double (FP.dadd (FP.dadd d1 (FP.dmul u0 c0)) (FP.dmul u1 c1)))])) t → Steps p.tables e below (s₁.setTop (entryFrame m #[(.ref a0_), (.double d1), (.ref a2_)] 7)) t := by
    intro t k
    refine a28 t ?_
    show Steps p.tables e below (T27.setTop (mkF m 24 #[.val (.ref a0_), .val (.double d1), .second, .val (.ref a2_), .val (.double (FP.dadd (FP.dadd d1 (FP.dmul u0 c0)) (FP.dmul u1 c1))), .second, .val (.int (2 : Int32))] [(.ref arr), (.double u2), (.double (FP.dadd (FP.dadd d1 (FP.dmul u0 c0)) (FP.dmul u1 c1)))])) _
    refine XS.iload X27.here hx rfl (hb hby d5_24) rfl ?_
    exact k
  obtain ⟨cl30, Ar30, qc30, Sz30, Nn30, Hs30, Gs30⟩ := id PA1
  have hin30 : ¬ ((2 : Int32) < 0 ∨ cl30.slots.size ≤ ((2 : Int32)).toNatClampNeg) := inb_of Sz30 ⟨by decide, by decide⟩
  have hat30 := Hs30.at hin30 (v := (.double c2)) rfl
  have a31 : ∀ t, Steps p.tables e below (T27.setTop (mkF m 8 #[.val (.ref a0_), .val (.double d1), .second, .val (.ref a2_), .val (.double (FP.dadd (FP.dadd (FP.dadd d1 (FP.dmul u0 c0)) (FP.dmul u1 c1)) (FP.dmul u2 c2))), .second, .val (.int (3 : Int32))] [(.int (3 : Int32))])) t → Steps p.tables e below (s₁.setTop (entryFrame m #[(.ref a0_), (.double d1), (.ref a2_)] 7)) t := by
    intro t k
    refine a29 t ?_
    show Steps p.tables e below (T27.setTop (mkF m 26 #[.val (.ref a0_), .val (.double d1), .second, .val (.ref a2_), .val (.double (FP.dadd (FP.dadd d1 (FP.dmul u0 c0)) (FP.dmul u1 c1))), .second, .val (.int (2 : Int32))] [(.int (2 : Int32)), (.ref arr), (.double u2), (.double (FP.dadd (FP.dadd d1 (FP.dmul u0 c0)) (FP.dmul u1 c1)))])) _
    refine X27.daload hx (j := (2 : Int32)) (v := (.double c2)) (by rw [e27]; exact Ar30.1) (State.isArrayOf_alike hZ.alike Ar30.2.1) Ar30.2.2 hin30 hat30 (g := (mkF m 26 #[.val (.ref a0_), .val (.double d1), .second, .val (.ref a2_), .val (.double (FP.dadd (FP.dadd d1 (FP.dmul u0 c0)) (FP.dmul u1 c1))), .second, .val (.int (2 : Int32))] [(.int (2 : Int32)), (.ref arr), (.double u2), (.double (FP.dadd (FP.dadd d1 (FP.dmul u0 c0)) (FP.dmul u1 c1)))])) rfl rfl (hb hby d5_26) _ ?_
    show Steps p.tables e below (T27.setTop (mkF m 27 #[.val (.ref a0_), .val (.double d1), .second, .val (.ref a2_), .val (.double (FP.dadd (FP.dadd d1 (FP.dmul u0 c0)) (FP.dmul u1 c1))), .second, .val (.int (2 : Int32))] [(.double c2), (.double u2), (.double (FP.dadd (FP.dadd d1 (FP.dmul u0 c0)) (FP.dmul u1 c1)))])) _
    refine XS.dmulS X27.here hx rfl (hb hby d5_27) rfl n2_ rfl ?_
    show Steps p.tables e below (T27.setTop (mkF m 28 #[.val (.ref a0_), .val (.double d1), .second, .val (.ref a2_), .val (.double (FP.dadd (FP.dadd d1 (FP.dmul u0 c0)) (FP.dmul u1 c1))), .second, .val (.int (2 : Int32))] [(.double (FP.dmul u2 c2)), (.double (FP.dadd (FP.dadd d1 (FP.dmul u0 c0)) (FP.dmul u1 c1)))])) _
    refine XS.daddS X27.here hx rfl (hb hby d5_28) rfl m2_ rfl ?_
    show Steps p.tables e below (T27.setTop (mkF m 29 #[.val (.ref a0_), .val (.double d1), .second, .val (.ref a2_), .val (.double (FP.dadd (FP.dadd d1 (FP.dmul u0 c0)) (FP.dmul u1 c1))), .second, .val (.int (2 : Int32))] [(.double (FP.dadd (FP.dadd (FP.dadd d1 (FP.dmul u0 c0)) (FP.dmul u1 c1)) (FP.dmul u2 c2)))])) _
    refine XS.dstore X27.here hx rfl (hb hby d5_29) rfl (l' := #[.val (.ref a0_), .val (.double d1), .second, .val (.ref a2_), .val (.double (FP.dadd (FP.dadd (FP.dadd d1 (FP.dmul u0 c0)) (FP.dmul u1 c1)) (FP.dmul u2 c2))), .second, .val (.int (2 : Int32))]) rfl ?_
    show Steps p.tables e below (T27.setTop (mkF m 31 #[.val (.ref a0_), .val (.double d1), .second, .val (.ref a2_), .val (.double (FP.dadd (FP.dadd (FP.dadd d1 (FP.dmul u0 c0)) (FP.dmul u1 c1)) (FP.dmul u2 c2))), .second, .val (.int (2 : Int32))] [])) _
    refine XS.iinc X27.here hx rfl (hb hby d5_31) rfl (l' := #[.val (.ref a0_), .val (.double d1), .second, .val (.ref a2_), .val (.double (FP.dadd (FP.dadd (FP.dadd d1 (FP.dmul u0 c0)) (FP.dmul u1 c1)) (FP.dmul u2 c2))), .second, .val (.int (3 : Int32))]) rfl ?_
    show Steps p.tables e below (T27.setTop (mkF m 34 #[.val (.ref a0_), .val (.double d1), .second, .val (.ref a2_), .val (.double (FP.dadd (FP.dadd (FP.dadd d1 (FP.dmul u0 c0)) (FP.dmul u1 c1)) (FP.dmul u2 c2))), .second, .val (.int (3 : Int32))] [])) _
    refine XS.goto X27.here hx rfl (pc0 := 34) (pc' := 6) rfl (hb hby d5_34) (by decide) (by decide) ?_
    show Steps p.tables e below (T27.setTop (mkF m 6 #[.val (.ref a0_), .val (.double d1), .second, .val (.ref a2_), .val (.double (FP.dadd (FP.dadd (FP.dadd d1 (FP.dmul u0 c0)) (FP.dmul u1 c1)) (FP.dmul u2 c2))), .second, .val (.int (3 : Int32))] [])) _
    refine XS.iload X27.here hx rfl (hb hby d5_6) rfl ?_
    exact k
  obtain ⟨T32, X32, e32, st32⟩ := getS2 X27 hx hZ hown (host := "") (Or.inl (hw _ (List.mem_of_getElem? (i := 10) rfl))) Via.refl e27 S_RULES (g := (mkF m 8 #[.val (.ref a0_), .val (.double d1), .second, .val (.ref a2_), .val (.double (FP.dadd (FP.dadd (FP.dadd d1 (FP.dmul u0 c0)) (FP.dmul u1 c1)) (FP.dmul u2 c2))), .second, .val (.int (3 : Int32))] [(.int (3 : Int32))])) rfl (hb hby d5_8)
  have a33 : ∀ t, Steps p.tables e below (T32.setTop (mkF m 11 #[.val (.ref a0_), .val (.double d1), .second, .val (.ref a2_), .val (.double (FP.dadd (FP.dadd (FP.dadd d1 (FP.dmul u0 c0)) (FP.dmul u1 c1)) (FP.dmul u2 c2))), .second, .val (.int (3 : Int32))] [(.int (4 : Int32)), (.int (3 : Int32))])) t → Steps p.tables e below (s₁.setTop (entryFrame m #[(.ref a0_), (.double d1), (.ref a2_)] 7)) t := fun t k => a31 t (st32 t k)
  have a34 : ∀ t, Steps p.tables e below (T32.setTop (mkF m 19 #[.val (.ref a0_), .val (.double d1), .second, .val (.ref a2_), .val (.double (FP.dadd (FP.dadd (FP.dadd d1 (FP.dmul u0 c0)) (FP.dmul u1 c1)) (FP.dmul u2 c2))), .second, .val (.int (3 : Int32))] [(.int (3 : Int32)), (.ref a2_), (.double (FP.dadd (FP.dadd (FP.dadd d1 (FP.dmul u0 c0)) (FP.dmul u1 c1)) (FP.dmul u2 c2)))])) t → Steps p.tables e below (s₁.setTop (entryFrame m #[(.ref a0_), (.double d1), (.ref a2_)] 7)) t := by
    intro t k
    refine a33 t ?_
    show Steps p.tables e below (T32.setTop (mkF m 11 #[.val (.ref a0_), .val (.double d1), .second, .val (.ref a2_), .val (.double (FP.dadd (FP.dadd (FP.dadd d1 (FP.dmul u0 c0)) (FP.dmul u1 c1)) (FP.dmul u2 c2))), .second, .val (.int (3 : Int32))] [(.int (4 : Int32)), (.int (3 : Int32))])) _
    refine XS.icmpNo X32.here hx rfl (hb hby d5_11) rfl (tlt (by decide)).2.1 ?_
    show Steps p.tables e below (T32.setTop (mkF m 14 #[.val (.ref a0_), .val (.double d1), .second, .val (.ref a2_), .val (.double (FP.dadd (FP.dadd (FP.dadd d1 (FP.dmul u0 c0)) (FP.dmul u1 c1)) (FP.dmul u2 c2))), .second, .val (.int (3 : Int32))] [])) _
    refine XS.dload X32.here hx rfl (hb hby d5_14) rfl ?_
    show Steps p.tables e below (T32.setTop (mkF m 16 #[.val (.ref a0_), .val (.double d1), .second, .val (.ref a2_), .val (.double (FP.dadd (FP.dadd (FP.dadd d1 (FP.dmul u0 c0)) (FP.dmul u1 c1)) (FP.dmul u2 c2))), .second, .val (.int (3 : Int32))] [(.double (FP.dadd (FP.dadd (FP.dadd d1 (FP.dmul u0 c0)) (FP.dmul u1 c1)) (FP.dmul u2 c2)))])) _
    refine XS.aloadN X32.here hx rfl (hb hby d5_16) rfl rfl ?_
    show Steps p.tables e below (T32.setTop (mkF m 17 #[.val (.ref a0_), .val (.double d1), .second, .val (.ref a2_), .val (.double (FP.dadd (FP.dadd (FP.dadd d1 (FP.dmul u0 c0)) (FP.dmul u1 c1)) (FP.dmul u2 c2))), .second, .val (.int (3 : Int32))] [(.ref a2_), (.double (FP.dadd (FP.dadd (FP.dadd d1 (FP.dmul u0 c0)) (FP.dmul u1 c1)) (FP.dmul u2 c2)))])) _
    refine XS.iload X32.here hx rfl (hb hby d5_17) rfl ?_
    exact k
  obtain ⟨cl35, Ar35, qc35, Sz35, Nn35, Hs35, Gs35⟩ := id PA2
  have hin35 : ¬ ((3 : Int32) < 0 ∨ cl35.slots.size ≤ ((3 : Int32)).toNatClampNeg) := inb_of Sz35 ⟨by decide, by decide⟩
  have hat35 := Hs35.at hin35 (v := (.double u3)) rfl
  have a36 : ∀ t, Steps p.tables e below (T32.setTop (mkF m 21 #[.val (.ref a0_), .val (.double d1), .second, .val (.ref a2_), .val (.double (FP.dadd (FP.dadd (FP.dadd d1 (FP.dmul u0 c0)) (FP.dmul u1 c1)) (FP.dmul u2 c2))), .second, .val (.int (3 : Int32))] [(.ref a0_), (.double u3), (.double (FP.dadd (FP.dadd (FP.dadd d1 (FP.dmul u0 c0)) (FP.dmul u1 c1)) (FP.dmul u2 c2)))])) t → Steps p.tables e below (s₁.setTop (entryFrame m #[(.ref a0_), (.double d1), (.ref a2_)] 7)) t := by
    intro t k
    refine a34 t ?_
    show Steps p.tables e below (T32.setTop (mkF m 19 #[.val (.ref a0_), .val (.double d1), .second, .val (.ref a2_), .val (.double (FP.dadd (FP.dadd (FP.dadd d1 (FP.dmul u0 c0)) (FP.dmul u1 c1)) (FP.dmul u2 c2))), .second, .val (.int (3 : Int32))] [(.int (3 : Int32)), (.ref a2_), (.double (FP.dadd (FP.dadd (FP.dadd d1 (FP.dmul u0 c0)) (FP.dmul u1 c1)) (FP.dmul u2 c2)))])) _
    refine X32.daload hx (j := (3 : Int32)) (v := (.double u3)) (by rw [e32]; exact Ar35.1) (State.isArrayOf_alike hZ.alike Ar35.2.1) Ar35.2.2 hin35 hat35 (g := (mkF m 19 #[.val (.ref a0_), .val (.double d1), .second, .val (.ref a2_), .val (.double (FP.dadd (FP.dadd (FP.dadd d1 (FP.dmul u0 c0)) (FP.dmul u1 c1)) (FP.dmul u2 c2))), .second, .val (.int (3 : Int32))] [(.int (3 : Int32)), (.ref a2_), (.double (FP.dadd (FP.dadd (FP.dadd d1 (FP.dmul u0 c0)) (FP.dmul u1 c1)) (FP.dmul u2 c2)))])) rfl rfl (hb hby d5_19) _ ?_
    show Steps p.tables e below (T32.setTop (mkF m 20 #[.val (.ref a0_), .val (.double d1), .second, .val (.ref a2_), .val (.double (FP.dadd (FP.dadd (FP.dadd d1 (FP.dmul u0 c0)) (FP.dmul u1 c1)) (FP.dmul u2 c2))), .second, .val (.int (3 : Int32))] [(.double u3), (.double (FP.dadd (FP.dadd (FP.dadd d1 (FP.dmul u0 c0)) (FP.dmul u1 c1)) (FP.dmul u2 c2)))])) _
    refine XS.aloadN X32.here hx rfl (hb hby d5_20) rfl rfl ?_
    exact k
  obtain ⟨T37, X37, e37, st37⟩ := getF X32 hx hZ hown (host := "") (Or.inl (hw _ (List.mem_of_getElem? (i := 12) rfl))) Via.refl e32 F1 (g := (mkF m 21 #[.val (.ref a0_), .val (.double d1), .second, .val (.ref a2_), .val (.double (FP.dadd (FP.dadd (FP.dadd d1 (FP.dmul u0 c0)) (FP.dmul u1 c1)) (FP.dmul u2 c2))), .second, .val (.int (3 : Int32))] [(.ref a0_), (.double u3), (.double (FP.dadd (FP.dadd (FP.dadd d1 (FP.dmul u0 c0)) (FP.dmul u1 c1)) (FP.dmul u2 c2)))])) rfl rfl (hb hby d5_21)
  have a38 : ∀ t, Steps p.tables e below (T37.setTop (mkF m 24 #[.val (.ref a0_), .val (.double d1), .second, .val (.ref a2_), .val (.double (FP.dadd (FP.dadd (FP.dadd d1 (FP.dmul u0 c0)) (FP.dmul u1 c1)) (FP.dmul u2 c2))), .second, .val (.int (3 : Int32))] [(.ref arr), (.double u3), (.double (FP.dadd (FP.dadd (FP.dadd d1 (FP.dmul u0 c0)) (FP.dmul u1 c1)) (FP.dmul u2 c2)))])) t → Steps p.tables e below (s₁.setTop (entryFrame m #[(.ref a0_), (.double d1), (.ref a2_)] 7)) t := fun t k => a36 t (st37 t k)
  have a39 : ∀ t, Steps p.tables e below (T37.setTop (mkF m 26 #[.val (.ref a0_), .val (.double d1), .second, .val (.ref a2_), .val (.double (FP.dadd (FP.dadd (FP.dadd d1 (FP.dmul u0 c0)) (FP.dmul u1 c1)) (FP.dmul u2 c2))), .second, .val (.int (3 : Int32))] [(.int (3 : Int32)), (.ref arr), (.double u3), (.double (FP.dadd (FP.dadd (FP.dadd d1 (FP.dmul u0 c0)) (FP.dmul u1 c1)) (FP.dmul u2 c2)))])) t → Steps p.tables e below (s₁.setTop (entryFrame m #[(.ref a0_), (.double d1), (.ref a2_)] 7)) t := by
    intro t k
    refine a38 t ?_
    show Steps p.tables e below (T37.setTop (mkF m 24 #[.val (.ref a0_), .val (.double d1), .second, .val (.ref a2_), .val (.double (FP.dadd (FP.dadd (FP.dadd d1 (FP.dmul u0 c0)) (FP.dmul u1 c1)) (FP.dmul u2 c2))), .second, .val (.int (3 : Int32))] [(.ref arr), (.double u3), (.double (FP.dadd (FP.dadd (FP.dadd d1 (FP.dmul u0 c0)) (FP.dmul u1 c1)) (FP.dmul u2 c2)))])) _
    refine XS.iload X37.here hx rfl (hb hby d5_24) rfl ?_
    exact k
  obtain ⟨cl40, Ar40, qc40, Sz40, Nn40, Hs40, Gs40⟩ := id PA1
  have hin40 : ¬ ((3 : Int32) < 0 ∨ cl40.slots.size ≤ ((3 : Int32)).toNatClampNeg) := inb_of Sz40 ⟨by decide, by decide⟩
  have hat40 := Hs40.at hin40 (v := (.double c3)) rfl
  have a41 : ∀ t, Steps p.tables e below (T37.setTop (mkF m 8 #[.val (.ref a0_), .val (.double d1), .second, .val (.ref a2_), .val (.double (FP.dadd (FP.dadd (FP.dadd (FP.dadd d1 (FP.dmul u0 c0)) (FP.dmul u1 c1)) (FP.dmul u2 c2)) (FP.dmul u3 c3))), .second, .val (.int (4 : Int32))] [(.int (4 : Int32))])) t → Steps p.tables e below (s₁.setTop (entryFrame m #[(.ref a0_), (.double d1), (.ref a2_)] 7)) t := by
    intro t k
    refine a39 t ?_
    show Steps p.tables e below (T37.setTop (mkF m 26 #[.val (.ref a0_), .val (.double d1), .second, .val (.ref a2_), .val (.double (FP.dadd (FP.dadd (FP.dadd d1 (FP.dmul u0 c0)) (FP.dmul u1 c1)) (FP.dmul u2 c2))), .second, .val (.int (3 : Int32))] [(.int (3 : Int32)), (.ref arr), (.double u3), (.double (FP.dadd (FP.dadd (FP.dadd d1 (FP.dmul u0 c0)) (FP.dmul u1 c1)) (FP.dmul u2 c2)))])) _
    refine X37.daload hx (j := (3 : Int32)) (v := (.double c3)) (by rw [e37]; exact Ar40.1) (State.isArrayOf_alike hZ.alike Ar40.2.1) Ar40.2.2 hin40 hat40 (g := (mkF m 26 #[.val (.ref a0_), .val (.double d1), .second, .val (.ref a2_), .val (.double (FP.dadd (FP.dadd (FP.dadd d1 (FP.dmul u0 c0)) (FP.dmul u1 c1)) (FP.dmul u2 c2))), .second, .val (.int (3 : Int32))] [(.int (3 : Int32)), (.ref arr), (.double u3), (.double (FP.dadd (FP.dadd (FP.dadd d1 (FP.dmul u0 c0)) (FP.dmul u1 c1)) (FP.dmul u2 c2)))])) rfl rfl (hb hby d5_26) _ ?_
    show Steps p.tables e below (T37.setTop (mkF m 27 #[.val (.ref a0_), .val (.double d1), .second, .val (.ref a2_), .val (.double (FP.dadd (FP.dadd (FP.dadd d1 (FP.dmul u0 c0)) (FP.dmul u1 c1)) (FP.dmul u2 c2))), .second, .val (.int (3 : Int32))] [(.double c3), (.double u3), (.double (FP.dadd (FP.dadd (FP.dadd d1 (FP.dmul u0 c0)) (FP.dmul u1 c1)) (FP.dmul u2 c2)))])) _
    refine XS.dmulS X37.here hx rfl (hb hby d5_27) rfl n3_ rfl ?_
    show Steps p.tables e below (T37.setTop (mkF m 28 #[.val (.ref a0_), .val (.double d1), .second, .val (.ref a2_), .val (.double (FP.dadd (FP.dadd (FP.dadd d1 (FP.dmul u0 c0)) (FP.dmul u1 c1)) (FP.dmul u2 c2))), .second, .val (.int (3 : Int32))] [(.double (FP.dmul u3 c3)), (.double (FP.dadd (FP.dadd (FP.dadd d1 (FP.dmul u0 c0)) (FP.dmul u1 c1)) (FP.dmul u2 c2)))])) _
    refine XS.daddS X37.here hx rfl (hb hby d5_28) rfl m3_ rfl ?_
    show Steps p.tables e below (T37.setTop (mkF m 29 #[.val (.ref a0_), .val (.double d1), .second, .val (.ref a2_), .val (.double (FP.dadd (FP.dadd (FP.dadd d1 (FP.dmul u0 c0)) (FP.dmul u1 c1)) (FP.dmul u2 c2))), .second, .val (.int (3 : Int32))] [(.double (FP.dadd (FP.dadd (FP.dadd (FP.dadd d1 (FP.dmul u0 c0)) (FP.dmul u1 c1)) (FP.dmul u2 c2)) (FP.dmul u3 c3)))])) _
    refine XS.dstore X37.here hx rfl (hb hby d5_29) rfl (l' := #[.val (.ref a0_), .val (.double d1), .second, .val (.ref a2_), .val (.double (FP.dadd (FP.dadd (FP.dadd (FP.dadd d1 (FP.dmul u0 c0)) (FP.dmul u1 c1)) (FP.dmul u2 c2)) (FP.dmul u3 c3))), .second, .val (.int (3 : Int32))]) rfl ?_
    show Steps p.tables e below (T37.setTop (mkF m 31 #[.val (.ref a0_), .val (.double d1), .second, .val (.ref a2_), .val (.double (FP.dadd (FP.dadd (FP.dadd (FP.dadd d1 (FP.dmul u0 c0)) (FP.dmul u1 c1)) (FP.dmul u2 c2)) (FP.dmul u3 c3))), .second, .val (.int (3 : Int32))] [])) _
    refine XS.iinc X37.here hx rfl (hb hby d5_31) rfl (l' := #[.val (.ref a0_), .val (.double d1), .second, .val (.ref a2_), .val (.double (FP.dadd (FP.dadd (FP.dadd (FP.dadd d1 (FP.dmul u0 c0)) (FP.dmul u1 c1)) (FP.dmul u2 c2)) (FP.dmul u3 c3))), .second, .val (.int (4 : Int32))]) rfl ?_
    show Steps p.tables e below (T37.setTop (mkF m 34 #[.val (.ref a0_), .val (.double d1), .second, .val (.ref a2_), .val (.double (FP.dadd (FP.dadd (FP.dadd (FP.dadd d1 (FP.dmul u0 c0)) (FP.dmul u1 c1)) (FP.dmul u2 c2)) (FP.dmul u3 c3))), .second, .val (.int (4 : Int32))] [])) _
    refine XS.goto X37.here hx rfl (pc0 := 34) (pc' := 6) rfl (hb hby d5_34) (by decide) (by decide) ?_
    show Steps p.tables e below (T37.setTop (mkF m 6 #[.val (.ref a0_), .val (.double d1), .second, .val (.ref a2_), .val (.double (FP.dadd (FP.dadd (FP.dadd (FP.dadd d1 (FP.dmul u0 c0)) (FP.dmul u1 c1)) (FP.dmul u2 c2)) (FP.dmul u3 c3))), .second, .val (.int (4 : Int32))] [])) _
    refine XS.iload X37.here hx rfl (hb hby d5_6) rfl ?_
    exact k
  obtain ⟨T42, X42, e42, st42⟩ := getS2 X37 hx hZ hown (host := "") (Or.inl (hw _ (List.mem_of_getElem? (i := 10) rfl))) Via.refl e37 S_RULES (g := (mkF m 8 #[.val (.ref a0_), .val (.double d1), .second, .val (.ref a2_), .val (.double (FP.dadd (FP.dadd (FP.dadd (FP.dadd d1 (FP.dmul u0 c0)) (FP.dmul u1 c1)) (FP.dmul u2 c2)) (FP.dmul u3 c3))), .second, .val (.int (4 : Int32))] [(.int (4 : Int32))])) rfl (hb hby d5_8)
  have a43 : ∀ t, Steps p.tables e below (T42.setTop (mkF m 11 #[.val (.ref a0_), .val (.double d1), .second, .val (.ref a2_), .val (.double (FP.dadd (FP.dadd (FP.dadd (FP.dadd d1 (FP.dmul u0 c0)) (FP.dmul u1 c1)) (FP.dmul u2 c2)) (FP.dmul u3 c3))), .second, .val (.int (4 : Int32))] [(.int (4 : Int32)), (.int (4 : Int32))])) t → Steps p.tables e below (s₁.setTop (entryFrame m #[(.ref a0_), (.double d1), (.ref a2_)] 7)) t := fun t k => a41 t (st42 t k)
  have a44 : ∀ t, Steps p.tables e below (T42.setTop (mkF m 39 #[.val (.ref a0_), .val (.double d1), .second, .val (.ref a2_), .val (.double (FP.dadd (FP.dadd (FP.dadd (FP.dadd d1 (FP.dmul u0 c0)) (FP.dmul u1 c1)) (FP.dmul u2 c2)) (FP.dmul u3 c3))), .second, .val (.int (4 : Int32))] [(.double (FP.dadd (FP.dadd (FP.dadd (FP.dadd d1 (FP.dmul u0 c0)) (FP.dmul u1 c1)) (FP.dmul u2 c2)) (FP.dmul u3 c3)))])) t → Steps p.tables e below (s₁.setTop (entryFrame m #[(.ref a0_), (.double d1), (.ref a2_)] 7)) t := by
    intro t k
    refine a43 t ?_
    show Steps p.tables e below (T42.setTop (mkF m 11 #[.val (.ref a0_), .val (.double d1), .second, .val (.ref a2_), .val (.double (FP.dadd (FP.dadd (FP.dadd (FP.dadd d1 (FP.dmul u0 c0)) (FP.dmul u1 c1)) (FP.dmul u2 c2)) (FP.dmul u3 c3))), .second, .val (.int (4 : Int32))] [(.int (4 : Int32)), (.int (4 : Int32))])) _
    refine XS.icmpYes X42.here hx rfl (pc0 := 11) (pc' := 37) rfl (hb hby d5_11) rfl (flt (by decide)).2.1 (by decide) (by decide) ?_
    show Steps p.tables e below (T42.setTop (mkF m 37 #[.val (.ref a0_), .val (.double d1), .second, .val (.ref a2_), .val (.double (FP.dadd (FP.dadd (FP.dadd (FP.dadd d1 (FP.dmul u0 c0)) (FP.dmul u1 c1)) (FP.dmul u2 c2)) (FP.dmul u3 c3))), .second, .val (.int (4 : Int32))] [])) _
    refine XS.dload X42.here hx rfl (hb hby d5_37) rfl ?_
    exact k
  obtain ⟨fs, hr, hrun, hended, hW, hsame⟩ := X42.leave (v := some (.double (FP.dadd (FP.dadd (FP.dadd (FP.dadd d1 (FP.dmul u0 c0)) (FP.dmul u1 c1)) (FP.dmul u2 c2)) (FP.dmul u3 c3)))) (fun h => by rw [Bd.returns] at h; cases h)
  refine ⟨_, _, a44 _ ?_, hrun, hended, _, _, rfl, ?_, ⟨_, rfl⟩, hW, hsame.mono (by decide) (by decide)⟩
  · show Steps p.tables e below (T42.setTop (mkF m 39 #[.val (.ref a0_), .val (.double d1), .second, .val (.ref a2_), .val (.double (FP.dadd (FP.dadd (FP.dadd (FP.dadd d1 (FP.dmul u0 c0)) (FP.dmul u1 c1)) (FP.dmul u2 c2)) (FP.dmul u3 c3))), .second, .val (.int (4 : Int32))] [(.double (FP.dadd (FP.dadd (FP.dadd (FP.dadd d1 (FP.dmul u0 c0)) (FP.dmul u1 c1)) (FP.dmul u2 c2)) (FP.dmul u3 c3)))])) _
    exact retOut X42 hx Bd.returns rfl (Or.inr (Or.inr (Or.inl ⟨rfl, rfl, _, rfl⟩))) (hb hby d5_39) hr
  · show QW Z a0_ d1 a2_ arr kk kw u0 u1 u2 u3 c0 c1 c2 c3 h0 n0 _ T42.heap _
    rw [e42]
    exact ⟨rfl, N0, rfl⟩
theorem ef_rm0 (m : MethodId) (x0 : Int32) (x1 : Int32) (x2 : Int32) (x3 : Int32) (x4 : Int32) : entryFrame m #[(.int x0), (.int x1), (.int x2), (.int x3), (.int x4)] maxLocals = mkF m 0 #[.val (.int x0), .val (.int x1), .val (.int x2), .val (.int x3), .val (.int x4), .unset, .unset, .unset, .unset, .unset, .unset, .unset, .unset, .unset, .unset, .unset, .unset, .unset, .unset, .unset, .unset, .unset, .unset, .unset, .unset, .unset, .unset, .unset, .unset, .unset] [] := by first | (simp [entryFrame, mkF, argsToLocals, Value.category, maxLocals]; done) | rfl
theorem own_pd1 : parseMethodDescriptor "()V" = some ⟨[], none⟩ := by decide +kernel
theorem own_pd2 : parseMethodDescriptor "(Lcom/example/tabuvia/tabuvia/engine/Rule;D)V" = some ⟨[(.object "com/example/tabuvia/tabuvia/engine/Rule"), .double], none⟩ := by decide +kernel
theorem own_pd3 : parseMethodDescriptor "(D[D)D" = some ⟨[.double, (.array .double)], some .double⟩ := by decide +kernel
theorem own_pn_com_example_tabuvia_tabuvia_engine_ExcessWeighted349PinLaw : plainName "com/example/tabuvia/tabuvia/engine/ExcessWeighted349PinLaw" = true := by first | (simp [plainName, overriddenIn]; done) | decide +kernel
def Q0 (Z : State) (p0 : Int32) (p1 : Int32) (p2 : Int32) (p3 : Int32) (p4 : Int32) (w_CAPACITY : Addr) (w_DURATION : Addr) (w_TIME_WINDOWS : Addr) (w_FLEET : Addr) (h0 : Heap) (n0 : Nat) (v : Option Value) (h : Heap) (L : List Loc) : Prop := v = some (.int 1) ∧ Fr n0 L
set_option maxRecDepth 65536 in
set_option maxHeartbeats 40000000 in
theorem rm0 (l : Launch) (Z : State) (a0 : Array Value) (hw : ∀ d ∈ tables_1, d.before a0 Z = true) (ws : List Jvm.Cond) (p0 : Int32) (p1 : Int32) (p2 : Int32) (p3 : Int32) (p4 : Int32) (w_CAPACITY : Addr) (w_DURATION : Addr) (w_TIME_WINDOWS : Addr) (w_FLEET : Addr) (h0 : Heap) (n0 : Nat) (Z0 : n0 ≤ h0.size) (S_RULES : Sta Z h0 "com/example/tabuvia/tabuvia/engine/Excess" "RULES" "I" (.int (4 : Int32))) (S_CAPACITY : Sta Z h0 "com/example/tabuvia/tabuvia/engine/Rule" "CAPACITY" "Lcom/example/tabuvia/tabuvia/engine/Rule;" (.ref w_CAPACITY)) (X_CAPACITY : Exa Z h0 w_CAPACITY "com/example/tabuvia/tabuvia/engine/Rule") (F_CAPACITY_ordinal : Fld Z h0 w_CAPACITY "java/lang/Enum" "ordinal" "I" (.int 0)) (S_DURATION : Sta Z h0 "com/example/tabuvia/tabuvia/engine/Rule" "DURATION" "Lcom/example/tabuvia/tabuvia/engine/Rule;" (.ref w_DURATION)) (X_DURATION : Exa Z h0 w_DURATION "com/example/tabuvia/tabuvia/engine/Rule") (F_DURATION_ordinal : Fld Z h0 w_DURATION "java/lang/Enum" "ordinal" "I" (.int 1)) (S_TIME_WINDOWS : Sta Z h0 "com/example/tabuvia/tabuvia/engine/Rule" "TIME_WINDOWS" "Lcom/example/tabuvia/tabuvia/engine/Rule;" (.ref w_TIME_WINDOWS)) (X_TIME_WINDOWS : Exa Z h0 w_TIME_WINDOWS "com/example/tabuvia/tabuvia/engine/Rule") (F_TIME_WINDOWS_ordinal : Fld Z h0 w_TIME_WINDOWS "java/lang/Enum" "ordinal" "I" (.int 2)) (S_FLEET : Sta Z h0 "com/example/tabuvia/tabuvia/engine/Rule" "FLEET" "Lcom/example/tabuvia/tabuvia/engine/Rule;" (.ref w_FLEET)) (X_FLEET : Exa Z h0 w_FLEET "com/example/tabuvia/tabuvia/engine/Rule") (F_FLEET_ordinal : Fld Z h0 w_FLEET "java/lang/Enum" "ordinal" "I" (.int 3)) :
    MetFree l x (head1 (Jvm.Cond.code x code maxLocals ret :: ws) room_1) (fun a U => a = #[(.int p0), (.int p1), (.int p2), (.int p3), (.int p4)] ∧ Z.Warmed39 U.vm ∧ U.heap = h0) (fun _ _ _ _ _ => True) (fun _ U o U' => ∃ v L, o = .returned v ∧ Q0 Z p0 p1 p2 p3 p4 w_CAPACITY w_DURATION w_TIME_WINDOWS w_FLEET h0 n0 v U'.heap L ∧ FrameEnd U o U' L room_1.cells room_1.slots) := by
  refine MetFree.of_bodySF (plainFor_of_name own_pn_com_example_tabuvia_tabuvia_engine_ExcessWeighted349PinLaw) hisR ?_
  intro p e s m args below meth c s₁ Bd hml0 hP hK
  obtain ⟨rfl, hZ, hh⟩ := hP
  have hx := Bd.exec
  have hby := Bd.bytes
  have hml : c.maxLocals = 30 := hml0
  have hown : s.vm.findClass "com/example/tabuvia/tabuvia/engine/ExcessWeighted349PinLaw" = some m.cls := findClass_of_methodNamed Bd.named
  have hnm := (name_of_methodNamed Bd.named Bd.method).1
  have X0 : Stand p l e room_1 s m #[(.int p0), (.int p1), (.int p2), (.int p3), (.int p4)] below meth c s₁ [] 0 0 := Stand.of_body Bd
  have e0 : s₁.heap = h0 := by rw [← hh, Bd.state]; rfl
  have N0 := Fr.nil n0
  have pre0 : ∀ t, Steps p.tables e below (s₁.setTop (mkF m 0 #[.val (.int p0), .val (.int p1), .val (.int p2), .val (.int p3), .val (.int p4), .unset, .unset, .unset, .unset, .unset, .unset, .unset, .unset, .unset, .unset, .unset, .unset, .unset, .unset, .unset, .unset, .unset, .unset, .unset, .unset, .unset, .unset, .unset, .unset, .unset] [])) t → Steps p.tables e below (s₁.setTop (entryFrame m #[(.int p0), (.int p1), (.int p2), (.int p3), (.int p4)] maxLocals)) t := fun t k => castTop (ef_rm0 m p0 p1 p2 p3 p4) k
  have a1 : ∀ t, Steps p.tables e below (s₁.setTop (mkF m 2 #[.val (.int p0), .val (.int p1), .val (.int p2), .val (.int p3), .val (.int p4), .unset, .unset, .unset, .unset, .unset, .unset, .unset, .unset, .unset, .unset, .unset, .unset, .unset, .unset, .unset, .unset, .unset, .unset, .unset, .unset, .unset, .unset, .unset, .unset, .unset] [(.int (p1.toInt16.toInt32))])) t → Steps p.tables e below (s₁.setTop (entryFrame m #[(.int p0), (.int p1), (.int p2), (.int p3), (.int p4)] maxLocals)) t := by
    intro t k
    refine pre0 t ?_
    show Steps p.tables e below (s₁.setTop (mkF m 0 #[.val (.int p0), .val (.int p1), .val (.int p2), .val (.int p3), .val (.int p4), .unset, .unset, .unset, .unset, .unset, .unset, .unset, .unset, .unset, .unset, .unset, .unset, .unset, .unset, .unset, .unset, .unset, .unset, .unset, .unset, .unset, .unset, .unset, .unset, .unset] [])) _
    refine XS.iloadN X0.here hx rfl (hb hby at_0) rfl ?_
    show Steps p.tables e below (s₁.setTop (mkF m 1 #[.val (.int p0), .val (.int p1), .val (.int p2), .val (.int p3), .val (.int p4), .unset, .unset, .unset, .unset, .unset, .unset, .unset, .unset, .unset, .unset, .unset, .unset, .unset, .unset, .unset, .unset, .unset, .unset, .unset, .unset, .unset, .unset, .unset, .unset, .unset] [(.int p1)])) _
    refine XS.i2s X0.here hx rfl (hb hby at_1) rfl ?_
    exact k
  obtain ⟨x0, h_x0⟩ : ∃ z : Int32, z = (p1.toInt16.toInt32) := ⟨_, rfl⟩
  rw [← h_x0] at a1
  have a2 : ∀ t, Steps p.tables e below (s₁.setTop (mkF m 9 #[.val (.int p0), .val (.int p1), .val (.int p2), .val (.int p3), .val (.int p4), .val (.double (FP.i2d x0)), .second, .unset, .unset, .unset, .unset, .unset, .unset, .unset, .unset, .unset, .unset, .unset, .unset, .unset, .unset, .unset, .unset, .unset, .unset, .unset, .unset, .unset, .unset, .unset] [(.int (p1 >>> ((16 : Int32) &&& 31)))])) t → Steps p.tables e below (s₁.setTop (entryFrame m #[(.int p0), (.int p1), (.int p2), (.int p3), (.int p4)] maxLocals)) t := by
    intro t k
    refine a1 t ?_
    show Steps p.tables e below (s₁.setTop (mkF m 2 #[.val (.int p0), .val (.int p1), .val (.int p2), .val (.int p3), .val (.int p4), .unset, .unset, .unset, .unset, .unset, .unset, .unset, .unset, .unset, .unset, .unset, .unset, .unset, .unset, .unset, .unset, .unset, .unset, .unset, .unset, .unset, .unset, .unset, .unset, .unset] [(.int x0)])) _
    refine XS.i2dS X0.here hx rfl (hb hby at_2) rfl rfl ?_
    show Steps p.tables e below (s₁.setTop (mkF m 3 #[.val (.int p0), .val (.int p1), .val (.int p2), .val (.int p3), .val (.int p4), .unset, .unset, .unset, .unset, .unset, .unset, .unset, .unset, .unset, .unset, .unset, .unset, .unset, .unset, .unset, .unset, .unset, .unset, .unset, .unset, .unset, .unset, .unset, .unset, .unset] [(.double (FP.i2d x0))])) _
    refine XS.dstore X0.here hx rfl (hb hby at_3) rfl (l' := #[.val (.int p0), .val (.int p1), .val (.int p2), .val (.int p3), .val (.int p4), .val (.double (FP.i2d x0)), .second, .unset, .unset, .unset, .unset, .unset, .unset, .unset, .unset, .unset, .unset, .unset, .unset, .unset, .unset, .unset, .unset, .unset, .unset, .unset, .unset, .unset, .unset, .unset]) rfl ?_
    show Steps p.tables e below (s₁.setTop (mkF m 5 #[.val (.int p0), .val (.int p1), .val (.int p2), .val (.int p3), .val (.int p4), .val (.double (FP.i2d x0)), .second, .unset, .unset, .unset, .unset, .unset, .unset, .unset, .unset, .unset, .unset, .unset, .unset, .unset, .unset, .unset, .unset, .unset, .unset, .unset, .unset, .unset, .unset, .unset] [])) _
    refine XS.iloadN X0.here hx rfl (hb hby at_5) rfl ?_
    show Steps p.tables e below (s₁.setTop (mkF m 6 #[.val (.int p0), .val (.int p1), .val (.int p2), .val (.int p3), .val (.int p4), .val (.double (FP.i2d x0)), .second, .unset, .unset, .unset, .unset, .unset, .unset, .unset, .unset, .unset, .unset, .unset, .unset, .unset, .unset, .unset, .unset, .unset, .unset, .unset, .unset, .unset, .unset, .unset] [(.int p1)])) _
    refine XS.bipush X0.here hx rfl (hb hby at_6) ?_
    show Steps p.tables e below (s₁.setTop (mkF m 8 #[.val (.int p0), .val (.int p1), .val (.int p2), .val (.int p3), .val (.int p4), .val (.double (FP.i2d x0)), .second, .unset, .unset, .unset, .unset, .unset, .unset, .unset, .unset, .unset, .unset, .unset, .unset, .unset, .unset, .unset, .unset, .unset, .unset, .unset, .unset, .unset, .unset, .unset] [(.int (16 : Int32)), (.int p1)])) _
    refine XS.ishr X0.here hx rfl (hb hby at_8) rfl ?_
    exact k
  obtain ⟨x1, h_x1⟩ : ∃ z : Int32, z = (p1 >>> ((16 : Int32) &&& 31)) := ⟨_, rfl⟩
  rw [← h_x1] at a2
  have a3 : ∀ t, Steps p.tables e below (s₁.setTop (mkF m 14 #[.val (.int p0), .val (.int p1), .val (.int p2), .val (.int p3), .val (.int p4), .val (.double (FP.i2d x0)), .second, .val (.double (FP.i2d x1)), .second, .unset, .unset, .unset, .unset, .unset, .unset, .unset, .unset, .unset, .unset, .unset, .unset, .unset, .unset, .unset, .unset, .unset, .unset, .unset, .unset, .unset] [(.int (p2.toInt16.toInt32))])) t → Steps p.tables e below (s₁.setTop (entryFrame m #[(.int p0), (.int p1), (.int p2), (.int p3), (.int p4)] maxLocals)) t := by
    intro t k
    refine a2 t ?_
    show Steps p.tables e below (s₁.setTop (mkF m 9 #[.val (.int p0), .val (.int p1), .val (.int p2), .val (.int p3), .val (.int p4), .val (.double (FP.i2d x0)), .second, .unset, .unset, .unset, .unset, .unset, .unset, .unset, .unset, .unset, .unset, .unset, .unset, .unset, .unset, .unset, .unset, .unset, .unset, .unset, .unset, .unset, .unset, .unset] [(.int x1)])) _
    refine XS.i2dS X0.here hx rfl (hb hby at_9) rfl rfl ?_
    show Steps p.tables e below (s₁.setTop (mkF m 10 #[.val (.int p0), .val (.int p1), .val (.int p2), .val (.int p3), .val (.int p4), .val (.double (FP.i2d x0)), .second, .unset, .unset, .unset, .unset, .unset, .unset, .unset, .unset, .unset, .unset, .unset, .unset, .unset, .unset, .unset, .unset, .unset, .unset, .unset, .unset, .unset, .unset, .unset] [(.double (FP.i2d x1))])) _
    refine XS.dstore X0.here hx rfl (hb hby at_10) rfl (l' := #[.val (.int p0), .val (.int p1), .val (.int p2), .val (.int p3), .val (.int p4), .val (.double (FP.i2d x0)), .second, .val (.double (FP.i2d x1)), .second, .unset, .unset, .unset, .unset, .unset, .unset, .unset, .unset, .unset, .unset, .unset, .unset, .unset, .unset, .unset, .unset, .unset, .unset, .unset, .unset, .unset]) rfl ?_
    show Steps p.tables e below (s₁.setTop (mkF m 12 #[.val (.int p0), .val (.int p1), .val (.int p2), .val (.int p3), .val (.int p4), .val (.double (FP.i2d x0)), .second, .val (.double (FP.i2d x1)), .second, .unset, .unset, .unset, .unset, .unset, .unset, .unset, .unset, .unset, .unset, .unset, .unset, .unset, .unset, .unset, .unset, .unset, .unset, .unset, .unset, .unset] [])) _
    refine XS.iloadN X0.here hx rfl (hb hby at_12) rfl ?_
    show Steps p.tables e below (s₁.setTop (mkF m 13 #[.val (.int p0), .val (.int p1), .val (.int p2), .val (.int p3), .val (.int p4), .val (.double (FP.i2d x0)), .second, .val (.double (FP.i2d x1)), .second, .unset, .unset, .unset, .unset, .unset, .unset, .unset, .unset, .unset, .unset, .unset, .unset, .unset, .unset, .unset, .unset, .unset, .unset, .unset, .unset, .unset] [(.int p2)])) _
    refine XS.i2s X0.here hx rfl (hb hby at_13) rfl ?_
    exact k
  obtain ⟨x2, h_x2⟩ : ∃ z : Int32, z = (p2.toInt16.toInt32) := ⟨_, rfl⟩
  rw [← h_x2] at a3
  have a4 : ∀ t, Steps p.tables e below (s₁.setTop (mkF m 21 #[.val (.int p0), .val (.int p1), .val (.int p2), .val (.int p3), .val (.int p4), .val (.double (FP.i2d x0)), .second, .val (.double (FP.i2d x1)), .second, .val (.double (FP.i2d x2)), .second, .unset, .unset, .unset, .unset, .unset, .unset, .unset, .unset, .unset, .unset, .unset, .unset, .unset, .unset, .unset, .unset, .unset, .unset, .unset] [(.int (p2 >>> ((16 : Int32) &&& 31)))])) t → Steps p.tables e below (s₁.setTop (entryFrame m #[(.int p0), (.int p1), (.int p2), (.int p3), (.int p4)] maxLocals)) t := by
    intro t k
    refine a3 t ?_
    show Steps p.tables e below (s₁.setTop (mkF m 14 #[.val (.int p0), .val (.int p1), .val (.int p2), .val (.int p3), .val (.int p4), .val (.double (FP.i2d x0)), .second, .val (.double (FP.i2d x1)), .second, .unset, .unset, .unset, .unset, .unset, .unset, .unset, .unset, .unset, .unset, .unset, .unset, .unset, .unset, .unset, .unset, .unset, .unset, .unset, .unset, .unset] [(.int x2)])) _
    refine XS.i2dS X0.here hx rfl (hb hby at_14) rfl rfl ?_
    show Steps p.tables e below (s₁.setTop (mkF m 15 #[.val (.int p0), .val (.int p1), .val (.int p2), .val (.int p3), .val (.int p4), .val (.double (FP.i2d x0)), .second, .val (.double (FP.i2d x1)), .second, .unset, .unset, .unset, .unset, .unset, .unset, .unset, .unset, .unset, .unset, .unset, .unset, .unset, .unset, .unset, .unset, .unset, .unset, .unset, .unset, .unset] [(.double (FP.i2d x2))])) _
    refine XS.dstore X0.here hx rfl (hb hby at_15) rfl (l' := #[.val (.int p0), .val (.int p1), .val (.int p2), .val (.int p3), .val (.int p4), .val (.double (FP.i2d x0)), .second, .val (.double (FP.i2d x1)), .second, .val (.double (FP.i2d x2)), .second, .unset, .unset, .unset, .unset, .unset, .unset, .unset, .unset, .unset, .unset, .unset, .unset, .unset, .unset, .unset, .unset, .unset, .unset, .unset]) rfl ?_
    show Steps p.tables e below (s₁.setTop (mkF m 17 #[.val (.int p0), .val (.int p1), .val (.int p2), .val (.int p3), .val (.int p4), .val (.double (FP.i2d x0)), .second, .val (.double (FP.i2d x1)), .second, .val (.double (FP.i2d x2)), .second, .unset, .unset, .unset, .unset, .unset, .unset, .unset, .unset, .unset, .unset, .unset, .unset, .unset, .unset, .unset, .unset, .unset, .unset, .unset] [])) _
    refine XS.iloadN X0.here hx rfl (hb hby at_17) rfl ?_
    show Steps p.tables e below (s₁.setTop (mkF m 18 #[.val (.int p0), .val (.int p1), .val (.int p2), .val (.int p3), .val (.int p4), .val (.double (FP.i2d x0)), .second, .val (.double (FP.i2d x1)), .second, .val (.double (FP.i2d x2)), .second, .unset, .unset, .unset, .unset, .unset, .unset, .unset, .unset, .unset, .unset, .unset, .unset, .unset, .unset, .unset, .unset, .unset, .unset, .unset] [(.int p2)])) _
    refine XS.bipush X0.here hx rfl (hb hby at_18) ?_
    show Steps p.tables e below (s₁.setTop (mkF m 20 #[.val (.int p0), .val (.int p1), .val (.int p2), .val (.int p3), .val (.int p4), .val (.double (FP.i2d x0)), .second, .val (.double (FP.i2d x1)), .second, .val (.double (FP.i2d x2)), .second, .unset, .unset, .unset, .unset, .unset, .unset, .unset, .unset, .unset, .unset, .unset, .unset, .unset, .unset, .unset, .unset, .unset, .unset, .unset] [(.int (16 : Int32)), (.int p2)])) _
    refine XS.ishr X0.here hx rfl (hb hby at_20) rfl ?_
    exact k
  obtain ⟨x3, h_x3⟩ : ∃ z : Int32, z = (p2 >>> ((16 : Int32) &&& 31)) := ⟨_, rfl⟩
  rw [← h_x3] at a4
  have a5 : ∀ t, Steps p.tables e below (s₁.setTop (mkF m 26 #[.val (.int p0), .val (.int p1), .val (.int p2), .val (.int p3), .val (.int p4), .val (.double (FP.i2d x0)), .second, .val (.double (FP.i2d x1)), .second, .val (.double (FP.i2d x2)), .second, .val (.double (FP.i2d x3)), .second, .unset, .unset, .unset, .unset, .unset, .unset, .unset, .unset, .unset, .unset, .unset, .unset, .unset, .unset, .unset, .unset, .unset] [(.int (p3.toInt16.toInt32))])) t → Steps p.tables e below (s₁.setTop (entryFrame m #[(.int p0), (.int p1), (.int p2), (.int p3), (.int p4)] maxLocals)) t := by
    intro t k
    refine a4 t ?_
    show Steps p.tables e below (s₁.setTop (mkF m 21 #[.val (.int p0), .val (.int p1), .val (.int p2), .val (.int p3), .val (.int p4), .val (.double (FP.i2d x0)), .second, .val (.double (FP.i2d x1)), .second, .val (.double (FP.i2d x2)), .second, .unset, .unset, .unset, .unset, .unset, .unset, .unset, .unset, .unset, .unset, .unset, .unset, .unset, .unset, .unset, .unset, .unset, .unset, .unset] [(.int x3)])) _
    refine XS.i2dS X0.here hx rfl (hb hby at_21) rfl rfl ?_
    show Steps p.tables e below (s₁.setTop (mkF m 22 #[.val (.int p0), .val (.int p1), .val (.int p2), .val (.int p3), .val (.int p4), .val (.double (FP.i2d x0)), .second, .val (.double (FP.i2d x1)), .second, .val (.double (FP.i2d x2)), .second, .unset, .unset, .unset, .unset, .unset, .unset, .unset, .unset, .unset, .unset, .unset, .unset, .unset, .unset, .unset, .unset, .unset, .unset, .unset] [(.double (FP.i2d x3))])) _
    refine XS.dstore X0.here hx rfl (hb hby at_22) rfl (l' := #[.val (.int p0), .val (.int p1), .val (.int p2), .val (.int p3), .val (.int p4), .val (.double (FP.i2d x0)), .second, .val (.double (FP.i2d x1)), .second, .val (.double (FP.i2d x2)), .second, .val (.double (FP.i2d x3)), .second, .unset, .unset, .unset, .unset, .unset, .unset, .unset, .unset, .unset, .unset, .unset, .unset, .unset, .unset, .unset, .unset, .unset]) rfl ?_
    show Steps p.tables e below (s₁.setTop (mkF m 24 #[.val (.int p0), .val (.int p1), .val (.int p2), .val (.int p3), .val (.int p4), .val (.double (FP.i2d x0)), .second, .val (.double (FP.i2d x1)), .second, .val (.double (FP.i2d x2)), .second, .val (.double (FP.i2d x3)), .second, .unset, .unset, .unset, .unset, .unset, .unset, .unset, .unset, .unset, .unset, .unset, .unset, .unset, .unset, .unset, .unset, .unset] [])) _
    refine XS.iloadN X0.here hx rfl (hb hby at_24) rfl ?_
    show Steps p.tables e below (s₁.setTop (mkF m 25 #[.val (.int p0), .val (.int p1), .val (.int p2), .val (.int p3), .val (.int p4), .val (.double (FP.i2d x0)), .second, .val (.double (FP.i2d x1)), .second, .val (.double (FP.i2d x2)), .second, .val (.double (FP.i2d x3)), .second, .unset, .unset, .unset, .unset, .unset, .unset, .unset, .unset, .unset, .unset, .unset, .unset, .unset, .unset, .unset, .unset, .unset] [(.int p3)])) _
    refine XS.i2s X0.here hx rfl (hb hby at_25) rfl ?_
    exact k
  obtain ⟨y0, h_y0⟩ : ∃ z : Int32, z = (p3.toInt16.toInt32) := ⟨_, rfl⟩
  rw [← h_y0] at a5
  have a6 : ∀ t, Steps p.tables e below (s₁.setTop (mkF m 33 #[.val (.int p0), .val (.int p1), .val (.int p2), .val (.int p3), .val (.int p4), .val (.double (FP.i2d x0)), .second, .val (.double (FP.i2d x1)), .second, .val (.double (FP.i2d x2)), .second, .val (.double (FP.i2d x3)), .second, .val (.double (FP.i2d y0)), .second, .unset, .unset, .unset, .unset, .unset, .unset, .unset, .unset, .unset, .unset, .unset, .unset, .unset, .unset, .unset] [(.int (p3 >>> ((16 : Int32) &&& 31)))])) t → Steps p.tables e below (s₁.setTop (entryFrame m #[(.int p0), (.int p1), (.int p2), (.int p3), (.int p4)] maxLocals)) t := by
    intro t k
    refine a5 t ?_
    show Steps p.tables e below (s₁.setTop (mkF m 26 #[.val (.int p0), .val (.int p1), .val (.int p2), .val (.int p3), .val (.int p4), .val (.double (FP.i2d x0)), .second, .val (.double (FP.i2d x1)), .second, .val (.double (FP.i2d x2)), .second, .val (.double (FP.i2d x3)), .second, .unset, .unset, .unset, .unset, .unset, .unset, .unset, .unset, .unset, .unset, .unset, .unset, .unset, .unset, .unset, .unset, .unset] [(.int y0)])) _
    refine XS.i2dS X0.here hx rfl (hb hby at_26) rfl rfl ?_
    show Steps p.tables e below (s₁.setTop (mkF m 27 #[.val (.int p0), .val (.int p1), .val (.int p2), .val (.int p3), .val (.int p4), .val (.double (FP.i2d x0)), .second, .val (.double (FP.i2d x1)), .second, .val (.double (FP.i2d x2)), .second, .val (.double (FP.i2d x3)), .second, .unset, .unset, .unset, .unset, .unset, .unset, .unset, .unset, .unset, .unset, .unset, .unset, .unset, .unset, .unset, .unset, .unset] [(.double (FP.i2d y0))])) _
    refine XS.dstore X0.here hx rfl (hb hby at_27) rfl (l' := #[.val (.int p0), .val (.int p1), .val (.int p2), .val (.int p3), .val (.int p4), .val (.double (FP.i2d x0)), .second, .val (.double (FP.i2d x1)), .second, .val (.double (FP.i2d x2)), .second, .val (.double (FP.i2d x3)), .second, .val (.double (FP.i2d y0)), .second, .unset, .unset, .unset, .unset, .unset, .unset, .unset, .unset, .unset, .unset, .unset, .unset, .unset, .unset, .unset]) rfl ?_
    show Steps p.tables e below (s₁.setTop (mkF m 29 #[.val (.int p0), .val (.int p1), .val (.int p2), .val (.int p3), .val (.int p4), .val (.double (FP.i2d x0)), .second, .val (.double (FP.i2d x1)), .second, .val (.double (FP.i2d x2)), .second, .val (.double (FP.i2d x3)), .second, .val (.double (FP.i2d y0)), .second, .unset, .unset, .unset, .unset, .unset, .unset, .unset, .unset, .unset, .unset, .unset, .unset, .unset, .unset, .unset] [])) _
    refine XS.iloadN X0.here hx rfl (hb hby at_29) rfl ?_
    show Steps p.tables e below (s₁.setTop (mkF m 30 #[.val (.int p0), .val (.int p1), .val (.int p2), .val (.int p3), .val (.int p4), .val (.double (FP.i2d x0)), .second, .val (.double (FP.i2d x1)), .second, .val (.double (FP.i2d x2)), .second, .val (.double (FP.i2d x3)), .second, .val (.double (FP.i2d y0)), .second, .unset, .unset, .unset, .unset, .unset, .unset, .unset, .unset, .unset, .unset, .unset, .unset, .unset, .unset, .unset] [(.int p3)])) _
    refine XS.bipush X0.here hx rfl (hb hby at_30) ?_
    show Steps p.tables e below (s₁.setTop (mkF m 32 #[.val (.int p0), .val (.int p1), .val (.int p2), .val (.int p3), .val (.int p4), .val (.double (FP.i2d x0)), .second, .val (.double (FP.i2d x1)), .second, .val (.double (FP.i2d x2)), .second, .val (.double (FP.i2d x3)), .second, .val (.double (FP.i2d y0)), .second, .unset, .unset, .unset, .unset, .unset, .unset, .unset, .unset, .unset, .unset, .unset, .unset, .unset, .unset, .unset] [(.int (16 : Int32)), (.int p3)])) _
    refine XS.ishr X0.here hx rfl (hb hby at_32) rfl ?_
    exact k
  obtain ⟨y1, h_y1⟩ : ∃ z : Int32, z = (p3 >>> ((16 : Int32) &&& 31)) := ⟨_, rfl⟩
  rw [← h_y1] at a6
  have a7 : ∀ t, Steps p.tables e below (s₁.setTop (mkF m 39 #[.val (.int p0), .val (.int p1), .val (.int p2), .val (.int p3), .val (.int p4), .val (.double (FP.i2d x0)), .second, .val (.double (FP.i2d x1)), .second, .val (.double (FP.i2d x2)), .second, .val (.double (FP.i2d x3)), .second, .val (.double (FP.i2d y0)), .second, .val (.double (FP.i2d y1)), .second, .unset, .unset, .unset, .unset, .unset, .unset, .unset, .unset, .unset, .unset, .unset, .unset, .unset] [(.int (p4.toInt16.toInt32))])) t → Steps p.tables e below (s₁.setTop (entryFrame m #[(.int p0), (.int p1), (.int p2), (.int p3), (.int p4)] maxLocals)) t := by
    intro t k
    refine a6 t ?_
    show Steps p.tables e below (s₁.setTop (mkF m 33 #[.val (.int p0), .val (.int p1), .val (.int p2), .val (.int p3), .val (.int p4), .val (.double (FP.i2d x0)), .second, .val (.double (FP.i2d x1)), .second, .val (.double (FP.i2d x2)), .second, .val (.double (FP.i2d x3)), .second, .val (.double (FP.i2d y0)), .second, .unset, .unset, .unset, .unset, .unset, .unset, .unset, .unset, .unset, .unset, .unset, .unset, .unset, .unset, .unset] [(.int y1)])) _
    refine XS.i2dS X0.here hx rfl (hb hby at_33) rfl rfl ?_
    show Steps p.tables e below (s₁.setTop (mkF m 34 #[.val (.int p0), .val (.int p1), .val (.int p2), .val (.int p3), .val (.int p4), .val (.double (FP.i2d x0)), .second, .val (.double (FP.i2d x1)), .second, .val (.double (FP.i2d x2)), .second, .val (.double (FP.i2d x3)), .second, .val (.double (FP.i2d y0)), .second, .unset, .unset, .unset, .unset, .unset, .unset, .unset, .unset, .unset, .unset, .unset, .unset, .unset, .unset, .unset] [(.double (FP.i2d y1))])) _
    refine XS.dstore X0.here hx rfl (hb hby at_34) rfl (l' := #[.val (.int p0), .val (.int p1), .val (.int p2), .val (.int p3), .val (.int p4), .val (.double (FP.i2d x0)), .second, .val (.double (FP.i2d x1)), .second, .val (.double (FP.i2d x2)), .second, .val (.double (FP.i2d x3)), .second, .val (.double (FP.i2d y0)), .second, .val (.double (FP.i2d y1)), .second, .unset, .unset, .unset, .unset, .unset, .unset, .unset, .unset, .unset, .unset, .unset, .unset, .unset]) rfl ?_
    show Steps p.tables e below (s₁.setTop (mkF m 36 #[.val (.int p0), .val (.int p1), .val (.int p2), .val (.int p3), .val (.int p4), .val (.double (FP.i2d x0)), .second, .val (.double (FP.i2d x1)), .second, .val (.double (FP.i2d x2)), .second, .val (.double (FP.i2d x3)), .second, .val (.double (FP.i2d y0)), .second, .val (.double (FP.i2d y1)), .second, .unset, .unset, .unset, .unset, .unset, .unset, .unset, .unset, .unset, .unset, .unset, .unset, .unset] [])) _
    refine XS.iload X0.here hx rfl (hb hby at_36) rfl ?_
    show Steps p.tables e below (s₁.setTop (mkF m 38 #[.val (.int p0), .val (.int p1), .val (.int p2), .val (.int p3), .val (.int p4), .val (.double (FP.i2d x0)), .second, .val (.double (FP.i2d x1)), .second, .val (.double (FP.i2d x2)), .second, .val (.double (FP.i2d x3)), .second, .val (.double (FP.i2d y0)), .second, .val (.double (FP.i2d y1)), .second, .unset, .unset, .unset, .unset, .unset, .unset, .unset, .unset, .unset, .unset, .unset, .unset, .unset] [(.int p4)])) _
    refine XS.i2s X0.here hx rfl (hb hby at_38) rfl ?_
    exact k
  obtain ⟨y2, h_y2⟩ : ∃ z : Int32, z = (p4.toInt16.toInt32) := ⟨_, rfl⟩
  rw [← h_y2] at a7
  have a8 : ∀ t, Steps p.tables e below (s₁.setTop (mkF m 47 #[.val (.int p0), .val (.int p1), .val (.int p2), .val (.int p3), .val (.int p4), .val (.double (FP.i2d x0)), .second, .val (.double (FP.i2d x1)), .second, .val (.double (FP.i2d x2)), .second, .val (.double (FP.i2d x3)), .second, .val (.double (FP.i2d y0)), .second, .val (.double (FP.i2d y1)), .second, .val (.double (FP.i2d y2)), .second, .unset, .unset, .unset, .unset, .unset, .unset, .unset, .unset, .unset, .unset, .unset] [(.int (p4 >>> ((16 : Int32) &&& 31)))])) t → Steps p.tables e below (s₁.setTop (entryFrame m #[(.int p0), (.int p1), (.int p2), (.int p3), (.int p4)] maxLocals)) t := by
    intro t k
    refine a7 t ?_
    show Steps p.tables e below (s₁.setTop (mkF m 39 #[.val (.int p0), .val (.int p1), .val (.int p2), .val (.int p3), .val (.int p4), .val (.double (FP.i2d x0)), .second, .val (.double (FP.i2d x1)), .second, .val (.double (FP.i2d x2)), .second, .val (.double (FP.i2d x3)), .second, .val (.double (FP.i2d y0)), .second, .val (.double (FP.i2d y1)), .second, .unset, .unset, .unset, .unset, .unset, .unset, .unset, .unset, .unset, .unset, .unset, .unset, .unset] [(.int y2)])) _
    refine XS.i2dS X0.here hx rfl (hb hby at_39) rfl rfl ?_
    show Steps p.tables e below (s₁.setTop (mkF m 40 #[.val (.int p0), .val (.int p1), .val (.int p2), .val (.int p3), .val (.int p4), .val (.double (FP.i2d x0)), .second, .val (.double (FP.i2d x1)), .second, .val (.double (FP.i2d x2)), .second, .val (.double (FP.i2d x3)), .second, .val (.double (FP.i2d y0)), .second, .val (.double (FP.i2d y1)), .second, .unset, .unset, .unset, .unset, .unset, .unset, .unset, .unset, .unset, .unset, .unset, .unset, .unset] [(.double (FP.i2d y2))])) _
    refine XS.dstore X0.here hx rfl (hb hby at_40) rfl (l' := #[.val (.int p0), .val (.int p1), .val (.int p2), .val (.int p3), .val (.int p4), .val (.double (FP.i2d x0)), .second, .val (.double (FP.i2d x1)), .second, .val (.double (FP.i2d x2)), .second, .val (.double (FP.i2d x3)), .second, .val (.double (FP.i2d y0)), .second, .val (.double (FP.i2d y1)), .second, .val (.double (FP.i2d y2)), .second, .unset, .unset, .unset, .unset, .unset, .unset, .unset, .unset, .unset, .unset, .unset]) rfl ?_
    show Steps p.tables e below (s₁.setTop (mkF m 42 #[.val (.int p0), .val (.int p1), .val (.int p2), .val (.int p3), .val (.int p4), .val (.double (FP.i2d x0)), .second, .val (.double (FP.i2d x1)), .second, .val (.double (FP.i2d x2)), .second, .val (.double (FP.i2d x3)), .second, .val (.double (FP.i2d y0)), .second, .val (.double (FP.i2d y1)), .second, .val (.double (FP.i2d y2)), .second, .unset, .unset, .unset, .unset, .unset, .unset, .unset, .unset, .unset, .unset, .unset] [])) _
    refine XS.iload X0.here hx rfl (hb hby at_42) rfl ?_
    show Steps p.tables e below (s₁.setTop (mkF m 44 #[.val (.int p0), .val (.int p1), .val (.int p2), .val (.int p3), .val (.int p4), .val (.double (FP.i2d x0)), .second, .val (.double (FP.i2d x1)), .second, .val (.double (FP.i2d x2)), .second, .val (.double (FP.i2d x3)), .second, .val (.double (FP.i2d y0)), .second, .val (.double (FP.i2d y1)), .second, .val (.double (FP.i2d y2)), .second, .unset, .unset, .unset, .unset, .unset, .unset, .unset, .unset, .unset, .unset, .unset] [(.int p4)])) _
    refine XS.bipush X0.here hx rfl (hb hby at_44) ?_
    show Steps p.tables e below (s₁.setTop (mkF m 46 #[.val (.int p0), .val (.int p1), .val (.int p2), .val (.int p3), .val (.int p4), .val (.double (FP.i2d x0)), .second, .val (.double (FP.i2d x1)), .second, .val (.double (FP.i2d x2)), .second, .val (.double (FP.i2d x3)), .second, .val (.double (FP.i2d y0)), .second, .val (.double (FP.i2d y1)), .second, .val (.double (FP.i2d y2)), .second, .unset, .unset, .unset, .unset, .unset, .unset, .unset, .unset, .unset, .unset, .unset] [(.int (16 : Int32)), (.int p4)])) _
    refine XS.ishr X0.here hx rfl (hb hby at_46) rfl ?_
    exact k
  obtain ⟨y3, h_y3⟩ : ∃ z : Int32, z = (p4 >>> ((16 : Int32) &&& 31)) := ⟨_, rfl⟩
  rw [← h_y3] at a8
  have r0 := rng32 p0
  have rx0 : -32768 ≤ x0.toInt ∧ x0.toInt ≤ 32767 := by rw [h_x0]; exact own_s _
  have ry0 : -32768 ≤ y0.toInt ∧ y0.toInt ≤ 32767 := by rw [h_y0]; exact own_s _
  have hP0 := own_p rx0 ry0
  have hB0 := own_mb rx0 ry0
  have rx1 : -32768 ≤ x1.toInt ∧ x1.toInt ≤ 32767 := by rw [h_x1]; exact own_h _
  have ry1 : -32768 ≤ y1.toInt ∧ y1.toInt ≤ 32767 := by rw [h_y1]; exact own_h _
  have hP1 := own_p rx1 ry1
  have hB1 := own_mb rx1 ry1
  have rx2 : -32768 ≤ x2.toInt ∧ x2.toInt ≤ 32767 := by rw [h_x2]; exact own_s _
  have ry2 : -32768 ≤ y2.toInt ∧ y2.toInt ≤ 32767 := by rw [h_y2]; exact own_s _
  have hP2 := own_p rx2 ry2
  have hB2 := own_mb rx2 ry2
  have rx3 : -32768 ≤ x3.toInt ∧ x3.toInt ≤ 32767 := by rw [h_x3]; exact own_h _
  have ry3 : -32768 ≤ y3.toInt ∧ y3.toInt ≤ 32767 := by rw [h_y3]; exact own_h _
  have hP3 := own_p rx3 ry3
  have hB3 := own_mb rx3 ry3
  have hS0 := own_a (dy_i2d p0) hP0 (by omega) hB0
  have hS1 := own_a hS0 hP1 (by omega) hB1
  have hS2 := own_a hS1 hP2 (by omega) hB2
  have hS3 := own_a hS2 hP3 (by omega) hB3
  have a9 : ∀ t, Steps p.tables e below (s₁.setTop (mkF m 55 #[.val (.int p0), .val (.int p1), .val (.int p2), .val (.int p3), .val (.int p4), .val (.double (FP.i2d x0)), .second, .val (.double (FP.i2d x1)), .second, .val (.double (FP.i2d x2)), .second, .val (.double (FP.i2d x3)), .second, .val (.double (FP.i2d y0)), .second, .val (.double (FP.i2d y1)), .second, .val (.double (FP.i2d y2)), .second, .val (.double (FP.i2d y3)), .second, .val (.double (FP.i2d p0)), .second, .unset, .unset, .unset, .unset, .unset, .unset, .unset] [(.int (4 : Int32))])) t → Steps p.tables e below (s₁.setTop (entryFrame m #[(.int p0), (.int p1), (.int p2), (.int p3), (.int p4)] maxLocals)) t := by
    intro t k
    refine a8 t ?_
    show Steps p.tables e below (s₁.setTop (mkF m 47 #[.val (.int p0), .val (.int p1), .val (.int p2), .val (.int p3), .val (.int p4), .val (.double (FP.i2d x0)), .second, .val (.double (FP.i2d x1)), .second, .val (.double (FP.i2d x2)), .second, .val (.double (FP.i2d x3)), .second, .val (.double (FP.i2d y0)), .second, .val (.double (FP.i2d y1)), .second, .val (.double (FP.i2d y2)), .second, .unset, .unset, .unset, .unset, .unset, .unset, .unset, .unset, .unset, .unset, .unset] [(.int y3)])) _
    refine XS.i2dS X0.here hx rfl (hb hby at_47) rfl rfl ?_
    show Steps p.tables e below (s₁.setTop (mkF m 48 #[.val (.int p0), .val (.int p1), .val (.int p2), .val (.int p3), .val (.int p4), .val (.double (FP.i2d x0)), .second, .val (.double (FP.i2d x1)), .second, .val (.double (FP.i2d x2)), .second, .val (.double (FP.i2d x3)), .second, .val (.double (FP.i2d y0)), .second, .val (.double (FP.i2d y1)), .second, .val (.double (FP.i2d y2)), .second, .unset, .unset, .unset, .unset, .unset, .unset, .unset, .unset, .unset, .unset, .unset] [(.double (FP.i2d y3))])) _
    refine XS.dstore X0.here hx rfl (hb hby at_48) rfl (l' := #[.val (.int p0), .val (.int p1), .val (.int p2), .val (.int p3), .val (.int p4), .val (.double (FP.i2d x0)), .second, .val (.double (FP.i2d x1)), .second, .val (.double (FP.i2d x2)), .second, .val (.double (FP.i2d x3)), .second, .val (.double (FP.i2d y0)), .second, .val (.double (FP.i2d y1)), .second, .val (.double (FP.i2d y2)), .second, .val (.double (FP.i2d y3)), .second, .unset, .unset, .unset, .unset, .unset, .unset, .unset, .unset, .unset]) rfl ?_
    show Steps p.tables e below (s₁.setTop (mkF m 50 #[.val (.int p0), .val (.int p1), .val (.int p2), .val (.int p3), .val (.int p4), .val (.double (FP.i2d x0)), .second, .val (.double (FP.i2d x1)), .second, .val (.double (FP.i2d x2)), .second, .val (.double (FP.i2d x3)), .second, .val (.double (FP.i2d y0)), .second, .val (.double (FP.i2d y1)), .second, .val (.double (FP.i2d y2)), .second, .val (.double (FP.i2d y3)), .second, .unset, .unset, .unset, .unset, .unset, .unset, .unset, .unset, .unset] [])) _
    refine XS.iloadN X0.here hx rfl (hb hby at_50) rfl ?_
    show Steps p.tables e below (s₁.setTop (mkF m 51 #[.val (.int p0), .val (.int p1), .val (.int p2), .val (.int p3), .val (.int p4), .val (.double (FP.i2d x0)), .second, .val (.double (FP.i2d x1)), .second, .val (.double (FP.i2d x2)), .second, .val (.double (FP.i2d x3)), .second, .val (.double (FP.i2d y0)), .second, .val (.double (FP.i2d y1)), .second, .val (.double (FP.i2d y2)), .second, .val (.double (FP.i2d y3)), .second, .unset, .unset, .unset, .unset, .unset, .unset, .unset, .unset, .unset] [(.int p0)])) _
    refine XS.i2dS X0.here hx rfl (hb hby at_51) rfl rfl ?_
    show Steps p.tables e below (s₁.setTop (mkF m 52 #[.val (.int p0), .val (.int p1), .val (.int p2), .val (.int p3), .val (.int p4), .val (.double (FP.i2d x0)), .second, .val (.double (FP.i2d x1)), .second, .val (.double (FP.i2d x2)), .second, .val (.double (FP.i2d x3)), .second, .val (.double (FP.i2d y0)), .second, .val (.double (FP.i2d y1)), .second, .val (.double (FP.i2d y2)), .second, .val (.double (FP.i2d y3)), .second, .unset, .unset, .unset, .unset, .unset, .unset, .unset, .unset, .unset] [(.double (FP.i2d p0))])) _
    refine XS.dstore X0.here hx rfl (hb hby at_52) rfl (l' := #[.val (.int p0), .val (.int p1), .val (.int p2), .val (.int p3), .val (.int p4), .val (.double (FP.i2d x0)), .second, .val (.double (FP.i2d x1)), .second, .val (.double (FP.i2d x2)), .second, .val (.double (FP.i2d x3)), .second, .val (.double (FP.i2d y0)), .second, .val (.double (FP.i2d y1)), .second, .val (.double (FP.i2d y2)), .second, .val (.double (FP.i2d y3)), .second, .val (.double (FP.i2d p0)), .second, .unset, .unset, .unset, .unset, .unset, .unset, .unset]) rfl ?_
    show Steps p.tables e below (s₁.setTop (mkF m 54 #[.val (.int p0), .val (.int p1), .val (.int p2), .val (.int p3), .val (.int p4), .val (.double (FP.i2d x0)), .second, .val (.double (FP.i2d x1)), .second, .val (.double (FP.i2d x2)), .second, .val (.double (FP.i2d x3)), .second, .val (.double (FP.i2d y0)), .second, .val (.double (FP.i2d y1)), .second, .val (.double (FP.i2d y2)), .second, .val (.double (FP.i2d y3)), .second, .val (.double (FP.i2d p0)), .second, .unset, .unset, .unset, .unset, .unset, .unset, .unset] [])) _
    refine XS.iconst X0.here hx rfl (hb hby at_54) ?_
    exact k
  obtain ⟨T10, h10, kk10, X10, e10, E10, A10, st10⟩ := newP X0 hx hZ (hw _ (List.mem_of_getElem? (i := 0) rfl)) e0 (g := (mkF m 55 #[.val (.int p0), .val (.int p1), .val (.int p2), .val (.int p3), .val (.int p4), .val (.double (FP.i2d x0)), .second, .val (.double (FP.i2d x1)), .second, .val (.double (FP.i2d x2)), .second, .val (.double (FP.i2d x3)), .second, .val (.double (FP.i2d y0)), .second, .val (.double (FP.i2d y1)), .second, .val (.double (FP.i2d y2)), .second, .val (.double (FP.i2d y3)), .second, .val (.double (FP.i2d p0)), .second, .unset, .unset, .unset, .unset, .unset, .unset, .unset] [(.int (4 : Int32))])) rfl (hb hby at_55) rfl (by decide) (cap := 4) (by decide) (by decide) (by decide) (by decide)
  obtain ⟨b10, g10⟩ : ∃ z, z = h0.size := ⟨_, rfl⟩
  rw [← g10] at A10 st10
  have g_b10 : n0 ≤ b10 := Nat.le_trans Z0 (Nat.le_of_eq g10.symm)
  have sz_b10 : h0.size ≤ b10 := Nat.le_trans ((Keep.refl h0 [])).1 (Nat.le_of_eq g10.symm)
  have V_b10 : Arv Z h10 b10 kk10 .double (4 : Int32) [(.double (0 : UInt64)), (.double (0 : UInt64)), (.double (0 : UInt64)), (.double (0 : UInt64))] (.double (0 : UInt64)) := (Arv.new A10 (by decide)).pad (pad_rep [] (.double (0 : UInt64)) 4)
  have K10 : Keep h0 h10 [] := Keep.ext (Keep.refl h0 []) E10
  have a11 : ∀ t, Steps p.tables e below (T10.setTop (mkF m 57 #[.val (.int p0), .val (.int p1), .val (.int p2), .val (.int p3), .val (.int p4), .val (.double (FP.i2d x0)), .second, .val (.double (FP.i2d x1)), .second, .val (.double (FP.i2d x2)), .second, .val (.double (FP.i2d x3)), .second, .val (.double (FP.i2d y0)), .second, .val (.double (FP.i2d y1)), .second, .val (.double (FP.i2d y2)), .second, .val (.double (FP.i2d y3)), .second, .val (.double (FP.i2d p0)), .second, .unset, .unset, .unset, .unset, .unset, .unset, .unset] [(.ref b10)])) t → Steps p.tables e below (s₁.setTop (entryFrame m #[(.int p0), (.int p1), (.int p2), (.int p3), (.int p4)] maxLocals)) t := fun t k => a9 t (st10 t k)
  have a12 : ∀ t, Steps p.tables e below (T10.setTop (mkF m 64 #[.val (.int p0), .val (.int p1), .val (.int p2), .val (.int p3), .val (.int p4), .val (.double (FP.i2d x0)), .second, .val (.double (FP.i2d x1)), .second, .val (.double (FP.i2d x2)), .second, .val (.double (FP.i2d x3)), .second, .val (.double (FP.i2d y0)), .second, .val (.double (FP.i2d y1)), .second, .val (.double (FP.i2d y2)), .second, .val (.double (FP.i2d y3)), .second, .val (.double (FP.i2d p0)), .second, .val (.ref b10), .unset, .unset, .unset, .unset, .unset, .unset] [(.double (FP.i2d x0)), (.int (0 : Int32)), (.ref b10)])) t → Steps p.tables e below (s₁.setTop (entryFrame m #[(.int p0), (.int p1), (.int p2), (.int p3), (.int p4)] maxLocals)) t := by
    intro t k
    refine a11 t ?_
    show Steps p.tables e below (T10.setTop (mkF m 57 #[.val (.int p0), .val (.int p1), .val (.int p2), .val (.int p3), .val (.int p4), .val (.double (FP.i2d x0)), .second, .val (.double (FP.i2d x1)), .second, .val (.double (FP.i2d x2)), .second, .val (.double (FP.i2d x3)), .second, .val (.double (FP.i2d y0)), .second, .val (.double (FP.i2d y1)), .second, .val (.double (FP.i2d y2)), .second, .val (.double (FP.i2d y3)), .second, .val (.double (FP.i2d p0)), .second, .unset, .unset, .unset, .unset, .unset, .unset, .unset] [(.ref b10)])) _
    refine XS.astore X10.here hx rfl (hb hby at_57) rfl rfl (l' := #[.val (.int p0), .val (.int p1), .val (.int p2), .val (.int p3), .val (.int p4), .val (.double (FP.i2d x0)), .second, .val (.double (FP.i2d x1)), .second, .val (.double (FP.i2d x2)), .second, .val (.double (FP.i2d x3)), .second, .val (.double (FP.i2d y0)), .second, .val (.double (FP.i2d y1)), .second, .val (.double (FP.i2d y2)), .second, .val (.double (FP.i2d y3)), .second, .val (.double (FP.i2d p0)), .second, .val (.ref b10), .unset, .unset, .unset, .unset, .unset, .unset]) rfl ?_
    show Steps p.tables e below (T10.setTop (mkF m 59 #[.val (.int p0), .val (.int p1), .val (.int p2), .val (.int p3), .val (.int p4), .val (.double (FP.i2d x0)), .second, .val (.double (FP.i2d x1)), .second, .val (.double (FP.i2d x2)), .second, .val (.double (FP.i2d x3)), .second, .val (.double (FP.i2d y0)), .second, .val (.double (FP.i2d y1)), .second, .val (.double (FP.i2d y2)), .second, .val (.double (FP.i2d y3)), .second, .val (.double (FP.i2d p0)), .second, .val (.ref b10), .unset, .unset, .unset, .unset, .unset, .unset] [])) _
    refine XS.aload X10.here hx rfl (hb hby at_59) rfl rfl ?_
    show Steps p.tables e below (T10.setTop (mkF m 61 #[.val (.int p0), .val (.int p1), .val (.int p2), .val (.int p3), .val (.int p4), .val (.double (FP.i2d x0)), .second, .val (.double (FP.i2d x1)), .second, .val (.double (FP.i2d x2)), .second, .val (.double (FP.i2d x3)), .second, .val (.double (FP.i2d y0)), .second, .val (.double (FP.i2d y1)), .second, .val (.double (FP.i2d y2)), .second, .val (.double (FP.i2d y3)), .second, .val (.double (FP.i2d p0)), .second, .val (.ref b10), .unset, .unset, .unset, .unset, .unset, .unset] [(.ref b10)])) _
    refine XS.iconst X10.here hx rfl (hb hby at_61) ?_
    show Steps p.tables e below (T10.setTop (mkF m 62 #[.val (.int p0), .val (.int p1), .val (.int p2), .val (.int p3), .val (.int p4), .val (.double (FP.i2d x0)), .second, .val (.double (FP.i2d x1)), .second, .val (.double (FP.i2d x2)), .second, .val (.double (FP.i2d x3)), .second, .val (.double (FP.i2d y0)), .second, .val (.double (FP.i2d y1)), .second, .val (.double (FP.i2d y2)), .second, .val (.double (FP.i2d y3)), .second, .val (.double (FP.i2d p0)), .second, .val (.ref b10), .unset, .unset, .unset, .unset, .unset, .unset] [(.int (0 : Int32)), (.ref b10)])) _
    refine XS.dload X10.here hx rfl (hb hby at_62) rfl ?_
    exact k
  obtain ⟨cl13, Ar13, qc13, Sz13, Nn13, Hs13, Gs13⟩ := id V_b10
  have hin13 : ¬ ((0 : Int32) < 0 ∨ cl13.slots.size ≤ ((0 : Int32)).toNatClampNeg) := inb_of Sz13 ⟨by decide, by decide⟩
  obtain ⟨T14, h14, X14, e14, W14, st14⟩ := stD X10 hx hZ e10 Ar13 (j := (0 : Int32)) hin13 (g := (mkF m 64 #[.val (.int p0), .val (.int p1), .val (.int p2), .val (.int p3), .val (.int p4), .val (.double (FP.i2d x0)), .second, .val (.double (FP.i2d x1)), .second, .val (.double (FP.i2d x2)), .second, .val (.double (FP.i2d x3)), .second, .val (.double (FP.i2d y0)), .second, .val (.double (FP.i2d y1)), .second, .val (.double (FP.i2d y2)), .second, .val (.double (FP.i2d y3)), .second, .val (.double (FP.i2d p0)), .second, .val (.ref b10), .unset, .unset, .unset, .unset, .unset, .unset] [(.double (FP.i2d x0)), (.int (0 : Int32)), (.ref b10)])) rfl rfl (hb hby at_64)
  have V14 : Arv Z h14 b10 kk10 .double (4 : Int32) [(.double (FP.i2d x0)), (.double (0 : UInt64)), (.double (0 : UInt64)), (.double (0 : UInt64))] (.double (0 : UInt64)) := Arv.set Ar13 qc13 Sz13 Nn13 Hs13 Gs13 rfl W14 0 rfl (Nat.le_of_ble_eq_true rfl)
  have N14 := Fr.snoc X14 N0 g_b10
  have K14 : Keep h0 h14 [] := Keep.wr K10 W14 (Or.inr sz_b10)
  have a15 : ∀ t, Steps p.tables e below (T14.setTop (mkF m 65 #[.val (.int p0), .val (.int p1), .val (.int p2), .val (.int p3), .val (.int p4), .val (.double (FP.i2d x0)), .second, .val (.double (FP.i2d x1)), .second, .val (.double (FP.i2d x2)), .second, .val (.double (FP.i2d x3)), .second, .val (.double (FP.i2d y0)), .second, .val (.double (FP.i2d y1)), .second, .val (.double (FP.i2d y2)), .second, .val (.double (FP.i2d y3)), .second, .val (.double (FP.i2d p0)), .second, .val (.ref b10), .unset, .unset, .unset, .unset, .unset, .unset] [])) t → Steps p.tables e below (s₁.setTop (entryFrame m #[(.int p0), (.int p1), (.int p2), (.int p3), (.int p4)] maxLocals)) t := fun t k => a12 t (st14 t k)
  have a16 : ∀ t, Steps p.tables e below (T14.setTop (mkF m 70 #[.val (.int p0), .val (.int p1), .val (.int p2), .val (.int p3), .val (.int p4), .val (.double (FP.i2d x0)), .second, .val (.double (FP.i2d x1)), .second, .val (.double (FP.i2d x2)), .second, .val (.double (FP.i2d x3)), .second, .val (.double (FP.i2d y0)), .second, .val (.double (FP.i2d y1)), .second, .val (.double (FP.i2d y2)), .second, .val (.double (FP.i2d y3)), .second, .val (.double (FP.i2d p0)), .second, .val (.ref b10), .unset, .unset, .unset, .unset, .unset, .unset] [(.double (FP.i2d x1)), (.int (1 : Int32)), (.ref b10)])) t → Steps p.tables e below (s₁.setTop (entryFrame m #[(.int p0), (.int p1), (.int p2), (.int p3), (.int p4)] maxLocals)) t := by
    intro t k
    refine a15 t ?_
    show Steps p.tables e below (T14.setTop (mkF m 65 #[.val (.int p0), .val (.int p1), .val (.int p2), .val (.int p3), .val (.int p4), .val (.double (FP.i2d x0)), .second, .val (.double (FP.i2d x1)), .second, .val (.double (FP.i2d x2)), .second, .val (.double (FP.i2d x3)), .second, .val (.double (FP.i2d y0)), .second, .val (.double (FP.i2d y1)), .second, .val (.double (FP.i2d y2)), .second, .val (.double (FP.i2d y3)), .second, .val (.double (FP.i2d p0)), .second, .val (.ref b10), .unset, .unset, .unset, .unset, .unset, .unset] [])) _
    refine XS.aload X14.here hx rfl (hb hby at_65) rfl rfl ?_
    show Steps p.tables e below (T14.setTop (mkF m 67 #[.val (.int p0), .val (.int p1), .val (.int p2), .val (.int p3), .val (.int p4), .val (.double (FP.i2d x0)), .second, .val (.double (FP.i2d x1)), .second, .val (.double (FP.i2d x2)), .second, .val (.double (FP.i2d x3)), .second, .val (.double (FP.i2d y0)), .second, .val (.double (FP.i2d y1)), .second, .val (.double (FP.i2d y2)), .second, .val (.double (FP.i2d y3)), .second, .val (.double (FP.i2d p0)), .second, .val (.ref b10), .unset, .unset, .unset, .unset, .unset, .unset] [(.ref b10)])) _
    refine XS.iconst X14.here hx rfl (hb hby at_67) ?_
    show Steps p.tables e below (T14.setTop (mkF m 68 #[.val (.int p0), .val (.int p1), .val (.int p2), .val (.int p3), .val (.int p4), .val (.double (FP.i2d x0)), .second, .val (.double (FP.i2d x1)), .second, .val (.double (FP.i2d x2)), .second, .val (.double (FP.i2d x3)), .second, .val (.double (FP.i2d y0)), .second, .val (.double (FP.i2d y1)), .second, .val (.double (FP.i2d y2)), .second, .val (.double (FP.i2d y3)), .second, .val (.double (FP.i2d p0)), .second, .val (.ref b10), .unset, .unset, .unset, .unset, .unset, .unset] [(.int (1 : Int32)), (.ref b10)])) _
    refine XS.dload X14.here hx rfl (hb hby at_68) rfl ?_
    exact k
  obtain ⟨cl17, Ar17, qc17, Sz17, Nn17, Hs17, Gs17⟩ := id V14
  have hin17 : ¬ ((1 : Int32) < 0 ∨ cl17.slots.size ≤ ((1 : Int32)).toNatClampNeg) := inb_of Sz17 ⟨by decide, by decide⟩
  obtain ⟨T18, h18, X18, e18, W18, st18⟩ := stD X14 hx hZ e14 Ar17 (j := (1 : Int32)) hin17 (g := (mkF m 70 #[.val (.int p0), .val (.int p1), .val (.int p2), .val (.int p3), .val (.int p4), .val (.double (FP.i2d x0)), .second, .val (.double (FP.i2d x1)), .second, .val (.double (FP.i2d x2)), .second, .val (.double (FP.i2d x3)), .second, .val (.double (FP.i2d y0)), .second, .val (.double (FP.i2d y1)), .second, .val (.double (FP.i2d y2)), .second, .val (.double (FP.i2d y3)), .second, .val (.double (FP.i2d p0)), .second, .val (.ref b10), .unset, .unset, .unset, .unset, .unset, .unset] [(.double (FP.i2d x1)), (.int (1 : Int32)), (.ref b10)])) rfl rfl (hb hby at_70)
  have V18 : Arv Z h18 b10 kk10 .double (4 : Int32) [(.double (FP.i2d x0)), (.double (FP.i2d x1)), (.double (0 : UInt64)), (.double (0 : UInt64))] (.double (0 : UInt64)) := Arv.set Ar17 qc17 Sz17 Nn17 Hs17 Gs17 rfl W18 1 rfl (Nat.le_of_ble_eq_true rfl)
  have N18 := Fr.snoc X18 N14 g_b10
  have K18 : Keep h0 h18 [] := Keep.wr K14 W18 (Or.inr sz_b10)
  have a19 : ∀ t, Steps p.tables e below (T18.setTop (mkF m 71 #[.val (.int p0), .val (.int p1), .val (.int p2), .val (.int p3), .val (.int p4), .val (.double (FP.i2d x0)), .second, .val (.double (FP.i2d x1)), .second, .val (.double (FP.i2d x2)), .second, .val (.double (FP.i2d x3)), .second, .val (.double (FP.i2d y0)), .second, .val (.double (FP.i2d y1)), .second, .val (.double (FP.i2d y2)), .second, .val (.double (FP.i2d y3)), .second, .val (.double (FP.i2d p0)), .second, .val (.ref b10), .unset, .unset, .unset, .unset, .unset, .unset] [])) t → Steps p.tables e below (s₁.setTop (entryFrame m #[(.int p0), (.int p1), (.int p2), (.int p3), (.int p4)] maxLocals)) t := fun t k => a16 t (st18 t k)
  have a20 : ∀ t, Steps p.tables e below (T18.setTop (mkF m 76 #[.val (.int p0), .val (.int p1), .val (.int p2), .val (.int p3), .val (.int p4), .val (.double (FP.i2d x0)), .second, .val (.double (FP.i2d x1)), .second, .val (.double (FP.i2d x2)), .second, .val (.double (FP.i2d x3)), .second, .val (.double (FP.i2d y0)), .second, .val (.double (FP.i2d y1)), .second, .val (.double (FP.i2d y2)), .second, .val (.double (FP.i2d y3)), .second, .val (.double (FP.i2d p0)), .second, .val (.ref b10), .unset, .unset, .unset, .unset, .unset, .unset] [(.double (FP.i2d x2)), (.int (2 : Int32)), (.ref b10)])) t → Steps p.tables e below (s₁.setTop (entryFrame m #[(.int p0), (.int p1), (.int p2), (.int p3), (.int p4)] maxLocals)) t := by
    intro t k
    refine a19 t ?_
    show Steps p.tables e below (T18.setTop (mkF m 71 #[.val (.int p0), .val (.int p1), .val (.int p2), .val (.int p3), .val (.int p4), .val (.double (FP.i2d x0)), .second, .val (.double (FP.i2d x1)), .second, .val (.double (FP.i2d x2)), .second, .val (.double (FP.i2d x3)), .second, .val (.double (FP.i2d y0)), .second, .val (.double (FP.i2d y1)), .second, .val (.double (FP.i2d y2)), .second, .val (.double (FP.i2d y3)), .second, .val (.double (FP.i2d p0)), .second, .val (.ref b10), .unset, .unset, .unset, .unset, .unset, .unset] [])) _
    refine XS.aload X18.here hx rfl (hb hby at_71) rfl rfl ?_
    show Steps p.tables e below (T18.setTop (mkF m 73 #[.val (.int p0), .val (.int p1), .val (.int p2), .val (.int p3), .val (.int p4), .val (.double (FP.i2d x0)), .second, .val (.double (FP.i2d x1)), .second, .val (.double (FP.i2d x2)), .second, .val (.double (FP.i2d x3)), .second, .val (.double (FP.i2d y0)), .second, .val (.double (FP.i2d y1)), .second, .val (.double (FP.i2d y2)), .second, .val (.double (FP.i2d y3)), .second, .val (.double (FP.i2d p0)), .second, .val (.ref b10), .unset, .unset, .unset, .unset, .unset, .unset] [(.ref b10)])) _
    refine XS.iconst X18.here hx rfl (hb hby at_73) ?_
    show Steps p.tables e below (T18.setTop (mkF m 74 #[.val (.int p0), .val (.int p1), .val (.int p2), .val (.int p3), .val (.int p4), .val (.double (FP.i2d x0)), .second, .val (.double (FP.i2d x1)), .second, .val (.double (FP.i2d x2)), .second, .val (.double (FP.i2d x3)), .second, .val (.double (FP.i2d y0)), .second, .val (.double (FP.i2d y1)), .second, .val (.double (FP.i2d y2)), .second, .val (.double (FP.i2d y3)), .second, .val (.double (FP.i2d p0)), .second, .val (.ref b10), .unset, .unset, .unset, .unset, .unset, .unset] [(.int (2 : Int32)), (.ref b10)])) _
    refine XS.dload X18.here hx rfl (hb hby at_74) rfl ?_
    exact k
  obtain ⟨cl21, Ar21, qc21, Sz21, Nn21, Hs21, Gs21⟩ := id V18
  have hin21 : ¬ ((2 : Int32) < 0 ∨ cl21.slots.size ≤ ((2 : Int32)).toNatClampNeg) := inb_of Sz21 ⟨by decide, by decide⟩
  obtain ⟨T22, h22, X22, e22, W22, st22⟩ := stD X18 hx hZ e18 Ar21 (j := (2 : Int32)) hin21 (g := (mkF m 76 #[.val (.int p0), .val (.int p1), .val (.int p2), .val (.int p3), .val (.int p4), .val (.double (FP.i2d x0)), .second, .val (.double (FP.i2d x1)), .second, .val (.double (FP.i2d x2)), .second, .val (.double (FP.i2d x3)), .second, .val (.double (FP.i2d y0)), .second, .val (.double (FP.i2d y1)), .second, .val (.double (FP.i2d y2)), .second, .val (.double (FP.i2d y3)), .second, .val (.double (FP.i2d p0)), .second, .val (.ref b10), .unset, .unset, .unset, .unset, .unset, .unset] [(.double (FP.i2d x2)), (.int (2 : Int32)), (.ref b10)])) rfl rfl (hb hby at_76)
  have V22 : Arv Z h22 b10 kk10 .double (4 : Int32) [(.double (FP.i2d x0)), (.double (FP.i2d x1)), (.double (FP.i2d x2)), (.double (0 : UInt64))] (.double (0 : UInt64)) := Arv.set Ar21 qc21 Sz21 Nn21 Hs21 Gs21 rfl W22 2 rfl (Nat.le_of_ble_eq_true rfl)
  have N22 := Fr.snoc X22 N18 g_b10
  have K22 : Keep h0 h22 [] := Keep.wr K18 W22 (Or.inr sz_b10)
  have a23 : ∀ t, Steps p.tables e below (T22.setTop (mkF m 77 #[.val (.int p0), .val (.int p1), .val (.int p2), .val (.int p3), .val (.int p4), .val (.double (FP.i2d x0)), .second, .val (.double (FP.i2d x1)), .second, .val (.double (FP.i2d x2)), .second, .val (.double (FP.i2d x3)), .second, .val (.double (FP.i2d y0)), .second, .val (.double (FP.i2d y1)), .second, .val (.double (FP.i2d y2)), .second, .val (.double (FP.i2d y3)), .second, .val (.double (FP.i2d p0)), .second, .val (.ref b10), .unset, .unset, .unset, .unset, .unset, .unset] [])) t → Steps p.tables e below (s₁.setTop (entryFrame m #[(.int p0), (.int p1), (.int p2), (.int p3), (.int p4)] maxLocals)) t := fun t k => a20 t (st22 t k)
  have a24 : ∀ t, Steps p.tables e below (T22.setTop (mkF m 82 #[.val (.int p0), .val (.int p1), .val (.int p2), .val (.int p3), .val (.int p4), .val (.double (FP.i2d x0)), .second, .val (.double (FP.i2d x1)), .second, .val (.double (FP.i2d x2)), .second, .val (.double (FP.i2d x3)), .second, .val (.double (FP.i2d y0)), .second, .val (.double (FP.i2d y1)), .second, .val (.double (FP.i2d y2)), .second, .val (.double (FP.i2d y3)), .second, .val (.double (FP.i2d p0)), .second, .val (.ref b10), .unset, .unset, .unset, .unset, .unset, .unset] [(.double (FP.i2d x3)), (.int (3 : Int32)), (.ref b10)])) t → Steps p.tables e below (s₁.setTop (entryFrame m #[(.int p0), (.int p1), (.int p2), (.int p3), (.int p4)] maxLocals)) t := by
    intro t k
    refine a23 t ?_
    show Steps p.tables e below (T22.setTop (mkF m 77 #[.val (.int p0), .val (.int p1), .val (.int p2), .val (.int p3), .val (.int p4), .val (.double (FP.i2d x0)), .second, .val (.double (FP.i2d x1)), .second, .val (.double (FP.i2d x2)), .second, .val (.double (FP.i2d x3)), .second, .val (.double (FP.i2d y0)), .second, .val (.double (FP.i2d y1)), .second, .val (.double (FP.i2d y2)), .second, .val (.double (FP.i2d y3)), .second, .val (.double (FP.i2d p0)), .second, .val (.ref b10), .unset, .unset, .unset, .unset, .unset, .unset] [])) _
    refine XS.aload X22.here hx rfl (hb hby at_77) rfl rfl ?_
    show Steps p.tables e below (T22.setTop (mkF m 79 #[.val (.int p0), .val (.int p1), .val (.int p2), .val (.int p3), .val (.int p4), .val (.double (FP.i2d x0)), .second, .val (.double (FP.i2d x1)), .second, .val (.double (FP.i2d x2)), .second, .val (.double (FP.i2d x3)), .second, .val (.double (FP.i2d y0)), .second, .val (.double (FP.i2d y1)), .second, .val (.double (FP.i2d y2)), .second, .val (.double (FP.i2d y3)), .second, .val (.double (FP.i2d p0)), .second, .val (.ref b10), .unset, .unset, .unset, .unset, .unset, .unset] [(.ref b10)])) _
    refine XS.iconst X22.here hx rfl (hb hby at_79) ?_
    show Steps p.tables e below (T22.setTop (mkF m 80 #[.val (.int p0), .val (.int p1), .val (.int p2), .val (.int p3), .val (.int p4), .val (.double (FP.i2d x0)), .second, .val (.double (FP.i2d x1)), .second, .val (.double (FP.i2d x2)), .second, .val (.double (FP.i2d x3)), .second, .val (.double (FP.i2d y0)), .second, .val (.double (FP.i2d y1)), .second, .val (.double (FP.i2d y2)), .second, .val (.double (FP.i2d y3)), .second, .val (.double (FP.i2d p0)), .second, .val (.ref b10), .unset, .unset, .unset, .unset, .unset, .unset] [(.int (3 : Int32)), (.ref b10)])) _
    refine XS.dload X22.here hx rfl (hb hby at_80) rfl ?_
    exact k
  obtain ⟨cl25, Ar25, qc25, Sz25, Nn25, Hs25, Gs25⟩ := id V22
  have hin25 : ¬ ((3 : Int32) < 0 ∨ cl25.slots.size ≤ ((3 : Int32)).toNatClampNeg) := inb_of Sz25 ⟨by decide, by decide⟩
  obtain ⟨T26, h26, X26, e26, W26, st26⟩ := stD X22 hx hZ e22 Ar25 (j := (3 : Int32)) hin25 (g := (mkF m 82 #[.val (.int p0), .val (.int p1), .val (.int p2), .val (.int p3), .val (.int p4), .val (.double (FP.i2d x0)), .second, .val (.double (FP.i2d x1)), .second, .val (.double (FP.i2d x2)), .second, .val (.double (FP.i2d x3)), .second, .val (.double (FP.i2d y0)), .second, .val (.double (FP.i2d y1)), .second, .val (.double (FP.i2d y2)), .second, .val (.double (FP.i2d y3)), .second, .val (.double (FP.i2d p0)), .second, .val (.ref b10), .unset, .unset, .unset, .unset, .unset, .unset] [(.double (FP.i2d x3)), (.int (3 : Int32)), (.ref b10)])) rfl rfl (hb hby at_82)
  have V26 : Arv Z h26 b10 kk10 .double (4 : Int32) [(.double (FP.i2d x0)), (.double (FP.i2d x1)), (.double (FP.i2d x2)), (.double (FP.i2d x3))] (.double (0 : UInt64)) := Arv.set Ar25 qc25 Sz25 Nn25 Hs25 Gs25 rfl W26 3 rfl (Nat.le_of_ble_eq_true rfl)
  have N26 := Fr.snoc X26 N22 g_b10
  have K26 : Keep h0 h26 [] := Keep.wr K22 W26 (Or.inr sz_b10)
  have a27 : ∀ t, Steps p.tables e below (T26.setTop (mkF m 83 #[.val (.int p0), .val (.int p1), .val (.int p2), .val (.int p3), .val (.int p4), .val (.double (FP.i2d x0)), .second, .val (.double (FP.i2d x1)), .second, .val (.double (FP.i2d x2)), .second, .val (.double (FP.i2d x3)), .second, .val (.double (FP.i2d y0)), .second, .val (.double (FP.i2d y1)), .second, .val (.double (FP.i2d y2)), .second, .val (.double (FP.i2d y3)), .second, .val (.double (FP.i2d p0)), .second, .val (.ref b10), .unset, .unset, .unset, .unset, .unset, .unset] [])) t → Steps p.tables e below (s₁.setTop (entryFrame m #[(.int p0), (.int p1), (.int p2), (.int p3), (.int p4)] maxLocals)) t := fun t k => a24 t (st26 t k)
  obtain ⟨T28, h28, X28, e28, E28, A28, D28, -, st28⟩ := newO X26 hx hZ hown (hw _ (List.mem_of_getElem? (i := 1) rfl)) (hw _ (List.mem_of_getElem? (i := 2) rfl)) (hw _ (List.mem_of_getElem? (i := 3) rfl)) e26 (g := (mkF m 83 #[.val (.int p0), .val (.int p1), .val (.int p2), .val (.int p3), .val (.int p4), .val (.double (FP.i2d x0)), .second, .val (.double (FP.i2d x1)), .second, .val (.double (FP.i2d x2)), .second, .val (.double (FP.i2d x3)), .second, .val (.double (FP.i2d y0)), .second, .val (.double (FP.i2d y1)), .second, .val (.double (FP.i2d y2)), .second, .val (.double (FP.i2d y3)), .second, .val (.double (FP.i2d p0)), .second, .val (.ref b10), .unset, .unset, .unset, .unset, .unset, .unset] [])) rfl (hb hby at_83) (by decide) (by decide)
  obtain ⟨b28, g28⟩ : ∃ z, z = h26.size := ⟨_, rfl⟩
  rw [← g28] at A28 D28 st28
  have g_b28 : n0 ≤ b28 := Nat.le_trans (Nat.le_trans (Nat.le_trans (Nat.le_trans (Nat.le_trans (Nat.le_trans Z0 E10.1) (Keep.of_wr W14).1) (Keep.of_wr W18).1) (Keep.of_wr W22).1) (Keep.of_wr W26).1) (Nat.le_of_eq g28.symm)
  have sz_b28 : h0.size ≤ b28 := Nat.le_trans (K26).1 (Nat.le_of_eq g28.symm)
  have K28 : Keep h0 h28 [] := Keep.ext K26 E28
  have F_amounts_b28 : Fld Z h28 b28 "com/example/tabuvia/tabuvia/engine/Excess" "amounts" "[D" .null := D28 (Or.inr (hw _ (List.mem_of_getElem? (i := 13) rfl))) (ty := (.array .double)) (by decide)
  have a29 : ∀ t, Steps p.tables e below (T28.setTop (mkF m 86 #[.val (.int p0), .val (.int p1), .val (.int p2), .val (.int p3), .val (.int p4), .val (.double (FP.i2d x0)), .second, .val (.double (FP.i2d x1)), .second, .val (.double (FP.i2d x2)), .second, .val (.double (FP.i2d x3)), .second, .val (.double (FP.i2d y0)), .second, .val (.double (FP.i2d y1)), .second, .val (.double (FP.i2d y2)), .second, .val (.double (FP.i2d y3)), .second, .val (.double (FP.i2d p0)), .second, .val (.ref b10), .unset, .unset, .unset, .unset, .unset, .unset] [(.ref b28)])) t → Steps p.tables e below (s₁.setTop (entryFrame m #[(.int p0), (.int p1), (.int p2), (.int p3), (.int p4)] maxLocals)) t := fun t k => a27 t (st28 t k)
  have a30 : ∀ t, Steps p.tables e below (T28.setTop (mkF m 87 #[.val (.int p0), .val (.int p1), .val (.int p2), .val (.int p3), .val (.int p4), .val (.double (FP.i2d x0)), .second, .val (.double (FP.i2d x1)), .second, .val (.double (FP.i2d x2)), .second, .val (.double (FP.i2d x3)), .second, .val (.double (FP.i2d y0)), .second, .val (.double (FP.i2d y1)), .second, .val (.double (FP.i2d y2)), .second, .val (.double (FP.i2d y3)), .second, .val (.double (FP.i2d p0)), .second, .val (.ref b10), .unset, .unset, .unset, .unset, .unset, .unset] [(.ref b28), (.ref b28)])) t → Steps p.tables e below (s₁.setTop (entryFrame m #[(.int p0), (.int p1), (.int p2), (.int p3), (.int p4)] maxLocals)) t := by
    intro t k
    refine a29 t ?_
    show Steps p.tables e below (T28.setTop (mkF m 86 #[.val (.int p0), .val (.int p1), .val (.int p2), .val (.int p3), .val (.int p4), .val (.double (FP.i2d x0)), .second, .val (.double (FP.i2d x1)), .second, .val (.double (FP.i2d x2)), .second, .val (.double (FP.i2d x3)), .second, .val (.double (FP.i2d y0)), .second, .val (.double (FP.i2d y1)), .second, .val (.double (FP.i2d y2)), .second, .val (.double (FP.i2d y3)), .second, .val (.double (FP.i2d p0)), .second, .val (.ref b10), .unset, .unset, .unset, .unset, .unset, .unset] [(.ref b28)])) _
    refine XS.dup X28.here hx rfl (hb hby at_86) rfl rfl ?_
    exact k
  obtain ⟨_, _, ⟨T31, L31, k31, n31⟩, -, X31, ⟨Lc31, hQ31, l31, y31, z31⟩, st31⟩ := X28.specialBack hx (y := (⟨"com/example/tabuvia/tabuvia/engine/Excess", "<init>", "()V"⟩ : MethodName)) rfl hown (mvT hZ (hw _ (List.mem_of_getElem? (i := 4) rfl))) (mvT hZ (hw _ (List.mem_of_getElem? (i := 5) rfl))) (mvT hZ (hw _ (List.mem_of_getElem? (i := 6) rfl))) (by decide) (backOf (W := 1) (rmXI l Z a0 hw [] b28 h28 n0 (Nat.le_trans (Nat.le_trans (Nat.le_trans (Nat.le_trans (Nat.le_trans (Nat.le_trans Z0 E10.1) (Keep.of_wr W14).1) (Keep.of_wr W18).1) (Keep.of_wr W22).1) (Keep.of_wr W26).1) E28.1) A28 g_b28 F_amounts_b28 ((Sta.wr W26 (Sta.wr W22 (Sta.wr W18 (Sta.wr W14 (S_RULES.ext E10))))).ext E28)) hZ (hw _ (List.mem_of_getElem? (i := 6) rfl)) (hw _ (List.mem_of_getElem? (i := 3) rfl)) (by decide) (by decide)) (g := (mkF m 87 #[.val (.int p0), .val (.int p1), .val (.int p2), .val (.int p3), .val (.int p4), .val (.double (FP.i2d x0)), .second, .val (.double (FP.i2d x1)), .second, .val (.double (FP.i2d x2)), .second, .val (.double (FP.i2d x3)), .second, .val (.double (FP.i2d y0)), .second, .val (.double (FP.i2d y1)), .second, .val (.double (FP.i2d y2)), .second, .val (.double (FP.i2d y3)), .second, .val (.double (FP.i2d p0)), .second, .val (.ref b10), .unset, .unset, .unset, .unset, .unset, .unset] [(.ref b28), (.ref b28)])) rfl (by rw [hml]; rfl) (Steps.refl _) (a := b28) (argsL := []) (rest := [(.ref b28)]) (lenOf own_pd1 rfl) rfl (by show 2 * 0 + _ ≤ _; exact Nat.le_of_eq rfl) (hb hby at_87) (fun _ _ => ⟨rfl, e28, (by decide : 2 + 1 ≤ _), (by decide : 5 + 4 ≤ _)⟩)
  dsimp only [Pt.U, Pt.locs, Pt.cells, Pt.slots] at X31 l31 y31 z31 st31 hQ31
  subst l31 y31 z31
  obtain ⟨arr31, ka31, rfl, N31q, K31q, FA31, VA31, GA31, SA31⟩ := hQ31
  have N31 := Fr.app N26 N31q
  have KK31 : Keep h0 T31.heap [] := Keep.trans K28 K31q (allS (Or.inr sz_b28) all0)
  have a32 : ∀ t, Steps p.tables e below (T31.setTop (mkF m 90 #[.val (.int p0), .val (.int p1), .val (.int p2), .val (.int p3), .val (.int p4), .val (.double (FP.i2d x0)), .second, .val (.double (FP.i2d x1)), .second, .val (.double (FP.i2d x2)), .second, .val (.double (FP.i2d x3)), .second, .val (.double (FP.i2d y0)), .second, .val (.double (FP.i2d y1)), .second, .val (.double (FP.i2d y2)), .second, .val (.double (FP.i2d y3)), .second, .val (.double (FP.i2d p0)), .second, .val (.ref b10), .unset, .unset, .unset, .unset, .unset, .unset] [(.ref b28)])) t → Steps p.tables e below (s₁.setTop (entryFrame m #[(.int p0), (.int p1), (.int p2), (.int p3), (.int p4)] maxLocals)) t := fun t k => a30 t (st31.trans k)
  have a33 : ∀ t, Steps p.tables e below (T31.setTop (mkF m 94 #[.val (.int p0), .val (.int p1), .val (.int p2), .val (.int p3), .val (.int p4), .val (.double (FP.i2d x0)), .second, .val (.double (FP.i2d x1)), .second, .val (.double (FP.i2d x2)), .second, .val (.double (FP.i2d x3)), .second, .val (.double (FP.i2d y0)), .second, .val (.double (FP.i2d y1)), .second, .val (.double (FP.i2d y2)), .second, .val (.double (FP.i2d y3)), .second, .val (.double (FP.i2d p0)), .second, .val (.ref b10), .val (.ref b28), .unset, .unset, .unset, .unset, .unset] [(.ref b28)])) t → Steps p.tables e below (s₁.setTop (entryFrame m #[(.int p0), (.int p1), (.int p2), (.int p3), (.int p4)] maxLocals)) t := by
    intro t k
    refine a32 t ?_
    show Steps p.tables e below (T31.setTop (mkF m 90 #[.val (.int p0), .val (.int p1), .val (.int p2), .val (.int p3), .val (.int p4), .val (.double (FP.i2d x0)), .second, .val (.double (FP.i2d x1)), .second, .val (.double (FP.i2d x2)), .second, .val (.double (FP.i2d x3)), .second, .val (.double (FP.i2d y0)), .second, .val (.double (FP.i2d y1)), .second, .val (.double (FP.i2d y2)), .second, .val (.double (FP.i2d y3)), .second, .val (.double (FP.i2d p0)), .second, .val (.ref b10), .unset, .unset, .unset, .unset, .unset, .unset] [(.ref b28)])) _
    refine XS.astore X31.here hx rfl (hb hby at_90) rfl rfl (l' := #[.val (.int p0), .val (.int p1), .val (.int p2), .val (.int p3), .val (.int p4), .val (.double (FP.i2d x0)), .second, .val (.double (FP.i2d x1)), .second, .val (.double (FP.i2d x2)), .second, .val (.double (FP.i2d x3)), .second, .val (.double (FP.i2d y0)), .second, .val (.double (FP.i2d y1)), .second, .val (.double (FP.i2d y2)), .second, .val (.double (FP.i2d y3)), .second, .val (.double (FP.i2d p0)), .second, .val (.ref b10), .val (.ref b28), .unset, .unset, .unset, .unset, .unset]) rfl ?_
    show Steps p.tables e below (T31.setTop (mkF m 92 #[.val (.int p0), .val (.int p1), .val (.int p2), .val (.int p3), .val (.int p4), .val (.double (FP.i2d x0)), .second, .val (.double (FP.i2d x1)), .second, .val (.double (FP.i2d x2)), .second, .val (.double (FP.i2d x3)), .second, .val (.double (FP.i2d y0)), .second, .val (.double (FP.i2d y1)), .second, .val (.double (FP.i2d y2)), .second, .val (.double (FP.i2d y3)), .second, .val (.double (FP.i2d p0)), .second, .val (.ref b10), .val (.ref b28), .unset, .unset, .unset, .unset, .unset] [])) _
    refine XS.aload X31.here hx rfl (hb hby at_92) rfl rfl ?_
    exact k
  obtain ⟨T34, X34, e34, st34⟩ := getS2 X31 hx hZ hown (host := "") (Or.inl (hw _ (List.mem_of_getElem? (i := 14) rfl))) Via.refl rfl (staKeep ((Sta.wr W26 (Sta.wr W22 (Sta.wr W18 (Sta.wr W14 (S_CAPACITY.ext E10))))).ext E28) K31q (allS (exaSt A28) all0)) (g := (mkF m 94 #[.val (.int p0), .val (.int p1), .val (.int p2), .val (.int p3), .val (.int p4), .val (.double (FP.i2d x0)), .second, .val (.double (FP.i2d x1)), .second, .val (.double (FP.i2d x2)), .second, .val (.double (FP.i2d x3)), .second, .val (.double (FP.i2d y0)), .second, .val (.double (FP.i2d y1)), .second, .val (.double (FP.i2d y2)), .second, .val (.double (FP.i2d y3)), .second, .val (.double (FP.i2d p0)), .second, .val (.ref b10), .val (.ref b28), .unset, .unset, .unset, .unset, .unset] [(.ref b28)])) rfl (hb hby at_94)
  have a35 : ∀ t, Steps p.tables e below (T34.setTop (mkF m 97 #[.val (.int p0), .val (.int p1), .val (.int p2), .val (.int p3), .val (.int p4), .val (.double (FP.i2d x0)), .second, .val (.double (FP.i2d x1)), .second, .val (.double (FP.i2d x2)), .second, .val (.double (FP.i2d x3)), .second, .val (.double (FP.i2d y0)), .second, .val (.double (FP.i2d y1)), .second, .val (.double (FP.i2d y2)), .second, .val (.double (FP.i2d y3)), .second, .val (.double (FP.i2d p0)), .second, .val (.ref b10), .val (.ref b28), .unset, .unset, .unset, .unset, .unset] [(.ref w_CAPACITY), (.ref b28)])) t → Steps p.tables e below (s₁.setTop (entryFrame m #[(.int p0), (.int p1), (.int p2), (.int p3), (.int p4)] maxLocals)) t := fun t k => a33 t (st34 t k)
  have a36 : ∀ t, Steps p.tables e below (T34.setTop (mkF m 99 #[.val (.int p0), .val (.int p1), .val (.int p2), .val (.int p3), .val (.int p4), .val (.double (FP.i2d x0)), .second, .val (.double (FP.i2d x1)), .second, .val (.double (FP.i2d x2)), .second, .val (.double (FP.i2d x3)), .second, .val (.double (FP.i2d y0)), .second, .val (.double (FP.i2d y1)), .second, .val (.double (FP.i2d y2)), .second, .val (.double (FP.i2d y3)), .second, .val (.double (FP.i2d p0)), .second, .val (.ref b10), .val (.ref b28), .unset, .unset, .unset, .unset, .unset] [(.double (FP.i2d y0)), (.ref w_CAPACITY), (.ref b28)])) t → Steps p.tables e below (s₁.setTop (entryFrame m #[(.int p0), (.int p1), (.int p2), (.int p3), (.int p4)] maxLocals)) t := by
    intro t k
    refine a35 t ?_
    show Steps p.tables e below (T34.setTop (mkF m 97 #[.val (.int p0), .val (.int p1), .val (.int p2), .val (.int p3), .val (.int p4), .val (.double (FP.i2d x0)), .second, .val (.double (FP.i2d x1)), .second, .val (.double (FP.i2d x2)), .second, .val (.double (FP.i2d x3)), .second, .val (.double (FP.i2d y0)), .second, .val (.double (FP.i2d y1)), .second, .val (.double (FP.i2d y2)), .second, .val (.double (FP.i2d y3)), .second, .val (.double (FP.i2d p0)), .second, .val (.ref b10), .val (.ref b28), .unset, .unset, .unset, .unset, .unset] [(.ref w_CAPACITY), (.ref b28)])) _
    refine XS.dload X34.here hx rfl (hb hby at_97) rfl ?_
    exact k
  obtain ⟨cq37, kq37, q37a, q37b, q37c⟩ := isOf hZ e34 (A28.keep K31q)
  obtain ⟨_, _, ⟨T37, L37, k37, n37⟩, -, X37, ⟨Lc37, hQ37, l37, y37, z37⟩, st37⟩ := X34.virtualBack hx (y := (⟨"com/example/tabuvia/tabuvia/engine/Excess", "set", "(Lcom/example/tabuvia/tabuvia/engine/Rule;D)V"⟩ : MethodName)) (z := (⟨"com/example/tabuvia/tabuvia/engine/Excess", "set", "(Lcom/example/tabuvia/tabuvia/engine/Rule;D)V"⟩ : MethodName)) hown (mvT hZ (hw _ (List.mem_of_getElem? (i := 17) rfl))) (mvT hZ (hw _ (List.mem_of_getElem? (i := 18) rfl))) (notFace_of_selects (args := #[]) (mvT hZ (hw _ (List.mem_of_getElem? (i := 20) rfl)))) (mvT hZ (hw _ (List.mem_of_getElem? (i := 20) rfl))) (mvT hZ (hw _ (List.mem_of_getElem? (i := 19) rfl))) (by decide) (backOf (W := 0) (rmSet l Z a0 hw [] b28 w_CAPACITY (FP.i2d y0) arr31 ka31 [(.double (0 : UInt64)), (.double (0 : UInt64)), (.double (0 : UInt64)), (.double (0 : UInt64))] (0 : Int32) 0 T31.heap n0 (Nat.le_trans (Nat.le_trans (Nat.le_trans (Nat.le_trans (Nat.le_trans (Nat.le_trans (Nat.le_trans Z0 E10.1) (Keep.of_wr W14).1) (Keep.of_wr W18).1) (Keep.of_wr W22).1) (Keep.of_wr W26).1) E28.1) K31q.1) FA31 VA31 (((Fld.other W26 (Fld.other W22 (Fld.other W18 (Fld.other W14 (F_CAPACITY_ordinal.ext E10) (Or.inl (Nat.ne_of_lt (Nat.lt_of_lt_of_le F_CAPACITY_ordinal.lt (Nat.le_of_eq g10.symm))))) (Or.inl (Nat.ne_of_lt (Nat.lt_of_lt_of_le F_CAPACITY_ordinal.lt (Nat.le_of_eq g10.symm))))) (Or.inl (Nat.ne_of_lt (Nat.lt_of_lt_of_le F_CAPACITY_ordinal.lt (Nat.le_of_eq g10.symm))))) (Or.inl (Nat.ne_of_lt (Nat.lt_of_lt_of_le F_CAPACITY_ordinal.lt (Nat.le_of_eq g10.symm))))).ext E28).keep K31q (ninS (Nat.ne_of_lt (Nat.lt_of_lt_of_le (Fld.other W26 (Fld.other W22 (Fld.other W18 (Fld.other W14 (F_CAPACITY_ordinal.ext E10) (Or.inl (Nat.ne_of_lt (Nat.lt_of_lt_of_le F_CAPACITY_ordinal.lt (Nat.le_of_eq g10.symm))))) (Or.inl (Nat.ne_of_lt (Nat.lt_of_lt_of_le F_CAPACITY_ordinal.lt (Nat.le_of_eq g10.symm))))) (Or.inl (Nat.ne_of_lt (Nat.lt_of_lt_of_le F_CAPACITY_ordinal.lt (Nat.le_of_eq g10.symm))))) (Or.inl (Nat.ne_of_lt (Nat.lt_of_lt_of_le F_CAPACITY_ordinal.lt (Nat.le_of_eq g10.symm))))).lt (Nat.le_of_eq g28.symm))) nin0)) (((Exa.wr W26 (Exa.wr W22 (Exa.wr W18 (Exa.wr W14 (X_CAPACITY.ext E10))))).ext E28).keep K31q) GA31 rfl (Nat.le_of_ble_eq_true rfl) ⟨by decide, by decide⟩) hZ (hw _ (List.mem_of_getElem? (i := 21) rfl)) (hw _ (List.mem_of_getElem? (i := 3) rfl)) (by decide) (by decide)) q37a q37c (g := (mkF m 99 #[.val (.int p0), .val (.int p1), .val (.int p2), .val (.int p3), .val (.int p4), .val (.double (FP.i2d x0)), .second, .val (.double (FP.i2d x1)), .second, .val (.double (FP.i2d x2)), .second, .val (.double (FP.i2d x3)), .second, .val (.double (FP.i2d y0)), .second, .val (.double (FP.i2d y1)), .second, .val (.double (FP.i2d y2)), .second, .val (.double (FP.i2d y3)), .second, .val (.double (FP.i2d p0)), .second, .val (.ref b10), .val (.ref b28), .unset, .unset, .unset, .unset, .unset] [(.double (FP.i2d y0)), (.ref w_CAPACITY), (.ref b28)])) rfl (by rw [hml]; rfl) (Steps.refl _) (argsL := [(.ref w_CAPACITY), (.double (FP.i2d y0))]) (rest := []) (lenOf own_pd2 rfl) rfl (by show 2 * 0 + _ ≤ _; exact Nat.le_of_eq rfl) (hb hby at_99) (fun _ _ => ⟨rfl, e34, (by decide : 3 + 0 ≤ _), (by decide : 9 + 0 ≤ _)⟩)
  dsimp only [Pt.U, Pt.locs, Pt.cells, Pt.slots] at X37 l37 y37 z37 st37 hQ37
  subst l37 y37 z37
  obtain ⟨rfl, N37q, K37q, VS37⟩ := hQ37
  have N37 := Fr.app N31 N37q
  have KK37 : Keep h0 T37.heap [] := Keep.trans KK31 K37q (allS (Or.inr (Nat.le_trans (K28).1 SA31)) all0)
  have a38 : ∀ t, Steps p.tables e below (T37.setTop (mkF m 102 #[.val (.int p0), .val (.int p1), .val (.int p2), .val (.int p3), .val (.int p4), .val (.double (FP.i2d x0)), .second, .val (.double (FP.i2d x1)), .second, .val (.double (FP.i2d x2)), .second, .val (.double (FP.i2d x3)), .second, .val (.double (FP.i2d y0)), .second, .val (.double (FP.i2d y1)), .second, .val (.double (FP.i2d y2)), .second, .val (.double (FP.i2d y3)), .second, .val (.double (FP.i2d p0)), .second, .val (.ref b10), .val (.ref b28), .unset, .unset, .unset, .unset, .unset] [])) t → Steps p.tables e below (s₁.setTop (entryFrame m #[(.int p0), (.int p1), (.int p2), (.int p3), (.int p4)] maxLocals)) t := fun t k => a36 t (st37.trans k)
  have a39 : ∀ t, Steps p.tables e below (T37.setTop (mkF m 104 #[.val (.int p0), .val (.int p1), .val (.int p2), .val (.int p3), .val (.int p4), .val (.double (FP.i2d x0)), .second, .val (.double (FP.i2d x1)), .second, .val (.double (FP.i2d x2)), .second, .val (.double (FP.i2d x3)), .second, .val (.double (FP.i2d y0)), .second, .val (.double (FP.i2d y1)), .second, .val (.double (FP.i2d y2)), .second, .val (.double (FP.i2d y3)), .second, .val (.double (FP.i2d p0)), .second, .val (.ref b10), .val (.ref b28), .unset, .unset, .unset, .unset, .unset] [(.ref b28)])) t → Steps p.tables e below (s₁.setTop (entryFrame m #[(.int p0), (.int p1), (.int p2), (.int p3), (.int p4)] maxLocals)) t := by
    intro t k
    refine a38 t ?_
    show Steps p.tables e below (T37.setTop (mkF m 102 #[.val (.int p0), .val (.int p1), .val (.int p2), .val (.int p3), .val (.int p4), .val (.double (FP.i2d x0)), .second, .val (.double (FP.i2d x1)), .second, .val (.double (FP.i2d x2)), .second, .val (.double (FP.i2d x3)), .second, .val (.double (FP.i2d y0)), .second, .val (.double (FP.i2d y1)), .second, .val (.double (FP.i2d y2)), .second, .val (.double (FP.i2d y3)), .second, .val (.double (FP.i2d p0)), .second, .val (.ref b10), .val (.ref b28), .unset, .unset, .unset, .unset, .unset] [])) _
    refine XS.aload X37.here hx rfl (hb hby at_102) rfl rfl ?_
    exact k
  obtain ⟨T40, X40, e40, st40⟩ := getS2 X37 hx hZ hown (host := "") (Or.inl (hw _ (List.mem_of_getElem? (i := 31) rfl))) Via.refl rfl (staKeep (staKeep ((Sta.wr W26 (Sta.wr W22 (Sta.wr W18 (Sta.wr W14 (S_DURATION.ext E10))))).ext E28) K31q (allS (exaSt A28) all0)) K37q (allS (arvSt VA31) all0)) (g := (mkF m 104 #[.val (.int p0), .val (.int p1), .val (.int p2), .val (.int p3), .val (.int p4), .val (.double (FP.i2d x0)), .second, .val (.double (FP.i2d x1)), .second, .val (.double (FP.i2d x2)), .second, .val (.double (FP.i2d x3)), .second, .val (.double (FP.i2d y0)), .second, .val (.double (FP.i2d y1)), .second, .val (.double (FP.i2d y2)), .second, .val (.double (FP.i2d y3)), .second, .val (.double (FP.i2d p0)), .second, .val (.ref b10), .val (.ref b28), .unset, .unset, .unset, .unset, .unset] [(.ref b28)])) rfl (hb hby at_104)
  have a41 : ∀ t, Steps p.tables e below (T40.setTop (mkF m 107 #[.val (.int p0), .val (.int p1), .val (.int p2), .val (.int p3), .val (.int p4), .val (.double (FP.i2d x0)), .second, .val (.double (FP.i2d x1)), .second, .val (.double (FP.i2d x2)), .second, .val (.double (FP.i2d x3)), .second, .val (.double (FP.i2d y0)), .second, .val (.double (FP.i2d y1)), .second, .val (.double (FP.i2d y2)), .second, .val (.double (FP.i2d y3)), .second, .val (.double (FP.i2d p0)), .second, .val (.ref b10), .val (.ref b28), .unset, .unset, .unset, .unset, .unset] [(.ref w_DURATION), (.ref b28)])) t → Steps p.tables e below (s₁.setTop (entryFrame m #[(.int p0), (.int p1), (.int p2), (.int p3), (.int p4)] maxLocals)) t := fun t k => a39 t (st40 t k)
  have a42 : ∀ t, Steps p.tables e below (T40.setTop (mkF m 109 #[.val (.int p0), .val (.int p1), .val (.int p2), .val (.int p3), .val (.int p4), .val (.double (FP.i2d x0)), .second, .val (.double (FP.i2d x1)), .second, .val (.double (FP.i2d x2)), .second, .val (.double (FP.i2d x3)), .second, .val (.double (FP.i2d y0)), .second, .val (.double (FP.i2d y1)), .second, .val (.double (FP.i2d y2)), .second, .val (.double (FP.i2d y3)), .second, .val (.double (FP.i2d p0)), .second, .val (.ref b10), .val (.ref b28), .unset, .unset, .unset, .unset, .unset] [(.double (FP.i2d y1)), (.ref w_DURATION), (.ref b28)])) t → Steps p.tables e below (s₁.setTop (entryFrame m #[(.int p0), (.int p1), (.int p2), (.int p3), (.int p4)] maxLocals)) t := by
    intro t k
    refine a41 t ?_
    show Steps p.tables e below (T40.setTop (mkF m 107 #[.val (.int p0), .val (.int p1), .val (.int p2), .val (.int p3), .val (.int p4), .val (.double (FP.i2d x0)), .second, .val (.double (FP.i2d x1)), .second, .val (.double (FP.i2d x2)), .second, .val (.double (FP.i2d x3)), .second, .val (.double (FP.i2d y0)), .second, .val (.double (FP.i2d y1)), .second, .val (.double (FP.i2d y2)), .second, .val (.double (FP.i2d y3)), .second, .val (.double (FP.i2d p0)), .second, .val (.ref b10), .val (.ref b28), .unset, .unset, .unset, .unset, .unset] [(.ref w_DURATION), (.ref b28)])) _
    refine XS.dload X40.here hx rfl (hb hby at_107) rfl ?_
    exact k
  obtain ⟨cq43, kq43, q43a, q43b, q43c⟩ := isOf hZ e40 ((A28.keep K31q).keep K37q)
  obtain ⟨_, _, ⟨T43, L43, k43, n43⟩, -, X43, ⟨Lc43, hQ43, l43, y43, z43⟩, st43⟩ := X40.virtualBack hx (y := (⟨"com/example/tabuvia/tabuvia/engine/Excess", "set", "(Lcom/example/tabuvia/tabuvia/engine/Rule;D)V"⟩ : MethodName)) (z := (⟨"com/example/tabuvia/tabuvia/engine/Excess", "set", "(Lcom/example/tabuvia/tabuvia/engine/Rule;D)V"⟩ : MethodName)) hown (mvT hZ (hw _ (List.mem_of_getElem? (i := 17) rfl))) (mvT hZ (hw _ (List.mem_of_getElem? (i := 18) rfl))) (notFace_of_selects (args := #[]) (mvT hZ (hw _ (List.mem_of_getElem? (i := 20) rfl)))) (mvT hZ (hw _ (List.mem_of_getElem? (i := 20) rfl))) (mvT hZ (hw _ (List.mem_of_getElem? (i := 19) rfl))) (by decide) (backOf (W := 0) (rmSet l Z a0 hw [] b28 w_DURATION (FP.i2d y1) arr31 ka31 [(.double (FP.i2d y0)), (.double (0 : UInt64)), (.double (0 : UInt64)), (.double (0 : UInt64))] (1 : Int32) 1 T37.heap n0 (Nat.le_trans (Nat.le_trans (Nat.le_trans (Nat.le_trans (Nat.le_trans (Nat.le_trans (Nat.le_trans (Nat.le_trans Z0 E10.1) (Keep.of_wr W14).1) (Keep.of_wr W18).1) (Keep.of_wr W22).1) (Keep.of_wr W26).1) E28.1) K31q.1) K37q.1) (FA31.keep K37q (ninS (Nat.ne_of_lt (Nat.lt_of_lt_of_le F_amounts_b28.lt SA31)) nin0)) VS37 ((((Fld.other W26 (Fld.other W22 (Fld.other W18 (Fld.other W14 (F_DURATION_ordinal.ext E10) (Or.inl (Nat.ne_of_lt (Nat.lt_of_lt_of_le F_DURATION_ordinal.lt (Nat.le_of_eq g10.symm))))) (Or.inl (Nat.ne_of_lt (Nat.lt_of_lt_of_le F_DURATION_ordinal.lt (Nat.le_of_eq g10.symm))))) (Or.inl (Nat.ne_of_lt (Nat.lt_of_lt_of_le F_DURATION_ordinal.lt (Nat.le_of_eq g10.symm))))) (Or.inl (Nat.ne_of_lt (Nat.lt_of_lt_of_le F_DURATION_ordinal.lt (Nat.le_of_eq g10.symm))))).ext E28).keep K31q (ninS (Nat.ne_of_lt (Nat.lt_of_lt_of_le (Fld.other W26 (Fld.other W22 (Fld.other W18 (Fld.other W14 (F_DURATION_ordinal.ext E10) (Or.inl (Nat.ne_of_lt (Nat.lt_of_lt_of_le F_DURATION_ordinal.lt (Nat.le_of_eq g10.symm))))) (Or.inl (Nat.ne_of_lt (Nat.lt_of_lt_of_le F_DURATION_ordinal.lt (Nat.le_of_eq g10.symm))))) (Or.inl (Nat.ne_of_lt (Nat.lt_of_lt_of_le F_DURATION_ordinal.lt (Nat.le_of_eq g10.symm))))) (Or.inl (Nat.ne_of_lt (Nat.lt_of_lt_of_le F_DURATION_ordinal.lt (Nat.le_of_eq g10.symm))))).lt (Nat.le_of_eq g28.symm))) nin0)).keep K37q (ninS (Nat.ne_of_lt (Nat.lt_of_lt_of_le ((Exa.wr W26 (Exa.wr W22 (Exa.wr W18 (Exa.wr W14 (X_DURATION.ext E10))))).ext E28).lt SA31)) nin0)) ((((Exa.wr W26 (Exa.wr W22 (Exa.wr W18 (Exa.wr W14 (X_DURATION.ext E10))))).ext E28).keep K31q).keep K37q) GA31 rfl (Nat.le_of_ble_eq_true rfl) ⟨by decide, by decide⟩) hZ (hw _ (List.mem_of_getElem? (i := 21) rfl)) (hw _ (List.mem_of_getElem? (i := 3) rfl)) (by decide) (by decide)) q43a q43c (g := (mkF m 109 #[.val (.int p0), .val (.int p1), .val (.int p2), .val (.int p3), .val (.int p4), .val (.double (FP.i2d x0)), .second, .val (.double (FP.i2d x1)), .second, .val (.double (FP.i2d x2)), .second, .val (.double (FP.i2d x3)), .second, .val (.double (FP.i2d y0)), .second, .val (.double (FP.i2d y1)), .second, .val (.double (FP.i2d y2)), .second, .val (.double (FP.i2d y3)), .second, .val (.double (FP.i2d p0)), .second, .val (.ref b10), .val (.ref b28), .unset, .unset, .unset, .unset, .unset] [(.double (FP.i2d y1)), (.ref w_DURATION), (.ref b28)])) rfl (by rw [hml]; rfl) (Steps.refl _) (argsL := [(.ref w_DURATION), (.double (FP.i2d y1))]) (rest := []) (lenOf own_pd2 rfl) rfl (by show 2 * 0 + _ ≤ _; exact Nat.le_of_eq rfl) (hb hby at_109) (fun _ _ => ⟨rfl, e40, (by decide : 3 + 0 ≤ _), (by decide : 9 + 0 ≤ _)⟩)
  dsimp only [Pt.U, Pt.locs, Pt.cells, Pt.slots] at X43 l43 y43 z43 st43 hQ43
  subst l43 y43 z43
  obtain ⟨rfl, N43q, K43q, VS43⟩ := hQ43
  have N43 := Fr.app N37 N43q
  have KK43 : Keep h0 T43.heap [] := Keep.trans KK37 K43q (allS (Or.inr (Nat.le_trans (K28).1 SA31)) all0)
  have a44 : ∀ t, Steps p.tables e below (T43.setTop (mkF m 112 #[.val (.int p0), .val (.int p1), .val (.int p2), .val (.int p3), .val (.int p4), .val (.double (FP.i2d x0)), .second, .val (.double (FP.i2d x1)), .second, .val (.double (FP.i2d x2)), .second, .val (.double (FP.i2d x3)), .second, .val (.double (FP.i2d y0)), .second, .val (.double (FP.i2d y1)), .second, .val (.double (FP.i2d y2)), .second, .val (.double (FP.i2d y3)), .second, .val (.double (FP.i2d p0)), .second, .val (.ref b10), .val (.ref b28), .unset, .unset, .unset, .unset, .unset] [])) t → Steps p.tables e below (s₁.setTop (entryFrame m #[(.int p0), (.int p1), (.int p2), (.int p3), (.int p4)] maxLocals)) t := fun t k => a42 t (st43.trans k)
  have a45 : ∀ t, Steps p.tables e below (T43.setTop (mkF m 114 #[.val (.int p0), .val (.int p1), .val (.int p2), .val (.int p3), .val (.int p4), .val (.double (FP.i2d x0)), .second, .val (.double (FP.i2d x1)), .second, .val (.double (FP.i2d x2)), .second, .val (.double (FP.i2d x3)), .second, .val (.double (FP.i2d y0)), .second, .val (.double (FP.i2d y1)), .second, .val (.double (FP.i2d y2)), .second, .val (.double (FP.i2d y3)), .second, .val (.double (FP.i2d p0)), .second, .val (.ref b10), .val (.ref b28), .unset, .unset, .unset, .unset, .unset] [(.ref b28)])) t → Steps p.tables e below (s₁.setTop (entryFrame m #[(.int p0), (.int p1), (.int p2), (.int p3), (.int p4)] maxLocals)) t := by
    intro t k
    refine a44 t ?_
    show Steps p.tables e below (T43.setTop (mkF m 112 #[.val (.int p0), .val (.int p1), .val (.int p2), .val (.int p3), .val (.int p4), .val (.double (FP.i2d x0)), .second, .val (.double (FP.i2d x1)), .second, .val (.double (FP.i2d x2)), .second, .val (.double (FP.i2d x3)), .second, .val (.double (FP.i2d y0)), .second, .val (.double (FP.i2d y1)), .second, .val (.double (FP.i2d y2)), .second, .val (.double (FP.i2d y3)), .second, .val (.double (FP.i2d p0)), .second, .val (.ref b10), .val (.ref b28), .unset, .unset, .unset, .unset, .unset] [])) _
    refine XS.aload X43.here hx rfl (hb hby at_112) rfl rfl ?_
    exact k
  obtain ⟨T46, X46, e46, st46⟩ := getS2 X43 hx hZ hown (host := "") (Or.inl (hw _ (List.mem_of_getElem? (i := 33) rfl))) Via.refl rfl (staKeep (staKeep (staKeep ((Sta.wr W26 (Sta.wr W22 (Sta.wr W18 (Sta.wr W14 (S_TIME_WINDOWS.ext E10))))).ext E28) K31q (allS (exaSt A28) all0)) K37q (allS (arvSt VA31) all0)) K43q (allS (arvSt VS37) all0)) (g := (mkF m 114 #[.val (.int p0), .val (.int p1), .val (.int p2), .val (.int p3), .val (.int p4), .val (.double (FP.i2d x0)), .second, .val (.double (FP.i2d x1)), .second, .val (.double (FP.i2d x2)), .second, .val (.double (FP.i2d x3)), .second, .val (.double (FP.i2d y0)), .second, .val (.double (FP.i2d y1)), .second, .val (.double (FP.i2d y2)), .second, .val (.double (FP.i2d y3)), .second, .val (.double (FP.i2d p0)), .second, .val (.ref b10), .val (.ref b28), .unset, .unset, .unset, .unset, .unset] [(.ref b28)])) rfl (hb hby at_114)
  have a47 : ∀ t, Steps p.tables e below (T46.setTop (mkF m 117 #[.val (.int p0), .val (.int p1), .val (.int p2), .val (.int p3), .val (.int p4), .val (.double (FP.i2d x0)), .second, .val (.double (FP.i2d x1)), .second, .val (.double (FP.i2d x2)), .second, .val (.double (FP.i2d x3)), .second, .val (.double (FP.i2d y0)), .second, .val (.double (FP.i2d y1)), .second, .val (.double (FP.i2d y2)), .second, .val (.double (FP.i2d y3)), .second, .val (.double (FP.i2d p0)), .second, .val (.ref b10), .val (.ref b28), .unset, .unset, .unset, .unset, .unset] [(.ref w_TIME_WINDOWS), (.ref b28)])) t → Steps p.tables e below (s₁.setTop (entryFrame m #[(.int p0), (.int p1), (.int p2), (.int p3), (.int p4)] maxLocals)) t := fun t k => a45 t (st46 t k)
  have a48 : ∀ t, Steps p.tables e below (T46.setTop (mkF m 119 #[.val (.int p0), .val (.int p1), .val (.int p2), .val (.int p3), .val (.int p4), .val (.double (FP.i2d x0)), .second, .val (.double (FP.i2d x1)), .second, .val (.double (FP.i2d x2)), .second, .val (.double (FP.i2d x3)), .second, .val (.double (FP.i2d y0)), .second, .val (.double (FP.i2d y1)), .second, .val (.double (FP.i2d y2)), .second, .val (.double (FP.i2d y3)), .second, .val (.double (FP.i2d p0)), .second, .val (.ref b10), .val (.ref b28), .unset, .unset, .unset, .unset, .unset] [(.double (FP.i2d y2)), (.ref w_TIME_WINDOWS), (.ref b28)])) t → Steps p.tables e below (s₁.setTop (entryFrame m #[(.int p0), (.int p1), (.int p2), (.int p3), (.int p4)] maxLocals)) t := by
    intro t k
    refine a47 t ?_
    show Steps p.tables e below (T46.setTop (mkF m 117 #[.val (.int p0), .val (.int p1), .val (.int p2), .val (.int p3), .val (.int p4), .val (.double (FP.i2d x0)), .second, .val (.double (FP.i2d x1)), .second, .val (.double (FP.i2d x2)), .second, .val (.double (FP.i2d x3)), .second, .val (.double (FP.i2d y0)), .second, .val (.double (FP.i2d y1)), .second, .val (.double (FP.i2d y2)), .second, .val (.double (FP.i2d y3)), .second, .val (.double (FP.i2d p0)), .second, .val (.ref b10), .val (.ref b28), .unset, .unset, .unset, .unset, .unset] [(.ref w_TIME_WINDOWS), (.ref b28)])) _
    refine XS.dload X46.here hx rfl (hb hby at_117) rfl ?_
    exact k
  obtain ⟨cq49, kq49, q49a, q49b, q49c⟩ := isOf hZ e46 (((A28.keep K31q).keep K37q).keep K43q)
  obtain ⟨_, _, ⟨T49, L49, k49, n49⟩, -, X49, ⟨Lc49, hQ49, l49, y49, z49⟩, st49⟩ := X46.virtualBack hx (y := (⟨"com/example/tabuvia/tabuvia/engine/Excess", "set", "(Lcom/example/tabuvia/tabuvia/engine/Rule;D)V"⟩ : MethodName)) (z := (⟨"com/example/tabuvia/tabuvia/engine/Excess", "set", "(Lcom/example/tabuvia/tabuvia/engine/Rule;D)V"⟩ : MethodName)) hown (mvT hZ (hw _ (List.mem_of_getElem? (i := 17) rfl))) (mvT hZ (hw _ (List.mem_of_getElem? (i := 18) rfl))) (notFace_of_selects (args := #[]) (mvT hZ (hw _ (List.mem_of_getElem? (i := 20) rfl)))) (mvT hZ (hw _ (List.mem_of_getElem? (i := 20) rfl))) (mvT hZ (hw _ (List.mem_of_getElem? (i := 19) rfl))) (by decide) (backOf (W := 0) (rmSet l Z a0 hw [] b28 w_TIME_WINDOWS (FP.i2d y2) arr31 ka31 [(.double (FP.i2d y0)), (.double (FP.i2d y1)), (.double (0 : UInt64)), (.double (0 : UInt64))] (2 : Int32) 2 T43.heap n0 (Nat.le_trans (Nat.le_trans (Nat.le_trans (Nat.le_trans (Nat.le_trans (Nat.le_trans (Nat.le_trans (Nat.le_trans (Nat.le_trans Z0 E10.1) (Keep.of_wr W14).1) (Keep.of_wr W18).1) (Keep.of_wr W22).1) (Keep.of_wr W26).1) E28.1) K31q.1) K37q.1) K43q.1) ((FA31.keep K37q (ninS (Nat.ne_of_lt (Nat.lt_of_lt_of_le F_amounts_b28.lt SA31)) nin0)).keep K43q (ninS (Nat.ne_of_lt (Nat.lt_of_lt_of_le F_amounts_b28.lt SA31)) nin0)) VS43 (((((Fld.other W26 (Fld.other W22 (Fld.other W18 (Fld.other W14 (F_TIME_WINDOWS_ordinal.ext E10) (Or.inl (Nat.ne_of_lt (Nat.lt_of_lt_of_le F_TIME_WINDOWS_ordinal.lt (Nat.le_of_eq g10.symm))))) (Or.inl (Nat.ne_of_lt (Nat.lt_of_lt_of_le F_TIME_WINDOWS_ordinal.lt (Nat.le_of_eq g10.symm))))) (Or.inl (Nat.ne_of_lt (Nat.lt_of_lt_of_le F_TIME_WINDOWS_ordinal.lt (Nat.le_of_eq g10.symm))))) (Or.inl (Nat.ne_of_lt (Nat.lt_of_lt_of_le F_TIME_WINDOWS_ordinal.lt (Nat.le_of_eq g10.symm))))).ext E28).keep K31q (ninS (Nat.ne_of_lt (Nat.lt_of_lt_of_le (Fld.other W26 (Fld.other W22 (Fld.other W18 (Fld.other W14 (F_TIME_WINDOWS_ordinal.ext E10) (Or.inl (Nat.ne_of_lt (Nat.lt_of_lt_of_le F_TIME_WINDOWS_ordinal.lt (Nat.le_of_eq g10.symm))))) (Or.inl (Nat.ne_of_lt (Nat.lt_of_lt_of_le F_TIME_WINDOWS_ordinal.lt (Nat.le_of_eq g10.symm))))) (Or.inl (Nat.ne_of_lt (Nat.lt_of_lt_of_le F_TIME_WINDOWS_ordinal.lt (Nat.le_of_eq g10.symm))))) (Or.inl (Nat.ne_of_lt (Nat.lt_of_lt_of_le F_TIME_WINDOWS_ordinal.lt (Nat.le_of_eq g10.symm))))).lt (Nat.le_of_eq g28.symm))) nin0)).keep K37q (ninS (Nat.ne_of_lt (Nat.lt_of_lt_of_le ((Exa.wr W26 (Exa.wr W22 (Exa.wr W18 (Exa.wr W14 (X_TIME_WINDOWS.ext E10))))).ext E28).lt SA31)) nin0)).keep K43q (ninS (Nat.ne_of_lt (Nat.lt_of_lt_of_le ((Exa.wr W26 (Exa.wr W22 (Exa.wr W18 (Exa.wr W14 (X_TIME_WINDOWS.ext E10))))).ext E28).lt SA31)) nin0)) (((((Exa.wr W26 (Exa.wr W22 (Exa.wr W18 (Exa.wr W14 (X_TIME_WINDOWS.ext E10))))).ext E28).keep K31q).keep K37q).keep K43q) GA31 rfl (Nat.le_of_ble_eq_true rfl) ⟨by decide, by decide⟩) hZ (hw _ (List.mem_of_getElem? (i := 21) rfl)) (hw _ (List.mem_of_getElem? (i := 3) rfl)) (by decide) (by decide)) q49a q49c (g := (mkF m 119 #[.val (.int p0), .val (.int p1), .val (.int p2), .val (.int p3), .val (.int p4), .val (.double (FP.i2d x0)), .second, .val (.double (FP.i2d x1)), .second, .val (.double (FP.i2d x2)), .second, .val (.double (FP.i2d x3)), .second, .val (.double (FP.i2d y0)), .second, .val (.double (FP.i2d y1)), .second, .val (.double (FP.i2d y2)), .second, .val (.double (FP.i2d y3)), .second, .val (.double (FP.i2d p0)), .second, .val (.ref b10), .val (.ref b28), .unset, .unset, .unset, .unset, .unset] [(.double (FP.i2d y2)), (.ref w_TIME_WINDOWS), (.ref b28)])) rfl (by rw [hml]; rfl) (Steps.refl _) (argsL := [(.ref w_TIME_WINDOWS), (.double (FP.i2d y2))]) (rest := []) (lenOf own_pd2 rfl) rfl (by show 2 * 0 + _ ≤ _; exact Nat.le_of_eq rfl) (hb hby at_119) (fun _ _ => ⟨rfl, e46, (by decide : 3 + 0 ≤ _), (by decide : 9 + 0 ≤ _)⟩)
  dsimp only [Pt.U, Pt.locs, Pt.cells, Pt.slots] at X49 l49 y49 z49 st49 hQ49
  subst l49 y49 z49
  obtain ⟨rfl, N49q, K49q, VS49⟩ := hQ49
  have N49 := Fr.app N43 N49q
  have KK49 : Keep h0 T49.heap [] := Keep.trans KK43 K49q (allS (Or.inr (Nat.le_trans (K28).1 SA31)) all0)
  have a50 : ∀ t, Steps p.tables e below (T49.setTop (mkF m 122 #[.val (.int p0), .val (.int p1), .val (.int p2), .val (.int p3), .val (.int p4), .val (.double (FP.i2d x0)), .second, .val (.double (FP.i2d x1)), .second, .val (.double (FP.i2d x2)), .second, .val (.double (FP.i2d x3)), .second, .val (.double (FP.i2d y0)), .second, .val (.double (FP.i2d y1)), .second, .val (.double (FP.i2d y2)), .second, .val (.double (FP.i2d y3)), .second, .val (.double (FP.i2d p0)), .second, .val (.ref b10), .val (.ref b28), .unset, .unset, .unset, .unset, .unset] [])) t → Steps p.tables e below (s₁.setTop (entryFrame m #[(.int p0), (.int p1), (.int p2), (.int p3), (.int p4)] maxLocals)) t := fun t k => a48 t (st49.trans k)
  have a51 : ∀ t, Steps p.tables e below (T49.setTop (mkF m 124 #[.val (.int p0), .val (.int p1), .val (.int p2), .val (.int p3), .val (.int p4), .val (.double (FP.i2d x0)), .second, .val (.double (FP.i2d x1)), .second, .val (.double (FP.i2d x2)), .second, .val (.double (FP.i2d x3)), .second, .val (.double (FP.i2d y0)), .second, .val (.double (FP.i2d y1)), .second, .val (.double (FP.i2d y2)), .second, .val (.double (FP.i2d y3)), .second, .val (.double (FP.i2d p0)), .second, .val (.ref b10), .val (.ref b28), .unset, .unset, .unset, .unset, .unset] [(.ref b28)])) t → Steps p.tables e below (s₁.setTop (entryFrame m #[(.int p0), (.int p1), (.int p2), (.int p3), (.int p4)] maxLocals)) t := by
    intro t k
    refine a50 t ?_
    show Steps p.tables e below (T49.setTop (mkF m 122 #[.val (.int p0), .val (.int p1), .val (.int p2), .val (.int p3), .val (.int p4), .val (.double (FP.i2d x0)), .second, .val (.double (FP.i2d x1)), .second, .val (.double (FP.i2d x2)), .second, .val (.double (FP.i2d x3)), .second, .val (.double (FP.i2d y0)), .second, .val (.double (FP.i2d y1)), .second, .val (.double (FP.i2d y2)), .second, .val (.double (FP.i2d y3)), .second, .val (.double (FP.i2d p0)), .second, .val (.ref b10), .val (.ref b28), .unset, .unset, .unset, .unset, .unset] [])) _
    refine XS.aload X49.here hx rfl (hb hby at_122) rfl rfl ?_
    exact k
  obtain ⟨T52, X52, e52, st52⟩ := getS2 X49 hx hZ hown (host := "") (Or.inl (hw _ (List.mem_of_getElem? (i := 35) rfl))) Via.refl rfl (staKeep (staKeep (staKeep (staKeep ((Sta.wr W26 (Sta.wr W22 (Sta.wr W18 (Sta.wr W14 (S_FLEET.ext E10))))).ext E28) K31q (allS (exaSt A28) all0)) K37q (allS (arvSt VA31) all0)) K43q (allS (arvSt VS37) all0)) K49q (allS (arvSt VS43) all0)) (g := (mkF m 124 #[.val (.int p0), .val (.int p1), .val (.int p2), .val (.int p3), .val (.int p4), .val (.double (FP.i2d x0)), .second, .val (.double (FP.i2d x1)), .second, .val (.double (FP.i2d x2)), .second, .val (.double (FP.i2d x3)), .second, .val (.double (FP.i2d y0)), .second, .val (.double (FP.i2d y1)), .second, .val (.double (FP.i2d y2)), .second, .val (.double (FP.i2d y3)), .second, .val (.double (FP.i2d p0)), .second, .val (.ref b10), .val (.ref b28), .unset, .unset, .unset, .unset, .unset] [(.ref b28)])) rfl (hb hby at_124)
  have a53 : ∀ t, Steps p.tables e below (T52.setTop (mkF m 127 #[.val (.int p0), .val (.int p1), .val (.int p2), .val (.int p3), .val (.int p4), .val (.double (FP.i2d x0)), .second, .val (.double (FP.i2d x1)), .second, .val (.double (FP.i2d x2)), .second, .val (.double (FP.i2d x3)), .second, .val (.double (FP.i2d y0)), .second, .val (.double (FP.i2d y1)), .second, .val (.double (FP.i2d y2)), .second, .val (.double (FP.i2d y3)), .second, .val (.double (FP.i2d p0)), .second, .val (.ref b10), .val (.ref b28), .unset, .unset, .unset, .unset, .unset] [(.ref w_FLEET), (.ref b28)])) t → Steps p.tables e below (s₁.setTop (entryFrame m #[(.int p0), (.int p1), (.int p2), (.int p3), (.int p4)] maxLocals)) t := fun t k => a51 t (st52 t k)
  have a54 : ∀ t, Steps p.tables e below (T52.setTop (mkF m 129 #[.val (.int p0), .val (.int p1), .val (.int p2), .val (.int p3), .val (.int p4), .val (.double (FP.i2d x0)), .second, .val (.double (FP.i2d x1)), .second, .val (.double (FP.i2d x2)), .second, .val (.double (FP.i2d x3)), .second, .val (.double (FP.i2d y0)), .second, .val (.double (FP.i2d y1)), .second, .val (.double (FP.i2d y2)), .second, .val (.double (FP.i2d y3)), .second, .val (.double (FP.i2d p0)), .second, .val (.ref b10), .val (.ref b28), .unset, .unset, .unset, .unset, .unset] [(.double (FP.i2d y3)), (.ref w_FLEET), (.ref b28)])) t → Steps p.tables e below (s₁.setTop (entryFrame m #[(.int p0), (.int p1), (.int p2), (.int p3), (.int p4)] maxLocals)) t := by
    intro t k
    refine a53 t ?_
    show Steps p.tables e below (T52.setTop (mkF m 127 #[.val (.int p0), .val (.int p1), .val (.int p2), .val (.int p3), .val (.int p4), .val (.double (FP.i2d x0)), .second, .val (.double (FP.i2d x1)), .second, .val (.double (FP.i2d x2)), .second, .val (.double (FP.i2d x3)), .second, .val (.double (FP.i2d y0)), .second, .val (.double (FP.i2d y1)), .second, .val (.double (FP.i2d y2)), .second, .val (.double (FP.i2d y3)), .second, .val (.double (FP.i2d p0)), .second, .val (.ref b10), .val (.ref b28), .unset, .unset, .unset, .unset, .unset] [(.ref w_FLEET), (.ref b28)])) _
    refine XS.dload X52.here hx rfl (hb hby at_127) rfl ?_
    exact k
  obtain ⟨cq55, kq55, q55a, q55b, q55c⟩ := isOf hZ e52 ((((A28.keep K31q).keep K37q).keep K43q).keep K49q)
  obtain ⟨_, _, ⟨T55, L55, k55, n55⟩, -, X55, ⟨Lc55, hQ55, l55, y55, z55⟩, st55⟩ := X52.virtualBack hx (y := (⟨"com/example/tabuvia/tabuvia/engine/Excess", "set", "(Lcom/example/tabuvia/tabuvia/engine/Rule;D)V"⟩ : MethodName)) (z := (⟨"com/example/tabuvia/tabuvia/engine/Excess", "set", "(Lcom/example/tabuvia/tabuvia/engine/Rule;D)V"⟩ : MethodName)) hown (mvT hZ (hw _ (List.mem_of_getElem? (i := 17) rfl))) (mvT hZ (hw _ (List.mem_of_getElem? (i := 18) rfl))) (notFace_of_selects (args := #[]) (mvT hZ (hw _ (List.mem_of_getElem? (i := 20) rfl)))) (mvT hZ (hw _ (List.mem_of_getElem? (i := 20) rfl))) (mvT hZ (hw _ (List.mem_of_getElem? (i := 19) rfl))) (by decide) (backOf (W := 0) (rmSet l Z a0 hw [] b28 w_FLEET (FP.i2d y3) arr31 ka31 [(.double (FP.i2d y0)), (.double (FP.i2d y1)), (.double (FP.i2d y2)), (.double (0 : UInt64))] (3 : Int32) 3 T49.heap n0 (Nat.le_trans (Nat.le_trans (Nat.le_trans (Nat.le_trans (Nat.le_trans (Nat.le_trans (Nat.le_trans (Nat.le_trans (Nat.le_trans (Nat.le_trans Z0 E10.1) (Keep.of_wr W14).1) (Keep.of_wr W18).1) (Keep.of_wr W22).1) (Keep.of_wr W26).1) E28.1) K31q.1) K37q.1) K43q.1) K49q.1) (((FA31.keep K37q (ninS (Nat.ne_of_lt (Nat.lt_of_lt_of_le F_amounts_b28.lt SA31)) nin0)).keep K43q (ninS (Nat.ne_of_lt (Nat.lt_of_lt_of_le F_amounts_b28.lt SA31)) nin0)).keep K49q (ninS (Nat.ne_of_lt (Nat.lt_of_lt_of_le F_amounts_b28.lt SA31)) nin0)) VS49 ((((((Fld.other W26 (Fld.other W22 (Fld.other W18 (Fld.other W14 (F_FLEET_ordinal.ext E10) (Or.inl (Nat.ne_of_lt (Nat.lt_of_lt_of_le F_FLEET_ordinal.lt (Nat.le_of_eq g10.symm))))) (Or.inl (Nat.ne_of_lt (Nat.lt_of_lt_of_le F_FLEET_ordinal.lt (Nat.le_of_eq g10.symm))))) (Or.inl (Nat.ne_of_lt (Nat.lt_of_lt_of_le F_FLEET_ordinal.lt (Nat.le_of_eq g10.symm))))) (Or.inl (Nat.ne_of_lt (Nat.lt_of_lt_of_le F_FLEET_ordinal.lt (Nat.le_of_eq g10.symm))))).ext E28).keep K31q (ninS (Nat.ne_of_lt (Nat.lt_of_lt_of_le (Fld.other W26 (Fld.other W22 (Fld.other W18 (Fld.other W14 (F_FLEET_ordinal.ext E10) (Or.inl (Nat.ne_of_lt (Nat.lt_of_lt_of_le F_FLEET_ordinal.lt (Nat.le_of_eq g10.symm))))) (Or.inl (Nat.ne_of_lt (Nat.lt_of_lt_of_le F_FLEET_ordinal.lt (Nat.le_of_eq g10.symm))))) (Or.inl (Nat.ne_of_lt (Nat.lt_of_lt_of_le F_FLEET_ordinal.lt (Nat.le_of_eq g10.symm))))) (Or.inl (Nat.ne_of_lt (Nat.lt_of_lt_of_le F_FLEET_ordinal.lt (Nat.le_of_eq g10.symm))))).lt (Nat.le_of_eq g28.symm))) nin0)).keep K37q (ninS (Nat.ne_of_lt (Nat.lt_of_lt_of_le ((Exa.wr W26 (Exa.wr W22 (Exa.wr W18 (Exa.wr W14 (X_FLEET.ext E10))))).ext E28).lt SA31)) nin0)).keep K43q (ninS (Nat.ne_of_lt (Nat.lt_of_lt_of_le ((Exa.wr W26 (Exa.wr W22 (Exa.wr W18 (Exa.wr W14 (X_FLEET.ext E10))))).ext E28).lt SA31)) nin0)).keep K49q (ninS (Nat.ne_of_lt (Nat.lt_of_lt_of_le ((Exa.wr W26 (Exa.wr W22 (Exa.wr W18 (Exa.wr W14 (X_FLEET.ext E10))))).ext E28).lt SA31)) nin0)) ((((((Exa.wr W26 (Exa.wr W22 (Exa.wr W18 (Exa.wr W14 (X_FLEET.ext E10))))).ext E28).keep K31q).keep K37q).keep K43q).keep K49q) GA31 rfl (Nat.le_of_ble_eq_true rfl) ⟨by decide, by decide⟩) hZ (hw _ (List.mem_of_getElem? (i := 21) rfl)) (hw _ (List.mem_of_getElem? (i := 3) rfl)) (by decide) (by decide)) q55a q55c (g := (mkF m 129 #[.val (.int p0), .val (.int p1), .val (.int p2), .val (.int p3), .val (.int p4), .val (.double (FP.i2d x0)), .second, .val (.double (FP.i2d x1)), .second, .val (.double (FP.i2d x2)), .second, .val (.double (FP.i2d x3)), .second, .val (.double (FP.i2d y0)), .second, .val (.double (FP.i2d y1)), .second, .val (.double (FP.i2d y2)), .second, .val (.double (FP.i2d y3)), .second, .val (.double (FP.i2d p0)), .second, .val (.ref b10), .val (.ref b28), .unset, .unset, .unset, .unset, .unset] [(.double (FP.i2d y3)), (.ref w_FLEET), (.ref b28)])) rfl (by rw [hml]; rfl) (Steps.refl _) (argsL := [(.ref w_FLEET), (.double (FP.i2d y3))]) (rest := []) (lenOf own_pd2 rfl) rfl (by show 2 * 0 + _ ≤ _; exact Nat.le_of_eq rfl) (hb hby at_129) (fun _ _ => ⟨rfl, e52, (by decide : 3 + 0 ≤ _), (by decide : 9 + 0 ≤ _)⟩)
  dsimp only [Pt.U, Pt.locs, Pt.cells, Pt.slots] at X55 l55 y55 z55 st55 hQ55
  subst l55 y55 z55
  obtain ⟨rfl, N55q, K55q, VS55⟩ := hQ55
  have N55 := Fr.app N49 N55q
  have KK55 : Keep h0 T55.heap [] := Keep.trans KK49 K55q (allS (Or.inr (Nat.le_trans (K28).1 SA31)) all0)
  have a56 : ∀ t, Steps p.tables e below (T55.setTop (mkF m 132 #[.val (.int p0), .val (.int p1), .val (.int p2), .val (.int p3), .val (.int p4), .val (.double (FP.i2d x0)), .second, .val (.double (FP.i2d x1)), .second, .val (.double (FP.i2d x2)), .second, .val (.double (FP.i2d x3)), .second, .val (.double (FP.i2d y0)), .second, .val (.double (FP.i2d y1)), .second, .val (.double (FP.i2d y2)), .second, .val (.double (FP.i2d y3)), .second, .val (.double (FP.i2d p0)), .second, .val (.ref b10), .val (.ref b28), .unset, .unset, .unset, .unset, .unset] [])) t → Steps p.tables e below (s₁.setTop (entryFrame m #[(.int p0), (.int p1), (.int p2), (.int p3), (.int p4)] maxLocals)) t := fun t k => a54 t (st55.trans k)
  have a57 : ∀ t, Steps p.tables e below (T55.setTop (mkF m 138 #[.val (.int p0), .val (.int p1), .val (.int p2), .val (.int p3), .val (.int p4), .val (.double (FP.i2d x0)), .second, .val (.double (FP.i2d x1)), .second, .val (.double (FP.i2d x2)), .second, .val (.double (FP.i2d x3)), .second, .val (.double (FP.i2d y0)), .second, .val (.double (FP.i2d y1)), .second, .val (.double (FP.i2d y2)), .second, .val (.double (FP.i2d y3)), .second, .val (.double (FP.i2d p0)), .second, .val (.ref b10), .val (.ref b28), .unset, .unset, .unset, .unset, .unset] [(.ref b10), (.double (FP.i2d p0)), (.ref b28)])) t → Steps p.tables e below (s₁.setTop (entryFrame m #[(.int p0), (.int p1), (.int p2), (.int p3), (.int p4)] maxLocals)) t := by
    intro t k
    refine a56 t ?_
    show Steps p.tables e below (T55.setTop (mkF m 132 #[.val (.int p0), .val (.int p1), .val (.int p2), .val (.int p3), .val (.int p4), .val (.double (FP.i2d x0)), .second, .val (.double (FP.i2d x1)), .second, .val (.double (FP.i2d x2)), .second, .val (.double (FP.i2d x3)), .second, .val (.double (FP.i2d y0)), .second, .val (.double (FP.i2d y1)), .second, .val (.double (FP.i2d y2)), .second, .val (.double (FP.i2d y3)), .second, .val (.double (FP.i2d p0)), .second, .val (.ref b10), .val (.ref b28), .unset, .unset, .unset, .unset, .unset] [])) _
    refine XS.aload X55.here hx rfl (hb hby at_132) rfl rfl ?_
    show Steps p.tables e below (T55.setTop (mkF m 134 #[.val (.int p0), .val (.int p1), .val (.int p2), .val (.int p3), .val (.int p4), .val (.double (FP.i2d x0)), .second, .val (.double (FP.i2d x1)), .second, .val (.double (FP.i2d x2)), .second, .val (.double (FP.i2d x3)), .second, .val (.double (FP.i2d y0)), .second, .val (.double (FP.i2d y1)), .second, .val (.double (FP.i2d y2)), .second, .val (.double (FP.i2d y3)), .second, .val (.double (FP.i2d p0)), .second, .val (.ref b10), .val (.ref b28), .unset, .unset, .unset, .unset, .unset] [(.ref b28)])) _
    refine XS.dload X55.here hx rfl (hb hby at_134) rfl ?_
    show Steps p.tables e below (T55.setTop (mkF m 136 #[.val (.int p0), .val (.int p1), .val (.int p2), .val (.int p3), .val (.int p4), .val (.double (FP.i2d x0)), .second, .val (.double (FP.i2d x1)), .second, .val (.double (FP.i2d x2)), .second, .val (.double (FP.i2d x3)), .second, .val (.double (FP.i2d y0)), .second, .val (.double (FP.i2d y1)), .second, .val (.double (FP.i2d y2)), .second, .val (.double (FP.i2d y3)), .second, .val (.double (FP.i2d p0)), .second, .val (.ref b10), .val (.ref b28), .unset, .unset, .unset, .unset, .unset] [(.double (FP.i2d p0)), (.ref b28)])) _
    refine XS.aload X55.here hx rfl (hb hby at_136) rfl rfl ?_
    exact k
  obtain ⟨cq58, kq58, q58a, q58b, q58c⟩ := isOf hZ rfl (((((A28.keep K31q).keep K37q).keep K43q).keep K49q).keep K55q)
  obtain ⟨_, _, ⟨T58, L58, k58, n58⟩, -, X58, ⟨Lc58, hQ58, l58, y58, z58⟩, st58⟩ := X55.virtualBack hx (y := (⟨"com/example/tabuvia/tabuvia/engine/Excess", "weighted", "(D[D)D"⟩ : MethodName)) (z := (⟨"com/example/tabuvia/tabuvia/engine/Excess", "weighted", "(D[D)D"⟩ : MethodName)) hown (mvT hZ (hw _ (List.mem_of_getElem? (i := 37) rfl))) (mvT hZ (hw _ (List.mem_of_getElem? (i := 38) rfl))) (notFace_of_selects (args := #[]) (mvT hZ (hw _ (List.mem_of_getElem? (i := 40) rfl)))) (mvT hZ (hw _ (List.mem_of_getElem? (i := 40) rfl))) (mvT hZ (hw _ (List.mem_of_getElem? (i := 39) rfl))) (by decide) (backOf (W := 0) (rmW l Z a0 hw [] b28 (FP.i2d p0) b10 arr31 ka31 kk10 (FP.i2d x0) (FP.i2d x1) (FP.i2d x2) (FP.i2d x3) (FP.i2d y0) (FP.i2d y1) (FP.i2d y2) (FP.i2d y3) T55.heap n0 (Nat.le_trans (Nat.le_trans (Nat.le_trans (Nat.le_trans (Nat.le_trans (Nat.le_trans (Nat.le_trans (Nat.le_trans (Nat.le_trans (Nat.le_trans (Nat.le_trans Z0 E10.1) (Keep.of_wr W14).1) (Keep.of_wr W18).1) (Keep.of_wr W22).1) (Keep.of_wr W26).1) E28.1) K31q.1) K37q.1) K43q.1) K49q.1) K55q.1) (staKeep (staKeep (staKeep (staKeep (staKeep ((Sta.wr W26 (Sta.wr W22 (Sta.wr W18 (Sta.wr W14 (S_RULES.ext E10))))).ext E28) K31q (allS (exaSt A28) all0)) K37q (allS (arvSt VA31) all0)) K43q (allS (arvSt VS37) all0)) K49q (allS (arvSt VS43) all0)) K55q (allS (arvSt VS49) all0)) ((((FA31.keep K37q (ninS (Nat.ne_of_lt (Nat.lt_of_lt_of_le F_amounts_b28.lt SA31)) nin0)).keep K43q (ninS (Nat.ne_of_lt (Nat.lt_of_lt_of_le F_amounts_b28.lt SA31)) nin0)).keep K49q (ninS (Nat.ne_of_lt (Nat.lt_of_lt_of_le F_amounts_b28.lt SA31)) nin0)).keep K55q (ninS (Nat.ne_of_lt (Nat.lt_of_lt_of_le F_amounts_b28.lt SA31)) nin0)) VS55 ((((((V26.ext E28).keep K31q (ninS (Nat.ne_of_lt (Nat.lt_of_lt_of_le V26.lt (Nat.le_of_eq g28.symm))) nin0)).keep K37q (ninS (Nat.ne_of_lt (Nat.lt_of_lt_of_le (V26.ext E28).lt SA31)) nin0)).keep K43q (ninS (Nat.ne_of_lt (Nat.lt_of_lt_of_le (V26.ext E28).lt SA31)) nin0)).keep K49q (ninS (Nat.ne_of_lt (Nat.lt_of_lt_of_le (V26.ext E28).lt SA31)) nin0)).keep K55q (ninS (Nat.ne_of_lt (Nat.lt_of_lt_of_le (V26.ext E28).lt SA31)) nin0)) (nn64 hP0.1) (nn64 hP1.1) (nn64 hP2.1) (nn64 hP3.1) (nn64 hS0.1) (nn64 hS1.1) (nn64 hS2.1) (nn64 hS3.1)) hZ (hw _ (List.mem_of_getElem? (i := 41) rfl)) (hw _ (List.mem_of_getElem? (i := 3) rfl)) (by decide) (by decide)) q58a q58c (g := (mkF m 138 #[.val (.int p0), .val (.int p1), .val (.int p2), .val (.int p3), .val (.int p4), .val (.double (FP.i2d x0)), .second, .val (.double (FP.i2d x1)), .second, .val (.double (FP.i2d x2)), .second, .val (.double (FP.i2d x3)), .second, .val (.double (FP.i2d y0)), .second, .val (.double (FP.i2d y1)), .second, .val (.double (FP.i2d y2)), .second, .val (.double (FP.i2d y3)), .second, .val (.double (FP.i2d p0)), .second, .val (.ref b10), .val (.ref b28), .unset, .unset, .unset, .unset, .unset] [(.ref b10), (.double (FP.i2d p0)), (.ref b28)])) rfl (by rw [hml]; rfl) (Steps.refl _) (argsL := [(.double (FP.i2d p0)), (.ref b10)]) (rest := []) (lenOf own_pd3 rfl) rfl (by show 2 * 0 + _ ≤ _; exact Nat.le_of_eq rfl) (hb hby at_138) (fun _ _ => ⟨rfl, rfl, (by decide : 3 + 0 ≤ _), (by decide : 9 + 0 ≤ _)⟩)
  dsimp only [Pt.U, Pt.locs, Pt.cells, Pt.slots] at X58 l58 y58 z58 st58 hQ58
  subst l58 y58 z58
  obtain ⟨rfl, N58q, e58q⟩ := hQ58
  have N58 := Fr.app N55 N58q
  have a59 : ∀ t, Steps p.tables e below (T58.setTop (mkF m 141 #[.val (.int p0), .val (.int p1), .val (.int p2), .val (.int p3), .val (.int p4), .val (.double (FP.i2d x0)), .second, .val (.double (FP.i2d x1)), .second, .val (.double (FP.i2d x2)), .second, .val (.double (FP.i2d x3)), .second, .val (.double (FP.i2d y0)), .second, .val (.double (FP.i2d y1)), .second, .val (.double (FP.i2d y2)), .second, .val (.double (FP.i2d y3)), .second, .val (.double (FP.i2d p0)), .second, .val (.ref b10), .val (.ref b28), .unset, .unset, .unset, .unset, .unset] [(.double (FP.dadd (FP.dadd (FP.dadd (FP.dadd (FP.i2d p0) (FP.dmul (FP.i2d x0) (FP.i2d y0))) (FP.dmul (FP.i2d x1) (FP.i2d y1))) (FP.dmul (FP.i2d x2) (FP.i2d y2))) (FP.dmul (FP.i2d x3) (FP.i2d y3))))])) t → Steps p.tables e below (s₁.setTop (entryFrame m #[(.int p0), (.int p1), (.int p2), (.int p3), (.int p4)] maxLocals)) t := fun t k => a57 t (st58.trans k)
  have a60 : ∀ t, Steps p.tables e below (T58.setTop (mkF m 174 #[.val (.int p0), .val (.int p1), .val (.int p2), .val (.int p3), .val (.int p4), .val (.double (FP.i2d x0)), .second, .val (.double (FP.i2d x1)), .second, .val (.double (FP.i2d x2)), .second, .val (.double (FP.i2d x3)), .second, .val (.double (FP.i2d y0)), .second, .val (.double (FP.i2d y1)), .second, .val (.double (FP.i2d y2)), .second, .val (.double (FP.i2d y3)), .second, .val (.double (FP.i2d p0)), .second, .val (.ref b10), .val (.ref b28), .val (.double (FP.dadd (FP.dadd (FP.dadd (FP.dadd (FP.i2d p0) (FP.dmul (FP.i2d x0) (FP.i2d y0))) (FP.dmul (FP.i2d x1) (FP.i2d y1))) (FP.dmul (FP.i2d x2) (FP.i2d y2))) (FP.dmul (FP.i2d x3) (FP.i2d y3)))), .second, .val (.double (FP.dadd (FP.dadd (FP.dadd (FP.dadd (FP.i2d p0) (FP.dmul (FP.i2d x0) (FP.i2d y0))) (FP.dmul (FP.i2d x1) (FP.i2d y1))) (FP.dmul (FP.i2d x2) (FP.i2d y2))) (FP.dmul (FP.i2d x3) (FP.i2d y3)))), .second, .unset] [(.int (0 : Int32)), (.ref b10)])) t → Steps p.tables e below (s₁.setTop (entryFrame m #[(.int p0), (.int p1), (.int p2), (.int p3), (.int p4)] maxLocals)) t := by
    intro t k
    refine a59 t ?_
    show Steps p.tables e below (T58.setTop (mkF m 141 #[.val (.int p0), .val (.int p1), .val (.int p2), .val (.int p3), .val (.int p4), .val (.double (FP.i2d x0)), .second, .val (.double (FP.i2d x1)), .second, .val (.double (FP.i2d x2)), .second, .val (.double (FP.i2d x3)), .second, .val (.double (FP.i2d y0)), .second, .val (.double (FP.i2d y1)), .second, .val (.double (FP.i2d y2)), .second, .val (.double (FP.i2d y3)), .second, .val (.double (FP.i2d p0)), .second, .val (.ref b10), .val (.ref b28), .unset, .unset, .unset, .unset, .unset] [(.double (FP.dadd (FP.dadd (FP.dadd (FP.dadd (FP.i2d p0) (FP.dmul (FP.i2d x0) (FP.i2d y0))) (FP.dmul (FP.i2d x1) (FP.i2d y1))) (FP.dmul (FP.i2d x2) (FP.i2d y2))) (FP.dmul (FP.i2d x3) (FP.i2d y3))))])) _
    refine XS.dstore X58.here hx rfl (hb hby at_141) rfl (l' := #[.val (.int p0), .val (.int p1), .val (.int p2), .val (.int p3), .val (.int p4), .val (.double (FP.i2d x0)), .second, .val (.double (FP.i2d x1)), .second, .val (.double (FP.i2d x2)), .second, .val (.double (FP.i2d x3)), .second, .val (.double (FP.i2d y0)), .second, .val (.double (FP.i2d y1)), .second, .val (.double (FP.i2d y2)), .second, .val (.double (FP.i2d y3)), .second, .val (.double (FP.i2d p0)), .second, .val (.ref b10), .val (.ref b28), .val (.double (FP.dadd (FP.dadd (FP.dadd (FP.dadd (FP.i2d p0) (FP.dmul (FP.i2d x0) (FP.i2d y0))) (FP.dmul (FP.i2d x1) (FP.i2d y1))) (FP.dmul (FP.i2d x2) (FP.i2d y2))) (FP.dmul (FP.i2d x3) (FP.i2d y3)))), .second, .unset, .unset, .unset]) rfl ?_
    show Steps p.tables e below (T58.setTop (mkF m 143 #[.val (.int p0), .val (.int p1), .val (.int p2), .val (.int p3), .val (.int p4), .val (.double (FP.i2d x0)), .second, .val (.double (FP.i2d x1)), .second, .val (.double (FP.i2d x2)), .second, .val (.double (FP.i2d x3)), .second, .val (.double (FP.i2d y0)), .second, .val (.double (FP.i2d y1)), .second, .val (.double (FP.i2d y2)), .second, .val (.double (FP.i2d y3)), .second, .val (.double (FP.i2d p0)), .second, .val (.ref b10), .val (.ref b28), .val (.double (FP.dadd (FP.dadd (FP.dadd (FP.dadd (FP.i2d p0) (FP.dmul (FP.i2d x0) (FP.i2d y0))) (FP.dmul (FP.i2d x1) (FP.i2d y1))) (FP.dmul (FP.i2d x2) (FP.i2d y2))) (FP.dmul (FP.i2d x3) (FP.i2d y3)))), .second, .unset, .unset, .unset] [])) _
    refine XS.dload X58.here hx rfl (hb hby at_143) rfl ?_
    show Steps p.tables e below (T58.setTop (mkF m 145 #[.val (.int p0), .val (.int p1), .val (.int p2), .val (.int p3), .val (.int p4), .val (.double (FP.i2d x0)), .second, .val (.double (FP.i2d x1)), .second, .val (.double (FP.i2d x2)), .second, .val (.double (FP.i2d x3)), .second, .val (.double (FP.i2d y0)), .second, .val (.double (FP.i2d y1)), .second, .val (.double (FP.i2d y2)), .second, .val (.double (FP.i2d y3)), .second, .val (.double (FP.i2d p0)), .second, .val (.ref b10), .val (.ref b28), .val (.double (FP.dadd (FP.dadd (FP.dadd (FP.dadd (FP.i2d p0) (FP.dmul (FP.i2d x0) (FP.i2d y0))) (FP.dmul (FP.i2d x1) (FP.i2d y1))) (FP.dmul (FP.i2d x2) (FP.i2d y2))) (FP.dmul (FP.i2d x3) (FP.i2d y3)))), .second, .unset, .unset, .unset] [(.double (FP.i2d p0))])) _
    refine XS.dload X58.here hx rfl (hb hby at_145) rfl ?_
    show Steps p.tables e below (T58.setTop (mkF m 147 #[.val (.int p0), .val (.int p1), .val (.int p2), .val (.int p3), .val (.int p4), .val (.double (FP.i2d x0)), .second, .val (.double (FP.i2d x1)), .second, .val (.double (FP.i2d x2)), .second, .val (.double (FP.i2d x3)), .second, .val (.double (FP.i2d y0)), .second, .val (.double (FP.i2d y1)), .second, .val (.double (FP.i2d y2)), .second, .val (.double (FP.i2d y3)), .second, .val (.double (FP.i2d p0)), .second, .val (.ref b10), .val (.ref b28), .val (.double (FP.dadd (FP.dadd (FP.dadd (FP.dadd (FP.i2d p0) (FP.dmul (FP.i2d x0) (FP.i2d y0))) (FP.dmul (FP.i2d x1) (FP.i2d y1))) (FP.dmul (FP.i2d x2) (FP.i2d y2))) (FP.dmul (FP.i2d x3) (FP.i2d y3)))), .second, .unset, .unset, .unset] [(.double (FP.i2d x0)), (.double (FP.i2d p0))])) _
    refine XS.dload X58.here hx rfl (hb hby at_147) rfl ?_
    show Steps p.tables e below (T58.setTop (mkF m 149 #[.val (.int p0), .val (.int p1), .val (.int p2), .val (.int p3), .val (.int p4), .val (.double (FP.i2d x0)), .second, .val (.double (FP.i2d x1)), .second, .val (.double (FP.i2d x2)), .second, .val (.double (FP.i2d x3)), .second, .val (.double (FP.i2d y0)), .second, .val (.double (FP.i2d y1)), .second, .val (.double (FP.i2d y2)), .second, .val (.double (FP.i2d y3)), .second, .val (.double (FP.i2d p0)), .second, .val (.ref b10), .val (.ref b28), .val (.double (FP.dadd (FP.dadd (FP.dadd (FP.dadd (FP.i2d p0) (FP.dmul (FP.i2d x0) (FP.i2d y0))) (FP.dmul (FP.i2d x1) (FP.i2d y1))) (FP.dmul (FP.i2d x2) (FP.i2d y2))) (FP.dmul (FP.i2d x3) (FP.i2d y3)))), .second, .unset, .unset, .unset] [(.double (FP.i2d y0)), (.double (FP.i2d x0)), (.double (FP.i2d p0))])) _
    refine XS.dmulS X58.here hx rfl (hb hby at_149) rfl (nn64 hP0.1) rfl ?_
    show Steps p.tables e below (T58.setTop (mkF m 150 #[.val (.int p0), .val (.int p1), .val (.int p2), .val (.int p3), .val (.int p4), .val (.double (FP.i2d x0)), .second, .val (.double (FP.i2d x1)), .second, .val (.double (FP.i2d x2)), .second, .val (.double (FP.i2d x3)), .second, .val (.double (FP.i2d y0)), .second, .val (.double (FP.i2d y1)), .second, .val (.double (FP.i2d y2)), .second, .val (.double (FP.i2d y3)), .second, .val (.double (FP.i2d p0)), .second, .val (.ref b10), .val (.ref b28), .val (.double (FP.dadd (FP.dadd (FP.dadd (FP.dadd (FP.i2d p0) (FP.dmul (FP.i2d x0) (FP.i2d y0))) (FP.dmul (FP.i2d x1) (FP.i2d y1))) (FP.dmul (FP.i2d x2) (FP.i2d y2))) (FP.dmul (FP.i2d x3) (FP.i2d y3)))), .second, .unset, .unset, .unset] [(.double (FP.dmul (FP.i2d x0) (FP.i2d y0))), (.double (FP.i2d p0))])) _
    refine XS.daddS X58.here hx rfl (hb hby at_150) rfl (nn64 hS0.1) rfl ?_
    show Steps p.tables e below (T58.setTop (mkF m 151 #[.val (.int p0), .val (.int p1), .val (.int p2), .val (.int p3), .val (.int p4), .val (.double (FP.i2d x0)), .second, .val (.double (FP.i2d x1)), .second, .val (.double (FP.i2d x2)), .second, .val (.double (FP.i2d x3)), .second, .val (.double (FP.i2d y0)), .second, .val (.double (FP.i2d y1)), .second, .val (.double (FP.i2d y2)), .second, .val (.double (FP.i2d y3)), .second, .val (.double (FP.i2d p0)), .second, .val (.ref b10), .val (.ref b28), .val (.double (FP.dadd (FP.dadd (FP.dadd (FP.dadd (FP.i2d p0) (FP.dmul (FP.i2d x0) (FP.i2d y0))) (FP.dmul (FP.i2d x1) (FP.i2d y1))) (FP.dmul (FP.i2d x2) (FP.i2d y2))) (FP.dmul (FP.i2d x3) (FP.i2d y3)))), .second, .unset, .unset, .unset] [(.double (FP.dadd (FP.i2d p0) (FP.dmul (FP.i2d x0) (FP.i2d y0))))])) _
    refine XS.dload X58.here hx rfl (hb hby at_151) rfl ?_
    show Steps p.tables e below (T58.setTop (mkF m 153 #[.val (.int p0), .val (.int p1), .val (.int p2), .val (.int p3), .val (.int p4), .val (.double (FP.i2d x0)), .second, .val (.double (FP.i2d x1)), .second, .val (.double (FP.i2d x2)), .second, .val (.double (FP.i2d x3)), .second, .val (.double (FP.i2d y0)), .second, .val (.double (FP.i2d y1)), .second, .val (.double (FP.i2d y2)), .second, .val (.double (FP.i2d y3)), .second, .val (.double (FP.i2d p0)), .second, .val (.ref b10), .val (.ref b28), .val (.double (FP.dadd (FP.dadd (FP.dadd (FP.dadd (FP.i2d p0) (FP.dmul (FP.i2d x0) (FP.i2d y0))) (FP.dmul (FP.i2d x1) (FP.i2d y1))) (FP.dmul (FP.i2d x2) (FP.i2d y2))) (FP.dmul (FP.i2d x3) (FP.i2d y3)))), .second, .unset, .unset, .unset] [(.double (FP.i2d x1)), (.double (FP.dadd (FP.i2d p0) (FP.dmul (FP.i2d x0) (FP.i2d y0))))])) _
    refine XS.dload X58.here hx rfl (hb hby at_153) rfl ?_
    show Steps p.tables e below (T58.setTop (mkF m 155 #[.val (.int p0), .val (.int p1), .val (.int p2), .val (.int p3), .val (.int p4), .val (.double (FP.i2d x0)), .second, .val (.double (FP.i2d x1)), .second, .val (.double (FP.i2d x2)), .second, .val (.double (FP.i2d x3)), .second, .val (.double (FP.i2d y0)), .second, .val (.double (FP.i2d y1)), .second, .val (.double (FP.i2d y2)), .second, .val (.double (FP.i2d y3)), .second, .val (.double (FP.i2d p0)), .second, .val (.ref b10), .val (.ref b28), .val (.double (FP.dadd (FP.dadd (FP.dadd (FP.dadd (FP.i2d p0) (FP.dmul (FP.i2d x0) (FP.i2d y0))) (FP.dmul (FP.i2d x1) (FP.i2d y1))) (FP.dmul (FP.i2d x2) (FP.i2d y2))) (FP.dmul (FP.i2d x3) (FP.i2d y3)))), .second, .unset, .unset, .unset] [(.double (FP.i2d y1)), (.double (FP.i2d x1)), (.double (FP.dadd (FP.i2d p0) (FP.dmul (FP.i2d x0) (FP.i2d y0))))])) _
    refine XS.dmulS X58.here hx rfl (hb hby at_155) rfl (nn64 hP1.1) rfl ?_
    show Steps p.tables e below (T58.setTop (mkF m 156 #[.val (.int p0), .val (.int p1), .val (.int p2), .val (.int p3), .val (.int p4), .val (.double (FP.i2d x0)), .second, .val (.double (FP.i2d x1)), .second, .val (.double (FP.i2d x2)), .second, .val (.double (FP.i2d x3)), .second, .val (.double (FP.i2d y0)), .second, .val (.double (FP.i2d y1)), .second, .val (.double (FP.i2d y2)), .second, .val (.double (FP.i2d y3)), .second, .val (.double (FP.i2d p0)), .second, .val (.ref b10), .val (.ref b28), .val (.double (FP.dadd (FP.dadd (FP.dadd (FP.dadd (FP.i2d p0) (FP.dmul (FP.i2d x0) (FP.i2d y0))) (FP.dmul (FP.i2d x1) (FP.i2d y1))) (FP.dmul (FP.i2d x2) (FP.i2d y2))) (FP.dmul (FP.i2d x3) (FP.i2d y3)))), .second, .unset, .unset, .unset] [(.double (FP.dmul (FP.i2d x1) (FP.i2d y1))), (.double (FP.dadd (FP.i2d p0) (FP.dmul (FP.i2d x0) (FP.i2d y0))))])) _
    refine XS.daddS X58.here hx rfl (hb hby at_156) rfl (nn64 hS1.1) rfl ?_
    show Steps p.tables e below (T58.setTop (mkF m 157 #[.val (.int p0), .val (.int p1), .val (.int p2), .val (.int p3), .val (.int p4), .val (.double (FP.i2d x0)), .second, .val (.double (FP.i2d x1)), .second, .val (.double (FP.i2d x2)), .second, .val (.double (FP.i2d x3)), .second, .val (.double (FP.i2d y0)), .second, .val (.double (FP.i2d y1)), .second, .val (.double (FP.i2d y2)), .second, .val (.double (FP.i2d y3)), .second, .val (.double (FP.i2d p0)), .second, .val (.ref b10), .val (.ref b28), .val (.double (FP.dadd (FP.dadd (FP.dadd (FP.dadd (FP.i2d p0) (FP.dmul (FP.i2d x0) (FP.i2d y0))) (FP.dmul (FP.i2d x1) (FP.i2d y1))) (FP.dmul (FP.i2d x2) (FP.i2d y2))) (FP.dmul (FP.i2d x3) (FP.i2d y3)))), .second, .unset, .unset, .unset] [(.double (FP.dadd (FP.dadd (FP.i2d p0) (FP.dmul (FP.i2d x0) (FP.i2d y0))) (FP.dmul (FP.i2d x1) (FP.i2d y1))))])) _
    refine XS.dload X58.here hx rfl (hb hby at_157) rfl ?_
    show Steps p.tables e below (T58.setTop (mkF m 159 #[.val (.int p0), .val (.int p1), .val (.int p2), .val (.int p3), .val (.int p4), .val (.double (FP.i2d x0)), .second, .val (.double (FP.i2d x1)), .second, .val (.double (FP.i2d x2)), .second, .val (.double (FP.i2d x3)), .second, .val (.double (FP.i2d y0)), .second, .val (.double (FP.i2d y1)), .second, .val (.double (FP.i2d y2)), .second, .val (.double (FP.i2d y3)), .second, .val (.double (FP.i2d p0)), .second, .val (.ref b10), .val (.ref b28), .val (.double (FP.dadd (FP.dadd (FP.dadd (FP.dadd (FP.i2d p0) (FP.dmul (FP.i2d x0) (FP.i2d y0))) (FP.dmul (FP.i2d x1) (FP.i2d y1))) (FP.dmul (FP.i2d x2) (FP.i2d y2))) (FP.dmul (FP.i2d x3) (FP.i2d y3)))), .second, .unset, .unset, .unset] [(.double (FP.i2d x2)), (.double (FP.dadd (FP.dadd (FP.i2d p0) (FP.dmul (FP.i2d x0) (FP.i2d y0))) (FP.dmul (FP.i2d x1) (FP.i2d y1))))])) _
    refine XS.dload X58.here hx rfl (hb hby at_159) rfl ?_
    show Steps p.tables e below (T58.setTop (mkF m 161 #[.val (.int p0), .val (.int p1), .val (.int p2), .val (.int p3), .val (.int p4), .val (.double (FP.i2d x0)), .second, .val (.double (FP.i2d x1)), .second, .val (.double (FP.i2d x2)), .second, .val (.double (FP.i2d x3)), .second, .val (.double (FP.i2d y0)), .second, .val (.double (FP.i2d y1)), .second, .val (.double (FP.i2d y2)), .second, .val (.double (FP.i2d y3)), .second, .val (.double (FP.i2d p0)), .second, .val (.ref b10), .val (.ref b28), .val (.double (FP.dadd (FP.dadd (FP.dadd (FP.dadd (FP.i2d p0) (FP.dmul (FP.i2d x0) (FP.i2d y0))) (FP.dmul (FP.i2d x1) (FP.i2d y1))) (FP.dmul (FP.i2d x2) (FP.i2d y2))) (FP.dmul (FP.i2d x3) (FP.i2d y3)))), .second, .unset, .unset, .unset] [(.double (FP.i2d y2)), (.double (FP.i2d x2)), (.double (FP.dadd (FP.dadd (FP.i2d p0) (FP.dmul (FP.i2d x0) (FP.i2d y0))) (FP.dmul (FP.i2d x1) (FP.i2d y1))))])) _
    refine XS.dmulS X58.here hx rfl (hb hby at_161) rfl (nn64 hP2.1) rfl ?_
    show Steps p.tables e below (T58.setTop (mkF m 162 #[.val (.int p0), .val (.int p1), .val (.int p2), .val (.int p3), .val (.int p4), .val (.double (FP.i2d x0)), .second, .val (.double (FP.i2d x1)), .second, .val (.double (FP.i2d x2)), .second, .val (.double (FP.i2d x3)), .second, .val (.double (FP.i2d y0)), .second, .val (.double (FP.i2d y1)), .second, .val (.double (FP.i2d y2)), .second, .val (.double (FP.i2d y3)), .second, .val (.double (FP.i2d p0)), .second, .val (.ref b10), .val (.ref b28), .val (.double (FP.dadd (FP.dadd (FP.dadd (FP.dadd (FP.i2d p0) (FP.dmul (FP.i2d x0) (FP.i2d y0))) (FP.dmul (FP.i2d x1) (FP.i2d y1))) (FP.dmul (FP.i2d x2) (FP.i2d y2))) (FP.dmul (FP.i2d x3) (FP.i2d y3)))), .second, .unset, .unset, .unset] [(.double (FP.dmul (FP.i2d x2) (FP.i2d y2))), (.double (FP.dadd (FP.dadd (FP.i2d p0) (FP.dmul (FP.i2d x0) (FP.i2d y0))) (FP.dmul (FP.i2d x1) (FP.i2d y1))))])) _
    refine XS.daddS X58.here hx rfl (hb hby at_162) rfl (nn64 hS2.1) rfl ?_
    show Steps p.tables e below (T58.setTop (mkF m 163 #[.val (.int p0), .val (.int p1), .val (.int p2), .val (.int p3), .val (.int p4), .val (.double (FP.i2d x0)), .second, .val (.double (FP.i2d x1)), .second, .val (.double (FP.i2d x2)), .second, .val (.double (FP.i2d x3)), .second, .val (.double (FP.i2d y0)), .second, .val (.double (FP.i2d y1)), .second, .val (.double (FP.i2d y2)), .second, .val (.double (FP.i2d y3)), .second, .val (.double (FP.i2d p0)), .second, .val (.ref b10), .val (.ref b28), .val (.double (FP.dadd (FP.dadd (FP.dadd (FP.dadd (FP.i2d p0) (FP.dmul (FP.i2d x0) (FP.i2d y0))) (FP.dmul (FP.i2d x1) (FP.i2d y1))) (FP.dmul (FP.i2d x2) (FP.i2d y2))) (FP.dmul (FP.i2d x3) (FP.i2d y3)))), .second, .unset, .unset, .unset] [(.double (FP.dadd (FP.dadd (FP.dadd (FP.i2d p0) (FP.dmul (FP.i2d x0) (FP.i2d y0))) (FP.dmul (FP.i2d x1) (FP.i2d y1))) (FP.dmul (FP.i2d x2) (FP.i2d y2))))])) _
    refine XS.dload X58.here hx rfl (hb hby at_163) rfl ?_
    show Steps p.tables e below (T58.setTop (mkF m 165 #[.val (.int p0), .val (.int p1), .val (.int p2), .val (.int p3), .val (.int p4), .val (.double (FP.i2d x0)), .second, .val (.double (FP.i2d x1)), .second, .val (.double (FP.i2d x2)), .second, .val (.double (FP.i2d x3)), .second, .val (.double (FP.i2d y0)), .second, .val (.double (FP.i2d y1)), .second, .val (.double (FP.i2d y2)), .second, .val (.double (FP.i2d y3)), .second, .val (.double (FP.i2d p0)), .second, .val (.ref b10), .val (.ref b28), .val (.double (FP.dadd (FP.dadd (FP.dadd (FP.dadd (FP.i2d p0) (FP.dmul (FP.i2d x0) (FP.i2d y0))) (FP.dmul (FP.i2d x1) (FP.i2d y1))) (FP.dmul (FP.i2d x2) (FP.i2d y2))) (FP.dmul (FP.i2d x3) (FP.i2d y3)))), .second, .unset, .unset, .unset] [(.double (FP.i2d x3)), (.double (FP.dadd (FP.dadd (FP.dadd (FP.i2d p0) (FP.dmul (FP.i2d x0) (FP.i2d y0))) (FP.dmul (FP.i2d x1) (FP.i2d y1))) (FP.dmul (FP.i2d x2) (FP.i2d y2))))])) _
    refine XS.dload X58.here hx rfl (hb hby at_165) rfl ?_
    show Steps p.tables e below (T58.setTop (mkF m 167 #[.val (.int p0), .val (.int p1), .val (.int p2), .val (.int p3), .val (.int p4), .val (.double (FP.i2d x0)), .second, .val (.double (FP.i2d x1)), .second, .val (.double (FP.i2d x2)), .second, .val (.double (FP.i2d x3)), .second, .val (.double (FP.i2d y0)), .second, .val (.double (FP.i2d y1)), .second, .val (.double (FP.i2d y2)), .second, .val (.double (FP.i2d y3)), .second, .val (.double (FP.i2d p0)), .second, .val (.ref b10), .val (.ref b28), .val (.double (FP.dadd (FP.dadd (FP.dadd (FP.dadd (FP.i2d p0) (FP.dmul (FP.i2d x0) (FP.i2d y0))) (FP.dmul (FP.i2d x1) (FP.i2d y1))) (FP.dmul (FP.i2d x2) (FP.i2d y2))) (FP.dmul (FP.i2d x3) (FP.i2d y3)))), .second, .unset, .unset, .unset] [(.double (FP.i2d y3)), (.double (FP.i2d x3)), (.double (FP.dadd (FP.dadd (FP.dadd (FP.i2d p0) (FP.dmul (FP.i2d x0) (FP.i2d y0))) (FP.dmul (FP.i2d x1) (FP.i2d y1))) (FP.dmul (FP.i2d x2) (FP.i2d y2))))])) _
    refine XS.dmulS X58.here hx rfl (hb hby at_167) rfl (nn64 hP3.1) rfl ?_
    show Steps p.tables e below (T58.setTop (mkF m 168 #[.val (.int p0), .val (.int p1), .val (.int p2), .val (.int p3), .val (.int p4), .val (.double (FP.i2d x0)), .second, .val (.double (FP.i2d x1)), .second, .val (.double (FP.i2d x2)), .second, .val (.double (FP.i2d x3)), .second, .val (.double (FP.i2d y0)), .second, .val (.double (FP.i2d y1)), .second, .val (.double (FP.i2d y2)), .second, .val (.double (FP.i2d y3)), .second, .val (.double (FP.i2d p0)), .second, .val (.ref b10), .val (.ref b28), .val (.double (FP.dadd (FP.dadd (FP.dadd (FP.dadd (FP.i2d p0) (FP.dmul (FP.i2d x0) (FP.i2d y0))) (FP.dmul (FP.i2d x1) (FP.i2d y1))) (FP.dmul (FP.i2d x2) (FP.i2d y2))) (FP.dmul (FP.i2d x3) (FP.i2d y3)))), .second, .unset, .unset, .unset] [(.double (FP.dmul (FP.i2d x3) (FP.i2d y3))), (.double (FP.dadd (FP.dadd (FP.dadd (FP.i2d p0) (FP.dmul (FP.i2d x0) (FP.i2d y0))) (FP.dmul (FP.i2d x1) (FP.i2d y1))) (FP.dmul (FP.i2d x2) (FP.i2d y2))))])) _
    refine XS.daddS X58.here hx rfl (hb hby at_168) rfl (nn64 hS3.1) rfl ?_
    show Steps p.tables e below (T58.setTop (mkF m 169 #[.val (.int p0), .val (.int p1), .val (.int p2), .val (.int p3), .val (.int p4), .val (.double (FP.i2d x0)), .second, .val (.double (FP.i2d x1)), .second, .val (.double (FP.i2d x2)), .second, .val (.double (FP.i2d x3)), .second, .val (.double (FP.i2d y0)), .second, .val (.double (FP.i2d y1)), .second, .val (.double (FP.i2d y2)), .second, .val (.double (FP.i2d y3)), .second, .val (.double (FP.i2d p0)), .second, .val (.ref b10), .val (.ref b28), .val (.double (FP.dadd (FP.dadd (FP.dadd (FP.dadd (FP.i2d p0) (FP.dmul (FP.i2d x0) (FP.i2d y0))) (FP.dmul (FP.i2d x1) (FP.i2d y1))) (FP.dmul (FP.i2d x2) (FP.i2d y2))) (FP.dmul (FP.i2d x3) (FP.i2d y3)))), .second, .unset, .unset, .unset] [(.double (FP.dadd (FP.dadd (FP.dadd (FP.dadd (FP.i2d p0) (FP.dmul (FP.i2d x0) (FP.i2d y0))) (FP.dmul (FP.i2d x1) (FP.i2d y1))) (FP.dmul (FP.i2d x2) (FP.i2d y2))) (FP.dmul (FP.i2d x3) (FP.i2d y3))))])) _
    refine XS.dstore X58.here hx rfl (hb hby at_169) rfl (l' := #[.val (.int p0), .val (.int p1), .val (.int p2), .val (.int p3), .val (.int p4), .val (.double (FP.i2d x0)), .second, .val (.double (FP.i2d x1)), .second, .val (.double (FP.i2d x2)), .second, .val (.double (FP.i2d x3)), .second, .val (.double (FP.i2d y0)), .second, .val (.double (FP.i2d y1)), .second, .val (.double (FP.i2d y2)), .second, .val (.double (FP.i2d y3)), .second, .val (.double (FP.i2d p0)), .second, .val (.ref b10), .val (.ref b28), .val (.double (FP.dadd (FP.dadd (FP.dadd (FP.dadd (FP.i2d p0) (FP.dmul (FP.i2d x0) (FP.i2d y0))) (FP.dmul (FP.i2d x1) (FP.i2d y1))) (FP.dmul (FP.i2d x2) (FP.i2d y2))) (FP.dmul (FP.i2d x3) (FP.i2d y3)))), .second, .val (.double (FP.dadd (FP.dadd (FP.dadd (FP.dadd (FP.i2d p0) (FP.dmul (FP.i2d x0) (FP.i2d y0))) (FP.dmul (FP.i2d x1) (FP.i2d y1))) (FP.dmul (FP.i2d x2) (FP.i2d y2))) (FP.dmul (FP.i2d x3) (FP.i2d y3)))), .second, .unset]) rfl ?_
    show Steps p.tables e below (T58.setTop (mkF m 171 #[.val (.int p0), .val (.int p1), .val (.int p2), .val (.int p3), .val (.int p4), .val (.double (FP.i2d x0)), .second, .val (.double (FP.i2d x1)), .second, .val (.double (FP.i2d x2)), .second, .val (.double (FP.i2d x3)), .second, .val (.double (FP.i2d y0)), .second, .val (.double (FP.i2d y1)), .second, .val (.double (FP.i2d y2)), .second, .val (.double (FP.i2d y3)), .second, .val (.double (FP.i2d p0)), .second, .val (.ref b10), .val (.ref b28), .val (.double (FP.dadd (FP.dadd (FP.dadd (FP.dadd (FP.i2d p0) (FP.dmul (FP.i2d x0) (FP.i2d y0))) (FP.dmul (FP.i2d x1) (FP.i2d y1))) (FP.dmul (FP.i2d x2) (FP.i2d y2))) (FP.dmul (FP.i2d x3) (FP.i2d y3)))), .second, .val (.double (FP.dadd (FP.dadd (FP.dadd (FP.dadd (FP.i2d p0) (FP.dmul (FP.i2d x0) (FP.i2d y0))) (FP.dmul (FP.i2d x1) (FP.i2d y1))) (FP.dmul (FP.i2d x2) (FP.i2d y2))) (FP.dmul (FP.i2d x3) (FP.i2d y3)))), .second, .unset] [])) _
    refine XS.aload X58.here hx rfl (hb hby at_171) rfl rfl ?_
    show Steps p.tables e below (T58.setTop (mkF m 173 #[.val (.int p0), .val (.int p1), .val (.int p2), .val (.int p3), .val (.int p4), .val (.double (FP.i2d x0)), .second, .val (.double (FP.i2d x1)), .second, .val (.double (FP.i2d x2)), .second, .val (.double (FP.i2d x3)), .second, .val (.double (FP.i2d y0)), .second, .val (.double (FP.i2d y1)), .second, .val (.double (FP.i2d y2)), .second, .val (.double (FP.i2d y3)), .second, .val (.double (FP.i2d p0)), .second, .val (.ref b10), .val (.ref b28), .val (.double (FP.dadd (FP.dadd (FP.dadd (FP.dadd (FP.i2d p0) (FP.dmul (FP.i2d x0) (FP.i2d y0))) (FP.dmul (FP.i2d x1) (FP.i2d y1))) (FP.dmul (FP.i2d x2) (FP.i2d y2))) (FP.dmul (FP.i2d x3) (FP.i2d y3)))), .second, .val (.double (FP.dadd (FP.dadd (FP.dadd (FP.dadd (FP.i2d p0) (FP.dmul (FP.i2d x0) (FP.i2d y0))) (FP.dmul (FP.i2d x1) (FP.i2d y1))) (FP.dmul (FP.i2d x2) (FP.i2d y2))) (FP.dmul (FP.i2d x3) (FP.i2d y3)))), .second, .unset] [(.ref b10)])) _
    refine XS.iconst X58.here hx rfl (hb hby at_173) ?_
    exact k
  obtain ⟨cl61, Ar61, qc61, Sz61, Nn61, Hs61, Gs61⟩ := id ((((((V26.ext E28).keep K31q (ninS (Nat.ne_of_lt (Nat.lt_of_lt_of_le V26.lt (Nat.le_of_eq g28.symm))) nin0)).keep K37q (ninS (Nat.ne_of_lt (Nat.lt_of_lt_of_le (V26.ext E28).lt SA31)) nin0)).keep K43q (ninS (Nat.ne_of_lt (Nat.lt_of_lt_of_le (V26.ext E28).lt SA31)) nin0)).keep K49q (ninS (Nat.ne_of_lt (Nat.lt_of_lt_of_le (V26.ext E28).lt SA31)) nin0)).keep K55q (ninS (Nat.ne_of_lt (Nat.lt_of_lt_of_le (V26.ext E28).lt SA31)) nin0))
  have hin61 : ¬ ((0 : Int32) < 0 ∨ cl61.slots.size ≤ ((0 : Int32)).toNatClampNeg) := inb_of Sz61 ⟨by decide, by decide⟩
  have hat61 := Hs61.at hin61 (v := (.double (FP.i2d x0))) rfl
  have a62 : ∀ t, Steps p.tables e below (T58.setTop (mkF m 184 #[.val (.int p0), .val (.int p1), .val (.int p2), .val (.int p3), .val (.int p4), .val (.double (FP.i2d x0)), .second, .val (.double (FP.i2d x1)), .second, .val (.double (FP.i2d x2)), .second, .val (.double (FP.i2d x3)), .second, .val (.double (FP.i2d y0)), .second, .val (.double (FP.i2d y1)), .second, .val (.double (FP.i2d y2)), .second, .val (.double (FP.i2d y3)), .second, .val (.double (FP.i2d p0)), .second, .val (.ref b10), .val (.ref b28), .val (.double (FP.dadd (FP.dadd (FP.dadd (FP.dadd (FP.i2d p0) (FP.dmul (FP.i2d x0) (FP.i2d y0))) (FP.dmul (FP.i2d x1) (FP.i2d y1))) (FP.dmul (FP.i2d x2) (FP.i2d y2))) (FP.dmul (FP.i2d x3) (FP.i2d y3)))), .second, .val (.double (FP.dadd (FP.dadd (FP.dadd (FP.dadd (FP.i2d p0) (FP.dmul (FP.i2d x0) (FP.i2d y0))) (FP.dmul (FP.i2d x1) (FP.i2d y1))) (FP.dmul (FP.i2d x2) (FP.i2d y2))) (FP.dmul (FP.i2d x3) (FP.i2d y3)))), .second, .unset] [(.int (1 : Int32)), (.ref b10)])) t → Steps p.tables e below (s₁.setTop (entryFrame m #[(.int p0), (.int p1), (.int p2), (.int p3), (.int p4)] maxLocals)) t := by
    intro t k
    refine a60 t ?_
    show Steps p.tables e below (T58.setTop (mkF m 174 #[.val (.int p0), .val (.int p1), .val (.int p2), .val (.int p3), .val (.int p4), .val (.double (FP.i2d x0)), .second, .val (.double (FP.i2d x1)), .second, .val (.double (FP.i2d x2)), .second, .val (.double (FP.i2d x3)), .second, .val (.double (FP.i2d y0)), .second, .val (.double (FP.i2d y1)), .second, .val (.double (FP.i2d y2)), .second, .val (.double (FP.i2d y3)), .second, .val (.double (FP.i2d p0)), .second, .val (.ref b10), .val (.ref b28), .val (.double (FP.dadd (FP.dadd (FP.dadd (FP.dadd (FP.i2d p0) (FP.dmul (FP.i2d x0) (FP.i2d y0))) (FP.dmul (FP.i2d x1) (FP.i2d y1))) (FP.dmul (FP.i2d x2) (FP.i2d y2))) (FP.dmul (FP.i2d x3) (FP.i2d y3)))), .second, .val (.double (FP.dadd (FP.dadd (FP.dadd (FP.dadd (FP.i2d p0) (FP.dmul (FP.i2d x0) (FP.i2d y0))) (FP.dmul (FP.i2d x1) (FP.i2d y1))) (FP.dmul (FP.i2d x2) (FP.i2d y2))) (FP.dmul (FP.i2d x3) (FP.i2d y3)))), .second, .unset] [(.int (0 : Int32)), (.ref b10)])) _
    refine X58.daload hx (j := (0 : Int32)) (v := (.double (FP.i2d x0))) (by rw [e58q]; exact Ar61.1) (State.isArrayOf_alike hZ.alike Ar61.2.1) Ar61.2.2 hin61 hat61 (g := (mkF m 174 #[.val (.int p0), .val (.int p1), .val (.int p2), .val (.int p3), .val (.int p4), .val (.double (FP.i2d x0)), .second, .val (.double (FP.i2d x1)), .second, .val (.double (FP.i2d x2)), .second, .val (.double (FP.i2d x3)), .second, .val (.double (FP.i2d y0)), .second, .val (.double (FP.i2d y1)), .second, .val (.double (FP.i2d y2)), .second, .val (.double (FP.i2d y3)), .second, .val (.double (FP.i2d p0)), .second, .val (.ref b10), .val (.ref b28), .val (.double (FP.dadd (FP.dadd (FP.dadd (FP.dadd (FP.i2d p0) (FP.dmul (FP.i2d x0) (FP.i2d y0))) (FP.dmul (FP.i2d x1) (FP.i2d y1))) (FP.dmul (FP.i2d x2) (FP.i2d y2))) (FP.dmul (FP.i2d x3) (FP.i2d y3)))), .second, .val (.double (FP.dadd (FP.dadd (FP.dadd (FP.dadd (FP.i2d p0) (FP.dmul (FP.i2d x0) (FP.i2d y0))) (FP.dmul (FP.i2d x1) (FP.i2d y1))) (FP.dmul (FP.i2d x2) (FP.i2d y2))) (FP.dmul (FP.i2d x3) (FP.i2d y3)))), .second, .unset] [(.int (0 : Int32)), (.ref b10)])) rfl rfl (hb hby at_174) _ ?_
    show Steps p.tables e below (T58.setTop (mkF m 175 #[.val (.int p0), .val (.int p1), .val (.int p2), .val (.int p3), .val (.int p4), .val (.double (FP.i2d x0)), .second, .val (.double (FP.i2d x1)), .second, .val (.double (FP.i2d x2)), .second, .val (.double (FP.i2d x3)), .second, .val (.double (FP.i2d y0)), .second, .val (.double (FP.i2d y1)), .second, .val (.double (FP.i2d y2)), .second, .val (.double (FP.i2d y3)), .second, .val (.double (FP.i2d p0)), .second, .val (.ref b10), .val (.ref b28), .val (.double (FP.dadd (FP.dadd (FP.dadd (FP.dadd (FP.i2d p0) (FP.dmul (FP.i2d x0) (FP.i2d y0))) (FP.dmul (FP.i2d x1) (FP.i2d y1))) (FP.dmul (FP.i2d x2) (FP.i2d y2))) (FP.dmul (FP.i2d x3) (FP.i2d y3)))), .second, .val (.double (FP.dadd (FP.dadd (FP.dadd (FP.dadd (FP.i2d p0) (FP.dmul (FP.i2d x0) (FP.i2d y0))) (FP.dmul (FP.i2d x1) (FP.i2d y1))) (FP.dmul (FP.i2d x2) (FP.i2d y2))) (FP.dmul (FP.i2d x3) (FP.i2d y3)))), .second, .unset] [(.double (FP.i2d x0))])) _
    refine XS.dload X58.here hx rfl (hb hby at_175) rfl ?_
    show Steps p.tables e below (T58.setTop (mkF m 177 #[.val (.int p0), .val (.int p1), .val (.int p2), .val (.int p3), .val (.int p4), .val (.double (FP.i2d x0)), .second, .val (.double (FP.i2d x1)), .second, .val (.double (FP.i2d x2)), .second, .val (.double (FP.i2d x3)), .second, .val (.double (FP.i2d y0)), .second, .val (.double (FP.i2d y1)), .second, .val (.double (FP.i2d y2)), .second, .val (.double (FP.i2d y3)), .second, .val (.double (FP.i2d p0)), .second, .val (.ref b10), .val (.ref b28), .val (.double (FP.dadd (FP.dadd (FP.dadd (FP.dadd (FP.i2d p0) (FP.dmul (FP.i2d x0) (FP.i2d y0))) (FP.dmul (FP.i2d x1) (FP.i2d y1))) (FP.dmul (FP.i2d x2) (FP.i2d y2))) (FP.dmul (FP.i2d x3) (FP.i2d y3)))), .second, .val (.double (FP.dadd (FP.dadd (FP.dadd (FP.dadd (FP.i2d p0) (FP.dmul (FP.i2d x0) (FP.i2d y0))) (FP.dmul (FP.i2d x1) (FP.i2d y1))) (FP.dmul (FP.i2d x2) (FP.i2d y2))) (FP.dmul (FP.i2d x3) (FP.i2d y3)))), .second, .unset] [(.double (FP.i2d x0)), (.double (FP.i2d x0))])) _
    refine XS.dcmpS X58.here hx rfl (hb hby at_177) rfl rfl ?_
    show Steps p.tables e below (T58.setTop (mkF m 178 #[.val (.int p0), .val (.int p1), .val (.int p2), .val (.int p3), .val (.int p4), .val (.double (FP.i2d x0)), .second, .val (.double (FP.i2d x1)), .second, .val (.double (FP.i2d x2)), .second, .val (.double (FP.i2d x3)), .second, .val (.double (FP.i2d y0)), .second, .val (.double (FP.i2d y1)), .second, .val (.double (FP.i2d y2)), .second, .val (.double (FP.i2d y3)), .second, .val (.double (FP.i2d p0)), .second, .val (.ref b10), .val (.ref b28), .val (.double (FP.dadd (FP.dadd (FP.dadd (FP.dadd (FP.i2d p0) (FP.dmul (FP.i2d x0) (FP.i2d y0))) (FP.dmul (FP.i2d x1) (FP.i2d y1))) (FP.dmul (FP.i2d x2) (FP.i2d y2))) (FP.dmul (FP.i2d x3) (FP.i2d y3)))), .second, .val (.double (FP.dadd (FP.dadd (FP.dadd (FP.dadd (FP.i2d p0) (FP.dmul (FP.i2d x0) (FP.i2d y0))) (FP.dmul (FP.i2d x1) (FP.i2d y1))) (FP.dmul (FP.i2d x2) (FP.i2d y2))) (FP.dmul (FP.i2d x3) (FP.i2d y3)))), .second, .unset] [(.int (cmpValue (FP.dcmp (FP.i2d x0) (FP.i2d x0)) .l))])) _
    refine XS.ifNo X58.here hx rfl (hb hby at_178) rfl ((if0 _ _).trans (teq (own_eq (dy_i2d x0).nn)).2) ?_
    show Steps p.tables e below (T58.setTop (mkF m 181 #[.val (.int p0), .val (.int p1), .val (.int p2), .val (.int p3), .val (.int p4), .val (.double (FP.i2d x0)), .second, .val (.double (FP.i2d x1)), .second, .val (.double (FP.i2d x2)), .second, .val (.double (FP.i2d x3)), .second, .val (.double (FP.i2d y0)), .second, .val (.double (FP.i2d y1)), .second, .val (.double (FP.i2d y2)), .second, .val (.double (FP.i2d y3)), .second, .val (.double (FP.i2d p0)), .second, .val (.ref b10), .val (.ref b28), .val (.double (FP.dadd (FP.dadd (FP.dadd (FP.dadd (FP.i2d p0) (FP.dmul (FP.i2d x0) (FP.i2d y0))) (FP.dmul (FP.i2d x1) (FP.i2d y1))) (FP.dmul (FP.i2d x2) (FP.i2d y2))) (FP.dmul (FP.i2d x3) (FP.i2d y3)))), .second, .val (.double (FP.dadd (FP.dadd (FP.dadd (FP.dadd (FP.i2d p0) (FP.dmul (FP.i2d x0) (FP.i2d y0))) (FP.dmul (FP.i2d x1) (FP.i2d y1))) (FP.dmul (FP.i2d x2) (FP.i2d y2))) (FP.dmul (FP.i2d x3) (FP.i2d y3)))), .second, .unset] [])) _
    refine XS.aload X58.here hx rfl (hb hby at_181) rfl rfl ?_
    show Steps p.tables e below (T58.setTop (mkF m 183 #[.val (.int p0), .val (.int p1), .val (.int p2), .val (.int p3), .val (.int p4), .val (.double (FP.i2d x0)), .second, .val (.double (FP.i2d x1)), .second, .val (.double (FP.i2d x2)), .second, .val (.double (FP.i2d x3)), .second, .val (.double (FP.i2d y0)), .second, .val (.double (FP.i2d y1)), .second, .val (.double (FP.i2d y2)), .second, .val (.double (FP.i2d y3)), .second, .val (.double (FP.i2d p0)), .second, .val (.ref b10), .val (.ref b28), .val (.double (FP.dadd (FP.dadd (FP.dadd (FP.dadd (FP.i2d p0) (FP.dmul (FP.i2d x0) (FP.i2d y0))) (FP.dmul (FP.i2d x1) (FP.i2d y1))) (FP.dmul (FP.i2d x2) (FP.i2d y2))) (FP.dmul (FP.i2d x3) (FP.i2d y3)))), .second, .val (.double (FP.dadd (FP.dadd (FP.dadd (FP.dadd (FP.i2d p0) (FP.dmul (FP.i2d x0) (FP.i2d y0))) (FP.dmul (FP.i2d x1) (FP.i2d y1))) (FP.dmul (FP.i2d x2) (FP.i2d y2))) (FP.dmul (FP.i2d x3) (FP.i2d y3)))), .second, .unset] [(.ref b10)])) _
    refine XS.iconst X58.here hx rfl (hb hby at_183) ?_
    exact k
  obtain ⟨cl63, Ar63, qc63, Sz63, Nn63, Hs63, Gs63⟩ := id ((((((V26.ext E28).keep K31q (ninS (Nat.ne_of_lt (Nat.lt_of_lt_of_le V26.lt (Nat.le_of_eq g28.symm))) nin0)).keep K37q (ninS (Nat.ne_of_lt (Nat.lt_of_lt_of_le (V26.ext E28).lt SA31)) nin0)).keep K43q (ninS (Nat.ne_of_lt (Nat.lt_of_lt_of_le (V26.ext E28).lt SA31)) nin0)).keep K49q (ninS (Nat.ne_of_lt (Nat.lt_of_lt_of_le (V26.ext E28).lt SA31)) nin0)).keep K55q (ninS (Nat.ne_of_lt (Nat.lt_of_lt_of_le (V26.ext E28).lt SA31)) nin0))
  have hin63 : ¬ ((1 : Int32) < 0 ∨ cl63.slots.size ≤ ((1 : Int32)).toNatClampNeg) := inb_of Sz63 ⟨by decide, by decide⟩
  have hat63 := Hs63.at hin63 (v := (.double (FP.i2d x1))) rfl
  have a64 : ∀ t, Steps p.tables e below (T58.setTop (mkF m 194 #[.val (.int p0), .val (.int p1), .val (.int p2), .val (.int p3), .val (.int p4), .val (.double (FP.i2d x0)), .second, .val (.double (FP.i2d x1)), .second, .val (.double (FP.i2d x2)), .second, .val (.double (FP.i2d x3)), .second, .val (.double (FP.i2d y0)), .second, .val (.double (FP.i2d y1)), .second, .val (.double (FP.i2d y2)), .second, .val (.double (FP.i2d y3)), .second, .val (.double (FP.i2d p0)), .second, .val (.ref b10), .val (.ref b28), .val (.double (FP.dadd (FP.dadd (FP.dadd (FP.dadd (FP.i2d p0) (FP.dmul (FP.i2d x0) (FP.i2d y0))) (FP.dmul (FP.i2d x1) (FP.i2d y1))) (FP.dmul (FP.i2d x2) (FP.i2d y2))) (FP.dmul (FP.i2d x3) (FP.i2d y3)))), .second, .val (.double (FP.dadd (FP.dadd (FP.dadd (FP.dadd (FP.i2d p0) (FP.dmul (FP.i2d x0) (FP.i2d y0))) (FP.dmul (FP.i2d x1) (FP.i2d y1))) (FP.dmul (FP.i2d x2) (FP.i2d y2))) (FP.dmul (FP.i2d x3) (FP.i2d y3)))), .second, .unset] [(.int (2 : Int32)), (.ref b10)])) t → Steps p.tables e below (s₁.setTop (entryFrame m #[(.int p0), (.int p1), (.int p2), (.int p3), (.int p4)] maxLocals)) t := by
    intro t k
    refine a62 t ?_
    show Steps p.tables e below (T58.setTop (mkF m 184 #[.val (.int p0), .val (.int p1), .val (.int p2), .val (.int p3), .val (.int p4), .val (.double (FP.i2d x0)), .second, .val (.double (FP.i2d x1)), .second, .val (.double (FP.i2d x2)), .second, .val (.double (FP.i2d x3)), .second, .val (.double (FP.i2d y0)), .second, .val (.double (FP.i2d y1)), .second, .val (.double (FP.i2d y2)), .second, .val (.double (FP.i2d y3)), .second, .val (.double (FP.i2d p0)), .second, .val (.ref b10), .val (.ref b28), .val (.double (FP.dadd (FP.dadd (FP.dadd (FP.dadd (FP.i2d p0) (FP.dmul (FP.i2d x0) (FP.i2d y0))) (FP.dmul (FP.i2d x1) (FP.i2d y1))) (FP.dmul (FP.i2d x2) (FP.i2d y2))) (FP.dmul (FP.i2d x3) (FP.i2d y3)))), .second, .val (.double (FP.dadd (FP.dadd (FP.dadd (FP.dadd (FP.i2d p0) (FP.dmul (FP.i2d x0) (FP.i2d y0))) (FP.dmul (FP.i2d x1) (FP.i2d y1))) (FP.dmul (FP.i2d x2) (FP.i2d y2))) (FP.dmul (FP.i2d x3) (FP.i2d y3)))), .second, .unset] [(.int (1 : Int32)), (.ref b10)])) _
    refine X58.daload hx (j := (1 : Int32)) (v := (.double (FP.i2d x1))) (by rw [e58q]; exact Ar63.1) (State.isArrayOf_alike hZ.alike Ar63.2.1) Ar63.2.2 hin63 hat63 (g := (mkF m 184 #[.val (.int p0), .val (.int p1), .val (.int p2), .val (.int p3), .val (.int p4), .val (.double (FP.i2d x0)), .second, .val (.double (FP.i2d x1)), .second, .val (.double (FP.i2d x2)), .second, .val (.double (FP.i2d x3)), .second, .val (.double (FP.i2d y0)), .second, .val (.double (FP.i2d y1)), .second, .val (.double (FP.i2d y2)), .second, .val (.double (FP.i2d y3)), .second, .val (.double (FP.i2d p0)), .second, .val (.ref b10), .val (.ref b28), .val (.double (FP.dadd (FP.dadd (FP.dadd (FP.dadd (FP.i2d p0) (FP.dmul (FP.i2d x0) (FP.i2d y0))) (FP.dmul (FP.i2d x1) (FP.i2d y1))) (FP.dmul (FP.i2d x2) (FP.i2d y2))) (FP.dmul (FP.i2d x3) (FP.i2d y3)))), .second, .val (.double (FP.dadd (FP.dadd (FP.dadd (FP.dadd (FP.i2d p0) (FP.dmul (FP.i2d x0) (FP.i2d y0))) (FP.dmul (FP.i2d x1) (FP.i2d y1))) (FP.dmul (FP.i2d x2) (FP.i2d y2))) (FP.dmul (FP.i2d x3) (FP.i2d y3)))), .second, .unset] [(.int (1 : Int32)), (.ref b10)])) rfl rfl (hb hby at_184) _ ?_
    show Steps p.tables e below (T58.setTop (mkF m 185 #[.val (.int p0), .val (.int p1), .val (.int p2), .val (.int p3), .val (.int p4), .val (.double (FP.i2d x0)), .second, .val (.double (FP.i2d x1)), .second, .val (.double (FP.i2d x2)), .second, .val (.double (FP.i2d x3)), .second, .val (.double (FP.i2d y0)), .second, .val (.double (FP.i2d y1)), .second, .val (.double (FP.i2d y2)), .second, .val (.double (FP.i2d y3)), .second, .val (.double (FP.i2d p0)), .second, .val (.ref b10), .val (.ref b28), .val (.double (FP.dadd (FP.dadd (FP.dadd (FP.dadd (FP.i2d p0) (FP.dmul (FP.i2d x0) (FP.i2d y0))) (FP.dmul (FP.i2d x1) (FP.i2d y1))) (FP.dmul (FP.i2d x2) (FP.i2d y2))) (FP.dmul (FP.i2d x3) (FP.i2d y3)))), .second, .val (.double (FP.dadd (FP.dadd (FP.dadd (FP.dadd (FP.i2d p0) (FP.dmul (FP.i2d x0) (FP.i2d y0))) (FP.dmul (FP.i2d x1) (FP.i2d y1))) (FP.dmul (FP.i2d x2) (FP.i2d y2))) (FP.dmul (FP.i2d x3) (FP.i2d y3)))), .second, .unset] [(.double (FP.i2d x1))])) _
    refine XS.dload X58.here hx rfl (hb hby at_185) rfl ?_
    show Steps p.tables e below (T58.setTop (mkF m 187 #[.val (.int p0), .val (.int p1), .val (.int p2), .val (.int p3), .val (.int p4), .val (.double (FP.i2d x0)), .second, .val (.double (FP.i2d x1)), .second, .val (.double (FP.i2d x2)), .second, .val (.double (FP.i2d x3)), .second, .val (.double (FP.i2d y0)), .second, .val (.double (FP.i2d y1)), .second, .val (.double (FP.i2d y2)), .second, .val (.double (FP.i2d y3)), .second, .val (.double (FP.i2d p0)), .second, .val (.ref b10), .val (.ref b28), .val (.double (FP.dadd (FP.dadd (FP.dadd (FP.dadd (FP.i2d p0) (FP.dmul (FP.i2d x0) (FP.i2d y0))) (FP.dmul (FP.i2d x1) (FP.i2d y1))) (FP.dmul (FP.i2d x2) (FP.i2d y2))) (FP.dmul (FP.i2d x3) (FP.i2d y3)))), .second, .val (.double (FP.dadd (FP.dadd (FP.dadd (FP.dadd (FP.i2d p0) (FP.dmul (FP.i2d x0) (FP.i2d y0))) (FP.dmul (FP.i2d x1) (FP.i2d y1))) (FP.dmul (FP.i2d x2) (FP.i2d y2))) (FP.dmul (FP.i2d x3) (FP.i2d y3)))), .second, .unset] [(.double (FP.i2d x1)), (.double (FP.i2d x1))])) _
    refine XS.dcmpS X58.here hx rfl (hb hby at_187) rfl rfl ?_
    show Steps p.tables e below (T58.setTop (mkF m 188 #[.val (.int p0), .val (.int p1), .val (.int p2), .val (.int p3), .val (.int p4), .val (.double (FP.i2d x0)), .second, .val (.double (FP.i2d x1)), .second, .val (.double (FP.i2d x2)), .second, .val (.double (FP.i2d x3)), .second, .val (.double (FP.i2d y0)), .second, .val (.double (FP.i2d y1)), .second, .val (.double (FP.i2d y2)), .second, .val (.double (FP.i2d y3)), .second, .val (.double (FP.i2d p0)), .second, .val (.ref b10), .val (.ref b28), .val (.double (FP.dadd (FP.dadd (FP.dadd (FP.dadd (FP.i2d p0) (FP.dmul (FP.i2d x0) (FP.i2d y0))) (FP.dmul (FP.i2d x1) (FP.i2d y1))) (FP.dmul (FP.i2d x2) (FP.i2d y2))) (FP.dmul (FP.i2d x3) (FP.i2d y3)))), .second, .val (.double (FP.dadd (FP.dadd (FP.dadd (FP.dadd (FP.i2d p0) (FP.dmul (FP.i2d x0) (FP.i2d y0))) (FP.dmul (FP.i2d x1) (FP.i2d y1))) (FP.dmul (FP.i2d x2) (FP.i2d y2))) (FP.dmul (FP.i2d x3) (FP.i2d y3)))), .second, .unset] [(.int (cmpValue (FP.dcmp (FP.i2d x1) (FP.i2d x1)) .l))])) _
    refine XS.ifNo X58.here hx rfl (hb hby at_188) rfl ((if0 _ _).trans (teq (own_eq (dy_i2d x1).nn)).2) ?_
    show Steps p.tables e below (T58.setTop (mkF m 191 #[.val (.int p0), .val (.int p1), .val (.int p2), .val (.int p3), .val (.int p4), .val (.double (FP.i2d x0)), .second, .val (.double (FP.i2d x1)), .second, .val (.double (FP.i2d x2)), .second, .val (.double (FP.i2d x3)), .second, .val (.double (FP.i2d y0)), .second, .val (.double (FP.i2d y1)), .second, .val (.double (FP.i2d y2)), .second, .val (.double (FP.i2d y3)), .second, .val (.double (FP.i2d p0)), .second, .val (.ref b10), .val (.ref b28), .val (.double (FP.dadd (FP.dadd (FP.dadd (FP.dadd (FP.i2d p0) (FP.dmul (FP.i2d x0) (FP.i2d y0))) (FP.dmul (FP.i2d x1) (FP.i2d y1))) (FP.dmul (FP.i2d x2) (FP.i2d y2))) (FP.dmul (FP.i2d x3) (FP.i2d y3)))), .second, .val (.double (FP.dadd (FP.dadd (FP.dadd (FP.dadd (FP.i2d p0) (FP.dmul (FP.i2d x0) (FP.i2d y0))) (FP.dmul (FP.i2d x1) (FP.i2d y1))) (FP.dmul (FP.i2d x2) (FP.i2d y2))) (FP.dmul (FP.i2d x3) (FP.i2d y3)))), .second, .unset] [])) _
    refine XS.aload X58.here hx rfl (hb hby at_191) rfl rfl ?_
    show Steps p.tables e below (T58.setTop (mkF m 193 #[.val (.int p0), .val (.int p1), .val (.int p2), .val (.int p3), .val (.int p4), .val (.double (FP.i2d x0)), .second, .val (.double (FP.i2d x1)), .second, .val (.double (FP.i2d x2)), .second, .val (.double (FP.i2d x3)), .second, .val (.double (FP.i2d y0)), .second, .val (.double (FP.i2d y1)), .second, .val (.double (FP.i2d y2)), .second, .val (.double (FP.i2d y3)), .second, .val (.double (FP.i2d p0)), .second, .val (.ref b10), .val (.ref b28), .val (.double (FP.dadd (FP.dadd (FP.dadd (FP.dadd (FP.i2d p0) (FP.dmul (FP.i2d x0) (FP.i2d y0))) (FP.dmul (FP.i2d x1) (FP.i2d y1))) (FP.dmul (FP.i2d x2) (FP.i2d y2))) (FP.dmul (FP.i2d x3) (FP.i2d y3)))), .second, .val (.double (FP.dadd (FP.dadd (FP.dadd (FP.dadd (FP.i2d p0) (FP.dmul (FP.i2d x0) (FP.i2d y0))) (FP.dmul (FP.i2d x1) (FP.i2d y1))) (FP.dmul (FP.i2d x2) (FP.i2d y2))) (FP.dmul (FP.i2d x3) (FP.i2d y3)))), .second, .unset] [(.ref b10)])) _
    refine XS.iconst X58.here hx rfl (hb hby at_193) ?_
    exact k
  obtain ⟨cl65, Ar65, qc65, Sz65, Nn65, Hs65, Gs65⟩ := id ((((((V26.ext E28).keep K31q (ninS (Nat.ne_of_lt (Nat.lt_of_lt_of_le V26.lt (Nat.le_of_eq g28.symm))) nin0)).keep K37q (ninS (Nat.ne_of_lt (Nat.lt_of_lt_of_le (V26.ext E28).lt SA31)) nin0)).keep K43q (ninS (Nat.ne_of_lt (Nat.lt_of_lt_of_le (V26.ext E28).lt SA31)) nin0)).keep K49q (ninS (Nat.ne_of_lt (Nat.lt_of_lt_of_le (V26.ext E28).lt SA31)) nin0)).keep K55q (ninS (Nat.ne_of_lt (Nat.lt_of_lt_of_le (V26.ext E28).lt SA31)) nin0))
  have hin65 : ¬ ((2 : Int32) < 0 ∨ cl65.slots.size ≤ ((2 : Int32)).toNatClampNeg) := inb_of Sz65 ⟨by decide, by decide⟩
  have hat65 := Hs65.at hin65 (v := (.double (FP.i2d x2))) rfl
  have a66 : ∀ t, Steps p.tables e below (T58.setTop (mkF m 204 #[.val (.int p0), .val (.int p1), .val (.int p2), .val (.int p3), .val (.int p4), .val (.double (FP.i2d x0)), .second, .val (.double (FP.i2d x1)), .second, .val (.double (FP.i2d x2)), .second, .val (.double (FP.i2d x3)), .second, .val (.double (FP.i2d y0)), .second, .val (.double (FP.i2d y1)), .second, .val (.double (FP.i2d y2)), .second, .val (.double (FP.i2d y3)), .second, .val (.double (FP.i2d p0)), .second, .val (.ref b10), .val (.ref b28), .val (.double (FP.dadd (FP.dadd (FP.dadd (FP.dadd (FP.i2d p0) (FP.dmul (FP.i2d x0) (FP.i2d y0))) (FP.dmul (FP.i2d x1) (FP.i2d y1))) (FP.dmul (FP.i2d x2) (FP.i2d y2))) (FP.dmul (FP.i2d x3) (FP.i2d y3)))), .second, .val (.double (FP.dadd (FP.dadd (FP.dadd (FP.dadd (FP.i2d p0) (FP.dmul (FP.i2d x0) (FP.i2d y0))) (FP.dmul (FP.i2d x1) (FP.i2d y1))) (FP.dmul (FP.i2d x2) (FP.i2d y2))) (FP.dmul (FP.i2d x3) (FP.i2d y3)))), .second, .unset] [(.int (3 : Int32)), (.ref b10)])) t → Steps p.tables e below (s₁.setTop (entryFrame m #[(.int p0), (.int p1), (.int p2), (.int p3), (.int p4)] maxLocals)) t := by
    intro t k
    refine a64 t ?_
    show Steps p.tables e below (T58.setTop (mkF m 194 #[.val (.int p0), .val (.int p1), .val (.int p2), .val (.int p3), .val (.int p4), .val (.double (FP.i2d x0)), .second, .val (.double (FP.i2d x1)), .second, .val (.double (FP.i2d x2)), .second, .val (.double (FP.i2d x3)), .second, .val (.double (FP.i2d y0)), .second, .val (.double (FP.i2d y1)), .second, .val (.double (FP.i2d y2)), .second, .val (.double (FP.i2d y3)), .second, .val (.double (FP.i2d p0)), .second, .val (.ref b10), .val (.ref b28), .val (.double (FP.dadd (FP.dadd (FP.dadd (FP.dadd (FP.i2d p0) (FP.dmul (FP.i2d x0) (FP.i2d y0))) (FP.dmul (FP.i2d x1) (FP.i2d y1))) (FP.dmul (FP.i2d x2) (FP.i2d y2))) (FP.dmul (FP.i2d x3) (FP.i2d y3)))), .second, .val (.double (FP.dadd (FP.dadd (FP.dadd (FP.dadd (FP.i2d p0) (FP.dmul (FP.i2d x0) (FP.i2d y0))) (FP.dmul (FP.i2d x1) (FP.i2d y1))) (FP.dmul (FP.i2d x2) (FP.i2d y2))) (FP.dmul (FP.i2d x3) (FP.i2d y3)))), .second, .unset] [(.int (2 : Int32)), (.ref b10)])) _
    refine X58.daload hx (j := (2 : Int32)) (v := (.double (FP.i2d x2))) (by rw [e58q]; exact Ar65.1) (State.isArrayOf_alike hZ.alike Ar65.2.1) Ar65.2.2 hin65 hat65 (g := (mkF m 194 #[.val (.int p0), .val (.int p1), .val (.int p2), .val (.int p3), .val (.int p4), .val (.double (FP.i2d x0)), .second, .val (.double (FP.i2d x1)), .second, .val (.double (FP.i2d x2)), .second, .val (.double (FP.i2d x3)), .second, .val (.double (FP.i2d y0)), .second, .val (.double (FP.i2d y1)), .second, .val (.double (FP.i2d y2)), .second, .val (.double (FP.i2d y3)), .second, .val (.double (FP.i2d p0)), .second, .val (.ref b10), .val (.ref b28), .val (.double (FP.dadd (FP.dadd (FP.dadd (FP.dadd (FP.i2d p0) (FP.dmul (FP.i2d x0) (FP.i2d y0))) (FP.dmul (FP.i2d x1) (FP.i2d y1))) (FP.dmul (FP.i2d x2) (FP.i2d y2))) (FP.dmul (FP.i2d x3) (FP.i2d y3)))), .second, .val (.double (FP.dadd (FP.dadd (FP.dadd (FP.dadd (FP.i2d p0) (FP.dmul (FP.i2d x0) (FP.i2d y0))) (FP.dmul (FP.i2d x1) (FP.i2d y1))) (FP.dmul (FP.i2d x2) (FP.i2d y2))) (FP.dmul (FP.i2d x3) (FP.i2d y3)))), .second, .unset] [(.int (2 : Int32)), (.ref b10)])) rfl rfl (hb hby at_194) _ ?_
    show Steps p.tables e below (T58.setTop (mkF m 195 #[.val (.int p0), .val (.int p1), .val (.int p2), .val (.int p3), .val (.int p4), .val (.double (FP.i2d x0)), .second, .val (.double (FP.i2d x1)), .second, .val (.double (FP.i2d x2)), .second, .val (.double (FP.i2d x3)), .second, .val (.double (FP.i2d y0)), .second, .val (.double (FP.i2d y1)), .second, .val (.double (FP.i2d y2)), .second, .val (.double (FP.i2d y3)), .second, .val (.double (FP.i2d p0)), .second, .val (.ref b10), .val (.ref b28), .val (.double (FP.dadd (FP.dadd (FP.dadd (FP.dadd (FP.i2d p0) (FP.dmul (FP.i2d x0) (FP.i2d y0))) (FP.dmul (FP.i2d x1) (FP.i2d y1))) (FP.dmul (FP.i2d x2) (FP.i2d y2))) (FP.dmul (FP.i2d x3) (FP.i2d y3)))), .second, .val (.double (FP.dadd (FP.dadd (FP.dadd (FP.dadd (FP.i2d p0) (FP.dmul (FP.i2d x0) (FP.i2d y0))) (FP.dmul (FP.i2d x1) (FP.i2d y1))) (FP.dmul (FP.i2d x2) (FP.i2d y2))) (FP.dmul (FP.i2d x3) (FP.i2d y3)))), .second, .unset] [(.double (FP.i2d x2))])) _
    refine XS.dload X58.here hx rfl (hb hby at_195) rfl ?_
    show Steps p.tables e below (T58.setTop (mkF m 197 #[.val (.int p0), .val (.int p1), .val (.int p2), .val (.int p3), .val (.int p4), .val (.double (FP.i2d x0)), .second, .val (.double (FP.i2d x1)), .second, .val (.double (FP.i2d x2)), .second, .val (.double (FP.i2d x3)), .second, .val (.double (FP.i2d y0)), .second, .val (.double (FP.i2d y1)), .second, .val (.double (FP.i2d y2)), .second, .val (.double (FP.i2d y3)), .second, .val (.double (FP.i2d p0)), .second, .val (.ref b10), .val (.ref b28), .val (.double (FP.dadd (FP.dadd (FP.dadd (FP.dadd (FP.i2d p0) (FP.dmul (FP.i2d x0) (FP.i2d y0))) (FP.dmul (FP.i2d x1) (FP.i2d y1))) (FP.dmul (FP.i2d x2) (FP.i2d y2))) (FP.dmul (FP.i2d x3) (FP.i2d y3)))), .second, .val (.double (FP.dadd (FP.dadd (FP.dadd (FP.dadd (FP.i2d p0) (FP.dmul (FP.i2d x0) (FP.i2d y0))) (FP.dmul (FP.i2d x1) (FP.i2d y1))) (FP.dmul (FP.i2d x2) (FP.i2d y2))) (FP.dmul (FP.i2d x3) (FP.i2d y3)))), .second, .unset] [(.double (FP.i2d x2)), (.double (FP.i2d x2))])) _
    refine XS.dcmpS X58.here hx rfl (hb hby at_197) rfl rfl ?_
    show Steps p.tables e below (T58.setTop (mkF m 198 #[.val (.int p0), .val (.int p1), .val (.int p2), .val (.int p3), .val (.int p4), .val (.double (FP.i2d x0)), .second, .val (.double (FP.i2d x1)), .second, .val (.double (FP.i2d x2)), .second, .val (.double (FP.i2d x3)), .second, .val (.double (FP.i2d y0)), .second, .val (.double (FP.i2d y1)), .second, .val (.double (FP.i2d y2)), .second, .val (.double (FP.i2d y3)), .second, .val (.double (FP.i2d p0)), .second, .val (.ref b10), .val (.ref b28), .val (.double (FP.dadd (FP.dadd (FP.dadd (FP.dadd (FP.i2d p0) (FP.dmul (FP.i2d x0) (FP.i2d y0))) (FP.dmul (FP.i2d x1) (FP.i2d y1))) (FP.dmul (FP.i2d x2) (FP.i2d y2))) (FP.dmul (FP.i2d x3) (FP.i2d y3)))), .second, .val (.double (FP.dadd (FP.dadd (FP.dadd (FP.dadd (FP.i2d p0) (FP.dmul (FP.i2d x0) (FP.i2d y0))) (FP.dmul (FP.i2d x1) (FP.i2d y1))) (FP.dmul (FP.i2d x2) (FP.i2d y2))) (FP.dmul (FP.i2d x3) (FP.i2d y3)))), .second, .unset] [(.int (cmpValue (FP.dcmp (FP.i2d x2) (FP.i2d x2)) .l))])) _
    refine XS.ifNo X58.here hx rfl (hb hby at_198) rfl ((if0 _ _).trans (teq (own_eq (dy_i2d x2).nn)).2) ?_
    show Steps p.tables e below (T58.setTop (mkF m 201 #[.val (.int p0), .val (.int p1), .val (.int p2), .val (.int p3), .val (.int p4), .val (.double (FP.i2d x0)), .second, .val (.double (FP.i2d x1)), .second, .val (.double (FP.i2d x2)), .second, .val (.double (FP.i2d x3)), .second, .val (.double (FP.i2d y0)), .second, .val (.double (FP.i2d y1)), .second, .val (.double (FP.i2d y2)), .second, .val (.double (FP.i2d y3)), .second, .val (.double (FP.i2d p0)), .second, .val (.ref b10), .val (.ref b28), .val (.double (FP.dadd (FP.dadd (FP.dadd (FP.dadd (FP.i2d p0) (FP.dmul (FP.i2d x0) (FP.i2d y0))) (FP.dmul (FP.i2d x1) (FP.i2d y1))) (FP.dmul (FP.i2d x2) (FP.i2d y2))) (FP.dmul (FP.i2d x3) (FP.i2d y3)))), .second, .val (.double (FP.dadd (FP.dadd (FP.dadd (FP.dadd (FP.i2d p0) (FP.dmul (FP.i2d x0) (FP.i2d y0))) (FP.dmul (FP.i2d x1) (FP.i2d y1))) (FP.dmul (FP.i2d x2) (FP.i2d y2))) (FP.dmul (FP.i2d x3) (FP.i2d y3)))), .second, .unset] [])) _
    refine XS.aload X58.here hx rfl (hb hby at_201) rfl rfl ?_
    show Steps p.tables e below (T58.setTop (mkF m 203 #[.val (.int p0), .val (.int p1), .val (.int p2), .val (.int p3), .val (.int p4), .val (.double (FP.i2d x0)), .second, .val (.double (FP.i2d x1)), .second, .val (.double (FP.i2d x2)), .second, .val (.double (FP.i2d x3)), .second, .val (.double (FP.i2d y0)), .second, .val (.double (FP.i2d y1)), .second, .val (.double (FP.i2d y2)), .second, .val (.double (FP.i2d y3)), .second, .val (.double (FP.i2d p0)), .second, .val (.ref b10), .val (.ref b28), .val (.double (FP.dadd (FP.dadd (FP.dadd (FP.dadd (FP.i2d p0) (FP.dmul (FP.i2d x0) (FP.i2d y0))) (FP.dmul (FP.i2d x1) (FP.i2d y1))) (FP.dmul (FP.i2d x2) (FP.i2d y2))) (FP.dmul (FP.i2d x3) (FP.i2d y3)))), .second, .val (.double (FP.dadd (FP.dadd (FP.dadd (FP.dadd (FP.i2d p0) (FP.dmul (FP.i2d x0) (FP.i2d y0))) (FP.dmul (FP.i2d x1) (FP.i2d y1))) (FP.dmul (FP.i2d x2) (FP.i2d y2))) (FP.dmul (FP.i2d x3) (FP.i2d y3)))), .second, .unset] [(.ref b10)])) _
    refine XS.iconst X58.here hx rfl (hb hby at_203) ?_
    exact k
  obtain ⟨cl67, Ar67, qc67, Sz67, Nn67, Hs67, Gs67⟩ := id ((((((V26.ext E28).keep K31q (ninS (Nat.ne_of_lt (Nat.lt_of_lt_of_le V26.lt (Nat.le_of_eq g28.symm))) nin0)).keep K37q (ninS (Nat.ne_of_lt (Nat.lt_of_lt_of_le (V26.ext E28).lt SA31)) nin0)).keep K43q (ninS (Nat.ne_of_lt (Nat.lt_of_lt_of_le (V26.ext E28).lt SA31)) nin0)).keep K49q (ninS (Nat.ne_of_lt (Nat.lt_of_lt_of_le (V26.ext E28).lt SA31)) nin0)).keep K55q (ninS (Nat.ne_of_lt (Nat.lt_of_lt_of_le (V26.ext E28).lt SA31)) nin0))
  have hin67 : ¬ ((3 : Int32) < 0 ∨ cl67.slots.size ≤ ((3 : Int32)).toNatClampNeg) := inb_of Sz67 ⟨by decide, by decide⟩
  have hat67 := Hs67.at hin67 (v := (.double (FP.i2d x3))) rfl
  have a68 : ∀ t, Steps p.tables e below (T58.setTop (mkF m 236 #[.val (.int p0), .val (.int p1), .val (.int p2), .val (.int p3), .val (.int p4), .val (.double (FP.i2d x0)), .second, .val (.double (FP.i2d x1)), .second, .val (.double (FP.i2d x2)), .second, .val (.double (FP.i2d x3)), .second, .val (.double (FP.i2d y0)), .second, .val (.double (FP.i2d y1)), .second, .val (.double (FP.i2d y2)), .second, .val (.double (FP.i2d y3)), .second, .val (.double (FP.i2d p0)), .second, .val (.ref b10), .val (.ref b28), .val (.double (FP.dadd (FP.dadd (FP.dadd (FP.dadd (FP.i2d p0) (FP.dmul (FP.i2d x0) (FP.i2d y0))) (FP.dmul (FP.i2d x1) (FP.i2d y1))) (FP.dmul (FP.i2d x2) (FP.i2d y2))) (FP.dmul (FP.i2d x3) (FP.i2d y3)))), .second, .val (.double (FP.dadd (FP.dadd (FP.dadd (FP.dadd (FP.i2d p0) (FP.dmul (FP.i2d x0) (FP.i2d y0))) (FP.dmul (FP.i2d x1) (FP.i2d y1))) (FP.dmul (FP.i2d x2) (FP.i2d y2))) (FP.dmul (FP.i2d x3) (FP.i2d y3)))), .second, .val (.int (1 : Int32))] [(.int (1 : Int32))])) t → Steps p.tables e below (s₁.setTop (entryFrame m #[(.int p0), (.int p1), (.int p2), (.int p3), (.int p4)] maxLocals)) t := by
    intro t k
    refine a66 t ?_
    show Steps p.tables e below (T58.setTop (mkF m 204 #[.val (.int p0), .val (.int p1), .val (.int p2), .val (.int p3), .val (.int p4), .val (.double (FP.i2d x0)), .second, .val (.double (FP.i2d x1)), .second, .val (.double (FP.i2d x2)), .second, .val (.double (FP.i2d x3)), .second, .val (.double (FP.i2d y0)), .second, .val (.double (FP.i2d y1)), .second, .val (.double (FP.i2d y2)), .second, .val (.double (FP.i2d y3)), .second, .val (.double (FP.i2d p0)), .second, .val (.ref b10), .val (.ref b28), .val (.double (FP.dadd (FP.dadd (FP.dadd (FP.dadd (FP.i2d p0) (FP.dmul (FP.i2d x0) (FP.i2d y0))) (FP.dmul (FP.i2d x1) (FP.i2d y1))) (FP.dmul (FP.i2d x2) (FP.i2d y2))) (FP.dmul (FP.i2d x3) (FP.i2d y3)))), .second, .val (.double (FP.dadd (FP.dadd (FP.dadd (FP.dadd (FP.i2d p0) (FP.dmul (FP.i2d x0) (FP.i2d y0))) (FP.dmul (FP.i2d x1) (FP.i2d y1))) (FP.dmul (FP.i2d x2) (FP.i2d y2))) (FP.dmul (FP.i2d x3) (FP.i2d y3)))), .second, .unset] [(.int (3 : Int32)), (.ref b10)])) _
    refine X58.daload hx (j := (3 : Int32)) (v := (.double (FP.i2d x3))) (by rw [e58q]; exact Ar67.1) (State.isArrayOf_alike hZ.alike Ar67.2.1) Ar67.2.2 hin67 hat67 (g := (mkF m 204 #[.val (.int p0), .val (.int p1), .val (.int p2), .val (.int p3), .val (.int p4), .val (.double (FP.i2d x0)), .second, .val (.double (FP.i2d x1)), .second, .val (.double (FP.i2d x2)), .second, .val (.double (FP.i2d x3)), .second, .val (.double (FP.i2d y0)), .second, .val (.double (FP.i2d y1)), .second, .val (.double (FP.i2d y2)), .second, .val (.double (FP.i2d y3)), .second, .val (.double (FP.i2d p0)), .second, .val (.ref b10), .val (.ref b28), .val (.double (FP.dadd (FP.dadd (FP.dadd (FP.dadd (FP.i2d p0) (FP.dmul (FP.i2d x0) (FP.i2d y0))) (FP.dmul (FP.i2d x1) (FP.i2d y1))) (FP.dmul (FP.i2d x2) (FP.i2d y2))) (FP.dmul (FP.i2d x3) (FP.i2d y3)))), .second, .val (.double (FP.dadd (FP.dadd (FP.dadd (FP.dadd (FP.i2d p0) (FP.dmul (FP.i2d x0) (FP.i2d y0))) (FP.dmul (FP.i2d x1) (FP.i2d y1))) (FP.dmul (FP.i2d x2) (FP.i2d y2))) (FP.dmul (FP.i2d x3) (FP.i2d y3)))), .second, .unset] [(.int (3 : Int32)), (.ref b10)])) rfl rfl (hb hby at_204) _ ?_
    show Steps p.tables e below (T58.setTop (mkF m 205 #[.val (.int p0), .val (.int p1), .val (.int p2), .val (.int p3), .val (.int p4), .val (.double (FP.i2d x0)), .second, .val (.double (FP.i2d x1)), .second, .val (.double (FP.i2d x2)), .second, .val (.double (FP.i2d x3)), .second, .val (.double (FP.i2d y0)), .second, .val (.double (FP.i2d y1)), .second, .val (.double (FP.i2d y2)), .second, .val (.double (FP.i2d y3)), .second, .val (.double (FP.i2d p0)), .second, .val (.ref b10), .val (.ref b28), .val (.double (FP.dadd (FP.dadd (FP.dadd (FP.dadd (FP.i2d p0) (FP.dmul (FP.i2d x0) (FP.i2d y0))) (FP.dmul (FP.i2d x1) (FP.i2d y1))) (FP.dmul (FP.i2d x2) (FP.i2d y2))) (FP.dmul (FP.i2d x3) (FP.i2d y3)))), .second, .val (.double (FP.dadd (FP.dadd (FP.dadd (FP.dadd (FP.i2d p0) (FP.dmul (FP.i2d x0) (FP.i2d y0))) (FP.dmul (FP.i2d x1) (FP.i2d y1))) (FP.dmul (FP.i2d x2) (FP.i2d y2))) (FP.dmul (FP.i2d x3) (FP.i2d y3)))), .second, .unset] [(.double (FP.i2d x3))])) _
    refine XS.dload X58.here hx rfl (hb hby at_205) rfl ?_
    show Steps p.tables e below (T58.setTop (mkF m 207 #[.val (.int p0), .val (.int p1), .val (.int p2), .val (.int p3), .val (.int p4), .val (.double (FP.i2d x0)), .second, .val (.double (FP.i2d x1)), .second, .val (.double (FP.i2d x2)), .second, .val (.double (FP.i2d x3)), .second, .val (.double (FP.i2d y0)), .second, .val (.double (FP.i2d y1)), .second, .val (.double (FP.i2d y2)), .second, .val (.double (FP.i2d y3)), .second, .val (.double (FP.i2d p0)), .second, .val (.ref b10), .val (.ref b28), .val (.double (FP.dadd (FP.dadd (FP.dadd (FP.dadd (FP.i2d p0) (FP.dmul (FP.i2d x0) (FP.i2d y0))) (FP.dmul (FP.i2d x1) (FP.i2d y1))) (FP.dmul (FP.i2d x2) (FP.i2d y2))) (FP.dmul (FP.i2d x3) (FP.i2d y3)))), .second, .val (.double (FP.dadd (FP.dadd (FP.dadd (FP.dadd (FP.i2d p0) (FP.dmul (FP.i2d x0) (FP.i2d y0))) (FP.dmul (FP.i2d x1) (FP.i2d y1))) (FP.dmul (FP.i2d x2) (FP.i2d y2))) (FP.dmul (FP.i2d x3) (FP.i2d y3)))), .second, .unset] [(.double (FP.i2d x3)), (.double (FP.i2d x3))])) _
    refine XS.dcmpS X58.here hx rfl (hb hby at_207) rfl rfl ?_
    show Steps p.tables e below (T58.setTop (mkF m 208 #[.val (.int p0), .val (.int p1), .val (.int p2), .val (.int p3), .val (.int p4), .val (.double (FP.i2d x0)), .second, .val (.double (FP.i2d x1)), .second, .val (.double (FP.i2d x2)), .second, .val (.double (FP.i2d x3)), .second, .val (.double (FP.i2d y0)), .second, .val (.double (FP.i2d y1)), .second, .val (.double (FP.i2d y2)), .second, .val (.double (FP.i2d y3)), .second, .val (.double (FP.i2d p0)), .second, .val (.ref b10), .val (.ref b28), .val (.double (FP.dadd (FP.dadd (FP.dadd (FP.dadd (FP.i2d p0) (FP.dmul (FP.i2d x0) (FP.i2d y0))) (FP.dmul (FP.i2d x1) (FP.i2d y1))) (FP.dmul (FP.i2d x2) (FP.i2d y2))) (FP.dmul (FP.i2d x3) (FP.i2d y3)))), .second, .val (.double (FP.dadd (FP.dadd (FP.dadd (FP.dadd (FP.i2d p0) (FP.dmul (FP.i2d x0) (FP.i2d y0))) (FP.dmul (FP.i2d x1) (FP.i2d y1))) (FP.dmul (FP.i2d x2) (FP.i2d y2))) (FP.dmul (FP.i2d x3) (FP.i2d y3)))), .second, .unset] [(.int (cmpValue (FP.dcmp (FP.i2d x3) (FP.i2d x3)) .l))])) _
    refine XS.ifNo X58.here hx rfl (hb hby at_208) rfl ((if0 _ _).trans (teq (own_eq (dy_i2d x3).nn)).2) ?_
    show Steps p.tables e below (T58.setTop (mkF m 211 #[.val (.int p0), .val (.int p1), .val (.int p2), .val (.int p3), .val (.int p4), .val (.double (FP.i2d x0)), .second, .val (.double (FP.i2d x1)), .second, .val (.double (FP.i2d x2)), .second, .val (.double (FP.i2d x3)), .second, .val (.double (FP.i2d y0)), .second, .val (.double (FP.i2d y1)), .second, .val (.double (FP.i2d y2)), .second, .val (.double (FP.i2d y3)), .second, .val (.double (FP.i2d p0)), .second, .val (.ref b10), .val (.ref b28), .val (.double (FP.dadd (FP.dadd (FP.dadd (FP.dadd (FP.i2d p0) (FP.dmul (FP.i2d x0) (FP.i2d y0))) (FP.dmul (FP.i2d x1) (FP.i2d y1))) (FP.dmul (FP.i2d x2) (FP.i2d y2))) (FP.dmul (FP.i2d x3) (FP.i2d y3)))), .second, .val (.double (FP.dadd (FP.dadd (FP.dadd (FP.dadd (FP.i2d p0) (FP.dmul (FP.i2d x0) (FP.i2d y0))) (FP.dmul (FP.i2d x1) (FP.i2d y1))) (FP.dmul (FP.i2d x2) (FP.i2d y2))) (FP.dmul (FP.i2d x3) (FP.i2d y3)))), .second, .unset] [])) _
    refine XS.iconst X58.here hx rfl (hb hby at_211) ?_
    show Steps p.tables e below (T58.setTop (mkF m 212 #[.val (.int p0), .val (.int p1), .val (.int p2), .val (.int p3), .val (.int p4), .val (.double (FP.i2d x0)), .second, .val (.double (FP.i2d x1)), .second, .val (.double (FP.i2d x2)), .second, .val (.double (FP.i2d x3)), .second, .val (.double (FP.i2d y0)), .second, .val (.double (FP.i2d y1)), .second, .val (.double (FP.i2d y2)), .second, .val (.double (FP.i2d y3)), .second, .val (.double (FP.i2d p0)), .second, .val (.ref b10), .val (.ref b28), .val (.double (FP.dadd (FP.dadd (FP.dadd (FP.dadd (FP.i2d p0) (FP.dmul (FP.i2d x0) (FP.i2d y0))) (FP.dmul (FP.i2d x1) (FP.i2d y1))) (FP.dmul (FP.i2d x2) (FP.i2d y2))) (FP.dmul (FP.i2d x3) (FP.i2d y3)))), .second, .val (.double (FP.dadd (FP.dadd (FP.dadd (FP.dadd (FP.i2d p0) (FP.dmul (FP.i2d x0) (FP.i2d y0))) (FP.dmul (FP.i2d x1) (FP.i2d y1))) (FP.dmul (FP.i2d x2) (FP.i2d y2))) (FP.dmul (FP.i2d x3) (FP.i2d y3)))), .second, .unset] [(.int (1 : Int32))])) _
    refine XS.goto X58.here hx rfl (pc0 := 212) (pc' := 216) rfl (hb hby at_212) (by decide) (by decide) ?_
    show Steps p.tables e below (T58.setTop (mkF m 216 #[.val (.int p0), .val (.int p1), .val (.int p2), .val (.int p3), .val (.int p4), .val (.double (FP.i2d x0)), .second, .val (.double (FP.i2d x1)), .second, .val (.double (FP.i2d x2)), .second, .val (.double (FP.i2d x3)), .second, .val (.double (FP.i2d y0)), .second, .val (.double (FP.i2d y1)), .second, .val (.double (FP.i2d y2)), .second, .val (.double (FP.i2d y3)), .second, .val (.double (FP.i2d p0)), .second, .val (.ref b10), .val (.ref b28), .val (.double (FP.dadd (FP.dadd (FP.dadd (FP.dadd (FP.i2d p0) (FP.dmul (FP.i2d x0) (FP.i2d y0))) (FP.dmul (FP.i2d x1) (FP.i2d y1))) (FP.dmul (FP.i2d x2) (FP.i2d y2))) (FP.dmul (FP.i2d x3) (FP.i2d y3)))), .second, .val (.double (FP.dadd (FP.dadd (FP.dadd (FP.dadd (FP.i2d p0) (FP.dmul (FP.i2d x0) (FP.i2d y0))) (FP.dmul (FP.i2d x1) (FP.i2d y1))) (FP.dmul (FP.i2d x2) (FP.i2d y2))) (FP.dmul (FP.i2d x3) (FP.i2d y3)))), .second, .unset] [(.int (1 : Int32))])) _
    refine XS.istore X58.here hx rfl (hb hby at_216) rfl (l' := #[.val (.int p0), .val (.int p1), .val (.int p2), .val (.int p3), .val (.int p4), .val (.double (FP.i2d x0)), .second, .val (.double (FP.i2d x1)), .second, .val (.double (FP.i2d x2)), .second, .val (.double (FP.i2d x3)), .second, .val (.double (FP.i2d y0)), .second, .val (.double (FP.i2d y1)), .second, .val (.double (FP.i2d y2)), .second, .val (.double (FP.i2d y3)), .second, .val (.double (FP.i2d p0)), .second, .val (.ref b10), .val (.ref b28), .val (.double (FP.dadd (FP.dadd (FP.dadd (FP.dadd (FP.i2d p0) (FP.dmul (FP.i2d x0) (FP.i2d y0))) (FP.dmul (FP.i2d x1) (FP.i2d y1))) (FP.dmul (FP.i2d x2) (FP.i2d y2))) (FP.dmul (FP.i2d x3) (FP.i2d y3)))), .second, .val (.double (FP.dadd (FP.dadd (FP.dadd (FP.dadd (FP.i2d p0) (FP.dmul (FP.i2d x0) (FP.i2d y0))) (FP.dmul (FP.i2d x1) (FP.i2d y1))) (FP.dmul (FP.i2d x2) (FP.i2d y2))) (FP.dmul (FP.i2d x3) (FP.i2d y3)))), .second, .val (.int (1 : Int32))]) rfl ?_
    show Steps p.tables e below (T58.setTop (mkF m 218 #[.val (.int p0), .val (.int p1), .val (.int p2), .val (.int p3), .val (.int p4), .val (.double (FP.i2d x0)), .second, .val (.double (FP.i2d x1)), .second, .val (.double (FP.i2d x2)), .second, .val (.double (FP.i2d x3)), .second, .val (.double (FP.i2d y0)), .second, .val (.double (FP.i2d y1)), .second, .val (.double (FP.i2d y2)), .second, .val (.double (FP.i2d y3)), .second, .val (.double (FP.i2d p0)), .second, .val (.ref b10), .val (.ref b28), .val (.double (FP.dadd (FP.dadd (FP.dadd (FP.dadd (FP.i2d p0) (FP.dmul (FP.i2d x0) (FP.i2d y0))) (FP.dmul (FP.i2d x1) (FP.i2d y1))) (FP.dmul (FP.i2d x2) (FP.i2d y2))) (FP.dmul (FP.i2d x3) (FP.i2d y3)))), .second, .val (.double (FP.dadd (FP.dadd (FP.dadd (FP.dadd (FP.i2d p0) (FP.dmul (FP.i2d x0) (FP.i2d y0))) (FP.dmul (FP.i2d x1) (FP.i2d y1))) (FP.dmul (FP.i2d x2) (FP.i2d y2))) (FP.dmul (FP.i2d x3) (FP.i2d y3)))), .second, .val (.int (1 : Int32))] [])) _
    refine XS.dload X58.here hx rfl (hb hby at_218) rfl ?_
    show Steps p.tables e below (T58.setTop (mkF m 220 #[.val (.int p0), .val (.int p1), .val (.int p2), .val (.int p3), .val (.int p4), .val (.double (FP.i2d x0)), .second, .val (.double (FP.i2d x1)), .second, .val (.double (FP.i2d x2)), .second, .val (.double (FP.i2d x3)), .second, .val (.double (FP.i2d y0)), .second, .val (.double (FP.i2d y1)), .second, .val (.double (FP.i2d y2)), .second, .val (.double (FP.i2d y3)), .second, .val (.double (FP.i2d p0)), .second, .val (.ref b10), .val (.ref b28), .val (.double (FP.dadd (FP.dadd (FP.dadd (FP.dadd (FP.i2d p0) (FP.dmul (FP.i2d x0) (FP.i2d y0))) (FP.dmul (FP.i2d x1) (FP.i2d y1))) (FP.dmul (FP.i2d x2) (FP.i2d y2))) (FP.dmul (FP.i2d x3) (FP.i2d y3)))), .second, .val (.double (FP.dadd (FP.dadd (FP.dadd (FP.dadd (FP.i2d p0) (FP.dmul (FP.i2d x0) (FP.i2d y0))) (FP.dmul (FP.i2d x1) (FP.i2d y1))) (FP.dmul (FP.i2d x2) (FP.i2d y2))) (FP.dmul (FP.i2d x3) (FP.i2d y3)))), .second, .val (.int (1 : Int32))] [(.double (FP.dadd (FP.dadd (FP.dadd (FP.dadd (FP.i2d p0) (FP.dmul (FP.i2d x0) (FP.i2d y0))) (FP.dmul (FP.i2d x1) (FP.i2d y1))) (FP.dmul (FP.i2d x2) (FP.i2d y2))) (FP.dmul (FP.i2d x3) (FP.i2d y3))))])) _
    refine XS.dload X58.here hx rfl (hb hby at_220) rfl ?_
    show Steps p.tables e below (T58.setTop (mkF m 222 #[.val (.int p0), .val (.int p1), .val (.int p2), .val (.int p3), .val (.int p4), .val (.double (FP.i2d x0)), .second, .val (.double (FP.i2d x1)), .second, .val (.double (FP.i2d x2)), .second, .val (.double (FP.i2d x3)), .second, .val (.double (FP.i2d y0)), .second, .val (.double (FP.i2d y1)), .second, .val (.double (FP.i2d y2)), .second, .val (.double (FP.i2d y3)), .second, .val (.double (FP.i2d p0)), .second, .val (.ref b10), .val (.ref b28), .val (.double (FP.dadd (FP.dadd (FP.dadd (FP.dadd (FP.i2d p0) (FP.dmul (FP.i2d x0) (FP.i2d y0))) (FP.dmul (FP.i2d x1) (FP.i2d y1))) (FP.dmul (FP.i2d x2) (FP.i2d y2))) (FP.dmul (FP.i2d x3) (FP.i2d y3)))), .second, .val (.double (FP.dadd (FP.dadd (FP.dadd (FP.dadd (FP.i2d p0) (FP.dmul (FP.i2d x0) (FP.i2d y0))) (FP.dmul (FP.i2d x1) (FP.i2d y1))) (FP.dmul (FP.i2d x2) (FP.i2d y2))) (FP.dmul (FP.i2d x3) (FP.i2d y3)))), .second, .val (.int (1 : Int32))] [(.double (FP.dadd (FP.dadd (FP.dadd (FP.dadd (FP.i2d p0) (FP.dmul (FP.i2d x0) (FP.i2d y0))) (FP.dmul (FP.i2d x1) (FP.i2d y1))) (FP.dmul (FP.i2d x2) (FP.i2d y2))) (FP.dmul (FP.i2d x3) (FP.i2d y3)))), (.double (FP.dadd (FP.dadd (FP.dadd (FP.dadd (FP.i2d p0) (FP.dmul (FP.i2d x0) (FP.i2d y0))) (FP.dmul (FP.i2d x1) (FP.i2d y1))) (FP.dmul (FP.i2d x2) (FP.i2d y2))) (FP.dmul (FP.i2d x3) (FP.i2d y3))))])) _
    refine XS.dcmpS X58.here hx rfl (hb hby at_222) rfl rfl ?_
    show Steps p.tables e below (T58.setTop (mkF m 223 #[.val (.int p0), .val (.int p1), .val (.int p2), .val (.int p3), .val (.int p4), .val (.double (FP.i2d x0)), .second, .val (.double (FP.i2d x1)), .second, .val (.double (FP.i2d x2)), .second, .val (.double (FP.i2d x3)), .second, .val (.double (FP.i2d y0)), .second, .val (.double (FP.i2d y1)), .second, .val (.double (FP.i2d y2)), .second, .val (.double (FP.i2d y3)), .second, .val (.double (FP.i2d p0)), .second, .val (.ref b10), .val (.ref b28), .val (.double (FP.dadd (FP.dadd (FP.dadd (FP.dadd (FP.i2d p0) (FP.dmul (FP.i2d x0) (FP.i2d y0))) (FP.dmul (FP.i2d x1) (FP.i2d y1))) (FP.dmul (FP.i2d x2) (FP.i2d y2))) (FP.dmul (FP.i2d x3) (FP.i2d y3)))), .second, .val (.double (FP.dadd (FP.dadd (FP.dadd (FP.dadd (FP.i2d p0) (FP.dmul (FP.i2d x0) (FP.i2d y0))) (FP.dmul (FP.i2d x1) (FP.i2d y1))) (FP.dmul (FP.i2d x2) (FP.i2d y2))) (FP.dmul (FP.i2d x3) (FP.i2d y3)))), .second, .val (.int (1 : Int32))] [(.int (cmpValue (FP.dcmp (FP.dadd (FP.dadd (FP.dadd (FP.dadd (FP.i2d p0) (FP.dmul (FP.i2d x0) (FP.i2d y0))) (FP.dmul (FP.i2d x1) (FP.i2d y1))) (FP.dmul (FP.i2d x2) (FP.i2d y2))) (FP.dmul (FP.i2d x3) (FP.i2d y3))) (FP.dadd (FP.dadd (FP.dadd (FP.dadd (FP.i2d p0) (FP.dmul (FP.i2d x0) (FP.i2d y0))) (FP.dmul (FP.i2d x1) (FP.i2d y1))) (FP.dmul (FP.i2d x2) (FP.i2d y2))) (FP.dmul (FP.i2d x3) (FP.i2d y3)))) .l))])) _
    refine XS.ifNo X58.here hx rfl (hb hby at_223) rfl ((if0 _ _).trans (teq (own_eq hS3.nn)).2) ?_
    show Steps p.tables e below (T58.setTop (mkF m 226 #[.val (.int p0), .val (.int p1), .val (.int p2), .val (.int p3), .val (.int p4), .val (.double (FP.i2d x0)), .second, .val (.double (FP.i2d x1)), .second, .val (.double (FP.i2d x2)), .second, .val (.double (FP.i2d x3)), .second, .val (.double (FP.i2d y0)), .second, .val (.double (FP.i2d y1)), .second, .val (.double (FP.i2d y2)), .second, .val (.double (FP.i2d y3)), .second, .val (.double (FP.i2d p0)), .second, .val (.ref b10), .val (.ref b28), .val (.double (FP.dadd (FP.dadd (FP.dadd (FP.dadd (FP.i2d p0) (FP.dmul (FP.i2d x0) (FP.i2d y0))) (FP.dmul (FP.i2d x1) (FP.i2d y1))) (FP.dmul (FP.i2d x2) (FP.i2d y2))) (FP.dmul (FP.i2d x3) (FP.i2d y3)))), .second, .val (.double (FP.dadd (FP.dadd (FP.dadd (FP.dadd (FP.i2d p0) (FP.dmul (FP.i2d x0) (FP.i2d y0))) (FP.dmul (FP.i2d x1) (FP.i2d y1))) (FP.dmul (FP.i2d x2) (FP.i2d y2))) (FP.dmul (FP.i2d x3) (FP.i2d y3)))), .second, .val (.int (1 : Int32))] [])) _
    refine XS.iload X58.here hx rfl (hb hby at_226) rfl ?_
    show Steps p.tables e below (T58.setTop (mkF m 228 #[.val (.int p0), .val (.int p1), .val (.int p2), .val (.int p3), .val (.int p4), .val (.double (FP.i2d x0)), .second, .val (.double (FP.i2d x1)), .second, .val (.double (FP.i2d x2)), .second, .val (.double (FP.i2d x3)), .second, .val (.double (FP.i2d y0)), .second, .val (.double (FP.i2d y1)), .second, .val (.double (FP.i2d y2)), .second, .val (.double (FP.i2d y3)), .second, .val (.double (FP.i2d p0)), .second, .val (.ref b10), .val (.ref b28), .val (.double (FP.dadd (FP.dadd (FP.dadd (FP.dadd (FP.i2d p0) (FP.dmul (FP.i2d x0) (FP.i2d y0))) (FP.dmul (FP.i2d x1) (FP.i2d y1))) (FP.dmul (FP.i2d x2) (FP.i2d y2))) (FP.dmul (FP.i2d x3) (FP.i2d y3)))), .second, .val (.double (FP.dadd (FP.dadd (FP.dadd (FP.dadd (FP.i2d p0) (FP.dmul (FP.i2d x0) (FP.i2d y0))) (FP.dmul (FP.i2d x1) (FP.i2d y1))) (FP.dmul (FP.i2d x2) (FP.i2d y2))) (FP.dmul (FP.i2d x3) (FP.i2d y3)))), .second, .val (.int (1 : Int32))] [(.int (1 : Int32))])) _
    refine XS.ifNo X58.here hx rfl (hb hby at_228) rfl ((if0 _ _).trans (feq (by decide)).1) ?_
    show Steps p.tables e below (T58.setTop (mkF m 231 #[.val (.int p0), .val (.int p1), .val (.int p2), .val (.int p3), .val (.int p4), .val (.double (FP.i2d x0)), .second, .val (.double (FP.i2d x1)), .second, .val (.double (FP.i2d x2)), .second, .val (.double (FP.i2d x3)), .second, .val (.double (FP.i2d y0)), .second, .val (.double (FP.i2d y1)), .second, .val (.double (FP.i2d y2)), .second, .val (.double (FP.i2d y3)), .second, .val (.double (FP.i2d p0)), .second, .val (.ref b10), .val (.ref b28), .val (.double (FP.dadd (FP.dadd (FP.dadd (FP.dadd (FP.i2d p0) (FP.dmul (FP.i2d x0) (FP.i2d y0))) (FP.dmul (FP.i2d x1) (FP.i2d y1))) (FP.dmul (FP.i2d x2) (FP.i2d y2))) (FP.dmul (FP.i2d x3) (FP.i2d y3)))), .second, .val (.double (FP.dadd (FP.dadd (FP.dadd (FP.dadd (FP.i2d p0) (FP.dmul (FP.i2d x0) (FP.i2d y0))) (FP.dmul (FP.i2d x1) (FP.i2d y1))) (FP.dmul (FP.i2d x2) (FP.i2d y2))) (FP.dmul (FP.i2d x3) (FP.i2d y3)))), .second, .val (.int (1 : Int32))] [])) _
    refine XS.iconst X58.here hx rfl (hb hby at_231) ?_
    show Steps p.tables e below (T58.setTop (mkF m 232 #[.val (.int p0), .val (.int p1), .val (.int p2), .val (.int p3), .val (.int p4), .val (.double (FP.i2d x0)), .second, .val (.double (FP.i2d x1)), .second, .val (.double (FP.i2d x2)), .second, .val (.double (FP.i2d x3)), .second, .val (.double (FP.i2d y0)), .second, .val (.double (FP.i2d y1)), .second, .val (.double (FP.i2d y2)), .second, .val (.double (FP.i2d y3)), .second, .val (.double (FP.i2d p0)), .second, .val (.ref b10), .val (.ref b28), .val (.double (FP.dadd (FP.dadd (FP.dadd (FP.dadd (FP.i2d p0) (FP.dmul (FP.i2d x0) (FP.i2d y0))) (FP.dmul (FP.i2d x1) (FP.i2d y1))) (FP.dmul (FP.i2d x2) (FP.i2d y2))) (FP.dmul (FP.i2d x3) (FP.i2d y3)))), .second, .val (.double (FP.dadd (FP.dadd (FP.dadd (FP.dadd (FP.i2d p0) (FP.dmul (FP.i2d x0) (FP.i2d y0))) (FP.dmul (FP.i2d x1) (FP.i2d y1))) (FP.dmul (FP.i2d x2) (FP.i2d y2))) (FP.dmul (FP.i2d x3) (FP.i2d y3)))), .second, .val (.int (1 : Int32))] [(.int (1 : Int32))])) _
    refine XS.goto X58.here hx rfl (pc0 := 232) (pc' := 236) rfl (hb hby at_232) (by decide) (by decide) ?_
    exact k
  obtain ⟨fs, hr, hrun, hended, hW, hsame⟩ := X58.leave (v := some (.int (1 : Int32))) (fun h => by rw [Bd.returns] at h; cases h)
  refine ⟨_, _, a68 _ ?_, hrun, hended, _, _, rfl, ?_, ⟨_, rfl⟩, hW, hsame.mono (by decide) (by decide)⟩
  · show Steps p.tables e below (T58.setTop (mkF m 236 #[.val (.int p0), .val (.int p1), .val (.int p2), .val (.int p3), .val (.int p4), .val (.double (FP.i2d x0)), .second, .val (.double (FP.i2d x1)), .second, .val (.double (FP.i2d x2)), .second, .val (.double (FP.i2d x3)), .second, .val (.double (FP.i2d y0)), .second, .val (.double (FP.i2d y1)), .second, .val (.double (FP.i2d y2)), .second, .val (.double (FP.i2d y3)), .second, .val (.double (FP.i2d p0)), .second, .val (.ref b10), .val (.ref b28), .val (.double (FP.dadd (FP.dadd (FP.dadd (FP.dadd (FP.i2d p0) (FP.dmul (FP.i2d x0) (FP.i2d y0))) (FP.dmul (FP.i2d x1) (FP.i2d y1))) (FP.dmul (FP.i2d x2) (FP.i2d y2))) (FP.dmul (FP.i2d x3) (FP.i2d y3)))), .second, .val (.double (FP.dadd (FP.dadd (FP.dadd (FP.dadd (FP.i2d p0) (FP.dmul (FP.i2d x0) (FP.i2d y0))) (FP.dmul (FP.i2d x1) (FP.i2d y1))) (FP.dmul (FP.i2d x2) (FP.i2d y2))) (FP.dmul (FP.i2d x3) (FP.i2d y3)))), .second, .val (.int (1 : Int32))] [(.int (1 : Int32))])) _
    exact retN X58 hx (t := .boolean) Bd.returns (by simp) (hb hby at_236) hr
  · show Q0 Z p0 p1 p2 p3 p4 w_CAPACITY w_DURATION w_TIME_WINDOWS w_FLEET h0 n0 _ T58.heap _
    rw [e58q]
    exact ⟨rfl, N58⟩
set_option maxRecDepth 65536 in
set_option maxHeartbeats 40000000 in
theorem comes_1 {Post : Tables → Env → Array Value → State → Outcome → State → Prop} (hpost : ∀ tb e args s v u, (limb_1_1.after args s (.returned v) u = true ∧ limb_1_2.after args s (.returned v) u = true ∧ True) → FrameEnd s (.returned v) u (Jvm.fieldLocs frame_1_writes args s ++ Jvm.arrayLocs frame_1_arrays args s ++ Jvm.staticLocs frame_1_statics s) 16 128 → Post tb e args s (.returned v) u) :
    ArmFor flags0 classFile x code maxLocals ret World_1 tables_1 room_1 Calls_1 rest_1 Pre_1 Post := by
  intro l hfl _ _ p e ha hc hk s m args below hf hA hF happ hP
  obtain ⟨hcalls, hrest, hpre⟩ := hP
  obtain ⟨-, -, -, hnamed, -, -, -, hat⟩ := (Spec.applies_iff hf).mp happ
  obtain ⟨hg, hn⟩ := and_e (Cond.before_iff.mp (show (Jvm.Cond.and given_1 narrow_1).before args s = true from hpre))
  obtain ⟨g1, g2⟩ := and_e hg
  obtain ⟨g3, g4⟩ := and_e g2
  obtain ⟨g5, g6⟩ := and_e g4
  obtain ⟨g7, g8⟩ := and_e g6
  obtain ⟨g9, g10⟩ := and_e g8
  obtain ⟨g11, g12⟩ := and_e hn
  obtain ⟨g13, g14⟩ := and_e g12
  obtain ⟨g15, g16⟩ := and_e g14
  obtain ⟨g17, g18⟩ := and_e g16
  obtain ⟨g19, g20⟩ := and_e g18
  obtain ⟨g21, g22⟩ := and_e g20
  obtain ⟨g23, g24⟩ := and_e g22
  obtain ⟨g25, g26⟩ := and_e g24
  obtain ⟨w0, w1, w2, w3, w4, rfl⟩ : ∃ w0 w1 w2 w3 w4 : Value, args = #[w0, w1, w2, w3, w4] := by
    have hs : args.size = 5 := by simpa [Cond.value, given_1] using g1
    obtain ⟨L⟩ := args
    match L, hs with
    | [w0, w1, w2, w3, w4], _ => exact ⟨w0, w1, w2, w3, w4, rfl⟩
  have hw := fun d (hd : d ∈ tables_1) => atoms_spec (ws := Jvm.Cond.code x code maxLocals ret :: tables_1) hat d (List.mem_cons_of_mem _ hd)
  have hfit : Fit s := fun {y c} hc i hi => by
    obtain ⟨ha, rfl⟩ := Array.getElem?_eq_some_iff.mp hc
    have q := List.all_eq_true.mp ((Array.all_eq_true_iff_forall_mem.mp hF) _ (Array.getElem_mem ha)) i (List.mem_range.mpr hi)
    simpa [Array.getElem?_eq_getElem hi] using q
  obtain ⟨i0, ei0⟩ := is_v g3
  obtain rfl : w0 = (.int i0) := Option.some.inj ei0
  obtain ⟨i1, ei1⟩ := is_v g5
  obtain rfl : w1 = (.int i1) := Option.some.inj ei1
  obtain ⟨i2, ei2⟩ := is_v g7
  obtain rfl : w2 = (.int i2) := Option.some.inj ei2
  obtain ⟨i3, ei3⟩ := is_v g9
  obtain rfl : w3 = (.int i3) := Option.some.inj ei3
  obtain ⟨i4, ei4⟩ := is_v g10
  obtain rfl : w4 = (.int i4) := Option.some.inj ei4
  have S_RULES := Sta.start (eqS_int g11) (Or.inr ⟨(hw _ (List.mem_of_getElem? (i := 3) rfl)), (hw _ (List.mem_of_getElem? (i := 11) rfl))⟩)
  obtain ⟨w_CAPACITY, ev_CAPACITY⟩ := exa_v g13
  have S_CAPACITY := Sta.start ev_CAPACITY (Or.inr ⟨(hw _ (List.mem_of_getElem? (i := 15) rfl)), (hw _ (List.mem_of_getElem? (i := 16) rfl))⟩)
  have X_CAPACITY := Exa.start ev_CAPACITY g13
  have F_CAPACITY_ordinal := eqF_int ev_CAPACITY g15
  obtain ⟨w_DURATION, ev_DURATION⟩ := exa_v g17
  have S_DURATION := Sta.start ev_DURATION (Or.inr ⟨(hw _ (List.mem_of_getElem? (i := 15) rfl)), (hw _ (List.mem_of_getElem? (i := 32) rfl))⟩)
  have X_DURATION := Exa.start ev_DURATION g17
  have F_DURATION_ordinal := eqF_int ev_DURATION g19
  obtain ⟨w_TIME_WINDOWS, ev_TIME_WINDOWS⟩ := exa_v g21
  have S_TIME_WINDOWS := Sta.start ev_TIME_WINDOWS (Or.inr ⟨(hw _ (List.mem_of_getElem? (i := 15) rfl)), (hw _ (List.mem_of_getElem? (i := 34) rfl))⟩)
  have X_TIME_WINDOWS := Exa.start ev_TIME_WINDOWS g21
  have F_TIME_WINDOWS_ordinal := eqF_int ev_TIME_WINDOWS g23
  obtain ⟨w_FLEET, ev_FLEET⟩ := exa_v g25
  have S_FLEET := Sta.start ev_FLEET (Or.inr ⟨(hw _ (List.mem_of_getElem? (i := 15) rfl)), (hw _ (List.mem_of_getElem? (i := 36) rfl))⟩)
  have X_FLEET := Exa.start ev_FLEET g25
  have F_FLEET_ordinal := eqF_int ev_FLEET g26
  obtain ⟨n, o, h1, h2, h3, _, L, rfl, ⟨rfl, N⟩, hq⟩ := rm0 l s _ hw tables_1 i0 i1 i2 i3 i4 w_CAPACITY w_DURATION w_TIME_WINDOWS w_FLEET s.heap s.heap.size (Nat.le_refl _) S_RULES S_CAPACITY X_CAPACITY F_CAPACITY_ordinal S_DURATION X_DURATION F_DURATION_ordinal S_TIME_WINDOWS X_TIME_WINDOWS F_TIME_WINDOWS_ordinal S_FLEET X_FLEET F_FLEET_ordinal p e ha hc hk s m _ below hf ((Spec.applies_iff_loose hf).mp happ).1 ⟨rfl, State.Warmed39.refl s, rfl⟩ trivial
  refine ⟨n, _, h1, h2, h3, hpost _ _ _ _ _ _ ⟨Cond.after_iff.mpr rfl, Cond.after_iff.mpr (eq_i res_at (Term.int_eval (1)) rfl), trivial⟩ ⟨hq.1, hq.2.1, (hq.2.2.sift fun y hy => Or.inr (N y hy)).mono (by decide) (by decide)⟩⟩
theorem main_1_1 : Claimed_1_1 := comes_1 fun _ _ _ _ _ _ h hF => ⟨h.1, hF⟩
theorem main_1_2 : Claimed_1_2 := comes_1 fun _ _ _ _ _ _ h hF => ⟨h.2.1, hF⟩
end Jvm.Pilot.@@N@@
namespace Jvm.Pilot.@@N@@
open Jvm Jvm.ClassFile Sem Op Lib Jvm.Free Jvm.Stand Jvm.Pilot.@@N@@.Jvm.D
/-! MADE BY PROGRAM (witnessworld.py) out of the Statement's table words and the real class files: 15 classes; the members and pool entries that the words name. The judged class is class 1, her method 1. -/
namespace start1
open Jvm.ClassFile
def u (s : String) : CpInfo := .utf8 (stringToUtf16 s)
/-- a pool by its gaps: so many unusable entries, then the entry; so many at the end -/
def gap : Nat → List CpInfo → List CpInfo
  | 0, r => r
  | n + 1, r => .unusable :: gap n r
def poolList (es : List (Nat × CpInfo)) (last : Nat) : List CpInfo := es.foldr (fun e r => gap e.1 (e.2 :: r)) (gap last [])
def pool (es : List (Nat × CpInfo)) (last : Nat) : Array CpInfo := ⟨poolList es last⟩
def fileOf (pool : Array CpInfo) (this : Nat) (attrs : Array Attribute := #[]) (ms : Array MethodInfo := #[]) (fl : Nat := 33) (sup : Nat := 0) (ifs : Array Nat := #[]) (fds : Array FieldInfo := #[]) : ClassFile where
  minorVersion := 0
  majorVersion := 65
  constantPool := pool
  accessFlags := fl
  thisClass := this
  superClass := sup
  interfaces := ifs
  fields := fds
  methods := ms
  attributes := attrs
def plain (name : String) (sup : Option ClassId) : Class where
  name := name
  kind := .ordinary
  loader := none
  accessFlags := 33
  super := sup
  interfaces := #[]
  cf := none
  fields := #[]
  methods := #[]
  instanceTypes := #[]
  staticTypes := #[]
  resolved := #[]
  callSites := []
  init := .initialized
  statics := none
  mirror := none

def pool0 : Array CpInfo := pool [(5, u "<init>"), (0, u "()V"), (1, .class_ 10), (1, u "java/lang/Object")] 113

def k0c0 : Code := { maxStack := 0, maxLocals := 1, code := object_method_1_code, exceptionTable := #[], attributes := #[] }
def k0m0 : Method := { name := "<init>", desc := "()V", sig := { parameters := [], returnType := none }, accessFlags := 1, code := some k0c0 }
/-- java/lang/Object -/
def k0 : Class := { plain "java/lang/Object" none with
  accessFlags := 33
  interfaces := #[]
  cf := some (fileOf pool0 8 #[] #[{ accessFlags := 1, nameIndex := 5, descriptorIndex := 6, attributes := #[] }] 33 0 #[] #[])
  fields := #[]
  methods := #[k0m0]
  instanceTypes := #[]
  staticTypes := #[]
  resolved := Array.replicate 124 none
  statics := none }

def pool1 : Array CpInfo := pool [(2, .class_ 4), (0, .nameAndType 5 6), (0, u "java/lang/Object"), (0, u "<init>"), (0, u "()V"), (0, .class_ 8), (0, u "com/example/tabuvia/tabuvia/engine/Excess"), (0, .methodref 7 3), (0, .fieldref 11 12), (0, .class_ 13), (0, .nameAndType 14 15), (0, u "com/example/tabuvia/tabuvia/engine/Rule"), (0, u "CAPACITY"), (0, u "Lcom/example/tabuvia/tabuvia/engine/Rule;"), (0, .methodref 7 17), (0, .nameAndType 18 19), (0, u "set"), (0, u "(Lcom/example/tabuvia/tabuvia/engine/Rule;D)V"), (0, .fieldref 11 21), (0, .nameAndType 22 15), (0, u "DURATION"), (0, .fieldref 11 24), (0, .nameAndType 25 15), (0, u "TIME_WINDOWS"), (0, .fieldref 11 27), (0, .nameAndType 28 15), (0, u "FLEET"), (0, .methodref 7 30), (0, .nameAndType 31 32), (0, u "weighted"), (0, u "(D[D)D"), (0, .class_ 34), (0, u "com/example/tabuvia/tabuvia/engine/ExcessWeighted349PinLaw"), (2, u "law"), (0, u "(IIIII)Z")] 5

def k1m0 : Method := { name := "<init>", desc := "()V", sig := { parameters := [], returnType := none }, accessFlags := 1, code := none }
def k1c1 : Code := { maxStack := 6, maxLocals := 30, code := code, exceptionTable := #[], attributes := #[] }
def k1m1 : Method := { name := "law", desc := "(IIIII)Z", sig := { parameters := [.int, .int, .int, .int, .int], returnType := some .boolean }, accessFlags := 9, code := some k1c1 }
/-- com/example/tabuvia/tabuvia/engine/ExcessWeighted349PinLaw -/
def k1 : Class := { plain "com/example/tabuvia/tabuvia/engine/ExcessWeighted349PinLaw" (some 0) with
  accessFlags := 49
  interfaces := #[]
  cf := some (fileOf pool1 33 #[] #[{ accessFlags := 1, nameIndex := 5, descriptorIndex := 6, attributes := #[] }, { accessFlags := 9, nameIndex := 37, descriptorIndex := 38, attributes := #[] }] 49 2 #[] #[])
  fields := #[]
  methods := #[k1m0, k1m1]
  instanceTypes := #[]
  staticTypes := #[]
  resolved := Array.replicate 44 none
  statics := none }

def pool2 : Array CpInfo := pool [(1, .methodref 2 3), (0, .class_ 4), (0, .nameAndType 5 6), (0, u "java/lang/Object"), (0, u "<init>"), (0, u "()V"), (0, .fieldref 8 9), (0, .class_ 10), (0, .nameAndType 11 12), (0, u "com/example/tabuvia/tabuvia/engine/Excess"), (0, u "RULES"), (0, u "I"), (0, .fieldref 8 14), (0, .nameAndType 15 16), (0, u "amounts"), (0, u "[D"), (0, .methodref 18 19), (0, .class_ 20), (0, .nameAndType 21 22), (0, u "com/example/tabuvia/tabuvia/engine/Rule"), (0, u "ordinal"), (0, u "()I"), (14, u "set"), (0, u "(Lcom/example/tabuvia/tabuvia/engine/Rule;D)V"), (9, u "weighted"), (0, u "(D[D)D")] 7

def k2c0 : Code := { maxStack := 2, maxLocals := 1, code := prog_2_method_1_code, exceptionTable := #[], attributes := #[] }
def k2m0 : Method := { name := "<init>", desc := "()V", sig := { parameters := [], returnType := none }, accessFlags := 0, code := some k2c0 }
def k2c1 : Code := { maxStack := 4, maxLocals := 4, code := prog_2_method_3_code, exceptionTable := #[], attributes := #[] }
def k2m1 : Method := { name := "set", desc := "(Lcom/example/tabuvia/tabuvia/engine/Rule;D)V", sig := { parameters := [(.object "com/example/tabuvia/tabuvia/engine/Rule"), .double], returnType := none }, accessFlags := 0, code := some k2c1 }
def k2c2 : Code := { maxStack := 6, maxLocals := 7, code := prog_2_method_11_code, exceptionTable := #[], attributes := #[] }
def k2m2 : Method := { name := "weighted", desc := "(D[D)D", sig := { parameters := [.double, (.array .double)], returnType := some .double }, accessFlags := 0, code := some k2c2 }
/-- com/example/tabuvia/tabuvia/engine/Excess -/
def k2 : Class := { plain "com/example/tabuvia/tabuvia/engine/Excess" (some 0) with
  accessFlags := 48
  interfaces := #[]
  cf := some (fileOf pool2 8 #[] #[{ accessFlags := 0, nameIndex := 5, descriptorIndex := 6, attributes := #[] }, { accessFlags := 0, nameIndex := 37, descriptorIndex := 38, attributes := #[] }, { accessFlags := 0, nameIndex := 48, descriptorIndex := 49, attributes := #[] }] 48 2 #[] #[{ accessFlags := 26, nameIndex := 11, descriptorIndex := 12, attributes := #[] }, { accessFlags := 18, nameIndex := 15, descriptorIndex := 16, attributes := #[] }])
  fields := #[{ name := "RULES", type := .int, accessFlags := 26, slot := 0, constantValue := 0 }, { name := "amounts", type := (.array .double), accessFlags := 18, slot := 0, constantValue := 0 }]
  methods := #[k2m0, k2m1, k2m2]
  instanceTypes := #[(.array .double)]
  staticTypes := #[.int]
  resolved := Array.replicate 57 none
  statics := some 0 }

def pool3 : Array CpInfo := pool [(1, .class_ 2), (0, u "java/lang/constant/Constable"), (0, .class_ 4), (0, u "java/lang/Object")] 6

/-- java/lang/constant/Constable -/
def k3 : Class := { plain "java/lang/constant/Constable" (some 0) with
  accessFlags := 1537
  interfaces := #[]
  cf := some (fileOf pool3 1 #[] #[] 1537 3 #[] #[])
  fields := #[]
  methods := #[]
  instanceTypes := #[]
  staticTypes := #[]
  resolved := Array.replicate 11 none
  statics := none }

def pool4 : Array CpInfo := pool [(1, .class_ 2), (0, u "java/lang/Comparable"), (0, .class_ 4), (0, u "java/lang/Object")] 7

/-- java/lang/Comparable -/
def k4 : Class := { plain "java/lang/Comparable" (some 0) with
  accessFlags := 1537
  interfaces := #[]
  cf := some (fileOf pool4 1 #[] #[] 1537 3 #[] #[])
  fields := #[]
  methods := #[]
  instanceTypes := #[]
  staticTypes := #[]
  resolved := Array.replicate 12 none
  statics := none }

def pool5 : Array CpInfo := pool [(1, .class_ 2), (0, u "java/io/Serializable"), (0, .class_ 4), (0, u "java/lang/Object")] 2

/-- java/io/Serializable -/
def k5 : Class := { plain "java/io/Serializable" (some 0) with
  accessFlags := 1537
  interfaces := #[]
  cf := some (fileOf pool5 1 #[] #[] 1537 3 #[] #[])
  fields := #[]
  methods := #[]
  instanceTypes := #[]
  staticTypes := #[]
  resolved := Array.replicate 7 none
  statics := none }

def pool6 : Array CpInfo := pool [(2, .class_ 4), (1, u "java/lang/Enum"), (0, u "name"), (0, u "Ljava/lang/String;"), (0, .fieldref 2 8), (0, .nameAndType 9 10), (0, u "ordinal"), (0, u "I"), (1, .class_ 14), (1, u "java/lang/Object"), (4, u "hash"), (86, .class_ 108), (1, u "java/lang/Enum$EnumDesc"), (2, .class_ 112), (0, u "java/lang/constant/Constable"), (0, .class_ 114), (0, u "java/lang/Comparable"), (0, .class_ 116), (0, u "java/io/Serializable"), (9, u "()I")] 77

def k6c0 : Code := { maxStack := 1, maxLocals := 1, code := jdk_37_method_2_code, exceptionTable := #[], attributes := #[] }
def k6m0 : Method := { name := "ordinal", desc := "()I", sig := { parameters := [], returnType := some .int }, accessFlags := 17, code := some k6c0 }
/-- java/lang/Enum -/
def k6 : Class := { plain "java/lang/Enum" (some 0) with
  accessFlags := 1057
  interfaces := #[3, 4, 5]
  cf := some (fileOf pool6 2 #[.nestMembers #[106]] #[{ accessFlags := 17, nameIndex := 9, descriptorIndex := 126, attributes := #[] }] 1057 12 #[111, 113, 115] #[{ accessFlags := 18, nameIndex := 5, descriptorIndex := 6, attributes := #[] }, { accessFlags := 18, nameIndex := 9, descriptorIndex := 10, attributes := #[] }, { accessFlags := 2, nameIndex := 19, descriptorIndex := 10, attributes := #[] }])
  fields := #[{ name := "name", type := (.object "java/lang/String"), accessFlags := 18, slot := 0, constantValue := 0 }, { name := "ordinal", type := .int, accessFlags := 18, slot := 1, constantValue := 0 }, { name := "hash", type := .int, accessFlags := 2, slot := 2, constantValue := 0 }]
  methods := #[k6m0]
  instanceTypes := #[(.object "java/lang/String"), .int, .int]
  staticTypes := #[]
  resolved := Array.replicate 204 none
  statics := none }

def pool7 : Array CpInfo := pool [(1, .class_ 2), (0, u "com/example/tabuvia/tabuvia/engine/Rule"), (2, u "CAPACITY"), (0, u "Lcom/example/tabuvia/tabuvia/engine/Rule;"), (2, u "DURATION"), (2, u "TIME_WINDOWS"), (2, u "FLEET"), (2, u "$VALUES"), (0, u "[Lcom/example/tabuvia/tabuvia/engine/Rule;"), (6, .class_ 28), (1, u "java/lang/Enum"), (20, u "ALL")] 10

/-- com/example/tabuvia/tabuvia/engine/Rule -/
def k7 : Class := { plain "com/example/tabuvia/tabuvia/engine/Rule" (some 6) with
  accessFlags := 16432
  interfaces := #[]
  cf := some (fileOf pool7 1 #[] #[] 16432 26 #[] #[{ accessFlags := 16409, nameIndex := 5, descriptorIndex := 6, attributes := #[] }, { accessFlags := 16409, nameIndex := 9, descriptorIndex := 6, attributes := #[] }, { accessFlags := 16409, nameIndex := 12, descriptorIndex := 6, attributes := #[] }, { accessFlags := 16409, nameIndex := 15, descriptorIndex := 6, attributes := #[] }, { accessFlags := 24, nameIndex := 49, descriptorIndex := 19, attributes := #[] }, { accessFlags := 4122, nameIndex := 18, descriptorIndex := 19, attributes := #[] }])
  fields := #[{ name := "CAPACITY", type := (.object "com/example/tabuvia/tabuvia/engine/Rule"), accessFlags := 16409, slot := 0, constantValue := 0 }, { name := "DURATION", type := (.object "com/example/tabuvia/tabuvia/engine/Rule"), accessFlags := 16409, slot := 1, constantValue := 0 }, { name := "TIME_WINDOWS", type := (.object "com/example/tabuvia/tabuvia/engine/Rule"), accessFlags := 16409, slot := 2, constantValue := 0 }, { name := "FLEET", type := (.object "com/example/tabuvia/tabuvia/engine/Rule"), accessFlags := 16409, slot := 3, constantValue := 0 }, { name := "ALL", type := (.array (.object "com/example/tabuvia/tabuvia/engine/Rule")), accessFlags := 24, slot := 4, constantValue := 0 }, { name := "$VALUES", type := (.array (.object "com/example/tabuvia/tabuvia/engine/Rule")), accessFlags := 4122, slot := 5, constantValue := 0 }]
  methods := #[]
  instanceTypes := #[(.object "java/lang/String"), .int, .int]
  staticTypes := #[(.object "com/example/tabuvia/tabuvia/engine/Rule"), (.object "com/example/tabuvia/tabuvia/engine/Rule"), (.object "com/example/tabuvia/tabuvia/engine/Rule"), (.object "com/example/tabuvia/tabuvia/engine/Rule"), (.array (.object "com/example/tabuvia/tabuvia/engine/Rule")), (.array (.object "com/example/tabuvia/tabuvia/engine/Rule"))]
  resolved := Array.replicate 60 none
  statics := some 1 }

def pool8 : Array CpInfo := pool [(1, u "java/lang/Cloneable"), (0, .class_ 1), (0, u "java/lang/Object"), (0, .class_ 3)] 3

/-- java/lang/Cloneable -/
def k8 : Class := { plain "java/lang/Cloneable" (some 0) with
  accessFlags := 1537
  interfaces := #[]
  cf := some (fileOf pool8 2 #[] #[] 1537 4 #[] #[])
  fields := #[]
  methods := #[]
  instanceTypes := #[]
  staticTypes := #[]
  resolved := Array.replicate 8 none
  statics := none }

/-- the primitive byte -/
def k9 : Class := { plain "byte" none with kind := .primitive 'B', accessFlags := 0x411 }
/-- [B -/
def k10 : Class := { plain "[B" (some 0) with kind := .array 9 .byte, interfaces := #[8, 5], accessFlags := 1041 }

/-- the primitive double -/
def k11 : Class := { plain "double" none with kind := .primitive 'D', accessFlags := 0x411 }
/-- [D -/
def k12 : Class := { plain "[D" (some 0) with kind := .array 11 .double, interfaces := #[8, 5], accessFlags := 1041 }

/-- the primitive int -/
def k13 : Class := { plain "int" none with kind := .primitive 'I', accessFlags := 0x411 }
/-- [I -/
def k14 : Class := { plain "[I" (some 0) with kind := .array 13 .int, interfaces := #[8, 5], accessFlags := 1041 }

def heap : Heap := #[{ cls := 2, slots := #[.int 4], vm := .statics 2 },
  { cls := 7, slots := #[.ref 2, .ref 3, .ref 4, .ref 5, .null, .null], vm := .statics 7 },
  { cls := 7, slots := #[.null, .int 0, .int 0], vm := .none },
  { cls := 7, slots := #[.null, .int 1, .int 0], vm := .none },
  { cls := 7, slots := #[.null, .int 2, .int 0], vm := .none },
  { cls := 7, slots := #[.null, .int 3, .int 0], vm := .none }]
def classes : Array Class := #[k0, k1, k2, k3, k4, k5, k6, k7, k8, k9, k10, k11, k12, k13, k14]
def interned : List (Array UInt16 × Addr) := []
def slotsUsed : Nat := 19
def theMethod : MethodId := ⟨1, 1⟩
def args0 : Array Value := #[.int 7, .int 5, .int 1, .int 2, .int 3]
def aboutOver (below : List Frame) : State where
  vm := { classes := classes, interned := interned.toArray }
  heap := heap
  slotsUsed := slotsUsed
  threads := #[{ frames := .invoking theMethod args0 :: below }]
def below0 : List Frame := [.native { method := ⟨0, 0⟩, args := #[] }]
def about1 : State := aboutOver below0
def p0 : Program := .bare "" "" ""
def e0 : Env := launch0.env 0 0 0
theorem w_frames : about1.frames = Frame.invoking theMethod args0 :: below0 := rfl
set_option maxRecDepth 65536 in
theorem w_args : argsFit about1.vm theMethod args0 = true := by decide +kernel
set_option maxRecDepth 65536 in
theorem w_heap : heapFits about1 = true := by decide +kernel
set_option maxRecDepth 65536 in
theorem w_runnable : about1.curStatus? = some .runnable := by decide +kernel
set_option maxRecDepth 65536 in
theorem w_alone : about1.alone = true := by decide +kernel
set_option maxRecDepth 65536 in
theorem w_named : about1.methodNamed? x = some theMethod := by decide +kernel
set_option maxRecDepth 65536 in
theorem w_hears : about1.hears theMethod below0 = true := by decide +kernel
set_option maxRecDepth 65536 in
theorem w_ripe : about1.ripe theMethod args0 below0 = true := by decide +kernel
theorem w_running : about1.status = .running := rfl
set_option maxRecDepth 65536 in
theorem w_room : about1.hasRoom e0.platform room_1 = true :=
  launch0.hasRoom_least _ room_1 (by decide +kernel) (by decide +kernel) (by decide +kernel) (by decide +kernel) (by decide +kernel) (by decide +kernel)
theorem allAtoms_all (ts : List Jvm.Cond) (a : Array Jvm.Value) (st : Jvm.State) : (allAtoms ts).before a st = ts.all (fun c => c.before a st) := by
  induction ts with
  | nil => rfl
  | cons c t ih =>
    show (Jvm.Cond.and c (allAtoms t)).before a st = _
    rw [Jvm.Cond.before_and, ih, List.all_cons]
def words1 : List Jvm.Cond := Jvm.Cond.code x code maxLocals ret :: tables_1
/-- a 'code' word, met by the world's own term for the bytes: nothing is compared byte by byte -/
theorem code_word {y : MethodName} {bytes : ByteArray} {mx : Nat} {rt : Option FieldType} {a : Array Value} {s : State} {m : MethodId} {meth : Method} {c : Code} (h1 : s.methodNamed? y = some m) (h2 : s.vm.method? m = some meth) (h3 : meth.code = some c) (h4 : c.code = bytes)
    (h5 : (c.maxLocals == mx && c.exceptionTable.isEmpty && decide (c.maxStack ≤ mostOperands) && decide (meth.sig.returnType = rt) && !meth.locks && decide (parseMethodDescriptor y.desc = some meth.sig)) = true) : (Jvm.Cond.code y bytes mx rt).before a s = true := by
  simp only [Bool.and_eq_true, beq_iff_eq, Bool.not_eq_true', decide_eq_true_eq] at h5
  obtain ⟨⟨⟨⟨⟨g1, g2⟩, g3⟩, g4⟩, g5⟩, g6⟩ := h5
  simp [Cond.before, Cond.holds, Cond.value, h1, h2, h3, h4, g1, g2, g3, g4, g5, g6]
def isCode : Jvm.Cond → Bool
  | .code _ _ _ _ => true
  | _ => false
theorem all_split {L : List Jvm.Cond} {P : Jvm.Cond → Bool} (h1 : L.all (fun c => isCode c || P c) = true) (h2 : ∀ c ∈ L.filter isCode, P c = true) : L.all P = true := by
  refine List.all_eq_true.mpr fun c hc => ?_
  have h := List.all_eq_true.mp h1 c hc
  rcases Bool.eq_false_or_eq_true (isCode c) with hi | hi
  · exact h2 c (List.mem_filter.mpr ⟨hc, hi⟩)
  · simpa [hi] using h
set_option maxRecDepth 65536 in
theorem w_c0 : (Jvm.Cond.code x code maxLocals ret).before args0 about1 = true := code_word (m := ⟨1, 1⟩) (meth := k1m1) (c := k1c1) (by decide +kernel) rfl rfl rfl (by decide +kernel)
set_option maxRecDepth 65536 in
theorem w_c1 : (Jvm.Cond.code ({ cls := "com/example/tabuvia/tabuvia/engine/Excess", name := "<init>", desc := "()V" } : Jvm.MethodName) prog_2_method_1_code (1 : Nat) (Option.none : Option Jvm.ClassFile.FieldType)).before args0 about1 = true := code_word (m := ⟨2, 0⟩) (meth := k2m0) (c := k2c0) (by decide +kernel) rfl rfl rfl (by decide +kernel)
set_option maxRecDepth 65536 in
theorem w_c2 : (Jvm.Cond.code ({ cls := "java/lang/Object", name := "<init>", desc := "()V" } : Jvm.MethodName) object_method_1_code (1 : Nat) (Option.none : Option Jvm.ClassFile.FieldType)).before args0 about1 = true := code_word (m := ⟨0, 0⟩) (meth := k0m0) (c := k0c0) (by decide +kernel) rfl rfl rfl (by decide +kernel)
set_option maxRecDepth 65536 in
theorem w_c3 : (Jvm.Cond.code ({ cls := "com/example/tabuvia/tabuvia/engine/Excess", name := "set", desc := "(Lcom/example/tabuvia/tabuvia/engine/Rule;D)V" } : Jvm.MethodName) prog_2_method_3_code (4 : Nat) (Option.none : Option Jvm.ClassFile.FieldType)).before args0 about1 = true := code_word (m := ⟨2, 1⟩) (meth := k2m1) (c := k2c1) (by decide +kernel) rfl rfl rfl (by decide +kernel)
set_option maxRecDepth 65536 in
theorem w_c4 : (Jvm.Cond.code ({ cls := "java/lang/Enum", name := "ordinal", desc := "()I" } : Jvm.MethodName) jdk_37_method_2_code (1 : Nat) (Option.some Jvm.ClassFile.FieldType.int)).before args0 about1 = true := code_word (m := ⟨6, 0⟩) (meth := k6m0) (c := k6c0) (by decide +kernel) rfl rfl rfl (by decide +kernel)
set_option maxRecDepth 65536 in
theorem w_c5 : (Jvm.Cond.code ({ cls := "com/example/tabuvia/tabuvia/engine/Excess", name := "weighted", desc := "(D[D)D" } : Jvm.MethodName) prog_2_method_11_code (7 : Nat) (Option.some Jvm.ClassFile.FieldType.double)).before args0 about1 = true := code_word (m := ⟨2, 2⟩) (meth := k2m2) (c := k2c2) (by decide +kernel) rfl rfl rfl (by decide +kernel)
def codes1 : List Jvm.Cond := [Jvm.Cond.code x code maxLocals ret, Jvm.Cond.code ({ cls := "com/example/tabuvia/tabuvia/engine/Excess", name := "<init>", desc := "()V" } : Jvm.MethodName) prog_2_method_1_code (1 : Nat) (Option.none : Option Jvm.ClassFile.FieldType), Jvm.Cond.code ({ cls := "java/lang/Object", name := "<init>", desc := "()V" } : Jvm.MethodName) object_method_1_code (1 : Nat) (Option.none : Option Jvm.ClassFile.FieldType), Jvm.Cond.code ({ cls := "com/example/tabuvia/tabuvia/engine/Excess", name := "set", desc := "(Lcom/example/tabuvia/tabuvia/engine/Rule;D)V" } : Jvm.MethodName) prog_2_method_3_code (4 : Nat) (Option.none : Option Jvm.ClassFile.FieldType), Jvm.Cond.code ({ cls := "java/lang/Enum", name := "ordinal", desc := "()I" } : Jvm.MethodName) jdk_37_method_2_code (1 : Nat) (Option.some Jvm.ClassFile.FieldType.int), Jvm.Cond.code ({ cls := "com/example/tabuvia/tabuvia/engine/Excess", name := "weighted", desc := "(D[D)D" } : Jvm.MethodName) prog_2_method_11_code (7 : Nat) (Option.some Jvm.ClassFile.FieldType.double)]
set_option maxRecDepth 65536 in
theorem codes_eq : words1.filter isCode = codes1 := rfl
theorem w_codes : ∀ c ∈ words1.filter isCode, c.before args0 about1 = true := by
  rw [codes_eq]
  intro c hc
  simp only [codes1, List.mem_cons, List.not_mem_nil, or_false] at hc
  rcases hc with rfl | rfl | rfl | rfl | rfl | rfl
  · exact w_c0
  · exact w_c1
  · exact w_c2
  · exact w_c3
  · exact w_c4
  · exact w_c5
set_option maxRecDepth 65536 in
theorem w_t1 : (words1.take 24).all (fun c => isCode c || c.before args0 about1) = true := by decide +kernel
set_option maxRecDepth 65536 in
theorem w_t2 : (words1.drop 24).all (fun c => isCode c || c.before args0 about1) = true := by decide +kernel
theorem w_tables : (allAtoms (Jvm.Cond.code x code maxLocals ret :: tables_1)).before args0 about1 = true := by
  rw [allAtoms_all]
  show words1.all (fun c => c.before args0 about1) = true
  refine all_split ?_ w_codes
  rw [← List.take_append_drop 24 words1, List.all_append, w_t1, w_t2]
  rfl
set_option maxRecDepth 65536 in
theorem w_case : (Jvm.Cond.and given_1 narrow_1).before args0 about1 = true := by decide +kernel
theorem w_applies : (headSpec (Jvm.Cond.code x code maxLocals ret :: tables_1) room_1).applies x e0.platform about1 = true :=
  (Spec.applies_iff w_frames).mpr ⟨w_running, w_runnable, w_alone, w_named, w_hears, w_ripe, w_room, w_tables⟩
theorem atStart : AtStart classFile x code maxLocals ret World_1 tables_1 room_1 Calls_1 rest_1 Pre_1 launch0 p0 e0 about1 theMethod args0 below0 :=
  ⟨lists_1, trivial, launch0.admits_env _ _ _, launch0.least_env, fairChoices_fair.cas, fairChoices_fair.clock, w_frames, w_args, w_heap, w_applies, trivial, trivial, w_case⟩
end start1
theorem witness_1 : WitnessClaimed_1 := ⟨start1.p0, start1.e0, start1.about1, start1.theMethod, start1.args0, start1.below0, start1.atStart⟩
end Jvm.Pilot.@@N@@
